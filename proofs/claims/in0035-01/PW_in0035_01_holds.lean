import PyProof.Rows.All
import Wide.All
import OpenK.AllK
import Wide.FinOn
import KE.KFromBytes
import KE.KParC
import KE.KDictOf
import PyProof.StrWalks
import PyProof.IsiStr
import PyProof.Rows.CatchStr
import PyProof.NsDelKeeps
import PyProof.ExcStrAll.ValueError
import PyProof.ExcAttrAll.ValueError
import KE.KEqSeq
import KE.KDictAnyGet
import Lean
import PySem.Challenge.RW_in0035_01
set_option maxRecDepth 100000
set_option Elab.async false
set_option genInjectivity false
set_option genSizeOf false
set_option backward.match.sparseCases false
set_option bootstrap.genMatcherCode false
set_option tactic.hygienic false
open PySem renaming Program→cB,Around→cy,Shared→ak,compareOp→kI,sizeLine_eq→dh,backTo→eX,starEach→dI,wpAny_Name→eN,wpAny_loadName_local→fY,wpAny_Constant_str→i0,behindInMarks→jK,wpAny_isTrue_Compare1→lT,Heap→aE,getMethod→ie,wpAny_storeName_local→qN,wpAny_Assign_Name→jJ,wpAny_Return_some→ue,wpAny_execs_nil→fX,wpAny_execs_cons→bS,assignInOrder→lS,wpAny_pure→aA,wpAny_bind→ao,wpAny_holding→iQ,mainGlobals→dc,codeAny→fN,wpAny_mono→fD,NameKind→dU,Params→aD,DictEntry→iZ,Builtin→abb,wpAny_call→gk,typeLookup_type→iP,builtinLookup_eq_fast→iO,isSubtype_type→jH,builtinType_eq_fast→qK,entryFor_of_tree→kF,wpAny_call_entry→qJ,codeAny_builtin→oS,wpAny_of_eq→fW,typeIs_str→lR,Expr→bG,opaqueClassAbove→qg,intKind→mO,sysModules→jQ,cellsFrom→aZ
open Nat renaming le_of_ble_eq_true→oW,lt_succ_of_lt→u9,lt_succ_self→sF,ne_of_lt→dJ,le_refl→bC,le_of_lt→kH,le_trans→cg,ble_eq_true_of_le→c9,le_add_right→ni,cast→gH,le_succ_of_le→n6,zero_le→dz,ne_of_gt→kT,lt_irrefl→iY,lt_trans→jR,le_succ→iX
open List renaming not_mem_nil→eS,mem_append→bu,lookup_cons→bW,map_append→jL,map_cons→eZ,mem_map_of_mem→qP,mem_append_right→aJ,mem_append_left→aH,append_assoc→bB,cons_append→eY,mem_cons→aB,all_cons→fQ,all_eq_true→dH,getD→gn,size_toArray→nj,isEmpty_iff→oV,length_cons→dg,mem_singleton→aY,length_append→aR,length_map→bM,length_nil→iF,drop_length→qf,map_map→fL,mem_map→bZ,append_nil→aK,length_filter_le→kR,range→eU,getElem_mem→nZ,length_singleton→dG,nil_sublist→jP,mem_filter→mL,filter_cons→kQ,mem_range→kP,flatten_cons→jO,length_take→qe,flatten_append→qd
open Option renaming none→mK
open Bool renaming false_ne_true→u7,and_eq_true→aM,false_eq_true→qO
open PySem.Txt renaming contains→aG,item→dW,slice→di
open PySem.Heap renaming SameBut→oX,lt_size→ek,size_push→oR
open PySem.W renaming DatAll→aU,instObj→bI,dictOf→bH,findIn→dS,listOf→fu
open PyProof.Rows renaming MethodCall_→d9,args_cons→fP,Call_Name→gJ,args_nil→ic
open Prod.mk renaming inj→cR
open PySem.Around renaming frames_deeper→ud
open PySem.PyData renaming keyHash→qM,strOk→jN
open PySem.Obj renaming mk→gm
open PySem.Value renaming ref→jI
open PySem.Str renaming ofString→aj,length→dD
open Option.some renaming inj→oU
open PySem.Code renaming quiet_builtin→uc
open PySem.BindsTo renaming of_eq→iN
open PySem.Builtin.Str renaming occurrences→ua
open PySem.W.Dat renaming str→eK
open Eq renaming trans→bU
open PySem.W.KFB renaming if_not→gP
open ForInStep renaming yield→n5
open PyProof.Rows.LCg renaming lst→dX
open List.Sublist renaming refl→jM
open PySem PySem.Calls PyProof.Rows PySem.W
open PySem.Str (ofString)
open List (mem_append_left mem_append_right mem_append mem_singleton mem_cons lookup_cons append_assoc append_nil length_append not_mem_nil length_map length_cons cons_append map_cons length_singleton all_cons flatten_cons mem_map)
namespace Mine
variable {ai:cB}{w:World}{p:cB}{az:List Str}{aL:ExcName->Option Value}{mg mb:Str->Option Value}{A₀:cy}{base:aE}{av:List Env}{A:cy}{env:Env}{s:ak}{d:Nat}{E:Value->ak->Prop}{O:Type}
noncomputable abbrev V:=PySem.W.Dat
noncomputable abbrev Led:=List (Addr×Obj)
abbrev VR(fz:Led)(d:V)(v:Value):Prop:=DatIn fz v d
noncomputable abbrev Loc:=List (Str×V)
noncomputable def strOk(s:Str):Bool:=Nat.ble s.length 1000000
theorem lY{s:Str}(h:strOk s=true):s.length<=1000000:=oW h
theorem nn{α:Type}{x:α}{P:Prop}(h:(none:Option α)=some x):P:=by cases h
theorem ff{P:Prop}(h:false=true):P:=by cases h
theorem sj{α:Type}{x y:α}(h:some x=some y):x=y:=by cases h; rfl
@[elab_as_elim] theorem af{α:Sort _}{a b:α}{P:α->Prop}(h:a=b)(x:P b):P a:=h▸x
theorem Mz{α:Type}{p:Prop}{d:Decidable p}{x y:α}{P:α->Prop}(h1:P x)(h2:P y):P (@ite α p d x y):=by cases d; exact h2; exact h1
theorem cp{B:Prop}(h:∀G:Prop,(B->G)->G):B:=h B id
theorem bx{p1 p2 G:Prop}(h:p1/\p2)(k:p1->p2->G):G:=k h.1 h.2
theorem lV{p1 p2 p3 G:Prop}(h:p1/\p2/\p3)(k:p1->p2->p3->G):G:=bx h.2 (k h.1)
theorem Az{p1 p2 p3 p4 G:Prop}(h:p1/\p2/\p3/\p4)(k:p1->p2->p3->p4->G):G:=lV h.2 (k h.1)
theorem om{p1 p2 p3 p4 p5 G:Prop}(h:p1/\p2/\p3/\p4/\p5)(k:p1->p2->p3->p4->p5->G):G:=Az h.2 (k h.1)
theorem T9{p1 p2 p3 p4 p5 p6 G:Prop}(h:p1/\p2/\p3/\p4/\p5/\p6)(k:p1->p2->p3->p4->p5->p6->G):G:=om h.2 (k h.1)
theorem abl{p1 p2 p3 p4 p5 p6 p7 G:Prop}(h:p1/\p2/\p3/\p4/\p5/\p6/\p7)(k:p1->p2->p3->p4->p5->p6->p7->G):G:=T9 h.2 (k h.1)
theorem abk{p1 p2 p3 p4 p5 p6 p7 p8 G:Prop}(h:p1/\p2/\p3/\p4/\p5/\p6/\p7/\p8)(k:p1->p2->p3->p4->p5->p6->p7->p8->G):G:=abl h.2 (k h.1)
theorem Yb{p1 p2 p3 p4 p5 p6 p7 p8 p9 G:Prop}(h:p1/\p2/\p3/\p4/\p5/\p6/\p7/\p8/\p9)(k:p1->p2->p3->p4->p5->p6->p7->p8->p9->G):G:=abk h.2 (k h.1)
theorem cE{α:Sort _}{p1:α->Prop}{G:Prop}(h:∃a,p1 a)(k:∀a,p1 a->G):G:=h.elim k
theorem au{α:Sort _}{p1 p2:α->Prop}{G:Prop}(h:∃a,p1 a/\p2 a)(k:∀a,p1 a->p2 a->G):G:=h.elim fun a h=>bx h (k a)
theorem nD{α:Sort _}{p1 p2 p3:α->Prop}{G:Prop}(h:∃a,p1 a/\p2 a/\p3 a)(k:∀a,p1 a->p2 a->p3 a->G):G:=h.elim fun a h=>lV h (k a)
theorem wR{α:Sort _}{p1 p2 p3 p4:α->Prop}{G:Prop}(h:∃a,p1 a/\p2 a/\p3 a/\p4 a)(k:∀a,p1 a->p2 a->p3 a->p4 a->G):G:=h.elim fun a h=>Az h (k a)
theorem X8{α:Sort _}{p1 p2 p3 p4 p5:α->Prop}{G:Prop}(h:∃a,p1 a/\p2 a/\p3 a/\p4 a/\p5 a)(k:∀a,p1 a->p2 a->p3 a->p4 a->p5 a->G):G:=h.elim fun a h=>om h (k a)
theorem abj{α:Sort _}{p1 p2 p3 p4 p5 p6:α->Prop}{G:Prop}(h:∃a,p1 a/\p2 a/\p3 a/\p4 a/\p5 a/\p6 a)(k:∀a,p1 a->p2 a->p3 a->p4 a->p5 a->p6 a->G):G:=h.elim fun a h=>T9 h (k a)
theorem abi{α:Sort _}{p1 p2 p3 p4 p5 p6 p7 p8 p9:α->Prop}{G:Prop}(h:∃a,p1 a/\p2 a/\p3 a/\p4 a/\p5 a/\p6 a/\p7 a/\p8 a/\p9 a)(k:∀a,p1 a->p2 a->p3 a->p4 a->p5 a->p6 a->p7 a->p8 a->p9 a->G):G:=h.elim fun a h=>Yb h (k a)
theorem OC{α β:Sort _}{p1:α->β->Prop}{G:Prop}(h:∃a b,p1 a b)(k:∀a b,p1 a b->G):G:=h.elim fun a h=>cE h (k a)
theorem gB{α β:Sort _}{p1 p2:α->β->Prop}{G:Prop}(h:∃a b,p1 a b/\p2 a b)(k:∀a b,p1 a b->p2 a b->G):G:=h.elim fun a h=>au h (k a)
theorem fS{α β:Sort _}{p1 p2 p3:α->β->Prop}{G:Prop}(h:∃a b,p1 a b/\p2 a b/\p3 a b)(k:∀a b,p1 a b->p2 a b->p3 a b->G):G:=h.elim fun a h=>nD h (k a)
theorem X6{α β:Sort _}{p1 p2 p3 p4:α->β->Prop}{G:Prop}(h:∃a b,p1 a b/\p2 a b/\p3 a b/\p4 a b)(k:∀a b,p1 a b->p2 a b->p3 a b->p4 a b->G):G:=h.elim fun a h=>wR h (k a)
theorem X5{α β:Sort _}{p1 p2 p3 p4 p5:α->β->Prop}{G:Prop}(h:∃a b,p1 a b/\p2 a b/\p3 a b/\p4 a b/\p5 a b)(k:∀a b,p1 a b->p2 a b->p3 a b->p4 a b->p5 a b->G):G:=h.elim fun a h=>X8 h (k a)
theorem abh{α β:Sort _}{p1 p2 p3 p4 p5 p6:α->β->Prop}{G:Prop}(h:∃a b,p1 a b/\p2 a b/\p3 a b/\p4 a b/\p5 a b/\p6 a b)(k:∀a b,p1 a b->p2 a b->p3 a b->p4 a b->p5 a b->p6 a b->G):G:=h.elim fun a h=>abj h (k a)
theorem abg{α β:Sort _}{p1 p2 p3 p4 p5 p6 p7 p8 p9:α->β->Prop}{G:Prop}(h:∃a b,p1 a b/\p2 a b/\p3 a b/\p4 a b/\p5 a b/\p6 a b/\p7 a b/\p8 a b/\p9 a b)(k:∀a b,p1 a b->p2 a b->p3 a b->p4 a b->p5 a b->p6 a b->p7 a b->p8 a b->p9 a b->G):G:=h.elim fun a h=>abi h (k a)
theorem Ea{α β γ:Sort _}{p1:α->β->γ->Prop}{G:Prop}(h:∃a b c,p1 a b c)(k:∀a b c,p1 a b c->G):G:=h.elim fun a h=>OC h (k a)
theorem yV{α β γ:Sort _}{p1 p2:α->β->γ->Prop}{G:Prop}(h:∃a b c,p1 a b c/\p2 a b c)(k:∀a b c,p1 a b c->p2 a b c->G):G:=h.elim fun a h=>gB h (k a)
theorem oj{α β γ:Sort _}{p1 p2 p3:α->β->γ->Prop}{G:Prop}(h:∃a b c,p1 a b c/\p2 a b c/\p3 a b c)(k:∀a b c,p1 a b c->p2 a b c->p3 a b c->G):G:=h.elim fun a h=>fS h (k a)
theorem yU{α β γ:Sort _}{p1 p2 p3 p4:α->β->γ->Prop}{G:Prop}(h:∃a b c,p1 a b c/\p2 a b c/\p3 a b c/\p4 a b c)(k:∀a b c,p1 a b c->p2 a b c->p3 a b c->p4 a b c->G):G:=h.elim fun a h=>X6 h (k a)
theorem JO{α β γ:Sort _}{p1 p2 p3 p4 p5:α->β->γ->Prop}{G:Prop}(h:∃a b c,p1 a b c/\p2 a b c/\p3 a b c/\p4 a b c/\p5 a b c)(k:∀a b c,p1 a b c->p2 a b c->p3 a b c->p4 a b c->p5 a b c->G):G:=h.elim fun a h=>X5 h (k a)
theorem X4{α β γ:Sort _}{p1 p2 p3 p4 p5 p6:α->β->γ->Prop}{G:Prop}(h:∃a b c,p1 a b c/\p2 a b c/\p3 a b c/\p4 a b c/\p5 a b c/\p6 a b c)(k:∀a b c,p1 a b c->p2 a b c->p3 a b c->p4 a b c->p5 a b c->p6 a b c->G):G:=h.elim fun a h=>abh h (k a)
theorem abf{α β γ:Sort _}{p1 p2 p3 p4 p5 p6 p7 p8 p9:α->β->γ->Prop}{G:Prop}(h:∃a b c,p1 a b c/\p2 a b c/\p3 a b c/\p4 a b c/\p5 a b c/\p6 a b c/\p7 a b c/\p8 a b c/\p9 a b c)(k:∀a b c,p1 a b c->p2 a b c->p3 a b c->p4 a b c->p5 a b c->p6 a b c->p7 a b c->p8 a b c->p9 a b c->G):G:=h.elim fun a h=>abg h (k a)
theorem X3{α β γ δ:Sort _}{p1:α->β->γ->δ->Prop}{G:Prop}(h:∃a b c d,p1 a b c d)(k:∀a b c d,p1 a b c d->G):G:=h.elim fun a h=>Ea h (k a)
theorem abe{α β γ δ:Sort _}{p1 p2:α->β->γ->δ->Prop}{G:Prop}(h:∃a b c d,p1 a b c d/\p2 a b c d)(k:∀a b c d,p1 a b c d->p2 a b c d->G):G:=h.elim fun a h=>yV h (k a)
theorem X0{α β γ δ:Sort _}{p1 p2 p3:α->β->γ->δ->Prop}{G:Prop}(h:∃a b c d,p1 a b c d/\p2 a b c d/\p3 a b c d)(k:∀a b c d,p1 a b c d->p2 a b c d->p3 a b c d->G):G:=h.elim fun a h=>oj h (k a)
theorem T6{α β γ δ:Sort _}{p1 p2 p3 p4:α->β->γ->δ->Prop}{G:Prop}(h:∃a b c d,p1 a b c d/\p2 a b c d/\p3 a b c d/\p4 a b c d)(k:∀a b c d,p1 a b c d->p2 a b c d->p3 a b c d->p4 a b c d->G):G:=h.elim fun a h=>yU h (k a)
theorem XZ{α β γ δ:Sort _}{p1 p2 p3 p4 p5 p6:α->β->γ->δ->Prop}{G:Prop}(h:∃a b c d,p1 a b c d/\p2 a b c d/\p3 a b c d/\p4 a b c d/\p5 a b c d/\p6 a b c d)(k:∀a b c d,p1 a b c d->p2 a b c d->p3 a b c d->p4 a b c d->p5 a b c d->p6 a b c d->G):G:=h.elim fun a h=>X4 h (k a)
theorem abd{α β γ δ:Sort _}{p1 p2 p3 p4 p5 p6 p7 p8 p9:α->β->γ->δ->Prop}{G:Prop}(h:∃a b c d,p1 a b c d/\p2 a b c d/\p3 a b c d/\p4 a b c d/\p5 a b c d/\p6 a b c d/\p7 a b c d/\p8 a b c d/\p9 a b c d)(k:∀a b c d,p1 a b c d->p2 a b c d->p3 a b c d->p4 a b c d->p5 a b c d->p6 a b c d->p7 a b c d->p8 a b c d->p9 a b c d->G):G:=h.elim fun a h=>abf h (k a)
theorem BO{α β γ δ ε:Sort _}{p1:α->β->γ->δ->ε->Prop}{G:Prop}(h:∃a b c d e,p1 a b c d e)(k:∀a b c d e,p1 a b c d e->G):G:=h.elim fun a h=>X3 h (k a)
theorem XY{α β γ δ ε:Sort _}{p1 p2:α->β->γ->δ->ε->Prop}{G:Prop}(h:∃a b c d e,p1 a b c d e/\p2 a b c d e)(k:∀a b c d e,p1 a b c d e->p2 a b c d e->G):G:=h.elim fun a h=>abe h (k a)
theorem abc{α β γ δ ε:Sort _}{p1 p2 p3 p4:α->β->γ->δ->ε->Prop}{G:Prop}(h:∃a b c d e,p1 a b c d e/\p2 a b c d e/\p3 a b c d e/\p4 a b c d e)(k:∀a b c d e,p1 a b c d e->p2 a b c d e->p3 a b c d e->p4 a b c d e->G):G:=h.elim fun a h=>T6 h (k a)
theorem T5{α β γ δ ε:Sort _}{p1 p2 p3 p4 p5 p6 p7 p8 p9:α->β->γ->δ->ε->Prop}{G:Prop}(h:∃a b c d e,p1 a b c d e/\p2 a b c d e/\p3 a b c d e/\p4 a b c d e/\p5 a b c d e/\p6 a b c d e/\p7 a b c d e/\p8 a b c d e/\p9 a b c d e)(k:∀a b c d e,p1 a b c d e->p2 a b c d e->p3 a b c d e->p4 a b c d e->p5 a b c d e->p6 a b c d e->p7 a b c d e->p8 a b c d e->p9 a b c d e->G):G:=h.elim fun a h=>abd h (k a)
theorem UZ{a b G:Prop}(h:a\/b)(f:a->G)(g:b->G):G:=h.elim f g
theorem or3{a b c G:Prop}(h:a\/b\/c)(f:a->G)(g:b->G)(k:c->G):G:=h.elim f fun h=>UZ h g k
theorem or4{a b c d G:Prop}(h:a\/b\/c\/d)(f:a->G)(g:b->G)(k:c->G)(l:d->G):G:=h.elim f fun h=>or3 h g k l
theorem or5{a b c d e G:Prop}(h:a\/b\/c\/d\/e)(f:a->G)(g:b->G)(k:c->G)(l:d->G)(m:e->G):G:=h.elim f fun h=>or4 h g k l m
theorem nm{α:Type}{a:α}{P:Prop}(h:a∈([]:List α)):P:=(eS h).elim
theorem wK{α:Type}{p:α->Prop}{a:α}{l:List α}(h:p a)(h2:∀x∈l,p x):∀x∈a::l,p x:=List.forall_mem_cons.mpr ⟨h,h2⟩
theorem fap{α:Type}{P:α->Prop}{l m:List α}(h:∀x∈l,P x)(t:∀x∈m,P x):∀x∈l++m,P x:=fun x hx=>(bu.mp hx).elim (h x) (t x)
theorem TL{α:Type}{p:α->Prop}:∀x∈([]:List α),p x:=fun _=>nm
theorem Qf(n:Nat):¬((n:Int)<0):=Int.not_lt.mpr (Int.natCast_nonneg n)
theorem LQ{n i k:Nat}(h:i<n)(e:k=n+1-i):n+1-(i+1)<k:=by subst e; exact Nat.sub_lt_sub_left (u9 h) (sF i)
theorem Y8{t k:Nat}(h:k+1<=t):t+1-k=(t+1-(k+1))+1:=by rw[Nat.add_sub_add_right]; exact Nat.succ_sub (Nat.le_of_succ_le h)
theorem ct{α:Type}{c:Bool}{a b:α}(h:c=true):cond c a b=a:=by subst h; rfl
theorem cf{α:Type}{c:Bool}{a b:α}(h:c=false):cond c a b=b:=by subst h; rfl
noncomputable def opt{α β:Type}(x:Option α)(k:α->β)(f:β):β:=match x with
 |some a=>k a
 |none=>f
noncomputable def gate{β:Type}(c:Bool)(x f:β):β:=match c with
 |true=>x
 |false=>f
noncomputable def bE{γ:Type}(c:Bool)(a b:Option γ):Option γ:=cond c a b
noncomputable def strOf:V->Option Str
 | .str s=>some s
 |_=>none
noncomputable def intOf:V->Option Int
 | .int i=>some i
 |_=>none
theorem cS{d:V}{x:Str}(h:strOf d=some x):d= .str x:=by cases d <;> first|exact nn h|exact congrArg _ (sj h)
theorem gx{d:V}{x:Int}(h:intOf d=some x):d= .int x:=by cases d <;> first|exact nn h|exact congrArg _ (sj h)
theorem gW{fz:Led}{x:Str}(h:VR fz (.str x) v):∃t,v= .str x t:=by cases h; exact⟨_,rfl⟩
theorem AH{fz:Led}{x:Bool}(h:VR fz (.bool x) v):v= .bool x:=by cases h; rfl
theorem mS{fz:Led}(h:VR fz .none v):v= .none:=by cases h; rfl
theorem gC{fz:Led}{x:Int}(h:VR fz (.int x) v):∃t,v= .int x t:=by cases h; exact⟨_,rfl⟩
@[elab_as_elim] theorem FQ{fz:Led}{x:Str}{v:Value}{P:Value->Prop}(h:VR fz (.str x) v)(k:∀t,P (.str x t)):P v:=by cases h; exact k _
@[elab_as_elim] theorem Xq{fz:Led}{x:Int}{v:Value}{P:Value->Prop}(h:VR fz (.int x) v)(k:∀t,P (.int x t)):P v:=by cases h; exact k _
section
variable {γ:Type}{r:γ}
theorem aq{α:Type}{x:Option α}{k:α->Option γ}(h:opt x k none=some r):∃a,x=some a/\k a=some r:=by
 cases x with
 |none=>exact nn h
 |some a=>exact⟨a,rfl,h⟩
theorem fT{α:Type}{x:Option α}{k:α->Option γ}{f:Option γ}(h:opt x k f=some r):(∃a,x=some a/\k a=some r)\/(x=none/\f=some r):=by
 cases x with
 |none=>exact .inr ⟨rfl,h⟩
 |some a=>exact .inl ⟨a,rfl,h⟩
theorem bA{c:Bool}(h:gate c x none=some r):c=true/\x=some r:=by
 cases c with
 |true=>exact⟨rfl,h⟩
 |false=>exact nn h
theorem Dd{c:Bool}(h:gate c none x=some r):c=false/\x=some r:=by
 cases c with
 |true=>exact nn h
 |false=>exact⟨rfl,h⟩
theorem lq{c:Bool}(h:bE c x none=some r):c=true/\x=some r:=by
 cases c with
 |true=>exact⟨rfl,h⟩
 |false=>exact nn h
theorem Sm{c:Bool}(h:bE c none x=some r):c=false/\x=some r:=by
 cases c with
 |true=>exact nn h
 |false=>exact⟨rfl,h⟩
end
noncomputable def ir:V->Option Bool
 | .none=>some false
 | .bool b=>some b
 | .int i=>some (i !=0)
 | .str s=>if strOk s then some ((s.length:Int)!=0)else mK
 |_=>mK
noncomputable def NF:Const->Option V
 | .none=>some .none
 | .bool b=>some (.bool b)
 | .int i=>some (.int i)
 | .str s=>some (.str s)
 |_=>mK
noncomputable def strLt(x y:Str):Bool:=decide (x.cps.toList<y.cps.toList)
noncomputable def bw(x y:Str):Bool:=x.cps.toList==y.cps.toList
noncomputable def uN(g:Int->Int->Bool)(a b:V):Option V:=opt (intOf a) (fun x=>opt (intOf b) (fun y=>some (.bool (g x y))) none) none
noncomputable def xe(g:Str->Str->Bool)(a b:V):Option V:=opt (strOf a) (fun x=>opt (strOf b) (fun y=>some (.bool (g x y))) none) none
theorem tS{g:Int->Int->Bool}{fz:Led}{a b r:V}(xa:VR fz a va)(xb:VR fz b vb)(h:uN g a b=some r):∃x t y u,va= .int x t/\vb= .int y u/\r= .bool (g x y):=by
 obtain⟨x,h1,h⟩:=aq h
 obtain⟨y,h2,h⟩:=aq h
 obtain rfl:=gx h1
 obtain rfl:=gx h2
 obtain⟨t,rfl⟩:=gC xa
 obtain⟨u,rfl⟩:=gC xb
 exact⟨x,t,y,u,rfl,rfl,(sj h).symm⟩
theorem wj{g:Str->Str->Bool}{fz:Led}{a b r:V}(xa:VR fz a va)(xb:VR fz b vb)(h:xe g a b=some r):∃x t y u,va= .str x t/\vb= .str y u/\r= .bool (g x y):=by
 obtain⟨x,h1,h⟩:=aq h
 obtain⟨y,h2,h⟩:=aq h
 obtain rfl:=cS h1
 obtain rfl:=cS h2
 obtain⟨t,rfl⟩:=gW xa
 obtain⟨u,rfl⟩:=gW xb
 exact⟨x,t,y,u,rfl,rfl,(sj h).symm⟩
noncomputable def jB:V->Bool
 | .none=>true
 |_=>false
noncomputable def pP:V->Bool
 | .none=>false
 |_=>true
theorem oK{d:V}(h:jB d=true):d= .none:=by cases d <;> first|rfl|exact absurd h u7
noncomputable def eqV(n:Bool)(a b:V):Option V:=match a with
 | .none=>gate (jB b) (some (.bool (n !=true))) (opt (strOf b) (fun _=>some (.bool (n !=false))) none)
 | .int _=>uN (fun x y=>cond n (x !=y) (x==y)) a b
 | .str _=>gate (jB b) (some (.bool (n !=false))) (xe (fun x y=>cond n (!bw x y) (bw x y)) a b)
 |_=>none
noncomputable def lP(op:CmpOp)(a b:V):Option V:=match op with
 | .Eq=>eqV false a b
 | .NotEq=>eqV true a b
 | .In=>xe (fun y x=>aG x y) a b
 | .NotIn=>xe (fun y x=> !aG x y) a b
 | .Lt=>uN (fun x y=>decide (x<y)) a b
 | .LtE=>opt (strOf a) (fun _=>xe (fun x y=> !strLt y x) a b) (uN (fun x y=>decide (x<=y)) a b)
 | .Gt=>uN (fun x y=>decide (x>y)) a b
 | .GtE=>uN (fun x y=>decide (x>=y)) a b
 | .Is=>gate (jB b) (some (.bool (jB a))) none
 | .IsNot=>gate (jB b) (some (.bool (pP a))) none
section
variable {fz:Led}
theorem cF{d:V}{b:Bool}(x:VR fz d v)(h:ir d=some b)(hq:∀tk,Q b { s with toks:=tk }):wpAny (model ai w) A (truthy v) Q E s:=by
 cases x with
 |none=>obtain rfl:=sj h; exact truthy_none (hq s.toks)
 |bool b'=>obtain rfl:=sj h; exact wpAny_truthy_bool (hq s.toks)
 |int i t=>obtain rfl:=sj h; exact truthy_int (hq s.toks)
 | str x t=>
   have h':(if strOk x=true then some ((x.length:Int)!=0)else mK)=some b:=h
   by_cases ho:strOk x=true
   . rw[if_pos ho]at h'
     obtain rfl:=sj h'
     exact SBL.truthy (by have:=lY ho; omega) (hq _)
   . rw[if_neg ho]at h'; exact nn h'
 |bytes=>exact nn h
 |tuple=>exact nn h
 |list=>exact nn h
theorem Du{n:Bool}{a b r:V}(xa:VR fz a va)(xb:VR fz b vb)(h:eqV n a b=some r)(hq:∀v,VR fz r v->Q v s):wpAny (model ai w) A (kI (cond n .NotEq .Eq) va vb) Q E s:=by
 cases a with
 | none=>
   obtain rfl:=mS xa
   cases hb:jB b with
   | true=>
     obtain rfl:=oK hb
     obtain rfl:=mS xb
     obtain rfl:=sj h
     cases n
     . exact EqNone.eq_none_none (hq _ (.bool _))
     . exact EqNone.ne_none_none (hq _ (.bool _))
   | false=>
     have h:gate (jB b) _ _=some r:=h
     rw[hb]at h
     obtain⟨y,h2,h⟩:=aq h
     obtain rfl:=cS h2
     obtain⟨t,rfl⟩:=gW xb
     obtain rfl:=sj h
     cases n
     . exact EqNone.eq_none_str (hq _ (.bool _))
     . exact EqNone.ne_none_str (hq _ (.bool _))
 | int i=>
   obtain⟨x,t,y,u,rfl,rfl,rfl⟩:=tS xa xb h
   cases n
   . exact PyProof.Rows.eq_int (hq _ (.bool _))
   . exact PyProof.Rows.ne_int (hq _ (.bool _))
 | str i=>
   cases hb:jB b with
   | true=>
     have h:gate (jB b) _ _=some r:=h
     rw[hb]at h
     obtain rfl:=oK hb
     obtain⟨t,rfl⟩:=gW xa
     obtain rfl:=mS xb
     obtain rfl:=sj h
     cases n
     . exact EqNone.eq_str_none (hq _ (.bool _))
     . exact EqNone.ne_str_none (hq _ (.bool _))
   | false=>
     have h:gate (jB b) _ _=some r:=h
     rw[hb]at h
     obtain⟨x,t,y,u,rfl,rfl,rfl⟩:=wj xa xb h
     cases n
     . exact P.eq_str (hq _ (.bool _))
     . exact P.ne_str (hq _ (.bool _))
 |_=>exact nn h
theorem lU{op:CmpOp}{a b r:V}(xa:VR fz a va)(xb:VR fz b vb)(h:lP op a b=some r)(hq:∀v tk,VR fz r v->Q v { s with toks:=tk }):wpAny (model ai w) A (kI op va vb) Q E s:=by
 have rJ:∀v,VR fz r v->Q v s:=fun v=>hq v s.toks
 clear hq
 cases op with
 |Eq=>exact Du xa xb h rJ
 |NotEq=>exact Du xa xb h rJ
 |In=>obtain⟨x,t,y,u,rfl,rfl,rfl⟩:=wj xa xb h; exact SB.contains (rJ _ (.bool _))
 |NotIn=>obtain⟨x,t,y,u,rfl,rfl,rfl⟩:=wj xa xb h; exact SB.notContains (rJ _ (.bool _))
 |Lt=>obtain⟨x,t,y,u,rfl,rfl,rfl⟩:=tS xa xb h; exact PyProof.Rows.lt_int (rJ _ (.bool _))
 | LtE=>
   rcases fT h with ⟨_,_,h⟩|⟨_,h⟩
   . obtain⟨x,t,y,u,rfl,rfl,rfl⟩:=wj xa xb h; exact P.le_str (rJ _ (.bool _))
   . obtain⟨x,t,y,u,rfl,rfl,rfl⟩:=tS xa xb h; exact P.le_int (rJ _ (.bool _))
 |Gt=>obtain⟨x,t,y,u,rfl,rfl,rfl⟩:=tS xa xb h; exact P.gt_int (rJ _ (.bool _))
 |GtE=>obtain⟨x,t,y,u,rfl,rfl,rfl⟩:=tS xa xb h; exact P.ge_int (rJ _ (.bool _))
 | Is=>
   obtain⟨hb,h⟩:=bA h
   obtain rfl:=oK hb
   obtain rfl:=mS xb
   obtain rfl:=sj h
   refine is_none ?_
   cases xa <;> exact rJ _ (.bool _)
 | IsNot=>
   obtain⟨hb,h⟩:=bA h
   obtain rfl:=oK hb
   obtain rfl:=mS xb
   obtain rfl:=sj h
   refine isNot_none ?_
   cases xa <;> exact rJ _ (.bool _)
end
section
variable {β:Type}(br:Bool->β->β->β)(f:β)
noncomputable def x7(d:V)(k:Int->β):β:=opt (intOf d) k f
noncomputable def Ky(d:V)(k:Str->β):β:=opt (strOf d) k f
noncomputable def Sv(a b:V)(k:V->β):β:=opt (intOf a) (fun x=>x7 f b fun y=>k (.int (x+y))) (Ky f a fun x=>Ky f b fun y=>br (strOk x&&strOk y) (k (.str (x++y))) f)
noncomputable def NT(op:Operator)(a b:V)(k:V->β):β:=match op with
 | .Add=>Sv br f a b k
 | .Sub=>x7 f a fun x=>x7 f b fun y=>k (.int (x-y))
 | .Mod=>x7 f a fun x=>x7 f b fun y=>br (y==0) f (k (.int (x.fmod y)))
 | .FloorDiv=>x7 f a fun x=>x7 f b fun y=>br (decide (0<y)&&decide (y<=1000)) (k (.int (x.fdiv y))) f
 |_=>f
noncomputable def Z0(op:Operator)(a b:V)(k:V->β):β:=match op with
 | .Add=>Sv br f a b k
 |_=>f
noncomputable def dj(v:V)(k:Bool->β):β:=match v with
 | .none=>k false
 | .bool b=>k b
 | .int i=>k (i !=0)
 | .str s=>br (strOk s) (k ((s.length:Int)!=0)) f
 |_=>f
noncomputable def ZV(x i:V)(k:V->β):β:=Ky f x fun s=>x7 f i fun j=>br (strOk s&&decide (-(s.length:Int)<=j)&&decide (j<s.length)) (k (.str (dW s j))) f
noncomputable def Sd(l:Option V)(k:Option Int->β):β:=opt l (fun d=>x7 f d fun i=>k (some i)) (k none)
noncomputable def UE(x:V)(lo hi:Option V)(k:V->β):β:=Ky f x fun s=>Sd f lo fun l=>Sd f hi fun h=>gate (l.isSome||h.isSome) (br (strOk s) (k (.str (di s l h))) f) f
end
section
variable {γ:Type}{r:γ}
theorem kC{d:V}{k:Int->Option γ}(h:x7 none d k=some r):∃i,d= .int i/\k i=some r:=by
 obtain⟨i,h1,h⟩:=aq h
 exact⟨i,gx h1,h⟩
theorem wm{d:V}{k:Str->Option γ}(h:Ky none d k=some r):∃i,d= .str i/\k i=some r:=by
 obtain⟨i,h1,h⟩:=aq h
 exact⟨i,cS h1,h⟩
theorem jd(h:dj bE none v k=some r):∃t,ir v=some t/\k t=some r:=by
 cases v with
 |none=>exact⟨_,rfl,h⟩
 |bool b=>exact⟨_,rfl,h⟩
 |int i=>exact⟨_,rfl,h⟩
 | str s=>
   obtain⟨h1,h2⟩:=lq h
   exact⟨_,if_pos h1,h2⟩
 |_=>exact nn h
theorem Hi{l:Option V}{k:Option Int->Option γ}(h:Sd none l k=some r):(l=none/\k none=some r)\/∃i,l=some (.int i)/\k (some i)=some r:=by
 rcases fT h with ⟨d,rfl,h⟩|⟨rfl,h⟩
 . obtain⟨i,rfl,h⟩:=kC h
   exact .inr ⟨i,rfl,h⟩
 . exact .inl ⟨rfl,h⟩
end
def vQ(ai:cB)(w:World)(ex:Operator->Value->Value->Sem Value)(op:Operator)(a b c:V):Prop:=∀ {A:cy} {E:Value->ak->Prop} {s:ak} {fz:Led} {va vb:Value} {Q:Value->ak->Prop},VR fz a va->VR fz b vb->
   (∀v tk,VR fz c v->Q v { s with toks:=tk })->wpAny (model ai w) A (ex op va vb) Q E s
section
variable {γ:Type}{r:γ}
theorem HA{ex:Operator->Value->Value->Sem Value}{op:Operator}(h1:∀x y,vQ ai w ex op (.int x) (.int y) (.int (x+y)))(h2:∀x y,(strOk x&&strOk y)=true->vQ ai w ex op (.str x) (.str y) (.str (x++y)))(h:Sv bE none a b k=some r):∃c,vQ ai w ex op a b c/\k c=some r:=by
 rcases fT h with ⟨x,e,h⟩|⟨_,h⟩
 . obtain rfl:=gx e
   obtain⟨y,rfl,h⟩:=kC (d:=b) h
   exact⟨_,h1 x y,h⟩
 . obtain⟨x,rfl,h⟩:=wm (d:=a) h
   obtain⟨y,rfl,h⟩:=wm (d:=b) h
   obtain⟨e,h⟩:=lq h
   exact⟨_,h2 x y e,h⟩
theorem Ql{y:Int}(h0:0<y)(h:y<=1000):y.natAbs<1073741824:=by
 obtain⟨n,rfl⟩:=Int.eq_ofNat_of_zero_le (Int.le_of_lt h0)
 exact Nat.lt_of_le_of_lt (Int.ofNat_le.mp h) (by decide)
theorem DW{x y:Str}(h:(strOk x&&strOk y)=true):x.length+y.length<=sizeLine:=by
 rw[aM]at h
 have:=lY h.1; have:=lY h.2; rw[dh]; omega
theorem Hx(h:NT bE none op a b k=some r):∃c,vQ ai w binaryOp op a b c/\k c=some r:=by
 cases op with
 | Add=>
   refine HA (fun x y=>?_) (fun x y e=>?_) h
   . intro A E s fz va vb Q xa xb hq
     obtain⟨_,rfl⟩:=gC xa; obtain⟨_,rfl⟩:=gC xb; exact PyProof.Rows.add_int (hq _ _ (.int _ _))
   . intro A E s fz va vb Q xa xb hq
     obtain⟨_,rfl⟩:=gW xa; obtain⟨_,rfl⟩:=gW xb; exact SB.add (fun t' k=>hq _ _ (.str _ _)) (DW e)
 | Sub=>
   obtain⟨x,rfl,h⟩:=kC (d:=a) h
   obtain⟨y,rfl,h⟩:=kC (d:=b) h
   refine⟨_,?_,h⟩
   intro A E s fz va vb Q xa xb hq
   obtain⟨_,rfl⟩:=gC xa; obtain⟨_,rfl⟩:=gC xb; exact PyProof.Rows.sub_int (hq _ _ (.int _ _))
 | Mod=>
   obtain⟨x,rfl,h⟩:=kC (d:=a) h
   obtain⟨y,rfl,h⟩:=kC (d:=b) h
   obtain⟨e,h⟩:=Sm h
   refine⟨_,?_,h⟩
   intro A E s fz va vb Q xa xb hq
   obtain⟨_,rfl⟩:=gC xa; obtain⟨_,rfl⟩:=gC xb
   exact PyProof.Rows.mod_int (ne_of_beq_false e) (hq _ _ (.int _ _))
 | FloorDiv=>
   obtain⟨x,rfl,h⟩:=kC (d:=a) h
   obtain⟨y,rfl,h⟩:=kC (d:=b) h
   obtain⟨e,h⟩:=lq h
   refine⟨_,?_,h⟩
   intro A E s fz va vb Q xa xb hq
   obtain⟨_,rfl⟩:=gC xa; obtain⟨_,rfl⟩:=gC xb
   simp only[aM,decide_eq_true_eq]at e
   exact PyProof.Rows.floordiv_int (Int.ne_of_gt e.1) (hq _ _ (.int _ _)) (.inl (PyProof.noPylong_small (Ql e.1 e.2)))
 |_=>exact nn h
theorem Rk(h:Z0 bE none op a b k=some r):∃c,vQ ai w inplaceOp op a b c/\k c=some r:=by
 cases op with
 | Add=>
   refine HA (fun x y=>?_) (fun x y e=>?_) h
   . intro A E s fz va vb Q xa xb hq
     obtain⟨_,rfl⟩:=gC xa; obtain⟨_,rfl⟩:=gC xb; exact P.iadd_int (hq _ _ (.int _ _))
   . intro A E s fz va vb Q xa xb hq
     obtain⟨_,rfl⟩:=gW xa; obtain⟨_,rfl⟩:=gW xb; exact SB.iadd (fun t' k=>hq _ _ (.str _ _)) (DW e)
 |_=>exact nn h
end
structure Jz where
 names:List Str
 self:Str
 attr:Str->Option V
 j0:Str->List V->Option (Bool×V)
 nm:Str->Option V:=fun _=>none
 cv:Loc->Expr->Option V:=fun _ _=>none
 big:Bool:=false
noncomputable def notStar(e:Expr):Bool:=e.ctorIdx !=22
noncomputable def mY(e:Expr):Bool:=e.ctorIdx !=8&&e.ctorIdx !=9&&e.ctorIdx !=10
noncomputable def zI(e:Expr):Bool:=match e with
 | .UnaryOp .USub _ _=>true
 |e=>[2,16,19,20,21,23].contains e.ctorIdx
noncomputable def tG(e:Expr):Bool:=e.ctorIdx==21||e.ctorIdx==23
noncomputable def tF(e:Expr):Bool:=e.ctorIdx !=26
theorem cX{a b:Bool}{P:Prop}(h:a=true)(e:a=b)(hb:b=false):P:=by subst e; subst hb; cases h
noncomputable def oG(name:Str):Nat:=if name=="find" then 1 else if name=="count" then 2 else 0
theorem LW{name:Str}(h:oG name=1):name="find":=by
 unfold oG at h
 split at h
 . rename_i q; exact eq_of_beq q
 . split at h <;> cases h
theorem LV{name:Str}(h:oG name=2):name="count":=by
 unfold oG at h
 split at h
 . cases h
 . split at h
   . rename_i q; exact eq_of_beq q
   . cases h
noncomputable def one{α:Type}:List α->Option α
 | []=>none
 | a::r=>match r with
   | []=>some a
   |_::_=>none
noncomputable def two{α:Type}:List α->Option (α×α)
 | []=>none
 |a::r=>opt (one r) (fun b=>some (a,b)) none
theorem gF{α:Type}{l:List α}{a:α}(h:one l=some a):l=[a]:=by
 cases l with
 |nil=>exact nn h
 | cons b r=>cases r with
   |nil=>obtain rfl:=sj h; rfl
   |cons=>exact nn h
theorem rS{α:Type}{l:List α}{a:α×α}(h:two l=some a):l=[a.1,a.2]:=by
 cases l with
 |nil=>exact nn h
 | cons b r=>
   obtain⟨c,h1,h⟩:=aq h
   rw[gF h1,<-sj h]
noncomputable def three{α:Type}:List α->Option (α×α×α)
 | []=>none
 |a::r=>opt (two r) (fun q=>some (a,q)) none
theorem sR{α:Type}{l:List α}{a:α×α×α}(h:three l=some a):l=[a.1,a.2.1,a.2.2]:=by
 cases l with
 |nil=>exact nn h
 | cons b r=>
   obtain⟨c,h1,h⟩:=aq h
   rw[rS h1,<-sj h]
theorem VS{α:Type}{l:List α}(h:l.length=2):∃a b,l=[a,b]:=by
 cases l with
 |nil=>cases h
 | cons a l=>
   obtain⟨b,rfl⟩:=List.length_eq_one_iff.mp (Nat.succ.inj h)
   exact⟨a,b,rfl⟩
theorem QN{α:Type}{l:List α}(h:l.length=3):∃a b c,l=[a,b,c]:=by
 cases l with
 |nil=>cases h
 | cons a l=>
   obtain⟨b,c,rfl⟩:=VS (Nat.succ.inj h)
   exact⟨a,b,c,rfl⟩
noncomputable def boolOf:V->Option Bool
 | .bool b=>some b
 |_=>none
theorem u0{d:V}{x:Bool}(h:boolOf d=some x):d= .bool x:=by cases d <;> first|exact nn h|exact congrArg _ (sj h)
noncomputable def aS(l:List V):Option Str:=opt (one l) strOf none
theorem aaE{l:List V}{x:Str}(h:aS l=some x):l=[.str x]:=by
 obtain⟨d,h1,h2⟩:=aq h
 rw[gF h1,cS h2]
noncomputable def aI(l:List V):Option Int:=opt (one l) intOf none
theorem HD{l:List V}{x:Int}(h:aI l=some x):l=[.int x]:=by
 obtain⟨d,h1,h2⟩:=aq h
 rw[gF h1,gx h2]
noncomputable def aIS(l:List V):Option (Int×Str):=opt (two l) (fun q=>opt (intOf q.1) (fun a=>opt (strOf q.2) (fun b=>some (a,b)) none) none) none
theorem N6{l:List V}{x:Int×Str}(h:aIS l=some x):l=[.int x.1,.str x.2]:=by
 obtain⟨q,h1,h⟩:=aq h
 obtain⟨a,h2,h⟩:=aq h
 obtain⟨b,h3,h⟩:=aq h
 rw[rS h1,gx h2,cS h3,<-sj h]
noncomputable def Xd(l:List V):Option (Str×Bool×Str):=opt (three l) (fun q=>opt (strOf q.1) (fun a=>opt (boolOf q.2.1) (fun b=>opt (strOf q.2.2) (fun c=>some (a,b,c)) none) none) none) none
theorem wQ{l:List V}{x:Str×Bool×Str}(h:Xd l=some x):l=[.str x.1,.bool x.2.1,.str x.2.2]:=by
 obtain⟨q,h1,h⟩:=aq h
 obtain⟨a,h2,h⟩:=aq h
 obtain⟨b,h3,h⟩:=aq h
 obtain⟨c,h4,h⟩:=aq h
 rw[sR h1,cS h2,u0 h3,cS h4,<-sj h]
noncomputable def S3(k:Nat)(x:V)(args:List V):Option V:=opt (strOf x) (fun s=>match k with
 |0=>none
 |1=>opt (one args) (fun d=>opt (strOf d) (fun y=>some (.int (Txt.find s y))) none) (opt (two args) (fun q=>opt (strOf q.1) (fun y=>opt (intOf q.2) (fun i=>some (.int (Txt.find3 s y i))) none) none) none)
 |_+2=>opt (one args) (fun d=>opt (strOf d) (fun y=>some (.int (Txt.count s y))) none) none) none
noncomputable def lB:List V->Option (List Str)
 | []=>some []
 |d::r=>opt (strOf d) (fun y=>opt (lB r) (fun ys=>some (y::ys)) none) none
noncomputable def GR(a:V)(vs:List V):Option V:=opt (strOf a) (fun x=>opt (lB vs) (fun ys=>some (.bool (ys.any (· ==x)))) none) none
def Apart(R S:Led):Prop:=∀p∈R,∀q∈S,p.1≠q.1
structure Cx(O:Type) where
 s₀:ak
 h₀:aE
 L:Addr
 rest:Led
 refs:List (Str×Value)
 Rep:O->Led->Led->Prop
 mono:∀o fz aT R,(∀p∈fz,p∈aT)->Rep o fz R->Rep o aT R
variable {ρ:Loc}{fz:Led}{C:Cx O}{o:O}{X:Nat->Led->ak->(Value->ak->Prop)->Prop}
def i6(m:Str->Option Value)(ρ:Loc)(fz:Led):Prop:=∀x v,ρ.lookup x=some v->∃v',m x=some v'/\VR fz v v'
def qQ(m:Str->Option Value)(l:List (Str×Value)):Prop:=∀p∈l,m p.1=some p.2
inductive At{O:Type}(C:Cx O)(o:O)(ρ:Loc)(fz:Led)(s:ak):Prop
 |mk (h:aE) (tk:Nat) (m:Str->Option Value) (R:Led) (hs:s= { C.s₀ with heap:=h,toks:=tk }) (F:Fr C.h₀ C.L h m) (N:News C.h₀ C.L h (R++(fz++C.rest))) (rp:C.Rep o fz R) (ap:Apart R (fz++C.rest)) (lc:i6 m ρ fz) (rf:qQ m C.refs)
@[elab_as_elim] theorem At.el{P:ak->Prop}(h:At C o ρ fz s)(k:∀(hp:aE) (tk:Nat) (m:Str->Option Value) (R:Led),Fr C.h₀ C.L hp m->News C.h₀ C.L hp (R++(fz++C.rest))->C.Rep o fz R->Apart R (fz++C.rest)->i6 m ρ fz->qQ m C.refs->P { C.s₀ with heap:=hp,toks:=tk }):P s:=by
 cases h with
 |mk hp tk m R hs F N rp ap lc rf=>exact af hs (k hp tk m R F N rp ap lc rf)
@[elab_as_elim] theorem At.eh{P:ak->Prop}(h:At C o ρ fz s)(k:∀(hp:aE) (tk:Nat) (m:Str->Option Value) (R:Led),Fr C.h₀ C.L hp m->News C.h₀ C.L hp (R++(fz++C.rest))->C.Rep o fz R->Apart R (fz++C.rest)->i6 m ρ fz->qQ m C.refs->At C o ρ fz { C.s₀ with heap:=hp,toks:=tk }->P { C.s₀ with heap:=hp,toks:=tk }):P s:=
 At.el h fun hp tk m R F N rp ap lc rf=>k hp tk m R F N rp ap lc rf ⟨hp,tk,m,R,rfl,F,N,rp,ap,lc,rf⟩
theorem L5{m:Str->Option Value}{n:Str}{d:V}{u:Value}(h:m n=some u)(hv:VR fz d u):i6 m [(n,d)] fz:=fun x v hx=>by
 rw[bW]at hx
 cases q:x==n with
 |true=>rw[q]at hx; cases hx; cases eq_of_beq q; exact⟨u,h,hv⟩
 |false=>rw[q]at hx; exact nn hx
theorem i6.mono{fz aT:Led}(lc:i6 m ρ fz)(h:∀p∈fz,p∈aT):i6 m ρ aT:=fun x v hx=>
 let ⟨v',e1,e2⟩:=lc x v hx
 ⟨v',e1,DatIn.mono h e2⟩
theorem At.re{O O':Type}{C:Cx O}{C':Cx O'}{o:O}{o':O'}(h:At C o ρ fz s)(e1:C'.s₀=C.s₀)(e2:C'.h₀=C.h₀)(e3:C'.L=C.L)(e4:C'.rest=C.rest)(e5:C'.refs=C.refs)(e6:∀R,C.Rep o fz R->C'.Rep o' fz R):At C' o' ρ fz s:=by
 refine At.el h fun h lG m R F N rp ap lc rf=>?_
 exact⟨h,lG,m,R,by rw[e1],by rw[e2,e3]; exact F,by rw[e2,e3,e4]; exact N,e6 R rp,by rw[e4]; exact ap,lc,by rw[e5]; exact rf⟩
theorem gc{α β:Type}{pre post:List (α×β)}{a:α}{ob:β}(h:((pre++(a,ob)::post).map (·.1)).Nodup):(∀q∈pre,q.1≠a)/\∀q∈post,q.1≠a:=by
 rw[jL,eZ,List.nodup_append]at h
 exact⟨fun q hq=>h.2.2 _ (qP (f:=(·.1)) hq) _ (.head _),fun q hq e=>(List.nodup_cons.mp h.2.1).1 (by rw[<-e]; exact qP (f:=(·.1)) hq)⟩
theorem xV{L a:Addr}(F:Fr h₀ L h m)(N:News h₀ L h ((pre++(a,ob)::post)++rest))(ap:Apart (pre++(a,ob)::post) rest)(k1:∀q∈pre,q.1≠a)(k2:∀q∈post,q.1≠a)(hs:oX a h h')(ho:h'.get? a=some yS):Fr h₀ L h' m/\News h₀ L h' ((pre++(a,yS)::post)++rest)/\Apart (pre++(a,yS)::post) rest:=by
 have hm:(a,ob)∈pre++(a,ob)::post:=aJ _ (.head _)
 have hN:=N _ (aH _ hm)
 refine⟨F.change hs hN.2.1 hN.2.2,?_,fun q hq r hr=>?_⟩
 . rw[bB,eY]at N |-
   exact N.setAt k1 (fun q hq=>(bu.mp hq).elim (k2 q) fun hq e=>ap _ hm q hq e.symm) hs ho
 . rcases bu.mp hq with hq|hq
   . exact ap q (aH _ hq) r hr
   . rcases aB.mp hq with rfl|hq
     . exact ap (a,ob) hm r hr
     . exact ap q (aJ _ (.tail _ hq)) r hr
theorem At.toks(h:At C o ρ fz s)(tk:Nat):At C o ρ fz { s with toks:=tk }:=by
 refine At.el h fun h lG m R F N rp ap lc rf=>?_
 exact⟨h,tk,m,R,rfl,F,N,rp,ap,lc,rf⟩
theorem At.push(h:At C o ρ fz s)(ob:Obj)(hf:ob.isFreed=false):
   At C o ρ ((s.heap.objs.size,ob)::fz) { s with heap:=s.heap.push ob }:=by
 refine At.el h fun h lG m R F N rp ap lc rf=>?_
 have N':=N.push F ob hf
 refine⟨_,lG,m,R,rfl,F.push _,fun p hp=>N' p ?_,C.mono _ _ _ _ (fun p hp=>.tail _ hp) rp,?_,lc.mono fun p hp=>.tail _ hp,rf⟩
 . simp only[bu,aB]at hp |-
   rcases hp with hp|(hp|hp)|hp
   . exact .inr (.inl hp)
   . exact .inl hp
   . exact .inr (.inr (.inl hp))
   . exact .inr (.inr (.inr hp))
 . intro p hp q hq
   simp only[eY,aB]at hq
   rcases hq with rfl|hq
   . have:=ek (N p (aH _ hp)).1
     exact dJ this
   . exact ap p hp q hq
theorem At.ext(h:At C o ρ fz s)(he:Heap.ExtBut s.heap.objs.size s.heap h')(tk:Nat):At C o ρ fz { s with heap:=h',toks:=tk }:=by
 obtain⟨h,lG,m,R,rfl,F,N,rp,ap,lc,rf⟩:=h
 exact⟨h',tk,m,R,rfl,F.extBut he (bC _),fun p hp=>⟨he p.1 p.2 (dJ (ek (N p hp).1)) (N p hp).1,(N p hp).2⟩,rp,ap,lc,rf⟩
section
variable {I:Jz}
abbrev Sub(fz aT:Led):Prop:=∀p∈fz,p∈aT
def bq(ai:cB)(w:World)(A:cy)(C:Cx O)(o:O)(env:Env)(ρ:Loc)(e:Expr)(v:V):Prop:=
 ∀(fz:Led) (s:ak) (Q:Value->ak->Prop) (E:Value->ak->Prop),At C o ρ fz s->(∀aT s' v',Sub fz aT->At C o ρ aT s'->VR aT v v'->Q v' s')->wpAny (model ai w) A (eval e env) Q E s
def gi(ai:cB)(w:World)(A:cy)(C:Cx O)(o:O)(env:Env)(ρ:Loc)(e:Expr)(b:Bool):Prop:=
 ∀(fz:Led) (s:ak) (Q:Bool->ak->Prop) (E:Value->ak->Prop),At C o ρ fz s->(∀aT s',Sub fz aT->At C o ρ aT s'->Q b s')->wpAny (model ai w) A (isTrue e env (eval e env)) Q E s
def n7(ai:cB)(w:World)(A:cy)(C:Cx O)(o:O)(env:Env)(ρ:Loc)(es:List Expr)(vs:List V):Prop:=
 ∀ (pos:Pos) (fz:Led) (s:ak) (Q:List Value->ak->Prop) (E:Value->ak->Prop),At C o ρ fz s->(∀aT s' sO,Sub fz aT->At C o ρ aT s'->aU aT sO vs->Q sO s')->
   wpAny (model ai w) A (spliced (eX pos (dI es env))) Q E s
def TY(fz:Led)(v:Option V)(x:Value):Prop:=match v with
 |some d=>VR fz d x
 |none=>x= .none
def yP(ai:cB)(w:World)(A:cy)(C:Cx O)(o:O)(env:Env)(ρ:Loc)(e:Option Expr)(v:Option V):Prop:=
 ∀ (fz:Led) (s:ak) (Q:Value->ak->Prop) (E:Value->ak->Prop),At C o ρ fz s->
   (∀aT s' v',Sub fz aT->At C o ρ aT s'->TY aT v v'->Q v' s')->wpAny (model ai w) A (evalPart e env) Q E s
structure yM(ai:cB)(w:World)(A:cy)(C:Cx O)(o:O)(env:Env)(I:Jz):Prop where
 fn:env.scope.kind= .function
 loc:env.locals=C.L
 names:∀x∈I.names,env.kindOf x=some .local
 attr:∀a v,I.attr a=some v->∀ρ p1 p2,bq ai w A C o env ρ (.Attribute (.Name I.self p1) a p2) v
 call:∀f ds d,I.j0 f ds=some (true,d)->∀ρ (fz:Led) (s:ak) (Q E:Value->ak->Prop) p pos args,At C o ρ fz s->args.all notStar=true->args≠ []->
   wpAny (model ai w) A (spliced (eX pos (dI args env))) (fun vs s₁=>∃ay,Sub fz ay/\At C o ρ ay s₁/\aU ay vs ds/\∀aT s' v',Sub ay aT->At C o ρ aT s'->VR aT d v'->Q v' s') E s->
   wpAny (model ai w) A (eval (.Call (.Name f p) args [] pos) env) Q E s
 LD:∀x v,I.nm x=some v->∀ρ p,bq ai w A C o env ρ (.Name x p) v
 Hl:∀ρ e v,I.cv ρ e=some v->bq ai w A C o env ρ e v
 v9:I.big=true->A.units+64<cLine
theorem cU(h:notStar e=true):dI (e::rest) env=(false,eval e env)::dI rest env:=by
 cases e <;> first|rfl|exact cX h rfl rfl
theorem gS:∀ {es:List Expr} (pos:Pos),es.all notStar=true->(eX pos (dI es env)).any (·.1)=false
 | [],_,_=>rfl
 | e::r,pos,h=>by
   rw[fQ,aM]at h
   rw[cU h.1]
   show(false||(eX pos (dI r env)).any (·.1))=false
   rw[gS pos h.2]; rfl
theorem m5(v:Expr)(x:Str)(t:Tok)(r:Value):letTemporaryGo v (.str x t) r=pure ():=by cases v <;> rfl
theorem uw(h:tF i=true)(x k:Value):subscripted i false x k=operate [x,k] (getItem x k):=by
 cases i <;> first|rfl|exact cX h rfl rfl
theorem fM(K:yM ai w A C o env I){x:Str}{p:Pos}(hx:I.names.contains x=true)(hd:(x !="__debug__")=true)(hv:ρ.lookup x=some v):bq ai w A C o env ρ (.Name x p) v:=by
 intro fz s Q E h hq
 refine At.eh h fun h' tk m R F N rp ap lc rf h=>?_
 obtain⟨v',h1,h2⟩:=lc x v hv
 refine eN (fY K.fn (K.names x (by simpa using hx)) (by rw[K.loc]; exact F.ns) h1 ?_) (by simpa using hd)
 exact hq fz _ v' (fun _ h=>h) h h2
structure zl(ai:cB)(w:World)(A:cy)(C:Cx O)(o:O)(env:Env)(I:Jz):Prop where
 name:∀x v ρ p,I.names.contains x=true->(x !="__debug__")=true->ρ.lookup x=some v->bq ai w A C o env ρ (.Name x p) v
 attr:∀a v,I.attr a=some v->∀ρ p1 p2,bq ai w A C o env ρ (.Attribute (.Name I.self p1) a p2) v
 call:∀f ds d,I.j0 f ds=some (true,d)->∀ρ (fz:Led) (s:ak) (Q E:Value->ak->Prop) p pos args,At C o ρ fz s->args.all notStar=true->args≠ []->
   wpAny (model ai w) A (spliced (eX pos (dI args env))) (fun vs s₁=>∃ay,Sub fz ay/\At C o ρ ay s₁/\aU ay vs ds/\∀aT s' v',Sub ay aT->At C o ρ aT s'->VR aT d v'->Q v' s') E s->
   wpAny (model ai w) A (eval (.Call (.Name f p) args [] pos) env) Q E s
 LD:∀x v,I.nm x=some v->∀ρ p,bq ai w A C o env ρ (.Name x p) v
 Hl:∀ρ e v,I.cv ρ e=some v->bq ai w A C o env ρ e v
 v9:I.big=true->A.units+64<cLine
theorem yM.wk(K:yM ai w A C o env I):zl ai w A C o env I:=⟨fun _ _ _ _ hx hd hv=>fM K hx hd hv,K.attr,K.call,K.LD,K.Hl,K.v9⟩
theorem fq{c:Const}{k:Nat}{p:Pos}(hc:NF c=some v):bq ai w A C o env ρ (.Constant c k p) v:=by
 intro fz s Q E h hq
 cases c with
 |none=>obtain rfl:=sj hc; exact wpAny_Constant_none (hq fz _ _ (fun _ h=>h) h .none)
 |bool b=>obtain rfl:=sj hc; exact wpAny_Constant_bool (hq fz _ _ (fun _ h=>h) h (.bool b))
 |int i=>obtain rfl:=sj hc; exact wpAny_Constant_int (hq fz _ _ (fun _ h=>h) (h.toks _) (.int i _))
 |str x=>obtain rfl:=sj hc; exact i0 (hq fz _ _ (fun _ h=>h) (h.toks _) (.str x _))
 |_=>exact nn hc
theorem WT{l r:Expr}{p:Pos}(ha:bq ai w A C o env ρ l a)(hb:bq ai w A C o env ρ r b)(hm:jK op r=false)(hc:lP op a b=some c):
   bq ai w A C o env ρ (.Compare l [op] [r] p) c:=by
 intro fz s Q E h hq
 refine wpAny_Compare1 (ha fz s _ E h fun ay s₁ va s1 h1 x1=>hb ay s₁ _ E h1 fun aO aX vb s2 h2 x2=>?_) hm
 exact lU (x1.mono s2) x2 hc fun v tk x=>hq aO _ v (fun p hp=>s2 p (s1 p hp)) (h2.toks tk) x
theorem wZ{l r:Expr}{p:Pos}{t:Bool}(ha:bq ai w A C o env ρ l a)(hb:bq ai w A C o env ρ r b)(hm:jK op r=false)(hc:lP op a b=some c)(ht:ir c=some t):
   gi ai w A C o env ρ (.Compare l [op] [r] p) t:=by
 intro fz s Q E h hq
 refine lT (ha fz s _ E h fun ay s₁ va s1 h1 x1=>hb ay s₁ _ E h1 fun aO aX vb s2 h2 x2=>?_) hm
 exact lU (x1.mono s2) x2 hc fun v tk x=>cF x ht fun lG=>hq aO _ (fun p hp=>s2 p (s1 p hp)) ((h2.toks tk).toks lG)
theorem Dt{p:Pos}{t:Bool}(ha:bq ai w A C o env ρ l a)(hb:bq ai w A C o env ρ m b)(hm:jK Ij r=false)(hc:lP op a b=some c)(ht:ir c=some t)(hr:if t then ∃d,bq ai w A C o env ρ r d/\lP Ij b d=some z else z=c):
   bq ai w A C o env ρ (.Compare l [op,Ij] [m,r] p) z:=by
 intro fz s Q E h hq
 refine Compare_chain (rs:=[]) (ops:=[]) (ha fz s _ E h fun ay s₁ va s1 h1 x1=>chain_link (hb ay s₁ _ E h1 fun aO aX vb s2 h2 x2=>?_)) (by simpa [lastMarks]using hm)
 refine lU (x1.mono s2) x2 hc fun v tk x=>cF x ht fun lG=>?_
 cases t with
 | false=>
   dsimp only
   subst hr
   exact hq aO _ v (fun p hp=>s2 p (s1 p hp)) ((h2.toks tk).toks lG) x
 | true=>
   dsimp only
   refine au hr fun d hd he=>?_
   refine chain_last (hd aO _ _ E ((h2.toks tk).toks lG) fun gz dF vd s3 h3 x3=>?_)
   exact lU (x2.mono s3) x3 he fun v tk x=>hq gz _ v (fun p hp=>s3 p (s2 p (s1 p hp))) (h3.toks tk) x
theorem test_link(h:wpAny M A r (fun b s₁=>wpAny M A (kI op a b) (fun c aX=>wpAny M A (truthy c)
     (fun t dF=>if t then wpAny M A (testChain pos b (Ij::ops) (r'::rs)) Q E dF else Q false dF) E aX) E s₁) E s):
   wpAny M A (testChain pos a (op::Ij::ops) (r::r'::rs)) Q E s:=by
 exact PyProof.Rows.test_link h
theorem BV{p:Pos}{t:Bool}{z:Bool}(ha:bq ai w A C o env ρ l a)(hb:bq ai w A C o env ρ m b)(hm:jK Ij r=false)(hc:lP op a b=some c)(ht:ir c=some t)(hr:if t then ∃d e,bq ai w A C o env ρ r d/\lP Ij b d=some e/\ir e=some z else z=false):
   gi ai w A C o env ρ (.Compare l [op,Ij] [m,r] p) z:=by
 intro fz s Q E h hq
 refine isTrue_chain (rs:=[]) (ops:=[]) (ha fz s _ E h fun ay s₁ va s1 h1 x1=>test_link (hb ay s₁ _ E h1 fun aO aX vb s2 h2 x2=>?_)) (by simpa [lastMarks]using hm)
 refine lU (x1.mono s2) x2 hc fun v tk x=>cF x ht fun lG=>?_
 cases t with
 | false=>
   dsimp only
   subst hr
   exact hq aO _ (fun p hp=>s2 p (s1 p hp)) ((h2.toks tk).toks lG)
 | true=>
   dsimp only
   refine fS hr fun d e hd he hz=>?_
   refine test_last (hd aO _ _ E ((h2.toks tk).toks lG) fun gz dF vd s3 h3 x3=>?_)
   exact lU (x2.mono s3) x3 he fun v tk x=>cF x hz fun lG=>hq gz _ (fun p hp=>s3 p (s2 p (s1 p hp))) ((h3.toks tk).toks lG)
theorem Nt{p:Pos}{t:Bool}(ha:bq ai w A C o env ρ e v)(ht:ir v=some t)(hr:if t then bq ai w A C o env ρ (.BoolOp .And (e'::rest) p) z else z=v):
   bq ai w A C o env ρ (.BoolOp .And (e::e'::rest) p) z:=by
 intro fz s Q E h hq
 refine BoolOp_and (ha fz s _ E h fun ay s₁ va s1 h1 x1=>cF x1 ht fun tk=>?_)
 cases t with
 |false=>subst hr; exact hq ay _ va s1 (h1.toks tk) x1
 |true=>exact hr ay _ Q E (h1.toks tk) fun aO aX v' s2 h2 x2=>hq aO aX v' (fun p hp=>s2 p (s1 p hp)) h2 x2
theorem TN{p:Pos}{t:Bool}(ha:bq ai w A C o env ρ e v)(ht:ir v=some t)(hr:if t then z=v else bq ai w A C o env ρ (.BoolOp .Or (e'::rest) p) z):
   bq ai w A C o env ρ (.BoolOp .Or (e::e'::rest) p) z:=by
 intro fz s Q E h hq
 refine BoolOp_or (ha fz s _ E h fun ay s₁ va s1 h1 x1=>cF x1 ht fun tk=>?_)
 cases t with
 |true=>subst hr; exact hq ay _ va s1 (h1.toks tk) x1
 |false=>exact hr ay _ Q E (h1.toks tk) fun aO aX v' s2 h2 x2=>hq aO aX v' (fun p hp=>s2 p (s1 p hp)) h2 x2
theorem rX{p:Pos}{t:Bool}(ha:gi ai w A C o env ρ e t):gi ai w A C o env ρ (.BoolOp op [e] p) t:=by
 intro fz s Q E h hq
 cases op with
 | And=>
   refine isTrue_and (ha fz s _ E h fun ay s₁ s1 h1=>?_)
   cases t with
   |false=>exact hq ay s₁ s1 h1
   |true=>exact isTrue_and_nil (hq ay s₁ s1 h1)
 | Or=>
   refine isTrue_or (ha fz s _ E h fun ay s₁ s1 h1=>?_)
   cases t with
   |true=>exact hq ay s₁ s1 h1
   |false=>exact isTrue_or_nil (hq ay s₁ s1 h1)
theorem zo{p:Pos}(h:wpAny M A (isTrue (.BoolOp op vs p) env w1) Q E s):wpAny M A (isTrue (.BoolOp op vs p) env w2) Q E s:=h
theorem kW{p:Pos}{t z:Bool}(ha:gi ai w A C o env ρ e t)(hr:if t then gi ai w A C o env ρ (.BoolOp .And (e'::rest) p) z else z=false):
   gi ai w A C o env ρ (.BoolOp .And (e::e'::rest) p) z:=by
 intro fz s Q E h hq
 refine isTrue_and (ha fz s _ E h fun ay s₁ s1 h1=>?_)
 cases t with
 |false=>subst hr; exact hq ay _ s1 h1
 |true=>exact zo (hr ay _ Q E h1 fun aO aX s2 h2=>hq aO aX (fun p hp=>s2 p (s1 p hp)) h2)
theorem SI{p:Pos}{t z:Bool}(ha:gi ai w A C o env ρ e t)(hr:if t then z=true else gi ai w A C o env ρ (.BoolOp .Or (e'::rest) p) z):
   gi ai w A C o env ρ (.BoolOp .Or (e::e'::rest) p) z:=by
 intro fz s Q E h hq
 refine isTrue_or (ha fz s _ E h fun ay s₁ s1 h1=>?_)
 cases t with
 |true=>subst hr; exact hq ay _ s1 h1
 |false=>exact zo (hr ay _ Q E h1 fun aO aX s2 h2=>hq aO aX (fun p hp=>s2 p (s1 p hp)) h2)
theorem WQ{p:Pos}{t:Bool}(ha:bq ai w A C o env ρ e v)(ht:ir v=some t):bq ai w A C o env ρ (.UnaryOp .Not e p) (.bool (!t)):=by
 intro fz s Q E h hq
 refine UnaryOp_ (ha fz s _ E h fun ay s₁ va s1 h1 x1=>not_of (cF x1 ht fun tk=>?_))
 exact hq ay _ _ s1 (h1.toks tk) (.bool _)
theorem WR{p:Pos}{i:Int}(ha:bq ai w A C o env ρ e (.int i)):bq ai w A C o env ρ (.UnaryOp .USub e p) (.int (-i)):=by
 intro fz s Q E h hq
 refine UnaryOp_ (ha fz s _ E h fun ay s₁ va s1 h1 x1=>?_)
 refine cE (gC x1) fun _ fj=>?_
 subst fj
 exact PyProof.Rows.neg_int (hq ay _ _ s1 (h1.toks _) (.int _ _))
theorem AL{p:Pos}{t:Bool}(ha:gi ai w A C o env ρ e t):gi ai w A C o env ρ (.UnaryOp .Not e p) (!t):=by
 intro fz s Q E h hq
 exact isTrue_not (ha fz s _ E h fun ay s₁ s1 h1=>hq ay s₁ s1 h1)
theorem jr{t:Bool}(ha:bq ai w A C o env ρ e v)(ht:ir v=some t)(hp:zI e=true):gi ai w A C o env ρ e t:=by
 intro fz s Q E h hq
 refine isTrue_plain (ha fz s _ E h fun ay s₁ va s1 h1 x1=>cF x1 ht fun tk=>hq ay _ s1 (h1.toks tk)) ?_
 cases e with
 |UnaryOp op x p=>cases op <;> first|rfl|exact cX hp rfl rfl
 |_=>first|rfl|exact cX hp rfl rfl
theorem RY{p:Pos}(ha:bq ai w A C o env ρ l a)(hb:bq ai w A C o env ρ r b)(hc:vQ ai w binaryOp op a b c):bq ai w A C o env ρ (.BinOp l op r p) c:=by
 intro fz s Q E h hq
 refine wpAny_BinOp (ha fz s _ E h fun ay s₁ va s1 h1 x1=>hb ay s₁ _ E h1 fun aO aX vb s2 h2 x2=>?_)
 exact hc (x1.mono s2) x2 fun v tk x=>hq aO _ v (fun p hp=>s2 p (s1 p hp)) (h2.toks tk) x
theorem Ds{p:Pos}{t:Bool}(hc:gi ai w A C o env ρ c t)(hz:if t then bq ai w A C o env ρ b z else bq ai w A C o env ρ e z):bq ai w A C o env ρ (.IfExp c b e p) z:=by
 intro fz s Q E h hq
 refine IfExp_ (hc fz s _ E h fun ay s₁ s1 h1=>?_)
 cases t with
 |true=>exact hz ay _ Q E h1 fun aO aX v s2 h2 x2=>hq aO aX v (fun p hp=>s2 p (s1 p hp)) h2 x2
 |false=>exact hz ay _ Q E h1 fun aO aX v s2 h2 x2=>hq aO aX v (fun p hp=>s2 p (s1 p hp)) h2 x2
theorem SJ{p:Pos}{t z:Bool}(hc:gi ai w A C o env ρ c t)(hz:if t then gi ai w A C o env ρ b z else gi ai w A C o env ρ e z):gi ai w A C o env ρ (.IfExp c b e p) z:=by
 intro fz s Q E h hq
 refine isTrue_IfExp (hc fz s _ E h fun ay s₁ s1 h1=>?_)
 cases t with
 |true=>exact hz ay _ Q E h1 fun aO aX s2 h2=>hq aO aX (fun p hp=>s2 p (s1 p hp)) h2
 |false=>exact hz ay _ Q E h1 fun aO aX s2 h2=>hq aO aX (fun p hp=>s2 p (s1 p hp)) h2
theorem fC:n7 ai w A C o env ρ [] []:=by
 intro pos fz s Q E h hq
 exact spliced_none (hq fz s [] (fun _ h=>h) h .nil)
theorem cC(he:notStar e=true)(ha:bq ai w A C o env ρ e v)(hr:n7 ai w A C o env ρ es vs):n7 ai w A C o env ρ (e::es) (v::vs):=by
 intro pos fz s Q E h hq
 refine spliced_more (ha fz s _ E h fun ay s₁ va s1 h1 x1=>hr pos ay s₁ _ E h1 fun aO aX sO s2 h2 x2=>?_) (cU he)
 exact hq aO aX _ (fun p hp=>s2 p (s1 p hp)) h2 (.cons (x1.mono s2) x2)
theorem Av:∀ {ds:List V} {vs:List Value} {ys:List Str},aU fz vs ds->lB ds=some ys->StrsAre vs ys
 | [],vs,ys,hv,h=>by
   obtain rfl:=sj h
   cases hv; exact .nil
 | d ::ds,vs,ys,hv,h=>by
   refine au (aq h) fun y h1 k1=>?_
   refine au (aq k1) fun zs h2 k2=>?_
   obtain rfl:=cS h1
   obtain rfl:=sj k2
   cases hv with
   | cons hv hr=>
     refine cE (gW hv) fun t fj=>?_
     subst fj
     exact .cons y t (Av hr h2)
theorem MG{t:Addr}(xa:VR fz a va)(hv:aU fz vs ds)(ht:IsTup s.heap t vs.toArray)(h:GR a ds=some r)(hq:∀v,VR fz r v->Q v s):wpAny (model ai w) A (kI .In va (.ref t)) Q E s:=by
 refine au (aq h) fun x h1 k1=>?_
 refine au (aq k1) fun ys h2 k2=>?_
 obtain rfl:=cS h1
 refine cE (gW xa) fun tk fj=>?_
 subst fj
 obtain rfl:=sj k2
 exact in_tuple_strs ht (by simpa using Av hv h2) (hq _ (.bool _))
theorem rV{vs:List Value}(h:At C o ρ fz s):IsTup (s.heap.push { cls:=.type "tuple",data:=.seq vs.toArray }) s.heap.objs.size vs.toArray:=
 ⟨_,Heap.get?_push_size _ rfl,rfl,0,rfl⟩
theorem Nr{k:Nat}{p p':Pos}(ha:bq ai w A C o env ρ l a)(hb:n7 ai w A C o env ρ es ds)(hz:ds.length<=1000)(hc:GR a ds=some r):
   bq ai w A C o env ρ (.Compare l [.In] [.Tuple es k p'] p) r:=by
 intro fz s Q E h hq
 refine wpAny_Compare1 (ha fz s _ E h fun ay s₁ va s1 h1 x1=>wpAny_Tuple (hb p' ay s₁ _ E h1 fun aO aX vs s2 h2 x2=>⟨?_,?_⟩)) rfl
 . refine af x2.length (af dh ?_); lia
 . have h3:=h2.push { cls:=.type "tuple",data:=.seq vs.toArray } rfl
   refine MG (x1.mono s2) x2 (rV h2) hc fun v x=>hq _ _ v (fun p hp=>.tail _ (s2 p (s1 p hp))) h3 (x.mono fun p hp=>.tail _ hp)
theorem IW{s:Str}{j:Int}(h:(strOk s&&decide (-(s.length:Int)<=j)&&decide (j<s.length))=true):fitsSsize j=true/\ -(s.length:Int)<=j/\j<s.length:=by
 simp only[aM,decide_eq_true_eq]at h
 have hl:=lY h.1.1
 exact⟨fitsSsize_of (N:=9223372036854775808) (by lia) (by lia) (Int.le_refl _),h.1.2,h.2⟩
theorem RV{p:Pos}{y:Str}{j:Int}(hx:bq ai w A C o env ρ v (.str y))(hi:bq ai w A C o env ρ i (.int j))(hs:tF i=true)(hc:(strOk y&&decide (-(y.length:Int)<=j)&&decide (j<y.length))=true):bq ai w A C o env ρ (.Subscript v i p) (.str (dW y j)):=by
 intro fz s Q E h hq
 refine Subscript_ (hx fz s _ E h fun ay s₁ va s1 h1 x1=>hi ay s₁ _ E h1 fun aO aX vb s2 h2 x2=>?_)
 refine cE (gW x1) fun _ fj=>?_
 subst fj
 refine cE (gC x2) fun _ fj=>?_
 subst fj
 refine lV (IW hc) fun h3 h4 h5=>?_
 exact item_str h3 h4 h5 (fun _=>hq aO _ _ (fun p hp=>s2 p (s1 p hp)) (h2.toks _) (.str _ _)) (uw hs _ _) (fun r=>m5 _ _ _ r)
theorem Dn:yP ai w A C o env ρ mK mK:=by
 intro fz s Q E h hq
 exact evalPart_none_step (hq fz s _ (fun _ h=>h) h rfl)
theorem Dm(he:bq ai w A C o env ρ e v):yP ai w A C o env ρ (some e) (some v):=by
 intro fz s Q E h hq
 exact evalPart_some_step (he fz s Q E h hq)
theorem At.now(h:At C o ρ fz s):∃m news,Fr C.h₀ C.L s.heap m/\News C.h₀ C.L s.heap news/\∀h' tk,Fr C.h₀ C.L h' m->News C.h₀ C.L h' news->At C o ρ fz { s with heap:=h',toks:=tk }:=by
 refine At.el h fun h lG m R F N rp ap lc rf=>?_
 exact⟨m,_,F,N,fun h' tk F' N'=>⟨h',tk,m,R,rfl,F',N',rp,ap,lc,rf⟩⟩
noncomputable def xJ(l:Option Int):Option V:=l.map .int
theorem xG(h:TY fz (xJ l) v):(l=none/\v= .none)\/∃i t,l=some i/\v= .int i t:=by
 cases l with
 |none=>exact .inl ⟨rfl,h⟩
 |some i=>obtain⟨t,e⟩:=gC h; exact .inr ⟨i,t,rfl,e⟩
theorem Nm{lo hi:Option Expr}{p p':Pos}{y:Str}(hx:bq ai w A C o env ρ v (.str y))(hl:yP ai w A C o env ρ lo (xJ l))(hu:yP ai w A C o env ρ hi (xJ u))(hy:strOk y=true)(hlu:(l.isSome||u.isSome)=true):
   bq ai w A C o env ρ (.Subscript v (.Slice lo hi mK p') p) (.str (di y l u)):=by
 intro fz s Q E h hq
 refine Subscript_ (hx fz s _ E h fun ay s₁ va s1 h1 x1=>wpAny_Slice (hl ay s₁ _ E h1 fun aO aX vl s2 h2 x2=>hu aO aX _ E h2 fun gz dF vu s3 h3 x3=>evalPart_none_step ?_))
 refine fS h3.now fun m news F N back=>?_
 have NZ:∀(h':aE) (tk:Nat) (t:Tok),Fr C.h₀ C.L h' m->News C.h₀ C.L h' news->Q (.str (di y l u) t) { dF with heap:=h',toks:=tk }:=fun h' tk t F' N'=>hq gz _ _ (fun p hp=>s3 p (s2 p (s1 p hp))) (back h' tk F' N') (.str _ _)
 clear back hq
 have hle:y.length<sizeLine:=by have:=lY hy; refine af dh ?_; lia
 refine cE (gW x1) fun _ fj=>?_
 subst fj
 rcases xG x2 with ⟨rfl,rfl⟩|⟨i,_,rfl,rfl⟩
 . rcases xG x3 with ⟨rfl,rfl⟩|⟨j,_,rfl,rfl⟩
   . exact absurd hlu u7
   . exact slice_strN_ns F N (fun h' t' k F' N'=>NZ h' k t' F' N') rfl (fun r=>m5 _ _ _ r) (kH hle)
 . rcases xG x3 with ⟨rfl,rfl⟩|⟨j,_,rfl,rfl⟩
   . exact slice_strN_sn F N (fun h' t' k F' N'=>NZ h' k t' F' N') rfl (fun r=>m5 _ _ _ r) (kH hle)
   . exact slice_strN_ss F N (fun h' t' k F' N'=>NZ h' k t' F' N') rfl (fun r=>m5 _ _ _ r) (kH hle)
theorem cW{id:String}{rest:List Expr}{Q:Value->ak->Prop}(hs:(e::rest).all notStar=true)(h:wpAny M A (spliced (eX pos (dI (e::rest) env))) (fun vs s₁=>wpAny M A (call (.builtin id) (first++vs)) Q E s₁) E s):wpAny M A (callWith pos (.builtin id) first (eX pos (dI (e::rest) env)) []) Q E s:=by
 rw[fQ,aM]at hs
 exact callWith_method1 h (cU hs.1) (gS pos hs.2)
theorem gu{name:Str}{p p':Pos}(h1:eval (.Call (.Attribute v name p') args [] p) env=(do
     let ov <-eval v env
     standAt p'.atName
     methodCall v name p' p env ov (args.length+0) (eX p (dI args env)) []))(hs:args.all notStar=true)(hk:args.length<=4)(hl:(p'.endLine==p.line)=true):
   eval (.Call (.Attribute v name p') args [] p) env=(do
     let ov <-eval v env
     standAt p'.atName
     let (f,first) <-holding [ov] (ie ov name (do return (<-importBound v env).getD true))
     callWith p f first (eX p (dI args env)) []):=by
 refine h1.trans ?_
 have hf:methodCallForm (args.length+0) (eX p (dI args env)) []=true:=by
   unfold methodCallForm
   have:=List.any_eq_false.mp (gS (env:=env) p hs)
   rw[dH.mpr fun x hx=>(by simpa using this x hx),decide_eq_true (by lia)]; rfl
 unfold methodCall calleeOf methodCallPos
 refine af hf (af hl ?_)
 rfl
theorem iJ{name:Str}{p p':Pos}(hb:tG v=true)(hs:args.all notStar=true)(hk:args.length<=4)(hl:(p'.endLine==p.line)=true):
   eval (.Call (.Attribute v name p') args [] p) env=(do
     let ov <-eval v env
     standAt p'.atName
     let (f,first) <-holding [ov] (ie ov name (do return (<-importBound v env).getD true))
     callWith p f first (eX p (dI args env)) []):=
 gu (by cases v <;> first|rfl|exact cX hb rfl rfl) hs hk hl
theorem yj{name:Str}{d:V}{y:Str}{v:Expr}{p p':Pos}(hx:bq ai w A C o env ρ v (.str y))(ha:n7 ai w A C o env ρ args ds)(hs:args.all notStar=true)(hn:args≠ [])(hb:tG v=true)(hk:args.length<=4)(hl:(p'.endLine==p.line)=true)(bi:String)(hg:∀ {A:cy} {E:Value->ak->Prop} {s:ak} {t:Tok} {m:Sem Bool} {Q:Value×List Value->ak->Prop},Q (.builtin bi,[.str y t]) s->wpAny (model ai w) A (ie (.str y t) name m) Q E s)(hc:∀ {A:cy} {E:Value->ak->Prop} {s:ak} {fz:Led} {vs:List Value} {t:Tok} {Q:Value->ak->Prop},aU fz vs ds->(∀u tk,VR fz d u->Q u { s with toks:=tk })->wpAny (model ai w) A (call (.builtin bi) (.str y t::vs)) Q E s):
   bq ai w A C o env ρ (.Call (.Attribute v name p') args [] p) d:=by
 intro fz s Q E h hq
 cases args with
 |nil=>exact absurd rfl hn
 |cons e rest=>
 refine d9 (pl:=_) (hx fz s _ E h fun ay s₁ va s1 h1 x1=>?_) (iJ hb hs hk hl)
 refine cE (gW x1) fun _ fj=>?_
 subst fj
 refine hg (cW hs (ha p ay s₁ _ E h1 fun aO aX vs s2 h2 x2=>?_))
 exact hc x2 fun u tk hu=>hq aO _ _ (fun p hp=>s2 p (s1 p hp)) (h2.toks tk) hu
theorem j6(h:aU fz vs []):vs=[]:=by cases h; rfl
theorem c8{d:V}(h:aU fz vs (d::ds)):∃v us,vs=v::us/\VR fz d v/\aU fz us ds:=by cases h with|cons a b=>exact⟨_,_,rfl,a,b⟩
theorem jE{d:V}(h:aU fz vs [d]):∃v,vs=[v]/\VR fz d v:=by
 cases h with|cons a b=>cases b; exact⟨_,rfl,a⟩
@[elab_as_elim] theorem Sg{vs:List Value}{d:V}{P:List Value->Prop}(h:aU fz vs [d])(k:∀v,VR fz d v->P [v]):P vs:=au (jE h) fun v e hv=>af e (k v hv)
theorem dS1{x:Str}(h:aU fz vs [.str x]):∃t,vs=[.str x t]:=by
 refine au (jE h) fun v fj h1=>?_
 subst fj
 refine cE (gW h1) fun t fj=>?_
 subst fj
 exact⟨t,rfl⟩
theorem dI1{x:Int}(h:aU fz vs [.int x]):∃t,vs=[.int x t]:=by
 refine au (jE h) fun v fj h1=>?_
 subst fj
 refine cE (gC h1) fun t fj=>?_
 subst fj
 exact⟨t,rfl⟩
theorem acD{x:Str}{i j:Int}(h:aU fz vs [.str x,.int i,.int j]):∃t u v,vs=[.str x t,.int i u,.int j v]:=by
 refine fS (c8 h) fun v1 r1 iU h1 h3=>?_
 subst iU
 refine fS (c8 h3) fun v2 r2 iU h2 h4=>?_
 subst iU
 refine cE (dI1 h4) fun v fj=>?_
 subst fj
 refine cE (gW h1) fun t fj=>?_
 subst fj
 refine cE (gC h2) fun u fj=>?_
 subst fj
 exact⟨t,u,v,rfl⟩
theorem NB{d e:V}(h:aU fz vs [d,e]):∃v u,vs=[v,u]/\VR fz d v/\VR fz e u:=by
 cases h with|cons a b=>obtain⟨u,rfl,hu⟩:=jE b; exact⟨_,u,rfl,a,hu⟩
theorem RU{name:Str}{p p':Pos}(hx:bq ai w A C o env ρ v x)(ha:n7 ai w A C o env ρ args ds)(hs:args.all notStar=true)(hn:args≠ [])(hb:tG v=true)(hk:args.length<=4)(hl:(p'.endLine==p.line)=true)(hc:S3 (oG name) x ds=some r):
   bq ai w A C o env ρ (.Call (.Attribute v name p') args [] p) r:=by
 refine au (aq hc) fun y hy k0=>?_
 clear hc
 obtain rfl:=cS hy
 generalize hm:oG name=k at k0
 match k,hm,k0 with
 |0,_,hc=>exact nn hc
 | 1,hm,hc=>
   obtain rfl:=LW hm
   rcases fT hc with ⟨d,h1,k1⟩|⟨_,k1⟩
   . obtain rfl:=gF h1
     refine au (aq k1) fun z h2 k2=>?_
     obtain rfl:=cS h2
     obtain rfl:=sj k2
     refine yj hx ha hs hn hb hk hl "str.find" (fun h=>GM.find h) fun xs hq=>?_
     refine au (jE xs) fun v fj xv=>?_
     subst fj
     refine cE (gW xv) fun _ fj=>?_
     subst fj
     exact SC.find (hq _ _ (.int _ _))
   . refine au (aq k1) fun fZ h1 k2=>?_
     obtain⟨d1,d2⟩:=fZ
     obtain rfl:=rS h1
     refine au (aq k2) fun z h2 k3=>?_
     refine au (aq k3) fun i h3 k4=>?_
     obtain rfl:=cS (d:=d1) h2
     obtain rfl:=gx (d:=d2) h3
     obtain rfl:=sj k4
     refine yj hx ha hs hn hb hk hl "str.find" (fun h=>GM.find h) fun xs hq=>?_
     refine fS (NB xs) fun v u iU xv xu=>?_
     subst iU
     refine cE (gW xv) fun _ fj=>?_
     subst fj
     refine cE (gC xu) fun _ fj=>?_
     subst fj
     exact SC.find3 (hq _ _ (.int _ _))
 | k + 2,hm,hc=>
   have hm:oG name=2:=by
     unfold oG at hm |-
     split at hm
     . cases hm
     . split at hm
       . rename_i q1 q2; (refine af (if_neg q1) (af (if_pos q2) ?_); rfl)
       . cases hm
   obtain rfl:=LV hm
   refine au (aq hc) fun d h1 k1=>?_
   obtain rfl:=gF h1
   refine au (aq k1) fun z h2 k2=>?_
   obtain rfl:=cS h2
   obtain rfl:=sj k2
   refine yj hx ha hs hn hb hk hl "str.count" (fun h=>GM.count h) fun xs hq=>?_
   refine au (jE xs) fun v fj xv=>?_
   subst fj
   refine cE (gW xv) fun _ fj=>?_
   subst fj
   exact SC.count (hq _ _ (.int _ _))
theorem RX(K:zl ai w A C o env I){f:Str}{p p':Pos}(ha:n7 ai w A C o env ρ args ds)(hs:args.all notStar=true)(hn:args≠ [])(hc:I.j0 f ds=some (true,r)):
   bq ai w A C o env ρ (.Call (.Name f p') args [] p) r:=by
 intro fz s Q E h hq
 refine K.call f ds r hc ρ fz s Q E p' p args h hs hn (ha p fz s _ E h fun ay s₁ vs s1 h1 x1=>⟨ay,s1,h1,x1,fun aT s' v' s2 h2 x2=>hq aT s' v' (fun p hp=>s2 p (s1 p hp)) h2 x2⟩)
theorem Kn{k:Nat}{p p':Pos}{t:Bool}(ha:bq ai w A C o env ρ l a)(hb:n7 ai w A C o env ρ es ds)(hz:ds.length<=1000)(hc:GR a ds=some r)(ht:ir r=some t):
   gi ai w A C o env ρ (.Compare l [.In] [.Tuple es k p'] p) t:=by
 intro fz s Q E h hq
 refine lT (ha fz s _ E h fun ay s₁ va s1 h1 x1=>wpAny_Tuple (hb p' ay s₁ _ E h1 fun aO aX vs s2 h2 x2=>⟨?_,?_⟩)) rfl
 . refine af x2.length (af dh ?_); lia
 . have h3:=h2.push { cls:=.type "tuple",data:=.seq vs.toArray } rfl
   exact MG (x1.mono s2) x2 (rV h2) hc fun v x=>cF x ht fun tk=>hq _ _ (fun p hp=>.tail _ (s2 p (s1 p hp))) (h3.toks tk)
theorem Dp{k:Nat}{p:Pos}(hb:n7 ai w A C o env ρ es ds)(hz:ds.length<=1000):bq ai w A C o env ρ (.Tuple es k p) (.tuple ds):=by
 intro fz s Q E h hq
 refine wpAny_Tuple (hb p fz s _ E h fun ay s₁ vs s1 h1 x1=>⟨?_,?_⟩)
 . refine af x1.length (af dh ?_); lia
 . exact hq _ _ _ (fun p hp=>.tail _ (s1 p hp)) (h1.push { cls:=.type "tuple",data:=.seq vs.toArray } rfl) (.tuple (.head _) (x1.mono fun p hp=>.tail _ hp))
theorem Br{p:Pos}(hb:n7 ai w A C o env ρ es ds)(hz:ds.length<=1000):bq ai w A C o env ρ (.List es p) (.list ds):=by
 intro fz s Q E h hq
 refine wpAny_List (hb p fz s _ E h fun ay s₁ vs s1 h1 x1=>⟨?_,?_⟩)
 . refine af x1.length (af dh ?_); lia
 . exact hq _ _ _ (fun p hp=>.tail _ (s1 p hp)) (h1.push { cls:=.type "list",data:=.seq vs.toArray } rfl) (.list (.head _) (x1.mono fun p hp=>.tail _ hp))
end
section
open PySem PySem.Calls PyProof.Rows PySem.W PySem.Spec
noncomputable def listOf:V->Option (List V)
 | .list ds=>some ds
 |_=>none
theorem iK{d:V}(h:listOf d=some x):d= .list x:=by cases d <;> first|exact nn h|exact congrArg _ (sj h)
inductive N9:V->List V->Prop
 |list (ds:List V):N9 (.list ds) ds
 |tuple (ds:List V):N9 (.tuple ds) ds
noncomputable def pK:V->Option (List V)
 | .list ds=>some ds
 | .tuple ds=>some ds
 |_=>none
theorem KY{d:V}(h:pK d=some x):N9 d x:=by
 cases d <;> first|exact nn h|(obtain rfl:=sj h; constructor)
theorem jo(h:VR fz (.list ds) v):∃a vs n,v= .ref a/\(a,({ cls:=.type "list",data:=.seq vs.toArray n }:Obj))∈fz/\aU fz vs ds:=by
 cases h with| @list a vs n _ hm hv=>exact⟨a,vs,n,rfl,hm,hv⟩
theorem pG(h:VR fz (.tuple ds) v):∃a vs n,v= .ref a/\(a,({ cls:=.type "tuple",data:=.seq vs.toArray n }:Obj))∈fz/\aU fz vs ds:=by
 cases h with| @tuple a vs n _ hm hv=>exact⟨a,vs,n,rfl,hm,hv⟩
theorem uX:∀ {vs:List Value} {ds:List V},aU fz vs ds->∀i (h:i<ds.length),∃v,vs[i]? =some v/\VR fz ds[i] v:=by
 intro vs ds
 induction ds generalizing vs with
 |nil=>intro _ i h; exact absurd h (Nat.not_lt_zero _)
 | cons d ds ih=>
   intro h i hi
   refine fS (c8 h) fun v us iU a b=>?_
   subst iU
   cases i with
   |zero=>exact⟨v,rfl,a⟩
   |succ i=>exact ih b i (Nat.lt_of_succ_lt_succ hi)
theorem vM:∀ {vs:List Value} {ds:List V} (k:Nat),aU fz vs ds->aU fz (vs.take k) (ds.take k):=by
 intro vs ds k
 induction k generalizing vs ds with
 |zero=>intro _; exact af List.take_zero (af List.take_zero .nil)
 | succ k ih=>
   intro h
   cases h with
   |nil=>exact .nil
   |cons a b=>exact .cons a (ih b)
theorem su(h:aU fz vs ds)(h':aU fz sO ds'):aU fz (vs++sO) (ds++ds'):=by
 induction vs generalizing ds with
 |nil=>cases h; exact h'
 |cons v vs ih=>cases h with|cons a b=>exact .cons a (ih b)
theorem At.row(h:At C o ρ fz s){a:Addr}(hm:(a,ob)∈fz):s.heap.get? a=some ob:=by
 refine At.el h fun h' tk m R F N rp ap lc rf=>?_
 exact(N _ (aJ _ (aH _ hm))).1
theorem At.news(h:At C o ρ fz s):News C.h₀ C.L s.heap fz:=by
 refine At.el h fun h' tk m R F N rp ap lc rf=>?_
 exact fun p hp=>N p (aJ _ (aH _ hp))
noncomputable def iG(n:Nat):Bool:=Nat.ble n 100000
theorem oi{n:Nat}(h:iG n=true):n<=100000:=oW h
noncomputable def z7(op:Operator)(a b:V):Option (Bool×V):=match op with
 | .Add=>opt (listOf a) (fun x=>opt (listOf b) (fun y=>some (iG (x.length+y.length),.list (x++y))) none) none
 |_=>none
noncomputable def L6(x i:V):Option (Bool×V):=opt (pK x) (fun ds=>opt (intOf i) (fun j=>some (decide (0<=j)&&decide (j.toNat<ds.length)&&iG ds.length,ds.getD j.toNat .none)) none) none
noncomputable def vh(ds:List V)(j:Int):List V:=ds.take (if 0<=j then j.toNat else ds.length-(-j).toNat)
noncomputable def Be(x:V)(lo hi:Option V):Option (Bool×V):=opt (listOf x) (fun ds=>opt lo (fun _=>none) (opt hi (fun d=>opt (intOf d) (fun j=>some (iG ds.length,.list (vh ds j))) none) none)) none
open Classical in
noncomputable def iT(op:CmpOp)(a b:V):Option (Bool×V):=match op with
 | .Eq=>opt (pK a) (fun _=>opt (pK b) (fun _=>some (kqdOk 9 a&&kqdOk 9 b,.bool (decide (a=b)))) none) none
 | .NotEq=>opt (pK a) (fun _=>opt (pK b) (fun _=>some (kqdOk 9 a&&kqdOk 9 b,.bool (!decide (a=b)))) none) none
 | .In=>opt (listOf b) (fun ds=>some (kqdOk 9 b&&kqdOk 8 a,.bool (decide (a∈ds)))) none
 | .NotIn=>opt (listOf b) (fun ds=>some (kqdOk 9 b&&kqdOk 8 a,.bool (!decide (a∈ds)))) none
 |_=>none
section
variable {I:Jz}
theorem Bs{l r:Expr}{p:Pos}(ha:bq ai w A C o env ρ l a)(hb:bq ai w A C o env ρ r b)(hc:z7 op a b=some (true,v)):bq ai w A C o env ρ (.BinOp l op r p) v:=by
 cases op with
 | Add=>
   refine au (aq hc) fun x h1 hc=>?_
   refine au (aq hc) fun y h2 hc=>?_
   refine bx (cR (sj hc)) fun hz e=>?_
   rw[iK h1]at ha
   rw[iK h2]at hb
   subst e
   intro fz s Q E h hq
   refine wpAny_BinOp (ha fz s _ E h fun ay s₁ va s1 h1 x1=>hb ay s₁ _ E h1 fun aO aX vb s2 h2 x2=>?_)
   refine cp fun G' k'=>?_
   refine oj (jo (x1.mono s2)) fun a vs n jU hm hv=>?_
   subst jU
   refine oj (jo x2) fun b us n' jU hm' BN=>?_
   subst jU
   refine k' ?_
   refine P.add_list (hsz:=?_) (h2.row hm) (h2.row hm') ?_
   . have hA:=h2.push { cls:=.type "list",data:=.seq (vs.toArray++us.toArray) } rfl
     have hm2:(aX.heap.objs.size,({ cls:=.type "list",data:=.seq (vs++us).toArray }:Obj))∈(aX.heap.objs.size,({ cls:=.type "list",data:=.seq (vs.toArray++us.toArray) }:Obj))::aO:=by rw[<-List.append_toArray]; exact .head _
     exact hq _ _ _ (fun p hp=>.tail _ (s2 p (s1 p hp))) hA (.list (vs:=vs++us) hm2 ((su hv BN).mono fun p hp=>.tail _ hp))
   . have e1:=hv.length
     have e2:=BN.length
     have e3:=oi hz
     refine af dh ?_
     show vs.length+us.length<=_
     lia
 |_=>exact nn hc
theorem Dr{e i:Expr}{p:Pos}(hx:bq ai w A C o env ρ e x)(hi:bq ai w A C o env ρ i j)(hs:tF i=true)(hc:L6 x j=some (true,v)):bq ai w A C o env ρ (.Subscript e i p) v:=by
 refine cp fun G' k'=>?_
 refine au (aq hc) fun ds h1 hc=>?_
 refine au (aq hc) fun k h2 hc=>?_
 refine bx (cR (sj hc)) fun hz e'=>?_
 refine k' ?_
 rw[gx h2]at hi
 have hsq:=KY h1
 simp only[aM,decide_eq_true_eq]at hz
 refine bx hz fun fZ z3=>?_
 obtain⟨z1,z2⟩:=fZ
 have z4:=oi z3
 have hk:k=(k.toNat:Int):=(Int.toNat_of_nonneg z1).symm
 have jl:k<2 ^ 63:=Int.lt_of_le_of_lt (show k<=100000 by refine af hk ?_; exact Int.ofNat_le.mpr (cg (kH z2) z4)) (by decide)
 have e2:ds[k.toNat]=v:=by refine af e'.symm ?_; simp[gn,z2]
 intro fz s Q E h hq
 refine Subscript_ (hx fz s _ E h fun ay s₁ va s1 h1 x1=>hi ay s₁ _ E h1 fun aO aX vb s2 h2 x2=>?_)
 refine Xq x2 fun _=>?_
 have xx:=x1.mono s2
 cases hsq with
 | list=>
   refine oj (jo xx) fun a vs n jU hm hv=>?_
   subst jU
   refine au (uX hv k.toNat z2) fun u e3 hu=>?_
   rw[e2]at hu
   have hl:aX.heap.IsList a vs.toArray:=⟨_,h2.row hm,rfl,n,rfl⟩
   exact tail_any hl.typeIs slot_list_getitem.lookup (wpAny_getItem_list hl z1 jl (by simpa using e3) (hq aO _ _ (fun p hp=>s2 p (s1 p hp)) h2 hu)) (uw hs _ _)
 | tuple=>
   refine oj (pG xx) fun a vs n jU hm hv=>?_
   subst jU
   refine au (uX hv k.toNat z2) fun u e3 hu=>?_
   rw[e2]at hu
   refine item_tupleT (j:=k.toNat) ⟨_,h2.row hm,rfl,n,rfl⟩ (Int.le_trans (by decide) z1) jl ?_ e3 (hq aO _ _ (fun p hp=>s2 p (s1 p hp)) h2 hu) (uw hs _ _)
   exact StrLaws.seqIndex_nonneg z1 (by refine af hv.length ?_; lia)
theorem Ei(hv:aU fz vs ds)(j:Int):aU fz (slicePick vs.toArray none (some j) none).toList (vh ds j):=by
 unfold vh
 by_cases h:0<=j
 . (refine af (if_pos h) (af (show j=(j.toNat:Int)from(Int.toNat_of_nonneg h).symm) ?_); rw[slicePick_upto'])
   exact vM _ hv
 . have h0:0< -j:=Int.neg_pos_of_neg (Int.not_le.mp h)
   rw[if_neg h,show j= -(((-j).toNat:Nat):Int)by(refine af (Int.toNat_of_nonneg (Int.le_of_lt h0)) ?_; rw[Int.neg_neg]),slicePick_butLast _ _ (Int.lt_toNat.mpr h0)]
   simp only[nj,hv.length]
   have e:(-(-(((-j).toNat:Nat):Int))).toNat=(-j).toNat:=by rw[Int.neg_neg]; rfl
   exact af e (vM _ hv)
theorem Ai{e:Expr}{lo hi:Option Expr}{p p':Pos}(hx:bq ai w A C o env ρ e x)(hl:yP ai w A C o env ρ lo l)(hu:yP ai w A C o env ρ hi u)(hc:Be x l u=some (true,v)):bq ai w A C o env ρ (.Subscript e (.Slice lo hi none p') p) v:=by
 refine au (aq hc) fun ds h1 hc=>?_
 rcases fT hc with ⟨_,_,hc⟩|⟨rfl,hc⟩
 . exact nn hc
 refine au (aq hc) fun d fj hc=>?_
 subst fj
 refine au (aq hc) fun j h2 hc=>?_
 refine bx (cR (sj hc)) fun hz e'=>?_
 rw[iK h1]at hx
 obtain rfl:=gx h2
 subst e'
 intro fz s Q E h hq
 refine Subscript_ (hx fz s _ E h fun ay s₁ va s1 h1 x1=>wpAny_Slice (hl ay s₁ _ E h1 fun aO aX vl s2 h2 x2=>hu aO aX _ E h2 fun gz dF vu s3 h3 x3=>evalPart_none_step ?_))
 obtain rfl:vl= .none:=x2
 refine Xq x3 fun t=>?_
 refine oj (jo ((x1.mono s2).mono s3)) fun a vs n jU hm hv=>?_
 subst jU
 have h4:=h3.push { cls:=.type "slice",data:=.fields #[.none,.int j t,.none] } rfl
 have hl:(dF.heap.push { cls:=.type "slice",data:=.fields #[.none,.int j t,.none] }).IsList a vs.toArray:=⟨_,h4.row (.tail _ hm),rfl,n,rfl⟩
 have hz':=oi hz
 have hlen:=hv.length
 refine tail_any (Heap.IsList.typeIs (s:={ dF with heap:=dF.heap.push { cls:=.type "slice",data:=.fields #[.none,.int j t,.none] } }) hl) list_getitem_lookup (wpAny_getItem_list_slice (lo:=none) (hi:=some j) (st:=none) hl (Heap.IsSliceOf.new ..) .none (.int j t) .none (by simp) ?_ (by refine af dh ?_; show vs.length<=_; lia)) rfl
 have h5:=h4.push { cls:=.type "list",data:=.seq (slicePick vs.toArray none (some j) none) } rfl
 have hm2:((dF.heap.push { cls:=.type "slice",data:=.fields #[.none,.int j t,.none] }).objs.size,({ cls:=.type "list",data:=.seq (slicePick vs.toArray none (some j) none).toList.toArray }:Obj))∈((dF.heap.push { cls:=.type "slice",data:=.fields #[.none,.int j t,.none] }).objs.size,({ cls:=.type "list",data:=.seq (slicePick vs.toArray none (some j) none) }:Obj))::(dF.heap.objs.size,({ cls:=.type "slice",data:=.fields #[.none,.int j t,.none] }:Obj))::gz:=by exact af Array.toArray_toList (.head _)
 exact hq _ _ _ (fun p hp=>.tail _ (.tail _ (s3 p (s2 p (s1 p hp))))) h5 (.list hm2 ((Ei hv j).mono fun p hp=>.tail _ (.tail _ hp)))
open Classical in
theorem Hh(ha:kqdOk 9 a=true)(hb:kqdOk 9 b=true):PyData.eqv (kqdP a) (kqdP b)=decide (a=b):=by
 have q:=kqd_eqv 9 a b 9 ha hb
 by_cases hq:a=b
 . exact af (decide_eq_true hq) (q.mpr hq)
 . exact af (decide_eq_false hq) (Bool.eq_false_iff.mpr fun x=>hq (q.mp x))
theorem qo(ha:kqdOk 9 a=true):SeqAt.shaped (kqdP a)=true:=by
 have l:=kqd_lay 9 a ha
 unfold SeqAt.shaped
 (refine af l.1 ?_; rw[Bool.true_and])
 exact decide_eq_true (cg l.2 (by decide))
theorem xW(h:At C o ρ fz s)(xa:VR fz a va)(xb:VR fz b vb)(hu:A.units+64<cLine)(hc:iT op a b=some (true,v))(hq:∀v',VR fz v v'->Q v' s):
   wpAny (model ai w) A (kI op va vb) Q E s:=by
 cases op with
 | Eq=>
   refine au (aq hc) fun _ h1 hc=>?_
   refine au (aq hc) fun _ h2 hc=>?_
   refine bx (cR (sj hc)) fun hz e=>?_
   subst e
   rw[aM]at hz
   refine cE (kqd_in h.news 9 xa hz.1) fun as ra=>?_
   refine cE (kqd_in h.news 9 xb hz.2) fun bs rb=>?_
   exact eq_dataH ra rb (qo hz.1) (qo hz.2) hu (af (Hh hz.1 hz.2) (hq _ (.bool _)))
 | NotEq=>
   refine au (aq hc) fun _ h1 hc=>?_
   refine au (aq hc) fun _ h2 hc=>?_
   refine bx (cR (sj hc)) fun hz e=>?_
   subst e
   rw[aM]at hz
   refine cE (kqd_in h.news 9 xa hz.1) fun as ra=>?_
   refine cE (kqd_in h.news 9 xb hz.2) fun bs rb=>?_
   exact ne_dataH ra rb (qo hz.1) (qo hz.2) hu (af (Hh hz.1 hz.2) (hq _ (.bool _)))
 | In=>
   refine au (aq hc) fun ds h1 hc=>?_
   refine bx (cR (sj hc)) fun hz e=>?_
   subst e
   rw[aM]at hz
   have Ti:=hz.1
   rw[iK h1]at xb Ti
   refine oj (jo xb) fun c vs n jU hm hv=>?_
   subst jU
   exact kqd_isIn h.news hm rfl rfl hv (fun _ h=>h) xa (fun _ h=>h) (by simpa [kqdOk]using Ti) hz.2 hu (hq _ (.bool _))
 | NotIn=>
   refine au (aq hc) fun ds h1 hc=>?_
   refine bx (cR (sj hc)) fun hz e=>?_
   subst e
   rw[aM]at hz
   have Ti:=hz.1
   rw[iK h1]at xb Ti
   refine oj (jo xb) fun c vs n jU hm hv=>?_
   subst jU
   exact kqd_notIn h.news hm rfl rfl hv (fun _ h=>h) xa (fun _ h=>h) (by simpa [kqdOk]using Ti) hz.2 hu (hq _ (.bool _))
 |_=>exact nn hc
theorem Hg{p:Pos}(ha:bq ai w A C o env ρ l a)(hb:bq ai w A C o env ρ r b)(hm:jK op r=false)(hu:A.units+64<cLine)(hc:iT op a b=some (true,v)):
   bq ai w A C o env ρ (.Compare l [op] [r] p) v:=by
 intro fz s Q E h hq
 refine wpAny_Compare1 (ha fz s _ E h fun ay s₁ va s1 h1 x1=>hb ay s₁ _ E h1 fun aO aX vb s2 h2 x2=>?_) hm
 exact xW h2 (x1.mono s2) x2 hu hc fun v x=>hq aO _ v (fun p hp=>s2 p (s1 p hp)) h2 x
theorem AM{p:Pos}{t:Bool}(ha:bq ai w A C o env ρ l a)(hb:bq ai w A C o env ρ r b)(hm:jK op r=false)(hu:A.units+64<cLine)(hc:iT op a b=some (true,v))(ht:ir v=some t):
   gi ai w A C o env ρ (.Compare l [op] [r] p) t:=by
 intro fz s Q E h hq
 refine lT (ha fz s _ E h fun ay s₁ va s1 h1 x1=>hb ay s₁ _ E h1 fun aO aX vb s2 h2 x2=>?_) hm
 exact xW h2 (x1.mono s2) x2 hu hc fun v x=>cF x ht fun lG=>hq aO _ (fun p hp=>s2 p (s1 p hp)) (h2.toks lG)
end
end
noncomputable def RO(v:V)(t:Bool):V:=match v with
 | .bool _=>.bool t
 |v=>v
theorem Bq{t:Bool}(h:ir v=some t):RO v t=v:=by
 cases v <;> first|rfl|exact congrArg _ (sj h).symm
noncomputable def dQ:Expr->Option Str
 | .Name x _=>some x
 |_=>none
theorem dP{x:Str}(h:dQ e=some x):∃p,e= .Name x p:=by
 cases e <;> first|exact nn h|exact⟨_,congrArg (Expr.Name · _) (sj h)⟩
noncomputable def rj:Expr->Option (Expr×Str×Pos)
 | .Attribute v a p=>some (v,a,p)
 |_=>none
theorem jq(h:rj e=some x):e= .Attribute x.1 x.2.1 x.2.2:=by
 cases e <;> first|exact nn h|(obtain rfl:=sj h; rfl)
noncomputable def AI:Expr->Option (List Expr×Nat×Pos)
 | .Tuple es n p=>some (es,n,p)
 |_=>none
theorem uq(h:AI e=some x):e= .Tuple x.1 x.2.1 x.2.2:=by
 cases e <;> first|exact nn h|(obtain rfl:=sj h; rfl)
noncomputable def J7:Expr->Option (Option Expr×Option Expr×Pos)
 | .Slice lo hi st p=>match st with
   |none=>some (lo,hi,p)
   |some _=>none
 |_=>none
theorem HS(h:J7 e=some x):e= .Slice x.1 x.2.1 none x.2.2:=by
 cases e with
 | Slice lo hi st p=>cases st with
   |none=>obtain rfl:=sj h; rfl
   |some=>exact nn h
 |_=>exact nn h
noncomputable def mZ:Expr->Pos
 | .Name _ p=>p
 |_=>⟨0,0,0,0⟩
theorem iz{x:Str}(h:dQ e=some x):e= .Name x (mZ e):=by
 obtain⟨p,rfl⟩:=dP h; rfl
noncomputable def wW:Expr->Option (Expr×List Expr×Pos)
 | .Call g args kw p=>gate kw.isEmpty (some (g,args,p)) none
 |_=>none
theorem nF(h:wW e=some x):e= .Call x.1 x.2.1 [] x.2.2:=by
 cases e with
 | Call g args kw p=>
   refine bx (bA h) fun hk h=>?_
   obtain rfl:=sj h
   exact congrArg (Expr.Call g args · p) (oV.mp hk)
 |_=>exact nn h
noncomputable def vStr:Expr->Option (Str×Nat×Pos)
 | .Constant c k p=>match c with
   | .str s=>some (s,k,p)
   |_=>none
 |_=>none
theorem OW(h:vStr e=some x):e= .Constant (.str x.1) x.2.1 x.2.2:=by
 cases e with
 |Constant c k p=>cases c <;> first|exact nn h|(obtain rfl:=sj h; rfl)
 |_=>exact nn h
noncomputable def J9:Stmt->Option (Expr×Pos)
 | .Expr e p=>some (e,p)
 |_=>none
theorem BR{st:Stmt}(h:J9 st=some x):st= .Expr x.1 x.2:=by
 cases st <;> first|exact nn h|(obtain rfl:=sj h; rfl)
section
variable {β:Type}(br:Bool->β->β->β)(I:Jz)(ρ:Loc)(f:β)(ev:Expr->(V->β)->β)
noncomputable def Ff:List Expr->(List V->β)->β
 | [],k=>k []
 |e::r,k=>ev e fun v=>Ff r fun vs=>k (v::vs)
noncomputable def WN:Option Expr->(Option V->β)->β
 |none,k=>k none
 |some e,k=>ev e fun v=>k (some v)
noncomputable def TR(op:CmpOp)(l r:Expr)(k:V->β):β:=opt (AI r)
 (fun q=>gate (op.ctorIdx==8&&q.1.all notStar) (ev l fun a=>Ff ev q.1 fun vs=>gate (Nat.ble vs.length 1000) (opt (GR a vs) k f) f) f)
 (gate (jK op r) f (ev l fun a=>ev r fun b=>opt (iT op a b) (fun q=>gate I.big (br q.1 (k q.2) f) f) (opt (lP op a b) k f)))
noncomputable def TQ(op Ij:CmpOp)(l m r:Expr)(k:V->β):β:=gate (jK Ij r) f (ev l fun a=>ev m fun b=>opt (lP op a b) (fun c=>dj br f c fun t=>
 br t (ev r fun d=>opt (lP Ij b d) k f) (k (RO c false))) f)
noncomputable def TS(op:BoolOp)(es:List Expr)(p:Pos)(k:V->β):β:=match es with
 | []=>f
 | e ::r=>match r with
   | []=>ev e k
   | e'::rest=>ev e fun v=>dj br f v fun t=>match op with
     | .And=>br t (ev (.BoolOp .And (e'::rest) p) k) (k (RO v false))
     | .Or=>br t (k (RO v true)) (ev (.BoolOp .Or (e'::rest) p) k)
noncomputable def Yt(v i:Expr)(k:V->β):β:=opt (J7 i)
 (fun q=>ev v fun x=>WN ev q.1 fun l=>WN ev q.2.1 fun h=>opt (Be x l h) (fun q=>br q.1 (k q.2) f) (UE br f x l h k))
 (gate (tF i) (ev v fun x=>ev i fun j=>opt (L6 x j) (fun q=>br q.1 (k q.2) f) (ZV br f x j k)) f)
noncomputable def j0(g:Expr)(args:List Expr)(p:Pos)(k:V->β):β:=opt (rj g)
 (fun q=>gate (args.all notStar&& !args.isEmpty&&tG q.1&&Nat.ble args.length 4&&q.2.2.endLine==p.line) (ev q.1 fun x=>Ff ev args fun vs=>opt (S3 (oG q.2.1) x vs) k f) f)
 (opt (dQ g) (fun g=>gate (args.all notStar&& !args.isEmpty) (Ff ev args fun vs=>opt (I.j0 g vs) (fun gv=>br gv.1 (k gv.2) f) f) f) f)
noncomputable def TM(e:Expr)(k:V->β):β:=match e with
 | .Name x _=>gate (I.names.contains x&&x !="__debug__") (opt (ρ.lookup x) k f) (opt (I.nm x) k f)
 | .Constant c _ _=>opt (NF c) k f
 | .Attribute v a _=>opt (dQ v) (fun y=>gate (y==I.self) (opt (I.attr a) k f) f) f
 | .Compare l ops rs _=>opt (one ops) (fun op=>opt (one rs) (fun r=>TR br I f ev op l r k) f) (opt (two ops) (fun q=>opt (two rs) (fun u=>TQ br f ev q.1 q.2 l u.1 u.2 k) f) f)
 | .BoolOp op es p=>TS br f ev op es p k
 | .UnaryOp op x _=>match op with
   | .Not=>ev x fun v=>dj br f v fun t=>k (.bool (!t))
   | .USub=>ev x fun v=>x7 f v fun i=>k (.int (-i))
   |_=>f
 | .BinOp l op r _=>ev l fun a=>ev r fun b=>opt (z7 op a b) (fun q=>br q.1 (k q.2) f) (NT br f op a b k)
 | .IfExp t b o _=>ev t fun v=>dj br f v fun c=>br c (ev b k) (ev o k)
 | .Subscript v i _=>Yt br f ev v i k
 | .Call g args kw p=>gate kw.isEmpty (j0 br I f ev g args p k) f
 | .Tuple es _ _=>gate (es.all notStar) (Ff ev es fun vs=>gate (Nat.ble vs.length 1000) (k (.tuple vs)) f) f
 | .List es _=>gate (es.all notStar) (Ff ev es fun vs=>gate (Nat.ble vs.length 1000) (k (.list vs)) f) f
 | .ListComp el gs sc p=>opt (I.cv ρ (.ListComp el gs sc p)) k f
 |_=>f
noncomputable def jZ:Nat->Expr->(V->β)->β
 |0=>fun _ _=>f
 |n+1=>TM br I ρ f (jZ n)
end
section
variable {I:Jz}
def qj(ai:cB)(w:World)(A:cy)(C:Cx O)(o:O)(env:Env)(ρ:Loc)(e:Expr)(v:V):Prop:=
 bq ai w A C o env ρ e v/\∀t,ir v=some t->gi ai w A C o env ρ e t
def D9(ai:cB)(w:World)(A:cy)(C:Cx O)(o:O)(env:Env)(ρ:Loc){γ:Type}(r:γ)(ev:Expr->(V->Option γ)->Option γ):Prop:=∀e k,ev e k=some r->∃v,qj ai w A C o env ρ e v/\k v=some r
theorem eB(h:bq ai w A C o env ρ e v)(hp:zI e=true):qj ai w A C o env ρ e v:=⟨h,fun _ ht=>jr h ht hp⟩
theorem Jt{p:Pos}(h:bq ai w A C o env ρ (.ListComp el gs sc p) v):qj ai w A C o env ρ (.ListComp el gs sc p) v:=
 ⟨h,fun t ht fz s Q E hA hq=>isTrue_plain (h fz s _ E hA fun ay s₁ va s1 h1 x1=>cF x1 ht fun tk=>hq ay _ s1 (h1.toks tk)) rfl⟩
section
variable {γ:Type}{r:γ}{ev:Expr->(V->Option γ)->Option γ}
theorem qE(hs:D9 ai w A C o env ρ r ev):∀(es:List Expr) (k:List V->Option γ),Ff ev es k=some r->es.all notStar=true->∃vs,n7 ai w A C o env ρ es vs/\k vs=some r
 | [],k,h,_=>⟨[],fC,h⟩
 | e::es,k,h,ha=>by
   rw[fQ,aM]at ha
   refine au (hs e _ h) fun v hv h=>?_
   refine au (qE hs es _ h ha.2) fun vs XC h=>?_
   exact⟨v::vs,cC ha.1 hv.1 XC,h⟩
theorem G9(hs:D9 ai w A C o env ρ r ev)(h:WN ev e k=some r):∃v,yP ai w A C o env ρ e v/\k v=some r:=by
 cases e with
 |none=>exact⟨none,Dn,h⟩
 | some e=>
   refine au (hs e _ h) fun v hv h=>?_
   exact⟨some v,Dm hv.1,h⟩
theorem NK(K:zl ai w A C o env I)(hs:D9 ai w A C o env ρ r ev){p:Pos}(h:TR bE I none ev op l r' k=some r):∃v,qj ai w A C o env ρ (.Compare l [op] [r'] p) v/\k v=some r:=by
 rcases fT h with ⟨⟨es,n,p'⟩,h1,h⟩|⟨_,h⟩
 . obtain rfl:=uq h1
   refine bx (bA h) fun h2 h=>?_
   rw[aM]at h2
   refine au (hs _ _ h) fun a ha h=>?_
   refine au (qE hs _ _ h h2.2) fun ds hd h=>?_
   refine bx (bA h) fun hz h=>?_
   refine au (aq h) fun v hv hk=>?_
   have hz:=oW hz
   have ho:op= .In:=by have:=h2.1; cases op <;> first|rfl|exact cX this rfl rfl
   subst ho
   exact⟨v,⟨Nr ha.1 hd hz hv,fun t ht=>Kn ha.1 hd hz hv ht⟩,hk⟩
 . refine bx (Dd h) fun hm h=>?_
   refine au (hs _ _ h) fun a ha h=>?_
   refine au (hs _ _ h) fun b hb h=>?_
   rcases fT h with ⟨⟨g,v⟩,hv,h⟩|⟨_,h⟩
   . refine bx (bA h) fun hg h=>?_
     refine bx (lq (c:=g) h) fun e h=>?_
     subst e
     exact⟨v,⟨Hg ha.1 hb.1 hm (K.v9 hg) hv,fun t ht=>AM ha.1 hb.1 hm (K.v9 hg) hv ht⟩,h⟩
   . refine au (aq h) fun v hv h=>?_
     exact⟨v,⟨WT ha.1 hb.1 hm hv,fun t ht=>wZ ha.1 hb.1 hm hv ht⟩,h⟩
theorem NJ(hs:D9 ai w A C o env ρ r ev){p:Pos}(h:TQ bE none ev op Ij l m r' k=some r):∃v,qj ai w A C o env ρ (.Compare l [op,Ij] [m,r'] p) v/\k v=some r:=by
 refine bx (Dd h) fun hm h=>?_
 refine au (hs _ _ h) fun a ha h=>?_
 refine au (hs _ _ h) fun b hb h=>?_
 refine au (aq h) fun c hc h=>?_
 refine au (jd h) fun t ht h=>?_
 cases t with
 | true=>
   refine au (hs r' _ h) fun d hd h=>?_
   refine au (aq h) fun v hv h=>?_
   exact⟨v,⟨Dt ha.1 hb.1 hm hc ht ⟨d,hd.1,hv⟩,fun t ht'=>BV ha.1 hb.1 hm hc ht ⟨d,v,hd.1,hv,ht'⟩⟩,h⟩
 |false=>exact⟨c,⟨Dt ha.1 hb.1 hm hc ht rfl,fun t ht'=>BV ha.1 hb.1 hm hc ht (sj (ht'.symm.trans ht))⟩,(congrArg k (Bq ht)).symm.trans h⟩
theorem NS(hs:D9 ai w A C o env ρ r ev){p:Pos}(h:TS bE none ev op es p k=some r):∃v,qj ai w A C o env ρ (.BoolOp op es p) v/\k v=some r:=by
 cases es with
 |nil=>exact nn h
 | cons e rest=>cases rest with
   | nil=>
     refine au (hs _ _ h) fun v hv h=>?_
     exact⟨v,⟨hv.1,fun t ht=>rX (hv.2 t ht)⟩,h⟩
   | cons e' rest=>
     refine au (hs e _ h) fun a ha h=>?_
     refine au (jd h) fun t ht h=>?_
     cases op with
     | And=>cases t with
       | true=>
         refine au (hs _ _ h) fun v hv h=>?_
         exact⟨v,⟨Nt ha.1 ht hv.1,fun z hz=>kW (ha.2 _ ht) (hv.2 z hz)⟩,h⟩
       |false=>exact⟨a,⟨Nt ha.1 ht rfl,fun z hz=>kW (ha.2 _ ht) (sj (hz.symm.trans ht))⟩,(congrArg k (Bq ht)).symm.trans h⟩
     | Or=>cases t with
       | false=>
         refine au (hs _ _ h) fun v hv h=>?_
         exact⟨v,⟨TN ha.1 ht hv.1,fun z hz=>SI (ha.2 _ ht) (hv.2 z hz)⟩,h⟩
       |true=>exact⟨a,⟨TN ha.1 ht rfl,fun z hz=>SI (ha.2 _ ht) (sj (hz.symm.trans ht))⟩,(congrArg k (Bq ht)).symm.trans h⟩
theorem Pg(hs:D9 ai w A C o env ρ r ev){p:Pos}(h:Yt bE none ev v i k=some r):∃x,qj ai w A C o env ρ (.Subscript v i p) x/\k x=some r:=by
 rcases fT h with ⟨⟨lo,hi,p'⟩,h1,h⟩|⟨_,h⟩
 . obtain rfl:=HS h1
   refine au (hs _ _ h) fun a ha h=>?_
   refine au (G9 hs h) fun l hl h=>?_
   refine au (G9 hs h) fun u hu h=>?_
   rcases fT h with ⟨⟨g,x⟩,hv,h⟩|⟨_,h⟩
   . refine bx (lq (c:=g) h) fun e h=>?_
     subst e
     exact⟨x,eB (Ai ha.1 hl hu hv) rfl,h⟩
   refine au (wm h) fun y h3 h=>?_
   obtain⟨l',e1,h⟩:∃l',l=xJ l'/\(Sd none u fun h=>gate (l'.isSome||h.isSome) (bE (strOk y) (k (.str (di y l' h))) none) none)=some r:=by
     rcases Hi h with ⟨e,h⟩|⟨i,e,h⟩
     . exact⟨none,e,h⟩
     . exact⟨some i,e,h⟩
   obtain⟨u',e2,h⟩:∃u',u=xJ u'/\gate (l'.isSome||u'.isSome) (bE (strOk y) (k (.str (di y l' u'))) none) none=some r:=by
     rcases Hi h with ⟨e,h⟩|⟨i,e,h⟩
     . exact⟨none,e,h⟩
     . exact⟨some i,e,h⟩
   refine bx (bA h) fun h4 h=>?_
   refine bx (lq h) fun h5 hk=>?_
   subst h3 e1 e2
   exact⟨_,eB (Nm ha.1 hl hu h5 h4) rfl,hk⟩
 . refine bx (bA h) fun h2 h=>?_
   refine au (hs _ _ h) fun a ha h=>?_
   refine au (hs _ _ h) fun j hj h=>?_
   rcases fT h with ⟨⟨g,x⟩,hv,h⟩|⟨_,h⟩
   . refine bx (lq (c:=g) h) fun e h=>?_
     subst e
     exact⟨x,eB (Dr ha.1 hj.1 h2 hv) rfl,h⟩
   refine au (wm h) fun y e1 h=>?_
   refine au (kC h) fun i' e2 h=>?_
   refine bx (lq h) fun h3 hk=>?_
   subst e1 e2
   exact⟨_,eB (RV ha.1 hj.1 h2 h3) rfl,hk⟩
theorem Js(K:zl ai w A C o env I)(hs:D9 ai w A C o env ρ r ev){p:Pos}(h:j0 bE I none ev g args p k=some r):∃x,qj ai w A C o env ρ (.Call g args [] p) x/\k x=some r:=by
 have ne:∀ {args:List Expr},(!args.isEmpty)=true->args≠ []:=fun h e=>by subst e; exact u7 h
 rcases fT h with ⟨⟨v,m,p'⟩,h1,h⟩|⟨_,h⟩
 . obtain rfl:=jq h1
   refine bx (bA h) fun h2 h=>?_
   simp only[aM]at h2
   refine bx h2 fun fZ c5=>?_
   obtain⟨⟨⟨c1,c2⟩,c3⟩,c4⟩:=fZ
   refine au (hs _ _ h) fun a ha h=>?_
   refine au (qE hs _ _ h c1) fun ds hd h=>?_
   refine au (aq h) fun v hv h=>?_
   exact⟨v,eB (RU ha.1 hd c1 (ne c2) c3 (oW c4) c5 hv) rfl,h⟩
 . refine au (aq h) fun g' h1 h=>?_
   refine cE (dP h1) fun q fj=>?_
   subst fj
   refine bx (bA h) fun h2 h=>?_
   rw[aM]at h2
   refine au (qE hs _ _ h h2.1) fun ds hd h=>?_
   refine au (aq h) fun fZ hv h=>?_
   obtain⟨gd,v⟩:=fZ
   refine bx (lq (c:=gd) h) fun e hk=>?_
   subst e
   exact⟨v,eB (RX K hd h2.1 (ne h2.2) hv) rfl,hk⟩
theorem Jb(K:zl ai w A C o env I)(hs:D9 ai w A C o env ρ r ev):D9 ai w A C o env ρ r (TM bE I ρ none ev):=by
 intro e k h
 cases e with
 | Name x p=>
   cases hx:(I.names.contains x&&x !="__debug__")with
   | true=>
     have h:gate (I.names.contains x&&x !="__debug__") _ _=some r:=h
     rw[hx]at h
     refine au (aq h) fun v hv h=>?_
     rw[aM]at hx
     exact⟨v,eB (K.name _ _ _ _ hx.1 hx.2 hv) rfl,h⟩
   | false=>
     have h:gate (I.names.contains x&&x !="__debug__") _ _=some r:=h
     rw[hx]at h
     refine au (aq h) fun v hv h=>?_
     exact⟨v,eB (K.LD _ _ hv _ _) rfl,h⟩
 | Constant c n p=>
   refine au (aq h) fun v hv h=>?_
   exact⟨v,eB (fq hv) rfl,h⟩
 | Attribute y a p=>
   refine au (aq h) fun y' h1 h=>?_
   refine cE (dP h1) fun q fj=>?_
   subst fj
   refine bx (bA h) fun hy h=>?_
   refine au (aq h) fun v hv hk=>?_
   obtain rfl:=eq_of_beq hy
   exact⟨v,eB (K.attr a v hv ρ q p) rfl,hk⟩
 | Compare l ops rs p=>
   rcases fT h with ⟨op,h1,k1⟩|⟨_,k1⟩
   . refine au (aq k1) fun r' h2 k2=>?_
     obtain rfl:=gF h1
     obtain rfl:=gF h2
     exact NK K hs k2
   . refine au (aq k1) fun fZ h1 k2=>?_
     obtain⟨op,Ij⟩:=fZ
     refine au (aq k2) fun fZ h2 k3=>?_
     obtain⟨m,r'⟩:=fZ
     obtain rfl:=rS h1
     obtain rfl:=rS h2
     exact NJ hs k3
 |BoolOp op es p=>exact NS hs h
 | UnaryOp op x p=>cases op with
   | Not=>
     refine au (hs x _ h) fun a ha h=>?_
     refine au (jd h) fun t ht h=>?_
     exact⟨_,⟨WQ ha.1 ht,fun z hz=>by obtain rfl:=sj hz; exact AL (ha.2 _ ht)⟩,h⟩
   | USub=>
     refine au (hs x _ h) fun a ha h=>?_
     refine au (kC (d:=a) h) fun i fj h=>?_
     subst fj
     exact⟨_,eB (WR ha.1) rfl,h⟩
   |_=>exact nn h
 | BinOp l op r' p=>
   refine au (hs l _ h) fun a ha h=>?_
   refine au (hs r' _ h) fun b hb h=>?_
   rcases fT h with ⟨⟨g,v⟩,hv,h⟩|⟨_,h⟩
   . refine bx (lq (c:=g) h) fun e h=>?_
     subst e
     exact⟨v,eB (Bs ha.1 hb.1 hv) rfl,h⟩
   obtain⟨v,hv,h⟩:=Hx h
   exact⟨v,eB (RY ha.1 hb.1 hv) rfl,h⟩
 | IfExp c b e p=>
   refine au (hs c _ h) fun a ha h=>?_
   refine au (jd h) fun t ht h=>?_
   cases t with
   | true=>
     refine au (hs b _ h) fun v hv h=>?_
     exact⟨v,⟨Ds (ha.2 _ ht) hv.1,fun z hz=>SJ (ha.2 _ ht) (hv.2 z hz)⟩,h⟩
   | false=>
     refine au (hs e _ h) fun v hv h=>?_
     exact⟨v,⟨Ds (ha.2 _ ht) hv.1,fun z hz=>SJ (ha.2 _ ht) (hv.2 z hz)⟩,h⟩
 |Subscript v i p=>exact Pg hs h
 | Call g args kw p=>
   refine bx (bA h) fun hk h=>?_
   cases kw with
   |nil=>exact Js K hs h
   |cons=>exact absurd hk u7
 | Tuple es n p=>
   refine bx (bA h) fun h1 h=>?_
   refine au (qE hs _ _ h h1) fun ds hd h=>?_
   refine bx (bA h) fun hz h=>?_
   exact⟨_,⟨Dp hd (oW hz),fun t ht=>nn ht⟩,h⟩
 | List es p=>
   refine bx (bA h) fun h1 h=>?_
   refine au (qE hs _ _ h h1) fun ds hd h=>?_
   refine bx (bA h) fun hz h=>?_
   exact⟨_,⟨Br hd (oW hz),fun t ht=>nn ht⟩,h⟩
 | ListComp el gs sc p=>
   refine au (aq h) fun v hv h=>?_
   exact⟨v,Jt (K.Hl _ _ _ hv),h⟩
 |_=>exact nn h
theorem jD(K:zl ai w A C o env I)(ρ:Loc){γ:Type}{r:γ}:∀n,D9 ai w A C o env ρ r (jZ bE I ρ none n)
 |0=>fun _ _=>nn
 |n+1=>Jb K (jD K ρ n)
end
end
section
set_option tactic.hygienic true
inductive Fl where
 |next|brk|cont|ret (v:V)|exc (k:Nat)
structure pD(O:Type) where
 names:List Str
 self:Str
 attr:O->Str->Option V
 uz:O->Str->V->Option O
 j0:O->Str->List V->Option (Bool×V)
 prim:O->Loc->Stmt->Option (O×Loc×Fl)
 push:O->Str->V->Option (Bool×O):=fun _ _ _=>none
 give:O->Str->Option (O×V):=fun _ _=>none
 oZ:O->Loc->Stmt->Option (Bool×O×Loc×Fl):=fun _ _ _=>none
 nm:O->Str->Option V:=fun _ _=>none
 cv:O->Loc->Expr->Option V:=fun _ _ _=>none
 big:Bool:=false
 KW:O->Str->V->Option O:=fun _ _ _=>none
noncomputable def pD.fh(I:pD O)(o:O):Jz:=⟨I.names,I.self,I.attr o,I.j0 o,I.nm o,I.cv o,I.big⟩
noncomputable def namesOf:List Expr->Option (List Str)
 | []=>some []
 |e::r=>opt (dQ e) (fun x=>opt (namesOf r) (fun xs=>some (x::xs)) none) none
noncomputable def sU(ts:List Expr)(k:Nat)(p:Pos)(value:Expr)(env:Env):Option (Option (List Str)):=
 match swappedStores [.Tuple ts k p] value env with
 | .pure r=>some r
 |_=>mK
theorem xd{k:Nat}{p:Pos}{r:Option (List Str)}(h:sU ts k p value env=some r):swappedStores [.Tuple ts k p] value env=pure r:=by
 revert h; unfold sU
 cases swappedStores [.Tuple ts k p] value env with
 |pure q=>exact fun h=>congrArg Sem.pure (sj h)
 |_=>exact nn
noncomputable def bindAll:List Str->List V->Loc->Loc
 |x::xs,v::vs,ρ=>bindAll xs vs ((x,v)::ρ)
 |_,_,ρ=>ρ
noncomputable def Uw(r:Option (List Str))(xs:List Str):Bool:=match r with
 |some ys=>ys==xs
 |mK=>true
noncomputable def F4(r:Option (List Str))(xs:List Str)(vs:List V)(ρ:Loc):Loc:=match r with
 |some _=>bindAll xs.reverse vs.reverse ρ
 |mK=>bindAll xs vs ρ
noncomputable def SH:V->Option (List V)
 | .tuple vs=>some vs
 |_=>none
theorem Kh{d:V}(h:SH d=some x):d= .tuple x:=by cases d <;> first|exact nn h|exact congrArg _ (sj h)
section
variable {O β:Type}(br:Bool->β->β->β)(I:pD O)(env:Env)(f:β)(ev:O->Loc->Expr->(V->β)->β)(bl:O->Loc->List Stmt->(O->Loc->Fl->β)->β)
noncomputable def aaB(o:O)(ρ:Loc)(t e:Expr)(k:O->Loc->Fl->β):β:=opt (dQ t)
 (fun x=>gate (I.names.contains x) (gate (mY e) (ev o ρ e fun v=>k o ((x,v)::ρ) .next) f) (ev o ρ e fun v=>opt (I.KW o x v) (fun o'=>k o' ρ .next) f))
 (opt (AI t) (fun q=>opt (namesOf q.1) (fun xs=>opt (sU q.1 q.2.1 q.2.2 e env) (fun r=>gate (xs.all I.names.contains&&mY e&&Uw r xs) (ev o ρ e fun v=>opt (SH v) (fun vs=>gate (xs.length==vs.length) (k o (F4 r xs vs ρ) .next) f) f) f) f) f)
   (opt (rj t) (fun q=>opt (dQ q.1) (fun y=>gate (y==I.self&&mY e) (ev o ρ e fun v=>opt (I.uz o q.2.1 v) (fun o'=>k o' ρ .next) f) f) f) f))
noncomputable def aaA(o:O)(ρ:Loc)(t:Expr)(op:Operator)(e:Expr)(k:O->Loc->Fl->β):β:=opt (rj t)
 (fun q=>opt (dQ q.1) (fun y=>gate (y==I.self) (opt (I.attr o q.2.1) (fun u=>ev o ρ e fun v=>Z0 br f op u v fun r=>opt (I.uz o q.2.1 r) (fun o'=>k o' ρ .next) f) f) f) f) f
noncomputable def aal(o:O)(e:Expr):Option (Expr×O×V):=opt (AI e) (fun q=>opt (two q.1) (fun u=>opt (dQ u.1) (fun x=>opt (I.give o x) (fun r=>some (u.2,r)) none) none) none) none
noncomputable def YR(o:O)(ρ:Loc)(e:Expr)(k:O->Loc->Fl->β):β:=opt (aal I o e)
 (fun g=>gate (notStar g.1) (ev o ρ g.1 fun v=>k g.2.1 ρ (.ret (.tuple [g.2.2,v]))) f)
 (ev o ρ e fun v=>k o ρ (.ret v))
noncomputable def SG(e:Expr):Option (Str×Pos×Expr×Pos×Pos):=opt (wW e) (fun c=>opt (rj c.1) (fun q=>opt (dQ q.1) (fun x=>opt (one c.2.1) (fun e=>gate (q.2.1=="append") (some (x,mZ q.1,e,q.2.2,c.2.2)) none) none) none) none) none
noncomputable def SX(o:O)(ρ:Loc)(e:Expr)(k:O->Loc->Fl->β):β:=opt (SG e)
 (fun q=>gate (notStar q.2.2.1&&q.2.2.2.1.endLine==q.2.2.2.2.line) (ev o ρ q.2.2.1 fun v=>opt (I.push o q.1 v) (fun go=>br go.1 (k go.2 ρ .next) f) f) f) f
noncomputable def stF(o:O)(ρ:Loc)(st:Stmt)(k:O->Loc->Fl->β):β:=match st with
 | .Assign ts e _=>opt (one ts) (fun t=>aaB I env f ev o ρ t e k) f
 | .AugAssign t op e _=>aaA br I f ev o ρ t op e k
 | .If t b e _=>ev o ρ t fun v=>dj br f v fun c=>br c (bl o ρ b k) (bl o ρ e k)
 | .Pass _=>k o ρ .next
 | .Break _=>k o ρ .brk
 | .Continue _=>k o ρ .cont
 | .Return e _=>opt e (fun e=>YR I f ev o ρ e k) f
 | .Expr e _=>SX br I f ev o ρ e k
 |_=>f
noncomputable def Nl(o:O)(ρ:Loc)(st:Stmt)(k:O->Loc->Fl->β):β:=opt (I.prim o ρ st) (fun r=>k r.1 r.2.1 r.2.2)
 (opt (I.oZ o ρ st) (fun gr=>br gr.1 (k gr.2.1 gr.2.2.1 gr.2.2.2) f) (stF br I env f ev bl o ρ st k))
noncomputable def YI(st:O->Loc->Stmt->(O->Loc->Fl->β)->β)(o:O)(ρ:Loc)(b:List Stmt)(k:O->Loc->Fl->β):β:=match b with
 | []=>k o ρ .next
 | s::r=>st o ρ s fun o' ρ' fl=>match fl with
   | .next=>bl o' ρ' r k
   |fl=>k o' ρ' fl
noncomputable def d7:Nat->O->Loc->List Stmt->(O->Loc->Fl->β)->β
 |0=>fun _ _ _ _=>f
 |n+1=>YI (d7 n) (Nl br I env f (fun o ρ=>jZ br (I.fh o) ρ f n) (d7 n))
noncomputable def cu(n:Nat):O->Loc->Stmt->(O->Loc->Fl->β)->β:=Nl br I env f (fun o ρ=>jZ br (I.fh o) ρ f n) (d7 br I env f n)
end
section
variable {I:pD O}{sa:Addr}
def FlQ(X:Nat->Led->ak->(Value->ak->Prop)->Prop)(fl:Fl)(fz:Led)(Q:Flow->ak->Prop)(E:Value->ak->Prop)(s:ak):Prop:=
 match fl with
 | .next=>Q .next s
 | .brk=>Q .brk s
 | .cont=>Q .cont s
 | .ret d=>∀v,VR fz d v->Q (.ret v) s
 | .exc k=>X k fz s E
def cK(ai:cB)(w:World)(A:cy)(C:Cx O)(env:Env)(X:Nat->Led->ak->(Value->ak->Prop)->Prop)(o:O)(ρ:Loc)(st:Stmt)(r:O×Loc×Fl):Prop:=
 ∀(fz:Led) (s:ak) (Q:Flow->ak->Prop) (E:Value->ak->Prop),At C o ρ fz s->(∀aT s',Sub fz aT->At C r.1 r.2.1 aT s'->FlQ X r.2.2 aT Q E s')->wpAny (model ai w) A (exec st env) Q E s
def gy(ai:cB)(w:World)(A:cy)(C:Cx O)(env:Env)(X:Nat->Led->ak->(Value->ak->Prop)->Prop)(o:O)(ρ:Loc)(b:List Stmt)(r:O×Loc×Fl):Prop:=
 ∀(fz:Led) (s:ak) (Q:Flow->ak->Prop) (E:Value->ak->Prop),At C o ρ fz s->(∀aT s',Sub fz aT->At C r.1 r.2.1 aT s'->FlQ X r.2.2 aT Q E s')->wpAny (model ai w) A (execs b env) Q E s
structure cV(ai:cB)(w:World)(A:cy)(C:Cx O)(env:Env)(I:pD O)(X:Nat->Led->ak->(Value->ak->Prop)->Prop)(K2:Addr):Prop where
 fh:∀o,yM ai w A C o env (I.fh o)
 hh:A.handled=none
 inter:interactive env=false
 off:∀p∈C.refs,I.names.contains p.1=false
 self:(I.self,.ref K2)∈C.refs\/(∀o a,I.attr o a=none)/\(∀o a v,I.uz o a v=none)
 vq:env.kindOf I.self=some .local/\(I.self==("__debug__":Str))=false\/(∀o a,I.attr o a=none)/\(∀o a v,I.uz o a v=none)
 get:∀o a d,I.attr o a=some d->∀ρ fz (s:ak) (Q E:Value->ak->Prop),At C o ρ fz s->(∀aT s' v,Sub fz aT->At C o ρ aT s'->VR aT d v->Q v s')->wpAny (model ai w) A (getAttr (.ref K2) a true) Q E s
 set:∀o a d o',I.uz o a d=some o'->∀ρ fz (s:ak) v (Q:Unit->ak->Prop) (E:Value->ak->Prop),At C o ρ fz s->VR fz d v->(∀s',At C o' ρ fz s'->Q () s')->wpAny (model ai w) A (setAttr (.ref K2) a v) Q E s
 prim:∀o ρ st r,I.prim o ρ st=some r->cK ai w A C env X o ρ st r
 push:∀o x d o',I.push o x d=some (true,o')->∃a,(x,.ref a)∈C.refs/\env.kindOf x=some .local/\(x==("__debug__":Str))=false/\(∀ρ fz s,At C o ρ fz s->∃items,PlainL s.heap a items)/\
   ∀ρ fz (s:ak) v (Q E:Value->ak->Prop),At C o ρ fz s->VR fz d v->(∀s',At C o' ρ fz s'->Q .none s')->wpAny (model ai w) A (call (.builtin "list.append") [.ref a,v]) Q E s
 give:∀o x o' d,I.give o x=some (o',d)->∃a,(x,.ref a)∈C.refs/\env.kindOf x=some .local/\(x==("__debug__":Str))=false/\
   ∀ρ fz (s:ak),At C o ρ fz s->∃aT,Sub fz aT/\At C o' ρ aT s/\VR aT d (.ref a)
 oZ:∀o ρ st r,I.oZ o ρ st=some (true,r)->cK ai w A C env X o ρ st r
 vp:∀o x d o',I.KW o x d=some o'->env.kindOf x≠some .local/\∀ρ fz (s:ak) v (Q:Unit->ak->Prop) (E:Value->ak->Prop),At C o ρ fz s->VR fz d v->(∀s',At C o' ρ fz s'->Q () s')->wpAny (model ai w) A (storeName env x v) Q E s
theorem i6.set(lc:i6 m ρ fz){x:Str}{d:V}(hv:VR fz d v):i6 (fun y=>if y=x then some v else m y) ((x,d)::ρ) fz:=by
 intro y u hy
 rw[bW]at hy
 by_cases e:y=x
 . rw[beq_iff_eq.mpr e]at hy
   exact af ((sj hy).symm) ⟨v,if_pos e,hv⟩
 . rw[beq_false_of_ne e]at hy
   refine au (lc y u hy) fun v' h1 h2=>?_
   exact⟨v',(if_neg e).trans h1,h2⟩
theorem qQ.set(rf:qQ m l){x:Str}{ns:List Str}(off:∀p∈l,ns.contains p.1=false)(hx:ns.contains x=true):qQ (fun y=>if y=x then some v else m y) l:=fun p hp=>
 (if_neg fun(e:p.1=x)=>u7 ((off p hp).symm.trans ((congrArg ns.contains e).trans hx))).trans (rf p hp)
theorem jv(K:cV ai w A C env I X sa){x:Str}{d:V}(h:At C o ρ fz s)(hx:I.names.contains x=true)(hv:VR fz d v)(hq:∀s',At C o ((x,d)::ρ) fz s'->Q () s'):wpAny (model ai w) A (storeName env x v) Q E s:=by
 refine At.el h fun h' tk m R F N rp ap lc rf=>?_
 have hf:=(K.fh o).fn
 have hL:=(K.fh o).loc
 refine qN ((K.fh o).names x (List.contains_iff_mem.mp hx)) (af hL F.ns) (fun h2 hn hs=>hq _ ?_) (af hf rfl)
 rw[hL]at hn hs
 exact⟨h2,tk+1,_,R,rfl,F.set hn hs,N.set hs,rp,ap,lc.set hv,rf.set K.off hx⟩
theorem fk{n:Nat}(h:mY e=true):swapsWith e t n env=pure false:=by
 cases e <;> first|rfl|exact cX h rfl rfl
theorem oB(K:cV ai w A C env I X sa){x:Str}{p p':Pos}(hx:I.names.contains x=true)(hc:mY e=true)(he:bq ai w A C o env ρ e v):
   cK ai w A C env X o ρ (.Assign [.Name x p'] e p) (o,(x,v)::ρ,.next):=by
 intro fz s Q E h hq
 refine jJ (he fz s _ E h fun ay s₁ va s1 h1 x1=>jv K h1 hx x1 fun aX h2=>?_) (fk hc)
 exact hq ay aX s1 h2
theorem zy{x:Str}{p:Pos}{n:Nat}(h:env.kindOf x≠some .local):swapsWith e (some (.Name x p)) n env=pure false:=by
 have e0:(env.kindOf x==some .local)=false:=by simpa using h
 cases e <;> first
   |rfl
   | (show pure _=pure _
      (refine af e0 ?_; rw[Bool.and_false])
      rfl)
theorem sX(K:cV ai w A C env I X sa){x:Str}{p p':Pos}(he:bq ai w A C o env ρ e v)(hs:I.KW o x v=some o'):
   cK ai w A C env X o ρ (.Assign [.Name x p'] e p) (o',ρ,.next):=by
 refine bx (K.vp o x v o' hs) fun hk vG=>?_
 intro fz s Q E h hq
 exact jJ (he fz s _ E h fun ay s₁ va s1 h1 x1=>vG ρ ay s₁ va _ _ h1 x1 fun aX h2=>hq ay aX s1 h2) (zy hk)
theorem Gf(K:cV ai w A C env I X sa){p:Pos}(h:At C o ρ fz s)(ha:(I.self,.ref sa)∈C.refs)(hk:env.kindOf I.self=some .local/\(I.self==("__debug__":Str))=false)(hq:Q (.ref sa) s):
   wpAny (model ai w) A (eval (.Name I.self p) env) Q E s:=by
 refine cp fun G' k'=>?_
 obtain⟨h',tk,m,R,rfl,F,N,rp,ap,lc,rf⟩:=h
 refine k' ?_
 exact eN (fY (K.fh o).fn hk.1 (af ((K.fh o).loc) F.ns) (rf _ ha) hq) hk.2
theorem AQ(K:cV ai w A C env I X sa){a:Str}{p p1 p2:Pos}(hc:mY e=true)(he:bq ai w A C o env ρ e v)(hs:I.uz o a v=some o'):
   cK ai w A C env X o ρ (.Assign [.Attribute (.Name I.self p1) a p2] e p) (o',ρ,.next):=by
 intro fz s Q E h hq
 have ha:(I.self,.ref sa)∈C.refs:=K.self.resolve_right fun q=>by rw[q.2]at hs; exact nn hs
 have hk:=K.vq.resolve_right fun q=>by rw[q.2]at hs; exact nn hs
 refine plainObj_wpAny_Assign_Attribute (he fz s _ E h fun ay s₁ va s1 h1 x1=>Gf K h1 ha hk ?_) (fk hc)
 exact K.set o a v o' hs ρ ay s₁ va _ E h1 x1 fun aX h2=>hq ay aX s1 h2
theorem UB(K:cV ai w A C env I X sa){a:Str}{p p1 p2:Pos}{u v r:V}(hu:I.attr o a=some u)(he:bq ai w A C o env ρ e v)(hr:vQ ai w inplaceOp op u v r)(hs:I.uz o a r=some o'):
   cK ai w A C env X o ρ (.AugAssign (.Attribute (.Name I.self p1) a p2) op e p) (o',ρ,.next):=by
 intro fz s Q E h hq
 have ha:(I.self,.ref sa)∈C.refs:=K.self.resolve_right fun q=>by rw[q.2]at hs; exact nn hs
 have hk:=K.vq.resolve_right fun q=>by rw[q.2]at hs; exact nn hs
 refine wpAny_AugAssign_AttributeAny (Gf K h ha hk (K.get o a u hu ρ fz s _ E h fun ay s₁ va s1 h1 x1=>he ay s₁ _ E h1 fun aO aX vb s2 h2 x2=>?_))
 refine hr (x1.mono s2) x2 fun v' tk x=>K.set o a r o' hs ρ aO _ v' _ E (h2.toks tk) x fun dF h3=>hq aO dF (fun p hp=>s2 p (s1 p hp)) h3
theorem jY{p:Pos}{c:Bool}{r:O×Loc×Fl}(ht:gi ai w A C o env ρ t c)(hb:if c then gy ai w A C env X o ρ b r else gy ai w A C env X o ρ e r):
   cK ai w A C env X o ρ (.If t b e p) r:=by
 intro fz s Q E h hq
 refine wpAny_If (ht fz s _ E h fun ay s₁ s1 h1=>?_)
 cases c with
 |true=>exact hb ay s₁ Q E h1 fun aO aX s2 h2=>hq aO aX (fun p hp=>s2 p (s1 p hp)) h2
 |false=>exact hb ay s₁ Q E h1 fun aO aX s2 h2=>hq aO aX (fun p hp=>s2 p (s1 p hp)) h2
theorem AP{p:Pos}(he:bq ai w A C o env ρ e v):cK ai w A C env X o ρ (.Return (some e) p) (o,ρ,.ret v):=by
 intro fz s Q E h hq
 exact ue (he fz s _ E h fun ay s₁ va s1 h1 x1=>hq ay s₁ s1 h1 va x1)
theorem Po(K:cV ai w A C env I X sa){x:Str}{p1 p' p p2:Pos}(hs:notStar e=true)(hl:(p'.endLine==p.line)=true)(he:bq ai w A C o env ρ e v)(ho:I.push o x v=some (true,o')):
   cK ai w A C env X o ρ (.Expr (.Call (.Attribute (.Name x p1) "append" p') [e] [] p) p2) (o',ρ,.next):=by
 refine X8 (K.push o x v o' ho) fun a hr hk hd hg hc=>?_
 intro fz s Q E h hq
 have Z8:([e]:List Expr).all notStar=true:=by simp[hs]
 refine wpAny_Expr ?_ K.inter rfl
 refine d9 (pl:=_) ?_ (iJ (v:=.Name x p1) rfl Z8 (by simp) hl)
 have bF:∀ {Q' E':Value->ak->Prop},Q' (.ref a) s->wpAny (model ai w) A (eval (.Name x p1) env) Q' E' s:=fun rJ=>by
   obtain⟨h',tk,m,R,rfl,F,N,rp,ap,lc,rf⟩:=h
   exact eN (fY (K.fh o).fn hk (af ((K.fh o).loc) F.ns) (rf _ hr) rJ) hd
 refine bF ?_
 refine cp fun G' k'=>?_
 refine yU (hg ρ fz s h) fun items ob n rK hcl hdi hda=>?_
 refine k' ?_
 refine getMethod_list_append rK hcl hdi ?_
 refine cW (first:=[.ref a]) Z8 ((cC hs he fC) p fz s _ E h fun ay s₁ vs s1 h1 x1=>?_)
 refine Sg x1 fun _ hv=>?_
 exact hc ρ ay s₁ _ _ E h1 hv fun aX h2=>hq ay aX s1 h2
theorem Pp(K:cV ai w A C env I X sa){x:Str}{p1 p3 p:Pos}{n:Nat}{v d:V}(hs:notStar e=true)(he:bq ai w A C o env ρ e v)(ho:I.give o x=some (o',d)):
   cK ai w A C env X o ρ (.Return (some (.Tuple [.Name x p1,e] n p3)) p) (o',ρ,.ret (.tuple [d,v])):=by
 refine cp fun G' k'=>?_
 refine wR (K.give o x o' d ho) fun a hr hk hd hg=>?_
 refine k' ?_
 intro fz s Q E h hq
 refine ue (wpAny_Tuple ?_)
 refine fP ?_ (cU rfl)
 have bF:∀ {Q' E':Value->ak->Prop},Q' (.ref a) s->wpAny (model ai w) A (eval (.Name x p1) env) Q' E' s:=fun rJ=>by
   refine cp fun G' k'=>?_
   obtain⟨h',tk,m,R,rfl,F,N,rp,ap,lc,rf⟩:=h
   refine k' ?_
   exact eN (fY (K.fh o).fn hk (af ((K.fh o).loc) F.ns) (rf _ hr) rJ) hd
 refine bF ((cC hs he fC) p3 fz s _ E h fun ay s₁ vs s1 h1 x1=>⟨?_,?_⟩)
 . refine af dg (af x1.length (af dh ?_)); simp
 . refine cp fun G' k'=>?_
   refine nD (hg ρ ay s₁ h1) fun aO s2 h2 hv=>?_
   refine k' ?_
   have h3:=h2.push { cls:=.type "tuple",data:=.seq (.ref a::vs).toArray } rfl
   refine hq _ _ (fun p hp=>.tail _ (s2 p (s1 p hp))) h3 _ (.tuple (.head _) ?_)
   exact .cons (hv.mono fun p hp=>.tail _ hp) (x1.mono fun p hp=>.tail _ (s2 p hp))
theorem ja:gy ai w A C env X o ρ [] (o,ρ,.next):=by
 intro fz s Q E h hq
 exact fX (hq fz s (fun _ h=>h) h)
theorem aQ{st:Stmt}{r:O×Loc×Fl}(hs:cK ai w A C env X o ρ st (o',ρ',.next))(hb:gy ai w A C env X o' ρ' b r):gy ai w A C env X o ρ (st::b) r:=by
 intro fz s Q E h hq
 exact bS (hs fz s _ E h fun ay s₁ s1 h1=>hb ay s₁ Q E h1 fun aO aX s2 h2=>hq aO aX (fun p hp=>s2 p (s1 p hp)) h2)
theorem RI(hT:∀f s,f≠ .next->Q f s->T f s)(hn:fl≠ .next)(h:FlQ X fl fz Q E s):FlQ X fl fz T E s:=by
 cases fl with
 |next=>exact absurd rfl hn
 |brk=>exact hT _ _ (fun e=>by cases e) h
 |cont=>exact hT _ _ (fun e=>by cases e) h
 |ret d=>exact fun v hv=>hT _ _ (fun e=>by cases e) (h v hv)
 |exc k=>exact h
theorem lQ{st:Stmt}{r:O×Loc×Fl}(hs:cK ai w A C env X o ρ st r)(hr:∀o' ρ',r≠(o',ρ',.next)):gy ai w A C env X o ρ (st::b) r:=by
 intro fz s Q E h hq
 refine bS (hs fz s _ E h fun ay s₁ s1 h1=>RI (fun f s hf hQ=>?_) (fun e=>hr r.1 r.2.1 (by(refine af e.symm ?_; rfl))) (hq ay s₁ s1 h1))
 cases f <;> first|exact absurd rfl hf|exact hQ
theorem uF:∀ {ts:List Expr} {xs:List Str},namesOf ts=some xs->ts.length=xs.length
 | [],_,h=>by obtain rfl:=sj h; rfl
 | e::r,xs,h=>by
   refine au (aq h) fun x _ h=>?_
   refine au (aq h) fun ys hy h=>?_
   (refine af ((sj h).symm) (af dg (af dg (af (uF hy) ?_))); rfl)
theorem yk:∀ {ts:List Expr},(assignEach ts env).length=ts.length
 | []=>rfl
 | e::r=>by
   have:(assignEach (e::r) env).length=(assignEach r env).length+1:=by cases e <;> exact dg
   (refine af this (af yk (af dg ?_)); rfl)
theorem uT:∀ {ts:List Expr} {xs:List Str},namesOf ts=some xs->(assignEach ts env).findIdx? (·.1)=none
 | [],_,_=>rfl
 | e::r,xs,h=>by
   refine au (aq h) fun x hx h=>?_
   refine au (aq h) fun ys hy h=>?_
   refine cE (dP hx) fun q fj=>?_
   subst fj
   show((false,_)::assignEach r env).findIdx? (·.1)=none
   refine af (List.findIdx?_cons) (af (uT hy) ?_); rfl
theorem zA(K:cV ai w A C env I X sa):∀ {ts:List Expr} {xs:List Str} {vs:List Value} {ds:List V} {ρ:Loc} {s:ak},namesOf ts=some xs->xs.all I.names.contains=true->aU fz vs ds->xs.length=ds.length->
   At C o ρ fz s->(∀s',At C o (bindAll xs ds ρ) fz s'->Q () s')->wpAny (model ai w) A (lS ((assignEach ts env).map (·.2)) vs) Q E s
 | [],xs,vs,ds,ρ,s,hn,ha,hd,hl,h,hq=>by
   obtain rfl:=sj hn
   cases hd with
   |nil=>exact aA (hq s h)
   |cons=>cases hl
 | e ::r,xs,vs,ds,ρ,s,hn,ha,hd,hl,h,hq=>by
   refine au (aq hn) fun x hx hn=>?_
   refine au (aq hn) fun ys hy hn=>?_
   have hn:=sj hn
   subst hn
   refine cE (dP hx) fun p fj=>?_
   subst fj
   cases hd with
   |nil=>cases hl
   | @cons v vs d ds hv hr=>
     rw[fQ,aM]at ha
     show wpAny (model ai w) A (do holding vs (assign (.Name x p) env v); lS ((assignEach r env).map (·.2)) vs) Q E s
     refine ao (iQ (assign_Name (jv K h ha.1 hv fun aX h2=>?_)))
     exact zA K hy ha.2 hr (Nat.succ.inj hl) h2 fun s' h'=>hq s' h'
theorem xj(K:cV ai w A C env I X sa):∀ {xs:List Str} {vs:List Value} {ds:List V} {ρ:Loc} {s:ak},xs.all I.names.contains=true->aU fz vs ds->xs.length=ds.length->
   At C o ρ fz s->(∀s',At C o (bindAll xs ds ρ) fz s'->Q () s')->wpAny (model ai w) A (lS (xs.map fun n=>bindName env n) vs) Q E s
 | [],vs,ds,ρ,s,ha,hd,hl,h,hq=>by
   cases hd with
   |nil=>exact aA (hq s h)
   |cons=>cases hl
 | x ::xs,vs,ds,ρ,s,ha,hd,hl,h,hq=>by
   cases hd with
   |nil=>cases hl
   | @cons v vs d ds hv hr=>
     rw[fQ,aM]at ha
     show wpAny (model ai w) A (do holding vs (bindName env x v); lS (xs.map fun n=>bindName env n) vs) Q E s
     refine ao (iQ (bindName_ (jv K h ha.1 hv fun aX h2=>?_)))
     exact xj K ha.2 hr (Nat.succ.inj hl) h2 fun s' h'=>hq s' h'
theorem oO(h:aU fz vs ds)(h':aU fz sO ds'):aU fz (vs++sO) (ds++ds'):=by
 induction vs generalizing ds with
 |nil=>cases h; exact h'
 |cons v vs ih=>cases h with|cons a b=>exact .cons a (ih b)
theorem yr:∀ {vs:List Value} {ds:List V},aU fz vs ds->aU fz vs.reverse ds.reverse:=by
 intro vs
 induction vs with
 |nil=>intro ds h; cases h; exact .nil
 |cons v vs ih=>intro ds h; cases h with|cons a b=>exact af List.reverse_cons (af List.reverse_cons (oO (ih b) (.cons a .nil)))
theorem At.ext2(h:At C o ρ fz s)(he:Heap.ExtBut s.heap.objs.size s.heap h'):At C o ρ fz { s with heap:=h' }:=h.ext he s.toks
theorem KD(K:cV ai w A C env I X sa){k:Nat}{p p':Pos}{xs:List Str}{r:Option (List Str)}(hn:namesOf ts=some xs)(hr:sU ts k p' e env=some r)(he:bq ai w A C o env ρ e (.tuple ds))(ha:xs.all I.names.contains=true)(hl:xs.length=ds.length)(hc:mY e=true)(hy:∀ys,r=some ys->ys=xs):
   cK ai w A C env X o ρ (.Assign [.Tuple ts k p'] e p) (o,F4 r xs ds ρ,.next):=by
 intro fz s Q E h hq
 have hw:=xd hr
 have h0:swapsWithSole [.Tuple ts k p'] e p.line env=pure false:=by unfold swapsWithSole; exact fk hc
 cases r with
 | none=>
   refine Assign_Tuple (he fz s _ E h fun ay s₁ va s1 h1 x1=>?_) h0 hw
   refine oj (pG x1) fun a vs n jU hm hv=>?_
   subst jU
   refine At.eh h1 fun h' tk m R F N rp ap lc rf h1=>?_
   have ht:IsTup h' a vs.toArray:=⟨_,(N _ (aJ _ (aH _ hm))).1,rfl,n,rfl⟩
   refine assign_Tuple_tuple K.hh ht ?_ (uT hn) fun h2 Wq=>?_
   . (refine af yk (af (uF hn) (af hl (af nj (af hv.length ?_)))); rfl)
   . exact zA K hn ha hv hl (h1.ext2 Wq) fun aX h3=>hq ay aX s1 h3
 | some ys=>
   obtain rfl:=hy ys rfl
   refine Assign_Tuple_swapped (he fz s _ E h fun ay s₁ va s1 h1 x1=>?_) h0 hw
   refine oj (pG x1) fun a vs n jU hm hv=>?_
   subst jU
   refine At.eh h1 fun h' tk m R F N rp ap lc rf h1=>?_
   have ht:IsTup h' a vs.toArray:=⟨_,(N _ (aJ _ (aH _ hm))).1,rfl,n,rfl⟩
   have e1:ys.length=vs.toArray.size:=by(refine af nj (af hv.length (af hl ?_)); rfl)
   refine af e1 ?_
   refine unpackItems_tuple K.hh ht fun h2 Wq=>?_
   exact xj K (by simpa using ha) (yr (by simpa using hv)) (by simpa using hl) (h1.ext2 Wq) fun aX h3=>hq ay aX s1 h3
def Sx(ai:cB)(w:World)(A:cy)(C:Cx O)(env:Env)(X:Nat->Led->ak->(Value->ak->Prop)->Prop){γ:Type}(r:γ)(st:O->Loc->Stmt->(O->Loc->Fl->Option γ)->Option γ):Prop:=
 ∀o ρ s k,st o ρ s k=some r->∃q,cK ai w A C env X o ρ s q/\k q.1 q.2.1 q.2.2=some r
def Jw(ai:cB)(w:World)(A:cy)(C:Cx O)(env:Env)(X:Nat->Led->ak->(Value->ak->Prop)->Prop){γ:Type}(r:γ)(bl:O->Loc->List Stmt->(O->Loc->Fl->Option γ)->Option γ):Prop:=
 ∀o ρ b k,bl o ρ b k=some r->∃q,gy ai w A C env X o ρ b q/\k q.1 q.2.1 q.2.2=some r
section
variable {γ:Type}{r:γ}{ev:O->Loc->Expr->(V->Option γ)->Option γ}{bl:O->Loc->List Stmt->(O->Loc->Fl->Option γ)->Option γ}
theorem Su(K:cV ai w A C env I X sa)(he:∀o ρ,D9 ai w A C o env ρ r (ev o ρ)){p:Pos}(h:aaB I env none ev o ρ t e k=some r):
   ∃q,cK ai w A C env X o ρ (.Assign [t] e p) q/\k q.1 q.2.1 q.2.2=some r:=by
 rcases fT h with ⟨x,h1,h⟩|⟨_,h⟩
 . refine cE (dP h1) fun p' fj=>?_
   subst fj
   cases hx:I.names.contains x with
   | true=>
     have h:gate (I.names.contains x) _ _=some r:=h
     rw[hx]at h
     refine bx (bA h) fun Tj h=>?_
     refine au (he _ _ _ _ h) fun v hv h=>?_
     exact⟨_,oB K hx Tj hv.1,h⟩
   | false=>
     have h:gate (I.names.contains x) _ _=some r:=h
     rw[hx]at h
     refine au (he _ _ _ _ h) fun v hv h=>?_
     refine au (aq h) fun o' ho h=>?_
     exact⟨_,sX K hv.1 ho,h⟩
 . rcases fT h with ⟨⟨ts,kk,p'⟩,h1,h⟩|⟨_,h⟩
   . refine af (uq h1) ?_
     refine cp fun G' k'=>?_
     refine au (aq h) fun xs hn h=>?_
     refine au (aq h) fun r' hr h=>?_
     refine bx (bA h) fun hx h=>?_
     refine k' ?_
     simp only[aM]at hx
     refine cp fun G' k'=>?_
     refine au (he _ _ _ _ h) fun v hv h=>?_
     refine au (aq h) fun vs e1 h=>?_
     refine bx (bA h) fun h2 hk=>?_
     refine k' ?_
     rw[Kh e1]at hv
     refine⟨_,KD K hn hr hv.1 hx.1.1 (eq_of_beq h2) hx.1.2 fun ys hy=>?_,hk⟩
     rw[hy]at hx
     exact eq_of_beq hx.2
   . refine au (aq h) fun fZ h1 h=>?_
     obtain⟨y,a,p2⟩:=fZ
     refine af (jq h1) ?_
     refine au (aq h) fun y' h2 h=>?_
     refine cE (dP h2) fun p1 e1=>?_
     refine bx (bA h) fun hx h=>?_
     rw[aM]at hx
     refine au (he _ _ _ _ h) fun v hv h=>?_
     refine au (aq h) fun o' ho h=>?_
     have e2:=eq_of_beq hx.1
     dsimp only at e1
     exact af e1 (af e2 ⟨_,AQ K hx.2 hv.1 ho,h⟩)
theorem Ss(K:cV ai w A C env I X sa)(he:∀o ρ,D9 ai w A C o env ρ r (ev o ρ)){p:Pos}(h:aaA bE I none ev o ρ t op e k=some r):
   ∃q,cK ai w A C env X o ρ (.AugAssign t op e p) q/\k q.1 q.2.1 q.2.2=some r:=by
 refine au (aq h) fun fZ h1 h=>?_
 obtain⟨y,a,p2⟩:=fZ
 refine af (jq h1) ?_
 refine cp fun G' k'=>?_
 refine au (aq h) fun y' h2 h=>?_
 refine cE (dP h2) fun p1 e1=>?_
 refine bx (bA h) fun hx h=>?_
 refine au (aq h) fun u hu h=>?_
 refine au (he _ _ _ _ h) fun v hv h=>?_
 obtain⟨r',hr,h⟩:=Rk h
 refine au (aq h) fun o' ho h=>?_
 refine k' ?_
 have e2:=eq_of_beq hx
 dsimp only at e1
 exact af e1 (af e2 ⟨_,UB K hu hv.1 hr ho,h⟩)
theorem PK(K:cV ai w A C env I X sa)(he:∀o ρ,D9 ai w A C o env ρ r (ev o ρ)){p:Pos}(h:YR I none ev o ρ e k=some r):
   ∃q,cK ai w A C env X o ρ (.Return (some e) p) q/\k q.1 q.2.1 q.2.2=some r:=by
 rcases fT h with ⟨g,h1,h⟩|⟨_,h⟩
 . refine au (aq h1) fun fZ e1 h1=>?_
   obtain⟨es,n,p'⟩:=fZ
   refine au (aq h1) fun fZ e2 h1=>?_
   obtain⟨c,d⟩:=fZ
   refine au (aq h1) fun x e3 h1=>?_
   refine au (aq h1) fun fZ e4 h1=>?_
   obtain⟨o',dv⟩:=fZ
   rw[<-sj h1]at h
   refine bx (bA h) fun hs h=>?_
   refine au (he _ _ _ _ h) fun v hv hk=>?_
   obtain rfl:=uq e1
   refine cE (dP e3) fun q fj=>?_
   subst fj
   obtain rfl:=rS e2
   exact⟨_,Pp K hs hv.1 e4,hk⟩
 . refine au (he _ _ _ _ h) fun v hv h=>?_
   exact⟨_,AP hv.1,h⟩
theorem J8(h:SG e=some q):e= .Call (.Attribute (.Name q.1 q.2.1) "append" q.2.2.2.1) [q.2.2.1] [] q.2.2.2.2:=by
 refine cp fun G' k'=>?_
 refine au (aq h) fun fZ h0 h=>?_
 obtain⟨g,args,p⟩:=fZ
 refine au (aq h) fun fZ h1 h=>?_
 obtain⟨v,a,p'⟩:=fZ
 refine au (aq h) fun x h2 h=>?_
 refine au (aq h) fun e' h3 h=>?_
 refine bx (bA h) fun h4 h=>?_
 refine k' ?_
 obtain rfl:=sj h
 have e1:=iz h2
 have e2:=jq h1
 have e3:=gF h3
 have e4:=eq_of_beq h4
 dsimp only at e1 e2 e3 e4 |-
 (refine af (nF h0) (af e2 (af e3 (af e1.symm (af e4 ?_)))); rfl)
theorem Ln(K:cV ai w A C env I X sa)(he:∀o ρ,D9 ai w A C o env ρ r (ev o ρ)){p:Pos}(h:SX bE I none ev o ρ e k=some r):
   ∃q,cK ai w A C env X o ρ (.Expr e p) q/\k q.1 q.2.1 q.2.2=some r:=by
 refine au (aq h) fun q h1 h=>?_
 refine bx (bA h) fun h2 h=>?_
 rw[aM]at h2
 refine cp fun G' k'=>?_
 refine au (he _ _ _ _ h) fun v hv h=>?_
 refine au (aq h) fun fZ ho h=>?_
 obtain⟨gd,o'⟩:=fZ
 refine bx (lq (c:=gd) h) fun e1 hk=>?_
 refine k' ?_
 subst e1
 exact af (J8 h1) ⟨_,Po K h2.1 h2.2 hv.1 ho,hk⟩
theorem Pq(K:cV ai w A C env I X sa)(he:∀o ρ,D9 ai w A C o env ρ r (ev o ρ))(hb:Jw ai w A C env X r bl):Sx ai w A C env X r (stF bE I env none ev bl):=by
 intro o ρ st k h
 cases st with
 | Assign ts e p=>
   refine au (aq h) fun t h1 h=>?_
   exact af (gF h1) (Su K he h)
 |AugAssign t op e p=>exact Ss K he h
 | If t b e p=>
   refine au (he _ _ t _ h) fun v hv h=>?_
   refine au (jd h) fun c hc h=>?_
   cases c with
   | true=>
     refine au (hb o ρ b k h) fun q hq h=>?_
     exact⟨q,jY (hv.2 _ hc) hq,h⟩
   | false=>
     refine au (hb o ρ e k h) fun q hq h=>?_
     exact⟨q,jY (hv.2 _ hc) hq,h⟩
 |Pass=>exact⟨(o,ρ,.next),fun fz s Q E h hq=>wpAny_Pass (hq fz s (fun _ h=>h) h),h⟩
 |Break=>exact⟨(o,ρ,.brk),fun fz s Q E h hq=>wpAny_Break (hq fz s (fun _ h=>h) h),h⟩
 |Continue=>exact⟨(o,ρ,.cont),fun fz s Q E h hq=>wpAny_Continue (hq fz s (fun _ h=>h) h),h⟩
 | Return e p=>
   cases e with
   |none=>exact nn h
   |some e=>exact PK K he h
 |Expr e p=>exact Ln K he h
 |_=>exact nn h
theorem Ah(K:cV ai w A C env I X sa)(he:∀o ρ,D9 ai w A C o env ρ r (ev o ρ))(hb:Jw ai w A C env X r bl):Sx ai w A C env X r (Nl bE I env none ev bl):=by
 intro o ρ st k h
 rcases fT h with ⟨q,h1,h⟩|⟨_,h⟩
 . exact⟨q,K.prim o ρ st _ h1,h⟩
 . rcases fT h with ⟨⟨gd,q⟩,h1,h⟩|⟨_,h⟩
   . refine bx (lq (c:=gd) h) fun e1 hk=>?_
     subst e1
     exact⟨q,K.oZ o ρ st _ h1,hk⟩
   . exact Pq K he hb o ρ st k h
theorem KZ(hb:Jw ai w A C env X r bl){st:O->Loc->Stmt->(O->Loc->Fl->Option γ)->Option γ}(hs:Sx ai w A C env X r st):Jw ai w A C env X r (YI bl st):=by
 intro o ρ b k h
 cases b with
 |nil=>exact⟨_,ja,h⟩
 | cons s rest=>
   refine au (hs o ρ s _ h) fun fZ hq h=>?_
   obtain⟨o',ρ',fl⟩:=fZ
   cases fl with
   | next=>
     refine au (hb o' ρ' rest k h) fun q hb h=>?_
     exact⟨q,aQ hq hb,h⟩
   |_=>exact⟨_,lQ hq (fun _ _ e=>by cases e),h⟩
theorem qD(K:cV ai w A C env I X sa){γ:Type}{r:γ}:∀n,Jw ai w A C env X r (d7 bE I env none n)
 |0=>fun _ _ _ _=>nn
 |n+1=>KZ (qD K n) (Ah K (fun o ρ=>jD (K.fh o).wk ρ n) (qD K n))
theorem tY(K:cV ai w A C env I X sa){γ:Type}{r:γ}(n:Nat):Sx ai w A C env X r (cu bE I env none n)/\Jw ai w A C env X r (d7 bE I env none n):=
 ⟨Ah K (fun o ρ=>jD (K.fh o).wk ρ n) (qD K n),qD K n⟩
end
end
noncomputable def sle:Loc->Loc->Prop
 | [],_=>True
 |y::r,ρ=>ρ.lookup y.1=some y.2/\sle r ρ
theorem Ca:∀ {ρ' ρ:Loc},sle ρ' ρ->∀ {x:Str} {v:V},ρ'.lookup x=some v->ρ.lookup x=some v
 | [],_,_,_,_,h=>by exact nn h
 | y ::r,ρ,⟨h1,h2⟩,x,v,h=>by
   rw[bW]at h
   by_cases e:(x==y.1)=true
   . rw[e]at h; obtain rfl:=sj h; exact af (eq_of_beq e) h1
   . have e:(x==y.1)=false:=by simpa using e
     rw[e]at h; exact Ca h2 h
theorem At.weak(h:At C o ρ fz s)(hs:sle ρ' ρ):At C o ρ' fz s:=by
 refine At.el h fun h lG m R F N rp ap lc rf=>?_
 exact⟨h,lG,m,R,rfl,F,N,rp,ap,fun x v hx=>lc x v (Ca hs hx),rf⟩
noncomputable def aaH(r:O×Loc×Fl)(more:O->Loc->Prop)(o:O)(ρ:Loc):Fl->Prop
 | .next=>∃eF,sle eF ρ/\more o eF
 | .cont=>∃eF,sle eF ρ/\more o eF
 | .brk=>r=(o,ρ,.next)
 | .ret d=>r=(o,ρ,.ret d)
 | .exc k=>r=(o,ρ,.exc k)
noncomputable def nC(ai:cB)(w:World)(A:cy)(C:Cx O)(env:Env)(X:Nat->Led->ak->(Value->ak->Prop)->Prop)(test:Expr)(body:List Stmt)(r:O×Loc×Fl):Nat->O->Loc->Prop
 |0,_,_=>False
 |n+1,o,ρ=>(gi ai w A C o env ρ test false/\r=(o,ρ,.next))\/∃o' ρ' fl,gi ai w A C o env ρ test true/\gy ai w A C env X o ρ body (o',ρ',fl)/\aaH r (nC ai w A C env X test body r n) o' ρ' fl
section
variable {I:pD O}{sa:Addr}
theorem nC.more{test:Expr}{body:List Stmt}{r:O×Loc×Fl}{n:Nat}{o o':O}{ρ ρ' eF:Loc}{fl:Fl}(h:gi ai w A C o env ρ test true)(hb:gy ai w A C env X o ρ body (o',ρ',fl))(hf:fl= .next\/fl= .cont)(hs:sle eF ρ')(hr:nC ai w A C env X test body r n o' eF):nC ai w A C env X test body r (n+1) o ρ:=
 .inr ⟨o',ρ',fl,h,hb,hf.elim (fun e=>af e ⟨eF,hs,hr⟩) fun e=>af e ⟨eF,hs,hr⟩⟩
theorem qk{test:Expr}{body:List Stmt}{p:Pos}{r:O×Loc×Fl}{n:Nat}(hX:∀k fz s E,X k fz s E->X k fz s (notedBy (model ai w) A env (cameBackBy (model ai w) A env E)))(hw:nC ai w A C env X test body r n o ρ):
   cK ai w A C env X o ρ (.While test body [] p) r:=by
 intro fz s Q E h hq
 refine wpAny_While (codeAny_whileLoop (fun n s'=>∃o ρ aT,nC ai w A C env X test body r n o ρ/\Sub fz aT/\At C o ρ aT s') (fun n s' hi=>?_) n ⟨o,ρ,fz,hw,fun _ h=>h,h⟩)
 refine oj hi fun o ρ aT hw s1 h1=>?_
 have rJ:∀ {x} aO aX,r=x->Sub aT aO->At C x.1 x.2.1 aO aX->FlQ X x.2.2 aO Q E aX:=fun aO aX e s2 h2=>e▸hq aO aX (fun p hp=>s2 p (s1 p hp)) (e▸h2)
 cases n with
 |zero=>exact hw.elim
 | succ n=>
   refine hw.elim (fun t=>t.1 aT s' _ _ h1 fun aO aX s2 h2=>fX (rJ aO aX t.2 s2 h2)) fun t=>oj t fun o' ρ' fl ht hb ho=>?_
   refine ht aT s' _ _ h1 fun aO aX s2 h2=>hb aO aX _ _ h2 fun gz dF s3 h3=>?_
   have s4:Sub aT gz:=fun p hp=>s3 p (s2 p hp)
   have go:(∃eF,sle eF ρ'/\nC ai w A C env X test body r n o' eF)->∃m,m<n+1/\∃o ρ aT,nC ai w A C env X test body r m o ρ/\Sub fz aT/\At C o ρ aT dF:=fun t=>au t fun eF hs hm=>⟨n,sF _,o',eF,gz,hm,fun p hp=>s4 p (s1 p hp),h3.weak hs⟩
   cases fl with
   |next=>exact go ho
   |cont=>exact go ho
   |brk=>exact rJ gz dF ho s4 h3
   |ret=>exact rJ gz dF ho s4 h3
   |exc=>exact hX _ _ _ _ (rJ gz dF ho s4 h3)
end
end
theorem j5(h:env.scope.kind= .function):interactive env=false:=by unfold interactive; exact af h rfl
structure cH(K:Frag)(p:cB)(az:List Str)(aL:ExcName->Option Value)(mg mb:Str->Option Value)(A₀:cy)(base:aE)(av:List Env)(A:cy)(env:Env)(h₀:aE)(L:Addr)(d:Nat):Prop where
 B:Below A₀ base av h₀
 X:K.In h₀
 T:Top p az aL mg mb h₀
 hA:A.frames=some (env::av)
 hf:env.frame=some L
 hk:env.scope.kind= .function
 hl:env.locals=L
 hg:env.globals=dc
 hb:env.builtins=builtinsNs
 hh:A.handled=none
 hi:interactive env=false
 room:A.depth+d<=recursionLimit
section
variable {K:Frag}
noncomputable def aV(C:Cx O)(g:aE)(L':Addr)(refs:List (Str×Value)):Cx O:={ s₀:=C.s₀,h₀:=g,L:=L',rest:=C.rest,refs:=refs,Rep:=C.Rep,mono:=C.mono }
set_option backward.match.sparseCases true in
theorem sA(R:cH K p az aL mg mb A₀ base av A env C.h₀ C.L (d+1))(h:At C o ρ fz s){name qual:Str}{params:Arguments}{body:List Stmt}{scope:Scope}{dV kV doc pm cdv ct oc:Value}{an od:Option Addr}{osl:Array (Option Value)}{f:Addr}{args:Args}{binds:List (Str×Value)}(ho:K.lookup f=some ⟨oc,od,.func (fnOf name qual params body scope dV kV doc pm an cdv ct),osl⟩)(E8:codeIn K cdv qual=true)(pV:BindsTo s (fnOf name qual params body scope dV kV doc pm an cdv ct) args binds)(yd:∀y∈binds,scope.names.lookup y.1=some .local)(zc:scope.isCoroutine=false)(Bo:scope.isGenerator=false)(hk:scope.kind= .function)(yf:∀x∈scope.names,x.2≠ .cell){ρ':Loc}{refs':List (Str×Value)}(pU:∀x v,ρ'.lookup x=some v->∃v',binds.reverse.lookup x=some v'/\VR fz v v')(hrefs:∀q∈refs',binds.reverse.lookup q.1=some q.2){Re:Result->ak->Prop}{Post:O->V->Prop}(o7:∀g L' s',cH K p az aL mg mb A base (env::av) (A.deeper (envOf qual scope L' f cdv)) (envOf qual scope L' f cdv) g L' d->At (aV C g L' refs') o ρ' fz s'->
     wpAny (model ai w) (A.deeper (envOf qual scope L' f cdv)) (execs body (envOf qual scope L' f cdv))
       (fun fl Ew=>∃aT o' kU d,Sub fz aT/\At (aV C g L' refs') o' kU aT Ew/\VR aT d (match fl with| .ret v=>v|_=>.none)/\Post o' d)
       (fun e Ew=>wpAny (model ai w) (A.deeper (envOf qual scope L' f cdv)) (leaving (envOf qual scope L' f cdv) e) (fun _ aX=>Re (.error e) aX) (fun e' aX=>Re (.error e') aX) Ew) s')(hq:∀aT s' o' d v,Post o' d->Sub fz aT->At C o' ρ aT s'->VR aT d v->Re (.ok (.ret v)) s'):
   fN (model ai w) A (.call (.ref f) args) Re s:=by
 obtain⟨hp,tk,m,Rl,rfl,F,N,rp,ap,lc,rf⟩:=id h
 refine code_def R.B F R.X N R.T R.hA R.hf R.hk ho E8 (by have:=R.room; omega) pV yd (fun g L' cj FG F' N' B' X' T'=>?_) zc Bo hk yf
 refine fD (o7 g L' _ ⟨B',X',T',?_,rfl,hk,rfl,rfl,rfl,?_,j5 hk,?_⟩ ⟨cj,_,_,Rl,rfl,F',N',rp,ap,fun x v hx=>pU x v hx,hrefs⟩) (fun fl Ew JK=>?_) fun e Ew he=>he
 . exact ud R.hA
 . exact R.hh
 . have:=R.room
   show A.depth+1+d<=_
   omega
 . refine T6 JK fun aT o' kU dd sb BX hv C4=>?_
   refine At.el BX fun gY fR m₂ d8 kq kj mq kO z6 xy=>?_
   refine⟨L',m₂,_,kq,kj,fun sH pB=>hq aT _ o' dd _ C4 sb ⟨gY,fR,m,d8,rfl,sH,pB,mq,kO,lc.mono sb,rf⟩ hv⟩
theorem VM{names:List (Str×dU)}{b:List (Str×Value)}(h:(b.all fun y=>decide (names.lookup y.1=some .local))=true):∀y∈b,names.lookup y.1=some .local:=fun y hy=>of_decide_eq_true (dH.mp h y hy)
theorem qu{b:List (Str×Value)}{n:Str}(h:b.lookup n=some u)(hv:VR fz e u)(k:∀x v,ρ.lookup x=some v->∃v',b.lookup x=some v'/\VR fz v v')(x:Str)(v:V)(hx:((n,e)::ρ).lookup x=some v):∃v',b.lookup x=some v'/\VR fz v v':=by
 rw[bW]at hx
 cases q:x==n with
 |true=>rw[q]at hx; obtain rfl:=sj hx; cases eq_of_beq q; exact⟨u,h,hv⟩
 |false=>rw[q]at hx; exact k x v hx
theorem r7{b:List (Str×Value)}(x:Str)(v:V)(hx:([]:Loc).lookup x=some v):∃v',b.lookup x=some v'/\VR fz v v':=nn hx
end
noncomputable abbrev pw:=PySem.Challenge.pw_in0035_01
noncomputable def aW(i:Nat):Stmt:=(pw.main.body[i]?).getD (.Pass ⟨0,0,0,0⟩)
noncomputable def zE:Expr:=.Constant .none 0 ⟨0,0,0,0⟩
noncomputable def exA:Expr->Expr×Expr×List Expr×Pos×Nat
 | .BinOp l _ r p=>(l,r,[],p,0)
 | .Compare l _ rs p=>(l,rs.headD zE,rs,p,0)
 | .Attribute v _ p=>(v,zE,[],p,0)
 | .Subscript v i p=>(v,i,[],p,0)
 | .Call g as _ p=>(g,as.headD zE,as,p,0)
 | .IfExp t b e p=>(t,b,[e],p,0)
 | .BoolOp _ es p=>(zE,zE,es,p,0)
 | .List es p=>(zE,zE,es,p,0)
 | .Tuple es k p=>(zE,zE,es,p,k)
 | .Name _ p=>(zE,zE,[],p,0)
 | .UnaryOp _ e p=>(e,zE,[],p,0)
 | .ListComp e _ _ p=>(e,zE,[],p,0)
 | .Constant _ _ p=>(zE,zE,[],p,0)
 |_=>(zE,zE,[],⟨0,0,0,0⟩,0)
noncomputable def YB:Stmt->Expr×Expr×List Stmt×List Stmt×Pos
 | .Assign ts e p=>(ts.headD zE,e,[],[],p)
 | .Return e p=>(zE,e.getD zE,[],[],p)
 | .If t b e p=>(zE,t,b,e,p)
 | .Expr e p=>(zE,e,[],[],p)
 | .While t b _ p=>(zE,t,b,[],p)
 | .For t i b _ p=>(t,i,b,[],p)
 | .FunctionDef _ _ b .. =>(zE,zE,b,[],⟨0,0,0,0⟩)
 | .ClassDef _ _ _ b .. =>(zE,zE,b,[],⟨0,0,0,0⟩)
 |_=>(zE,zE,[],[],⟨0,0,0,0⟩)
noncomputable def fnA:Stmt->Arguments×Scope
 | .FunctionDef _ a _ _ _ _ sc .. =>(a,sc)
 |_=>(⟨[],[],none,[],[],none,[]⟩,⟨.function,[],false,false,[]⟩)
noncomputable def lcA:Expr->Expr×Comprehension×Scope
 | .ListComp e (g::_) sc _=>(e,g,sc)
 |_=>(zE,⟨zE,zE,[],0⟩,⟨.function,[],false,false,[]⟩)
noncomputable def bL(e:Expr):Expr:=(exA e).1
noncomputable def bR(e:Expr):Expr:=(exA e).2.1
noncomputable def um(e:Expr):List Expr:=(exA e).2.2.1
noncomputable def bP(e:Expr):Pos:=(exA e).2.2.2.1
noncomputable def tK(e:Expr):Nat:=(exA e).2.2.2.2
noncomputable def gO(s:Stmt):Expr:=(YB s).1
noncomputable def cJ(s:Stmt):Expr:=(YB s).2.1
noncomputable def aC(s:Stmt):List Stmt:=(YB s).2.2.1
noncomputable def C3(s:Stmt):List Stmt:=(YB s).2.2.2.1
noncomputable def qZ(s:Stmt):Pos:=(YB s).2.2.2.2
noncomputable def aF(s:Stmt):Scope:=(fnA s).2
noncomputable def nU(s:Stmt):Arguments:=(fnA s).1
noncomputable def FD(e:Expr):Expr:=(lcA e).1
noncomputable def jF(e:Expr):Comprehension:=(lcA e).2.1
noncomputable def DS(e:Expr):Scope:=(lcA e).2.2
noncomputable def bO(i j:Nat):Stmt:=((aC (aW i))[j]?).getD (.Pass ⟨0,0,0,0⟩)
noncomputable def locs(sc:Scope):List Str:=(sc.names.filter fun x=>x.2== .local).map (·.1)
noncomputable def D8(nm ql:Str)(k:Nat)(ln a b t:Int)(r:Addr)(e:Int)(e1:Nat):Obj:=.mk (.type "code") none (.fields #[.str nm k,.str ql (k+1),.str "/claim/cut.py" (k+2),.int ln 0,.int a 0,.int b 0,.int 0 0,.int t 0,.ref r,.bool true,.int 273 0,.ref (r+1),.none,.ref (r+2),.ref (r+3),.ref (r+4),.int e 0,.int ln 0,.str "/claim/cut.py" e1]) #[]
noncomputable def cdB(nm ql:Str)(k:Nat)(ln a b t:Int)(r:Addr)(e:Int)(e1:Nat):Obj:=.mk (.type "code") none (.fields #[.str nm k,.str ql (k+1),.str "/claim/cut.py" (k+2),.int ln 0,.int a 0,.int b 0,.int 0 0,.int t 0,.ref r,.bool true,.int 273 0,.ref (r+1),.none,.none,.none,.ref (r+2),.int e 0,.int ln 0,.str "/claim/cut.py" e1]) #[]
noncomputable def fO(nm ql:Str)(x:Stmt)(dV:Value)(pm:Str)(pt:Nat)(cd:Addr):Obj:=⟨.type "function",none,.func (fnOf nm ql (nU x) (aC x) (aF x) dV .none .none (.str pm pt) none (.ref cd) .none), #[]⟩
set_option maxHeartbeats 2000000 in
noncomputable abbrev kE(P:aD)(x:String)(n:Nat)(v:Value):iZ:=DictEntry.mk (qM P (Str.ofString x)) (.str (Str.ofString x) n) v
noncomputable def eG(P:aD):Frag:=[
 (3,gm (.type "dict") none (.dict #[kE P "__name__" 165 (.str "law_in0035_01" 1142),kE P "__doc__" 166 .none,kE P "__package__" 167 .none,kE P "__loader__" 168 (.builtin "__main__.__loader__#opaque"),kE P "__spec__" 169 .none,kE P "__annotations__" 170 (.ref 6),kE P "__builtins__" 171 (.ref 4),kE P "__file__" 173 (.str "/claim/cut.py" 172),kE P "__cached__" 174 .none,kE P "deque" 272 (.type "collections.deque"),kE P "_wall" 285 (.ref 39),kE P "_whence" 295 (.ref 46),kE P "_index" 303 (.ref 53),kE P "UnsupportedOperation" 325 (.ref 63),kE P "IOBase" 357 (.ref 83),kE P "BufferedIOBase" 375 (.ref 98),kE P "TextIOBase" 393 (.ref 110),kE P "BytesIO" 655 (.ref 340),kE P "StringIO" 942 (.ref 587),kE P "_kind" 953 (.ref 596),kE P "_fspath" 962 (.ref 603),kE P "_check_arg_types" 972 (.ref 610),kE P "isabs" 979 (.ref 617),kE P "join" 990 (.ref 624),kE P "dirname" 1000 (.ref 631),kE P "shlex" 1141 (.ref 722),kE P "_law_sign" 1151 (.ref 733),kE P "_law_read" 1164 (.ref 740),kE P "_law_short" 1173 (.ref 747),kE P "_law_cheap" 1182 (.ref 754),kE P "_law_word" 1188 (.ref 759),kE P "_law_kind" 1194 (.ref 764),kE P "_law_least" 1200 (.ref 769),kE P "law" 1206 (.ref 774)] 34) #[]),
 (52,D8 "_index" "_index" 296 11 2 0 3 47 301 302),
 (53,fO "_index" "_index" (aW 4) .none "io" 286 52),
 (79,D8 "__new__" "IOBase.__new__" 340 23 1 1 15 74 346 347),
 (80,fO "__new__" "IOBase.__new__" (bO 6 1) .none "io" 286 79),
 (82,gm (.type "dict") none (.dict #[kE P "__module__" 333 (.str "io" 338),kE P "__firstlineno__" 337 (.int 20 336),kE P "__new__" 348 (.ref 84),kE P "__static_attributes__" 349 (.ref 81),kE P "__dict__" 352 (.ref 85),kE P "__weakref__" 354 (.ref 86),kE P "__doc__" 355 .none] 4) #[]),
 (83,gm (.type "type") none (.cls (ClassData.mk "IOBase" [.type "object"] [.ref 83,.type "object"] 82 "IOBase" true [] [.ref 98,.ref 110] false none false)) #[none,none,some (.str "IOBase" 326),some (.str "IOBase" 334),some .none,some (.bool true)]),
 (84,gm (.type "staticmethod") none (.fields #[.ref 80]) #[]),
 (109,gm (.type "dict") none (.dict #[kE P "__module__" 383 (.str "io" 388),kE P "__firstlineno__" 387 (.int 29 386),kE P "__static_attributes__" 390 (.ref 108),kE P "__doc__" 391 .none] 2) #[]),
 (110,gm (.type "type") none (.cls (ClassData.mk "TextIOBase" [.ref 83] [.ref 110,.ref 83,.type "object"] 109 "TextIOBase" true [] [.ref 587] false none false)) #[some (.ref 101),none,some (.str "TextIOBase" 376),some (.str "TextIOBase" 384),some .none,some (.bool true)]),
 (350,gm (.type "tuple") none (.seq #[.str "" 670,.str "\n" 671]) #[]),
 (356,D8 "__init__" "StringIO.__init__" 672 204 3 0 3 351 678 679),
 (357,fO "__init__" "StringIO.__init__" (bO 10 1) (.ref 350) "io" 286 356),
 (363,D8 "__translated" "StringIO.__translated" 681 217 2 0 3 358 687 688),
 (364,fO "__translated" "StringIO.__translated" (bO 10 2) .none "io" 286 363),
 (370,D8 "__check" "StringIO.__check" 690 225 1 0 3 365 694 695),
 (371,fO "__check" "StringIO.__check" (bO 10 3) .none "io" 286 370),
 (384,D8 "__line" "StringIO.__line" 704 233 2 0 3 379 716 717),
 (385,fO "__line" "StringIO.__line" (bO 10 5) .none "io" 286 384),
 (526,gm (.type "tuple") none (.seq #[.int (-1) 863]) #[]),
 (532,D8 "read" "StringIO.read" 864 347 2 2 3 527 871 872),
 (533,fO "read" "StringIO.read" (bO 10 25) (.ref 526) "io" 286 532),
 (534,gm (.type "tuple") none (.seq #[.int (-1) 875]) #[]),
 (540,D8 "readline" "StringIO.readline" 876 361 2 2 3 535 881 882),
 (541,fO "readline" "StringIO.readline" (bO 10 26) (.ref 534) "io" 286 540),
 (586,gm (.type "dict") none (.dict #[kE P "__module__" 663 (.str "_io" 668),kE P "__firstlineno__" 667 (.int 201 666),kE P "__init__" 680 (.ref 357),kE P "_StringIO__translated" 689 (.ref 364),kE P "_StringIO__check" 696 (.ref 371),kE P "_StringIO__check_dot" 703 (.ref 378),kE P "_StringIO__line" 718 (.ref 385),kE P "closed" 726 (.ref 393),kE P "line_buffering" 734 (.ref 401),kE P "newlines" 742 (.ref 409),kE P "encoding" 750 (.ref 417),kE P "errors" 758 (.ref 425),kE P "close" 765 (.ref 432),kE P "__enter__" 772 (.ref 439),kE P "__exit__" 780 (.ref 446),kE P "readable" 787 (.ref 453),kE P "writable" 794 (.ref 460),kE P "seekable" 801 (.ref 467),kE P "isatty" 808 (.ref 474),kE P "flush" 815 (.ref 481),kE P "fileno" 822 (.ref 488),kE P "detach" 829 (.ref 495),kE P "getvalue" 836 (.ref 502),kE P "tell" 843 (.ref 509),kE P "seek" 853 (.ref 517),kE P "truncate" 861 (.ref 525),kE P "read" 873 (.ref 533),kE P "readline" 883 (.ref 541),kE P "readlines" 893 (.ref 549),kE P "__iter__" 900 (.ref 556),kE P "__next__" 908 (.ref 563),kE P "write" 920 (.ref 570),kE P "writelines" 928 (.ref 577),kE P "__repr__" 935 (.ref 584),kE P "__static_attributes__" 939 (.ref 585),kE P "__doc__" 940 .none] 2) #[]),
 (587,gm (.type "type") none (.cls (ClassData.mk "StringIO" [.ref 110] [.ref 587,.ref 110,.ref 83,.type "object"] 586 "StringIO" true [] [] false none false)) #[some (.ref 343),none,some (.str "StringIO" 656),some (.str "StringIO" 664),some .none,some (.bool true)]),
 (639,gm (.type "tuple") none (.seq #[.none,.none,.bool false,.bool false]) #[]),
 (645,D8 "__init__" "shlex.__init__" 1015 472 5 0 3 640 1024 1025),
 (646,fO "__init__" "shlex.__init__" (bO 19 0) (.ref 639) "cpy313.shlex" 1001 645),
 (652,D8 "punctuation_chars" "shlex.punctuation_chars" 1027 513 1 0 3 647 1031 1032),
 (653,fO "punctuation_chars" "shlex.punctuation_chars" (bO 19 1) .none "cpy313.shlex" 1001 652),
 (654,gm (.type "property") none (.fields #[.ref 653,.none,.none,.none,.str "punctuation_chars" 1034,.bool false]) #[]),
 (682,D8 "get_token" "shlex.get_token" 1059 540 1 0 3 677 1068 1069),
 (683,fO "get_token" "shlex.get_token" (bO 19 5) .none "cpy313.shlex" 1001 682),
 (689,D8 "read_token" "shlex.read_token" 1071 567 1 0 3 684 1079 1080),
 (690,fO "read_token" "shlex.read_token" (bO 19 6) .none "cpy313.shlex" 1001 689),
 (721,gm (.type "dict") none (.dict #[kE P "__module__" 1010 (.str "cpy313.shlex" 1001),kE P "__firstlineno__" 1014 (.int 470 1013),kE P "__init__" 1026 (.ref 646),kE P "punctuation_chars" 1034 (.ref 654),kE P "push_token" 1042 (.ref 661),kE P "push_source" 1051 (.ref 669),kE P "pop_source" 1058 (.ref 676),kE P "get_token" 1070 (.ref 683),kE P "read_token" 1081 (.ref 690),kE P "sourcehook" 1089 (.ref 697),kE P "error_leader" 1098 (.ref 705),kE P "__iter__" 1105 (.ref 712),kE P "__next__" 1113 (.ref 719),kE P "__static_attributes__" 1134 (.ref 720),kE P "__dict__" 1136 (.ref 723),kE P "__weakref__" 1138 (.ref 724),kE P "__doc__" 1139 .none] 4) #[]),
 (722,gm (.type "type") none (.cls (ClassData.mk "shlex" [.type "object"] [.ref 722,.type "object"] 721 "shlex" true [] [] false none false)) #[none,none,some (.str "shlex" 1003),some (.str "shlex" 1011),some (.builtin "object.__new__"),some (.bool true)]),
 (732,D8 "_law_sign" "_law_sign" 1144 723 1 0 3 727 1149 1150),
 (733,fO "_law_sign" "_law_sign" (aW 21) .none "law_in0035_01" 1142 732),
 (739,D8 "_law_read" "_law_read" 1152 730 3 0 3 734 1162 1163),
 (740,fO "_law_read" "_law_read" (aW 22) .none "law_in0035_01" 1142 739),
 (746,D8 "_law_short" "_law_short" 1165 740 1 0 3 741 1171 1172),
 (747,fO "_law_short" "_law_short" (aW 23) .none "law_in0035_01" 1142 746),
 (753,D8 "_law_cheap" "_law_cheap" 1174 746 3 0 3 748 1180 1181),
 (754,fO "_law_cheap" "_law_cheap" (aW 24) .none "law_in0035_01" 1142 753),
 (758,cdB "_law_word" "_law_word" 1183 752 2 0 3 755 1186 1187),
 (759,fO "_law_word" "_law_word" (aW 25) .none "law_in0035_01" 1142 758),
 (763,cdB "_law_kind" "_law_kind" 1189 769 3 0 3 760 1192 1193),
 (764,fO "_law_kind" "_law_kind" (aW 26) .none "law_in0035_01" 1142 763),
 (768,cdB "_law_least" "_law_least" 1195 780 3 0 3 765 1198 1199),
 (769,fO "_law_least" "_law_least" (aW 27) .none "law_in0035_01" 1142 768),
 (773,cdB "law" "law" 1201 793 1 0 3 770 1204 1205),
 (774,fO "law" "law" (aW 28) .none "law_in0035_01" 1142 773)]
noncomputable def A02:List Addr:=[3,52,53,79,80,82,83,84,109,110,350,356,357,363,364,370,371,384,385,526,532,533,534,540,541,586,587,639,645,646,652,653,654,682,683,689,690,721,722,732,733,739,740,746,747,753,754,758,759,763,764,768,769,773,774]
noncomputable def KS(P:aD):Frag:=(2,gm Value.none none (Data.dict #[kE P "\x69mport.loaded._collections" 185 (Value.bool true),kE P "class._frozen_importlib.BuiltinImporter" 187 (jI 15),kE P "watched.\x69mport" 208 (jI 19),kE P "class._frozen_importlib.ModuleSpec" 218 (jI 23),kE P "sys.modules.booked-epoch" 247 (Value.int 3 0),kE P "sys.modules.landed._collections" 248 (Value.bool true),kE P "\x69mport.later-laid._collections" 263 (Value.bool true),kE P "watched.library" 265 (jI 28),kE P "watched.library-objects" 0 (Value.str "\x0d" 0),kE P "watched.library-deep._collections" 266 (Value.str "\x04\x00\x00\x0c\x04\x00\x00\x0c\x04\x00\x00\x03\x04\x00\x00\x0c\x08\x04dict\x02" 0),kE P "type.__subclasses__.OSError.0" 322 (Value.int 63 0),kE P "type.__subclasses__.OSError.n" 323 (Value.int 1 0)] 12) #[])::(340,gm (Value.type "type") none (Data.cls (ClassData.mk "BytesIO" [jI 98] [jI 340,jI 98,jI 83,Value.type "object"] 339 "BytesIO" true [] [] false none false)) #[some (jI 113),none,some (Value.str "BytesIO" 394),some (Value.str "BytesIO" 402),some Value.none,some (Value.bool true)])::eG P
noncomputable def AS:List Addr:=2::340::A02
theorem VW(P:aD):(eG P).lookup 2=none:=by kernel_rfl
theorem VX(P:aD):(eG P).lookup 340=none:=by kernel_rfl
theorem S9{P:aD}{h:aE}(X:(KS P).In h):(eG P).In h:=fun a o e=>X a o (by
 unfold KS
 show List.lookup a (_::_)=_
 have h2:(a==2)=false:=by
   rw[beq_eq_false_iff_ne]; rintro rfl
   have:=VW P
   rw[e]at this; cases this
 have h3:(a==340)=false:=by
   rw[beq_eq_false_iff_ne]; rintro rfl
   have:=VX P
   rw[e]at this; cases this
 rw[bW,h2,bW,h3]; exact e)
theorem cH.ks{P:aD}{h₀:aE}{L:Addr}(R:cH (KS P) p az aL mg mb A₀ base av A env h₀ L d):cH (eG P) p az aL mg mb A₀ base av A env h₀ L d:=
 ⟨R.B,S9 R.X,R.T,R.hA,R.hf,R.hk,R.hl,R.hg,R.hb,R.hh,R.hi,R.room⟩
section
set_option tactic.hygienic true
noncomputable def runG(thr ok:Thread->Bool)(stp:SharedT->Thread->Option (SharedT×Thread)):Nat->SharedT->Thread->Option SharedT
 |0,_,_=>none
 | n + 1,s,t=>match thr t with
   |true=>some s
   | false=>match ok t with
     |false=>none
     | true=>match stp s t with
       |some (s',t')=>runG thr ok stp n s' t'
       |none=>none
theorem zH{tb:String->Option abb}{U4:Nat}{ann:Option Value}:∀ {n:Nat} {s s':SharedT} {t:Thread},
   runG through (stepOk U4 ann) (stepT (denote tb) p w) n s t=some s'->topRun tb p w U4 ann n s.abs t=some s'.abs
 |0,_,_,_,h=>by cases h
 | n + 1,s,s',t,h=>by
   unfold runG at h
   unfold topRun
   cases ht:through t with
   |true=>rw[ht]at h; cases h; rfl
   | false=>
     rw[ht]at h
     cases hk:stepOk U4 ann t with
     |false=>rw[hk]at h; cases h
     | true=>
       rw[hk]at h
       cases hs:stepT (denote tb) p w s t with
       |none=>rw[hs]at h; cases h
       | some r=>
         obtain⟨aX,acY⟩:=r
         rw[hs]at h
         rw[stepT_spec hs]
         exact zH h
noncomputable def treeOf(os:List Obj):BT×Nat:=os.foldl (fun(t,n) o=>(t.ins n o,n+1)) (.nil,0)
noncomputable def Uq(os:List Obj):Bool:=(os.foldl (fun(x:BT×Nat×Bool) o=>(x.1.ins x.2.1 o,x.2.1+1,x.2.2&&((x.1.ins x.2.1 o).get x.2.1).isSome)) (BT.nil,0,true)).2.2
noncomputable def T4:Hook:=kHook KS AS (fun _=>by kernel_rfl)
theorem zv(life:Life):∀(os:List Obj) (t:BT) (n:Nat) (b:Bool) (pre:Array Obj),absHeap t n life=⟨pre,life⟩->
   (os.foldl (fun(x:BT×Nat×Bool) o=>(x.1.ins x.2.1 o,x.2.1+1,x.2.2&&((x.1.ins x.2.1 o).get x.2.1).isSome)) (t,n,b)).2.2=true->
   absHeap (os.foldl (fun(x:BT×Nat) o=>(x.1.ins x.2 o,x.2+1)) (t,n)).1 (os.foldl (fun(x:BT×Nat) o=>(x.1.ins x.2 o,x.2+1)) (t,n)).2 life=⟨pre++os.toArray,life⟩
 | [],t,n,b,pre,h,_=>by simpa using h
 | o ::os,t,n,b,pre,h,hk=>by
   simp only[List.foldl_cons]at hk |-
   have mono:∀(l:List Obj) (t:BT) (n:Nat) (b:Bool),(l.foldl (fun(x:BT×Nat×Bool) o=>(x.1.ins x.2.1 o,x.2.1+1,x.2.2&&((x.1.ins x.2.1 o).get x.2.1).isSome)) (t,n,b)).2.2=true->b=true:=by
     intro l
     induction l with
     |nil=>intro t n b h; exact h
     |cons o l ih=>intro t n b h; simp only[List.foldl_cons]at h; have:=ih _ _ _ h; simp only[aM]at this; exact this.1
   have hb:=mono _ _ _ _ hk
   simp only[aM]at hb
   have:=zv life os (t.ins n o) (n+1) _ (pre.push o) (by rw[absHeap_ins hb.2,h]; rfl) hk
   rw[this]
   simp
noncomputable def Xh(p:cB)(w:World)(s0:ak)(M:Nat){α:Type}(thr ok:Thread->Bool)(stp:SharedT->Thread->Option (SharedT×Thread))(fin:ak->α):Bool×Option α:=
 (s0.heap.isNs dc&&s0.gens.size==0&&Uq s0.heap.objs.toList,
   (runG thr ok stp M ⟨(treeOf s0.heap.objs.toList).1,(treeOf s0.heap.objs.toList).2,s0.heap.life,s0.gens,s0.drawn,s0.toks,s0.os⟩ (topStub p)).map fun sT=>fin sT.abs)
theorem QT{p q:cB}{Xt:ak->Bool}{α:Type}{Yf:ak->α}{Ya:World->α}{N M:Nat}(le:Nat.ble M N=true)(big:∀w:World,((importEnds treeTable (opening p) w N (start (opening p)).1 (start (opening p)).2).bind (fenceModules? p)).map (fun s0=>
     Xh p w s0 M through (stepOk s0.heap.objs.size (s0.heap.nsMap dc "__annotations__")) (stepT (denote treeTable) p w) fun s₁=>
       (staticsOk (importedModules p.main.body) s0.heap s₁.heap&&namesBound p s₁.heap&&gensDone s₁&&laidKept s0.heap s₁.heap,openSeen q az (importedModules p.main.body) Xt true s₁,Yf s₁))=
     some (true,some (true,openGood q az,Ya w))):LeftO p q az Xt Yf Ya N:=fun w=>by
 obtain⟨s0,h0,h1⟩:=Option.map_eq_some_iff.mp (big w)
 obtain⟨h2,h3⟩:=cR h1
 simp only[aM]at h2
 obtain⟨sT,h4,h5⟩:=Option.map_eq_some_iff.mp h3
 obtain⟨h6,h7⟩:=cR h5
 have eT:=zv s0.heap.life s0.heap.objs.toList .nil 0 true #[] (by rfl) h2.2
 have hr:=zH h4
 have eA:SharedT.abs ⟨(treeOf s0.heap.objs.toList).1,(treeOf s0.heap.objs.toList).2,s0.heap.life,s0.gens,s0.drawn,s0.toks,s0.os⟩=s0:=by
   obtain⟨⟨objs,life⟩,gens,drawn,toks,os⟩:=s0
   unfold SharedT.abs treeOf
   simp only at eT |-
   rw[eT]
   simp
 rw[eA]at hr
 have hr':=topRun_mono (N-M) _ _ _ _ hr
 rw[Nat.add_sub_of_le (oW le)]at hr'
 unfold openEnds fencedOpening
 rw[h0]
 show(topFrom treeTable p w N s0).map _=_
 unfold topFrom
 rw[Bool.and_eq_true_iff.mpr h2.1]
 dsimp only
 rw[hr']
 show((match staticsOk (importedModules p.main.body) s0.heap sT.abs.heap&&namesBound p sT.abs.heap&&gensDone sT.abs&&laidKept s0.heap sT.abs.heap with|true=>some sT.abs|false=>none):Option ak).map _=_
 rw[h6]
 exact congrArg some h7
noncomputable def PZ:cB:=view Challenge.pw_in0035_01 [0,28]
noncomputable def Bf:List Str:=[aj "_wall",aj "__name__",aj "_whence",aj "_index",aj "UnsupportedOperation",aj "IOBase",aj "BufferedIOBase",
 aj "TextIOBase",aj "BytesIO",aj "StringIO",aj "_kind",aj "_fspath",aj "_check_arg_types",aj "isabs",aj "join",aj "dirname",aj "shlex",
 aj "_law_sign",aj "_law_read",aj "_law_short",aj "_law_cheap",aj "_law_word",aj "_law_kind",aj "_law_least"]
noncomputable def aaG:ak->Bool:=fun s=>xlAt PZ [] s&&recOk (RowW.records Challenge.rw_in0035_01.row.toRowW) s
theorem VT:LeftO Challenge.pw_in0035_01 PZ Bf aaG (Hook.obs T4) (Hook.val T4) 12000:=by
 refine QT (M:=6000) (by decide) fun w=>?_
 rw[Fast.te10274390034422433532,Fast.te1435165496053646825,Fast.te14289696077712309145,Fast.te10156331382660048174,Fast.te11892475500146522536,Fast.te14364793385576792824,Fast.te6613529449190102663,Fast.te4187177175401517315,Fast.te5923862056798008813]
 kernel_rfl
end
section
set_option tactic.hygienic true
set_option maxHeartbeats 1000000 in
theorem Yc:PySem.Challenge.rw_in0035_01.row.toRowW.promised:=by w_witness2
set_option maxHeartbeats 1000000 in
theorem UJ:OpenLaw.wellSaid PySem.Challenge.rw_in0035_01=true:=by
 unfold OpenLaw.wellSaid
 iterate 18 (refine look_both ?_ (by decide +kernel))
 decide +kernel
end
section
set_option tactic.hygienic true
theorem Gz{K:Frag}{n:Str}(X:K.In h)(G:h.Ns dc mg)(e:nsIn K dc n=some none):mg n=none:=by
 refine yU G fun o es ep ho hd _ hf=>?_
 unfold nsIn at e
 split at e
 . rename_i c d es' n' sl q
   have:=X _ _ q
   rw[ho]at this
   cases this
   cases hd
   split at e
   . cases e
   . rename_i he
     rw[<-hf]
     unfold nsFind findBy
     refine af ((Array.find?_toList).symm) (af he ?_)
     rfl
 . exact nn e
section
variable {K:Frag}
theorem At.nO(h:At C o ρ fz s):∃m news,Fr C.h₀ C.L s.heap m/\News C.h₀ C.L s.heap news:=by
 refine At.el h fun h lG m R F N rp ap lc rf=>?_
 exact⟨m,_,F,N⟩
structure yN(env:Env):Prop where
 fn:env.scope.kind= .function
 glob:env.globals=dc
 blt:env.builtins=builtinsNs
theorem cH.QJ(R:cH K p az aL mg mb A₀ base av A env C.h₀ C.L d):yN env:=⟨R.hk,R.hg,R.hb⟩
theorem qy(R:cH K p az aL mg mb A₀ base av A env C.h₀ C.L d){env:Env}(l:yN env)(h:At C o ρ fz s){x:Str}{pos:Pos}{v:Value}{Q E:Value->ak->Prop}(e:nsIn K dc x=some (some v))(hx:env.kindOf x=some .globalImplicit)(hd:(x==("__debug__":Str))=false)(hq:Q v s):wpAny (model ai w) A (eval (.Name x pos) env) Q E s:=by
 refine gB h.nO fun m news F N=>?_
 exact nameG_K F R.X (topRead_of R.T) e hq l.glob l.fn hx hd
theorem mJ(R:cH K p az aL mg mb A₀ base av A env C.h₀ C.L d){env:Env}(l:yN env)(h:At C o ρ fz s){x:Str}{pos:Pos}{v:Value}{Q E:Value->ak->Prop}(e:nsIn K dc x=some none)(hv:bootBuiltins x=some v)(hn:x≠"__name__")(hx:env.kindOf x=some .globalImplicit)(hd:(x==("__debug__":Str))=false)(hq:Q v s):wpAny (model ai w) A (eval (.Name x pos) env) Q E s:=by
 refine gB h.nO fun m news F N=>?_
 refine Name_function_global l.fn hx (loadGlobal_builtin ?_ (Gz R.X R.T.g e) ?_ ((R.T.builtins x hn).trans hv) hq) hd
 . exact af l.glob (R.T.g.keeps F.keep)
 . exact af l.blt (R.T.b.keeps F.keep)
theorem I8(R:cH K p az aL mg mb A₀ base av A env C.h₀ C.L d)(h:At C o ρ fz s){x:Str}(e:nsIn K dc x=some (some v))(hx:env.kindOf x=some .globalImplicit)(hd:(x==("__debug__":Str))=false)(hq:Q v s):wpAny (model ai w) A (eval (.Name x pos) env) Q E s:=qy R R.QJ h e hx hd hq
theorem jG(R:cH K p az aL mg mb A₀ base av A env C.h₀ C.L d)(h:At C o ρ fz s){x:Str}(e:nsIn K dc x=some none)(hv:bootBuiltins x=some v)(hn:x≠"__name__")(hx:env.kindOf x=some .globalImplicit)(hd:(x==("__debug__":Str))=false)(hq:Q v s):wpAny (model ai w) A (eval (.Name x pos) env) Q E s:=mJ R R.QJ h e hv hn hx hd hq
def yL(ai:cB)(w:World)(K:Frag)(p:cB)(az:List Str)(aL:ExcName->Option Value)(mg mb:Str->Option Value)(nm:Str)(d:Nat)(f:List V->Option (Bool×V)):Prop:=
 ∀ {O:Type} {C:Cx O} {A₀:cy} {base:aE} {av:List Env} {A:cy} {env jj:Env} {o:O} {ρ:Loc} {fz:Led} {s:ak},cH K p az aL mg mb A₀ base av A env C.h₀ C.L d->yN jj->At C o ρ fz s->jj.kindOf nm=some .globalImplicit->
   ∀(args:List Expr) (pos q:Pos) (ds:List V) (r:V),f ds=some (true,r)->args.all notStar=true->args≠ []->∀(Q E:Value->ak->Prop),
   wpAny (model ai w) A (spliced (eX pos (dI args jj))) (fun vs s₁=>∃ay,Sub fz ay/\At C o ρ ay s₁/\aU ay vs ds/\∀aT s' v',Sub ay aT->At C o ρ aT s'->VR aT r v'->Q v' s') E s->
   wpAny (model ai w) A (eval (.Call (.Name nm q) args [] pos) jj) Q E s
def mP(ai:cB)(w:World)(K:Frag)(p:cB)(az:List Str)(aL:ExcName->Option Value)(mg mb:Str->Option Value)(nm:Str)(d:Nat)(f:List V->Option (Bool×V)):Prop:=
 ∀ {O:Type} {C:Cx O} {A₀:cy} {base:aE} {av:List Env} {A:cy} {env jj:Env} {o:O} {ρ:Loc} {fz:Led} {s:ak},cH K p az aL mg mb A₀ base av A env C.h₀ C.L d->A.units+8*d+64<cLine->yN jj->At C o ρ fz s->jj.kindOf nm=some .globalImplicit->
   ∀(args:List Expr) (pos q:Pos) (ds:List V) (r:V),f ds=some (true,r)->args.all notStar=true->args≠ []->∀(Q E:Value->ak->Prop),
   wpAny (model ai w) A (spliced (eX pos (dI args jj))) (fun vs s₁=>∃ay,Sub fz ay/\At C o ρ ay s₁/\aU ay vs ds/\∀aT s' v',Sub ay aT->At C o ρ aT s'->VR aT r v'->Q v' s') E s->
   wpAny (model ai w) A (eval (.Call (.Name nm q) args [] pos) jj) Q E s
theorem rR:∀ {xs:List Str} {vs:List Value} {ds:List V},aU fz vs ds->∀ {x:Str} {d:V},(xs.zip ds).lookup x=some d->∃v,(xs.zip vs).lookup x=some v/\VR fz d v
 | [],_,_,_,_,_,h=>by exact nn h
 |_::_,_,_,.nil,_,_,h=>by exact nn h
 | y ::ys,_,_,.cons hv hr,x,d,h=>by
   rw[List.zip_cons_cons,bW]at h |-
   by_cases e:(x==y)=true
   . rw[e]at h |-; obtain rfl:=sj h; exact⟨_,rfl,hv⟩
   . have e:(x==y)=false:=by simpa using e
     rw[e]at h |-; exact rR hr h
theorem lookup_mem{β:Type}{l:List (Str×β)}{x:Str}{v:β}(h:l.lookup x=some v):(x,v)∈l:=by
 refine gB (List.lookup_eq_some_iff.mp h) fun l1 l2 he _=>?_
 exact af he (aJ _ (.head _))
theorem xP{β:Type}:∀ {l:List (Str×β)} {x:Str} {v:β},(l.map (·.1)).Nodup->l.lookup x=some v->l.reverse.lookup x=some v:=by
 intro l x v hn h
 have h1:(x,v)∈l:=lookup_mem h
 have key:∀ {l:List (Str×β)},(l.map (·.1)).Nodup->(x,v)∈l->l.lookup x=some v:=by
   intro l
   induction l with
   |nil=>intro _ h; cases h
   | cons a r ih=>
     intro hn hm
     rw[eZ,List.nodup_cons]at hn
     refine af bW ?_
     rcases aB.mp hm with rfl|hm
     . simp
     . have:(x==a.1)=false:=by
         rw[beq_eq_false_iff_ne]; rintro rfl
         exact hn.1 (qP (f:=(·.1)) hm)
       exact af this (ih hn.2 hm)
 refine key ?_ (List.mem_reverse.mpr h1)
 exact af List.map_reverse (List.pairwise_reverse.mpr (hn.imp fun h=>Ne.symm h))
noncomputable def SY(O:Type)(names:List Str)(cP:List (Str×(List V->Option (Bool×V)))):pD O:=
 { names:=names,self:="",attr:=fun _ _=>none,uz:=fun _ _ _=>none,j0:=fun _ f ds=>(cP.lookup f).bind fun g=>g ds,prim:=fun _ _ _=>none }
theorem Lp(R:cH K p az aL mg mb A₀ base av A env C.h₀ C.L d){names:List Str}(hn:∀x∈names,env.kindOf x=some .local)(uO:∀q∈C.refs,names.contains q.1=false)(hc:∀y∈cP,yL ai w K p az aL mg mb y.1 d y.2/\env.kindOf y.1=some .globalImplicit):cV ai w A C env (SY O names cP) X 0 where
 fh o:={
   fn:=R.hk
   loc:=R.hl
   names:=hn
   attr:=fun a v h=>by exact nn h
   call:=fun f ds d hf ρ fz s Q E q pos args h hs nS hw=>by
     refine au (Option.bind_eq_some_iff.mp hf) fun g hg hr=>?_
     have hm:(f,g)∈cP:=lookup_mem hg
     exact(hc _ hm).1 R R.QJ h (hc _ hm).2 args pos q ds d hr hs nS Q E hw
   LD:=fun _ _=>nn,Hl:=fun _ _ _=>nn,v9:=fun h=>ff h }
 hh:=R.hh
 inter:=R.hi
 push:=fun o x d o' h=>by exact nn h
 give:=fun o x o' d h=>by exact nn h
 off:=uO
 self:=.inr ⟨fun _ _=>rfl,fun _ _ _=>rfl⟩
 vq:=.inr ⟨fun _ _=>rfl,fun _ _ _=>rfl⟩
 get:=fun o a d h=>by exact nn h
 set:=fun o a d o' h=>by exact nn h
 prim:=fun _ _ _ _=>nn
 oZ:=fun _ _ _ _=>nn
 vp:=fun _ _ _ _=>nn
theorem Lo{nm name qual:Str}{params:Arguments}{dV kV doc pm cdv ct oc:Value}{osl:Array (Option Value)}{f:Addr}{xs:List Str}{spec:List V->Option (Bool×V)}(hg:nsIn K dc nm=some (some (.ref f)))(hdb:(nm==("__debug__":Str))=false)(ho:K.lookup f=some ⟨oc,od,.func (fnOf name qual params body scope dV kV doc pm an cdv ct),osl⟩)(E8:codeIn K cdv qual=true)(pV:∀(vs:List Value) (s:ak),vs.length=xs.length->BindsTo s (fnOf name qual params body scope dV kV doc pm an cdv ct) ⟨vs,[]⟩ (xs.zip vs))(yd:∀y∈xs,scope.names.lookup y=some .local)(hnd:xs.Nodup)(zc:scope.isCoroutine=false)(Bo:scope.isGenerator=false)(hk:scope.kind= .function)(yf:∀x∈scope.names,x.2≠ .cell)(hlen:∀ds r,spec ds=some (true,r)->ds.length=xs.length)(Wf:∀ {O:Type} {C:Cx O} {A₀:cy} {base:aE} {av:List Env} {A:cy} {L:Addr} (o:O) ds r,spec ds=some (true,r)->C.refs=[]->cH K p az aL mg mb A₀ base av A (envOf qual scope L f cdv) C.h₀ C.L d->C.L=L->∃ρ,gy ai w A C (envOf qual scope L f cdv) (fun _ _ _ _=>False) o (xs.zip ds) body (o,ρ,.ret r)):
   yL ai w K p az aL mg mb nm (d+1) spec:=by
 intro O C A₀ base av A env jj o ρ fz s R lk h mD args pos q ds r hr hs nS Q E hw
 refine gJ rfl (qy R lk h hg mD hdb ?_)
 cases args with
 |nil=>exact absurd rfl nS
 | cons e rest=>
   rw[fQ,aM]at hs
   refine callWith_def (o:=⟨oc,od,.func (fnOf name qual params body scope dV kV doc pm an cdv ct),osl⟩) rfl (fD hw (fun vs s₁ x=>?_) fun _ _ x=>x) (cU hs.1)
   refine wR x fun ay sb cj hv hq=>?_
   refine gB cj.nO fun m₁ Gu Oh aaL=>?_
   refine⟨Oh.keep _ _ (R.X _ _ ho),gk ?_⟩
   have hlv:vs.length=xs.length:=hv.length.trans (hlen ds r hr)
   refine sA (Post:=fun o' dd=>o'=o/\dd=r) R cj ho E8 (pV vs s₁ hlv) (fun y hy=>yd _ (List.of_mem_zip hy).1) zc Bo hk yf (ρ':=xs.zip ds) (refs':=[]) (fun x v hx=>?_) (fun _ hq=>by cases hq) (fun g L' s' R' h'=>?_) fun aT s' o' dd v ⟨e1,e2⟩ K8 h' BN=>?_
   . refine au (rR hv hx) fun v' e1 e2=>?_
     refine⟨v',xP ?_ e1,e2⟩
     have:(xs.zip vs).map (·.1)=xs:=List.map_fst_zip (by lia)
     exact af this hnd
   . refine cE (Wf (C:=aV C g L' []) o ds r hr rfl R' rfl) fun kU hb=>?_
     exact hb ay s' _ _ h' fun aO aX s2 h2 v hv=>⟨aO,_,kU,r,s2,h2,hv,rfl,rfl⟩
   . subst e1; subst e2
     exact hq aT s' v K8 h' BN
end
end
@[irreducible] noncomputable def jx(I:pD O)(env:Env)(n:Nat)(o:O)(ρ:Loc)(st:Stmt):Option (O×Loc×Fl):=cu bE I env none n o ρ st fun o ρ fl=>some (o,ρ,fl)
noncomputable def gK(l:List Stmt)(i:Nat):Stmt:=(l[i]?).getD (.Pass ⟨0,0,0,0⟩)
section
variable {I:pD O}{sa:Addr}
theorem dN(K:cV ai w A C env I X sa){n:Nat}{st:Stmt}(h:jx I env n o ρ st=some r):cK ai w A C env X o ρ st r:=by
 unfold jx at h
 refine au ((tY K n).1 _ _ _ _ h) fun q hb h=>?_
 obtain rfl:=sj h; exact hb
theorem Sn(K:cV ai w A C env I X sa){n:Nat}(h:d7 bE I env none n o ρ b (fun o _ fl=>some (o,fl))=some (o',fl)):∃ρ',gy ai w A C env X o ρ b (o',ρ',fl):=by
 refine au ((tY K n).2 _ _ _ _ h) fun q hb h=>?_
 cases h; exact⟨_,hb⟩
end
section
variable {K:Frag}
noncomputable def Gm(c:Scope):Bool:= !c.isCoroutine&& !c.isGenerator&&decide (c.kind= .function)&&c.names.all fun x=>decide (x.2≠ .cell)
noncomputable def YY(i:Nat):Value:=bif i==10 then .str "io" 286 else .str "cpy313.shlex" 1001
noncomputable def mfn(i j:Nat)(name qual:Str)(dV:Value)(cd:Addr):FuncData:=fnOf name qual (nU (bO i j)) (aC (bO i j)) (aF (bO i j)) dV .none .none (YY i) none (.ref cd) .none
noncomputable abbrev mE(i j:Nat)(qual:Str)(f cd L:Addr):Env:=envOf qual (aF (bO i j)) L f (.ref cd)
theorem j8(R:cH K p az aL mg mb A₀ base av A env C.h₀ C.L (d+1))(h:At C o ρ fz s)(i j:Nat)(name qual:Str){cd f x:Addr}(binds:List (Str×Value))(ho:K.lookup f=some ⟨.type "function",none,.func (mfn i j name qual dV cd), #[]⟩)(E8:codeIn K (.ref cd) qual=true)(pV:BindsTo s (mfn i j name qual dV cd) args binds)(yd:(binds.all fun y=>decide ((aF (bO i j)).names.lookup y.1=some .local))=true)(JH:Gm (aF (bO i j))=true)(bF:binds.reverse.lookup ("self":Str)=some (.ref x))(pU:∀x v,ρ'.lookup x=some v->∃v',binds.reverse.lookup x=some v'/\VR fz v v')(JK:fl= .ret r\/fl= .next/\r= .none)(o7:∀g L',cH K p az aL mg mb A base (env::av) (A.deeper (mE i j qual f cd L')) (mE i j qual f cd L') g L' d->∃kU,gy ai w (A.deeper (mE i j qual f cd L')) (aV C g L' [("self",.ref x)]) (mE i j qual f cd L') (fun _ _ _ _=>False) o ρ' (aC (bO i j)) (nv,kU,fl))(hq:∀aT s' v,Sub fz aT->At C nv ρ aT s'->VR aT r v->Re (.ok (.ret v)) s'):fN (model ai w) A (.call (.ref f) args) Re s:=by
 unfold Gm at JH
 simp only[aM,Bool.not_eq_true']at JH
 refine sA (Post:=fun o' d'=>o'=nv/\d'=r) (name:=name) (qual:=qual) (params:=nU (bO i j)) (body:=aC (bO i j)) (scope:=aF (bO i j)) (dV:=dV) (kV:=.none) (doc:=.none) (pm:=YY i) (cdv:=.ref cd) (ct:=.none) (an:=none) (oc:=.type "function") (od:=none) (osl:= #[]) R h ho E8 pV (VM yd) JH.1.1.1 JH.1.1.2 (of_decide_eq_true JH.1.2) (fun x hx=>of_decide_eq_true (dH.mp JH.2 x hx)) (refs':=[("self",.ref x)]) pU (fun q hq=>af (aY.mp hq) bF) (fun g L' s' R' h'=>?_) fun aT s' o' d' v e sb hA hv=>?_
 . refine cE (o7 g L' R') fun kU hb=>?_
   rcases JK with rfl|⟨rfl,rfl⟩
   . exact hb fz s' _ _ h' fun aO aX s2 h2 v hv=>⟨aO,_,kU,_,s2,h2,hv,rfl,rfl⟩
   . exact hb fz s' _ _ h' fun aO aX s2 h2=>⟨aO,_,kU,_,s2,h2,.none,rfl,rfl⟩
 . exact hq aT s' v sb (e.1▸hA) (e.2▸hv)
end
theorem j9{st:Stmt}{r:O×Loc×Fl}(h:cK ai w A C env X o ρ st r):gy ai w A C env X o ρ [st] r:=by
 obtain⟨o',ρ',fl⟩:=r
 by_cases e:fl= .next
 . subst e; exact aQ h ja
 . exact lQ h fun _ _ e'=>e (congrArg (fun r:O×Loc×Fl=>r.2.2) e')
noncomputable def VQ(l:List V):Option (Bool×V):=opt (aS l) (fun s=>some (strOk s,.int s.length)) none
section
variable {P:aD}
theorem CQ(d:Nat):yL ai w (eG P) p az aL mg mb "len" d VQ:=by
 intro O C A₀ base av A env jj o ρ fz s R lk h mD args pos q ds r hr hs nS Q E hw
 refine gJ rfl (mJ R lk h (v:=.builtin "len") (by kernel_rfl) (by kernel_rfl) (by decide) mD (by decide) ?_)
 cases args with
 |nil=>exact absurd rfl nS
 | cons e rest=>
   rw[fQ,aM]at hs
   refine callWith_builtin1 (fD hw (fun vs s₁ x=>?_) fun _ _ x=>x) (cU hs.1) (gS pos hs.2)
   refine wR x fun ay sb cj hv hq=>?_
   refine au (aq hr) fun x h1 hr=>?_
   refine bx (cR (sj hr)) fun hx e=>?_
   rw[aaE h1]at hv
   rw[<-e]at hq
   refine Sg hv fun v xv=>?_
   refine FQ xv fun t=>?_
   have:=lY hx
   exact len_str (by lia) (hq ay _ _ (fun _ h=>h) (cj.toks _) (.int _ _))
end
noncomputable abbrev S(l:List Nat):Str:=⟨l.toArray⟩
theorem eu(a:List Nat):(S a).length=a.length:=by simp[dD]
theorem eO(a b:List Nat):S a++S b=S (a++b):=by
 apply Str.ext'; rw[Str.cps_append]; simp
theorem g7(a b:List Nat):bw (S a) (S b)=(a==b):=by simp[bw]
theorem Pj(a b:Nat):strLt (S [a]) (S [b])=decide (a<b):=by
 unfold strLt
 show decide ([a]< [b])=_
 (rewrite [StrLaws.lt_cons_cons]; refine af StrLaws.lt_nil_nil ?_); simp
theorem iC(a:List Nat)(c:Nat):aG (S a) (S [c])=decide (c∈a):=by
 unfold aG
 exact StrLaws.found_one (S a) c
theorem Bm{T:List Nat}{k:Nat}(h:k<T.length):dW (S T) (k:Int)=S [T[k]]:=by
 unfold dW Txt.charAt
 rw[StrLaws.seqIndex_nonneg (by lia) (by rw[eu]; lia)]
 simp[h]
theorem ck{a:List Nat}(h:a.length<=1000000):strOk (S a)=true:=by
 unfold strOk; rw[eu]; exact c9 h
theorem Ut{T:List Nat}{k:Nat}(h:k<=T.length):di (S T) none (some (k:Int))=S (T.take k):=by
 refine(StrLaws.sliceText_to (x:=S T) (j:=(k:Int)) ⟨by lia,by simp; lia⟩).trans ?_
 simp
theorem Gy{T:List Nat}{i j:Nat}(h:i<=j)(h':j<=T.length):di (S T) (some (i:Int)) (some (j:Int))=S ((T.drop i).take (j-i)):=by
 refine(StrLaws.sliceText_plain (x:=S T) (i:=(i:Int)) (j:=(j:Int)) ⟨Int.natCast_nonneg i,Int.ofNat_le.mpr h,Int.ofNat_le.mpr h'⟩).trans ?_
 have:((j:Int)-i).toNat=j-i:=Int.toNat_sub j i
 simp only[Int.toNat_natCast]
 (refine af this ?_; rfl)
noncomputable def firstAt(c:Nat):List Nat->Nat->Int
 | [],_=> -1
 |d::r,k=>if d=c then(k:Int)else firstAt c r (k+1)
theorem iL(c:Nat):∀(l:List Nat) (k:Nat),(firstAt c l k= -1/\c∉l)\/∃j,firstAt c l k=((k+j:Nat):Int)/\l[j]? =some c/\c∉l.take j
 | [],k=>.inl ⟨rfl,by simp⟩
 | d ::r,k=>by
   unfold firstAt
   by_cases h:d=c
   . exact af (if_pos h) (.inr ⟨0,rfl,by simp[h],by simp⟩)
   . refine af (if_neg h) ?_
     rcases iL c r (k+1)with ⟨h1,h2⟩|⟨j,h1,h2,h3⟩
     . exact .inl ⟨h1,by simp[h2]; exact fun e=>h e.symm⟩
     . refine .inr ⟨j+1,by refine af h1 ?_; congr 1; lia,by simpa using h2,?_⟩
       simp only[List.take_succ_cons,aB,not_or]
       exact⟨fun e=>h e.symm,h3⟩
theorem TJ(n k:Nat):fromIndex n (k:Int)=k:=by
 unfold fromIndex
 exact af (if_neg (Qf k)) (af (Int.max_eq_right (Int.natCast_nonneg k)) rfl)
theorem G7{T:List Nat}{c k:Nat}(h:k<=T.length):Txt.find3 (S T) (S [c]) (k:Int)=firstAt c (T.drop k) k:=by
 have hf:fromIndex (S T).length (k:Int)=k:=TJ _ k
 have gd:∀v,(S T).cps.getD v 0=T.getD v 0:=fun v=>by
   simp only[Array.getD,gn]
   by_cases hv:v<T.length <;> simp[hv]
 rcases StrLaws.find3_spec (S T) c (k:Int)with ⟨h1,h2⟩|⟨j,h1,h2,h3,h4,h5⟩
 . refine af h1 ?_
   rcases iL c (T.drop k) k with ⟨g1,_⟩|⟨i,g1,g2,_⟩
   . exact g1.symm
   . exfalso
     rw[List.getElem?_drop]at g2
     have hl:=(List.getElem?_eq_some_iff.mp g2).1
     refine h2 (k+i) (af hf (ni k i)) (by rw[eu]; exact hl) ?_
     rw[gd]; simp[gn,g2]
 . rw[hf]at h2 h5
   rw[eu]at h3
   rw[gd]at h4
   have hj:T[j]? =some c:=by refine af (List.getElem?_eq_getElem h3) ?_; simp[gn,h3]at h4; (refine af h4 ?_; rfl)
   rcases iL c (T.drop k) k with ⟨g1,g2⟩|⟨i,g1,g2,g3⟩
   . exfalso
     refine g2 (List.mem_of_getElem? (i:=j-k) ?_)
     refine af (List.getElem?_drop) (af (Nat.add_sub_of_le h2) ?_); exact hj
   . refine af h1 (af g1 ?_)
     congr 1
     rw[List.getElem?_drop]at g2
     rcases Nat.lt_trichotomy (k+i) j with jl|heq|hgt
     . exfalso
       refine h5 (k+i) (ni k i) jl ?_
       rw[gd]; simp[gn,g2]
     . exact heq.symm
     . exfalso
       refine g3 (List.mem_of_getElem? (i:=j-k) ?_)
       refine af (List.getElem?_take_of_lt (Nat.sub_lt_left_of_lt_add h2 hgt)) (af (List.getElem?_drop) (af (Nat.add_sub_of_le h2) ?_)); exact hj
theorem sG(x:Str):x=S x.cps.toList:=by simp
section
variable {I:pD O}{sa:Addr}
theorem ia(h:gy ai w A C env X o ρ' b r)(hs:sle ρ' ρ):gy ai w A C env X o ρ b r:=
 fun fz s Q E h' hq=>h fz s Q E (h'.weak hs) hq
@[irreducible] noncomputable def UN(I:pD O)(n:Nat)(o:O)(ρ:Loc)(test:Expr):Option Bool:=jZ bE (I.fh o) ρ none n test fun v=>dj bE none v fun t=>some t
theorem PI(K:cV ai w A C env I X sa){n:Nat}{t:Bool}(h:UN I n o ρ test=some t):gi ai w A C o env ρ test t:=by
 unfold UN at h
 refine au (jD (K.fh o).wk ρ n _ _ h) fun v hv h=>?_
 refine au (jd h) fun t' ht h=>?_
 obtain rfl:=sj h
 exact hv.2 _ ht
end
structure Ax(base h:aE)(l:List Env)(e:Addr)(cls:Value)(t:Addr)(vs:List Value)(L:Addr)(h':aE):Prop where
 held:∃B,base.StaysIn B/\(∀b o,h.get? b=some o->b∉l.filterMap (·.frame)->B.get? b=some o)/\Heap.HeldW B l e cls (.ref t) L h'/\B.get? t=none
 tup:h'.TupAt t vs
 up:h.UpToSlots h'
section
variable {M:Model}{base h g:aE}{L e t:Addr}{m:Str->Option Value}{cls:Value}{vs:List Value}{news:Led}
theorem Il(K:Below A base (env::av) h)(hf:env.frame=some L)(hx:Heap.MadeExcOf h s.heap e cls vs)(hQ:∀h' t,Ax base h (env::av) e cls t vs L h'->Q () { s with heap:=h' }):wpAny M A (noteFrame (.ref e) env) Q E s:=by
 refine nD hx.there fun t he htn ht=>?_
 have XH:∀jj∈(env::av),∀b,jj.frame=some b->b∈(env::av).filterMap (·.frame):=fun jj he b hb=>List.mem_filterMap.mpr ⟨jj,he,hb⟩
 have st:base.StaysIn (hideAll h ((env::av).filterMap (·.frame))):=fun b o q=>hideAll_get _ (K.stays b o q) fun hm=>by
   rw[(K.frames.mem hm).1]at q; exact nn q
 have hno:∀b,h.get? b=none->(hideAll h ((env::av).filterMap (·.frame))).get? b=none:=fun b hb=>by
   cases q:(hideAll h ((env::av).filterMap (·.frame))).get? b with
   |none=>rfl
   |some o=>have:=of_hideAll _ q; rw[hb]at this; cases this
 unfold noteFrame
 simp only[hf]
 refine ao (wpAny_field he rfl rfl ?_)
 refine af (if_neg (by simp)) ?_
 have hfr:=(funFrames_hide K.frames XH)
 refine wpAny_entryW (base:=hideAll h ((env::av).filterMap (·.frame))) (a0:=.ref t) K.stack (hfr.of_keeps fun b o hb _=>⟨o,hx.keeps b o hb,rfl⟩) hf he (fun b o hb=>hx.keeps b o (of_hideAll _ hb)) (hno e hx.new) rfl (by simp) rfl fun h' hN=>?_
 refine Az hN fun k1 k2 k3 k4=>?_
 exact hQ h' t ⟨⟨_,st,fun b o hb hn=>hideAll_get _ hb hn,⟨k1,hno e hx.new,k2,k3⟩,hno t htn⟩,Heap.TupAt.of_slots ⟨_,_,ht,rfl,rfl⟩ k4,(Heap.UpToSlots.of_keeps hx.keeps).trans k4⟩
theorem Im(hf:env.frame=some L)(H:Ax base h (env::av) e cls t vs L s.heap)(hQ:Q () s):wpAny M A (noteFrame (.ref e) env) Q E s:=by
 refine cp fun G' k'=>?_
 obtain⟨⟨B,_,_,hh,_⟩,_,_⟩:=H
 refine k' ?_
 exact wpAny_noteFrame_againW hf hh.2.2.2 hQ
theorem vI{base:aE}{f:Addr}(hkb:base.StaysIn s.heap)(hl:s.heap.FunFrames base l)(ht:s.heap.TracedAtW base e cls a0 fl)(h:∀h',base.StaysIn h'->h'.FunFrames base l->h'.TracedAtW base e cls a0 (rawInt f)->(∀b o,s.heap.get? b=some o->(∀vs,o.data≠ .fields vs)->h'.get? b=some o)->Q () { s with heap:=h' }):
   wpAny M A (setFlight (.ref e) (some f)) Q E s:=by
 refine cp fun G' k'=>?_
 refine T5 ht fun oe vs T oT ts he E7 hd h1 hnT hTe hT XJ h3=>?_
 refine k' ?_
 have Z7:3<ts.size:=(Array.getElem?_eq_some_iff.mp h3).1
 have other:∀b,b≠T->(s.heap.update T (Obj.mapFields (·.setIfInBounds 3 ((some f:Option Addr).elim .none fun f=>rawInt f)))).get? b=s.heap.get? b:=
   fun b hb=>Heap.get?_update_other _ _ (Ne.symm hb)
 have CA:∀b o,s.heap.get? b=some o->(∀vs,o.data≠ .fields vs)->b≠T:=fun b o hb hnf q=>by
   rw[q,hT]at hb; injection hb with hb; subst hb; exact hnf ts XJ
 unfold setFlight
 refine ao (wpAny_field he hd h1 ?_)
 refine af (if_pos (show(jI T !=Value.none)=true from by simp)) ?_
 refine wpAny_setField hT XJ Z7 (h _ (fun b o XK=>(other b fun q=>by rw[q,hnT]at XK; exact nn XK).trans (hkb b o XK))
   (hl.of_keeps fun b o hb hnf=>⟨o,(other b (CA b o hb hnf)).trans hb,rfl⟩) ?_ fun b o hb hnf=>(other b (CA b o hb hnf)).trans hb)
 exact⟨oe,vs,T,_,_,(other e (Ne.symm hTe)).trans he,E7,hd,h1,hnT,hTe,Heap.get?_update_self _ hT (Obj.isFreed_of_fields (Obj.data_mapFields XJ _)),Obj.data_mapFields XJ _,by simp[Z7]⟩
theorem Au(hf:env.frame=some L)(H:Ax base h (env::av) e cls t vs L s.heap)(hQ:∀h',Ax base h (env::av) e cls t vs L h'->E (.ref e) { s with heap:=h' }):cameBackBy M A env E (.ref e) s:=by
 refine cp fun G' k'=>?_
 obtain⟨⟨B,b1,b2,⟨c1,c2,c3,c4⟩,b4⟩,tup,up⟩:=H
 refine k' ?_
 unfold cameBackBy
 refine cp fun G' k'=>?_
 refine T5 (id c4) fun oe ws T oT ts he E7 hd h1 hnT hTe hT XJ h3=>?_
 refine k' ?_
 refine ao (wpAny_field he hd h1 ?_)
 refine af (if_neg (show ¬(jI T==Value.none)=true from by simp)) ?_
 refine af hf ?_
 refine vI c1 c3 c4 fun h' k1 k2 k3 k4=>hQ h' ⟨⟨B,b1,b2,⟨k1,c2,k2,k3⟩,b4⟩,?_,up.trans fun b o hb hn=>⟨o.slots,k4 b o hb hn⟩⟩
 exact tup.of_slots fun b o hb hn=>⟨o.slots,k4 b o hb hn⟩
theorem leave_held(K:Below A base (env::av) h)(acN:∀b o,base.get? b=some o->g.get? b=some o)(hf:env.frame=some L)(F:Fr g L h m)(N:News g L h news)(H:Ax base h (env::av) e cls t vs L s.heap)(abV:∀b∈av.filterMap (·.frame),(∃o,g.get? b=some o))(hQ:∀h',RaisedK base av e cls t vs news h'->g.UpToSlots h'->Q () { s with heap:=h' }):wpAny M A (leaving env (.ref e)) Q E s:=by
 obtain⟨⟨B,b1,b2,hh,b4⟩,tup,up⟩:=H
 unfold leaving
 refine ao (wpAny_noteFrame_againW hf hh.2.2.2 ?_)
 refine wpAny_landsW hh fun h' JK Uo=>hQ h' ?_ ((Heap.UpToSlots.of_keeps F.keep).trans (up.trans Uo))
 refine Az JK fun k1 k2 Yr k4=>?_
 obtain⟨_,_,k3⟩:=Yr
 refine⟨⟨B,b1,fun q hq=>⟨b2 q.1 q.2 (N q hq).1 fun hm=>?_,fresh_of_stays (fun b o e=>acN b o e) (N q hq).2.2⟩,⟨k1,k2,k3,k4⟩,b4⟩,tup.of_slots Uo⟩
 refine au (List.mem_filterMap.mp hm) fun jj Tv GY=>?_
 rcases aB.mp Tv with rfl|Tv
 . exact(N q hq).2.1 (oU (GY.symm.trans hf))
 . refine cE (abV q.1 (List.mem_filterMap.mpr ⟨jj,Tv,GY⟩)) fun o ho=>?_
   rw[(N q hq).2.2]at ho; exact nn ho
end
noncomputable def lE(k:Nat):Str:=if k=1 then "No closing quotation" else "No escaped character"
def XF(base h₀:aE)(av:List Env)(env:Env)(L:Addr)(k:Nat)(_:Led)(s:ak)(E:Value->ak->Prop):Prop:=
 (∃m,Fr h₀ L s.heap m)->∀e t tk h',(Heap.MadeExcOf s.heap h' e (.type "ValueError") [.str (lE k) tk]\/Ax base s.heap (env::av) e (.type "ValueError") t [.str (lE k) tk] L h')->E (.ref e) { s with heap:=h' }
theorem Sw{M:Model}{base h₀:aE}{L:Addr}(K:Below A₀ base av h₀)(hf:env.frame=some L)(hk:env.scope.kind= .function):
   ∀k fz s E,XF base h₀ av env L k fz s E->XF base h₀ av env L k fz s (notedBy M (A₀.deeper env) env (cameBackBy M (A₀.deeper env) env E)):=by
 intro k fz s E hX ⟨m,F⟩ e t tk h' hx
 have K':=pushX K F hf hk
 rcases hx with hx|hx
 . exact Il (s:={ s with heap:=h' }) K' hf hx fun h'' t' H=>Au (s:={ s with heap:=h'' }) hf H fun kZ H'=>hX ⟨m,F⟩ e t' tk kZ (.inr H')
 . exact Im (s:={ s with heap:=h' }) hf hx (Au (s:={ s with heap:=h' }) hf hx fun kZ H'=>hX ⟨m,F⟩ e t tk kZ (.inr H'))
def ExcAt(C:Cx O)(base:aE)(l:List Env)(o:O)(ρ:Loc)(fz:Led)(k:Nat)(e:Addr)(s:ak):Prop:=
 ∃ h tk g m R t tx,s= { C.s₀ with heap:=h,toks:=tk }/\Fr C.h₀ C.L g m/\g.UpToSlots h/\RaisedK base l e (.type "ValueError") t [.str (lE k) tx] (R++(fz++C.rest)) h/\C.Rep o fz R/\Apart R (fz++C.rest)/\
   (∀x v,ρ.lookup x=some v->∃v',m x=some v'/\VR fz v v')/\∀p∈C.refs,m p.1=some p.2
section
variable {K:Frag}
theorem NQ(R:cH K p az aL mg mb A₀ base av A env C.h₀ C.L (d+1))(h:At C o ρ fz s){name qual:Str}{params:Arguments}{body:List Stmt}{scope:Scope}{dV kV doc pm cdv ct oc:Value}{an od:Option Addr}{osl:Array (Option Value)}{f:Addr}{args:Args}{binds:List (Str×Value)}(ho:K.lookup f=some ⟨oc,od,.func (fnOf name qual params body scope dV kV doc pm an cdv ct),osl⟩)(E8:codeIn K cdv qual=true)(pV:BindsTo s (fnOf name qual params body scope dV kV doc pm an cdv ct) args binds)(yd:∀y∈binds,scope.names.lookup y.1=some .local)(zc:scope.isCoroutine=false)(Bo:scope.isGenerator=false)(hk:scope.kind= .function)(yf:∀x∈scope.names,x.2≠ .cell){ρ':Loc}{refs':List (Str×Value)}(pU:∀x v,ρ'.lookup x=some v->∃v',binds.reverse.lookup x=some v'/\VR fz v v')(hrefs:∀q∈refs',binds.reverse.lookup q.1=some q.2){Re:Result->ak->Prop}{Res:O->Fl->Prop}(o7:∀g L',cH K p az aL mg mb A base (env::av) (A.deeper (envOf qual scope L' f cdv)) (envOf qual scope L' f cdv) g L' d->
     ∃r:O×Loc×Fl,gy ai w (A.deeper (envOf qual scope L' f cdv)) (aV C g L' refs') (envOf qual scope L' f cdv) (XF base g (env::av) (envOf qual scope L' f cdv) L') o ρ' body r/\Res r.1 r.2.2/\((∃d,r.2.2= .ret d)\/∃k,r.2.2= .exc k))(hq:∀aT s' o' d v,Res o' (.ret d)->Sub fz aT->At C o' ρ aT s'->VR aT d v->Re (.ok (.ret v)) s')(tT:∀aT s' o' k e,Res o' (.exc k)->Sub fz aT->ExcAt C base (env::av) o' ρ aT k e s'->Re (.error (.ref e)) s'):
   fN (model ai w) A (.call (.ref f) args) Re s:=by
 refine cp fun G' k'=>?_
 obtain⟨hp,tk,m,Rl,rfl,F,N,rp,ap,lc,rf⟩:=id h
 refine k' ?_
 refine code_def R.B F R.X N R.T R.hA R.hf R.hk ho E8 (by have:=R.room; omega) pV yd (fun g L' cj FG F' N' B' X' T'=>?_) zc Bo hk yf
 have R':cH K p az aL mg mb A base (env::av) (A.deeper (envOf qual scope L' f cdv)) (envOf qual scope L' f cdv) g L' d:=by
   refine⟨B',X',T',?_,rfl,hk,rfl,rfl,rfl,R.hh,j5 hk,?_⟩
   . exact ud R.hA
   . have:=R.room
     show A.depth+1+d<=_
     omega
 have Wx:At (aV C g L' refs') o ρ' fz { heap:=cj,gens:=C.s₀.gens,drawn:=C.s₀.drawn,toks:=tk+binds.length,os:=C.s₀.os }:=⟨cj,_,_,Rl,rfl,F',N',rp,ap,fun x v hx=>pU x v hx,hrefs⟩
 refine cp fun G' k'=>?_
 refine nD (o7 g L' R') fun fZ hb Wg JK=>?_
 obtain⟨o',kU,fl⟩:=fZ
 refine k' ?_
 refine hb fz _ _ _ Wx fun aT Ew sb gY=>?_
 refine At.el gY fun yc fR m₂ d8 kq kj mq kO z6 xy=>?_
 have Tr:∀x v,ρ.lookup x=some v->∃v',m x=some v'/\VR aT v v':=lc.mono sb
 rcases JK with ⟨dd,rfl⟩|⟨k,rfl⟩
 . intro v hv
   exact⟨L',m₂,_,kq,kj,fun sH pB=>hq aT _ o' dd v Wg sb ⟨yc,fR,m,d8,rfl,sH,pB,mq,kO,Tr,rf⟩ hv⟩
 . intro _ e t tx h' hx
   have D4:Fr g L' yc m₂:=kq
   have TZ:News g L' yc (d8++(aT++C.rest)):=kj
   rcases hx with hx|hx
   . exact leave_raiseK B' hx D4 TZ (fun kZ t' RK up=>tT aT _ o' k e Wg sb ⟨kZ,fR,g,m,d8,t',tx,rfl,FG,up,RK,mq,kO,Tr,rf⟩) hk
   . refine leave_held (s:={ heap:=h',gens:=C.s₀.gens,drawn:=C.s₀.drawn,toks:=fR,os:=C.s₀.os }) (pushX B' D4 rfl hk) B'.stays rfl D4 TZ hx (fun b hb=>?_) fun kZ RK up=>tT aT _ o' k e Wg sb ⟨kZ,fR,g,m,d8,t,tx,rfl,FG,up,RK,mq,kO,Tr,rf⟩
     refine bx (B'.frames.mem hb) fun _ HW=>?_
     obtain⟨nv,aac,_⟩:=HW
     exact⟨nv,aac⟩
set_option backward.match.sparseCases true in
theorem Jr(R:cH K p az aL mg mb A₀ base av A env C.h₀ C.L (d+1))(h:At C o ρ fz s){name qual:Str}{params:Arguments}{body:List Stmt}{scope:Scope}{dV kV doc pm cdv ct oc:Value}{an od:Option Addr}{osl:Array (Option Value)}{f:Addr}{args:Args}{binds:List (Str×Value)}(ho:K.lookup f=some ⟨oc,od,.func (fnOf name qual params body scope dV kV doc pm an cdv ct),osl⟩)(E8:codeIn K cdv qual=true)(pV:BindsTo s (fnOf name qual params body scope dV kV doc pm an cdv ct) args binds)(yd:∀y∈binds,scope.names.lookup y.1=some .local)(zc:scope.isCoroutine=false)(Bo:scope.isGenerator=false)(hk:scope.kind= .function)(yf:∀x∈scope.names,x.2≠ .cell){ρ':Loc}{refs':List (Str×Value)}(pU:∀x v,ρ'.lookup x=some v->∃v',binds.reverse.lookup x=some v'/\VR fz v v')(hrefs:∀q∈refs',binds.reverse.lookup q.1=some q.2){Re:Result->ak->Prop}{Post:O->V->Prop}{Oc:O->Nat->Prop}(o7:∀g L' s',cH K p az aL mg mb A base (env::av) (A.deeper (envOf qual scope L' f cdv)) (envOf qual scope L' f cdv) g L' d->At (aV C g L' refs') o ρ' fz s'->
     wpAny (model ai w) (A.deeper (envOf qual scope L' f cdv)) (execs body (envOf qual scope L' f cdv))
       (fun fl Ew=>∃aT o' kU d,Sub fz aT/\At (aV C g L' refs') o' kU aT Ew/\VR aT d (match fl with| .ret v=>v|_=>.none)/\Post o' d)
       (fun e Ew=>∃aT o' kU k a,e= .ref a/\Sub fz aT/\ExcAt (aV C g L' refs') base (envOf qual scope L' f cdv::env::av) o' kU aT k a Ew/\Oc o' k) s')(hq:∀aT s' o' d v,Post o' d->Sub fz aT->At C o' ρ aT s'->VR aT d v->Re (.ok (.ret v)) s')(tT:∀aT s' o' k e,Oc o' k->Sub fz aT->ExcAt C base (env::av) o' ρ aT k e s'->Re (.error (.ref e)) s'):
   fN (model ai w) A (.call (.ref f) args) Re s:=by
 obtain⟨hp,tk,m,Rl,rfl,F,N,rp,ap,lc,rf⟩:=id h
 refine code_def R.B F R.X N R.T R.hA R.hf R.hk ho E8 (by have:=R.room; omega) pV yd (fun g L' cj FG F' N' B' X' T'=>?_) zc Bo hk yf
 have R':cH K p az aL mg mb A base (env::av) (A.deeper (envOf qual scope L' f cdv)) (envOf qual scope L' f cdv) g L' d:=by
   refine⟨B',X',T',?_,rfl,hk,rfl,rfl,rfl,R.hh,j5 hk,?_⟩
   . exact ud R.hA
   . have:=R.room
     show A.depth+1+d<=_
     omega
 have Wx:At (aV C g L' refs') o ρ' fz { heap:=cj,gens:=C.s₀.gens,drawn:=C.s₀.drawn,toks:=tk+binds.length,os:=C.s₀.os }:=⟨cj,_,_,Rl,rfl,F',N',rp,ap,fun x v hx=>pU x v hx,hrefs⟩
 have Tr:∀aT,Sub fz aT->∀x v,ρ.lookup x=some v->∃v',m x=some v'/\VR aT v v':=fun aT sb x v hx=>by
   refine au (lc x v hx) fun v' e1 e2=>?_
   exact⟨v',e1,e2.mono sb⟩
 refine fD (o7 g L' _ R' Wx) (fun fl Ew JK=>?_) fun e Ew he=>?_
 . refine cp fun G' k'=>?_
   refine T6 JK fun aT o' kU dd sb BX hv C4=>?_
   obtain⟨gY,fR,m₂,d8,rfl,kq,kj,mq,kO,z6,xy⟩:=BX
   refine k' ?_
   exact⟨L',m₂,_,kq,kj,fun sH pB=>hq aT _ o' dd _ C4 sb ⟨gY,fR,m,d8,rfl,sH,pB,mq,kO,Tr aT sb,rf⟩ hv⟩
 . refine cp fun G' k'=>?_
   refine abc he fun aT o' kU k a e'5 sb t'7 C4=>?_
   subst e'5
   obtain⟨gY,fR,acq,m₂,d8,t,tx,rfl,kq,up,RK,mq,kO,_,_⟩:=t'7
   refine k' ?_
   have D4:Fr g L' acq m₂:=kq
   exact leave_onK B' D4 RK up fun kZ RK' Uo=>tT aT _ o' k a C4 sb ⟨kZ,fR,g,m,d8,t,tx,rfl,FG,Uo,RK',mq,kO,Tr aT sb,rf⟩
end
theorem zS:"\\"=S [92]:=by decide +kernel
theorem GD:"\""=S [34]:=by decide +kernel
theorem ZO:"#"=S [35]:=by decide +kernel
theorem S6:"\n"=S [10]:=by decide +kernel
theorem ZN:"'\""=S [39,34]:=by decide +kernel
theorem dR:""=S []:=by decide +kernel
theorem oM(c:Nat)(l:List Nat)(k:Nat):firstAt c l k= -1\/∃j,firstAt c l k=((k+j:Nat):Int)/\j<l.length:=by
 rcases iL c l k with ⟨h,_⟩|⟨j,h,h2,_⟩
 . exact .inl h
 . exact .inr ⟨j,h,(List.getElem?_eq_some_iff.mp h2).1⟩
section
theorem At.grow(h:At C o ρ fz s){h':aE}{D:Addr}{ob:Obj}(hk:∀b o,s.heap.get? b=some o->h'.get? b=some o)(hD:s.heap.get? D=none)(ho:h'.get? D=some ob)(tk:Nat):
   At C o ρ ((D,ob)::fz) { s with heap:=h',toks:=tk }:=by
 obtain⟨hp,lG,m,R,rfl,F,N,rp,ap,lc,rf⟩:=h
 have hDL:D≠C.L:=by
   refine yV F.ns fun oL _ _ hL _=>?_
   rintro rfl
   rw[hL]at hD; cases hD
 refine⟨h',tk,m,R,rfl,F.keeps hk,fun q hq=>?_,C.mono _ _ _ _ (fun p hp=>.tail _ hp) rp,fun q hq r hr=>?_,fun x v hx=>?_,rf⟩
 . have rJ:q∈R++(fz++C.rest)\/q=(D,ob):=by
     simp only[bu,aB,eY]at hq |-
     rcases hq with hq|rfl|hq|hq
     . exact .inl (.inl hq)
     . exact .inr rfl
     . exact .inl (.inr (.inl hq))
     . exact .inl (.inr (.inr hq))
   rcases rJ with rJ|rfl
   . exact⟨hk _ _ (N q rJ).1,(N q rJ).2⟩
   . refine⟨ho,hDL,?_⟩
     cases e:C.h₀.get? D with
     |none=>rfl
     |some o'=>have:=F.keep D o' e; rw[hD]at this; cases this
 . simp only[eY,aB]at hr
   rcases hr with rfl|hr
   . rintro e
     have:=(N q (aH _ hq)).1
     rw[e,hD]at this; cases this
   . exact ap q hq r hr
 . refine au (lc x v hx) fun v' h1 h2=>?_
   exact⟨v',h1,DatIn.mono (fun p hp=>.tail _ hp) h2⟩
theorem At.keep(h:At C o ρ fz s){h':aE}(hk:∀b o,s.heap.get? b=some o->h'.get? b=some o)(tk:Nat):At C o ρ fz { s with heap:=h',toks:=tk }:=
 h.ext (fun b o _ e=>hk b o e) tk
end
section
variable {P:aD}
end
noncomputable def ur(s₀:ak)(h₀:aE)(L:Addr):Cx Unit:={ s₀:=s₀,h₀:=h₀,L:=L,rest:=[],refs:=[],Rep:=fun _ _ R=>R=[],mono:=fun _ _ _ _ _ h=>h }
section
variable {K:Frag}
end
theorem t6:PlainAttrs "collections.deque":=
 ⟨⟨"collections.deque.__getattribute__",by(rewrite [iP]; refine af iO ?_); kernel_rfl,by decide +kernel⟩,by(rewrite [iP]; refine af iO ?_); kernel_rfl⟩
theorem qa:Slot "collections.deque" "append" "collections.deque.append":=
 .of (owner:="collections.deque") (n:="append") (by(rewrite [iP]; refine af iO ?_); kernel_rfl) (by decide +kernel) (by decide +kernel) (by decide +kernel)
   (by first|exact .inl (by decide +kernel)|exact .inr (by decide +kernel)) (by rw[jH]; kernel_rfl)
theorem yl:typeOf (.builtin "collections.deque.append")=pure (.type "method_descriptor"):=by show builtinType _=_; refine af qK ?_; kernel_rfl
theorem v7:entryFor table "collections.deque.append"=some Builtin.«collections.deque.append» :=kF (by kernel_rfl)
theorem yp(a b:Value):argsOk "collections.deque.append" ⟨[a,b],[]⟩:=by unfold argsOk; kernel_rfl
theorem vL:Slot "collections.deque" "pop" "collections.deque.pop":=
 .of (owner:="collections.deque") (n:="pop") (by(rewrite [iP]; refine af iO ?_); kernel_rfl) (by decide +kernel) (by decide +kernel) (by decide +kernel)
   (by first|exact .inl (by decide +kernel)|exact .inr (by decide +kernel)) (by rw[jH]; kernel_rfl)
theorem Dw:typeOf (.builtin "collections.deque.pop")=pure (.type "method_descriptor"):=by show builtinType _=_; refine af qK ?_; kernel_rfl
theorem Bw:entryFor table "collections.deque.pop"=some Builtin.«collections.deque.pop» :=kF (by kernel_rfl)
theorem DC(a:Value):argsOk "collections.deque.pop" ⟨[a],[]⟩:=by unfold argsOk; kernel_rfl
theorem m9:Slot "collections.deque" "__len__" "collections.deque.__len__":=
 .of (owner:="collections.deque") (n:="__len__") (by(rewrite [iP]; refine af iO ?_); kernel_rfl) (by decide +kernel) (by decide +kernel) (by decide +kernel)
   (by first|exact .inl (by decide +kernel)|exact .inr (by decide +kernel)) (by rw[jH]; kernel_rfl)
theorem By:entryFor table "collections.deque.__len__"=some Builtin.«collections.deque.__len__» :=kF (by kernel_rfl)
theorem DE(a:Value):argsOk "collections.deque.__len__" ⟨[a],[]⟩:=by unfold argsOk; kernel_rfl
theorem Al:typeLookup (.type "collections.deque") "__bool__"=pure none:=by(rewrite [iP]; refine af iO ?_); kernel_rfl
noncomputable def aN(st:Int)(items:List Value):Obj:={ cls:=.type "collections.deque",data:=.fields (#[.none,rawInt st]++items.toArray) }
section
variable {a:Addr}{st:Int}{items:List Value}
theorem nW(h:s.heap.get? a=some (aN st items)):s.TypeIs (.ref a) "collections.deque":=⟨_,h,rfl⟩
theorem qF(h:s.heap.get? a=some (aN st items)):∀b,jI a= .ref b->∃ob,s.heap.get? b=some ob/\ob.dict=none:=fun b e=>by injection e with e; subst e; exact⟨_,h,rfl⟩
theorem Bv(h:s.heap.get? a=some (aN st items))(hq:Q (.builtin "collections.deque.append",[.ref a]) s):
   wpAny (model ai w) A (ie (.ref a) "append" pl) Q E s:=getMethod_builtin (nW h) t6 qa yl (qF h) hq
theorem Je(h:s.heap.get? a=some (aN st items))(hq:Q (.builtin "collections.deque.pop",[.ref a]) s):
   wpAny (model ai w) A (ie (.ref a) "pop" pl) Q E s:=getMethod_builtin (nW h) t6 vL Dw (qF h) hq
theorem qG(h:s.heap.get? a=some (aN st items))(hq:Q (#[.none,rawInt st]++items.toArray) s):wpAny (model ai w) A (fieldsOf (.ref a)) Q E s:=by
 unfold fieldsOf
 exact ao (wpAny_load h (aA hq))
theorem yo:(#[.none,rawInt st]++items.toArray).extract 2 (#[.none,rawInt st]++items.toArray).size=items.toArray:=by
 apply Array.ext'
 simp
theorem ym(h:s.heap.get? a=some (aN st items))(hq:Q items.toArray s):wpAny (model ai w) A (Builtin.Deque.items (.ref a)) Q E s:=by
 unfold Builtin.Deque.items
 refine ao (qG h (aA ?_))
 exact af yo hq
theorem Ny(h:s.heap.get? a=some (aN st items))(hq:Q st s):wpAny (model ai w) A (Builtin.Deque.state (.ref a)) Q E s:=by
 unfold Builtin.Deque.state field
 refine ao (ao (qG h ?_))
 have e:(#[.none,rawInt st]++items.toArray)[1]? =some (rawInt st):=by refine af ((Array.getElem?_toList).symm) ?_; simp
 exact af e (aA (aA hq))
theorem Am(h:s.heap.get? a=some (aN st items))(hq:Q none s):wpAny (model ai w) A (Builtin.Deque.maxlen (.ref a)) Q E s:=by
 unfold Builtin.Deque.maxlen field
 refine ao (ao (qG h ?_))
 have e:(#[.none,rawInt st]++items.toArray)[0]? =some .none:=by refine af ((Array.getElem?_toList).symm) ?_; simp
 exact af e (aA (aA hq))
theorem qH(h:s.heap.get? a=some (aN st items))(hf:f items.toArray=items'.toArray)(hz:items'.length<=1000)(hq:∀h',oX a s.heap h'->h'.get? a=some (aN (st+1) items')->Q () { s with heap:=h' }):wpAny (model ai w) A (Builtin.Deque.change (.ref a) f) Q E s:=by
 unfold Builtin.Deque.change
 refine ao (Ny h ?_)
 have e:∀vs:Array Value,vs= #[.none,rawInt st]++items.toArray->(#[vs.getD 0 .none,rawInt (st+1)]++f (vs.extract 2 vs.size))= #[.none,rawInt (st+1)]++items'.toArray:=by
   rintro vs rfl
   refine af yo (af hf ?_)
   simp
 refine wpAny_updateFields h rfl (hq _ ?_ ?_) ?_
 . exact Heap.SameBut.update _ _ _
 . refine(Heap.get?_update_self _ h rfl).trans ?_
   unfold aN Obj.mapFields
   simp only
   exact af ((e _ rfl).symm) rfl
 . have:=e _ rfl
   skip
   refine af this ?_
   simp
   refine af dh ?_; lia
theorem Jf(h:s.heap.get? a=some (aN st items))(hz:items.length<=900)(hq:∀h',oX a s.heap h'->h'.get? a=some (aN (st+1) (items++[x]))->Q .none { s with heap:=h' }):wpAny (model ai w) A (call (.builtin "collections.deque.append") [.ref a,x]) Q E s:=by
 refine qJ qa (nW h) v7 ?_ (yp _ _)
 unfold Builtin.«collections.deque.append» selfAndOne noKeywords
 skip
 refine ao (ao (aA (aA ?_)))
 unfold Builtin.Deque.pushRight
 refine ao (ao (qH (items':=items++[x]) h (by simp) (by simp; lia) fun h' hs ho=>?_))
 refine ao (Am (s:={ s with heap:=h' }) ho ?_)
 exact aA (aA ⟨_,rfl,hq h' hs ho⟩)
theorem W4(h:s.heap.get? a=some (aN st (items++[x])))(hz:items.length<=900)(hq:∀h',oX a s.heap h'->h'.get? a=some (aN (st+1) items)->Q x { s with heap:=h' }):wpAny (model ai w) A (call (.builtin "collections.deque.pop") [.ref a]) Q E s:=by
 refine qJ vL (nW h) Bw ?_ (DC _)
 unfold Builtin.«collections.deque.pop» selfOnly noKeywords
 skip
 refine ao (ao (aA (aA ?_)))
 refine ao (ym h ?_)
 have e:(items++[x]).toArray.back? =some x:=by simp
 refine af e ?_
 refine ao (qH h (items':=items) (by simp) (by lia) fun h' hs ho=>?_)
 exact aA ⟨_,rfl,hq h' hs ho⟩
theorem Dz{Q:Value->ak->Prop}(h:s.heap.get? a=some (aN st items))(hz:items.length<=1000)(hq:Q (.int items.length (s.toks+1)) { s with toks:=s.toks+1+1 }):wpAny (model ai w) A (Builtin.«len» ⟨[.ref a],[]⟩) (fun fin s'=>∃r,fin= .done (.ret r)/\Q r s') E s:=by
 have hT:=nW h
 unfold Builtin.«len»
 refine ao (m:=oneArg "len" _) (aA ?_)
 refine ao (m:=callSpecial? (.ref a) "__len__") (wpAny_callSpecial?_slot (name:="__len__") hT m9
   (qJ m9 hT By ?_ (DE _)))
 . unfold Builtin.«collections.deque.__len__» slotArgs
   skip
   refine ao (aA ?_)
   try dsimp only
   refine ao ?_
   unfold Builtin.Deque.size
   refine ao (qG h (aA ?_))
   have e:(#[.none,rawInt st]++items.toArray).size-2=items.length:=by simp
   refine af e ?_
   show wpAny _ _ (retInt _) _ _ _
   unfold retInt
   refine ao (wpAny_mkInt (aA ⟨_,rfl,?_⟩))
   refine ao (iQ (aA ?_))
   refine ao (wpAny_letGo ?_)
   show wpAny _ _ (if((items.length:Nat):Int)<0 then _ else _) _ _ _
   refine af (if_neg (by lia)) ?_
   show wpAny _ _ (if((items.length:Nat):Int)>=2 ^ 63 then _ else _) _ _ _
   exact af (if_neg (by lia)) (ao (wpAny_mkInt (aA ⟨_,rfl,hq⟩)))
theorem uU{Q:Bool->ak->Prop}(h:s.heap.get? a=some (aN st items))(hz:items.length<=1000)(hq:Q (!items.isEmpty) { s with toks:=s.toks+1+1 }):wpAny (model ai w) A (truthy (.ref a)) Q E s:=by
 have nS:((items.length:Int)!=0)= !items.isEmpty:=by
   cases items with
   |nil=>rfl
   | cons x r=>
     have:((((x::r).length:Nat):Int)!=0)=true:=bne_iff_ne.mpr (by refine af dg ?_; lia)
     exact af this rfl
 have key:wpAny (model ai w) A (runValue (.builtin "len" ⟨[.ref a],[]⟩)) (fun r s'=>r= .int items.length (s.toks+1)/\Q (!items.isEmpty) s') E s:=by
   refine wpAny_runValue (oS entry_len ?_)
   refine af (Around.under_plainId plain_len _) ?_
   exact fD (Dz (Q:=fun r s'=>r= .int items.length (s.toks+1)/\Q (!items.isEmpty) s') h hz ⟨rfl,hq⟩)
     (fun fin s' h'=>by obtain⟨r,rfl,hq⟩:=h'; exact hq) fun _ _ e=>e
 unfold truthy
 first
   |refine ao (wpAny_callSpecial?_none (name:="__bool__") (nW h) Al ?_)
   |refine ao (aA (ao (wpAny_callSpecial?_none (name:="__bool__") (nW h) Al ?_)))
 first
   |refine ao (wpAny_specialOf (name:="__len__") (nW h) m9.lookup ?_)
   |refine ao (aA (ao (wpAny_specialOf (name:="__len__") (nW h) m9.lookup ?_)))
 exact ao (fD key (fun r s' h'=>by obtain⟨rfl,hq⟩:=h'; exact aA (nS▸hq)) fun _ _ e=>e)
end
theorem Nz:mroOf (.type "collections.deque")=pure [.type "collections.deque",.type "object"]:=by rw[mroOf_type]; kernel_rfl
theorem ze:typeLookup (.type "collections.deque") "__new__"=pure (some (.builtin "collections.deque.__new__")):=by(rewrite [iP]; refine af iO ?_); kernel_rfl
theorem Bt:Slot "collections.deque" "__init__" "collections.deque.__init__":=
 .of (owner:="collections.deque") (n:="__init__") (by(rewrite [iP]; refine af iO ?_); kernel_rfl) (by decide +kernel) (by decide +kernel) (by decide +kernel)
   (by first|exact .inl (by decide +kernel)|exact .inr (by decide +kernel)) (by rw[jH]; kernel_rfl)
theorem iM:TypeCalled "collections.deque" "collections.deque.__new__" "collections.deque.__init__":=
 ⟨by decide +kernel,by decide +kernel,⟨_,_,Nz⟩,madeBy_type Nz ze (by decide +kernel),by decide +kernel,by rw[jH]; kernel_rfl,Bt⟩
theorem Dy:checkTypeCall "collections.deque" ⟨[],[]⟩=pure ():=by kernel_rfl
theorem Fi:checkBuiltinCall "collections.deque.__new__" ⟨[.type "collections.deque"],[]⟩=pure ():=by kernel_rfl
theorem Bx:entryFor table "collections.deque.__new__"=some Builtin.«collections.deque.__new__» :=kF (by kernel_rfl)
theorem tZ:plainId "collections.deque.__new__"=true:=by decide +kernel
theorem zg:entryFor table "collections.deque.__init__"=some Builtin.«collections.deque.__init__» :=kF (by kernel_rfl)
theorem W3:isSubtype (.type "collections.deque") (.type "collections.deque")=pure true:=by rw[jH]; kernel_rfl
theorem zd:typeHasDict (.type "collections.deque")=false:=by kernel_rfl
theorem BB(a:Value):argsOk "collections.deque.__init__" ⟨[a],[]⟩:=by unfold argsOk; kernel_rfl
section
theorem DB(h:Q₁ (.ref s.heap.objs.size) { s with heap:=s.heap.push (aN 0 []) }):
   fN (model ai w) A (.call (.builtin "collections.deque.__new__") ⟨[.type "collections.deque"],[]⟩) (wants Q₁ E) s:=by
 refine codeAny_of_tree ?_
 show wpAny _ A.in1 (do checkBuiltinCall "collections.deque.__new__" ⟨[.type "collections.deque"],[]⟩; again (.builtin "collections.deque.__new__" ⟨[.type "collections.deque"],[]⟩)) _ _ s
 refine ao (fW Fi (aA ⟨plainId_quiet tZ _,oS Bx ?_⟩))
 refine af (Around.under_plainId tZ _) ?_
 have key:∀(hs:s=s),Builtin.«collections.deque.__new__» ⟨[.type "collections.deque"],[]⟩=(do ret (<-Builtin.Deque.new (.type "collections.deque") #[] none)):=by
   intro _
   unfold Builtin.«collections.deque.__new__» Builtin.Deque.newArgs Builtin.Deque.ty
   have ht:isType (.type "collections.deque")=pure true:=by kernel_rfl
   simp only[ht,W3]
   rfl
 refine af (key rfl) ?_
 unfold Builtin.Deque.new
 simp only[zd]
 have hz:((#[]:Array Value).size>sizeLine)=False:=by refine af dh ?_; simp
 skip
 refine ao (ao (aA ?_))
 simp only[newObj]
 refine ao (wpAny_alloc (aA ?_))
 exact aA h
theorem Fj(a:Addr):Builtin.«collections.deque.__init__» ⟨[.ref a],[]⟩=(do setField (.ref a) 0 .none; Builtin.Deque.clear (.ref a); ret .none):=by kernel_rfl
theorem Bu{Q:Value->ak->Prop}{a:Addr}(h:s.heap.get? a=some (aN 0 []))(hq:∀h',oX a s.heap h'->h'.get? a=some (aN 0 [])->Q .none { s with heap:=h' }):
   wpAny (model ai w) A (Builtin.«collections.deque.__init__» ⟨[.ref a],[]⟩) (fun fin s'=>∃r,fin= .done (.ret r)/\Q r s') E s:=by
 rw[Fj]
 unfold setField updateField
 have e:(Obj.mapFields (·.setIfInBounds 0 .none) (aN 0 []))=aN 0 []:=by kernel_rfl
 have ho':(s.heap.update a (Obj.mapFields (·.setIfInBounds 0 .none))).get? a=some (aN 0 []):=(Heap.get?_update_self _ h rfl).trans (by(refine af e ?_; rfl))
 have hl:0<(#[.none,rawInt 0]++([]:List Value).toArray).size:=by simp
 refine ao (ao (wpAny_load h ?_))
 show wpAny _ _ (if 0<(#[.none,rawInt 0]++([]:List Value).toArray).size then _ else _) _ _ _
 refine af (if_pos hl) ?_
 refine wpAny_update h ?_
 unfold Builtin.Deque.clear
 refine ao (ao (ym (s:={ s with heap:=s.heap.update a (Obj.mapFields (·.setIfInBounds 0 .none)) }) ho' ?_))
 exact aA (aA ⟨_,rfl,hq _ (Heap.SameBut.update _ _ _) ho'⟩)
set_option maxHeartbeats 1000000 in
theorem W5{Q:Value->ak->Prop}(h:∀h',Heap.ExtBut s.heap.objs.size s.heap h'->h'.get? s.heap.objs.size=some (aN 0 [])->h'.objs.size=s.heap.objs.size+1->Q (.ref s.heap.objs.size) { s with heap:=h' }):
   wpAny (model ai w) A (call (.type "collections.deque") []) Q E s:=by
 obtain⟨c,tl,acg⟩:=iM.mro
 have acU:=iM.made
 have abO:=iM.sub
 refine gk (codeAny_of_tree ?_)
 show wpAny _ _ (callAny (.type "collections.deque") _) _ _ _
 refine aA ⟨uc _ (by decide +kernel),oS F.entry_type_call ?_⟩
 refine af (Around.under_plain (weight_type_call_type "collections.deque" [] []) rfl) ?_
 have h1:=iM.notType
 have h2:=iM.canCreate
 have hct:=Dy
 repeat (any_goals (first|assumption|wp_step))
 refine codeAny_mono (DB (E:=E) (Q₁:=fun obj s₁=>obj= .ref s.heap.objs.size/\s₁= { s with heap:=s.heap.push (aN 0 []) }) ⟨rfl,rfl⟩) fun r s₁ hr=>?_
 cases r with
 |error e=>exact hr
 | ok fl =>
   cases fl with
   | ret obj=>
     obtain⟨rfl,rfl⟩:=hr
     have hS:(s.heap.push (aN 0 [])).get? s.heap.objs.size=some (aN 0 []):=Heap.get?_push_size _ rfl
     have hT:Shared.TypeIs { s with heap:=s.heap.push (aN 0 []) } (.ref s.heap.objs.size) "collections.deque":=⟨_,hS,rfl⟩
     have hli:=iM.init.lookup
     have hbi:=iM.init.bind (.ref s.heap.objs.size)
     repeat (any_goals (first|assumption|wp_step))
     refine codeAny_mono (codeAny_call_builtin (R:=wants (fun r aX=>r= .none/\Q (.ref s.heap.objs.size) aX) E) iM.init.plain zg (iM.init.check _ _ _ _ _ _ _ _ hT (BB _) ?_)) fun abu aX ML=>?_
     . refine fD (Bu (Q:=fun r aX=>r= .none/\Q (.ref s.heap.objs.size) aX) hS fun h' hs ho=>⟨rfl,h h' (fun b o hb e=>?_) ho ?_⟩) (fun fin s' h'=>by obtain⟨v,rfl,hv⟩:=h'; exact hv) fun _ _ h'=>h'
       . refine af (hs.2 b hb) ?_; exact Heap.get?_push_of_some _ e
       . (refine af hs.1 ?_; rw[oR])
     . cases abu with
       |error e=>exact ML
       | ok aap=>
         cases aap with
         | ret r=>
           obtain⟨rfl,hq⟩:=ML
           repeat (any_goals (first|assumption|wp_step))
         |_=>exact ML.elim
   |_=>exact hr.elim
end
inductive FV where
 |v (d:V)
 |r (a:Addr)
noncomputable def fvD:FV->Option V
 | .v d=>some d
 | .r _=>none
noncomputable def Dj(fs:List (Str×FV))(a:Str):Option V:=opt (fs.lookup a) fvD none
theorem wJ{a:Str}(h:Dj fs a=some v):fs.lookup a=some (.v v):=by
 refine au (aq h) fun x h1 h2=>?_
 cases x with
 |v d=>(refine af h1 (af (sj h2) ?_); rfl)
 |r _=>exact nn h2
theorem bs{α:Type}{b:Bool}{x y:α}{f:Option α}(h:(bif b then some x else f)=some y):(b=true/\x=y)\/(b=false/\f=some y):=by
 cases b with
 |true=>exact .inl ⟨rfl,sj h⟩
 |false=>exact .inr ⟨rfl,h⟩
noncomputable def Oi(fz:Led):FV->Value->Prop
 | .v d,x=>VR fz d x
 | .r a,x=>x= .ref a
theorem Oi.mono(h:∀p∈fz,p∈aT):∀ {f:FV} {x:Value},Oi fz f x->Oi aT f x
 | .v _,_,hx=>DatIn.mono h hx
 | .r _,_,hx=>hx
noncomputable def g6(fz:Led):List (Str×FV)->List iZ->Prop
 | [],[]=>True
 |y::r,e::es=>(∃tk,e.key= .str y.1 tk)/\Oi fz y.2 e.val/\g6 fz r es
 |_,_=>False
theorem g6.ind{P:List (Str×FV)->List iZ->Prop}(h0:P [] [])(h1:∀y r e es,(∃tk,e.key= .str y.1 tk)->Oi fz y.2 e.val->g6 fz r es->P r es->P (y::r) (e::es)):∀ {fs es},g6 fz fs es->P fs es:=by
 intro fs
 induction fs with
 | nil=>intro es h; cases es with
   |nil=>exact h0
   |cons=>exact h.elim
 | cons y r ih=>intro es h; cases es with
   |nil=>exact h.elim
   |cons e es=>exact h1 y r e es h.1 h.2.1 h.2.2 (ih h.2.2)
theorem g6.mono(h:∀p∈fz,p∈aT){fs:List (Str×FV)}(x:g6 fz fs es):g6 aT fs es:=
 g6.ind (P:=g6 aT) trivial (fun _ _ _ _ h1 h2 _ ih=>⟨h1,h2.mono h,ih⟩) x
theorem g6.len{fs:List (Str×FV)}(x:g6 fz fs es):es.length=fs.length:=
 g6.ind (P:=fun fs es=>es.length=fs.length) rfl (fun _ _ _ _ _ _ _ ih=>congrArg Nat.succ ih) x
noncomputable def putF(x:Str)(f:FV):List (Str×FV)->List (Str×FV)
 | []=>[(x,f)]
 |y::r=>if x==y.1 then(y.1,f)::r else y::putF x f r
noncomputable def Found(fz:Led)(x:Str)(es:List iZ):Option FV->Prop
 |some f=>∃e,es.find? (·.key.isStr x)=some e/\Oi fz f e.val
 |none=>es.find? (·.key.isStr x)=none/\es.any (·.refKey)=false
theorem G3{x:Str}(h:g6 fz fs es):Found fz x es (fs.lookup x):=by
 refine g6.ind (P:=fun fs es=>Found fz x es (fs.lookup x)) ⟨rfl,rfl⟩ (fun y r e es=>?_) h
 . rintro⟨tk,h1⟩ h2 h3 ih
   refine af bW ?_
   have hk:e.key.isStr x=(y.1==x):=by exact af h1 rfl
   by_cases hx:(x==y.1)=true
   . refine af hx ?_
     have:(y.1==x)=true:=by refine af (eq_of_beq hx) ?_; simp
     refine⟨e,?_,h2⟩
     (refine af (List.find?_cons) (af hk (af this ?_)); rfl)
   . have hx:(x==y.1)=false:=by simpa using hx
     refine af hx ?_
     have:(y.1==x)=false:=by rw[beq_eq_false_iff_ne]at hx |-; exact fun e=>hx e.symm
     show Found fz x (e::es) (r.lookup x)
     have ef:(e::es).find? (·.key.isStr x)=es.find? (·.key.isStr x):=by(refine af (List.find?_cons) (af hk (af this ?_)); rfl)
     cases q:r.lookup x with
     | some f=>
       rw[q]at ih
       refine au ih fun e' a b=>?_
       exact⟨e',ef.trans a,b⟩
     | none=>
       rw[q]at ih
       refine⟨ef.trans ih.1,?_⟩
       have:e.refKey=false:=by unfold DictEntry.refKey; (refine af h1 ?_; rfl)
       exact af List.any_cons (af this (af ih.2 rfl))
theorem Fe{x:Str}(h:g6 fz fs es)(hf:fs.lookup x=some f):∃v,getL x es=some (some v)/\Oi fz f v:=by
 have:=G3 (x:=x) h
 rw[hf]at this
 refine au this fun e h1 h2=>?_
 exact⟨e.val,by unfold getL; (refine af h1 ?_; rfl),h2⟩
theorem qB{x:Str}(h:g6 fz fs es)(hf:fs.lookup x=none):getL x es=some none:=by
 have:=G3 (x:=x) h
 rw[hf]at this
 unfold getL; exact af this.1 (af this.2 rfl)
theorem M9{x:Str}{hs:Int}{tk:Tok}(hv:Oi fz f v){es:List iZ}(h:g6 fz fs es):g6 fz (putF x f fs) (putL x hs (.str x tk) v es):=by
 refine g6.ind (P:=fun fs es=>g6 fz (putF x f fs) (putL x hs (.str x tk) v es)) ⟨⟨tk,rfl⟩,hv,trivial⟩ (fun y r e es=>?_) h
 . rintro⟨lG,h1⟩ h2 h3 ih
   have hk:e.key.isStr x=(y.1==x):=by exact af h1 rfl
   unfold putF putL
   by_cases hx:(x==y.1)=true
   . have:(y.1==x)=true:=by refine af (eq_of_beq hx) ?_; simp
     exact af (if_pos hx) (af hk (af (if_pos this) ⟨⟨lG,h1⟩,hv,h3⟩))
   . have Tj:(x==y.1)=false:=by simpa using hx
     have:¬(y.1==x)=true:=by
       rw[beq_eq_false_iff_ne]at Tj
       intro q; exact Tj (eq_of_beq q).symm
     exact af (if_neg hx) (af hk (af (if_neg this) ⟨⟨lG,h1⟩,h2,ih⟩))
structure LP where
 lx:Addr
 ld:Addr
 io:Addr
 id:Addr
 pb:Addr
 fs:Addr
 pc:Addr
 T:List Nat
 M:List Nat
 W:List Nat
 aa:Bool
structure LO where
 state:V
 token:V
 fH:V
 pos:V
 iV:List Nat
noncomputable def pA(aa:Bool):V:=match aa with
 |true=>.none
 |false=>.str ""
noncomputable def pbF(P:LP):Addr:=match P.M with
 | []=>P.pc
 |_::_=>P.pb
noncomputable def Xw(P:LP):List (Str×FV):=match P.M with
 | []=>[]
 |_::_=>[("_pushback_chars",.r P.pc)]
noncomputable def Ir(P:LP)(s1:Int):Led:=match P.M with
 | []=>[]
 |_::_=>[(P.pb,aN s1 [])]
noncomputable def Qp(P:LP):List Addr:=match P.M with
 | []=>[]
 |_::_=>[P.pb]
theorem Vd(P:LP)(s1:Int):(Ir P s1).map (·.1)=Qp P:=by
 unfold Ir Qp
 cases P.M <;> rfl
noncomputable def IF(P:LP)(o:LO):List (Str×FV):=
 [("instream",.r P.io),("infile",.v .none),("posix",.v (.bool P.aa)),("eof",.v (pA P.aa)),("commenters",.v (.str "#")),("wordchars",.v (.str (S P.W))),("whitespace",.v (.str " \t\r\n")),("whitespace_split",.v (.bool false)),
  ("quotes",.v (.str "'\"")),("escape",.v (.str "\\")),("escapedquotes",.v (.str "\"")),("state",.v o.state),("pushback",.r (pbF P)),("lineno",.v o.fH),("debug",.v (.int 0)),("token",.v o.token),("filestack",.r P.fs),("source",.v .none),
  ("_punctuation_chars",.v (.str (S P.M)))]
noncomputable def bg(P:LP)(o:LO):List (Str×FV):=IF P o++Xw P
noncomputable def dw(P:LP)(o:LO):List (Str×FV):=[("_StringIO__newline",.v (.str "\n")),("_StringIO__buf",.v (.str (S P.T))),("_StringIO__pos",.v o.pos)]
noncomputable abbrev uJ(P:LP)(es:List iZ)(n:Nat)(pY:List iZ)(n2:Nat)(s1 s2:Int):Led:=[(P.lx,bI 722 P.ld),(P.ld,bH es n),(P.io,bI 587 P.id),(P.id,bH pY n2),(P.fs,aN s2 [])]++Ir P s1
inductive bK(P:LP)(o:LO)(fz R:Led):Prop
 |mk (es:List iZ) (n:Nat) (pY:List iZ) (n2:Nat) (s1 s2 s3:Int) (vs:List Value) (e:R=uJ P es n pY n2 s1 s2++[(P.pc,aN s3 vs)]) (h1:g6 fz (bg P o) es) (h2:g6 fz (dw P o) pY) (h3:aU fz vs (o.iV.map fun c=>.str (S [c])))
     (h4:([P.lx,P.ld,P.io,P.id,P.fs]++(Qp P++[P.pc])).Nodup)
theorem xS(P:LP)(es:List iZ)(n:Nat)(pY:List iZ)(n2:Nat)(s1 s2:Int)(ob:Obj):(uJ P es n pY n2 s1 s2++[(P.pc,ob)]).map (·.1)=[P.lx,P.ld,P.io,P.id,P.fs]++(Qp P++[P.pc]):=by
 (refine af jL (af jL ?_); rw[Vd,bB]); rfl
theorem zX{o:LO}{x:Str}(h:(IF P o).lookup x=none)(hx:(x==("_pushback_chars":Str))=false):(bg P o).lookup x=none:=by
 unfold bg Xw
 refine af List.lookup_append (af h ?_)
 cases P.M with
 |nil=>rfl
 |cons=>show List.lookup x [(_,_)]=none; exact af bW (af hx rfl)
theorem zW{o:LO}{x:Str}(h:(IF P o).lookup x=some f):(bg P o).lookup x=some f:=by
 unfold bg
 exact af List.lookup_append (af h rfl)
theorem pS(P:LP)(o:LO)(fz aT R:Led)(h:∀p∈fz,p∈aT)(hr:bK P o fz R):bK P o aT R:=by
 obtain⟨es,n,pY,n2,s1,s2,s3,vs,e,h1,h2,h3,h4⟩:=hr
 exact⟨es,n,pY,n2,s1,s2,s3,vs,e,h1.mono h,h2.mono h,h3.mono h,h4⟩
theorem C6{d:V}(h:VR fz d v):handedIn v=true:=by cases h <;> rfl
theorem I7(h:Oi fz f v):handedIn v=true:=by
 cases f with
 |v d=>exact C6 h
 |r a=>subst h; rfl
section
variable {K:Frag}
theorem qz(R:cH K p az aL mg mb A₀ base av A env C.h₀ C.L d)(h:At C o ρ fz s){cls x dx:Addr}{name:Str}{expr:Bool}(hi:∀R,C.Rep o fz R->∃es n,(x,bI cls dx)∈R/\(dx,bH es n)∈R/\g6 fz fs es)(hf:fs.lookup name=some f)(hg:plainGet K cls name=true)(hh:hasDictIn K cls=true)(ha:dS K (.ref cls) name=some none)(hq:∀v s',At C o ρ fz s'->Oi fz f v->Q v s'):wpAny (model ai w) A (getAttr (.ref x) name expr) Q E s:=by
 refine cp fun G' k'=>?_
 obtain⟨hp,tk,m,Rl,rfl,F,N,rp,ap,lc,rf⟩:=id h
 refine fS (hi Rl rp) fun es n h1 h2 h3=>?_
 refine au (Fe h3 hf) fun v g1 g2=>?_
 refine k' ?_
 have I:InstAt hp x (bI cls dx) cls (some (bH es n)):=⟨(N _ (aH _ h1)).1,rfl,rfl,(N _ (aH _ h2)).1⟩
 exact get_own (s:={ C.s₀ with heap:=hp,toks:=tk }) F R.X I hg hh ha rfl g1 (I7 g2) (hq v _ (h.toks _) g2)
theorem AJ{d:Addr}(h2:∀q∈post,q.1≠d):∀ {pre:Led},(∀q∈pre,q.1≠d)->Upd d a b (pre++(d,a)::post) (pre++(d,b)::post)
 | [],_=>.head h2
 |q::r,h1=>.tail (h1 q (.head _)) (AJ h2 fun y hy=>h1 y (.tail _ hy))
def uh(Rep:Led->Prop)(cls x dx:Addr)(fs:List (Str×FV))(name:Str)(dv:V)(fz Rl:Led):Prop:=∃es n pre post,Rl=pre++(dx,bH es n)::post/\(x,bI cls dx)∈pre/\(∀q∈pre,q.1≠dx)/\(∀q∈post,q.1≠dx)/\g6 fz fs es/\∀es' n',g6 fz (putF name (.v dv) fs) es'->Rep (pre++(dx,bH es' n')::post)
theorem qp(R:cH K p az aL mg mb A₀ base av A env C.h₀ C.L d)(h:At C o ρ fz s){cls x dx:Addr}{name:Str}(hi:∀Rl,C.Rep o fz Rl->uh (C.Rep o' fz) cls x dx fs name dv fz Rl)(hlen:(putF name (.v dv) fs).length<=1000)(hs:dS K (.ref cls) "__setattr__"=some (some (.builtin "object.__setattr__")))(hp:plainOver K cls=true)(ht:takerIn K cls name=some none)(hh:hasDictIn K cls=true)(hv:VR fz dv v)(hq:∀s',At C o' ρ fz s'->Q () s'):wpAny (model ai w) A (setAttr (.ref x) name v) Q E s:=by
 refine cp fun G' k'=>?_
 obtain⟨Ox,tk,m,Rl,rfl,F,N,rp,ap,lc,rf⟩:=id h
 refine XZ (hi Rl rp) fun es n pre post e'4 h1 h2 h3 h4 h5=>?_
 subst e'4
 refine k' ?_
 have I:InstAt Ox x (bI cls dx) cls (some (bH es n)):=⟨(N _ (aH _ (aH _ h1))).1,rfl,rfl,(N _ (aH _ (aJ _ (.head _)))).1⟩
 have hl:(getL name es).isSome=true:=by
   cases q:fs.lookup name with
   |some f=>obtain⟨v',e,_⟩:=Fe h4 q; exact af e rfl
   |none=>exact af (qB h4 q) rfl
 have hp2:=M9 (fz:=fz) (x:=name) (f:=.v dv) (v:=v) (hs:=qM w.params name) (tk:=tk+1) hv h4
 have MM:∀q∈fz++C.rest,q.1≠dx:=fun q hq e=>ap (dx,bH es n) (aJ _ (.head _)) q hq e.symm
 refine set_dict (s:={ C.s₀ with heap:=Ox,toks:=tk }) (es':=putL name (qM w.params name) (.str name (tk+1)) v es) (n':=putN name es n) F R.X N I rfl hs hp ht hh hl rfl
   (news':=(pre++(dx,bH (putL name (qM w.params name) (.str name (tk+1)) v es) (putN name es n))::post)++(fz++C.rest)) ?_ (af hp2.len hlen) fun h' F' N'=>?_
 . (rewrite [bB,bB]; refine af eY (af eY ?_))
   exact AJ (fun q hq=>(bu.mp hq).elim (h3 q) (MM q)) h2
 . refine hq _ ⟨h',_,m,_,rfl,F',N',h5 _ _ hp2,fun q hq r hr=>?_,lc,rf⟩
   simp only[bu,aB]at hq
   rcases hq with hq|rfl|hq
   . exact ap q (aH _ hq) r hr
   . exact ap (dx,bH es n) (aJ _ (.head _)) r hr
   . exact ap q (aJ _ (.tail _ hq)) r hr
end
section
variable {K:Frag}{Pm:aD}
theorem cH.in1{L:Addr}(R:cH K p az aL mg mb A₀ base av A env h₀ L d):cH K p az aL mg mb A₀ base av A.in1 env h₀ L d:=
 ⟨R.B,R.X,R.T,R.hA,R.hf,R.hk,R.hl,R.hg,R.hb,R.hh,R.hi,R.room⟩
theorem xU(P:LP)(o:LO):(bg P o).length<=20:=by
 unfold bg Xw
 refine af aR ?_
 cases P.M with
 |nil=>show 19+0<=20; decide
 |cons=>exact bC 20
theorem pR{o:LO}(h:bK P o fz Rl):∃es n,(P.lx,bI 722 P.ld)∈Rl/\(P.ld,bH es n)∈Rl/\g6 fz (bg P o) es:=by
 obtain⟨es,n,pY,n2,s1,s2,s3,vs,rfl,h1,h2,h3,h4⟩:=h
 exact⟨es,n,.head _,.tail _ (.head _),h1⟩
theorem tQ{o:LO}(h:bK P o fz Rl):∃es n,(P.io,bI 587 P.id)∈Rl/\(P.id,bH es n)∈Rl/\g6 fz (dw P o) es:=by
 obtain⟨es,n,pY,n2,s1,s2,s3,vs,rfl,h1,h2,h3,h4⟩:=h
 exact⟨pY,n2,.tail _ (.tail _ (.head _)),.tail _ (.tail _ (.tail _ (.head _))),h2⟩
theorem L8{o o':LO}{name:Str}(e:putF name (.v dv) (bg P o)=bg P o')(e2:dw P o=dw P o')(e3:o.iV=o'.iV)(h:bK P o fz Rl):
   uh (bK P o' fz) 722 P.lx P.ld (bg P o) name dv fz Rl:=by
 obtain⟨es,n,pY,n2,s1,s2,s3,vs,rfl,h1,h2,h3,h4⟩:=h
 have hk:((uJ P es n pY n2 s1 s2++[(P.pc,aN s3 vs)]).map (·.1)).Nodup:=by rw[xS]; exact h4
 have k:=gc (pre:=[(P.lx,bI 722 P.ld)]) (ob:=bH es n) (post:=([(P.io,bI 587 P.id),(P.id,bH pY n2),(P.fs,aN s2 [])]++Ir P s1)++[(P.pc,aN s3 vs)]) hk
 exact⟨es,n,[(P.lx,bI 722 P.ld)],_,rfl,.head _,k.1,k.2,h1,fun es' n' h'=>⟨es',n',pY,n2,s1,s2,s3,vs,rfl,e▸h',e2▸h2,e3▸h3,h4⟩⟩
theorem Q7{o o':LO}{name:Str}(e:putF name (.v dv) (dw P o)=dw P o')(e2:bg P o=bg P o')(e3:o.iV=o'.iV)(h:bK P o fz Rl):
   uh (bK P o' fz) 587 P.io P.id (dw P o) name dv fz Rl:=by
 obtain⟨es,n,pY,n2,s1,s2,s3,vs,rfl,h1,h2,h3,h4⟩:=h
 have hk:((uJ P es n pY n2 s1 s2++[(P.pc,aN s3 vs)]).map (·.1)).Nodup:=by rw[xS]; exact h4
 have k:=gc (pre:=[(P.lx,bI 722 P.ld),(P.ld,bH es n),(P.io,bI 587 P.id)]) (ob:=bH pY n2) (post:=([(P.fs,aN s2 [])]++Ir P s1)++[(P.pc,aN s3 vs)]) hk
 exact⟨pY,n2,[(P.lx,bI 722 P.ld),(P.ld,bH es n),(P.io,bI 587 P.id)],_,rfl,.tail _ (.tail _ (.head _)),k.1,k.2,h2,fun es' n' h'=>⟨es,n,es',n',s1,s2,s3,vs,rfl,e2▸h1,e▸h',e3▸h3,h4⟩⟩
end
theorem uH{C:Cx LO}(hC:C.Rep=bK P){o o':LO}{name:Str}(e:putF name (.v dv) (bg P o)=bg P o')(e2:dw P o=dw P o')(e3:o.iV=o'.iV):∀Rl,C.Rep o fz Rl->uh (C.Rep o' fz) 722 P.lx P.ld (bg P o) name dv fz Rl:=by
 exact af hC (fun Rl h=>L8 e e2 e3 h)
theorem MC{C:Cx LO}(hC:C.Rep=bK P){o o':LO}{name:Str}(e:putF name (.v dv) (dw P o)=dw P o')(e2:bg P o=bg P o')(e3:o.iV=o'.iV):∀Rl,C.Rep o fz Rl->uh (C.Rep o' fz) 587 P.io P.id (dw P o) name dv fz Rl:=by
 exact af hC (fun Rl h=>Q7 e e2 e3 h)
noncomputable def tM:List Str:=["instream","infile","posix","eof","commenters","wordchars","whitespace","whitespace_split","quotes","escape","escapedquotes","state","pushback","lineno","debug","token","filestack","source","_punctuation_chars","_pushback_chars"]
theorem IB(Pm:aD):(tM.all fun x=>dS (eG Pm) (.ref 722) x==some none)=true:=by kernel_rfl
theorem IC(P:LP)(o:LO):∀x∈(bg P o).map (·.1),x∈tM:=by
 unfold bg Xw
 intro x hx
 rw[jL]at hx
 have e:tM=(IF P o).map (·.1)++[("_pushback_chars":Str)]:=rfl
 refine af e ?_
 rcases bu.mp hx with hx|hx
 . exact aH _ hx
 . cases h:P.M with
   |nil=>rw[h]at hx; exact nomatch hx
   |cons=>rw[h]at hx; exact aJ _ hx
theorem CP(Pm:aD){o:LO}{a:Str}(h:(bg P o).lookup a=some f):dS (eG Pm) (.ref 722) a=some none:=by
 have hm:a∈tM:=by
   refine gB (List.lookup_eq_some_iff.mp h) fun l1 l2 he _=>?_
   exact IC P o a (af he (by simp))
 have:=dH.mp (IB Pm) a hm
 exact eq_of_beq this
theorem tL(Pm:aD):plainGet (eG Pm) 722 "state"=true:=by kernel_rfl
theorem nR(Pm:aD):hasDictIn (eG Pm) 722=true:=by kernel_rfl
theorem xR(Pm:aD):dS (eG Pm) (.ref 722) "__setattr__"=some (some (.builtin "object.__setattr__")):=by kernel_rfl
theorem xQ(Pm:aD):plainOver (eG Pm) 722=true:=by kernel_rfl
theorem Me(Pm:aD):takerIn (eG Pm) 722 "state"=some none:=by kernel_rfl
theorem Mc(Pm:aD):takerIn (eG Pm) 722 "token"=some none:=by kernel_rfl
theorem Mb(Pm:aD):takerIn (eG Pm) 722 "lineno"=some none:=by kernel_rfl
theorem tR(Pm:aD):plainGet (eG Pm) 587 "x"=true:=by kernel_rfl
theorem GP(Pm:aD):hasDictIn (eG Pm) 587=true:=by kernel_rfl
theorem Rh(Pm:aD):((["_StringIO__newline","_StringIO__buf","_StringIO__pos"]:List Str).all fun x=>dS (eG Pm) (.ref 587) x==some none)=true:=by kernel_rfl
theorem Rd(Pm:aD):dS (eG Pm) (.ref 587) "__setattr__"=some (some (.builtin "object.__setattr__")):=by kernel_rfl
theorem Q8(Pm:aD):takerIn (eG Pm) 587 "_StringIO__pos"=some none:=by kernel_rfl
theorem P4(Pm:aD):dS (eG Pm) (.ref 722) "punctuation_chars"=some (some (.ref 654)):=by kernel_rfl
theorem P1(Pm:aD):specialIn (eG Pm) (.ref 654) "__get__"=some (some (.builtin "property.__get__")):=by kernel_rfl
theorem P0(Pm:aD):takesIn (eG Pm) (.ref 654)=some true:=by kernel_rfl
theorem UR(Pm:aD):dS (eG Pm) (.ref 587) "read"=some (some (.ref 533)):=by kernel_rfl
theorem UQ(Pm:aD):isFn (eG Pm) (.ref 533)=true:=by kernel_rfl
section
set_option tactic.hygienic true
theorem Q9(Pm:aD):plainOver (eG Pm) 587=true:=by kernel_rfl
noncomputable def VP(P:LP)(names:List Str)(cP:List (Str×(List V->Option (Bool×V))))(prim:LO->Loc->Stmt->Option (LO×Loc×Fl)):pD LO:=
 { names:=names,self:="self",attr:=fun o a=>bif a=="punctuation_chars" then some (.str (S P.M))else Dj (bg P o) a,
   uz:=fun o a v=>bif a=="state" then some { o with state:=v } else bif a=="token" then some { o with token:=v } else bif a=="lineno" then some { o with fH:=v } else none,
   j0:=fun _ f ds=>(cP.lookup f).bind fun g=>g ds,prim:=prim }
section
variable {Pm:aD}
theorem wz{C:Cx LO}(R:cH (eG Pm) p az aL mg mb A₀ base av A env C.h₀ C.L d){a:Addr}(bF:((aj "self"),.ref a)∈C.refs)(hk:env.kindOf "self"=some .local){o:LO}(h:At C o ρ fz s)(hq:Q (.ref a) s):
   wpAny (model ai w) A (eval (.Name "self" q) env) Q E s:=by
 obtain⟨h',tk,m,Rl,rfl,F,N,rp,ap,lc,rf⟩:=id h
 exact eN (fY R.hk hk (af R.hl F.ns) (rf _ bF) hq) (by decide:((aj "self")==("__debug__":Str))=false)
theorem CM{C:Cx LO}(hC:C.Rep=bK P)(R:cH (eG Pm) p az aL mg mb A₀ base av A env C.h₀ C.L d){o:LO}{a:Str}{expr:Bool}(hx:Dj (bg P o) a=some v)(h:At C o ρ fz s)(hq:∀aT s' u,Sub fz aT->At C o ρ aT s'->VR aT v u->Q u s'):wpAny (model ai w) A (getAttr (.ref P.lx) a expr) Q E s:=
 qz R h (fun Rl hr=>pR (hC▸hr)) (wJ hx) (tL Pm) (nR Pm) (CP Pm (wJ hx)) fun v' s' h' x=>hq fz s' v' (fun _ h=>h) h' x
noncomputable def Nc(g:LO->Str->Option V):pD LO:={ names:=[],self:="self",attr:=g,uz:=fun _ _ _=>none,j0:=fun _ _ _=>none,prim:=fun _ _ _=>none }
theorem G6{C:Cx LO}{x:Addr}(R:cH (eG Pm) p az aL mg mb A₀ base av A env C.h₀ C.L d)(bF:C.refs=[((aj "self"),.ref x)])(hk:env.kindOf "self"=some .local)(get:∀o a d,g o a=some d->∀ρ fz (s:ak) (Q E:Value->ak->Prop),At C o ρ fz s->(∀aT s' v,Sub fz aT->At C o ρ aT s'->VR aT d v->Q v s')->wpAny (model ai w) A (getAttr (.ref x) a true) Q E s):cV ai w A C env (Nc g) X x:=
 have hs:((aj "self"),.ref x)∈C.refs:=af bF (.head _)
 { fh:=fun o=>{ fn:=R.hk,loc:=R.hl,names:=fun _=>nm,attr:=fun a v h ρ _ _ fz s Q E hA hq=>Attribute_name (wz R hs hk hA (get o a v h ρ fz s Q E hA hq)),call:=fun _ _ _=>nn,LD:=fun _ _=>nn,Hl:=fun _ _ _=>nn,v9:=fun h=>ff h }
   hh:=R.hh
   inter:=R.hi
   push:=fun _ _ _ _=>nn
   give:=fun _ _ _ _=>nn
   oZ:=fun _ _ _ _=>nn
   vp:=fun _ _ _ _=>nn
   off:=fun _ _=>rfl
   self:=.inl hs
   vq:=.inl ⟨hk,(by decide:("self"==("__debug__":Str))=false)⟩
   get:=get
   set:=fun _ _ _ _=>nn
   prim:=fun _ _ _ _=>nn }
noncomputable abbrev acw(P:LP):pD LO:=Nc fun o a=>Dj (bg P o) a
theorem Ig(P:LP)(o:LO)(L:Addr)(cd:Value)(ρ:Loc):d7 bE (acw P) (envOf "shlex.punctuation_chars" (aF (bO 19 1)) L 653 cd) none 20 o ρ (aC (bO 19 1)) (fun o _ fl=>some (o,fl))=some (o,.ret (.str (S P.M))):=by kernel_rfl
theorem I9{C:Cx LO}(hC:C.Rep=bK P)(R:cH (eG Pm) p az aL mg mb A₀ base av A env C.h₀ C.L (d+1)){o:LO}{expr:Bool}(h:At C o ρ fz s)(hq:∀aT s' v,Sub fz aT->At C o ρ aT s'->VR aT (.str (S P.M)) v->Q v s'):wpAny (model ai w) A (getAttr (.ref P.lx) "punctuation_chars" expr) Q E s:=by
 refine At.eh h fun hp tk m Rl F N rp ap lc rf h=>?_
 refine fS (pR (hC▸rp)) fun es n h1 h2 h3=>?_
 have I:InstAt hp P.lx (bI 722 P.ld) 722 (some (bH es n)):=⟨(N _ (aH _ h1)).1,rfl,rfl,(N _ (aH _ h2)).1⟩
 refine get_prop (s:={ C.s₀ with heap:=hp,toks:=tk }) F R.X I (tL Pm) (nR Pm) (P4 Pm) (P1 Pm) (P0 Pm) (fget:=653) (rest:=[.none,.none,.none,.str "punctuation_chars" 1034,.bool false]) (by kernel_rfl) ?_
 exact j8 R.in1 (h.toks _) 19 1 "punctuation_chars" "shlex.punctuation_chars" (dV:=.none) [("self",.ref P.lx)] (by kernel_rfl) (by kernel_rfl) (iN (by kernel_rfl)) (by kernel_rfl) (by kernel_rfl) rfl r7 (.inl rfl)
   (fun g L' R'=>Sn (G6 (C:=aV C g L' _) R' rfl (by kernel_rfl) fun _ _ _ h _ _ _ _ _ hA hq=>CM (C:=aV C g L' _) hC R' h hA hq) (Ig P o L' (.ref 652) []))
   fun aT s' v sb hA hv=>fW (handedOut_of (C6 hv)) (hq aT s' v sb hA hv)
end
end
noncomputable def bJ(T:List Nat)(k:Nat):Nat:=if firstAt 10 (T.drop k) k<0 then T.length else(firstAt 10 (T.drop k) k).toNat+1
noncomputable def natOf:V->Nat
 | .int i=>i.toNat
 |_=>0
noncomputable def xF(P:LP):V->Bool
 | .int k=>decide (0<=k)&&decide (k<=P.T.length)
 |_=>false
noncomputable def FT:Stmt->Option (Expr×Pos)
 | .Raise e c p=>gate c.isNone (opt e (fun e=>some (e,p)) none) none
 |_=>none
theorem Ed{st:Stmt}(h:FT st=some x):st= .Raise (some x.1) none x.2:=by
 cases st with
 | Raise e c p=>
   refine bx (bA h) fun hc h=>?_
   refine au (aq h) fun e' fj h=>?_
   subst fj
   obtain rfl:=sj h
   cases c with
   |none=>rfl
   |some=>exact absurd hc u7
 |_=>exact nn h
noncomputable def Ef(st:Stmt):Option (Str×Pos×Str×Nat×Pos×Pos×Pos):=opt (FT st) (fun t=>opt (wW t.1) (fun c=>opt (dQ c.1) (fun f=>opt (one c.2.1) (fun a=>opt (vStr a) (fun s=>some (f,mZ c.1,s.1,s.2.1,s.2.2,c.2.2,t.2)) none) none) none) none) none
theorem HT{st:Stmt}(h:Ef st=some q):st= .Raise (some (.Call (.Name q.1 q.2.1) [.Constant (.str q.2.2.1) q.2.2.2.1 q.2.2.2.2.1] [] q.2.2.2.2.2.1)) none q.2.2.2.2.2.2:=by
 refine cp fun G' k'=>?_
 refine au (aq h) fun fZ h0 h=>?_
 obtain⟨e,p⟩:=fZ
 refine au (aq h) fun fZ h1 h=>?_
 obtain⟨g,args,p'⟩:=fZ
 refine au (aq h) fun f h2 h=>?_
 refine au (aq h) fun a h3 h=>?_
 refine au (aq h) fun fZ h4 h=>?_
 obtain⟨s,k,ps⟩:=fZ
 refine k' ?_
 obtain rfl:=sj h
 have e1:=nF h1
 have e2:=iz h2
 have e3:=gF h3
 have e4:=OW h4
 dsimp only at e1 e2 e3 e4 |-
 (refine af (Ed h0) (af e1 (af e3 (af e4 (af e2.symm ?_)))); rfl)
noncomputable def Un(st:Stmt):Option (Str×Pos×Str×Pos×Str×Pos×List Expr×Pos×Pos):=opt (J9 st) (fun s=>opt (wW s.1) (fun c=>opt (rj c.1) (fun u=>opt (rj u.1) (fun t=>opt (dQ t.1) (fun x=>some (x,mZ t.1,t.2.1,t.2.2,u.2.1,u.2.2,c.2.1,c.2.2,s.2)) none) none) none) none) none
theorem OZ{st:Stmt}(h:Un st=some q):st= .Expr (.Call (.Attribute (.Attribute (.Name q.1 q.2.1) q.2.2.1 q.2.2.2.1) q.2.2.2.2.1 q.2.2.2.2.2.1) q.2.2.2.2.2.2.1 [] q.2.2.2.2.2.2.2.1) q.2.2.2.2.2.2.2.2:=by
 refine cp fun G' k'=>?_
 refine au (aq h) fun fZ h0 h=>?_
 obtain⟨e,p⟩:=fZ
 refine au (aq h) fun fZ h1 h=>?_
 obtain⟨g,args,p'⟩:=fZ
 refine au (aq h) fun fZ h2 h=>?_
 obtain⟨g2,m,pm⟩:=fZ
 refine au (aq h) fun fZ h3 h=>?_
 obtain⟨g3,a,pa⟩:=fZ
 refine au (aq h) fun x h4 h=>?_
 refine k' ?_
 obtain rfl:=sj h
 have e1:=nF h1
 have e2:=jq h2
 have e3:=jq h3
 have e4:=iz h4
 dsimp only at e1 e2 e3 e4 |-
 (refine af (BR h0) (af e1 (af e2 (af e3 (af e4.symm ?_)))); rfl)
noncomputable def QM(o:LO)(ρ:Loc)(st:Stmt):Option (LO×Loc×Fl):=opt (Ef st) (fun q=>gate (q.1=="ValueError") (gate (q.2.2.1=="No closing quotation") (some (o,ρ,.exc 1)) (gate (q.2.2.1=="No escaped character") (some (o,ρ,.exc 2)) none)) none) none
noncomputable def Mg(P:LP)(names:List Str)(o:LO)(ρ:Loc)(st:Stmt):Option (Bool×LO×Loc×Fl):=opt (Un st) (fun q=>match q with
 | (x, _,a,_,m,p2,args,p3,_)=>gate (x=="self"&&p2.endLine==p3.line) (opt (one args)
     (fun e=>opt (dQ e) (fun y=>gate (m=="append"&&a=="_pushback_chars"&&names.contains y&&y !="__debug__") (opt (ρ.lookup y) (fun d=>opt (strOf d) (fun s=>some (decide (s.cps.toList.length=1)&&decide (o.iV.length<=800)&& !P.M.isEmpty,{ o with iV:=o.iV++s.cps.toList },ρ,.next)) none) none)
       (gate (m=="appendleft"&&a=="pushback"&&names.contains y&&y !="__debug__") (opt (ρ.lookup y) (fun d=>opt (strOf d) (fun s=>some (decide (s.cps.toList.length=1)&&o.iV.isEmpty&&P.M.isEmpty,{ o with iV:=o.iV++s.cps.toList },ρ,.next)) none) none) none)) none)
     (gate (m=="readline"&&a=="instream"&&args.isEmpty) (some (xF P o.pos,{ o with pos:=.int ((bJ P.T (natOf o.pos):Nat):Int) },ρ,.next)) none)) none) none
noncomputable abbrev rE(L:Addr)(cd:Value):Env:=envOf "shlex.read_token" (aF (bO 19 6)) L 690 cd
noncomputable abbrev rN:List Str:=(locs (aF (bO 19 6))).filter fun x:Str=> !(x==("self":Str))
noncomputable abbrev rI(P:LP):pD LO:={ VP P rN [] QM with oZ:=Mg P rN }
noncomputable abbrev rW:Stmt:=gK (aC (bO 19 6)) 2
noncomputable def V8(l:List V):Option (Bool×V):=opt (aI l) (fun n=>some (true,.int n)) none
noncomputable def qx(l:List V):Option (Bool×V):=opt (aIS l) (fun q=>some (decide (-1000000<=q.1)&&decide (q.1<=1000000),.int q.1)) none
section
variable {P:aD}
theorem ME(d:Nat):yL ai w (eG P) p az aL mg mb "int" d V8:=by
 intro O C A₀ base av A env jj o ρ fz s R lk h mD args pos q ds r hr hs nS Q E hw
 refine gJ rfl (mJ R lk h (v:=.type "int") (by kernel_rfl) (by kernel_rfl) (by decide) mD (by decide) ?_)
 cases args with
 |nil=>exact absurd rfl nS
 | cons e rest=>
   rw[fQ,aM]at hs
   refine PyProof.Rows.callWith_type1 (fD hw (fun vs s₁ x=>?_) fun _ _ x=>x) (cU hs.1) (gS pos hs.2)
   refine wR x fun ay sb cj hv hq=>?_
   refine au (aq hr) fun x h1 hr=>?_
   refine bx (cR (sj hr)) fun _ e=>?_
   rw[HD h1]at hv
   rw[<-e]at hq
   refine Sg hv fun v xv=>?_
   refine Xq xv fun t=>?_
   exact call_int_int (hq ay _ _ (fun _ h=>h) cj (.int _ _))
noncomputable abbrev xE(L:Addr)(cd:Value):Env:=envOf "_index" (aF (aW 4)) L 53 cd
noncomputable abbrev xI(O:Type):pD O:=SY O (locs (aF (aW 4))) [("int",V8)]
theorem E4(O:Type)(o:O)(L:Addr)(cd:Value)(n:Int)(J4:Str):d7 bE (xI O) (xE L cd) none 30 o [("n",.int n),("what",.str J4)] ((aC (aW 4)).drop 1) (fun o _ fl=>some (o,fl))=
 bif decide (n>1099511627776)then none else bif decide (n< -1099511627776)then none else some (o,.ret (.int n)):=by kernel_rfl
noncomputable abbrev xC1:Expr:=.Compare (.Call (.Name "type" ⟨12,7,12,11⟩) [.Name "n" ⟨12,12,12,13⟩] [] ⟨12,7,12,14⟩) [.IsNot] [.Name "int" ⟨12,22,12,25⟩] ⟨12,7,12,25⟩
noncomputable abbrev xC2:Expr:=.Compare (.Call (.Name "type" ⟨12,30,12,34⟩) [.Name "n" ⟨12,35,12,36⟩] [] ⟨12,30,12,37⟩) [.IsNot] [.Name "bool" ⟨12,45,12,49⟩] ⟨12,30,12,49⟩
theorem C2:gK (aC (aW 4)) 0= .If (.BoolOp .And [xC1,xC2] ⟨12,7,12,49⟩) [.Expr (.Call (.Name "_wall" ⟨13,8,13,13⟩) [.Constant (.int 1) 0 ⟨13,14,13,15⟩] [] ⟨13,8,13,16⟩) ⟨13,8,13,16⟩] [] ⟨12,4,13,16⟩:=by kernel_rfl
theorem E3{L:Addr}{n:Int}{J4:Str}(R:cH (eG P) p az aL mg mb A₀ base av A (xE L cd) C.h₀ C.L d)(hn:(xE L cd).kindOf "n"=some .local):
   gi ai w A C o (xE L cd) [("n",.int n),("what",.str J4)] xC1 false:=by
 intro fz s Q E h hq
 refine lT (gJ rfl (jG R h (v:=.type "type") (by kernel_rfl) (by kernel_rfl) (by decide) (by kernel_rfl) (by decide) ?_)) rfl
 refine PyProof.Rows.callWith_type1 (fP ?_ rfl) rfl rfl
 refine cp fun G' k'=>?_
 obtain⟨h',tk,m,Rl,rfl,F,N,rp,ap,lc,rf⟩:=id h
 refine au (lc "n" (.int n) rfl) fun v' e1 e2=>?_
 refine cE (gC e2) fun t fj=>?_
 subst fj
 refine k' ?_
 refine eN (fY R.hk hn (by refine af R.hl ?_; exact F.ns) e1 (ic ?_)) (by decide)
 refine call_type_of (typeIs_int _ _ _) (by decide) ?_
 refine jG R h (v:=.type "int") (by kernel_rfl) (by kernel_rfl) (by decide) (by kernel_rfl) (by decide) ?_
 show wpAny _ _ (do return Value.bool (!(<-isSame (.type "int") (.type "int")))) _ _ _
 have e:isSame (.type "int") (.type "int")=pure true:=by kernel_rfl
 exact af e (ao (aA (aA (wpAny_truthy_bool (hq fz _ (fun _ h=>h) h)))))
theorem ya(d:Nat):yL ai w (eG P) p az aL mg mb "_index" (d+1) qx:=by
 refine Lo (f:=53) (name:="_index") (dV:=.none) (kV:=.none) (doc:=.none) (pm:=.str "io" 286) (an:=none) (ct:=.none) (oc:=.type "function") (od:=none) (osl:= #[]) (qual:="_index") (scope:=aF (aW 4)) (params:=nU (aW 4)) (body:=aC (aW 4)) (cdv:=.ref 52) (xs:=["n","what"]) (by kernel_rfl) (by decide) (by kernel_rfl) (by kernel_rfl)
   (fun vs s hl=>?_) (by decide +kernel) (by decide +kernel) (by kernel_rfl) (by kernel_rfl) (by kernel_rfl) (by decide +kernel) (fun ds r h=>?_) (fun {O C A₀ base av A L} o ds r h hrefs R hL=>?_)
 . refine OC (VS hl) fun a b iU=>?_
   subst iU
   exact iN (by kernel_rfl)
 . refine au (aq h) fun q h1 _=>?_
   exact af (N6 h1) rfl
 . refine au (aq h) fun fZ h0 h=>?_
   obtain⟨n,J4⟩:=fZ
   . refine bx (cR (sj h)) fun h1 e0=>?_
     refine af (N6 h0) (af e0.symm ?_)
     simp only[aM,decide_eq_true_eq]at h1
     have hb:aC (aW 4)=gK (aC (aW 4)) 0::(aC (aW 4)).drop 1:=by kernel_rfl
     have hn:∀x∈locs (aF (aW 4)),(xE L (.ref 52)).kindOf x=some .local:=by
       have:∀x∈locs (aF (aW 4)),(xE 0 (.ref 52)).kindOf x=some .local:=by decide +kernel
       exact this
     have IK:=Lp (ai:=ai) (w:=w) (X:=fun _ _ _ _=>False) (names:=locs (aF (aW 4))) (cP:=[("int",V8)]) R hn (fun _ hq=>by rw[hrefs]at hq; cases hq) (wK (⟨ME _,by kernel_rfl⟩) TL)
     have h2:=E4 O o L (.ref 52) n J4
     rw[decide_eq_false (show ¬n>1099511627776 by lia),decide_eq_false (show ¬n< -1099511627776 by lia)]at h2
     simp only[cond_false]at h2
     refine cE (Sn IK h2) fun kU hB=>?_
     refine⟨kU,?_⟩
     refine af hb ?_
     refine aQ ?_ hB
     exact af C2 (jY (c:=false) (kW (E3 R (by kernel_rfl)) rfl) ja)
end
section
open PySem PySem.Calls PyProof.Rows PySem.W PySem.Builtin PySem.Builtin.Str
noncomputable def ioT:List (Str×(List V->Option (Bool×V))):=[("_index",qx),("len",VQ)]
noncomputable def ZX:List (Str×(List V->Option (Bool×V))):=[("len",VQ)]
noncomputable def vJ(x y:Str)(i j:Int):Int:=match ua x y (fromIndex x.length i) (min (fromIndex x.length j) x.length) 1 with
 |k::_=>(k:Int)
 | []=> -1
noncomputable def vDo(st:Stmt):Option (Str×Pos×Str×Pos×List Expr×Pos×Pos):=opt (J9 st) (fun s=>opt (wW s.1) (fun c=>opt (rj c.1) (fun t=>opt (dQ t.1) (fun x=>some (x,mZ t.1,t.2.1,t.2.2,c.2.1,c.2.2,s.2)) none) none) none) none
theorem Um{st:Stmt}(h:vDo st=some q):st= .Expr (.Call (.Attribute (.Name q.1 q.2.1) q.2.2.1 q.2.2.2.1) q.2.2.2.2.1 [] q.2.2.2.2.2.1) q.2.2.2.2.2.2:=by
 refine cp fun G' k'=>?_
 refine au (aq h) fun fZ h0 h=>?_
 obtain⟨e,p⟩:=fZ
 refine au (aq h) fun fZ h1 h=>?_
 obtain⟨g,args,p'⟩:=fZ
 refine au (aq h) fun fZ h2 h=>?_
 obtain⟨g2,m,pm⟩:=fZ
 refine au (aq h) fun x h4 h=>?_
 refine k' ?_
 obtain rfl:=sj h
 have e1:=nF h1
 have e2:=jq h2
 have e4:=iz h4
 dsimp only at e1 e2 e4 |-
 (refine af (BR h0) (af e1 (af e2 (af e4.symm ?_))); rfl)
noncomputable def Yh:Stmt->Option (Expr×Expr×Pos)
 | .Assign ts e p=>opt (one ts) (fun y=>some (y,e,p)) none
 |_=>none
theorem OX{st:Stmt}(h:Yh st=some x):st= .Assign [x.1] x.2.1 x.2.2:=by
 cases st with
 | Assign ts e p=>
   refine au (aq h) fun y h1 h=>?_
   obtain rfl:=sj h
   exact congrArg (Stmt.Assign · e p) (gF h1)
 |_=>exact nn h
noncomputable def Yi(st:Stmt):Option (Str×Pos×Str×Pos×Str×Pos×Str×Pos×List Expr×Pos×Pos):=opt (Yh st) (fun s=>opt (dQ s.1) (fun yn=>opt (wW s.2.1) (fun c=>opt (rj c.1) (fun u=>opt (rj u.1) (fun t=>opt (dQ t.1) (fun x=>some (yn,mZ s.1,x,mZ t.1,t.2.1,t.2.2,u.2.1,u.2.2,c.2.1,c.2.2,s.2.2)) none) none) none) none) none) none
theorem OY{st:Stmt}(h:Yi st=some q):
   st= .Assign [.Name q.1 q.2.1] (.Call (.Attribute (.Attribute (.Name q.2.2.1 q.2.2.2.1) q.2.2.2.2.1 q.2.2.2.2.2.1) q.2.2.2.2.2.2.1 q.2.2.2.2.2.2.2.1) q.2.2.2.2.2.2.2.2.1 [] q.2.2.2.2.2.2.2.2.2.1) q.2.2.2.2.2.2.2.2.2.2:=by
 refine cp fun G' k'=>?_
 refine au (aq h) fun fZ h0 h=>?_
 obtain⟨y,e,p⟩:=fZ
 refine au (aq h) fun yn h5 h=>?_
 refine au (aq h) fun fZ h1 h=>?_
 obtain⟨g,args,p'⟩:=fZ
 refine au (aq h) fun fZ h2 h=>?_
 obtain⟨g2,m,pm⟩:=fZ
 refine au (aq h) fun fZ h3 h=>?_
 obtain⟨g3,a,pa⟩:=fZ
 refine au (aq h) fun x h4 h=>?_
 refine k' ?_
 obtain rfl:=sj h
 have e1:=nF h1
 have e2:=jq h2
 have e3:=jq h3
 have e4:=iz h4
 have e5:=iz h5
 dsimp only at e1 e2 e3 e4 e5 |-
 (refine af (OX h0) (af e1 (af e2 (af e3 (af e4.symm (af e5.symm ?_))))); rfl)
noncomputable def nm3(l:List Expr):Option (Str×Str×Str):=opt (three l) (fun q=>opt (dQ q.1) (fun a=>opt (dQ q.2.1) (fun b=>opt (dQ q.2.2) (fun c=>some (a,b,c)) none) none) none) none
theorem U5(h:nm3 l=some q):∃p1 p2 p3,l=[.Name q.1 p1,.Name q.2.1 p2,.Name q.2.2 p3]:=by
 refine cp fun G' k'=>?_
 refine au (aq h) fun fZ h1 h=>?_
 obtain⟨x,y,z⟩:=fZ
 refine au (aq h) fun a h2 h=>?_
 refine au (aq h) fun b h3 h=>?_
 refine au (aq h) fun c h4 h=>?_
 refine cE (dP h2) fun p1 e1=>?_
 refine cE (dP h3) fun p2 e2=>?_
 refine cE (dP h4) fun p3 e3=>?_
 refine k' ?_
 dsimp only at e1 e2 e3
 exact⟨p1,p2,p3,by(refine af (sR h1) (af ((sj h).symm) (af e1 (af e2 (af e3 ?_)))); rfl)⟩
noncomputable def ioArgs(ρ:Loc)(u:Str×Str×Str):Option (Str×Int×Int):=opt (ρ.lookup u.1) (fun d1=>opt (strOf d1) (fun e=>opt (ρ.lookup u.2.1) (fun d2=>opt (intOf d2) (fun i=>opt (ρ.lookup u.2.2) (fun d3=>opt (intOf d3) (fun j=>some (e,i,j)) none) none) none) none) none) none
theorem I0(h:ioArgs ρ u=some a):ρ.lookup u.1=some (.str a.1)/\ρ.lookup u.2.1=some (.int a.2.1)/\ρ.lookup u.2.2=some (.int a.2.2):=by
 refine cp fun G' k'=>?_
 refine au (aq h) fun d1 k1 h=>?_
 refine au (aq h) fun s1 l1 h=>?_
 refine au (aq h) fun d2 k2 h=>?_
 refine au (aq h) fun s2 l2 h=>?_
 refine au (aq h) fun d3 k3 h=>?_
 refine au (aq h) fun s3 l3 h=>?_
 refine k' ?_
 rw[cS l1]at k1
 rw[gx l2]at k2
 rw[gx l3]at k3
 exact af ((sj h).symm) ⟨k1,k2,k3⟩
noncomputable abbrev ioG(names:List Str)(y x b m:Str)(l1 l2:Bool)(u:Str×Str×Str):Bool:=(m=="find"&&b=="_StringIO__buf"&&x=="self"&&l1)&&(names.contains y&&names.contains u.1&&names.contains u.2.1&&names.contains u.2.2)&&((u.1 !="__debug__")&&(u.2.1 !="__debug__")&&(u.2.2 !="__debug__"))&&l2
noncomputable def V7(P:LP)(names:List Str)(o:LO)(ρ:Loc)(st:Stmt):Option (LO×Loc×Fl):=opt (Yi st) (fun q=>opt (nm3 q.2.2.2.2.2.2.2.2.1) (fun u=>gate (ioG names q.1 q.2.2.1 q.2.2.2.2.1 q.2.2.2.2.2.2.1 (q.2.2.2.2.2.2.2.1.endLine==q.2.2.2.2.2.2.2.2.2.1.line) true u)
 (opt (ioArgs ρ u) (fun a=>some (o,(q.1,.int (vJ (S P.T) a.1 a.2.1 a.2.2))::ρ,.next)) none) none) none) none
noncomputable def ioCheck(o:LO)(ρ:Loc)(st:Stmt):Option (LO×Loc×Fl):=opt (vDo st) (fun q=>gate (q.2.2.1=="_StringIO__check"&&q.1=="self"&&q.2.2.2.1.endLine==q.2.2.2.2.2.1.line&&q.2.2.2.2.1.isEmpty) (some (o,ρ,.next)) none) none
noncomputable def V4(P:LP)(names:List Str)(o:LO)(ρ:Loc)(st:Stmt):Option (LO×Loc×Fl):=opt (ioCheck o ρ st) some (V7 P names o ρ st)
noncomputable def Rj(P:LP)(names:List Str)(T:List (Str×(List V->Option (Bool×V))):=ioT):pD LO:=
 { names:=names,self:="self",attr:=fun o a=>Dj (dw P o) a,
   uz:=fun o a v=>bif a=="_StringIO__pos" then some { o with pos:=v } else none,
   j0:=fun _ f ds=>(T.lookup f).bind fun g=>g ds,
   prim:=V4 P names }
noncomputable abbrev C0(i:Nat):List Str:=(locs (aF (bO 10 i))).filter fun x:Str=> !(x==("self":Str))
theorem C9(x y:Str)(i j:Int)(t u v v':Tok):Gives (PySem.Builtin.«str.find» ⟨[.str x t,.str y u,.int i v,.int j v'],[]⟩) (.int (vJ x y i j)):=by
 unfold vJ
 show Gives (match ua x y (fromIndex x.length i) (min (fromIndex x.length j) x.length) 1 with|k::_=>retInt k| []=>(do rule "str.find.not-found"; retInt (-1))) _
 cases ua x y (fromIndex x.length i) (min (fromIndex x.length j) x.length) 1 with
 |nil=>exact .rule (.of_eq rfl)
 |cons k _=>exact .of_eq rfl
theorem Fz{x y:Str}{t u v v':Tok}{i j:Int}(hq:Q (.int (vJ x y i j) s.toks) { s with toks:=s.toks+1 }):
   wpAny (model ai w) A (call (.builtin "str.find") [.str x t,.str y u,.int i v,.int j v']) Q E s:=
 call_gives F.slot_str_find (lR _ _ _) F.entry_str_find (F.args_str_find_4 _ _ _ _) (C9 x y i j t u v v') hq
theorem RP{T:List Nat}{c k:Nat}(h:k<=T.length):vJ (S T) (S [c]) (k:Int) (T.length:Int)=firstAt c (T.drop k) k:=by
 refine af ((G7 h).symm) ?_
 unfold vJ Txt.find3
 have:min (fromIndex (S T).length (T.length:Int)) (S T).length=(S T).length:=by rw[TJ,eu,Nat.min_self]
 exact af this rfl
section
end
end
theorem check_1(Pm:aD):dS (eG Pm) (.ref 587) "_StringIO__check"=some (some (.ref 371)):=by kernel_rfl
theorem Sj(Pm:aD):isFn (eG Pm) (.ref 371)=true:=by kernel_rfl
theorem VO(Pm:aD):dS (eG Pm) (.ref 587) "_StringIO__line"=some (some (.ref 385)):=by kernel_rfl
theorem EA(Pm:aD):dS (eG Pm) (.ref 587) "readline"=some (some (.ref 541)):=by kernel_rfl
section
variable {K:Frag}
theorem yD(R:cH K p az aL mg mb A₀ base av A env C.h₀ C.L d)(h:At C o ρ fz s){cls x dx f:Addr}{m sn:Str}(hi:∀R,C.Rep o fz R->∃es n,(x,bI cls dx)∈R/\(dx,bH es n)∈R/\g6 fz fs es)(hs:(sn,.ref x)∈C.refs)(hk:env.kindOf sn=some .local)(hd:(sn==("__debug__":Str))=false)(hl:(p2.endLine==pos.line)=true)(hf:fs.lookup m=none)(hg:plainGet K cls m=true)(ha:dS K (.ref cls) m=some (some (.ref f)))(ht:isFn K (.ref f)=true)(ho:K.lookup f=some fo)(hfd:fo.data= .func fd)(hc:wpAny (model ai w) A (call (.ref f) [.ref x]) Q E s):wpAny (model ai w) A (eval (.Call (.Attribute (.Name sn p1) m p2) [] [] pos) env) Q E s:=by
 obtain⟨hp,tk,mm,Rl,rfl,F,N,rp,ap,lc,rf⟩:=id h
 refine fS (hi Rl rp) fun es n h1 h2 h3=>?_
 have I:InstAt hp x (bI cls dx) cls (some (bH es n)):=⟨(N _ (aH _ h1)).1,rfl,rfl,(N _ (aH _ h2)).1⟩
 refine d9 (pl:=_) ?_ (iJ (v:=.Name sn p1) rfl rfl (by simp) hl)
 refine eN (fY R.hk hk (af R.hl F.ns) (rf _ hs) ?_) hd
 refine method_inst (s:={ C.s₀ with heap:=hp,toks:=tk }) F R.X I hg ha ht (qB h3 hf) ?_
 exact callWith_function (first:=[.ref x]) (PySem.evalArgs_none ⟨⟨F.keep _ _ (R.X _ _ ho),hfd⟩,hc⟩)
end
section
set_option tactic.hygienic true
theorem Ri(Pm:aD){o:LO}{a:Str}(h:(dw P o).lookup a=some f):dS (eG Pm) (.ref 587) a=some none:=by
 have hm:a∈(["_StringIO__newline","_StringIO__buf","_StringIO__pos"]:List Str):=by
   refine gB (List.lookup_eq_some_iff.mp h) fun l1 l2 he _=>?_
   have e:(dw P o).map (·.1)=(["_StringIO__newline","_StringIO__buf","_StringIO__pos"]:List Str):=rfl
   refine af e.symm (af he ?_); simp
 exact eq_of_beq (dH.mp (Rh Pm) a hm)
section
variable {Pm:aD}
theorem Rg{C:Cx LO}(hC:C.Rep=bK P)(R:cH (eG Pm) p az aL mg mb A₀ base av A env C.h₀ C.L d){o:LO}{a:Str}{expr:Bool}(hx:Dj (dw P o) a=some v)(h:At C o ρ fz s)(hq:∀aT s' u,Sub fz aT->At C o ρ aT s'->VR aT v u->Q u s'):wpAny (model ai w) A (getAttr (.ref P.io) a expr) Q E s:=
 qz R h (fun Rl hr=>tQ (hC▸hr)) (wJ hx) (tR Pm) (GP Pm) (Ri Pm (wJ hx)) fun v' s' h' x=>hq fz s' v' (fun _ h=>h) h' x
noncomputable abbrev ZW(P:LP):pD LO:=Nc fun o a=>Dj (dw P o) a
theorem EY{C:Cx LO}(hC:C.Rep=bK P)(R:cH (eG Pm) p az aL mg mb A₀ base av A env C.h₀ C.L d)(bF:C.refs=[((aj "self"),.ref P.io)])(hk:env.kindOf "self"=some .local):cV ai w A C env (ZW P) X P.io:=G6 R bF hk fun _ _ _ h _ _ _ _ _ hA hq=>Rg hC R h hA hq
theorem Si(P:LP)(o:LO)(L:Addr)(cd:Value)(ρ:Loc):d7 bE (ZW P) (envOf "StringIO.__check" (aF (bO 10 3)) L 371 cd) none 20 o ρ (aC (bO 10 3)) (fun o _ fl=>some (o,fl))=some (o,.next):=by kernel_rfl
theorem NN{C:Cx LO}(hC:C.Rep=bK P)(R:cH (eG Pm) p az aL mg mb A₀ base av A env C.h₀ C.L (d+1))(bF:((aj "self"),.ref P.io)∈C.refs)(hk:env.kindOf "self"=some .local){o:LO}(hl:(p2.endLine==p3.line)=true):
   cK ai w A C env X o ρ (.Expr (.Call (.Attribute (.Name "self" p1) "_StringIO__check" p2) [] [] p3) p4) (o,ρ,.next):=by
 intro fz s Q E h hq
 refine wpAny_Expr (yD R h (fun Rl hr=>tQ (hC▸hr)) bF hk (by decide) hl rfl (tR Pm) (check_1 Pm) (Sj Pm) (fo:=⟨.type "function",none,.func (fnOf "__check" "StringIO.__check" (nU (bO 10 3)) (aC (bO 10 3)) (aF (bO 10 3)) .none .none .none (.str "io" 286) none (.ref 370) .none), #[]⟩) (by kernel_rfl) rfl (gk ?_)) R.hi rfl
 exact j8 R h 10 3 "__check" "StringIO.__check" (dV:=.none) [("self",.ref P.io)] (by kernel_rfl) (by kernel_rfl) (iN (by kernel_rfl)) (by kernel_rfl) (by kernel_rfl) rfl r7 (.inr ⟨rfl,rfl⟩)
   (fun g L' R'=>Sn (EY (C:=aV C g L' _) hC R' rfl (by kernel_rfl)) (Si P o L' (.ref 370) []))
   fun aT s' v sb hA hv=>af (mS hv) (hq aT s' sb hA)
end
end
section
variable {Pm:aD}
theorem V2{C:Cx LO}(hC:C.Rep=bK P)(R:cH (eG Pm) p az aL mg mb A₀ base av A env C.h₀ C.L d){o:LO}(h:At C o ρ fz s)(hv:VR fz dv v)(hq:∀s',At C { o with pos:=dv } ρ fz s'->Q () s'):wpAny (model ai w) A (setAttr (.ref P.io) "_StringIO__pos" v) Q E s:=
 qp (o':={ o with pos:=dv }) R h (MC (dv:=dv) hC rfl rfl rfl) (cg (show(putF "_StringIO__pos" (.v dv) (dw P o)).length<=3 from bC _) (by decide)) (Rd Pm) (Q9 Pm) (Q8 Pm) (GP Pm) hv hq
theorem QK{C:Cx LO}(hC:C.Rep=bK P)(R:cH (eG Pm) p az aL mg mb A₀ base av A env C.h₀ C.L d){o:LO}(h:At C o ρ fz s)(hv:VR fz dv v)(hq:∀s',At C { o with state:=dv } ρ fz s'->Q () s'):wpAny (model ai w) A (setAttr (.ref P.lx) "state" v) Q E s:=
 qp (o':={ o with state:=dv }) R h (uH (dv:=dv) hC rfl rfl rfl) (cg (show(bg P { o with state:=dv }).length<=20 from xU _ _) (by decide)) (xR Pm) (xQ Pm) (Me Pm) (nR Pm) hv hq
noncomputable def ZZ(P:LP)(names:List Str)(T:List (Str×(List V->Option (Bool×V)))):pD LO:={ Rj P names T with prim:=fun _ _ _=>none }
theorem V3{C:Cx LO}{names:List Str}(hC:C.Rep=bK P)(R:cH (eG Pm) p az aL mg mb A₀ base av A env C.h₀ C.L (d+1))(bF:C.refs=[((aj "self"),.ref P.io)])(hk:env.kindOf "self"=some .local)(hn:∀x∈names,env.kindOf x=some .local)(uO:names.contains (aj "self")=false)(hc:∀y∈T,yL ai w (eG Pm) p az aL mg mb y.1 (d+1) y.2/\env.kindOf y.1=some .globalImplicit):cV ai w A C env (ZZ P names T) X P.io where
 fh o:={
   fn:=R.hk
   loc:=R.hl
   names:=hn
   attr:=fun a v h ρ p1 p2=>(EY (ai:=ai) (w:=w) (X:=X) hC R bF hk).fh o |>.attr a v h ρ p1 p2
   call:=fun f ds r hf ρ fz s Q E q pos args h hs nS hw=>by
     refine au (Option.bind_eq_some_iff.mp hf) fun g hg hr=>?_
     have hm:(f,g)∈T:=lookup_mem hg
     exact(hc _ hm).1 R R.QJ h (hc _ hm).2 args pos q ds r hr hs nS Q E hw
   LD:=fun _ _=>nn,Hl:=fun _ _ _=>nn,v9:=fun h=>ff h }
 hh:=R.hh
 inter:=R.hi
 push:=fun _ _ _ _=>nn
 give:=fun _ _ _ _=>nn
 off:=fun q hq=>by rw[bF]at hq; simp only[aY]at hq; subst hq; exact uO
 self:=.inl (af bF (.head _))
 vq:=.inl ⟨hk,(by decide:("self"==("__debug__":Str))=false)⟩
 get:=(EY (ai:=ai) (w:=w) (X:=X) hC R bF hk).get
 set:=fun o a dv o' h ρ fz s v Q E hA hv hq=>by
   rcases bs (show(bif a=="_StringIO__pos" then some { o with pos:=dv } else none)=some o' from h)with ⟨e,rfl⟩|⟨_,e⟩
   . exact af (eq_of_beq e) (V2 hC R hA hv hq)
   . exact nn e
 prim:=fun _ _ _ _=>nn
 oZ:=fun _ _ _ _=>nn
 vp:=fun _ _ _ _=>nn
theorem E1{C:Cx LO}{names:List Str}(K:cV ai w A C env (ZZ P names T) X P.io){o:LO}{y a1 a2 a3:Str}{e:Str}{i j:Int}(hy:names.contains y=true)(h1:names.contains a1=true)(h2:names.contains a2=true)(h3:names.contains a3=true)(d1:(a1 !="__debug__")=true)(d2:(a2 !="__debug__")=true)(d3:(a3 !="__debug__")=true)(hl:(q4.endLine==q8.line)=true)(e1:ρ.lookup a1=some (.str e))(e2:ρ.lookup a2=some (.int i))(e3:ρ.lookup a3=some (.int j)):
   cK ai w A C env X o ρ (.Assign [.Name y q1] (.Call (.Attribute (.Attribute (.Name "self" q2) "_StringIO__buf" q3) "find" q4) [.Name a1 q5,.Name a2 q6,.Name a3 q7] [] q8) q9) (o,(y,.int (vJ (S P.T) e i j))::ρ,.next):=by
 intro fz s Q E h hq
 refine jJ (d9 (pl:=_) (((K.fh o).attr "_StringIO__buf" (.str (S P.T)) rfl ρ q2 q3) fz s _ E h fun ay s₁ v s1 XN x1=>?_) (gu rfl rfl (by simp) hl)) (fk rfl)
 refine FQ x1 fun _=>?_
 refine GM.find (cW rfl ((cC rfl (fM (K.fh o) h1 d1 e1) (cC rfl (fM (K.fh o) h2 d2 e2) (cC rfl (fM (K.fh o) h3 d3 e3) fC))) q8 ay s₁ _ E XN fun aO aX vs s2 hA2 x2=>?_))
 refine Ea (acD x2) fun _ _ _ jU=>?_
 subst jU
 exact Fz (jv K (hA2.toks _) hy (.int _ _) fun dF h3=>hq aO dF (fun p hp=>s2 p (s1 p hp)) h3)
theorem MD{C:Cx LO}{names:List Str}(hC:C.Rep=bK P)(R:cH (eG Pm) p az aL mg mb A₀ base av A env C.h₀ C.L (d+1))(bF:C.refs=[((aj "self"),.ref P.io)])(hk:env.kindOf "self"=some .local)(hn:∀x∈names,env.kindOf x=some .local)(uO:names.contains (aj "self")=false)(hc:∀y∈T,yL ai w (eG Pm) p az aL mg mb y.1 (d+1) y.2/\env.kindOf y.1=some .globalImplicit):cV ai w A C env (Rj P names T) X P.io:=
 have K:=V3 hC R bF hk hn uO hc
 { K with
   fh:=fun o=>⟨(K.fh o).fn,(K.fh o).loc,(K.fh o).names,(K.fh o).attr,(K.fh o).call,(K.fh o).LD,(K.fh o).Hl,(K.fh o).v9⟩
   prim:=fun o ρ st r h=>by
     rcases fT (show opt (ioCheck o ρ st) some _=some r from h)with ⟨q,h,e⟩|⟨_,h⟩
     . refine au (aq h) fun q' h1 h=>?_
       refine bx (bA h) fun h2 h=>?_
       simp only[aM]at h2
       refine af (Um h1) (af (eq_of_beq h2.1.1.1) (af (eq_of_beq h2.1.1.2) (af (oV.mp h2.2) (af ((sj e).symm) (af ((sj h).symm) ?_)))))
       exact NN hC R (af bF (.head _)) hk h2.1.2
     . refine cp fun G' k'=>?_
       refine au (aq h) fun fZ h1 h=>?_
       obtain⟨y,q1,x,q2,b,q3,m,q4,args,q8,q9⟩:=fZ
       refine au (aq h) fun fZ h3 h=>?_
       obtain⟨a1,a2,a3⟩:=fZ
       refine bx (bA h) fun h2 h=>?_
       refine au (aq h) fun a ha h=>?_
       refine lV (I0 ha) fun k1 k2 k3=>?_
       refine Ea (U5 h3) fun p1 p2 p3 e12=>?_
       refine k' ?_
       simp only[aM]at h2
       refine cp fun G' k'=>?_
       refine bx h2 fun fZ _=>?_
       obtain⟨⟨⟨⟨⟨e1,e2⟩,e3⟩,e11⟩,⟨⟨e4,e5⟩,e6⟩,e7⟩,⟨e8,e9⟩,WY⟩:=fZ
       refine k' ?_
       refine af ((sj h).symm) (af (OY h1) ?_)
       dsimp only at e1 e2 e3 e12 |-
       refine af e12 (af (eq_of_beq e1) (af (eq_of_beq e2) (af (eq_of_beq e3) ?_)))
       exact E1 K e4 e5 e6 e7 e8 e9 WY e11 k1 k2 k3 }
end
noncomputable abbrev IZ(i:Nat)(q:Str)(f:Addr)(L:Addr)(cd:Value):Env:=envOf q (aF (bO 10 i)) L f cd
theorem IX(P:LP)(L:Addr)(cd:Value)(state token fH:V)(ps:Int)(iV:List Nat):d7 bE (Rj P (C0 25)) (IZ 25 "StringIO.read" 533 L cd) none 80 ⟨state,token,fH,.int ps,iV⟩ [("size",.int 1)] (aC (bO 10 25)) (fun o _ fl=>some (o,fl))=
 bif strOk (S P.T)then
   bif decide (ps>=gH (dD (S P.T)))then some (⟨state,token,fH,.int ps,iV⟩,.ret (.str ""))
   else
     bif decide (ps+1<gH (dD (S P.T)))then
       bif strOk (S P.T)then
         bif strOk (di (S P.T) (some ps) (some (ps+1)))&&true then
           bif strOk (di (S P.T) (some ps) (some (ps+1))++aj " ")then
             some (⟨state,token,fH,.int (ps+1),iV⟩,.ret (.str (di (di (S P.T) (some ps) (some (ps+1))++aj " ") none (some (-1)))))
           else none
         else none
       else none
     else
       bif strOk (S P.T)then
         bif strOk (di (S P.T) (some ps) (some (gH (dD (S P.T)))))&&true then
           bif strOk (di (S P.T) (some ps) (some (gH (dD (S P.T))))++aj " ")then
             some (⟨state,token,fH,.int (gH (dD (S P.T))),iV⟩,.ret (.str (di (di (S P.T) (some ps) (some (gH (dD (S P.T))))++aj " ") none (some (-1)))))
           else none
         else none
       else none
 else none:=by kernel_rfl
noncomputable abbrev zU(P:LP)(ps:Int):Int:=vJ (S P.T) "\n" ps (gH (dD (S P.T)))
theorem IY(P:LP)(L:Addr)(cd:Value)(state token fH:V)(ps:Int)(iV:List Nat):d7 bE (Rj P (C0 5) ZX) (IZ 5 "StringIO.__line" 385 L cd) none 80 ⟨state,token,fH,.int ps,iV⟩ [("limit",.int (-1))] (aC (bO 10 5)) (fun o _ fl=>some (o,fl))=
 bif strOk (S P.T)then
   bif decide (ps>=gH (dD (S P.T)))then some (⟨state,token,fH,.int ps,iV⟩,.ret (.str ""))
   else
     bif decide (zU P ps>=0)then
       bif strOk (S P.T)then
         bif strOk (di (S P.T) (some ps) (some (zU P ps+gH (dD "\n"))))&&true then
           bif strOk (di (S P.T) (some ps) (some (zU P ps+gH (dD "\n")))++aj " ")then
             some (⟨state,token,fH,.int (zU P ps+gH (dD "\n")),iV⟩,.ret (.str (di (di (S P.T) (some ps) (some (zU P ps+gH (dD "\n")))++aj " ") none (some (-1)))))
           else none
         else none
       else none
     else
       bif strOk (S P.T)then
         bif strOk (di (S P.T) (some ps) (some (gH (dD (S P.T)))))&&true then
           bif strOk (di (S P.T) (some ps) (some (gH (dD (S P.T))))++aj " ")then
             some (⟨state,token,fH,.int (gH (dD (S P.T))),iV⟩,.ret (.str (di (di (S P.T) (some ps) (some (gH (dD (S P.T))))++aj " ") none (some (-1)))))
           else none
         else none
       else none
 else none:=by kernel_rfl
theorem Ho(a:List Nat)(c:Nat):di (S (a++[c])) none (some (-1))=S a:=by
 refine(StrLaws.sliceText_to_neg (x:=S (a++[c])) (j:= -1) (by decide) (by rw[eu]; simp; lia)).trans ?_
 rw[eu]
 have:(-1+((a++[c]).length:Nat)-0:Int).toNat=a.length:=by simp; lia
 refine af this ?_
 simp
theorem zT:" "=S [32]:=by decide +kernel
noncomputable def iw(T:List Nat)(k:Nat):Nat×List Nat:=if h:k<T.length then(k+1,[T[k]])else(k,[])
theorem EZ(P:LP)(hT:P.T.length<=300)(L:Addr)(cd:Value)(state token fH:V)(k:Nat)(iV:List Nat):d7 bE (Rj P (C0 25)) (IZ 25 "StringIO.read" 533 L cd) none 80 ⟨state,token,fH,.int (k:Int),iV⟩ [("size",.int 1)] (aC (bO 10 25)) (fun o _ fl=>some (o,fl))=
   some (⟨state,token,fH,.int ((iw P.T k).1:Nat),iV⟩,.ret (.str (S (iw P.T k).2))):=by
 rw[IX]
 have ok:strOk (S P.T)=true:=ck (by lia)
 unfold iw
 (refine af ok ?_; rw[eu])
 simp only[cond_true]
 by_cases h:k<P.T.length
 . have h1:decide ((k:Int)>=(P.T.length:Int))=false:=decide_eq_false (by lia)
   refine af h1 (af (dif_pos h) ?_)
   simp only[cond_false]
   have e1:(k:Int)+1=((k+1:Nat):Int):=by lia
   have key:(P.T.drop k).take 1=[P.T[k]]:=by
     exact af (List.drop_eq_getElem_cons h) rfl
   by_cases h2:k+1<P.T.length
   . have h3:decide ((k:Int)+1<(P.T.length:Int))=true:=decide_eq_true (by lia)
     refine af h3 ?_
     simp only[cond_true]
     have e2:di (S P.T) (some (k:Int)) (some ((k:Int)+1))=S [P.T[k]]:=by
       (refine af e1 (af (Gy (by lia) (by lia)) (af (show k+1-k=1 by lia) (af key ?_))); rfl)
     rw[e2,zT,eO,ck (by simp),ck (by simp),Ho]
     rfl
   . have h3:decide ((k:Int)+1<(P.T.length:Int))=false:=decide_eq_false (by lia)
     refine af h3 ?_
     simp only[cond_false]
     have e2:di (S P.T) (some (k:Int)) (some (P.T.length:Int))=S [P.T[k]]:=by
       (refine af (Gy (by lia) (by lia)) (af (show P.T.length-k=1 by lia) (af key ?_)); rfl)
     rw[e2,zT,eO,ck (by simp),ck (by simp),Ho,show P.T.length=k+1 by lia]
     rfl
 . have h1:decide ((k:Int)>=(P.T.length:Int))=true:=decide_eq_true (by lia)
   refine af h1 (af (dif_neg h) ?_)
   rfl
noncomputable def r9(T:List Nat)(k:Nat):List Nat:=(T.drop k).take (bJ T k-k)
theorem E0(P:LP)(hT:P.T.length<=300)(L:Addr)(cd:Value)(state token fH:V)(k:Nat)(hk:k<=P.T.length)(iV:List Nat):d7 bE (Rj P (C0 5) ZX) (IZ 5 "StringIO.__line" 385 L cd) none 80 ⟨state,token,fH,.int (k:Int),iV⟩ [("limit",.int (-1))] (aC (bO 10 5)) (fun o _ fl=>some (o,fl))=
   some (⟨state,token,fH,.int (bJ P.T k:Nat),iV⟩,.ret (.str (S (r9 P.T k)))):=by
 rw[IY]
 have ok:strOk (S P.T)=true:=ck (by lia)
 unfold zU
 (refine af ok ?_; rw[eu])
 simp only[cond_true]
 by_cases h:k<P.T.length
 . have h1:decide ((k:Int)>=(P.T.length:Int))=false:=decide_eq_false (by lia)
   have WY:"\n"=S [10]:=by decide +kernel
   refine af h1 (af WY (af (RP hk) ?_))
   simp only[cond_false]
   have el:((S [10]).length:Int)=1:=by decide +kernel
   refine af el ?_
   rcases oM 10 (P.T.drop k) k with e|⟨j,e,hj⟩
   . have hp:bJ P.T k=P.T.length:=by unfold bJ; exact af e rfl
     have h2:decide ((firstAt 10 (P.T.drop k) k)>=0)=false:=by refine af e ?_; decide
     refine af h2 ?_
     simp only[cond_false]
     rw[Gy hk (bC _),zT,eO,ck (by simp; lia),ck (by simp; lia),Ho]
     unfold r9
     refine af hp ?_
     rfl
   . rw[List.length_drop]at hj
     have hp:bJ P.T k=k+j+1:=by unfold bJ; refine af e (af (if_neg (by lia)) ?_); lia
     have h2:decide ((firstAt 10 (P.T.drop k) k)>=0)=true:=by exact af e (decide_eq_true (by lia))
     refine af h2 ?_
     simp only[cond_true]
     have e3:firstAt 10 (P.T.drop k) k+1=((k+j+1:Nat):Int):=by refine af e ?_; lia
     rw[e3,Gy (by lia) (by lia),zT,eO,ck (by simp; lia),ck (by simp; lia),Ho]
     unfold r9
     refine af hp ?_
     rfl
 . have h1:decide ((k:Int)>=(P.T.length:Int))=true:=decide_eq_true (by lia)
   refine af h1 ?_
   have hd:P.T.drop k=[]:=List.drop_eq_nil_of_le (by lia)
   have hp:bJ P.T k=P.T.length:=by unfold bJ; exact af hd rfl
   unfold r9
   refine af hp (af hd (af (show(P.T.length)=k by lia) ?_))
   simp only[List.take_nil,cond_true,dR]
noncomputable abbrev LO.at(o:LO)(k:Nat):LO:={ o with pos:=.int (k:Int) }
section
variable {Pm:aD}
theorem V6:∀L cd,∀x∈C0 25,(IZ 25 "StringIO.read" 533 L cd).kindOf x=some .local:=by
 intro L cd
 have:∀x∈C0 25,(IZ 25 "StringIO.read" 533 0 .none).kindOf x=some .local:=by decide +kernel
 exact this
theorem ZY:∀L cd,∀x∈C0 5,(IZ 5 "StringIO.__line" 385 L cd).kindOf x=some .local:=by
 intro L cd
 have:∀x∈C0 5,(IZ 5 "StringIO.__line" 385 0 .none).kindOf x=some .local:=by decide +kernel
 exact this
theorem V5:∀L cd,∀x∈C0 26,(IZ 26 "StringIO.readline" 541 L cd).kindOf x=some .local:=by
 intro L cd
 have:∀x∈C0 26,(IZ 26 "StringIO.readline" 541 0 .none).kindOf x=some .local:=by decide +kernel
 exact this
theorem cH.rD{L:Addr}{K:Frag}(R:cH K p az aL mg mb A₀ base av A env h₀ L d)(F:Fr h₀ L h m):K.In h:=fun a o q=>F.keep a o (R.X a o q)
theorem S5{o:LO}(h:o.pos=v):o= { o with pos:=v }:=by cases o; subst h; rfl
theorem Ie{C:Cx LO}(hC:C.Rep=bK P)(hT:P.T.length<=300)(R:cH (eG Pm) p az aL mg mb A₀ base av A env C.h₀ C.L (d+3)){o:LO}{k:Nat}(hk:o.pos= .int (k:Int)){tk:Tok}{Q E:Value->ak->Prop}(h:At C o ρ fz s)(hq:∀aT s' v,Sub fz aT->At C (o.at (iw P.T k).1) ρ aT s'->VR aT (.str (S (iw P.T k).2)) v->Q v s'):wpAny (model ai w) A (call (.ref 533) [.ref P.io,.int 1 tk]) Q E s:=by
 refine gB h.nO fun U8 A8 FH Xg=>?_
 refine gk ?_
 exact j8 R h 10 25 "read" "StringIO.read" (dV:=.ref 526) [("self",.ref P.io),("size",.int 1 tk)] (by kernel_rfl) (by kernel_rfl) (kp_binds (R.rD FH) fun S=>by kernel_rfl) (by kernel_rfl) (by kernel_rfl) rfl (qu (n:="size") rfl (.int _ _) r7) (.inl rfl)
   (fun g L' R'=>Sn (MD (C:=aV C g L' _) (names:=C0 25) hC R' rfl (by kernel_rfl) (V6 _ _) (by decide +kernel) fun y hy=>by
     rcases aB.mp hy with rfl|hy
     . exact⟨ya _,by kernel_rfl⟩
     . refine af (aY.mp hy) ?_
       exact⟨CQ _,by kernel_rfl⟩) (af (S5 hk) (EZ P hT L' (.ref 532) o.state o.token o.fH k o.iV))) hq
theorem Iz{C:Cx LO}(hC:C.Rep=bK P)(hT:P.T.length<=300)(R:cH (eG Pm) p az aL mg mb A₀ base av A env C.h₀ C.L (d+3)){o:LO}{k:Nat}(hk:o.pos= .int (k:Int))(hle:k<=P.T.length){tk:Tok}{Q E:Value->ak->Prop}(h:At C o ρ fz s)(hq:∀aT s' v,Sub fz aT->At C (o.at (bJ P.T k)) ρ aT s'->VR aT (.str (S (r9 P.T k))) v->Q v s'):wpAny (model ai w) A (call (.ref 385) [.ref P.io,.int (-1) tk]) Q E s:=by
 refine gk ?_
 exact j8 R h 10 5 "__line" "StringIO.__line" (dV:=.none) [("self",.ref P.io),("limit",.int (-1) tk)] (by kernel_rfl) (by kernel_rfl) (iN (by kernel_rfl)) (by kernel_rfl) (by kernel_rfl) rfl (qu (n:="limit") rfl (.int _ _) r7) (.inl rfl)
   (fun g L' R'=>Sn (MD (C:=aV C g L' _) (names:=C0 5) hC R' rfl (by kernel_rfl) (ZY _ _) (by decide +kernel) fun y hy=>by
     refine af (aY.mp hy) ?_
     exact⟨CQ _,by kernel_rfl⟩) (af (S5 hk) (E0 P hT L' (.ref 384) o.state o.token o.fH k hle o.iV))) hq
noncomputable abbrev rlS:Stmt:=.Return (some (.Call (.Attribute (.Name "self" ⟨366,15,366,19⟩) "_StringIO__line" ⟨366,15,366,26⟩) [.Name "size" ⟨366,27,366,31⟩] [] ⟨366,15,366,32⟩)) ⟨366,8,366,32⟩
theorem y9:aC (bO 10 26)=[gK (aC (bO 10 26)) 0,gK (aC (bO 10 26)) 1,gK (aC (bO 10 26)) 2,rlS]:=by kernel_rfl
theorem abx(P:LP)(o:LO)(L:Addr)(cd:Value):jx (Rj P (C0 26) [("_index",qx)]) (IZ 26 "StringIO.readline" 541 L cd) 80 o [("size",.int (-1))] (gK (aC (bO 10 26)) 0)=some (o,[(aj "size",.int (-1))],.next):=by kernel_rfl
theorem abw(P:LP)(o:LO)(L:Addr)(cd:Value):jx (Rj P (C0 26) [("_index",qx)]) (IZ 26 "StringIO.readline" 541 L cd) 80 o [("size",.int (-1))] (gK (aC (bO 10 26)) 1)=some (o,[(aj "size",.int (-1)),(aj "size",.int (-1))],.next):=by kernel_rfl
theorem abv(P:LP)(o:LO)(L:Addr)(cd:Value):jx (Rj P (C0 26) [("_index",qx)]) (IZ 26 "StringIO.readline" 541 L cd) 80 o [("size",.int (-1)),("size",.int (-1))] (gK (aC (bO 10 26)) 2)=some (o,[(aj "size",.int (-1)),(aj "size",.int (-1))],.next):=by kernel_rfl
theorem Ba{K:Frag}(R:cH K p az aL mg mb A₀ base av A env C.h₀ C.L d)(h:At C o ρ fz s){cls x dx f:Addr}{fs:List (Str×FV)}{m:Str}{pos:Pos}{e:bG}{rest:List bG}{pl:Sem Bool}{Q E:Value->ak->Prop}(hi:∀R,C.Rep o fz R->∃es n,(x,bI cls dx)∈R/\(dx,bH es n)∈R/\g6 fz fs es)(hf:fs.lookup m=none)(hg:plainGet K cls m=true)(ha:dS K (.ref cls) m=some (some (.ref f)))(ht:isFn K (.ref f)=true)(hk:keepIn K (.ref f)=true)(hs:notStar e=true)(I5:rest.all notStar=true)(hc:wpAny (model ai w) A (spliced (eX pos (dI (e::rest) env))) (fun vs s₁=>(∃ay nv jm,At C nv jm ay s₁)/\wpAny (model ai w) A (call (.ref f) (.ref x::vs)) Q E s₁) E s):
   wpAny (model ai w) A (ie (.ref x) m pl) (fun r s₁=>wpAny (model ai w) A (callWith pos r.1 r.2 (eX pos (dI (e::rest) env)) []) Q E s₁) E s:=by
 refine cp fun G' k'=>?_
 obtain⟨hp,tk,mm,Rl,rfl,F,N,rp,ap,lc,rf⟩:=id h
 refine fS (hi Rl rp) fun es n h1 h2 h3=>?_
 refine k' ?_
 have I:InstAt hp x (bI cls dx) cls (some (bH es n)):=⟨(N _ (aH _ h1)).1,rfl,rfl,(N _ (aH _ h2)).1⟩
 refine method_inst (s:={ C.s₀ with heap:=hp,toks:=tk }) F R.X I hg ha ht (qB h3 hf) ?_
 refine callWith_K (first:=[.ref x]) R.X hk (fD hc (fun vs s₁ y=>?_) fun _ _ y=>y) (cU hs) (gS pos I5)
 refine cp fun G' k'=>?_
 refine bx y fun fZ y2=>?_
 obtain⟨ay,nv,jm,y1⟩:=fZ
 refine gB y1.nO fun m₁ Gu Oh aaL=>?_
 refine k' ?_
 exact⟨R.rD Oh,y2⟩
theorem yZ{C:Cx LO}{P:LP}(hC:C.Rep=bK P)(hT:P.T.length<=300)(R:cH (eG Pm) p az aL mg mb A₀ base av A env C.h₀ C.L (d+4)){o:LO}{k:Nat}(hk:o.pos= .int (k:Int))(hle:k<=P.T.length)(h:At C o ρ fz s)(hq:∀aT s' v,Sub fz aT->At C (o.at (bJ P.T k)) ρ aT s'->VR aT (.str (S (r9 P.T k))) v->Q v s'):wpAny (model ai w) A (call (.ref 541) [.ref P.io]) Q E s:=by
 refine gB h.nO fun U8 A8 FH Xg=>?_
 refine gk ?_
 refine j8 R h 10 26 "readline" "StringIO.readline" (dV:=.ref 534) (cd:=540) [("self",.ref P.io),("size",.int (-1) 875)] (by kernel_rfl) (by kernel_rfl) (kp_binds (R.rD FH) fun S=>by kernel_rfl) (by kernel_rfl) (by kernel_rfl) rfl (qu (n:="size") rfl (.int _ _) r7) (.inl rfl) (fun g L' R'=>?_) hq
 have IK:=MD (ai:=ai) (w:=w) (C:=aV C g L' [("self",.ref P.io)]) (P:=P) (names:=C0 26) (X:=fun _ _ _ _=>False) hC R' rfl (by kernel_rfl) (V5 _ _) (by decide +kernel) (T:=[("_index",qx)]) (fun y hy=>af (aY.mp hy) ⟨ya _,by kernel_rfl⟩)
 refine af y9 ?_
 have aaf:cK ai w (A.deeper (envOf "StringIO.readline" (aF (bO 10 26)) L' 541 (.ref 540))) (aV C g L' [("self",.ref P.io)]) (envOf "StringIO.readline" (aF (bO 10 26)) L' 541 (.ref 540)) (fun _ _ _ _=>False) o [(aj "size",.int (-1)),(aj "size",.int (-1))] rlS (o.at (bJ P.T k),[(aj "size",.int (-1)),(aj "size",.int (-1))],.ret (.str (S (r9 P.T k)))):=by
   intro fz s Q E h hq
   refine ue (d9 (pl:=_) ?_ (iJ (v:=.Name "self" ⟨366,15,366,19⟩) rfl rfl (by simp) rfl))
   have MV:(envOf "StringIO.readline" (aF (bO 10 26)) L' 541 (.ref 540)).kindOf "self"=some .local:=by kernel_rfl
   refine At.eh h fun hp tk mm Rl F N rp ap lc rf h=>?_
   refine eN (fY R'.hk MV (af R'.hl F.ns) (rf _ (List.Mem.head _)) ?_) (by decide:("self"==("__debug__":Str))=false)
   refine Ba R' h (fun Rl hr=>tQ (hC▸hr)) rfl (tR Pm) (VO Pm) (by kernel_rfl) (by kernel_rfl) rfl rfl ?_
   refine(cC rfl (fM (IK.fh o) (x:="size") (show(C0 26).contains "size"=true by decide +kernel) (by decide +kernel) rfl) fC) _ fz _ _ E h fun ay s₁ vs s1 h1 x1=>?_
   refine cE (dI1 x1) fun _ fj=>?_
   subst fj
   exact⟨⟨_,_,_,h1⟩,Iz (C:=aV C g L' [("self",.ref P.io)]) hC hT R' hk hle h1 fun aO aX v s2 h2 x2=>hq aO aX (fun p hp=>s2 p (s1 p hp)) h2 v x2⟩
 exact⟨_,aQ (dN IK (abx P o L' (.ref 540))) (aQ (dN IK (abw P o L' (.ref 540))) (aQ (dN IK (abv P o L' (.ref 540))) (lQ aaf fun _ _ e=>by cases e)))⟩
end
section
structure RS where
 st:Nat
 tok:List Nat
 ln:Nat
 pos:Nat
 pb:List Nat
 quoted:Bool
 cD:Nat
noncomputable def vn:Nat->V
 |0=>.none
 |c+1=>.str (S [c+1])
inductive kh where
 |go (s:RS)
 |brk (s:RS)
 |exc (k:Nat) (s:RS)
noncomputable def fG(b:Bool)(s:RS):kh:=if b=true then .brk s else .go s
noncomputable def fm(aa:Bool)(s:RS):Bool:=(!s.tok.isEmpty)||(aa&&s.quoted)
noncomputable def jA(T M W:List Nat)(aa:Bool)(s:RS):List Nat->kh
 | []=>.brk { s with st:=0 }
 | c::_=>
   if c∈ [32,9,13,10]then fG (fm aa s) s
   else if c=35 then .go { s with pos:=bJ T s.pos,ln:=s.ln+1 }
   else if aa=true/\c=92 then .go { s with cD:=97,st:=92 }
   else if c∈W then .go { s with tok:=[c],st:=97 }
   else if c∈M then .go { s with tok:=[c],st:=99 }
   else if c∈ [39,34]then .go { s with tok:=if aa=true then s.tok else [c],st:=c }
   else .brk { s with tok:=[c] }
noncomputable def kN(aa:Bool)(s:RS):List Nat->kh
 | []=>.exc 1 { s with quoted:=true }
 | c::_=>
   if c=s.st then(if aa=true then .go { s with st:=97,quoted:=true } else .brk { s with tok:=s.tok++[c],st:=32,quoted:=true })
   else if aa=true/\c=92/\s.st=34 then .go { s with cD:=s.st,st:=92,quoted:=true }
   else .go { s with tok:=s.tok++[c],quoted:=true }
noncomputable def uK(s:RS):List Nat->kh
 | []=>.exc 2 s
 |c::_=>.go { s with tok:=(if s.cD∈ [39,34]/\c≠92/\c≠s.cD then s.tok++[92]else s.tok)++[c],st:=s.cD }
noncomputable def oH(T M:List Nat)(aa:Bool)(s:RS):List Nat->kh
 | []=>.brk { s with st:=0 }
 | c::_=>
   if c∈ [32,9,13,10]then fG (fm aa s) { s with st:=32 }
   else if c=35 then(if aa=true then fG (fm aa s) { s with st:=32,pos:=bJ T s.pos,ln:=s.ln+1 } else .go { s with pos:=bJ T s.pos,ln:=s.ln+1 })
   else if c∈M then .go { s with tok:=s.tok++[c] }
   else .brk { s with st:=32,pb:=s.pb++[c] }
noncomputable def jz(T W:List Nat)(aa:Bool)(s:RS):List Nat->kh
 | []=>.brk { s with st:=0 }
 | c::_=>
   if c∈ [32,9,13,10]then fG (fm aa s) { s with st:=32 }
   else if c=35 then(if aa=true then fG (fm aa s) { s with st:=32,pos:=bJ T s.pos,ln:=s.ln+1 } else .go { s with pos:=bJ T s.pos,ln:=s.ln+1 })
   else if aa=true/\c∈ [39,34]then .go { s with st:=c }
   else if aa=true/\c=92 then .go { s with cD:=97,st:=92 }
   else if c∈W\/c∈ [39,34]then .go { s with tok:=s.tok++[c] }
   else fG (fm aa s) { s with st:=32,pb:=s.pb++[c] }
section
variable {T M W:List Nat}{aa:Bool}{s:RS}{c:Nat}{r:List Nat}
theorem U6(h:c∈ [32,9,13,10]):jA T M W aa s (c::r)=fG (fm aa s) s:=if_pos h
theorem LJ(h1:c∉ [32,9,13,10])(h:c=35):jA T M W aa s (c::r)= .go { s with pos:=bJ T s.pos,ln:=s.ln+1 }:=(if_neg h1).trans (if_pos h)
theorem Qh(h1:c∉ [32,9,13,10])(h2:c≠35)(h:aa=true/\c=92):jA T M W aa s (c::r)= .go { s with cD:=97,st:=92 }:=(if_neg h1).trans ((if_neg h2).trans (if_pos h))
theorem LF(h1:c∉ [32,9,13,10])(h2:c≠35)(h3:¬(aa=true/\c=92))(h:c∈W):jA T M W aa s (c::r)= .go { s with tok:=[c],st:=97 }:=(if_neg h1).trans ((if_neg h2).trans ((if_neg h3).trans (if_pos h)))
theorem Qg(h1:c∉ [32,9,13,10])(h2:c≠35)(h3:¬(aa=true/\c=92))(h4:c∉W)(h:c∈M):jA T M W aa s (c::r)= .go { s with tok:=[c],st:=99 }:=(if_neg h1).trans ((if_neg h2).trans ((if_neg h3).trans ((if_neg h4).trans (if_pos h))))
theorem Io(h1:c∉ [32,9,13,10])(h2:c≠35)(h3:¬(aa=true/\c=92))(h4:c∉W)(h5:c∉M)(h:c∈ [39,34]):jA T M W aa s (c::r)= .go { s with tok:=if aa=true then s.tok else [c],st:=c }:=(if_neg h1).trans ((if_neg h2).trans ((if_neg h3).trans ((if_neg h4).trans ((if_neg h5).trans (if_pos h)))))
theorem LH(h1:c∉ [32,9,13,10])(h2:c≠35)(h3:¬(aa=true/\c=92))(h4:c∉W)(h5:c∉M)(h:c∉ [39,34]):jA T M W aa s (c::r)= .brk { s with tok:=[c] }:=(if_neg h1).trans ((if_neg h2).trans ((if_neg h3).trans ((if_neg h4).trans ((if_neg h5).trans (if_neg h)))))
theorem UL(h:c∈ [32,9,13,10]):oH T M aa s (c::r)=fG (fm aa s) { s with st:=32 }:=if_pos h
theorem K9(h1:c∉ [32,9,13,10])(h:c=35):oH T M aa s (c::r)=if aa=true then fG (fm aa s) { s with st:=32,pos:=bJ T s.pos,ln:=s.ln+1 } else .go { s with pos:=bJ T s.pos,ln:=s.ln+1 }:=(if_neg h1).trans (if_pos h)
theorem UM(h1:c∉ [32,9,13,10])(h2:c≠35)(h:c∈M):oH T M aa s (c::r)= .go { s with tok:=s.tok++[c] }:=(if_neg h1).trans ((if_neg h2).trans (if_pos h))
theorem PF(h1:c∉ [32,9,13,10])(h2:c≠35)(h:c∉M):oH T M aa s (c::r)= .brk { s with st:=32,pb:=s.pb++[c] }:=(if_neg h1).trans ((if_neg h2).trans (if_neg h))
theorem OE(h:c∈ [32,9,13,10]):jz T W aa s (c::r)=fG (fm aa s) { s with st:=32 }:=if_pos h
theorem HM(h1:c∉ [32,9,13,10])(h:c=35):jz T W aa s (c::r)=if aa=true then fG (fm aa s) { s with st:=32,pos:=bJ T s.pos,ln:=s.ln+1 } else .go { s with pos:=bJ T s.pos,ln:=s.ln+1 }:=(if_neg h1).trans (if_pos h)
theorem Eb(h1:c∉ [32,9,13,10])(h2:c≠35)(h:aa=true/\c∈ [39,34]):jz T W aa s (c::r)= .go { s with st:=c }:=(if_neg h1).trans ((if_neg h2).trans (if_pos h))
theorem JT(h1:c∉ [32,9,13,10])(h2:c≠35)(h3:¬(aa=true/\c∈ [39,34]))(h:aa=true/\c=92):jz T W aa s (c::r)= .go { s with cD:=97,st:=92 }:=(if_neg h1).trans ((if_neg h2).trans ((if_neg h3).trans (if_pos h)))
theorem OJ(h1:c∉ [32,9,13,10])(h2:c≠35)(h3:¬(aa=true/\c∈ [39,34]))(h4:¬(aa=true/\c=92))(h:c∈W\/c∈ [39,34]):jz T W aa s (c::r)= .go { s with tok:=s.tok++[c] }:=(if_neg h1).trans ((if_neg h2).trans ((if_neg h3).trans ((if_neg h4).trans (if_pos h))))
theorem JQ(h1:c∉ [32,9,13,10])(h2:c≠35)(h3:¬(aa=true/\c∈ [39,34]))(h4:¬(aa=true/\c=92))(h:¬(c∈W\/c∈ [39,34])):jz T W aa s (c::r)=fG (fm aa s) { s with st:=32,pb:=s.pb++[c] }:=(if_neg h1).trans ((if_neg h2).trans ((if_neg h3).trans ((if_neg h4).trans (if_neg h))))
end
noncomputable def bY(T M W:List Nat)(aa:Bool)(s:RS)(cs:List Nat):kh:=
 if s.st=0 then .brk { s with tok:=[] }
 else if s.st=32 then jA T M W aa s cs
 else if s.st=39\/s.st=34 then kN aa s cs
 else if s.st=92 then uK s cs
 else if s.st=99 then oH T M aa s cs
 else jz T W aa s cs
noncomputable def bT(s:RS):LO:=⟨vn s.st,.str (S s.tok),.int (s.ln:Int),.int (s.pos:Int),s.pb⟩
noncomputable abbrev rB(s:RS):Loc:=[("quoted",.bool s.quoted),("escapedstate",.str (S [s.cD]))]
noncomputable abbrev rC(cs:List Nat)(s:RS):Loc:=("nextchar",.str (S cs))::rB s
noncomputable def gQ(r:Option (LO×Loc×Fl)):kh->Prop
 | .go s=>∃ρ fl,(fl= .next\/fl= .cont)/\r=some (bT s,ρ,fl)/\sle (rB s) ρ
 | .brk s=>∃ρ,r=some (bT s,ρ,.brk)/\sle (rB s) ρ
 | .exc k s=>∃ρ,r=some (bT s,ρ,.exc k)
theorem nK{s:RS}{r:Option (LO×Loc×Fl)}(h:r=some (bT s,ρ,fl))(hf:fl= .next\/fl= .cont)(hs:sle (rB s) ρ):gQ r (.go s):=⟨ρ,fl,hf,h,hs⟩
theorem tD{s:RS}{r:Option (LO×Loc×Fl)}(h:r=some (bT s,ρ,.brk))(hs:sle (rB s) ρ):gQ r (.brk s):=⟨ρ,h,hs⟩
theorem Qd(a:List Nat):((((S a).length:Nat):Int)!=(0:Int))= !a.isEmpty:=by
 rw[eu]
 cases a with
 |nil=>rfl
 | cons x r=>
   have:((((x::r).length:Nat):Int)!=0)=true:=bne_iff_ne.mpr (by refine af dg ?_; lia)
   exact af this rfl
theorem VN:" \t\x0d\n"=S [32,9,13,10]:=by decide +kernel
theorem CH:"'"=S [39]:=by decide +kernel
structure Small(P:LP)(s:RS):Prop where
 tok:s.tok.length<=10000
 ml:P.M.length<=100
 m99:s.st=99->P.M≠ []
 pb0:P.M=[]->s.pb=[]
 pos:s.pos<=P.T.length
 pb:s.pb.length<=800
theorem Cq{P:LP}{k:Nat}(h:k<=P.T.length):xF P (.int (k:Int))=true:=by
 unfold xF
 simp only[aM,decide_eq_true_eq]
 lia
noncomputable abbrev R3:=Option (LO×Loc×Fl)
noncomputable abbrev lo(st:V)(s:RS):LO:=⟨st,.str (S s.tok),.int (s.ln:Int),.int (s.pos:Int),s.pb⟩
noncomputable abbrev nz(x:Str):Bool:=((x.length:Nat):Int)!=0
noncomputable def G1(p:Bool)(tok:Str)(q:Bool)(o:LO)(ρ:Loc):R3:=bif strOk tok then bif nz tok then bif strOk tok then bif nz tok then some (o,ρ,.brk)else some (o,ρ,.cont)else none else bif p then bif q then some (o,ρ,.brk)else some (o,ρ,.cont)else some (o,ρ,.cont)else none
noncomputable abbrev S0(P:LP)(s:RS):RS:={ s with pos:=bJ P.T s.pos,ln:=s.ln+1 }
noncomputable abbrev Di(P:LP)(s:RS)(cs:List Nat):R3:=G1 P.aa (S s.tok) s.quoted (lo (vn 32) s) (rC cs s)
noncomputable abbrev S1(P:LP)(st:V)(s:RS):LO:=⟨st,.str (S s.tok),.int (s.ln+1),.int ((bJ P.T (natOf (.int s.pos)):Nat):Int),s.pb⟩
noncomputable abbrev WV(c:Nat)(ρ:Loc):Loc:=("escapedstate",.str (S [c]))::ρ
noncomputable abbrev A1(ρ:Loc):Loc:=("quoted",.bool true)::ρ
section
set_option maxHeartbeats 1000000
variable (P:LP)(L:Addr)(cd:Value)(s:RS)(cs:List Nat)
noncomputable abbrev rT(st:Nat):R3:=jx (rI P) (rE L cd) 80 (lo (vn st) s) (rC cs s) (gK (aC rW) 3)
noncomputable abbrev M1(st:Nat):R3:=bif xF P (.int s.pos)then bif P.aa then G1 P.aa (S s.tok) s.quoted (S1 P (vn 32) s) (rC cs s)else some (S1 P (vn st) s,rC cs s,.next)else none
noncomputable abbrev Jv(st:Nat):R3:=bif strOk (S s.tok)&&strOk (S cs)then some (⟨vn st,.str (S s.tok++S cs),.int s.ln,.int s.pos,s.pb⟩,rC cs s,.next)else none
theorem PS:rT P L cd s cs 0=some (lo .none { s with tok:=[] },rC cs s,.brk):=by kernel_rfl
noncomputable abbrev Y7:R3:=bif aG (S P.W) (S cs)then some (lo (vn 97) { s with tok:=cs },rC cs s,.next)else bif aG (S P.M) (S cs)then some (lo (vn 99) { s with tok:=cs },rC cs s,.next)else
 bif aG "'\"" (S cs)then bif !P.aa then some (lo (.str (S cs)) { s with tok:=cs },rC cs s,.next)else some (lo (.str (S cs)) s,rC cs s,.next)else Di P { s with tok:=cs } cs
theorem UT:rT P L cd s cs 32=bif strOk (S cs)then bif !nz (S cs)then some (lo .none s,rC cs s,.brk)else bif aG " \t\r\n" (S cs)then Di P s cs else bif aG "#" (S cs)then bif xF P (.int s.pos)then some (lo (vn 32) (S0 P s),rC cs s,.next)else none else
 bif P.aa then bif aG "\\" (S cs)then some (lo (.str (S cs)) s,WV 97 (rC cs s),.next)else Y7 P s cs else Y7 P s cs else none:=by kernel_rfl
noncomputable abbrev U0:Bool:=decide ((S cs).cps.toList.length=1)
noncomputable abbrev NY:R3:=Di P { s with pb:=s.pb++(S cs).cps.toList } cs
noncomputable abbrev Sz:R3:=bif aG (S P.W) (S cs)then Jv s cs 97 else bif aG "'\"" (S cs)then Jv s cs 97 else
 bif strOk (S P.M)then bif nz (S P.M)then bif U0 cs&&decide (s.pb.length<=800)&& !P.M.isEmpty then NY P s cs else none else bif U0 cs&&s.pb.isEmpty&&P.M.isEmpty then NY P s cs else none else none
noncomputable abbrev SA:R3:=bif P.aa then bif aG "\\" (S cs)then some (lo (.str (S cs)) s,WV 97 (rC cs s),.next)else Sz P s cs else Sz P s cs
theorem PO:rT P L cd s cs 97=bif strOk (S cs)then bif !nz (S cs)then some (lo .none s,rC cs s,.brk)else bif aG " \t\r\n" (S cs)then Di P s cs else bif aG "#" (S cs)then M1 P s cs 97 else
 bif P.aa then bif aG "'\"" (S cs)then some (lo (.str (S cs)) s,rC cs s,.next)else SA P s cs else SA P s cs else none:=by kernel_rfl
theorem US:rT P L cd s cs 99=bif strOk (S cs)then bif !nz (S cs)then some (lo .none s,rC cs s,.brk)else bif aG " \t\r\n" (S cs)then Di P s cs else bif aG "#" (S cs)then M1 P s cs 99 else
 bif aG (S P.M) (S cs)then Jv s cs 99 else bif !aG " \t\r\n" (S cs)then bif U0 cs&&decide (s.pb.length<=800)&& !P.M.isEmpty then some (lo (vn 32) { s with pb:=s.pb++(S cs).cps.toList },rC cs s,.brk)else none else some (lo (vn 32) s,rC cs s,.brk)else none:=by kernel_rfl
noncomputable abbrev addQ(to:Nat)(fl:Fl):R3:=bif strOk (S s.tok)&&strOk (S cs)then some (⟨vn to,.str (S s.tok++S cs),.int s.ln,.int s.pos,s.pb⟩,A1 (rC cs s),fl)else none
theorem YV:rT P L cd s cs 34=bif strOk (S cs)then bif !nz (S cs)then some (lo (vn 34) s,A1 (rC cs s),.exc 1)else bif bw (S cs) (S [34])then bif !P.aa then addQ s cs 32 .brk else some (lo (vn 97) s,A1 (rC cs s),.next)else
 bif P.aa then bif aG "\\" (S cs)then some (lo (.str (S cs)) s,WV 34 (A1 (rC cs s)),.next)else addQ s cs 34 .next else addQ s cs 34 .next else none:=by kernel_rfl
theorem YS:rT P L cd s cs 39=bif strOk (S cs)then bif !nz (S cs)then some (lo (vn 39) s,A1 (rC cs s),.exc 1)else bif bw (S cs) (S [39])then bif !P.aa then addQ s cs 32 .brk else some (lo (vn 97) s,A1 (rC cs s),.next)else
 bif P.aa then bif aG "\\" (S cs)then addQ s cs 39 .next else addQ s cs 39 .next else addQ s cs 39 .next else none:=by kernel_rfl
theorem YU:rT P L cd { s with cD:=97 } cs 92=bif strOk (S cs)then bif !nz (S cs)then some (lo (vn 92) s,rC cs { s with cD:=97 },.exc 2)else Jv { s with cD:=97 } cs 97 else none:=by kernel_rfl
theorem YT:rT P L cd { s with cD:=34 } cs 92=bif strOk (S cs)then bif !nz (S cs)then some (lo (vn 92) s,rC cs { s with cD:=34 },.exc 2)else bif !bw (S cs) (S [92])then bif !bw (S cs) (S [34])then bif strOk (S s.tok)&&true then
 bif strOk (S s.tok++S [92])&&strOk (S cs)then some (⟨vn 34,.str (S s.tok++S [92]++S cs),.int s.ln,.int s.pos,s.pb⟩,rC cs { s with cD:=34 },.next)else none else none else Jv { s with cD:=34 } cs 34 else Jv { s with cD:=34 } cs 34 else none:=by kernel_rfl
end
section
variable {b q:Bool}{p:Prop}[Decidable p]{x y:R3}{u v:kh}
theorem i8(h:b=true)(k:gQ x u):gQ (cond b x y) u:=by subst h; exact k
theorem tB(h:b=false)(k:gQ y u):gQ (cond b x y) u:=by subst h; exact k
theorem vV(e:b=decide p)(h1:p->gQ x u)(h2:¬p->gQ y v):gQ (cond b x y) (if p then u else v):=by
 by_cases h:p
 . exact af (if_pos h) (i8 (e.trans (decide_eq_true h)) (h1 h))
 . exact af (if_neg h) (tB (e.trans (decide_eq_false h)) (h2 h))
theorem PV(e:b=decide p)(h1:p->gQ x u)(h2:gQ y v):gQ (cond q (cond b x y) y) (if q=true/\p then u else v):=by
 cases q with
 |false=>exact h2
 | true=>
   show gQ (cond b x y) _
   by_cases h:p
   . exact af (if_pos ⟨rfl,h⟩) (i8 (e.trans (decide_eq_true h)) (h1 h))
   . exact af (if_neg fun k=>h k.2) (tB (e.trans (decide_eq_false h)) h2)
end
theorem aby{b b':Bool}{p p':Prop}[Decidable p][Decidable p']{x y:R3}{u v:kh}(e:b=decide p)(e':b'=decide p')(h1:gQ x u)(h2:gQ y v):gQ (cond b x (cond b' x y)) (if p\/p' then u else v):=by
 by_cases h:p
 . exact af (if_pos (.inl h)) (i8 (e.trans (decide_eq_true h)) h1)
 . refine tB (e.trans (decide_eq_false h)) ?_
   by_cases h':p'
   . exact af (if_pos (.inr h')) (i8 (e'.trans (decide_eq_true h')) h1)
   . exact af (if_neg fun k=>k.elim h h') (tB (e'.trans (decide_eq_false h')) h2)
theorem BL{s s':RS}{c:List Nat}(h1:s'.quoted=s.quoted)(h2:s'.cD=s.cD):sle (rB s') (rC c s):=⟨congrArg (fun b=>some (Dat.bool b)) h1.symm,congrArg (fun c=>some (eK (S [c]))) h2.symm,trivial⟩
theorem pX{p:Bool}{s s':RS}(ok:strOk (S s.tok)=true)(hs:sle (rB s') ρ):gQ (G1 p (S s.tok) s.quoted (bT s') ρ) (fG (fm p s) s'):=by
 unfold G1 fm nz
 (refine af ok ?_; rw[Qd])
 cases s.tok.isEmpty with
 |false=>exact tD rfl hs
 | true=>
   cases p with
   |false=>exact nK rfl (.inr rfl) hs
   | true=>cases s.quoted with
     |false=>exact nK rfl (.inr rfl) hs
     |true=>exact tD rfl hs
section
variable {P:LP}{L:Addr}{cd:Value}{s:RS}{cs:List Nat}(hs:Small P s)
theorem xB{k:Nat}(h:s.st=k){u:RS->kh}(e:gQ (rT P L cd s cs k) (u { s with st:=k })):gQ (jx (rI P) (rE L cd) 80 (bT s) (rC cs s) (gK (aC rW) 3)) (u s):=by
 subst h; exact e
theorem qb(h:cs.length<=1):cs=[]\/∃c,cs=[c]:=by
 cases cs with
 |nil=>exact .inl rfl
 |cons c r=>exact .inr ⟨c,by rw[List.eq_nil_of_length_eq_zero (show r.length=0 by rw[dg]at h; lia)]⟩
theorem lxW(c:Nat):aG " \t\r\n" (S [c])=decide (c∈ [32,9,13,10]):=by(refine af (show aj " \t\r\n"=S [32,9,13,10]from VN) ?_; rw[iC])
theorem lxH(c:Nat):aG "#" (S [c])=decide (c=35):=by(refine af ZO ?_; rw[iC]); simp
theorem lxB(c:Nat):aG "\\" (S [c])=decide (c=92):=by(refine af zS ?_; rw[iC]); simp
theorem lxQ(c:Nat):aG "'\"" (S [c])=decide (c∈ [39,34]):=by(refine af ZN ?_; rw[iC])
theorem lxE(c d:Nat):bw (S [c]) (S [d])=decide (c=d):=by rw[g7]; by_cases h:c=d <;> simp[h]
theorem qst{c:Nat}(h:c∈ [39,34]): .str (S [c])=vn c:=by
 simp only[aB,eS,or_false]at h
 rcases h with rfl|rfl <;> rfl
theorem PY{p:Bool}{c:Nat}(h:c∈ [39,34]):gQ (bif !p then some (lo (.str (S [c])) { s with tok:=[c] },rC [c] s,.next)else some (lo (.str (S [c])) s,rC [c] s,.next)) (.go { s with tok:=if p=true then s.tok else [c],st:=c }):=by
 refine af (qst h) ?_
 cases p <;> exact nK rfl (.inl rfl) (BL rfl rfl)
include hs
theorem U1:strOk (S s.tok)=true:=ck (by have:=hs.tok; lia)
theorem nh{k c:Nat}{u:kh}(h:gQ (some (bT { s with st:=k,tok:=s.tok++[c] },ρ,fl)) u):gQ (bif strOk (S s.tok)&&strOk (S [c])then some (⟨vn k,.str (S s.tok++S [c]),.int s.ln,.int s.pos,s.pb⟩,ρ,fl)else none) u:=by
 refine i8 (af (U1 hs) rfl) ?_
 rw[eO]; exact h
theorem C5{k c:Nat}:gQ (M1 P s [c] k) (if P.aa=true then fG (fm P.aa s) { s with st:=32,pos:=bJ P.T s.pos,ln:=s.ln+1 } else .go { s with st:=k,pos:=bJ P.T s.pos,ln:=s.ln+1 }):=
 i8 (Cq hs.pos) (vV (by cases P.aa <;> rfl) (fun _=>pX (s':={ S0 P s with st:=32 }) (U1 hs) (BL rfl rfl)) fun _=>nK rfl (.inl rfl) (BL rfl rfl))
theorem Qi(L:Addr)(cd:Value)(vY:s.st=32)(cs:List Nat)(hc:cs.length<=1):gQ (jx (rI P) (rE L cd) 80 (bT s) (rC cs s) (gK (aC rW) 3)) (jA P.T P.M P.W P.aa s cs):=by
 refine xB (u:=fun s=>jA P.T P.M P.W P.aa s cs) vY ?_
 rw[UT]
 refine i8 (ck (by lia)) ?_
 rcases qb hc with rfl|⟨c,rfl⟩
 . exact i8 rfl (tD rfl (BL rfl rfl))
 refine tB rfl (vV (lxW c) (fun _=>pX (s':={ s with st:=32 }) (U1 hs) (BL rfl rfl)) fun _=>vV (lxH c) (fun _=>i8 (Cq hs.pos) (nK rfl (.inl rfl) (BL rfl rfl))) fun _=>PV (lxB c) (fun e=>?_) (vV (iC P.W c) (fun _=>nK rfl (.inl rfl) (BL rfl rfl)) fun _=>vV (iC P.M c) (fun _=>nK rfl (.inl rfl) (BL rfl rfl)) fun _=>vV (lxQ c) PY fun _=>tD rfl (BL rfl rfl)))
 subst e; exact nK rfl (.inl rfl) ⟨rfl,rfl,trivial⟩
theorem JU(L:Addr)(cd:Value)(vY:s.st=97)(cs:List Nat)(hc:cs.length<=1):gQ (jx (rI P) (rE L cd) 80 (bT s) (rC cs s) (gK (aC rW) 3)) (jz P.T P.W P.aa s cs):=by
 refine xB (u:=fun s=>jz P.T P.W P.aa s cs) vY ?_
 rw[PO]
 refine i8 (ck (by lia)) ?_
 rcases qb hc with rfl|⟨c,rfl⟩
 . exact i8 rfl (tD rfl (BL rfl rfl))
 refine tB rfl (vV (lxW c) (fun _=>pX (s':={ s with st:=32 }) (U1 hs) (BL rfl rfl)) fun _=>vV (lxH c) (fun _=>C5 hs) fun _=>PV (lxQ c) (fun e=>?_) (PV (lxB c) (fun e=>?_) ?_))
 . exact af (qst e) (nK rfl (.inl rfl) (BL rfl rfl))
 . subst e; exact nK rfl (.inl rfl) ⟨rfl,rfl,trivial⟩
 have hb:gQ (NY P s [c]) (fG (fm P.aa s) { s with st:=32,pb:=s.pb++[c] }):=pX (s:=s) (s':={ s with st:=32,pb:=s.pb++[c] }) (U1 hs) (BL rfl rfl)
 refine aby (iC P.W c) (lxQ c) (nh hs (nK rfl (.inl rfl) (BL rfl rfl))) (i8 (ck (by have:=hs.ml; lia)) ?_)
 refine af (show nz (S P.M)= !P.M.isEmpty from Qd _) ?_
 cases hm:P.M.isEmpty with
 |false=>exact i8 rfl (i8 (af (decide_eq_true hs.pb) rfl) hb)
 |true=>exact tB rfl (i8 (af (hs.pb0 (oV.mp hm)) rfl) hb)
theorem PG(L:Addr)(cd:Value)(vY:s.st=99)(cs:List Nat)(hc:cs.length<=1):gQ (jx (rI P) (rE L cd) 80 (bT s) (rC cs s) (gK (aC rW) 3)) (oH P.T P.M P.aa s cs):=by
 refine xB (u:=fun s=>oH P.T P.M P.aa s cs) vY ?_
 rw[US]
 refine i8 (ck (by lia)) ?_
 rcases qb hc with rfl|⟨c,rfl⟩
 . exact i8 rfl (tD rfl (BL rfl rfl))
 have hm:P.M.isEmpty=false:=by
   cases hm:P.M.isEmpty with
   |false=>rfl
   |true=>exact absurd (oV.mp hm) (hs.m99 vY)
 exact tB rfl (vV (lxW c) (fun _=>pX (s':={ s with st:=32 }) (U1 hs) (BL rfl rfl)) fun a1=>vV (lxH c) (fun _=>C5 hs) fun _=>vV (iC P.M c) (fun _=>nh hs (nK rfl (.inl rfl) (BL rfl rfl))) fun _=>i8 (by(rewrite [lxW]; refine af (decide_eq_false a1) ?_); rfl) (i8 (af (decide_eq_true hs.pb) (af hm rfl)) (tD rfl (BL rfl rfl))))
theorem SW{k:Nat}{x:R3}{c:Nat}{u:kh}(h:gQ x u):gQ (bif bw (S [c]) (S [k])then bif !P.aa then bif strOk (S s.tok)&&strOk (S [c])then some (⟨vn 32,.str (S s.tok++S [c]),.int s.ln,.int s.pos,s.pb⟩,A1 (rC [c] s),.brk)else none else some (lo (vn 97) s,A1 (rC [c] s),.next)else x)
   (if c=k then(if P.aa=true then .go { s with st:=97,quoted:=true } else .brk { s with tok:=s.tok++[c],st:=32,quoted:=true })else u):=by
 refine vV (lxE c k) (fun _=>?_) fun _=>h
 cases P.aa with
 |false=>exact nh hs (tD rfl ⟨rfl,rfl,trivial⟩)
 |true=>exact nK rfl (.inl rfl) ⟨rfl,rfl,trivial⟩
theorem W6(L:Addr)(cd:Value)(vY:s.st=34)(cs:List Nat)(hc:cs.length<=1):gQ (jx (rI P) (rE L cd) 80 (bT s) (rC cs s) (gK (aC rW) 3)) (kN P.aa s cs):=by
 refine xB (u:=fun s=>kN P.aa s cs) vY ?_
 rw[YV]
 refine i8 (ck (by lia)) ?_
 rcases qb hc with rfl|⟨c,rfl⟩
 . exact i8 rfl ⟨_,rfl⟩
 refine tB rfl (SW hs (PV (p:=c=92/\34=34) ((lxB c).trans (by simp)) (fun e=>?_) (nh hs (nK rfl (.inl rfl) ⟨rfl,rfl,trivial⟩))))
 obtain rfl:=e.1; exact nK rfl (.inl rfl) ⟨rfl,rfl,trivial⟩
theorem UC(L:Addr)(cd:Value)(vY:s.st=39)(cs:List Nat)(hc:cs.length<=1):gQ (jx (rI P) (rE L cd) 80 (bT s) (rC cs s) (gK (aC rW) 3)) (kN P.aa s cs):=by
 refine xB (u:=fun s=>kN P.aa s cs) vY ?_
 rw[YS]
 refine i8 (ck (by lia)) ?_
 rcases qb hc with rfl|⟨c,rfl⟩
 . exact i8 rfl ⟨_,rfl⟩
 have ha:gQ (bif strOk (S s.tok)&&strOk (S [c])then some (⟨vn 39,.str (S s.tok++S [c]),.int s.ln,.int s.pos,s.pb⟩,A1 (rC [c] s),.next)else none) (.go { s with st:=39,tok:=s.tok++[c],quoted:=true }):=nh hs (nK rfl (.inl rfl) ⟨rfl,rfl,trivial⟩)
 refine tB rfl (SW hs ?_)
 dsimp only
 rw[if_neg (fun q=>by cases q.2.2)]
 cases P.aa with
 |false=>exact ha
 |true=>cases aG "\\" (S [c]) <;> exact ha
theorem RZ(L:Addr)(cd:Value)(vY:s.st=92)(he:s.cD=97\/s.cD=34)(cs:List Nat)(hc:cs.length<=1):gQ (jx (rI P) (rE L cd) 80 (bT s) (rC cs s) (gK (aC rW) 3)) (uK s cs):=by
 refine xB (u:=fun s=>uK s cs) vY ?_
 obtain⟨st,tok,ln,pos,pb,quoted,cD⟩:=s
 dsimp only at he
 rcases he with rfl|rfl
 . refine(congrArg (fun x=>gQ x _) (YU P L cd ⟨st,tok,ln,pos,pb,quoted,97⟩ cs)).mpr (i8 (ck (by lia)) ?_)
   rcases qb hc with rfl|⟨c,rfl⟩
   . exact i8 rfl ⟨_,rfl⟩
   exact tB rfl (nh hs (nK rfl (.inl rfl) ⟨rfl,rfl,trivial⟩))
 . refine(congrArg (fun x=>gQ x _) (YT P L cd ⟨st,tok,ln,pos,pb,quoted,34⟩ cs)).mpr (i8 (ck (by lia)) ?_)
   rcases qb hc with rfl|⟨c,rfl⟩
   . exact i8 rfl ⟨_,rfl⟩
   refine tB rfl ?_
   by_cases a1:c=92
   . subst a1
     exact tB rfl (nh hs (nK rfl (.inl rfl) ⟨rfl,rfl,trivial⟩))
   refine i8 (by(rewrite [lxE]; refine af (decide_eq_false a1) ?_); rfl) ?_
   by_cases a2:c=34
   . subst a2
     exact tB rfl (nh hs (nK rfl (.inl rfl) ⟨rfl,rfl,trivial⟩))
   refine i8 (by(rewrite [lxE]; refine af (decide_eq_false a2) ?_); rfl) (i8 (af (U1 hs) rfl) ?_)
   have hl:=hs.tok
   rw[eO,eO]
   refine i8 (by rw[ck (af aR (cg (Nat.add_le_add_right hl _) (by decide)))]; rfl) ?_
   show gQ _ (.go { st:=34,tok:=(if 34∈ [39,34]/\c≠92/\c≠34 then tok++[92]else tok)++[c],ln:=ln,pos:=pos,pb:=pb,quoted:=quoted,cD:=34 })
   exact af (if_pos ⟨by decide,a1,a2⟩) (nK rfl (.inl rfl) ⟨rfl,rfl,trivial⟩)
end
theorem LC(P:LP)(L:Addr)(cd:Value){s:RS}(vY:s.st=0)(cs:List Nat):gQ (jx (rI P) (rE L cd) 80 (bT s) (rC cs s) (gK (aC rW) 3)) (.brk { s with tok:=[] }):=by
 refine xB (u:=fun s=>.brk { s with tok:=[] }) vY ?_
 rw[PS]
 exact tD rfl ⟨rfl,rfl,trivial⟩
end
structure acJ(P:LP)(s:RS):Prop where
 st:s.st∈ [0,32,97,99,39,34,92]
 cD:s.st=92->P.aa=true/\(s.cD=97\/s.cD=34)
theorem SN{n:Nat}(h:n∈ [0,32,97,99,39,34,92])(h0:n≠0)(h1:n≠32)(h2:n≠39)(h3:n≠34)(h4:n≠92)(h5:n≠99):n=97:=by
 rcases aB.mp h with h|h
 . exact absurd h h0
 rcases aB.mp h with h|h
 . exact absurd h h1
 rcases aB.mp h with h|h
 . exact h
 rcases aB.mp h with h|h
 . exact absurd h h5
 rcases aB.mp h with h|h
 . exact absurd h h2
 rcases aB.mp h with h|h
 . exact absurd h h3
 . exact absurd (aY.mp h) h4
theorem Jp(P:LP)(L:Addr)(cd:Value){s:RS}(hs:Small P s)(vG:acJ P s)(cs:List Nat)(hc:cs.length<=1):
   gQ (jx (rI P) (rE L cd) 80 (bT s) (rC cs s) (gK (aC rW) 3)) (bY P.T P.M P.W P.aa s cs):=by
 unfold bY
 by_cases h0:s.st=0
 . exact af (if_pos h0) (LC P L cd h0 cs)
 refine af (if_neg h0) ?_
 by_cases h1:s.st=32
 . exact af (if_pos h1) (Qi hs L cd h1 cs hc)
 refine af (if_neg h1) ?_
 by_cases h2:s.st=39
 . exact af (if_pos (.inl h2)) (UC hs L cd h2 cs hc)
 by_cases h3:s.st=34
 . exact af (if_pos (.inr h3)) (W6 hs L cd h3 cs hc)
 refine af (if_neg (fun q=>q.elim h2 h3)) ?_
 by_cases h4:s.st=92
 . exact af (if_pos h4) (RZ hs L cd h4 (vG.cD h4).2 cs hc)
 refine af (if_neg h4) ?_
 by_cases h5:s.st=99
 . exact af (if_pos h5) (PG hs L cd h5 cs hc)
 exact af (if_neg h5) (JU hs L cd (SN vG.st h0 h1 h2 h3 h4 h5) cs hc)
section
set_option tactic.hygienic true
theorem vW(Pm:aD):nsIn (eG Pm) dc "ValueError"=some none:=by kernel_rfl
section
variable {Pm:aD}
theorem Ma{C:Cx LO}(hC:C.Rep=bK P)(R:cH (eG Pm) p az aL mg mb A₀ base av A env C.h₀ C.L d){o o':LO}{a:Str}(ha:(bif a=="state" then some { o with state:=dv } else bif a=="token" then some { o with token:=dv } else bif a=="lineno" then some { o with fH:=dv } else none)=some o')(h:At C o ρ fz s)(hv:VR fz dv v)(hq:∀s',At C o' ρ fz s'->Q () s'):wpAny (model ai w) A (setAttr (.ref P.lx) a v) Q E s:=by
 rcases bs ha with ⟨e,rfl⟩|⟨_,ha⟩
 . exact af (eq_of_beq e) (QK hC R h hv hq)
 rcases bs ha with ⟨e,rfl⟩|⟨_,ha⟩
 . exact af (eq_of_beq e) (qp (o':={ o with token:=dv }) R h (uH (dv:=dv) hC rfl rfl rfl) (cg (show(bg P { o with token:=dv }).length<=20 from xU _ _) (by decide)) (xR Pm) (xQ Pm) (Mc Pm) (nR Pm) hv hq)
 rcases bs ha with ⟨e,rfl⟩|⟨_,ha⟩
 . exact af (eq_of_beq e) (qp (o':={ o with fH:=dv }) R h (uH (dv:=dv) hC rfl rfl rfl) (cg (show(bg P { o with fH:=dv }).length<=20 from xU _ _) (by decide)) (xR Pm) (xQ Pm) (Mb Pm) (nR Pm) hv hq)
 . exact nn ha
noncomputable def Bj(P:LP)(o:LO)(a:Str):Option V:=bif a=="punctuation_chars" then some (.str (S P.M))else Dj (bg P o) a
theorem CO{C:Cx LO}(hC:C.Rep=bK P)(R:cH (eG Pm) p az aL mg mb A₀ base av A env C.h₀ C.L (d+1)){o:LO}{a:Str}{expr:Bool}(ha:Bj P o a=some dv)(h:At C o ρ fz s)(hq:∀aT s' v,Sub fz aT->At C o ρ aT s'->VR aT dv v->Q v s'):wpAny (model ai w) A (getAttr (.ref P.lx) a expr) Q E s:=by
 rcases bs ha with ⟨e,rfl⟩|⟨_,ha⟩
 . exact af (eq_of_beq e) (I9 hC R h hq)
 . exact CM hC R ha h hq
theorem lO{C:Cx LO}(hC:C.Rep=bK P)(R:cH (eG Pm) p az aL mg mb A₀ base av A env C.h₀ C.L d)(bF:((aj "self"),.ref P.lx)∈C.refs)(hk:env.kindOf "self"=some .local){o:LO}{f:Str}{a:Addr}(hf:∀o,(bg P o).lookup f=some (.r a))(h:At C o ρ fz s)(hq:∀s',At C o ρ fz s'->Q (.ref a) s'):
   wpAny (model ai w) A (eval (.Attribute (.Name "self" q) f q') env) Q E s:=by
 refine Attribute_name (wz R bF hk h ?_)
 exact qz R h (fun Rl hr=>pR (hC▸hr)) (hf o) (tL Pm) (nR Pm) (CP Pm (hf o)) fun v' s' h' x=>by subst x; exact hq s' h'
theorem zV{C:Cx LO}(R:cH (eG Pm) p az aL mg mb A₀ base av A env C.h₀ C.L d)(hv:env.kindOf "ValueError"=some .globalImplicit){o:LO}{k kk:Nat}{txt:Str}(hx:txt=lE k):
   cK ai w A C env (XF base C.h₀ av env C.L) o ρ (.Raise (some (.Call (.Name "ValueError" q1) [.Constant (.str txt) kk q2] [] q3)) none q4) (o,ρ,.exc k):=by
 subst hx
 intro fz s Q E h hq
 refine Raise_madeB F.excCall_ValueError F.excRaise_ValueError R.hh (jG R h (v:=.type "ValueError") (vW Pm) (by kernel_rfl) (by decide) hv (by decide) ⟨rfl,?_⟩)
 refine(cC rfl (fq rfl) fC) q3 fz s _ E h fun ay s₁ vs s1 h1 x1=>?_
 refine cE (dS1 x1) fun _ fj=>?_
 subst fj
 refine⟨by refine af dh ?_; simp,fun h' e hm=>?_⟩
 refine gB h1.nO fun m news F N=>?_
 exact hq ay s₁ s1 h1 ⟨m,F⟩ e 0 _ h' (.inl hm.of)
end
end
theorem mH:Slot "collections.deque" "appendleft" "collections.deque.appendleft":=
 .of (owner:="collections.deque") (n:="appendleft") (by(rewrite [iP]; refine af iO ?_); kernel_rfl) (by decide +kernel) (by decide +kernel) (by decide +kernel)
   (by first|exact .inl (by decide +kernel)|exact .inr (by decide +kernel)) (by rw[jH]; kernel_rfl)
theorem se:typeOf (.builtin "collections.deque.appendleft")=pure (.type "method_descriptor"):=by show builtinType _=_; refine af qK ?_; kernel_rfl
theorem qY:entryFor table "collections.deque.appendleft"=some Builtin.«collections.deque.appendleft» :=kF (by kernel_rfl)
theorem sf(a b:Value):argsOk "collections.deque.appendleft" ⟨[a,b],[]⟩:=by unfold argsOk; kernel_rfl
theorem o9:Slot "collections.deque" "popleft" "collections.deque.popleft":=
 .of (owner:="collections.deque") (n:="popleft") (by(rewrite [iP]; refine af iO ?_); kernel_rfl) (by decide +kernel) (by decide +kernel) (by decide +kernel)
   (by first|exact .inl (by decide +kernel)|exact .inr (by decide +kernel)) (by rw[jH]; kernel_rfl)
theorem v5:typeOf (.builtin "collections.deque.popleft")=pure (.type "method_descriptor"):=by show builtinType _=_; refine af qK ?_; kernel_rfl
theorem uW:entryFor table "collections.deque.popleft"=some Builtin.«collections.deque.popleft» :=kF (by kernel_rfl)
theorem v8(a:Value):argsOk "collections.deque.popleft" ⟨[a],[]⟩:=by unfold argsOk; kernel_rfl
section
variable {a:Addr}{st:Int}{items:List Value}
theorem uV(h:s.heap.get? a=some (aN st items))(hq:Q (.builtin "collections.deque.appendleft",[.ref a]) s):
   wpAny (model ai w) A (ie (.ref a) "appendleft" pl) Q E s:=getMethod_builtin (nW h) t6 mH se (qF h) hq
theorem zf(h:s.heap.get? a=some (aN st items))(hq:Q (.builtin "collections.deque.popleft",[.ref a]) s):
   wpAny (model ai w) A (ie (.ref a) "popleft" pl) Q E s:=getMethod_builtin (nW h) t6 o9 v5 (qF h) hq
theorem zh(h:s.heap.get? a=some (aN st []))(hq:∀h',oX a s.heap h'->h'.get? a=some (aN (st+1) [x])->Q .none { s with heap:=h' }):wpAny (model ai w) A (call (.builtin "collections.deque.appendleft") [.ref a,x]) Q E s:=by
 refine qJ mH (nW h) qY ?_ (sf _ _)
 unfold Builtin.«collections.deque.appendleft» selfAndOne noKeywords
 skip
 refine ao (ao (aA (aA ?_)))
 unfold Builtin.Deque.pushLeft
 refine ao (ao (qH (items':=[x]) h (by simp) (by simp) fun h' hs ho=>?_))
 refine ao (Am (s:={ s with heap:=h' }) ho ?_)
 exact aA (aA ⟨_,rfl,hq h' hs ho⟩)
theorem Fg(h:s.heap.get? a=some (aN st [x]))(hq:∀h',oX a s.heap h'->h'.get? a=some (aN (st+1) [])->Q x { s with heap:=h' }):wpAny (model ai w) A (call (.builtin "collections.deque.popleft") [.ref a]) Q E s:=by
 refine qJ o9 (nW h) uW ?_ (v8 _)
 unfold Builtin.«collections.deque.popleft» selfOnly noKeywords
 skip
 refine ao (ao (aA (aA ?_)))
 refine ao (ym h ?_)
 have e:([x]:List Value).toArray[0]? =some x:=rfl
 refine af e ?_
 refine ao (qH h (items':=[]) (by simp) (by simp) fun h' hs ho=>?_)
 exact aA ⟨_,rfl,hq h' hs ho⟩
end
section
variable {Pm:aD}
theorem Bg{C:Cx LO}(hC:C.Rep=bK P)(hT:P.T.length<=300)(R:cH (eG Pm) p az aL mg mb A₀ base av A env C.h₀ C.L (d+4))(bF:((aj "self"),.ref P.lx)∈C.refs)(hk:env.kindOf "self"=some .local){o:LO}(hl:(q3.endLine==q4.line)=true)(hp:xF P o.pos=true):
   cK ai w A C env X o ρ (.Expr (.Call (.Attribute (.Attribute (.Name "self" q1) "instream" q2) "readline" q3) [] [] q4) q5) ({ o with pos:=.int ((bJ P.T (natOf o.pos):Nat):Int) },ρ,.next):=by
 intro fz s Q E h hq
 refine wpAny_Expr ?_ R.hi rfl
 obtain⟨k,hk1,hk2⟩:∃k:Nat,o.pos= .int (k:Int)/\k<=P.T.length:=by
   revert hp
   cases e:o.pos with
   | int i=>
     intro hp
     simp only[xF,aM,decide_eq_true_eq]at hp
     exact⟨i.toNat,by congr 1; lia,by lia⟩
   |_=>intro hp; exact ff hp
 refine d9 (pl:=_) (lO hC R bF hk (f:="instream") (fun o=>rfl) h fun s₁ cj=>?_) (gu rfl rfl (by simp) hl)
 refine cp fun G' k'=>?_
 obtain⟨hp,tk,mm,Rl,rfl,F,N,rp,ap,lc,rf⟩:=id cj
 refine fS (tQ (hC▸rp)) fun es n h1 h2 h3=>?_
 refine k' ?_
 have I:InstAt hp P.io (bI 587 P.id) 587 (some (bH es n)):=⟨(N _ (aH _ h1)).1,rfl,rfl,(N _ (aH _ h2)).1⟩
 refine method_inst (s:={ C.s₀ with heap:=hp,toks:=tk }) F R.X I (tR Pm) (EA Pm) (by kernel_rfl) (qB h3 rfl) ?_
 refine callWith_K0 (K:=eG Pm) (first:=[.ref P.io]) (R.rD F) (by kernel_rfl) ?_
 refine yZ hC hT R hk1 hk2 cj fun aO aX v s2 h2 x2=>?_
 refine FQ x2 fun _=>?_
 have:natOf o.pos=k:=by exact af hk1 rfl
 rw[this]at hq
 exact hq aO aX s2 h2
theorem Bh(hM:P.M≠ []){o:LO}:(bg P o).lookup (aj "_pushback_chars")=some (.r P.pc):=by
 unfold bg Xw
 refine af List.lookup_append ?_
 cases e:P.M with
 |nil=>exact absurd e hM
 |cons=>rfl
theorem wF(hM:P.M=[]){o:LO}:(bg P o).lookup (aj "pushback")=some (.r P.pc):=by
 refine zW (f:=.r P.pc) (bU (b:=some (.r (pbF P))) rfl ?_)
 unfold pbF
 (refine af hM ?_; rfl)
theorem m8{C:Cx LO}(hC:C.Rep=bK P){o o':LO}(h:At C o ρ fz s)(e1:bg P o=bg P o')(e2:dw P o=dw P o'):
   ∃st vs,s.heap.get? P.pc=some (aN st vs)/\aU fz vs (o.iV.map fun c=>.str (S [c]))/\∀h' fE sO tk,oX P.pc s.heap h'->h'.get? P.pc=some (aN fE sO)->aU fz sO (o'.iV.map fun c=>.str (S [c]))->At C o' ρ fz { s with heap:=h',toks:=tk }:=by
 refine At.eh h fun hp tk m Rl F N rp ap lc rf h=>?_
 obtain⟨es,n,pY,n2,s1,s2,s3,vs,rfl,h1,h2,h3,h4⟩:=(hC▸rp:bK P o fz Rl)
 have hk:((uJ P es n pY n2 s1 s2++[(P.pc,aN s3 vs)]).map (·.1)).Nodup:=by rw[xS]; exact h4
 have k:=gc (pre:=uJ P es n pY n2 s1 s2) (ob:=aN s3 vs) (post:=[]) hk
 refine⟨s3,vs,(N _ (aH _ (aJ _ (.head _)))).1,h3,fun h' fE sO lG hs ho hv=>?_⟩
 refine lV (xV F N ap k.1 k.2 hs ho) fun F' N' ap'=>?_
 exact⟨h',lG,m,_,rfl,F',N',hC▸⟨es,n,pY,n2,s1,s2,fE,sO,rfl,e1▸h1,e2▸h2,hv,h4⟩,ap',lc,rf⟩
theorem sr(h:aU fz vs ds):vs.length=ds.length:=h.length
theorem EN{C:Cx LO}{P:LP}(hC:C.Rep=bK P)(hM:P.M≠ [])(R:cH (eG Pm) p az aL mg mb A₀ base av A env C.h₀ C.L d)(bF:((aj "self"),.ref P.lx)∈C.refs)(hk:env.kindOf "self"=some .local){o:LO}{q1 q2 q3 q4 q5 q6:Pos}{y:Str}{names:List Str}{I:Jz}(KI:yM ai w A C o env I)(hy:I.names.contains y=true)(hd:(y !="__debug__")=true)(hl:(q3.endLine==q5.line)=true){x:Str}(hx:ρ.lookup y=some (.str x))(h1:x.cps.toList.length=1)(hz:o.iV.length<=800):
   cK ai w A C env X o ρ (.Expr (.Call (.Attribute (.Attribute (.Name "self" q1) "_pushback_chars" q2) "append" q3) [.Name y q4] [] q5) q6) ({ o with iV:=o.iV++x.cps.toList },ρ,.next):=by
 intro fz s Q E h hq
 refine wpAny_Expr ?_ R.hi rfl
 refine d9 (pl:=_) (lO hC R bF hk (f:="_pushback_chars") (fun o=>Bh hM) h fun s₁ cj=>?_) (gu rfl rfl (by simp) hl)
 refine fS (m8 (o':=o) hC cj rfl rfl) fun st vs g1 g2 _=>?_
 refine Bv g1 ?_
 refine cW (first:=[.ref P.pc]) rfl ((cC rfl (fM KI hy hd hx) fC) q5 fz s₁ _ E cj fun aO aX ws s2 h2 x2=>?_)
 refine fS (m8 (o':={ o with iV:=o.iV++x.cps.toList }) hC h2 rfl rfl) fun fE sO g1' RG g3'=>?_
 refine cE (dS1 x2) fun _ fj=>?_
 subst fj
 have hlen:=sr RG
 refine Jf g1' (by(refine af hlen ?_; rw[bM]); lia) fun h' hs ho=>?_
 refine hq aO _ s2 (g3' h' _ _ aX.toks hs ho ?_)
 obtain⟨c,hc⟩:∃c,x.cps.toList=[c]:=List.length_eq_one_iff.mp h1
 have Tj:x=S [c]:=by(refine af (sG x) (af hc ?_); rfl)
 refine af hc (af jL ?_)
 exact oO RG (.cons (af Tj (.str _ _)) .nil)
theorem xT{C:Cx LO}{P:LP}(hC:C.Rep=bK P)(hM:P.M=[])(R:cH (eG Pm) p az aL mg mb A₀ base av A env C.h₀ C.L d)(bF:((aj "self"),.ref P.lx)∈C.refs)(hk:env.kindOf "self"=some .local){o:LO}{q1 q2 q3 q4 q5 q6:Pos}{y:Str}{names:List Str}{I:Jz}(KI:yM ai w A C o env I)(hy:I.names.contains y=true)(hd:(y !="__debug__")=true)(hl:(q3.endLine==q5.line)=true){x:Str}(hx:ρ.lookup y=some (.str x))(h1:x.cps.toList.length=1)(hz:o.iV=[]):
   cK ai w A C env X o ρ (.Expr (.Call (.Attribute (.Attribute (.Name "self" q1) "pushback" q2) "appendleft" q3) [.Name y q4] [] q5) q6) ({ o with iV:=o.iV++x.cps.toList },ρ,.next):=by
 intro fz s Q E h hq
 refine wpAny_Expr ?_ R.hi rfl
 refine d9 (pl:=_) (lO hC R bF hk (f:="pushback") (fun o=>wF hM) h fun s₁ cj=>?_) (gu rfl rfl (by simp) hl)
 refine fS (m8 (o':=o) hC cj rfl rfl) fun st vs g1 g2 _=>?_
 rw[hz]at g2
 cases g2
 refine uV g1 ?_
 refine cW (first:=[.ref P.pc]) rfl ((cC rfl (fM KI hy hd hx) fC) q5 fz s₁ _ E cj fun aO aX ws s2 h2 x2=>?_)
 refine fS (m8 (o':={ o with iV:=o.iV++x.cps.toList }) hC h2 rfl rfl) fun fE sO g1' RG g3'=>?_
 rw[hz]at RG
 cases RG
 refine cE (dS1 x2) fun _ fj=>?_
 subst fj
 refine zh g1' fun h' hs ho=>?_
 refine hq aO _ s2 (g3' h' _ _ aX.toks hs ho ?_)
 obtain⟨c,hc⟩:∃c,x.cps.toList=[c]:=List.length_eq_one_iff.mp h1
 have Tj:x=S [c]:=by(refine af (sG x) (af hc ?_); rfl)
 show aU aO _ ((o.iV++x.cps.toList).map _)
 refine af hc (af hz ?_)
 exact .cons (af Tj (.str _ _)) .nil
end
section
variable {Pm:aD}
theorem Lm(L:Addr)(cd:Value):∀x∈rN,(rE L cd).kindOf x=some .local:=by
 have:∀x∈rN,(rE 0 .none).kindOf x=some .local:=by decide +kernel
 exact this
set_option maxHeartbeats 1000000 in
theorem GF{C:Cx LO}(hC:C.Rep=bK P){names:List Str}(R:cH (eG Pm) p az aL mg mb A₀ base av A env C.h₀ C.L (d+1))(bF:C.refs=[((aj "self"),.ref P.lx)])(hk:env.kindOf "self"=some .local)(hn:∀x∈names,env.kindOf x=some .local)(uO:names.contains (aj "self")=false):
   cV ai w A C env (VP P names [] fun _ _ _=>none) X P.lx:=
 have hs:((aj "self"),.ref P.lx)∈C.refs:=af bF (.head _)
 { fh:=fun o=>{ fn:=R.hk,loc:=R.hl,names:=hn,attr:=fun a v h ρ _ _ fz s Q E hA hq=>Attribute_name (wz R hs hk hA (CO hC R (show Bj P o a=some v from h) hA hq)),call:=fun _ _ _=>nn,LD:=fun _ _=>nn,Hl:=fun _ _ _=>nn,v9:=fun h=>ff h }
   hh:=R.hh
   inter:=R.hi
   off:=fun q hq=>by cases aY.mp (bF▸hq); exact uO
   self:=.inl hs
   vq:=.inl ⟨hk,(by decide:("self"==("__debug__":Str))=false)⟩
   get:=fun o a v h ρ fz s Q E hA hq=>CO hC R (show Bj P o a=some v from h) hA hq
   set:=fun o a dv o' h ρ fz s v Q E hA hv hq=>Ma hC R h hA hv hq
   push:=fun _ _ _ _=>nn
   give:=fun _ _ _ _=>nn
   oZ:=fun _ _ _ _=>nn
   vp:=fun _ _ _ _=>nn
   prim:=fun _ _ _ _=>nn }
theorem uI{C:Cx LO}(hC:C.Rep=bK P)(hT:P.T.length<=300)(R:cH (eG Pm) p az aL mg mb A₀ base av A (rE C.L cd) C.h₀ C.L (d+4))(bF:C.refs=[((aj "self"),.ref P.lx)]):
   cV ai w A C (rE C.L cd) (rI P) (XF base C.h₀ av (rE C.L cd) C.L) P.lx:=
 have hk:(rE C.L cd).kindOf "self"=some .local:=by kernel_rfl
 have hs:((aj "self"),.ref P.lx)∈C.refs:=by exact af bF (.head _)
 have K:=GF (X:=XF base C.h₀ av (rE C.L cd) C.L) hC R bF hk (Lm _ _) (show rN.contains "self"=false by decide +kernel)
 { K with
   prim:=fun o ρ st r h=>by
     refine au (aq (show opt (Ef st) _ none=some r from h)) fun q h1 h=>?_
     refine bx (bA h) fun h2 h=>?_
     refine af (HT h1) (af (eq_of_beq h2) ?_)
     cases h3:q.2.2.1==("No closing quotation":Str)with
     | true=>
       rw[h3]at h
       exact af (eq_of_beq h3) (af ((sj h).symm) (zV R (by kernel_rfl) (by decide +kernel)))
     | false=>
       rw[h3]at h
       refine bx (bA h) fun h4 h=>?_
       exact af (eq_of_beq h4) (af ((sj h).symm) (zV R (by kernel_rfl) (by decide +kernel)))
   oZ :=fun o ρ st r h=>by
     refine cp fun G' k'=>?_
     refine au (aq (show opt (Un st) _ none=some (true,r)from h)) fun fZ h1 h=>?_
     obtain⟨x,q1,a,q2,m,q3,args,q4,q5⟩:=fZ
     refine bx (bA h) fun h2 h=>?_
     refine k' ?_
     rw[aM]at h2
     refine af (OZ h1) ?_
     dsimp only
     refine af (eq_of_beq h2.1) ?_
     rcases fT h with ⟨e,h3,h⟩|⟨_,h⟩
     . refine au (aq h) fun y h4 h=>?_
       refine cE (dP h4) fun q6 e2=>?_
       cases hg:(m=="append"&&a=="_pushback_chars"&&rN.contains y&&y !="__debug__")with
       | true=>
         have h:gate (m=="append"&&a=="_pushback_chars"&&rN.contains y&&y !="__debug__") _ _=some (true,r):=h
         rw[hg]at h
         refine cp fun G' k'=>?_
         refine au (aq h) fun d h6 h=>?_
         refine au (aq h) fun s h7 h=>?_
         refine bx (cR (sj h)) fun g1 e1=>?_
         refine k' ?_
         simp only[aM,decide_eq_true_eq]at g1 hg
         refine af (gF h3) (af e2 (af (eq_of_beq hg.1.1.1) (af (eq_of_beq hg.1.1.2) (af e1.symm ?_))))
         rw[cS h7]at h6
         exact EN (names:=rN) hC (fun e=>by have:=g1.2; rw[e]at this; cases this) R hs hk (K.fh o) hg.1.2 hg.2 h2.2 h6 g1.1.1 g1.1.2
       | false=>
         have h:gate (m=="append"&&a=="_pushback_chars"&&rN.contains y&&y !="__debug__") _ _=some (true,r):=h
         rw[hg]at h
         refine bx (bA h) fun h5 h=>?_
         refine au (aq h) fun d h6 h=>?_
         refine au (aq h) fun s h7 h=>?_
         refine bx (cR (sj h)) fun g1 e1=>?_
         simp only[aM,decide_eq_true_eq]at g1 h5
         refine af (gF h3) (af e2 (af (eq_of_beq h5.1.1.1) (af (eq_of_beq h5.1.1.2) (af e1.symm ?_))))
         rw[cS h7]at h6
         exact xT (names:=rN) hC (oV.mp g1.2) R hs hk (K.fh o) h5.1.2 h5.2 h2.2 h6 g1.1.1 (oV.mp g1.1.2)
     . refine bx (bA h) fun h5 h=>?_
       refine bx (cR (sj h)) fun g1 e1=>?_
       simp only[aM]at h5
       refine af (eq_of_beq h5.1.1) (af (eq_of_beq h5.1.2) (af e1.symm (af (oV.mp h5.2) ?_)))
       exact Bg hC hT R hs hk h2.2 g1 }
end
noncomputable def nextIn(T:List Nat)(s:RS):List Nat×RS:=match s.pb with
 | []=>((iw T s.pos).2,{ s with pos:=(iw T s.pos).1 })
 |c::_=>([c],{ s with pb:=[] })
noncomputable abbrev rA1:bG:=.Attribute (.Name "self" ⟨571,15,571,19⟩) "punctuation_chars" ⟨571,15,571,37⟩
noncomputable abbrev rA2:bG:=.Attribute (.Name "self" ⟨571,42,571,46⟩) "_pushback_chars" ⟨571,42,571,62⟩
noncomputable abbrev rS1:Stmt:=.Assign [.Name "nextchar" ⟨572,16,572,24⟩] (.Call (.Attribute (.Attribute (.Name "self" ⟨572,27,572,31⟩) "_pushback_chars" ⟨572,27,572,47⟩) "pop" ⟨572,27,572,51⟩) [] [] ⟨572,27,572,53⟩) ⟨572,16,572,53⟩
noncomputable abbrev rS2:Stmt:=.Assign [.Name "nextchar" ⟨574,16,574,24⟩] (.Call (.Attribute (.Attribute (.Name "self" ⟨574,27,574,31⟩) "instream" ⟨574,27,574,40⟩) "read" ⟨574,27,574,45⟩) [.Constant (.int 1) 0 ⟨574,46,574,47⟩] [] ⟨574,27,574,48⟩) ⟨574,16,574,48⟩
theorem YW:gK (aC rW) 0= .If (.BoolOp .And [rA1,rA2] ⟨571,15,571,62⟩) [rS1] [rS2] ⟨571,12,574,48⟩:=by kernel_rfl
section
variable {Pm:aD}
theorem Hj{α β:Type}:∀(a:List α) (b:List β),a.length=b.length->a.isEmpty=b.isEmpty
 | [],[],_=>rfl
 |_::_,_::_,_=>rfl
 | [],_::_,h=>by cases h
 |_::_,[],h=>by cases h
theorem vO{id:String}{Q:Value->ak->Prop}(h:wpAny (model ai w) A (call (.builtin id) first) Q E s):
   wpAny (model ai w) A (callWith pos (.builtin id) first (eX pos (dI [] env)) []) Q E s:=callWith_method0 h
theorem QL{C:Cx LO}(hC:C.Rep=bK P)(hT:P.T.length<=300)(R:cH (eG Pm) p az aL mg mb A₀ base av A (rE C.L cd) C.h₀ C.L (d+4))(bF:C.refs=[((aj "self"),.ref P.lx)]){s:RS}(hM:P.M≠ []){c:Nat}(hp:s.pb=[c]):
   cK ai w A C (rE C.L cd) (XF base C.h₀ av (rE C.L cd) C.L) (bT s) ρ rS1 (bT { s with pb:=[] },("nextchar",.str (S [c]))::ρ,.next):=by
 intro fz st Q E h hq
 have hk:(rE C.L cd).kindOf "self"=some .local:=by kernel_rfl
 have hs:((aj "self"),.ref P.lx)∈C.refs:=by exact af bF (.head _)
 have IK:=uI (ai:=ai) (w:=w) hC hT R bF
 refine jJ (d9 (pl:=_) (lO hC R hs hk (f:="_pushback_chars") (fun o=>Bh hM) h fun s₁ cj=>?_) (gu rfl rfl (by simp) rfl)) (fk rfl)
 refine cp fun G' k'=>?_
 refine fS (m8 (o':=bT { s with pb:=[] }) hC cj rfl rfl) fun fE vs g1 g2 g3=>?_
 refine k' ?_
 have RG:aU fz vs [.str (S [c])]:=by
   have:(bT s).iV=[c]:=hp
   rw[this]at g2; exact g2
 cases RG with
 | @cons v sO _ _ hv hr=>
   cases hr
   refine Je g1 (vO ?_)
   refine W4 (items:=[]) g1 (by simp) fun h' I5 ho=>?_
   exact jv IK (g3 h' _ _ s₁.toks I5 ho .nil) (show rN.contains "nextchar"=true by decide +kernel) hv fun dF h3=>hq fz dF (fun _ h=>h) h3
theorem CK{C:Cx LO}(hC:C.Rep=bK P)(hT:P.T.length<=300)(R:cH (eG Pm) p az aL mg mb A₀ base av A (rE C.L cd) C.h₀ C.L (d+4))(bF:C.refs=[((aj "self"),.ref P.lx)]){s:RS}:
   cK ai w A C (rE C.L cd) (XF base C.h₀ av (rE C.L cd) C.L) (bT s) ρ rS2 (bT { s with pos:=(iw P.T s.pos).1 },("nextchar",.str (S (iw P.T s.pos).2))::ρ,.next):=by
 intro fz st Q E h hq
 have hk:(rE C.L cd).kindOf "self"=some .local:=by kernel_rfl
 have hs:((aj "self"),.ref P.lx)∈C.refs:=by exact af bF (.head _)
 have IK:=uI (ai:=ai) (w:=w) hC hT R bF
 refine jJ (d9 (pl:=_) (lO hC R hs hk (f:="instream") (fun o=>rfl) h fun s₁ cj=>?_) (gu rfl rfl (by simp) rfl)) (fk rfl)
 refine Ba R cj (fun Rl hr=>tQ (hC▸hr)) rfl (tR Pm) (UR Pm) (UQ Pm) (by kernel_rfl) rfl rfl ?_
 refine(cC rfl (fq rfl) fC) _ fz _ _ E cj fun ay aX vs s2 h2 x2=>?_
 refine cE (dI1 x2) fun _ fj=>?_
 subst fj
 exact⟨⟨_,_,_,h2⟩,Ie hC hT R rfl h2 fun gz dF v s3 h3 x3=>jv IK h3 (show rN.contains "nextchar"=true by decide +kernel) x3 fun lX h4=>hq gz lX (fun p hp=>s3 p (s2 p hp)) h4⟩
theorem IE{C:Cx LO}(hC:C.Rep=bK P)(hT:P.T.length<=300)(R:cH (eG Pm) p az aL mg mb A₀ base av A (rE C.L cd) C.h₀ C.L (d+4))(bF:C.refs=[((aj "self"),.ref P.lx)]){s:RS}(hs:Small P s)(hp:s.pb.length<=1):
   cK ai w A C (rE C.L cd) (XF base C.h₀ av (rE C.L cd) C.L) (bT s) ρ (gK (aC rW) 0) (bT (nextIn P.T s).2,("nextchar",.str (S (nextIn P.T s).1))::ρ,.next):=by
 have hk:(rE C.L cd).kindOf "self"=some .local:=by kernel_rfl
 have I5:((aj "self"),.ref P.lx)∈C.refs:=by exact af bF (.head _)
 have IK:=uI (ai:=ai) (w:=w) hC hT R bF
 have okm:strOk (S P.M)=true:=ck (by have:=hs.ml; lia)
 have t1:gi ai w A C (bT s) (rE C.L cd) ρ rA1 (!P.M.isEmpty):=by
   refine jr (v:=.str (S P.M)) ((IK.fh (bT s)).attr "punctuation_chars" _ rfl ρ _ _) ?_ rfl
   unfold ir
   simp only[okm,if_true,Qd]
 by_cases hM:P.M=[]
 . rw[hM]at t1
   refine af YW ?_
   refine jY (c:=false) (kW t1 rfl) ?_
   have Rz:=hs.pb0 hM
   have e:nextIn P.T s=((iw P.T s.pos).2,{ s with pos:=(iw P.T s.pos).1 }):=by unfold nextIn; (refine af Rz ?_; rfl)
   exact af e (j9 (CK hC hT R bF))
 have t2:gi ai w A C (bT s) (rE C.L cd) ρ rA2 (!s.pb.isEmpty):=by
   intro fz st Q E h hq
   refine isTrue_plain (lO hC R I5 hk (f:="_pushback_chars") (fun o=>Bh hM) h fun s₁ cj=>?_) rfl
   refine fS (m8 (o':=bT s) hC cj rfl rfl) fun fE vs g1 g2 g3=>?_
   have hl:=sr g2
   rw[bM]at hl
   have hl:vs.length=s.pb.length:=hl
   refine uU g1 (by lia) ?_
   have e:vs.isEmpty=s.pb.isEmpty:=by
     exact Hj vs s.pb hl
   exact af e (hq fz _ (fun _ h=>h) (cj.toks _))
 refine af YW ?_
 have em:(!P.M.isEmpty)=true:=by
   cases e:P.M with
   |nil=>exact absurd e hM
   |cons=>rfl
 rw[em]at t1
 refine jY (c:= !s.pb.isEmpty) (kW t1 ?_) ?_
 . exact rX t2
 . unfold nextIn
   cases e:s.pb with
   | nil=>
     skip
     have:=CK (ai:=ai) (w:=w) (ρ:=ρ) (s:=s) hC hT R bF
     rw[e]at this
     exact j9 this
   | cons c r=>
     have:r=[]:=by rw[e]at hp; simp at hp; exact List.eq_nil_of_length_eq_zero (by simpa using hp)
     subst this
     skip
     exact j9 (QL hC hT R bF hM e)
end
noncomputable def dm(cs:List Nat)(s:RS):RS:=if cs=[10]then { s with ln:=s.ln+1 } else s
noncomputable def fB(T M W:List Nat)(aa:Bool)(s:RS):kh:=bY T M W aa (dm (nextIn T s).1 (nextIn T s).2) (nextIn T s).1
noncomputable def rdLoop(T M W:List Nat)(aa:Bool):Nat->RS->Option kh
 |0,_=>none
 | n+1,s=>match fB T M W aa s with
   | .go s'=>rdLoop T M W aa n s'
   |x=>some x
structure pC(T:List Nat)(aa:Bool)(s:RS):Prop where
 st:s.st∈ [0,32,97,99,39,34,92]
 cD:s.st=92->aa=true/\(s.cD=97\/s.cD=34)
 pos:s.pos<=T.length
 pb:s.pb.length<=1
 iV:s.pb≠ []->s.st=32
 tok:s.tok.length+2*s.pb.length<=2*s.pos
theorem vz{T:List Nat}{k:Nat}(h:k<=T.length):k<=bJ T k/\bJ T k<=T.length:=by
 unfold bJ
 rcases oM 10 (T.drop k) k with e|⟨j,e,hj⟩
 . exact af e (af (if_pos (by decide)) ⟨h,bC _⟩)
 . rw[List.length_drop]at hj
   exact af e (af (if_neg (Qf _)) ⟨n6 (ni k j),Nat.add_lt_of_lt_sub' hj⟩)
structure aaM(T:List Nat)(aa:Bool)(cs:List Nat)(s:RS):Prop where
 st:s.st∈ [0,32,97,99,39,34,92]
 cD:s.st=92->aa=true/\(s.cD=97\/s.cD=34)
 pos:s.pos<=T.length
 pb:s.pb=[]
 one:cs.length<=1
 tok:s.tok.length+2*cs.length<=2*s.pos
noncomputable def mw(T:List Nat)(s:RS):Nat:=2*(T.length-s.pos)+s.pb.length
theorem zM{T:List Nat}{aa:Bool}{s:RS}(h:pC T aa s):aaM T aa (nextIn T s).1 (dm (nextIn T s).1 (nextIn T s).2)/\
   (nextIn T s).2.st=s.st/\((nextIn T s).1=[]->s.pos=T.length/\s.pb=[]/\(nextIn T s).2=s)/\2*(T.length-(nextIn T s).2.pos)+(nextIn T s).1.length<=mw T s:=by
 have hl:∀cs (s:RS),(dm cs s).st=s.st/\(dm cs s).cD=s.cD/\(dm cs s).pos=s.pos/\(dm cs s).pb=s.pb/\(dm cs s).tok=s.tok:=by
   intro cs s; unfold dm; split <;> exact⟨rfl,rfl,rfl,rfl,rfl⟩
 refine om (hl (nextIn T s).1 (nextIn T s).2) fun a1 a2 a3 a4 a5=>?_
 have key:(nextIn T s).2.st=s.st/\(nextIn T s).2.cD=s.cD/\(nextIn T s).2.tok=s.tok/\(nextIn T s).2.pos<=T.length/\(nextIn T s).2.pb=[]/\(nextIn T s).1.length<=1/\s.tok.length+2*(nextIn T s).1.length<=2*(nextIn T s).2.pos/\
     ((nextIn T s).1=[]->s.pos=T.length/\s.pb=[]/\(nextIn T s).2=s)/\2*(T.length-(nextIn T s).2.pos)+(nextIn T s).1.length<=mw T s:=by
   have h1:=h.pos; have h2:=h.tok; have h3:=h.pb
   unfold mw
   cases e:s.pb with
   | nil=>
     rw[e]at h2
     simp only[iF]at h2
     by_cases hk:s.pos<T.length
     . have e1:nextIn T s=([T[s.pos]],{ s with pos:=s.pos+1 }):=by unfold nextIn iw; refine af e ?_; simp only[dif_pos hk]
       refine af e1 ?_
       refine⟨rfl,rfl,rfl,by show s.pos+1<=_; lia,e,bC _,by show s.tok.length+2*1<=2*(s.pos+1); lia,fun q=>(by cases q),by show 2*(T.length-(s.pos+1))+1<=2*(T.length-s.pos)+0; lia⟩
     . have e1:nextIn T s=([],s):=by unfold nextIn iw; refine af e ?_; simp only[dif_neg hk]; (refine af e.symm ?_; rfl)
       exact af e1 ⟨rfl,rfl,rfl,h1,e,by simp,by show s.tok.length+2*0<=2*s.pos; omega,fun _=>⟨by lia,rfl,rfl⟩,bC _⟩
   | cons c r=>
     rw[e]at h2 h3
     simp only[dg]at h2 h3
     have e1:nextIn T s=([c],{ s with pb:=[] }):=by unfold nextIn; (refine af e ?_; rfl)
     exact af e1 ⟨rfl,rfl,rfl,h1,rfl,bC _,by show s.tok.length+2*1<=2*s.pos; lia,fun q=>(by cases q),by show 2*(T.length-s.pos)+1<=2*(T.length-s.pos)+(r.length+1); lia⟩
 refine cp fun G' k'=>?_
 refine Yb key fun k1 k2 k3 k4 k5 k6 k7 k8 k9=>?_
 refine k' ?_
 refine⟨⟨?_,?_,?_,?_,k6,?_⟩,k1,k8,k9⟩
 . exact af a1 (af k1 h.st)
 . exact af a1 (af a2 (af k1 (af k2 h.cD)))
 . exact af a3 k4
 . exact af a4 k5
 . exact af a3 (af a5 (af k3 k7))
noncomputable def Ob(T:List Nat)(aa:Bool)(n:Nat):kh->Prop
 | .go s=>pC T aa s/\mw T s<n
 | .brk s=>pC T aa s/\mw T s<=n
 | .exc _ s=>s.tok.length<=2*T.length
theorem zD{T:List Nat}{aa:Bool}{n:Nat}{b:Bool}{s:RS}(h:pC T aa s/\mw T s<n):Ob T aa n (fG b s):=by
 cases b with
 |true=>exact⟨h.1,kH h.2⟩
 |false=>exact h
theorem cI{T:List Nat}{aa:Bool}{n:Nat}{c:Prop}[Decidable c]{a b:kh}(ha:c->Ob T aa n a)(hb:¬c->Ob T aa n b):Ob T aa n (if c then a else b):=by
 by_cases h:c
 . exact af (if_pos h) (ha h)
 . exact af (if_neg h) (hb h)
abbrev nG(n:Nat):Prop:=n∈ [0,32,97,99,39,34,92]
section
variable {T:List Nat}{aa:Bool}{n st ln pos cD:Nat}{tok:List Nat}{quoted b:Bool}
theorem Ll(h1:nG st)(h2:st=92->aa=true/\(cD=97\/cD=34))(h3:pos<=T.length)(h6:tok.length<=2*pos):pC T aa ⟨st,tok,ln,pos,[],quoted,cD⟩:=
 ⟨h1,h2,h3,dz _,fun h=>absurd rfl h,h6⟩
theorem Ey(h1:nG st)(h2:st=92->aa=true/\(cD=97\/cD=34))(h3:pos<=T.length)(h6:tok.length<=2*pos)(hn:2*(T.length-pos)<n):Ob T aa n (.go ⟨st,tok,ln,pos,[],quoted,cD⟩):=⟨Ll h1 h2 h3 h6,hn⟩
theorem Lf(h1:nG st)(h2:st=92->aa=true/\(cD=97\/cD=34))(h3:pos<=T.length)(h6:tok.length<=2*pos)(hn:2*(T.length-pos)<=n):Ob T aa n (.brk ⟨st,tok,ln,pos,[],quoted,cD⟩):=⟨Ll h1 h2 h3 h6,hn⟩
theorem Cg(h1:nG st)(h2:st=92->aa=true/\(cD=97\/cD=34))(h3:pos<=T.length)(h6:tok.length<=2*pos)(hn:2*(T.length-pos)<n):Ob T aa n (fG b ⟨st,tok,ln,pos,[],quoted,cD⟩):=zD ⟨Ll h1 h2 h3 h6,hn⟩
theorem Lk{c:Nat}(h3:pos<=T.length)(h6:tok.length+2<=2*pos):pC T aa ⟨32,tok,ln,pos,[c],quoted,cD⟩:=
 ⟨.tail _ (.head _),fun e=>(by cases e),h3,bC _,fun _=>rfl,h6⟩
theorem O6{c:Nat}(h:tok.length+2<=2*pos):(tok++[c]).length<=2*pos:=by exact af aR (cg (Nat.add_le_add_left (by decide:1<=2) _) h)
theorem abB{a:Nat}:2*a<2*a+2*1:=by lia
theorem Y9{a b:Nat}(h:a<=b):2*(n-b)<2*(n-a)+2*1:=Nat.lt_of_le_of_lt (Nat.mul_le_mul_left 2 (Nat.sub_le_sub_left h n)) (Nat.lt_add_of_pos_right (by decide))
theorem En{c:Nat}(h:c∈ [39,34]):nG c/\c≠92:=by
 rcases aB.mp h with rfl|h
 . exact⟨.tail _ (.tail _ (.tail _ (.tail _ (.head _)))),by decide⟩
 . obtain rfl:=aY.mp h
   exact⟨.tail _ (.tail _ (.tail _ (.tail _ (.tail _ (.head _))))),by decide⟩
theorem aax{M W:List Nat}{c:Nat}(h1:nG st)(h2:st=92->aa=true/\(cD=97\/cD=34))(h3:pos<=T.length)(h6:tok.length+2<=2*pos):Ob T aa (2*(T.length-pos)+2*1) (bY T M W aa ⟨st,tok,ln,pos,[],quoted,cD⟩ [c]):=by
 have hp:=vz h3
 have t0:tok.length<=2*pos:=cg (ni _ 2) h6
 have t1:(tok++[c]).length<=2*pos:=O6 h6
 have tc: [c].length<=2*pos:=cg (by decide:1<=2) (cg (Nat.le_add_left 2 _) h6)
 have Yq:tok.length<=2*bJ T pos:=cg t0 (Nat.mul_le_mul_left 2 hp.1)
 have n1:2*(T.length-pos)<2*(T.length-pos)+2*1:=abB
 have n2:2*(T.length-bJ T pos)<2*(T.length-pos)+2*1:=Y9 hp.1
 have SR:nG 32:=.tail _ (.head _)
 have Oo:nG 97:=.tail _ (.tail _ (.head _))
 have SQ:nG 92:=.tail _ (.tail _ (.tail _ (.tail _ (.tail _ (.tail _ (.head _))))))
 have no:∀ {x:Nat},x≠92->x=92->aa=true/\(cD=97\/cD=34):=fun h e=>absurd e h
 refine cI (fun _=>Lf h1 h2 h3 (dz _) (kH n1)) fun _=>?_
 refine cI (fun e=>?_) fun _=>?_
 . exact cI (fun _=>Cg h1 h2 h3 t0 n1) fun _=>cI (fun _=>Ey h1 h2 hp.2 Yq n2) fun _=>cI (fun e=>Ey SQ (fun _=>⟨e.1,.inl rfl⟩) h3 t0 n1) fun _=>cI (fun _=>Ey Oo (no (by decide)) h3 tc n1) fun _=>
     cI (fun _=>Ey (.tail _ (.tail _ (.tail _ (.head _)))) (no (by decide)) h3 tc n1) fun _=>cI (fun q=>Ey (En q).1 (no (En q).2) h3 (by split <;> assumption) n1) fun _=>Lf h1 h2 h3 tc (kH n1)
 refine cI (fun e=>?_) fun _=>?_
 . exact cI (fun _=>cI (fun _=>Ey Oo (no (by decide)) h3 t0 n1) fun _=>Lf SR (no (by decide)) h3 t1 (kH n1)) fun _=>cI (fun e=>Ey SQ (fun _=>⟨e.1,.inr e.2.2⟩) h3 t0 n1) fun _=>Ey h1 h2 h3 t1 n1
 refine cI (fun e=>?_) fun _=>?_
 . have he:=(h2 e).2
   have hs:nG cD/\cD≠92:=by
     rcases he with rfl|rfl
     . exact⟨Oo,by decide⟩
     . exact En (.tail _ (.head _))
   refine Ey hs.1 (no hs.2) h3 ?_ n1
   refine af aR ?_
   split
   . exact af aR h6
   . exact cg (Nat.add_le_add_left (by decide:1<=2) _) h6
 refine cI (fun e=>?_) fun _=>?_
 . exact cI (fun _=>Cg SR (no (by decide)) h3 t0 n1) fun _=>cI (fun _=>cI (fun _=>Cg SR (no (by decide)) hp.2 Yq n2) fun _=>Ey h1 h2 hp.2 Yq n2) fun _=>cI (fun _=>Ey h1 h2 h3 t1 n1) fun _=>⟨Lk h3 h6,Nat.add_le_add_left (by decide:1<=2) _⟩
 . exact cI (fun _=>Cg SR (no (by decide)) h3 t0 n1) fun _=>cI (fun _=>cI (fun _=>Cg SR (no (by decide)) hp.2 Yq n2) fun _=>Ey h1 h2 hp.2 Yq n2) fun _=>cI (fun q=>Ey (En q.2).1 (no (En q.2).2) h3 t0 n1) fun _=>
     cI (fun e=>Ey SQ (fun _=>⟨e.1,.inl rfl⟩) h3 t0 n1) fun _=>cI (fun _=>Ey h1 h2 h3 t1 n1) fun _=>zD ⟨Lk h3 h6,Nat.add_lt_add_left (by decide:1<2) _⟩
theorem aay{M W:List Nat}(h1:nG st)(h2:st=92->aa=true/\(cD=97\/cD=34))(h3:pos<=T.length)(h6:tok.length<=2*pos):Ob T aa (2*(T.length-pos)+2*0) (bY T M W aa ⟨st,tok,ln,pos,[],quoted,cD⟩ []):=by
 have hT:tok.length<=2*T.length:=cg h6 (Nat.mul_le_mul_left 2 h3)
 have hn:2*(T.length-pos)<=2*(T.length-pos)+2*0:=bC _
 have hz:Ob T aa (2*(T.length-pos)+2*0) (.brk ⟨0,tok,ln,pos,[],quoted,cD⟩):=Lf (.head _) (fun e=>(by cases e)) h3 h6 hn
 exact cI (fun _=>Lf h1 h2 h3 (dz _) hn) fun _=>cI (fun _=>hz) fun _=>cI (fun _=>hT) fun _=>cI (fun _=>hT) fun _=>cI (fun _=>hz) fun _=>hz
end
theorem NO{T M W:List Nat}{aa:Bool}{cs:List Nat}{s:RS}(h:aaM T aa cs s):Ob T aa (2*(T.length-s.pos)+2*cs.length) (bY T M W aa s cs):=by
 obtain⟨st,tok,ln,pos,pb,quoted,cD⟩:=s
 obtain⟨h1,h2,h3,h4,h5,h6⟩:=h
 dsimp only at h1 h2 h3 h4 h5 h6 |-
 subst h4
 cases cs with
 |nil=>exact aay h1 h2 h3 h6
 | cons c r=>cases r with
   |nil=>exact aax h1 h2 h3 h6
   |cons=>exact absurd h5 (by simp)
structure QS(aa:Bool)(s:RS):Prop where
 pb:s.pb=[]
 st:nG s.st/\s.st≠99
 cD:s.st=92->nG s.cD/\s.cD≠99
 full:s.st=97->fm aa s=true
structure BF(W:List Nat)(aa:Bool)(c:Nat):Prop where
 ws:c∉ [32,9,13,10]
 hash:c≠35
 cD:¬(aa=true/\c=92)
 word:c∉W
 quote:c∉ [39,34]
noncomputable def QO(W:List Nat)(aa:Bool):kh->Prop
 | .go s=>QS aa s
 | .brk s=>∀c∈s.pb,BF W aa c
 | .exc _ _=>True
theorem jh{W:List Nat}{aa:Bool}{c:Prop}[Decidable c]{a b:kh}(ha:c->QO W aa a)(hb:¬c->QO W aa b):QO W aa (if c then a else b):=by
 by_cases h:c
 . exact af (if_pos h) (ha h)
 . exact af (if_neg h) (hb h)
theorem EC{W:List Nat}{aa b:Bool}{s:RS}(h:QS aa s):QO W aa (fG b s):=by
 cases b with
 |true=>intro c hc; rw[h.pb]at hc; exact nomatch hc
 |false=>exact h
theorem Cn{W:List Nat}{aa:Bool}{s:RS}(h:s.pb=[]):QO W aa (.brk s):=fun c hc=>by rw[h]at hc; exact nomatch hc
theorem Dh{aa:Bool}{st ln pos cD:Nat}{tok pb:List Nat}{quoted:Bool}{x:List Nat}(h:x≠ []):fm aa ⟨st,tok++x,ln,pos,pb,quoted,cD⟩=true:=by
 unfold fm
 cases e:tok++x with
 |nil=>exact absurd (List.append_eq_nil_iff.mp e).2 h
 |cons=>rfl
theorem Sl{T W:List Nat}{aa:Bool}{cs:List Nat}{s:RS}(h:QS aa s):QO W aa (bY T [] W aa s cs):=by
 obtain⟨st,tok,ln,pos,pb,quoted,cD⟩:=s
 obtain⟨h1,h2,h4,h3⟩:=h
 dsimp only at h1 h2 h3 h4
 subst h1
 have SR:nG 32/\(32:Nat)≠99:=⟨.tail _ (.head _),by decide⟩
 have Oo:nG 97/\(97:Nat)≠99:=⟨.tail _ (.tail _ (.head _)),by decide⟩
 have SQ:nG 92/\(92:Nat)≠99:=⟨.tail _ (.tail _ (.tail _ (.tail _ (.tail _ (.tail _ (.head _)))))),by decide⟩
 have sq:∀ {c:Nat},c∈ [39,34]->(nG c/\c≠99)/\c≠97/\c≠92:=fun {c} h=>by
   rcases aB.mp h with rfl|h
   . exact⟨⟨(En (.head _)).1,by decide⟩,by decide,by decide⟩
   . obtain rfl:=aY.mp h
     exact⟨⟨(En (.tail _ (.head _))).1,by decide⟩,by decide,by decide⟩
 have no:∀ {fE:Nat} {O7:List Nat} {ZM pos' WW:Nat} {q':Bool},(nG fE/\fE≠99)->fE≠97->(fE=92->nG WW/\WW≠99)->QS aa ⟨fE,O7,ZM,pos',[],q',WW⟩:=fun a b c=>⟨rfl,a,c,fun e=>absurd e b⟩
 refine jh (fun _=>Cn rfl) fun a0=>?_
 refine jh (fun e=>?_) fun a1=>?_
 . have e:st=32:=e
   subst e
   cases cs with
   |nil=>exact Cn rfl
   | cons c r=>
     have hs:∀ {ZM pos':Nat},QS aa ⟨32,tok,ZM,pos',[],quoted,cD⟩:=no SR (by decide) (fun e=>by cases e)
     exact jh (fun _=>EC hs) fun _=>jh (fun _=>hs) fun _=>jh (fun _=>no SQ (by decide) (fun _=>Oo)) fun _=>jh (fun _=>⟨rfl,Oo,(fun e=>by cases e),fun _=>rfl⟩) fun _=>jh (fun hm=>nomatch hm) fun _=>
       jh (fun hq=>no (sq hq).1 (sq hq).2.1 (fun e=>absurd e (sq hq).2.2)) fun _=>Cn rfl
 refine jh (fun e=>?_) fun a2=>?_
 . have e:st=39\/st=34:=e
   have hq:st∈ [39,34]:=by rcases e with rfl|rfl <;> simp
   cases cs with
   |nil=>trivial
   | cons c r=>
     refine jh (fun _=>jh (fun hp=>⟨rfl,Oo,(fun e=>by cases e),fun _=>by unfold fm; refine af hp ?_; exact Bool.or_true _⟩) fun _=>Cn rfl) fun _=>jh (fun _=>no SQ (by decide) (fun _=>(sq hq).1)) fun _=>no (sq hq).1 (sq hq).2.1 (fun e=>absurd e (sq hq).2.2)
 refine jh (fun e=>?_) fun a3=>?_
 . have e:st=92:=e
   have he:=h4 e
   cases cs with
   |nil=>trivial
   |cons c r=>exact⟨rfl,he,(fun e'=>by have e':cD=92:=e'; refine af e' ?_; exact SQ),fun _=>Dh (by simp)⟩
 refine jh (fun e=>absurd e h2.2) fun a4=>?_
 . have e97:st=97:=SN h2.1 a0 a1 (fun e=>a2 (.inl e)) (fun e=>a2 (.inr e)) a3 a4
   subst e97
   have hf:=h3 rfl
   cases cs with
   |nil=>exact Cn rfl
   | cons c r=>
     have hs:∀ {ZM pos':Nat},QS aa ⟨32,tok,ZM,pos',[],quoted,cD⟩:=no SR (by decide) (fun e=>by cases e)
     refine jh (fun _=>EC hs) fun b1=>jh (fun _=>jh (fun _=>EC hs) fun _=>⟨rfl,Oo,(fun e=>by cases e),h3⟩) fun b2=>jh (fun hq=>no (sq hq.2).1 (sq hq.2).2.1 (fun e=>absurd e (sq hq.2).2.2)) fun b3=>jh (fun _=>no SQ (by decide) (fun _=>Oo)) fun b4=>
       jh (fun _=>⟨rfl,Oo,(fun e=>by cases e),fun _=>Dh (by simp)⟩) fun b5=>?_
     refine af hf ?_
     intro d hd
     have hd:d∈ [c]:=hd
     obtain rfl:=aY.mp hd
     exact⟨b1,b2,b4,fun h=>b5 (.inl h),fun h=>b5 (.inr h)⟩
theorem Kg{T W:List Nat}{aa:Bool}{s:RS}(h:QS aa s):QO W aa (fB T [] W aa s):=by
 unfold fB
 refine Sl ?_
 have e:(nextIn T s).2.st=s.st/\(nextIn T s).2.cD=s.cD/\(nextIn T s).2.tok=s.tok/\(nextIn T s).2.quoted=s.quoted/\(nextIn T s).2.pb=[]:=by
   unfold nextIn
   exact af h.pb ⟨rfl,rfl,rfl,rfl,rfl⟩
 refine om e fun e1 e2 e3 e4 e5=>?_
 have hl:∀cs (s:RS),(dm cs s).st=s.st/\(dm cs s).cD=s.cD/\(dm cs s).tok=s.tok/\(dm cs s).quoted=s.quoted/\(dm cs s).pb=s.pb:=by
   intro cs s; unfold dm; split <;> exact⟨rfl,rfl,rfl,rfl,rfl⟩
 refine om (hl (nextIn T s).1 (nextIn T s).2) fun f1 f2 f3 f4 f5=>?_
 refine⟨f5.trans e5,?_,?_,?_⟩
 . exact af f1 (af e1 h.st)
 . exact af f1 (af e1 (af f2 (af e2 h.cD)))
 . unfold fm
   exact af f1 (af e1 (af f3 (af e3 (af f4 (af e4 h.full)))))
theorem L4{T W:List Nat}{aa:Bool}:∀n s s',QS aa s->rdLoop T [] W aa n s=some (.brk s')->∀c∈s'.pb,BF W aa c
 |0,_,_,_,h=>nn h
 | n+1,s,s',hs,h=>by
   have ht:=Kg (T:=T) (W:=W) hs
   unfold rdLoop at h
   cases e:fB T [] W aa s with
   |go s₁=>rw[e]at h ht; exact L4 n s₁ s' ht h
   |brk s₁=>rw[e]at h ht; cases h; exact ht
   |exc k s₁=>rw[e]at h; cases h
theorem PT(P:LP)(L:Addr)(cd:Value)(st tok ps:V)(ln:Int)(iV:List Nat)(nc cD:Str)(quoted:Bool):jx (rI P) (rE L cd) 80 ⟨st,tok,.int ln,ps,iV⟩ [("nextchar",.str nc),("quoted",.bool quoted),("escapedstate",.str cD)] (gK (aC rW) 1)=
 bif bw nc "\n" then some (⟨st,tok,.int (ln+1),ps,iV⟩,[(aj "nextchar",.str nc),(aj "quoted",.bool quoted),(aj "escapedstate",.str cD)],.next)
 else some (⟨st,tok,.int ln,ps,iV⟩,[(aj "nextchar",.str nc),(aj "quoted",.bool quoted),(aj "escapedstate",.str cD)],.next):=by kernel_rfl
theorem Le(P:LP)(L:Addr)(cd:Value)(o:LO)(ρ:Loc):jx (rI P) (rE L cd) 80 o ρ (gK (aC rW) 2)=some (o,ρ,.next):=by kernel_rfl
theorem J5:aC rW=[gK (aC rW) 0,gK (aC rW) 1,gK (aC rW) 2,gK (aC rW) 3]:=by kernel_rfl
section
variable {Pm:aD}
noncomputable def Ol(ai:cB)(w:World)(A:cy)(C:Cx LO)(env:Env)(X:Nat->Led->ak->(Value->ak->Prop)->Prop)(o:LO)(ρ:Loc)(b:List Stmt):kh->Prop
 | .go s=>∃ρ' fl,(fl= .next\/fl= .cont)/\gy ai w A C env X o ρ b (bT s,ρ',fl)/\sle (rB s) ρ'
 | .brk s=>∃ρ',gy ai w A C env X o ρ b (bT s,ρ',.brk)/\sle (rB s) ρ'
 | .exc k s=>∃ρ',gy ai w A C env X o ρ b (bT s,ρ',.exc k)
theorem Ol.before{C:Cx LO}{o nv:LO}(h:Ol ai w A C env X nv jm acF x)(f:∀r,gy ai w A C env X nv jm acF r->gy ai w A C env X o ρ b r):Ol ai w A C env X o ρ b x:=by
 cases x with
 |go s=>obtain⟨ρ',fl,h1,h2,h3⟩:=h; exact⟨ρ',fl,h1,f _ h2,h3⟩
 |brk s=>obtain⟨ρ',h2,h3⟩:=h; exact⟨ρ',f _ h2,h3⟩
 |exc k s=>obtain⟨ρ',h2⟩:=h; exact⟨ρ',f _ h2⟩
theorem CJ{C:Cx LO}(hC:C.Rep=bK P)(hT:P.T.length<=300)(hM:P.M.length<=100)(R:cH (eG Pm) p az aL mg mb A₀ base av A (rE C.L cd) C.h₀ C.L (d+4))(bF:C.refs=[((aj "self"),.ref P.lx)]){s:RS}(hs:pC P.T P.aa s)(hQ:P.M=[]->QS P.aa s):
   Ol ai w A C (rE C.L cd) (XF base C.h₀ av (rE C.L cd) C.L) (bT s) (rB s) (aC rW) (fB P.T P.M P.W P.aa s):=by
 have IK:=uI (ai:=ai) (w:=w) hC hT R bF
 refine Az (zM hs) fun hm vG Wl _=>?_
 have hsm:Small P s:=⟨by have:=hs.tok; have:=hs.pos; lia,hM,fun e C7=>(hQ C7).st.2 e,fun C7=>(hQ C7).pb,hs.pos,by have:=hs.pb; lia⟩
 have h0:=IE (ai:=ai) (w:=w) hC hT R bF hsm hs.pb (ρ:=rB s)
 unfold fB
 have Rv:(nextIn P.T s).2.quoted=s.quoted/\(nextIn P.T s).2.cD=s.cD:=by
   unfold nextIn; split <;> exact⟨rfl,rfl⟩
 generalize hn:nextIn P.T s=n at*
 obtain⟨cs,s1⟩:=n
 simp only at h0 Rv hm vG |-
 have hl:cK ai w A C (rE C.L cd) (XF base C.h₀ av (rE C.L cd) C.L) (bT s1) (rC cs s) (gK (aC rW) 1) (bT (dm cs s1),rC cs (dm cs s1),.next):=by
   have h1:=PT P C.L cd (vn s1.st) (.str (S s1.tok)) (.int (s1.pos:Int)) s1.ln s1.pb (S cs) (S [s1.cD]) s1.quoted
   rw[S6,g7]at h1
   unfold dm
   rw[Rv.1,Rv.2]at h1
   by_cases e:cs=[10]
   . refine af (if_pos e) ?_
     simp only[show(cs== [10])=true by simp[e],cond_true]at h1
     have:=dN IK h1
     have e2:rC cs { s1 with ln:=s1.ln+1 }=rC cs s:=by show [_,_,_]=[_,_,_]; (refine af Rv.1 (af Rv.2 ?_); rfl)
     exact af e2 this
   . refine af (if_neg e) ?_
     simp only[show(cs== [10])=false by simp[e],cond_false]at h1
     have e2:rC cs s1=rC cs s:=by show [_,_,_]=[_,_,_]; (refine af Rv.1 (af Rv.2 ?_); rfl)
     exact af e2 (dN IK h1)
 have h2:cK ai w A C (rE C.L cd) (XF base C.h₀ av (rE C.L cd) C.L) (bT (dm cs s1)) (rC cs (dm cs s1)) (gK (aC rW) 2) (bT (dm cs s1),rC cs (dm cs s1),.next):=dN IK (Le P C.L cd _ _)
 have abP:(dm cs s1).st=s.st:=by unfold dm; split <;> exact vG
 have abR:Small P (dm cs s1):=⟨by have:=hm.tok; have:=hm.pos; lia,hM,fun e C7=>(hQ C7).st.2 (abP▸e),fun _=>hm.pb,hm.pos,by refine af hm.pb ?_; simp⟩
 have h3:=Jp P C.L cd abR ⟨hm.st,hm.cD⟩ cs hm.one
 have key:Ol ai w A C (rE C.L cd) (XF base C.h₀ av (rE C.L cd) C.L) (bT (dm cs s1)) (rC cs (dm cs s1)) [gK (aC rW) 3] (bY P.T P.M P.W P.aa (dm cs s1) cs):=by
   revert h3
   cases bY P.T P.M P.W P.aa (dm cs s1) cs with
   |go s'=>rintro⟨ρ',fl,h1,h2,h3⟩; exact⟨ρ',fl,h1,j9 (dN IK h2),h3⟩
   |brk s'=>rintro⟨ρ',h2,h3⟩; exact⟨ρ',j9 (dN IK h2),h3⟩
   |exc k s'=>rintro⟨ρ',h2⟩; exact⟨ρ',j9 (dN IK h2)⟩
 exact af J5 (key.before fun r hr=>aQ h0 (aQ hl (aQ h2 hr)))
end
theorem abC{n p:Nat}(h:p<n)(q:Nat):2*(n-(p+1))+2*1<=2*(n-p)+q:=by
 refine cE (Nat.exists_eq_add_of_lt h) fun d fj=>?_
 subst fj
 (rewrite [Nat.add_assoc,Nat.add_sub_cancel_left]; refine af (Nat.add_comm d 1) ?_; rewrite [<-Nat.add_assoc,Nat.add_sub_cancel_left,<-Nat.mul_add]; refine af (Nat.add_comm d 1) ?_)
 exact ni _ _
theorem EL{T:List Nat}{s:RS}(h:s.pb=[])(hp:s.pos<=T.length):2*(T.length-(nextIn T s).2.pos)+2*(nextIn T s).1.length<=mw T s:=by
 unfold mw
 by_cases hk:s.pos<T.length
 . have e1:nextIn T s=([T[s.pos]],{ s with pos:=s.pos+1 }):=by unfold nextIn iw; refine af h ?_; simp only[dif_pos hk]
   exact af e1 (abC hk _)
 . have e1:nextIn T s=([],s):=by unfold nextIn iw; refine af h ?_; simp only[dif_neg hk]; (refine af h.symm ?_; rfl)
   exact af e1 (ni _ _)
noncomputable def kh.all(P Q:RS->Prop):kh->Prop
 | .go s=>P s
 | .brk s=>Q s
 | .exc _ _=>True
section
variable {P Q:RS->Prop}
theorem fc{p:Prop}[Decidable p]{x y:kh}(h1:p->x.all P Q)(h2:¬p->y.all P Q):(if p then x else y).all P Q:=by
 by_cases h:p
 . exact af (if_pos h) (h1 h)
 . exact af (if_neg h) (h2 h)
theorem qt{b:Bool}{s:RS}(h1:P s)(h2:Q s):(fG b s).all P Q:=fc (fun _=>h2) fun _=>h1
theorem Lj{T M W:List Nat}{aa:Bool}{s:RS}{cs:List Nat}(h0:Q { s with st:=0 })(h1:Q s)(hb:∀t,Q { s with tok:=t })(hg:∀s':RS,s.pos<=s'.pos\/s'.pos=bJ T s.pos->s'.pb=s.pb->P s'):(jA T M W aa s cs).all P Q:=by
 cases cs with
 |nil=>exact h0
 |cons c r=>exact fc (fun _=>qt (hg _ (.inl (bC _)) rfl) h1) fun _=>fc (fun _=>hg _ (.inr rfl) rfl) fun _=>fc (fun _=>hg _ (.inl (bC _)) rfl) fun _=>fc (fun _=>hg _ (.inl (bC _)) rfl) fun _=>fc (fun _=>hg _ (.inl (bC _)) rfl) fun _=>fc (fun _=>hg _ (.inl (bC _)) rfl) fun _=>hb _
theorem Li{aa:Bool}{s:RS}{cs:List Nat}(hp:∀s,P s)(hq:∀s,s.st=32->Q s):(kN aa s cs).all P Q:=by
 cases cs with
 |nil=>exact trivial
 |cons c r=>exact fc (fun _=>fc (fun _=>hp _) fun _=>hq _ rfl) fun _=>fc (fun _=>hp _) fun _=>hp _
theorem UW{T M:List Nat}{aa:Bool}{s:RS}{cs:List Nat}(hp:∀s,P s)(hq:∀s,s.st=0\/s.st=32->Q s):(oH T M aa s cs).all P Q:=by
 cases cs with
 |nil=>exact hq _ (.inl rfl)
 |cons c r=>exact fc (fun _=>qt (hp _) (hq _ (.inr rfl))) fun _=>fc (fun _=>fc (fun _=>qt (hp _) (hq _ (.inr rfl))) fun _=>hp _) fun _=>fc (fun _=>hp _) fun _=>hq _ (.inr rfl)
theorem PW{T W:List Nat}{aa:Bool}{s:RS}{cs:List Nat}(hp:∀s,P s)(hq:∀s,s.st=0\/s.st=32->Q s):(jz T W aa s cs).all P Q:=by
 cases cs with
 |nil=>exact hq _ (.inl rfl)
 |cons c r=>exact fc (fun _=>qt (hp _) (hq _ (.inr rfl))) fun _=>fc (fun _=>fc (fun _=>qt (hp _) (hq _ (.inr rfl))) fun _=>hp _) fun _=>fc (fun _=>hp _) fun _=>fc (fun _=>hp _) fun _=>fc (fun _=>hp _) fun _=>qt (hp _) (hq _ (.inr rfl))
end
theorem Jq{T M W:List Nat}{aa:Bool}{s s':RS}{cs:List Nat}(h:bY T M W aa s cs= .brk s'):s'.st=0\/s'.st=32:=by
 have:(bY T M W aa s cs).all (fun _=>True) (fun s'=>s'.st=0\/s'.st=32):=fc (fun e=>.inl e) fun _=>fc (fun e=>Lj (.inl rfl) (.inr e) (fun _=>.inr e) fun _ _ _=>trivial) fun _=>fc (fun _=>Li (fun _=>trivial) fun _=>.inr) fun _=>fc (fun _=>by cases cs <;> exact trivial) fun _=>fc (fun _=>UW (fun _=>trivial) fun _=>id) fun _=>PW (fun _=>trivial) fun _=>id
 rw[h]at this; exact this
theorem LG{T M W:List Nat}{aa:Bool}{s s':RS}{cs:List Nat}(vY:s.st=32)(hp:s.pb=[])(Rx:s.pos<=T.length)(h:bY T M W aa s cs= .go s'):mw T s'<=2*(T.length-s.pos):=by
 have key:(jA T M W aa s cs).all (fun s'=>mw T s'<=2*(T.length-s.pos)) fun _=>True:=Lj trivial trivial (fun _=>trivial) fun s' h1 h2=>by
   unfold mw
   exact af h2 (af hp (Nat.mul_le_mul_left 2 (Nat.sub_le_sub_left (h1.elim id fun e=>e▸(vz Rx).1) _)))
 unfold bY at h
 rw[if_neg (by refine af vY ?_; decide),if_pos vY]at h
 rw[h]at key; exact key
theorem wc{T M W:List Nat}{aa:Bool}{s:RS}(h:pC T aa s):match fB T M W aa s with
   | .go s'=>pC T aa s'/\mw T s'<mw T s
   | .brk s'=>pC T aa s'
   | .exc _ s'=>True:=by
 refine Az (zM h) fun hm vG Wl hb=>?_
 have hk:=NO (M:=M) (W:=W) hm
 have Rx:(dm (nextIn T s).1 (nextIn T s).2).pos=(nextIn T s).2.pos:=by unfold dm; split <;> rfl
 have abQ:(dm (nextIn T s).1 (nextIn T s).2).st=s.st:=by unfold dm; split <;> exact vG
 unfold fB
 cases e:bY T M W aa (dm (nextIn T s).1 (nextIn T s).2) (nextIn T s).1 with
 | go s'=>
   rw[e]at hk
   refine⟨hk.1,?_⟩
   by_cases Rz:s.pb=[]
   . have:=EL Rz h.pos
     have:=hk.2
     rw[Rx]at this
     lia
   . have vY:=h.iV Rz
     have:=LG (af abQ vY) hm.pb hm.pos e
     rw[Rx]at this
     have gh:(nextIn T s).1.length=1:=by
       cases q:s.pb with
       |nil=>exact absurd q Rz
       |cons c r=>unfold nextIn; exact af q rfl
     lia
 |brk s'=>rw[e]at hk; exact hk.1
 |exc k s'=>trivial
theorem tC{T M W:List Nat}{aa:Bool}:∀n s,pC T aa s->mw T s<n->∃x,rdLoop T M W aa n s=some x
 |0,_,_,h=>by lia
 | n+1,s,h,hm=>by
   have ht:=wc (M:=M) (W:=W) h
   unfold rdLoop
   cases e:fB T M W aa s with
   |go s'=>rw[e]at ht; exact tC n s' ht.1 (by have:=ht.2; lia)
   |brk s'=>exact⟨_,rfl⟩
   |exc k s'=>exact⟨_,rfl⟩
theorem PX:cJ rW= .Constant (.bool true) 0 ⟨570,14,570,18⟩:=by kernel_rfl
section
variable {Pm:aD}
noncomputable def acM(ai:cB)(w:World)(A:cy)(C:Cx LO)(env:Env)(X:Nat->Led->ak->(Value->ak->Prop)->Prop)(T:List Nat)(aa:Bool)(s:RS):kh->Prop
 | .go _=>False
 | .brk s'=>pC T aa s'/\∃N ρ',nC ai w A C env X (cJ rW) (aC rW) (bT s',ρ',.next) N (bT s) (rB s)/\sle (rB s') ρ'
 | .exc k s'=>∃N ρ',nC ai w A C env X (cJ rW) (aC rW) (bT s',ρ',.exc k) N (bT s) (rB s)
theorem CL{C:Cx LO}{P:LP}(hC:C.Rep=bK P)(hT:P.T.length<=300)(hM:P.M.length<=100)(R:cH (eG Pm) p az aL mg mb A₀ base av A (rE C.L cd) C.h₀ C.L (d+4))(bF:C.refs=[((aj "self"),.ref P.lx)]):
   ∀n s x,pC P.T P.aa s->(P.M=[]->QS P.aa s)->rdLoop P.T P.M P.W P.aa n s=some x->acM ai w A C (rE C.L cd) (XF base C.h₀ av (rE C.L cd) C.L) P.T P.aa s x
 |0,s,x,_,_,h=>by exact nn h
 | n +1,s,x,hs,hQ,h=>by
   have IK:=uI (ai:=ai) (w:=w) hC hT R bF
   have ht:∀o ρ,gi ai w A C o (rE C.L cd) ρ (cJ rW) true:=fun o ρ=>by
     exact af PX (jr (fq rfl) rfl rfl)
   have jC:=CJ (ai:=ai) (w:=w) hC hT hM R bF hs hQ
   have htq:P.M=[]->QO P.W P.aa (fB P.T P.M P.W P.aa s):=fun e=>by
     have:=Kg (T:=P.T) (W:=P.W) (hQ e)
     rwa[<-e]at this
   have MQ:=wc (M:=P.M) (W:=P.W) hs
   unfold rdLoop at h
   cases e:fB P.T P.M P.W P.aa s with
   | go s'=>
     rw[e]at h jC MQ htq
     have ih:=CL hC hT hM R bF n s' x MQ.1 htq h
     refine fS jC fun jm fl hf hb XE=>?_
     cases x with
     |go=>exact ih
     |brk aX=>obtain⟨i1,N,ρ',i2,i3⟩:=ih; exact⟨i1,N+1,ρ',.more (ht _ _) hb hf XE i2,i3⟩
     |exc k aX=>obtain⟨N,ρ',i2⟩:=ih; exact⟨N+1,ρ',.more (ht _ _) hb hf XE i2⟩
   | brk s'=>
     rw[e]at h jC MQ
     obtain rfl:=sj h
     refine au jC fun jm hb XE=>?_
     exact⟨MQ,1,jm,.inr ⟨_,_,.brk,ht _ _,hb,rfl⟩,XE⟩
   | exc k s'=>
     rw[e]at h jC
     obtain rfl:=sj h
     refine cE jC fun jm hb=>?_
     exact⟨1,jm,.inr ⟨_,_,.exc k,ht _ _,hb,rfl⟩⟩
end
section
set_option tactic.hygienic true
theorem PR(P:LP)(L:Addr)(cd:Value)(st ps ln:V)(tok cD:Str)(iV:List Nat)(quoted:Bool):d7 bE (rI P) (rE L cd) none 80 ⟨st,.str tok,ln,ps,iV⟩ [("quoted",.bool quoted),("escapedstate",.str cD)] ((aC (bO 19 6)).drop 3) (fun o _ fl=>some (o,fl))=
 bif P.aa then
   bif !quoted then bif bw tok "" then some (⟨st,.str "",ln,ps,iV⟩,.ret .none)else some (⟨st,.str "",ln,ps,iV⟩,.ret (.str tok))
   else some (⟨st,.str "",ln,ps,iV⟩,.ret (.str tok))
 else some (⟨st,.str "",ln,ps,iV⟩,.ret (.str tok)):=by kernel_rfl
noncomputable def pq(aa:Bool)(s:RS):V:=if aa=true/\s.quoted=false/\s.tok=[]then .none else .str (S s.tok)
theorem EB(P:LP)(L:Addr)(cd:Value)(s:RS):d7 bE (rI P) (rE L cd) none 80 (bT s) (rB s) ((aC (bO 19 6)).drop 3) (fun o _ fl=>some (o,fl))=some (bT { s with tok:=[] },.ret (pq P.aa s)):=by
 have h:=PR P L cd (vn s.st) (.int (s.pos:Int)) (.int (s.ln:Int)) (S s.tok) (S [s.cD]) s.pb s.quoted
 rw[dR,g7]at h
 refine h.trans ?_
 unfold pq
 cases P.aa with
 |false=>rw[if_neg (fun q=>by cases q.1)]; rfl
 | true=>
   cases s.quoted with
   |true=>rw[if_neg (fun q=>by cases q.2.1)]; rfl
   | false=>
     by_cases e:s.tok=[]
     . refine af (if_pos ⟨rfl,rfl,e⟩) ?_; simp only[Bool.not_false,cond_true,e]; rfl
     . refine af (if_neg (fun q=>e q.2.2)) ?_; simp only[Bool.not_false,cond_true,show(s.tok== [])=false by simpa using e,cond_false]; rfl
theorem SV(P:LP)(L:Addr)(cd:Value)(o:LO):jx (rI P) (rE L cd) 80 o [] (gK (aC (bO 19 6)) 0)=some (o,[(aj "quoted",.bool false)],.next):=by kernel_rfl
theorem SS(P:LP)(L:Addr)(cd:Value)(o:LO):jx (rI P) (rE L cd) 80 o [(aj "quoted",.bool false)] (gK (aC (bO 19 6)) 1)=some (o,[(aj "escapedstate",.str " "),(aj "quoted",.bool false)],.next):=by kernel_rfl
theorem PU:∃pos,aC (bO 19 6)=gK (aC (bO 19 6)) 0::gK (aC (bO 19 6)) 1:: .While (cJ rW) (aC rW) [] pos::(aC (bO 19 6)).drop 3:=⟨⟨570,8,692,32⟩,by kernel_rfl⟩
inductive N8 where
 |tok (v:V) (s:RS)
 |exc (k:Nat) (s:RS)
noncomputable def tokOf(aa:Bool):kh->Option N8
 | .brk s'=>some (.tok (pq aa s') { s' with tok:=[] })
 | .exc k s'=>some (.exc k s')
 | .go _=>none
noncomputable def dO(T M W:List Nat)(aa:Bool)(s:RS):Option N8:=opt (rdLoop T M W aa (2*T.length+10) { s with quoted:=false,cD:=32 }) (tokOf aa) none
theorem kK{T M W:List Nat}{aa:Bool}{s s':RS}{d:V}(h:dO T M W aa s=some (.tok d s')):∃aX,rdLoop T M W aa (2*T.length+10) { s with quoted:=false,cD:=32 }=some (.brk aX)/\d=pq aa aX/\s'= { aX with tok:=[] }:=
 au (aq h) fun x h1 h2=>by
   cases x with
   |brk aX=>cases h2; exact⟨aX,h1,rfl,rfl⟩
   |exc=>cases h2
   |go=>exact nn h2
theorem vv{T M W:List Nat}{aa:Bool}{s s':RS}{k:Nat}(h:dO T M W aa s=some (.exc k s')):rdLoop T M W aa (2*T.length+10) { s with quoted:=false,cD:=32 }=some (.exc k s'):=
 au (aq h) fun x h1 h2=>by
   cases x with
   |brk=>cases h2
   |exc=>cases h2; exact h1
   |go=>exact nn h2
structure oY(T:List Nat)(s:RS):Prop where
 st:s.st=0\/s.st=32
 pos:s.pos<=T.length
 pb:s.pb.length<=1
 iV:s.pb≠ []->s.st=32
 le:s.pb.length<=s.pos
 tok:s.tok=[]
theorem oY.inv{T:List Nat}{aa:Bool}{s:RS}(h:oY T s):pC T aa { s with quoted:=false,cD:=32 }:=by
 refine⟨?_,?_,h.pos,h.pb,h.iV,?_⟩
 . show s.st∈_
   rcases h.st with e|e <;> refine af e ?_ <;> simp
 . intro e
   have e:s.st=92:=e
   rcases h.st with q|q <;> rw[q]at e <;> cases e
 . show s.tok.length+2*s.pb.length<=2*s.pos
   refine af h.tok ?_; have:=h.le; simp; lia
theorem oY.qs{T:List Nat}{aa:Bool}{s:RS}(h:oY T s)(hp:s.pb=[]):QS aa { s with quoted:=false,cD:=32 }:=by
 refine⟨hp,?_,fun e=>?_,fun e=>?_⟩
 . show nG s.st/\s.st≠99
   rcases h.st with e|e <;> refine af e ?_
   . exact⟨.head _,by decide⟩
   . exact⟨.tail _ (.head _),by decide⟩
 . have e:s.st=92:=e
   rcases h.st with q|q <;> rw[q]at e <;> cases e
 . have e:s.st=97:=e
   rcases h.st with q|q <;> rw[q]at e <;> cases e
theorem xD{T M W:List Nat}{aa:Bool}:∀n s s',rdLoop T M W aa n s=some (.brk s')->s'.st=0\/s'.st=32
 |0,_,_,h=>by exact nn h
 | n+1,s,s',h=>by
   unfold rdLoop at h
   cases e:fB T M W aa s with
   |go aX=>rw[e]at h; exact xD n aX s' h
   |brk aX=>rw[e]at h; cases h; exact Jq e
   |exc k aX=>rw[e]at h; cases h
theorem xC{T M W:List Nat}{aa:Bool}:∀n s s',pC T aa s->rdLoop T M W aa n s=some (.brk s')->pC T aa s'
 |0,_,_,_,h=>by exact nn h
 | n+1,s,s',hs,h=>by
   have ht:=wc (M:=M) (W:=W) hs
   unfold rdLoop at h
   cases e:fB T M W aa s with
   |go aX=>rw[e]at h ht; exact xC n aX s' ht.1 h
   |brk aX=>rw[e]at h ht; cases h; exact ht
   |exc k aX=>rw[e]at h; cases h
theorem vt{T M W:List Nat}{aa:Bool}{s s':RS}(hs:oY T s)(h:dO T M W aa s=some (.tok v s')):oY T s':=by
 refine nD (kK h) fun aX e _ e2=>?_
 have h1:=xC _ _ _ (hs.inv) e
 have h2:=xD _ _ _ e
 exact af e2 ⟨h2,h1.pos,h1.pb,h1.iV,by show aX.pb.length<=aX.pos; have:=h1.tok; lia,rfl⟩
theorem ry{T M W:List Nat}{aa:Bool}{s:RS}(hs:oY T s):∃x,dO T M W aa s=some x:=by
 have hm:mw T { s with quoted:=false,cD:=32 }<2*T.length+10:=by
   show 2*(T.length-s.pos)+s.pb.length<_
   have:=hs.pb; lia
 refine cE (tC (M:=M) (W:=W) _ _ (hs.inv (aa:=aa)) hm) fun x hx=>?_
 unfold dO
 refine af hx ?_
 cases x with
 | go s'=>
   exfalso
   have:∀n s s',rdLoop T M W aa n s≠some (.go s'):=by
     intro n
     induction n with
     |zero=>intro s s' h; exact nn h
     | succ n ih=>
       intro s s' h
       unfold rdLoop at h
       cases e:fB T M W aa s with
       |go aX=>rw[e]at h; exact ih aX s' h
       |brk aX=>rw[e]at h; cases h
       |exc k aX=>rw[e]at h; cases h
   exact this _ _ _ hx
 |brk s'=>exact⟨_,rfl⟩
 |exc k s'=>exact⟨_,rfl⟩
section
variable {Pm:aD}
noncomputable def YM(x:N8)(o':LO)(fl:Fl):Prop:=match x with
 | .tok d s'=>o'=bT s'/\fl= .ret d
 | .exc k s'=>o'=bT s'/\fl= .exc k
theorem vU{C:Cx LO}(hC:C.Rep=bK P)(hT:P.T.length<=300)(hM:P.M.length<=100)(R:cH (eG Pm) p az aL mg mb A₀ base av A env C.h₀ C.L (d+5)){s:RS}(hs:oY P.T s)(Rz:P.M=[]->s.pb=[])(hx:dO P.T P.M P.W P.aa s=some x){st:ak}(h:At C (bT s) ρ fz st)(hq:∀aT fE v d s',x= .tok d s'->Sub fz aT->At C (bT s') ρ aT fE->VR aT d v->Q v fE)(tT:∀aT fE e k s',x= .exc k s'->Sub fz aT->ExcAt C base (env::av) (bT s') ρ aT k e fE->E (.ref e) fE):wpAny (model ai w) A (call (.ref 690) [.ref P.lx]) Q E st:=by
 refine gk ?_
 refine NQ (Res:=YM x) R h (name:="read_token") (qual:="shlex.read_token") (params:=nU (bO 19 6)) (body:=aC (bO 19 6)) (scope:=aF (bO 19 6)) (dV:=.none) (kV:=.none) (doc:=.none) (pm:=.str "cpy313.shlex" 1001) (cdv:=.ref 689) (ct:=.none) (oc:=.type "function") (an:=none) (od:=none) (osl:= #[]) (binds:=[("self",.ref P.lx)])
   (by kernel_rfl) (by kernel_rfl) (iN (by kernel_rfl)) (by intro y hy; simp only[aY]at hy; subst hy; kernel_rfl) (by kernel_rfl) (by kernel_rfl) (by kernel_rfl) (by decide +kernel) (ρ':=[]) (refs':=[("self",.ref P.lx)]) (fun _ _ hx=>by exact nn hx) (fun q hq=>by simp only[aY]at hq; subst hq; rfl)
   (fun g L' R'=>?_) (fun aT s' o' d v hr sb hA hv=>?_) fun aT s' o' k e hr sb hE=>?_
 . have IK:=uI (ai:=ai) (w:=w) (C:=aV C g L' [("self",.ref P.lx)]) (P:=P) hC hT R' rfl
   have Tq:=CL (ai:=ai) (w:=w) (C:=aV C g L' [("self",.ref P.lx)]) (P:=P) hC hT hM R' rfl (2*P.T.length+10) { s with quoted:=false,cD:=32 }
   have hQ:P.M=[]->QS P.aa { s with quoted:=false,cD:=32 }:=fun e=>hs.qs (Rz e)
   have hX:=Sw (M:=model ai w) R'.B (env:=rE L' (.ref 689)) rfl R'.hk
   refine cE PU fun pos o7=>?_
   cases x with
   | tok d s'=>
     refine nD (kK hx) fun aX e e1 e2=>?_
     refine bx (Tq _ hs.inv hQ e) fun _ t=>?_
     refine gB t fun N ρ' hw XE=>?_
     have hwh:=qk (p:=pos) hX hw
     refine cE (Sn IK (EB P L' (.ref 689) aX)) fun XW hb=>?_
     refine⟨(_,XW,_),?_,⟨congrArg bT e2.symm,congrArg Fl.ret e1.symm⟩,.inl ⟨_,rfl⟩⟩
     exact af o7 (aQ (dN IK (SV P L' (.ref 689) (bT s))) (aQ (dN IK (SS P L' (.ref 689) (bT s))) (ia (ρ':=rB { s with quoted:=false,cD:=32 }) (aQ hwh (ia hb XE)) ⟨rfl,af zT.symm rfl,trivial⟩)))
   | exc k s'=>
     refine OC (Tq _ hs.inv hQ (vv hx)) fun N ρ' hw=>?_
     have hwh:=qk (p:=pos) hX hw
     refine⟨(_,ρ',_),?_,⟨rfl,rfl⟩,.inr ⟨_,rfl⟩⟩
     exact af o7 (aQ (dN IK (SV P L' (.ref 689) (bT s))) (aQ (dN IK (SS P L' (.ref 689) (bT s))) (ia (ρ':=rB { s with quoted:=false,cD:=32 }) (lQ hwh (fun _ _ e=>by cases e)) ⟨rfl,af zT.symm rfl,trivial⟩)))
 . cases x with
   |tok d' s'=>cases hr.2; exact hq _ _ _ _ _ rfl sb (hr.1▸hA) hv
   |exc k s'=>cases hr.2
 . cases x with
   |tok d' s'=>cases hr.2
   |exc k s'=>cases hr.2; exact tT _ _ _ _ _ rfl sb (hr.1▸hE)
end
end
section
set_option tactic.hygienic true
noncomputable abbrev gE(L:Addr)(cd:Value):Env:=envOf "shlex.get_token" (aF (bO 19 5)) L 683 cd
noncomputable abbrev gN:List Str:=(locs (aF (bO 19 5))).filter fun x:Str=> !(x==("self":Str))
noncomputable abbrev gI(P:LP):pD LO:=VP P gN [] fun _ _ _=>none
theorem PN(Pm:aD):dS (eG Pm) (.ref 722) "read_token"=some (some (.ref 690)):=by kernel_rfl
theorem M4(Pm:aD):dS (eG Pm) (.ref 722) "get_token"=some (some (.ref 683)):=by kernel_rfl
noncomputable def isEof(aa:Bool):V->Bool
 | .none=>aa
 | .str x=> !aa&&bw x ""
 |_=>false
noncomputable abbrev gW1:bG:=.Compare (.Name "raw" ⟨554,14,554,17⟩) [.Eq] [.Attribute (.Name "self" ⟨554,21,554,25⟩) "eof" ⟨554,21,554,29⟩] ⟨554,14,554,29⟩
noncomputable abbrev gA:bG:=.Attribute (.Name "self" ⟨555,19,555,23⟩) "filestack" ⟨555,19,555,33⟩
noncomputable abbrev gR:Stmt:=.Return (some (.Attribute (.Name "self" ⟨556,23,556,27⟩) "eof" ⟨556,23,556,31⟩)) ⟨556,16,556,31⟩
noncomputable abbrev gA0:bG:=.Attribute (.Name "self" ⟨541,11,541,15⟩) "pushback" ⟨541,11,541,24⟩
noncomputable abbrev WG:List Stmt:=aC (gK (aC (bO 19 5)) 0)
noncomputable abbrev gS0:Stmt:=.Assign [.Name "tok" ⟨542,12,542,15⟩] (.Call (.Attribute (.Attribute (.Name "self" ⟨542,18,542,22⟩) "pushback" ⟨542,18,542,31⟩) "popleft" ⟨542,18,542,39⟩) [] [] ⟨542,18,542,41⟩) ⟨542,12,542,41⟩
theorem WE:WG=[gS0,gK WG 1,gK WG 2]:=by kernel_rfl
noncomputable abbrev gS1:Stmt:=.Assign [.Name "raw" ⟨546,8,546,11⟩] (.Call (.Attribute (.Name "self" ⟨546,14,546,18⟩) "read_token" ⟨546,14,546,29⟩) [] [] ⟨546,14,546,31⟩) ⟨546,8,546,31⟩
theorem WD:∃e5,aC (bO 19 5)=[.If gA0 WG [] ⟨541,8,545,22⟩,gS1,gK (aC (bO 19 5)) 2,.While gW1 [.If (.UnaryOp .Not gA ⟨555,15,555,33⟩) [gR] e5 ⟨555,12,559,38⟩] [] ⟨554,8,559,38⟩,gK (aC (bO 19 5)) 4,gK (aC (bO 19 5)) 5]:=by
 refine⟨C3 (gK (aC (gK (aC (bO 19 5)) 3)) 0),?_⟩
 kernel_rfl
theorem g_2(P:LP)(L:Addr)(cd:Value)(o:LO)(d:V):jx (gI P) (gE L cd) 80 o [("raw",d)] (gK (aC (bO 19 5)) 2)=some (o,[(aj "raw",d)],.next):=by kernel_rfl
theorem acv(P:LP)(L:Addr)(cd:Value)(o:LO)(d:V):jx (gI P) (gE L cd) 80 o [("tok",d)] (gK WG 1)=some (o,[(aj "tok",d)],.next):=by kernel_rfl
theorem acu(P:LP)(L:Addr)(cd:Value)(o:LO)(d:V):jx (gI P) (gE L cd) 80 o [("tok",d)] (gK WG 2)=some (o,[(aj "tok",d)],.ret d):=by kernel_rfl
theorem g_4(P:LP)(L:Addr)(cd:Value)(o:LO)(d:V):jx (gI P) (gE L cd) 80 o [("raw",d)] (gK (aC (bO 19 5)) 4)=some (o,[(aj "raw",d)],.next):=by kernel_rfl
theorem g_5(P:LP)(L:Addr)(cd:Value)(o:LO)(d:V):jx (gI P) (gE L cd) 80 o [("raw",d)] (gK (aC (bO 19 5)) 5)=some (o,[(aj "raw",d)],.ret d):=by kernel_rfl
theorem WB(P:LP)(o:LO)(d:V)(hd:d= .none\/∃x,d= .str x):UN (gI P) 80 o [("raw",d)] gW1=some (isEof P.aa d):=by
 obtain⟨lx,ld,io,id,pbA,fs,pc,T,M,W,aa⟩:=P
 rcases hd with rfl|⟨x,rfl⟩
 . cases aa with
   |true=>kernel_rfl
   |false=>kernel_rfl
 . cases aa with
   |true=>kernel_rfl
   |false=>kernel_rfl
theorem aam(P:LP){d:V}(h:isEof P.aa d=true):d=pA P.aa:=by
 unfold isEof at h
 split at h
 . exact af h rfl
 . simp only[aM,Bool.not_eq_true']at h
   refine af h.1 ?_
   have:bw _ ""=true:=h.2
   rw[dR]at this
   rename_i x
   have e:x.cps.toList=[]:=by simpa [bw]using this
   have:x=S []:=by(refine af (sG x) (af e ?_); rfl)
   exact af this (af dR.symm rfl)
 . exact ff h
section
variable {Pm:aD}
theorem M5(L:Addr)(cd:Value):∀x∈gN,(gE L cd).kindOf x=some .local:=by
 have:∀x∈gN,(gE 0 .none).kindOf x=some .local:=by decide +kernel
 exact this
theorem WC{C:Cx LO}(hC:C.Rep=bK P)(R:cH (eG Pm) p az aL mg mb A₀ base av A (gE C.L cd) C.h₀ C.L (d+1))(bF:C.refs=[((aj "self"),.ref P.lx)]):
   cV ai w A C (gE C.L cd) (gI P) X P.lx:=
 GF hC R bF (by kernel_rfl) (M5 _ _) (show gN.contains "self"=false by decide +kernel)
theorem DA{C:Cx LO}(hC:C.Rep=bK P)(R:cH (eG Pm) p az aL mg mb A₀ base av A env C.h₀ C.L d)(bF:((aj "self"),.ref P.lx)∈C.refs)(hk:env.kindOf "self"=some .local){o:LO}{f:Str}{a:Addr}(hf:∀o,(bg P o).lookup f=some (.r a))(ha:(P.M≠ []/\a=P.pb)\/a=P.fs):gi ai w A C o env ρ (.Attribute (.Name "self" q) f q') false:=by
 intro fz st Q E h hq
 refine isTrue_plain (lO hC R bF hk hf h fun s₁ cj=>?_) rfl
 refine At.eh cj fun hp tk m Rl F N rp ap lc rf cj=>?_
 obtain⟨es,n,pY,n2,s1,s2,s3,vs,rfl,h1,h2,h3,h4⟩:=(hC▸rp:bK P o fz Rl)
 have:∃fE,hp.get? a=some (aN fE []):=by
   rcases ha with ⟨hM,rfl⟩|rfl
   . refine⟨s1,(N (P.pb,aN s1 []) (aH _ (aH _ (aJ _ ?_)))).1⟩
     unfold Ir
     cases e:P.M with
     |nil=>exact absurd e hM
     |cons=>exact .head _
   . exact⟨s2,(N (P.fs,aN s2 []) (by simp)).1⟩
 refine cE this fun fE vG=>?_
 exact uU (s:={ heap:=hp,gens:=C.s₀.gens,drawn:=C.s₀.drawn,toks:=tk,os:=C.s₀.os }) vG (by simp) (hq fz _ (fun _ h=>h) (cj.toks _))
theorem Nx{C:Cx LO}(hC:C.Rep=bK P)(R:cH (eG Pm) p az aL mg mb A₀ base av A env C.h₀ C.L d)(bF:((aj "self"),.ref P.lx)∈C.refs)(hk:env.kindOf "self"=some .local){s:RS}{f:Str}(hf:∀o,(bg P o).lookup f=some (.r P.pc))(hz:s.pb.length<=1):gi ai w A C (bT s) env ρ (.Attribute (.Name "self" q) f q') (!s.pb.isEmpty):=by
 intro fz st Q E h hq
 refine isTrue_plain (lO hC R bF hk hf h fun s₁ cj=>?_) rfl
 refine fS (m8 (o':=bT s) hC cj rfl rfl) fun fE vs g1 g2 g3=>?_
 have hl:=sr g2
 rw[bM]at hl
 have hl:vs.length=s.pb.length:=hl
 refine uU g1 (by lia) ?_
 exact af (Hj vs s.pb hl) (hq fz _ (fun _ h=>h) (cj.toks _))
theorem zQ{T W:List Nat}{aa:Bool}{s:RS}{c:Nat}(hs:oY T s)(hp:s.pb=[c])(hc:BF W aa c):dO T [] W aa s=some (.tok (.str (S [c])) { s with quoted:=false,cD:=32,pb:=[],tok:=[] }):=by
 have vY:s.st=32:=hs.iV (af hp (by simp))
 obtain⟨st,tok,ln,pos,pb,quoted,cD⟩:=s
 have vY:st=32:=vY
 have hp:pb=[c]:=hp
 subst vY; subst hp
 have Wz: [c]≠ [10]:=fun e=>hc.ws (by have:=(List.cons.inj e).1; subst this; exact .tail _ (.tail _ (.tail _ (.head _))))
 have e:fB T [] W aa ⟨32,tok,ln,pos,[c],false,32⟩= .brk ⟨32,[c],ln,pos,[],false,32⟩:=by
   unfold fB nextIn dm
   dsimp only
   refine af (if_neg Wz) ?_
   unfold bY
   dsimp only
   refine af (if_neg (by decide)) (af (if_pos rfl) ?_)
   unfold jA
   dsimp only
   (refine af (if_neg hc.ws) (af (if_neg hc.hash) (af (if_neg hc.cD) (af (if_neg hc.word) (af (if_neg nm) (af (if_neg hc.quote) ?_))))); rfl)
 unfold dO
 dsimp only
 have e2:rdLoop T [] W aa (2*T.length+10) ⟨32,tok,ln,pos,[c],false,32⟩=some (.brk ⟨32,[c],ln,pos,[],false,32⟩):=by
   unfold rdLoop
   (refine af e ?_; rfl)
 refine af e2 ?_
 show some (N8.tok (pq aa ⟨32,[c],ln,pos,[],false,32⟩) _)=_
 unfold pq
 (refine af (if_neg (fun h=>nomatch h.2.2)) ?_; rfl)
theorem A0{T W:List Nat}{aa:Bool}{s s':RS}(hs:oY T s)(hp:∀c∈s.pb,BF W aa c)(h:dO T [] W aa s=some (.tok v s')):∀c∈s'.pb,BF W aa c:=by
 cases e:s.pb with
 | nil=>
   exact nD (kK h) fun aX e2 _ e3=>af e3 (show ∀c∈aX.pb,BF W aa c from L4 _ _ _ (hs.qs e) e2)
 | cons c r=>
   have:r=[]:=by have:=hs.pb; rw[e]at this; exact List.eq_nil_of_length_eq_zero (by simpa using this)
   subst this
   rw[zQ hs e (hp c (af e (.head _)))]at h
   cases h
   exact fun _=>nm
theorem Lh(aa:Bool)(s:RS):pq aa s= .none\/∃x,pq aa s= .str x:=by
 unfold pq; split
 . exact .inl rfl
 . exact .inr ⟨_,rfl⟩
theorem pN{T M W:List Nat}{aa:Bool}{s s':RS}{d:V}(h:dO T M W aa s=some (.tok d s')):d= .none\/∃x,d= .str x:=nD (kK h) fun aX _ e _=>af e (Lh _ _)
noncomputable abbrev gIf:Stmt:=.If gA0 WG [] ⟨541,8,545,22⟩
theorem WA{C:Cx LO}(hC:C.Rep=bK P)(R:cH (eG Pm) p az aL mg mb A₀ base av A (gE C.L (.ref 682)) C.h₀ C.L (d+1))(bF:C.refs=[((aj "self"),.ref P.lx)])(hk:(gE C.L (.ref 682)).kindOf "self"=some .local){s:RS}(hs:oY P.T s)(C7:P.M=[]){c:Nat}(hc:s.pb=[c])(b:List Stmt):
   gy ai w A C (gE C.L (.ref 682)) (fun _ _ _ _=>False) (bT s) [] (gIf::b) (bT { s with quoted:=false,cD:=32,pb:=[],tok:=[] },[(aj "tok",.str (S [c]))],.ret (.str (S [c]))):=by
 have IK:=WC (ai:=ai) (w:=w) (X:=fun _ _ _ _=>False) hC R bF
 have Rt:((aj "self"),.ref P.lx)∈C.refs:=by exact af bF (.head _)
 refine lQ (jY (c:=true) (by
   have:=Nx (ai:=ai) (w:=w) (P:=P) hC R Rt hk (s:=s) (ρ:=[]) (q:=⟨541,11,541,15⟩) (q':=⟨541,11,541,24⟩) (f:="pushback") (fun o=>wF C7) hs.pb
   rw[hc]at this
   exact this) ?_) (fun _ _ e=>by cases e)
 refine af WE ?_
 refine aQ (o':=bT { s with quoted:=false,cD:=32,pb:=[],tok:=[] }) (ρ':=[(aj "tok",.str (S [c]))]) (fun fz st Q E h hq=>?_) (aQ (dN IK (acv P C.L (.ref 682) _ _)) (j9 (dN IK (acu P C.L (.ref 682) _ _))))
 refine jJ (d9 (pl:=_) (lO hC R Rt hk (f:="pushback") (fun o=>wF C7) h fun s₁ cj=>?_) (gu rfl rfl (by simp) rfl)) (fk rfl)
 obtain⟨fE,vs,g1,g2,g3⟩:=m8 (o':=bT { s with quoted:=false,cD:=32,pb:=[],tok:=[] }) hC cj (by unfold bT bg IF; dsimp only; (refine af hs.tok ?_; rfl)) rfl
 have RG:aU fz vs [.str (S [c])]:=by
   have:(bT s).iV=[c]:=hc
   rw[this]at g2; exact g2
 refine au (jE RG) fun v fj hv=>?_
 subst fj
 refine zf g1 (vO ?_)
 refine Fg g1 fun h' I5 ho=>?_
 exact jv IK (g3 h' _ _ s₁.toks I5 ho .nil) (show gN.contains "tok"=true by decide +kernel) hv fun dF h3=>hq fz dF (fun _ h=>h) h3
theorem M3{C:Cx LO}(hC:C.Rep=bK P)(R:cH (eG Pm) p az aL mg mb A₀ base av A (gE C.L (.ref 682)) C.h₀ C.L (d+1))(bF:C.refs=[((aj "self"),.ref P.lx)])(hk:(gE C.L (.ref 682)).kindOf "self"=some .local){s:RS}(hs:oY P.T s)(Ry:P.M=[]->s.pb=[]):cK ai w A C (gE C.L (.ref 682)) (fun _ _ _ _=>False) (bT s) [] gIf (bT s,[],.next):=by
 have Rt:((aj "self"),.ref P.lx)∈C.refs:=by exact af bF (.head _)
 refine jY (c:=false) ?_ ja
 by_cases C7:P.M=[]
 . have:=Nx (ai:=ai) (w:=w) (P:=P) hC R Rt hk (s:=s) (ρ:=[]) (q:=⟨541,11,541,15⟩) (q':=⟨541,11,541,24⟩) (f:="pushback") (fun o=>wF C7) hs.pb
   rw[Ry C7]at this
   exact this
 . refine DA hC R Rt hk (f:="pushback") (fun o=>?_) (.inl ⟨C7,rfl⟩)
   refine zW ?_
   unfold IF pbF
   cases e:P.M with
   |nil=>exact absurd e C7
   |cons=>rfl
theorem RC{C:Cx LO}(hC:C.Rep=bK P)(R:cH (eG Pm) p az aL mg mb A₀ base av A (gE C.L (.ref 682)) C.h₀ C.L (d+1))(bF:C.refs=[((aj "self"),.ref P.lx)])(hk:(gE C.L (.ref 682)).kindOf "self"=some .local){o:LO}(MN:dd= .none\/∃x,dd= .str x)(e5:List Stmt):gy ai w A C (gE C.L (.ref 682)) (fun _ _ _ _=>False) o [(aj "raw",dd)] [gK (aC (bO 19 5)) 2,.While gW1 [.If (.UnaryOp .Not gA ⟨555,15,555,33⟩) [gR] e5 ⟨555,12,559,38⟩] [] ⟨554,8,559,38⟩,gK (aC (bO 19 5)) 4,gK (aC (bO 19 5)) 5] (o,[(aj "raw",dd)],.ret dd):=by
 have IK:=WC (ai:=ai) (w:=w) (X:=fun _ _ _ _=>False) hC R bF
 have Rt:((aj "self"),.ref P.lx)∈C.refs:=by exact af bF (.head _)
 refine aQ (dN IK (g_2 P C.L (.ref 682) _ dd)) ?_
 have ht:=PI IK (WB P o dd MN)
 cases q:isEof P.aa dd with
 | false=>
   rw[q]at ht
   refine aQ (qk (fun _ _ _ _ h=>h) (n:=1) (.inl ⟨ht,rfl⟩)) (aQ (dN IK (g_4 P C.L (.ref 682) _ dd)) (j9 (dN IK (g_5 P C.L (.ref 682) _ dd))))
 | true=>
   rw[q]at ht
   have e:=aam P q
   refine lQ (qk (fun _ _ _ _ h=>h) (n:=1) (.inr ⟨_,_,.ret _,ht,j9 (jY (c:=true) (AL (DA (P:=P) hC R Rt hk (f:="filestack") (a:=P.fs) (fun o=>rfl) (.inr rfl))) (j9 ?_)),rfl⟩)) (fun _ _ e=>by cases e)
   refine AP ((IK.fh _).attr "eof" dd ?_ _ _ _)
   exact af e rfl
theorem yg{C:Cx LO}(hC:C.Rep=bK P)(hT:P.T.length<=300)(hM:P.M.length<=100)(R:cH (eG Pm) p az aL mg mb A₀ base av A env C.h₀ C.L (d+6)){s:RS}(hs:oY P.T s)(hP:P.M=[]->∀c∈s.pb,BF P.W P.aa c)(hx:dO P.T P.M P.W P.aa s=some x){st:ak}(h:At C (bT s) ρ fz st)(hq:∀aT fE v d s',x= .tok d s'->Sub fz aT->At C (bT s') ρ aT fE->VR aT d v->Q v fE)(tT:∀aT fE e k s',x= .exc k s'->Sub fz aT->ExcAt C base (env::av) (bT s') ρ aT k e fE->E (.ref e) fE):wpAny (model ai w) A (call (.ref 683) [.ref P.lx]) Q E st:=by
 refine gk ?_
 refine Jr (Post:=fun o' d=>∃s',x= .tok d s'/\o'=bT s') (Oc:=fun o' k=>∃s',x= .exc k s'/\o'=bT s') R h (name:="get_token") (qual:="shlex.get_token") (params:=nU (bO 19 5)) (body:=aC (bO 19 5)) (scope:=aF (bO 19 5)) (dV:=.none) (kV:=.none) (doc:=.none) (pm:=.str "cpy313.shlex" 1001) (cdv:=.ref 682) (ct:=.none) (oc:=.type "function") (an:=none) (od:=none) (osl:= #[]) (binds:=[("self",.ref P.lx)])
   (by kernel_rfl) (by kernel_rfl) (iN (by kernel_rfl)) (by intro y hy; simp only[aY]at hy; subst hy; kernel_rfl) (by kernel_rfl) (by kernel_rfl) (by kernel_rfl) (by decide +kernel) (ρ':=[]) (refs':=[("self",.ref P.lx)]) (fun _ _ hx=>by exact nn hx) (fun q hq=>by simp only[aY]at hq; subst hq; rfl)
   (fun g L' s' R' h'=>?_) (fun aT s' o' d v hr sb hA hv=>?_) fun aT s' o' k e hr sb hE=>?_
 . have IK:=WC (ai:=ai) (w:=w) (C:=aV C g L' [("self",.ref P.lx)]) (P:=P) (X:=fun _ _ _ _=>False) hC R' rfl
   have hk:(gE L' (.ref 682)).kindOf "self"=some .local:=by kernel_rfl
   have Rt:((aj "self"),.ref P.lx)∈(aV C g L' [((aj "self"),.ref P.lx)]).refs:=.head _
   refine cE WD fun e5 o7=>?_
   refine af o7 ?_
   by_cases Tw:P.M=[]/\s.pb≠ []
   . refine bx Tw fun C7 Rz=>?_
     obtain⟨c,hc⟩:∃c,s.pb=[c]:=(qb hs.pb).resolve_left Rz
     have hx2:=zQ hs hc (hP C7 c (af hc (.head _)))
     rw[C7,hx2]at hx
     exact WA (C:=aV C g L' [("self",.ref P.lx)]) hC R' rfl hk hs C7 hc _ fz s' _ _ h' fun De Kw K4 qW v hv=>⟨De,_,_,_,K4,qW,hv,_,(sj hx).symm,rfl⟩
   have Ry:P.M=[]->s.pb=[]:=fun e=>Classical.byContradiction fun q=>Tw ⟨e,q⟩
   have h0:=M3 (ai:=ai) (w:=w) (C:=aV C g L' [("self",.ref P.lx)]) hC R' rfl hk hs Ry
   refine bS (h0 fz s' _ _ h' fun ay s₁ K7 cj=>?_)
   refine bS (jJ (d9 (pl:=_) (wz (C:=aV C g L' [("self",.ref P.lx)]) R' Rt hk cj ?_) (iJ (v:=.Name "self" ⟨546,14,546,18⟩) rfl rfl (by simp) rfl)) (fk rfl))
   refine At.eh cj fun hp tk mm Rl F N rp ap lc rf cj=>?_
   refine fS (pR ((show(aV C g L' [("self",.ref P.lx)]).Rep=bK P from hC)▸rp)) fun es n g1 g2 g3=>?_
   have I:InstAt hp P.lx (bI 722 P.ld) 722 (some (bH es n)):=⟨(N _ (aH _ g1)).1,rfl,rfl,(N _ (aH _ g2)).1⟩
   refine method_inst (s:={ heap:=hp,gens:=C.s₀.gens,drawn:=C.s₀.drawn,toks:=tk,os:=C.s₀.os }) F R'.X I (tL Pm) (PN Pm) (by kernel_rfl) (qB g3 (zX rfl rfl)) ?_
   refine callWith_K0 (K:=eG Pm) (first:=[.ref P.lx]) (R'.rD F) (by kernel_rfl) ?_
   refine vU (C:=aV C g L' [("self",.ref P.lx)]) hC hT hM R' hs Ry hx cj (fun aO aX v dd dF ex K5 gY hv=>?_) fun aO aX e k dF ex K5 hE=>?_
   . refine jv IK gY (show gN.contains "raw"=true by decide +kernel) hv fun lX mQ=>?_
     subst ex
     have MN:=pN hx
     have rest:=RC (ai:=ai) (w:=w) (C:=aV C g L' [("self",.ref P.lx)]) hC R' rfl hk (o:=bT dF) (pN hx) e5
     refine rest aO lX _ _ mQ fun De Kw K4 qW v hv=>⟨De,_,_,dd,fun p hp=>K4 p (K5 p (K7 p hp)),qW,hv,dF,rfl,rfl⟩
   . exact⟨aO,_,[],k,e,rfl,fun p hp=>K5 p (K7 p hp),hE,dF,ex,rfl⟩
 . refine au hr fun s' e iU=>?_
   subst iU
   exact hq _ _ _ _ _ e sb hA hv
 . refine au hr fun s' e' iU=>?_
   subst iU
   exact tT _ _ _ _ _ e' sb hE
end
end
section
variable {P:aD}(S:Setting)
theorem KQ:specialIn (KS P) (.ref 587) "__call__"=some (some (.builtin "type.__call__")):=by kernel_rfl
theorem Pr:instIn (KS P) (.ref 587) (.type "type")=some true:=by kernel_rfl
theorem KG:mroIn (KS P) 587 (.ref 587)=some true:=by kernel_rfl
theorem KJ:peek (KS P) S (Bind.madeBy (.ref 587))=some none:=by kernel_rfl
theorem Pu:findCls (KS P) (.ref 587) (.type "type") "__new__"=some (.get (.builtin "staticmethod.__get__") (.ref 84) .none (.ref 587)):=by kernel_rfl
theorem UG:recIn (KS P) 84 "staticmethod"=some [.ref 80]:=by kernel_rfl
theorem KL:dS (KS P) (.ref 587) "__init__"=some (some (.ref 357)):=by kernel_rfl
theorem Er:peek (KS P) S (isType (.ref 587))=some true:=by kernel_rfl
theorem KN:peek (KS P) S (Bind.madeHere "object.__new__" (.ref 587))=some ():=by kernel_rfl
theorem Pw:peek (KS P) S (mroOf (.ref 587))=some [.ref 587,.ref 110,.ref 83,.type "object"]:=by kernel_rfl
end
section
set_option tactic.hygienic true
open PySem PySem.Calls PyProof.Rows PySem.W Builtin Builtin.ObjectAttr Builtin.Getset_descriptor
theorem UH(P:aD):(clsIn (KS P) 587).any (fun cd=> !cd.abstract&& !cd.hasDel)=true:=by kernel_rfl
theorem Ga{P:aD}(X:(KS P).In h):∃oc od cd sl,h.get? 587=some ⟨oc,od,.cls cd,sl⟩/\cd.abstract=false/\cd.hasDel=false:=by
 refine au (any_some (UH P)) fun cd hc hb=>?_
 unfold clsIn at hc
 split at hc
 . rename_i oc od cd' sl q
   obtain rfl:=sj hc
   simp only[aM,Bool.not_eq_true']at hb
   exact⟨_,_,_,_,X _ _ q,hb.1,hb.2⟩
 . exact nn hc
section
variable {P:aD}
theorem Qj{d:Drawn}{t:Nat}{os:OsState}(X:(KS P).In h)(hq:R (.ok (.ret (.ref (h.objs.size+1)))) ⟨(h.push emptyDict).push (bI 587 h.objs.size),g,d,t,os⟩):
   fN (model ai w) A (.call (.builtin "object.__new__") ⟨[.ref 587],[]⟩) R ⟨h,g,d,t,os⟩:=by
 have F:=PySem.F.objNew
 refine codeAny_call_builtin_code (uc _ F.quiet) ?_
 have chk:Looks (model ai w) h (checkBuiltinCall "object.__new__" ⟨[.ref 587],[]⟩) ():=Looks.of_peek (M:=model ai w) X (by kernel_rfl)
 have here:Looks (model ai w) h (Bind.madeHere "object.__new__" (.ref 587)) ():=Looks.of_peek (M:=model ai w) X (KN _)
 have isT:Looks (model ai w) h (isType (.ref 587)) true:=Looks.of_peek (M:=model ai w) X (Er _)
 refine cp fun G' k'=>?_
 refine X0 (Ga X) fun oc od cd sl hC e1 e2=>?_
 refine k' ?_
 refine chk.here ?_
 refine oS F.entry ?_
 unfold Builtin.«object.__new__»
 have fin:∀A',wpAny (model ai w) A' (do
     let d <-if typeHasDict (.ref 587)then some <$> alloc { cls:=.type "dict",data:=.dict #[] } else pure none
     ret (<-newObj (.ref 587) .plain d)) (fun fin s'=>match fin with| .done f=>R (.ok f) s'| .again c'=>c'.quiet=true/\fN (model ai w) A c' R s') (fun e s'=>R (.error e) s') ⟨h,g,d,t,os⟩:=by
   intro A'
   show wpAny _ _ ((alloc emptyDict >>= fun x=>pure (some x)) >>= _) _ _ _
   refine ao (ao (wpAny_alloc (aA (ao ?_))))
   show wpAny _ _ (newObjAsIs _ _ _) _ _ _
   unfold newObjAsIs classHasDel
   refine ao (wpAny_alloc (ao (ao (wpAny_load (Heap.get?_push_of_some _ (Heap.get?_push_of_some _ hC)) (aA ?_)))))
   refine af e2 ?_
   refine aA (aA ?_)
   show R _ _
   rw[oR]
   exact hq
 refine ao (isT.here ?_)
 dsimp only
 refine ao (here.here ?_)
 refine wpAny_ite_false rfl ?_
 repeat (first|simp only[e1,qO,if_false]|exact fin _|lk)
theorem EF{K:Frag}{L:Addr}(F:Fr h₀ L s.heap m)(Xe:K.In h₀)(h:Q (.builtin "object.__new__",[]) { s with toks:=s.toks+1 }):wpAny (model ai w) A (ie (.type "object") "__new__" pl) Q E s:=by
 have X:=Xe.keeps F.keep
 have MK:qg (.type "object")=pure none:=by unfold qg; dsimp only; exact af (show Manifest.isStub "object"=false by decide +kernel) rfl
 have ht:typeOf (.type "object")=pure (.type "type"):=by first|rfl|kernel_rfl
 have L0:Looks (model ai w) s.heap (typeOf (.type "object")) (.type "type"):=Looks.of_pure ht
 have hg:dS K (.type "type") "__getattribute__"=some (some (.builtin "type.__getattribute__")):=type_tga
 have e:findCls K (.type "object") (.type "type") "__new__"=some (.val (.builtin "object.__new__")):=by kernel_rfl
 unfold ie specialOf
 refine ao (ao (L0.here ((looks_findIn X hg).here ?_)))
 dsimp only
 refine af (if_pos canon_tga) ?_
 refine ao (fD (Q:=fun v=>Q (v,[])) (E:=E) ?_ (fun _ _ z=>aA z) fun _ _ z=>z)
 have LO:Looks (model ai w) s.heap (qg (.type "object")) none:=Looks.of_pure MK
 refine cls_open X LO L0 hg (looks_hook X (r:=none) rfl) (by show subIn K _ _=_; rfl) e ?_
 exact aA (by show wpAny _ _ (handedOut _) _ _ _; refine af (handedOut_of rfl) ?_; exact aA h)
end
end
noncomputable def bD(C:Cx O)(o₀:O)(cls x dx:Addr):Cx (List (Str×FV)):=
 { s₀:=C.s₀,h₀:=C.h₀,L:=C.L,rest:=C.rest,refs:=C.refs
   Rep:=fun fs fz R'=>∃es n R,R'=(x,bI cls dx)::(dx,bH es n)::R/\g6 fz fs es/\C.Rep o₀ fz R/\x≠dx/\∀q∈R,q.1≠x/\q.1≠dx
   mono:=fun _ _ _ _ hs ⟨es,n,R',e,h1,h2,h3⟩=>⟨es,n,R',e,h1.mono hs,C.mono _ _ _ _ hs h2,h3⟩ }
noncomputable def bz(C:Cx O)(a:Addr)(ob:Obj):Cx O:=
 { s₀:=C.s₀,h₀:=C.h₀,L:=C.L,rest:=C.rest,refs:=C.refs
   Rep:=fun o fz R'=>∃R,R'=(a,ob)::R/\C.Rep o fz R/\∀q∈R,q.1≠a
   mono:=fun _ _ _ _ hs ⟨R',e,h2,h3⟩=>⟨R',e,C.mono _ _ _ _ hs h2,h3⟩ }
noncomputable def gq(C:Cx O)(refs:List (Str×Value)):Cx O:={ C with refs:=refs }
section
variable {o₀:O}{cls x dx:Addr}
theorem Qc{h:aE}{tk:Tok}{m:Str->Option Value}{R:Led}{ob1 ob2:Obj}(e1:ob1=emptyDict)(e2:ob2=bI cls h.objs.size)(F:Fr C.h₀ C.L h m)(N:News C.h₀ C.L h (R++(fz++C.rest)))(rp:C.Rep o₀ fz R)(ap:Apart R (fz++C.rest))(lc:∀x v,ρ.lookup x=some v->∃v',m x=some v'/\VR fz v v')(rf:∀p∈C.refs,m p.1=some p.2):
   At (bD C o₀ cls (h.objs.size+1) h.objs.size) [] ρ fz { C.s₀ with heap:=(h.push ob1).push ob2,toks:=tk }:=by
 subst e1 e2
 have jl:∀p∈R++(fz++C.rest),p.1<h.objs.size:=fun p hp=>ek (N p hp).1
 have N':=(N.push F emptyDict).push (F.push _) (bI cls h.objs.size)
 rw[oR]at N'
 refine⟨_,tk,m,(h.objs.size+1,bI cls h.objs.size)::(h.objs.size,bH [] 0)::R,rfl,(F.push _).push _,N',⟨[],0,R,rfl,trivial,rp,Nat.succ_ne_self _,fun q hq=>?_⟩,fun p hp q hq=>?_,lc,rf⟩
 . have:=jl q (aH _ hq)
   exact⟨dJ (u9 this),dJ this⟩
 . have rJ:=jl q (aJ _ hq)
   refine UZ (aB.mp hp) (fun EG=>?_) (fun hp=>?_)
   . subst EG
     exact kT (u9 rJ)
   . refine UZ (aB.mp hp) (fun EG=>?_) (fun hp=>?_)
     . subst EG
       exact kT rJ
     . exact ap p hp q hq
theorem Lz{Xb x2 dx2:Addr}(h:At (bD (bD C o₀ cls x dx) f1 Xb x2 dx2) f2 ρ fz s):
   At (bD (bD C o₀ Xb x2 dx2) f2 cls x dx) f1 ρ fz s:=by
 refine cp fun G' k'=>?_
 obtain⟨hp,tk,m,R',rfl,F,N,⟨pY,n2,_,rfl,h2,⟨es,n,R,rfl,h1,rp,d1,a1⟩,d2,a2⟩,ap,lc,rf⟩:=h
 refine k' ?_
 have k1:=a2 _ (.head _)
 have k2:=a2 _ (.tail _ (.head _))
 refine⟨hp,tk,m,(x,bI cls dx)::(dx,bH es n)::(x2,bI Xb dx2)::(dx2,bH pY n2)::R,rfl,F,fun p hp=>N p ?_,⟨es,n,_,rfl,h1,⟨pY,n2,R,rfl,h2,rp,d2,fun q hq=>a2 q (.tail _ (.tail _ hq))⟩,d1,fun q hq=>?_⟩,fun p hp q hq=>ap p ?_ q hq,lc,rf⟩
 . simp only[eY,aB]at hp |-
   refine or5 hp (fun h=>?_) (fun h=>?_) (fun h=>?_) (fun h=>?_) (fun h=>?_)
   . exact .inr (.inr (.inl h))
   . exact .inr (.inr (.inr (.inl h)))
   . exact .inl h
   . exact .inr (.inl h)
   . exact .inr (.inr (.inr (.inr h)))
 . simp only[aB]at hq
   refine or3 hq (fun EG=>?_) (fun o'1=>?_) (fun hq=>?_)
   . subst EG
     exact⟨fun e=>k1.1 e.symm,fun e=>k2.1 e.symm⟩
   . subst o'1
     exact⟨fun e=>k1.2 e.symm,fun e=>k2.2 e.symm⟩
   . exact a1 q hq
 . simp only[aB]at hp |-
   rcases hp with h|h|h|h|h <;> simp[h]
theorem LA(h:At (bD C o₀ cls x dx) fs ρ fz s)(he:Heap.ExtBut s.heap.objs.size s.heap h')(ho:h'.get? s.heap.objs.size=some ob):
   At (bD (bz C s.heap.objs.size ob) o₀ cls x dx) fs ρ fz { s with heap:=h' }:=by
 refine cp fun G' k'=>?_
 obtain⟨hp,tk,m,R',rfl,F,N,⟨es,n,R,rfl,h1,rp,d1,a1⟩,ap,lc,rf⟩:=h
 refine k' ?_
 have F':=F.extBut he (bC _)
 have jl:∀p∈((x,bI cls dx)::(dx,bH es n)::R)++(fz++C.rest),p.1<hp.objs.size:=fun p hp=>ek (N p hp).1
 have N':News C.h₀ C.L h' (((x,bI cls dx)::(dx,bH es n)::R)++(fz++C.rest)):=fun p hp=>⟨he p.1 p.2 (dJ (ek (N p hp).1)) (N p hp).1,(N p hp).2⟩
 refine⟨h',tk,m,(x,bI cls dx)::(dx,bH es n)::(hp.objs.size,ob)::R,rfl,F',fun p hm=>?_,⟨es,n,_,rfl,h1,⟨R,rfl,rp,fun q hq=>?_⟩,d1,fun q hq=>?_⟩,fun p hp q hq=>?_,lc,rf⟩
 . simp only[eY,aB]at hm
   refine or4 hm (fun hm=>?_) (fun hm=>?_) (fun hm=>?_) (fun hm=>?_)
   . exact N' p (by simp[hm])
   . exact N' p (by simp[hm])
   . subst hm
     refine cp fun G' k'=>?_
     refine yV F.ns fun oL _ _ hL _=>?_
     refine k' ?_
     refine⟨ho,kT (ek hL),?_⟩
     cases hq:C.h₀.get? hp.objs.size with
     |none=>exact hq
     |some o'=>exact absurd (ek (F.keep _ _ hq)) (iY _)
   . exact N' p (.tail _ (.tail _ hm))
 . exact dJ (jl q (.tail _ (.tail _ (aH _ hq))))
 . refine UZ (aB.mp hq) (fun EG=>?_) (fun hq=>?_)
   . subst EG
     exact⟨kT (jl _ (.head _)),kT (jl _ (.tail _ (.head _)))⟩
   . exact a1 q hq
 . have h4:=jl q (aJ _ hq)
   refine UZ (aB.mp hp) (fun EG=>?_) (fun hp=>?_)
   . subst EG
     exact ap _ (.head _) q hq
   . refine UZ (aB.mp hp) (fun EG=>?_) (fun hp=>?_)
     . subst EG
       exact ap _ (.tail _ (.head _)) q hq
     . refine UZ (aB.mp hp) (fun EG=>?_) (fun hp=>?_)
       . subst EG
         exact kT h4
       . exact ap _ (.tail _ (.tail _ hp)) q hq
noncomputable abbrev nwT:Expr:=(.BoolOp .And [.Compare (.Name "cls" ⟨24,11,24,14⟩) [.IsNot] [.Name "BytesIO" ⟨24,22,24,29⟩] ⟨24,11,24,29⟩,.Compare (.Name "cls" ⟨24,34,24,37⟩) [.IsNot] [.Name "StringIO" ⟨24,45,24,53⟩] ⟨24,34,24,53⟩] ⟨24,11,24,53⟩)
noncomputable abbrev nwW:List Stmt:=[.Expr (.Call (.Name "_wall" ⟨25,12,25,17⟩) [.Constant (.int 3) 0 ⟨25,18,25,19⟩] [] ⟨25,12,25,20⟩) ⟨25,12,25,20⟩]
noncomputable abbrev nwC:Expr:=(.Call (.Attribute (.Name "object" ⟨26,15,26,21⟩) "__new__" ⟨26,15,26,29⟩) [.Name "cls" ⟨26,30,26,33⟩] [] ⟨26,15,26,34⟩)
theorem Qe:aC (bO 6 1)=[.If nwT nwW [] ⟨24,8,25,20⟩,.Return (some nwC) ⟨26,8,26,34⟩]:=by kernel_rfl
end
def Jx(ai:cB)(w:World)(A:cy)(C:Cx O)(o:O)(env:Env)(ρ:Loc)(e:Expr)(v:Value):Prop:=
 ∀(fz:Led) (s:ak) (Q:Value->ak->Prop) (E:Value->ak->Prop),At C o ρ fz s->(∀s',At C o ρ fz s'->Q v s')->wpAny (model ai w) A (eval e env) Q E s
theorem MA(P:aD)(S:Setting):peek (KS P) S (kI .IsNot (.ref 587) (.ref 340))=some (.bool true):=by kernel_rfl
theorem MB(P:aD)(S:Setting):peek (KS P) S (kI .IsNot (.ref 587) (.ref 587))=some (.bool false):=by kernel_rfl
section
variable {K:Frag}
theorem pL(R:cH K p az aL mg mb A₀ base av A env C.h₀ C.L d){x:Str}(hr:(x,v)∈C.refs)(hk:env.kindOf x=some .local)(hd:(x==("__debug__":Str))=false):Jx ai w A C o env ρ (.Name x pos) v:=by
 intro fz s Q E h hq
 refine At.eh h fun h' tk m Rl F N rp ap lc rf h=>?_
 exact eN (fY R.hk hk (af R.hl F.ns) (rf _ hr) (hq _ h)) hd
theorem tg(R:cH K p az aL mg mb A₀ base av A env C.h₀ C.L d){x:Str}(e:nsIn K dc x=some (some v))(hx:env.kindOf x=some .globalImplicit)(hd:(x==("__debug__":Str))=false):Jx ai w A C o env ρ (.Name x pos) v:=
 fun _ s _ _ h hq=>I8 R h e hx hd (hq s h)
theorem UP(R:cH K p az aL mg mb A₀ base av A env C.h₀ C.L d){x:Str}(e:nsIn K dc x=some none)(hv:bootBuiltins x=some v)(hn:x≠"__name__")(hx:env.kindOf x=some .globalImplicit)(hd:(x==("__debug__":Str))=false):Jx ai w A C o env ρ (.Name x pos) v:=
 fun _ s _ _ h hq=>jG R h e hv hn hx hd (hq s h)
theorem BU(R:cH K p az aL mg mb A₀ base av A env C.h₀ C.L d){t:Bool}(ha:Jx ai w A C o env ρ l a)(hb:Jx ai w A C o env ρ r b)(hm:jK op r=false)(hc:∀S,peek K S (kI op a b)=some (.bool t)):
   gi ai w A C o env ρ (.Compare l [op] [r] pos) t:=by
 intro fz s Q E h hq
 refine lT (ha fz s _ E h fun s₁ h1=>hb fz s₁ _ E h1 fun aX h2=>?_) hm
 refine cp fun G' k'=>?_
 refine gB h2.nO fun m₂ wB kq kj=>?_
 refine k' ?_
 refine(Looks.of_peek (M:=model ai w) (fun a o q=>kq.keep a o (R.X a o q)) (hc _)).here ?_
 exact cF (fz:=fz) (.bool t) rfl fun lG=>hq fz _ (fun _ h=>h) (h2.toks lG)
end
section
variable {Pm:aD}
noncomputable abbrev nwP:Arguments:=Arguments.mk [Arg.mk "cls" none ⟨23,16,23,19⟩] [] (some (Arg.mk "args" none ⟨23,25,23,29⟩)) [] [] (some (Arg.mk "kwargs" none ⟨23,33,23,39⟩)) []
noncomputable abbrev Xx(L:Addr):Env:=envOf "IOBase.__new__" (aF (bO 6 1)) L 80 (.ref 79)
theorem LL(R:cH (KS Pm) p az aL mg mb A₀ base av A env C.h₀ C.L (d+1))(h:At C o ρ fz s)(hq:∀aT s' x dx,Sub fz aT->At (bD C o 587 x dx) [] ρ aT s'->Re (.ok (.ret (.ref x))) s'):
   fN (model ai w) A (.call (.ref 80) ⟨[.ref 587,v],[]⟩) Re s:=by
 refine At.eh h fun hp tk m Rl F N rp ap lc rf h=>?_
 refine kpc_both (K:=KS Pm) (name:="__new__") (qual:="IOBase.__new__") (params:=nwP) (body:=aC (bO 6 1)) (scope:=aF (bO 6 1)) (cl:=[]) (dV:=.none) (kV:=.none) (doc:=.none) (pm:=.str "io" 286) (cdv:=.ref 79) (ct:=.none) (oc:=.type "function") (an:=none) (od:=none) (osl:= #[])
   (vs:=[v]) (nm:="kwargs") (nr:="args") (ex:=[]) (front:=[("cls",.ref 587)]) (DD:=[]) R.B F R.X N R.T R.hA R.hf R.hk (by kernel_rfl) (by kernel_rfl) (by have:=R.room; lia) rfl rfl rfl rfl rfl .nil (by kernel_rfl) rfl (fun D=>rfl) (fun C D=>rfl) ?_ ?_ (by kernel_rfl) (by kernel_rfl) (by kernel_rfl) (by decide +kernel)
 . intro C' D' y hy
   simp only[eY,List.nil_append,aB,eS,or_false]at hy
   rcases hy with rfl|rfl|rfl <;> kernel_rfl
 . intro C' D' ob g L' cj lG l1 l2 l3 rK JK FG F' N' B' X' T'
   have R':cH (KS Pm) p az aL mg mb A base (env::av) (A.deeper (Xx L')) (Xx L') g L' d:=by
     refine⟨B',X',T',?_,rfl,rfl,rfl,rfl,rfl,R.hh,j5 rfl,?_⟩
     . exact ud R.hA
     . have:=R.room
       show A.depth+1+d<=_
       lia
   have Wx:At (aV C g L' [("cls",.ref 587)]) o [] ((D',ob)::(C',({ cls:=.type "tuple",data:=.seq [v].toArray }:Obj))::fz) { heap:=cj,gens:=C.s₀.gens,drawn:=C.s₀.drawn,toks:=lG,os:=C.s₀.os }:=by
     refine⟨cj,lG,_,Rl,rfl,F',fun p hp=>N' p ?_,C.mono _ _ _ _ (fun p hp=>.tail _ (.tail _ hp)) rp,fun p hp q hq=>?_,fun x v hx=>(by exact nn hx),fun q hq=>?_⟩
     . simp only[bu,eY,aB]at hp |-
       refine or5 hp (fun hp=>?_) (fun hp=>?_) (fun hp=>?_) (fun hp=>?_) (fun hp=>?_)
       . exact .inr (.inr (.inl hp))
       . exact .inl hp
       . exact .inr (.inl hp)
       . exact .inr (.inr (.inr (.inl hp)))
       . exact .inr (.inr (.inr (.inr hp)))
     . have k:=l1 p (aH _ hp)
       simp only[eY,aB]at hq
       refine or3 hq (fun EG=>?_) (fun o'1=>?_) (fun hq=>?_)
       . subst EG
         exact dJ (jR k l2)
       . subst o'1
         exact dJ k
       . exact ap p hp q hq
     . cases hq with
       |head=>rfl
       |tail _ hq=>cases hq
   refine af Qe ?_
   have E7:∀ {pos},Jx ai w (A.deeper (Xx L')) (aV C g L' [("cls",.ref 587)]) o (Xx L') [] (.Name "cls" pos) (.ref 587):=fun {pos}=>pL (C:=aV C g L' _) R' (.head _) (by kernel_rfl) (by decide)
   have hif:cK ai w (A.deeper (Xx L')) (aV C g L' [("cls",.ref 587)]) (Xx L') (fun _ _ _ _=>False) o [] (.If nwT nwW [] ⟨24,8,25,20⟩) (o,[],.next):=
     jY (c:=false) (kW (BU (C:=aV C g L' _) R' E7 (tg (C:=aV C g L' _) R' (by kernel_rfl) (by kernel_rfl) (by decide)) rfl (MA _)) (by exact rX (BU (C:=aV C g L' _) R' E7 (tg (C:=aV C g L' _) R' (by kernel_rfl) (by kernel_rfl) (by decide)) rfl (MB _)))) (by exact ja)
   refine bS (hif _ _ _ _ Wx fun ay s₁ s1 h1=>?_)
   refine bS (ue (d9 (pl:=_) ?_ (iJ (v:=.Name "object" ⟨26,15,26,21⟩) rfl rfl (by simp) rfl)))
   refine UP (C:=aV C g L' _) R' (v:=.type "object") (by kernel_rfl) (by kernel_rfl) (by decide) (by kernel_rfl) (by decide) _ _ _ _ h1 fun aX h2=>?_
   refine cp fun G' k'=>?_
   refine gB h2.nO fun m₂ wB kq kj=>?_
   refine k' ?_
   refine EF kq R'.X ?_
   refine callWith_builtin1 (fP ?_ rfl) rfl rfl
   refine E7 _ _ _ _ (h2.toks _) fun dF h3=>?_
   refine ic ?_
   refine gk ?_
   have Tr:∀x v,ρ.lookup x=some v->∃v',m x=some v'/\VR ay v v':=fun x v hx=>by
     refine au (lc x v hx) fun v' e1 e2=>?_
     exact⟨v',e1,e2.mono fun p hp=>s1 p (.tail _ (.tail _ hp))⟩
   refine At.el h3 fun mQ BW abE adg JA Sy YO aaD ZP YQ=>?_
   refine Qj (fun a o q=>JA.keep a o (R'.X a o q)) ?_
   obtain⟨qW,Kr,abD,acH,acy,Xi,acL,YN,aaC,_,_⟩:=Qc (C:=aV C g L' [("cls",.ref 587)]) (o₀:=o) (fz:=ay) (ρ:=[]) rfl rfl JA Sy YO aaD ZP YQ
   show LeaveK C.h₀ C.L m g Re (.ref (mQ.objs.size+1)) { C.s₀ with heap:=(mQ.push emptyDict).push (bI 587 mQ.objs.size),toks:=BW }
   exact af (show({ C.s₀ with heap:=(mQ.push emptyDict).push (bI 587 mQ.objs.size),toks:=BW }:ak)=_ from acy) ⟨L',abD,_,Xi,acL,fun Og acK=>hq ay _ _ _ (fun p hp=>s1 p (.tail _ (.tail _ hp))) ⟨qW,Kr,m,acH,rfl,Og,acK,YN,aaC,Tr,rf⟩⟩
end
section
open PySem PySem.Calls PyProof.Rows PySem.W Builtin Builtin.ObjectAttr Builtin.Getset_descriptor
section
theorem cH.under{K:Frag}{L:Addr}(R:cH K p az aL mg mb A₀ base av A env h₀ L (d+1))(a:Addr)(vs:List Value)(kw:List (Str×Value)):
   cH K p az aL mg mb A₀ base av (A.under (.builtin "type.__call__" ⟨.ref a::vs,kw⟩)) env h₀ L d:=
 ⟨R.B,R.X,R.T,R.hA,R.hf,R.hk,R.hl,R.hg,R.hb,R.hh,R.hi,by have:=R.room; rw[depth_under_kw]; lia⟩
variable {Pm:aD}
theorem KH(R:cH (KS Pm) p az aL mg mb A₀ base av A env C.h₀ C.L (d+2))(h:At C o ρ fz s){Re:Result->ak->Prop}(hq:∀aT s' x dx,Sub fz aT->At (bD C o 587 x dx) [] ρ aT s'->fN (model ai w) (A.under (.builtin "type.__call__" ⟨[.ref 587,v],[]⟩)) (.call (.ref 357) ⟨[.ref x,v],[]⟩) (InitBack x Re) s'):
   fN (model ai w) A (.call (.ref 587) ⟨[v],[]⟩) Re s:=by
 refine cp fun G' k'=>?_
 refine gB h.nO fun m news F N=>?_
 have X:(KS Pm).In s.heap:=R.rD F
 refine X0 (Ga X) fun oc od cd sl hC e1 e2=>?_
 refine k' ?_
 refine codeAny_of_tree ?_
 show wpAny _ _ (callAny (.ref 587) _) _ _ _
 refine nd_load hC ?_
 show wpAny _ _ (callAny.viaDunder (.ref 587) _) _ _ _
 unfold callAny.viaDunder
 refine ao ((looks_specialIn X KQ).at ?_)
 dsimp only
 rw[tc_bind]
 refine ao (aA (ao (aA ?_)))
 refine aA (a:=Fin.again (.call (.builtin "type.__call__") ⟨[.ref 587,v],[]⟩)) (And.intro rfl ?_)
 refine codeAny_call_builtin_at (uc _ (by decide +kernel)) entry_typeCall (check_slot tc_kind tc_split (looks_instIn X Pr) (tc_args _ _ _) ?_)
 unfold Builtin.«type.__call__»
 have hm:Looks (model ai w) s.heap (mroOf (.ref 587)) [.ref 587,.ref 110,.ref 83,.type "object"]:=Looks.of_peek (M:=model ai w) X (Pw _)
 have made:Looks (model ai w) s.heap (Bind.madeBy (.ref 587)) none:=Looks.of_peek (M:=model ai w) X (KJ _)
 repeat (first|refine wpAny_ite_false rfl ?_|refine wpAny_ite_true rfl ?_|with_reducible refine cls_sm F R.X (mc:=.type "type") (by kernel_rfl) (by kernel_rfl) Pu UG (by kernel_rfl) ?_|with_reducible refine gk ?_|lk)
 refine LL (R.under 587 [v] []) (h.toks _) fun aT s' x dx sb h'=>?_
 have h'':=h'
 refine cp fun G' k'=>?_
 obtain⟨hp,tk,m',Rl,rfl,F',N',⟨es,n,R',rfl,hfs,rp,d1,a1⟩,ap,lc,rf⟩:=h'
 refine k' ?_
 have I:InstAt hp x (bI 587 dx) 587 (some (bH es n)):=⟨(N' _ (.head _)).1,rfl,rfl,(N' _ (.tail _ (.head _))).1⟩
 have X':(KS Pm).In hp:=fun a o q=>F'.keep a o (R.X a o q)
 have t1:Looks (model ai w) hp (typeOf (.ref x)) (.ref 587):=I.type
 have s1:Looks (model ai w) hp (isSubtype (.ref 587) (.ref 587)) true:=looks_mroIn X' KG
 have i1:Looks (model ai w) hp (isInstance (.ref x) (.ref 587)) true:=t1.andThen s1
 refine ao (Looks.here (s:={ C.s₀ with heap:=hp,toks:=tk }) i1 ?_)
 simp only[Bool.not_true,qO,if_false]
 refine ao (iQ (special_fn (s:={ C.s₀ with heap:=hp,toks:=tk }) X' I KL (by kernel_rfl) (gk (codeAny_mono (hq aT _ x dx sb h'') fun r s' z=>?_))))
 rcases r with e|(v|_|_|_) <;> first|exact z|exact z.elim|skip
 obtain⟨rfl,z⟩:=z
 exact aA z
end
end
section
set_option tactic.hygienic true
noncomputable abbrev OF:=List (Str×FV)
noncomputable def fldsOk(K:Frag)(cls:Addr)(lg:List Str):Bool:=(hasDictIn K cls&&plainOver K cls&&(dS K (.ref cls) "__setattr__"==some (some (.builtin "object.__setattr__"))))&&lg.all fun a=>plainGet K cls a&&(dS K (.ref cls) a==some none)&&(match takerIn K cls a with|some none=>true|_=>false)
noncomputable def objI(names lg:List Str):pD OF:=
 { names:=names,self:="self",attr:=fun o a=>bif lg.contains a then(match o.lookup a with|some (.v d)=>some d|_=>none)else none,
   uz:=fun o a d=>bif lg.contains a&&Nat.ble o.length 100 then some (putF a (.v d) o)else none,
   j0:=fun _ _ _=>none,prim:=fun _ _ _=>none }
theorem Co(x:Str)(f:FV):∀(l:OF),(putF x f l).length<=l.length+1
 | []=>by simp[putF]
 | y ::r=>by
   unfold putF
   split
   . simp
   . have:=Co x f r
     simp only[dg]; lia
section
variable {K:Frag}
theorem Cy{cls x dx:Addr}(h:(bD C o₀ cls x dx).Rep fs fz R):∃es n,(x,bI cls dx)∈R/\(dx,bH es n)∈R/\g6 fz fs es:=by
 refine oj h fun es n R' jU h1 _=>?_
 subst jU
 exact⟨es,n,.head _,.tail _ (.head _),h1⟩
theorem Ly{cls x dx:Addr}(h:(bD C o₀ cls x dx).Rep fs fz R):∃es n pre post,R=pre++(dx,bH es n)::post/\(x,bI cls dx)∈pre/\(∀q∈pre,q.1≠dx)/\(∀q∈post,q.1≠dx)/\g6 fz fs es/\
     ∀es' n',g6 fz fs' es'->(bD C o₀ cls x dx).Rep fs' fz (pre++(dx,bH es' n')::post):=by
 refine cp fun G' k'=>?_
 refine JO h fun es n R' jU h1 h2 h3 h4=>?_
 subst jU
 refine k' ?_
 refine⟨es,n,[(x,bI cls dx)],R',rfl,.head _,fun q hq=>?_,fun q hq=>(h4 q hq).2,h1,fun es' n' h=>⟨es',n',R',rfl,h,h2,h3,h4⟩⟩
 simp only[aY]at hq; subst hq; exact h3
theorem Nd{cls:Addr}{lg:List Str}{a:Str}(hf:fldsOk K cls lg=true)(ha:lg.contains a=true):plainGet K cls a=true/\dS K (.ref cls) a=some none/\takerIn K cls a=some none:=by
 simp only[fldsOk,aM]at hf
 have:=dH.mp hf.2 a (by simpa using ha)
 simp only[aM,beq_iff_eq]at this
 refine⟨this.1.1,this.1.2,?_⟩
 have:=this.2
 split at this
 . assumption
 . cases this
theorem wA{cls x dx:Addr}(R:cH K p az aL mg mb A₀ base av A env C.h₀ C.L d){lg:List Str}(hf:fldsOk K cls lg=true)(h:At (bD C o₀ cls x dx) fs ρ fz s){name:Str}(ha:lg.contains name=true)(hz:fs.length<=100)(hv:Oi fz f v)(hq:∀s',At (bD C o₀ cls x dx) (putF name f fs) ρ fz s'->Q () s'):
   wpAny (model ai w) A (setAttr (.ref x) name v) Q E s:=by
 refine lV (Nd hf ha) fun f1 f2 f3=>?_
 have GY:=hf
 simp only[fldsOk,aM,beq_iff_eq]at GY
 refine cp fun G' k'=>?_
 obtain⟨Ox,tk,m,Rl,rfl,F,N,rp,ap,lc,rf⟩:=id h
 refine XZ (Ly (fs':=putF name f fs) rp) fun es n pre post e'4 h1 h2 h3 h4 h5=>?_
 subst e'4
 refine k' ?_
 have I:InstAt Ox x (bI cls dx) cls (some (bH es n)):=⟨(N _ (aH _ (aH _ h1))).1,rfl,rfl,(N _ (aH _ (aJ _ (.head _)))).1⟩
 have hl:(getL name es).isSome=true:=by
   cases q:fs.lookup name with
   |some f=>obtain⟨v',e,_⟩:=Fe h4 q; exact af e rfl
   |none=>exact af (qB h4 q) rfl
 have hp2:=M9 (fz:=fz) (x:=name) (v:=v) (hs:=qM w.params name) (tk:=tk+1) hv h4
 have MM:∀q∈fz++C.rest,q.1≠dx:=fun q hq e=>ap (dx,bH es n) (aJ _ (.head _)) q hq e.symm
 refine set_dict (s:={ C.s₀ with heap:=Ox,toks:=tk }) (es':=putL name (qM w.params name) (.str name (tk+1)) v es) (n':=putN name es n) F R.X N I rfl GY.1.2 GY.1.1.2 f3 GY.1.1.1 hl rfl
   (news':=(pre++(dx,bH (putL name (qM w.params name) (.str name (tk+1)) v es) (putN name es n))::post)++(fz++C.rest)) ?_ (by refine af hp2.len ?_; have:=Co name f fs; lia) fun h' F' N'=>?_
 . (rewrite [bB,bB]; refine af eY ?_)
   exact AJ (fun q hq=>(bu.mp hq).elim (h3 q) (MM q)) h2
 . refine hq _ ⟨h',_,m,_,rfl,F',N',h5 _ _ hp2,fun q hq r hr=>?_,lc,rf⟩
   simp only[bu,aB]at hq
   rcases hq with hq|rfl|hq
   . exact ap q (aH _ hq) r hr
   . exact ap (dx,bH es n) (aJ _ (.head _)) r hr
   . exact ap q (aJ _ (.tail _ hq)) r hr
theorem oF{o₀:O}{cls x dx:Addr}(R:cH K p az aL mg mb A₀ base av A env C.h₀ C.L d){names lg:List Str}(hf:fldsOk K cls lg=true)(bF:((aj "self"),.ref x)∈C.refs)(uO:∀q∈C.refs,names.contains q.1=false)(hn:∀x∈names,env.kindOf x=some .local)(hk:env.kindOf "self"=some .local):cV ai w A (bD C o₀ cls x dx) env (objI names lg) X x:=by
 have JK:hasDictIn K cls=true:=by simp only[fldsOk,aM]at hf; exact hf.1.1.1
 have get:∀(o:OF) a v,(objI names lg).attr o a=some v->∀ρ fz (s:ak) (Q E:Value->ak->Prop),At (bD C o₀ cls x dx) o ρ fz s->(∀aT s' v',Sub fz aT->At (bD C o₀ cls x dx) o ρ aT s'->VR aT v v'->Q v' s')->wpAny (model ai w) A (getAttr (.ref x) a true) Q E s:=by
   intro o a v h ρ fz s Q E hA hq
   unfold objI at h
   cases q:lg.contains a with
   |false=>simp only[q,cond_false]at h; exact nn h
   | true=>
     simp only[q,cond_true]at h
     split at h
     case h_2=>exact nn h
     case h_1 d' hl=>
       obtain rfl:=sj h
       refine lV (Nd hf q) fun f1 f2 f3=>?_
       exact qz (C:=bD C o₀ cls x dx) R hA (fun Rl hr=>Cy hr) hl f1 JK f2 fun v' s' h' x=>hq fz s' v' (fun _ h=>h) h' x
 exact {
   fh :=fun o=>{
     fn:=R.hk
     loc:=R.hl
     names:=hn
     attr:=fun a v h ρ p1 p2 fz s Q E hA hq=>by
       refine Attribute_name ?_
       refine At.eh hA fun h' tk m Rl F N rp ap lc rf hA=>?_
       refine eN (fY R.hk hk (af R.hl F.ns) (rf _ bF) ?_) (by decide:((aj "self")==("__debug__":Str))=false)
       exact get o a v h ρ fz _ _ _ hA hq
     call:=fun _ _ _=>nn,LD:=fun _ _=>nn,Hl:=fun _ _ _=>nn,v9:=fun h=>ff h }
   hh:=R.hh
   inter:=R.hi
   push:=fun _ _ _ _=>nn
   oZ:=fun _ _ _ _=>nn
   vp:=fun _ _ _ _=>nn
   give:=fun o x o' d h=>by exact nn h
   off:=uO
   self:=.inl bF
   vq:=.inl ⟨hk,(by decide:("self"==("__debug__":Str))=false)⟩
   get:=get
   set :=fun o a d o' h ρ fz s v Q E hA hv hq=>by
     unfold objI at h
     cases q:lg.contains a&&Nat.ble o.length 100 with
     |false=>simp only[q,cond_false]at h; exact nn h
     | true=>
       simp only[q,cond_true]at h
       obtain rfl:=sj h
       rw[aM]at q
       exact wA R hf hA q.1 (oW q.2) (f:=.v d) hv hq
   prim:=fun o ρ st r h=>by cases h }
theorem wY(R:cH K p az aL mg mb A₀ base av A env C.h₀ C.L d){x:Str}(he:bq ai w A C o env ρ e (.str x))(hs:notStar e=true)(g1:nsIn K dc "type"=some none)(g2:nsIn K dc "str"=some none)(k1:env.kindOf "type"=some .globalImplicit)(k2:env.kindOf "str"=some .globalImplicit):
   gi ai w A C o env ρ (.Compare (.Call (.Name "type" p1) [e] [] p2) [.IsNot] [.Name "str" p3] p4) false:=by
 intro fz s Q E h hq
 refine lT (gJ rfl ?_) rfl
 refine jG R h (x:="type") g1 (v:=.type "type") (by kernel_rfl) (by decide) k1 (by decide) ?_
 refine PyProof.Rows.callWith_type1 (fP (he fz s _ E h fun ay s₁ v s1 h1 x1=>?_) (cU hs)) (cU hs) rfl
 refine ic ?_
 refine FQ x1 fun _=>?_
 refine call_type_of (lR _ _ _) (by decide) ?_
 refine jG R h1 (x:="str") g2 (v:=.type "str") (by kernel_rfl) (by decide) k2 (by decide) ?_
 have:kI .IsNot (.type "str") (.type "str")=pure (.bool false):=by kernel_rfl
 exact af this (aA (cF (fz:=fz) (.bool false) rfl fun lG=>hq ay _ s1 (h1.toks lG)))
end
end
noncomputable def vo:List Str:=["_StringIO__newline","_StringIO__buf","_StringIO__pos"]
noncomputable abbrev rZ(i:Nat):List Str:=(locs (aF (bO 10 i))).filter fun x:Str=> !(x==("self":Str))
theorem KO(P:aD):fldsOk (KS P) 587 vo=true:=by kernel_rfl
noncomputable abbrev ig(b:V):OF:=[("_StringIO__newline",.v (.str "\n")),("_StringIO__buf",.v b),("_StringIO__pos",.v (.int 0))]
noncomputable abbrev Te:OF:=[("_StringIO__newline",.v (.str "\n"))]
noncomputable abbrev Td:OF:=[("_StringIO__newline",.v (.str "\n")),("_StringIO__buf",.v (.str ""))]
noncomputable abbrev BK(L:Addr):Env:=envOf "StringIO.__init__" (aF (bO 10 1)) L 357 (.ref 356)
noncomputable abbrev stE(L:Addr):Env:=envOf "StringIO.__translated" (aF (bO 10 2)) L 364 (.ref 363)
theorem H8:∀L,∀x∈rZ 1,(BK L).kindOf x=some .local:=by
 intro L
 have:∀x∈rZ 1,(BK 0).kindOf x=some .local:=by decide +kernel
 exact this
theorem H7:∀L,∀x∈rZ 2,(stE L).kindOf x=some .local:=by
 intro L
 have:∀x∈rZ 2,(stE 0).kindOf x=some .local:=by decide +kernel
 exact this
theorem UA(L:Addr)(T:Str):d7 bE (objI (rZ 2) vo) (stE L) none 60 (ig (.str "")) [("s",.str T)] (aC (bO 10 2)) (fun o _ fl=>some (o,fl))=some (ig (.str ""),.ret (.str T)):=by kernel_rfl
noncomputable abbrev Cc(T:Str):Loc:=[("initial_value",.str T),("newline",.str "\n")]
noncomputable abbrev siC:bG:=(.Call (.Attribute (.Name "self" ⟨215,25,215,29⟩) "_StringIO__translated" ⟨215,25,215,42⟩) [.Name "initial_value" ⟨215,43,215,56⟩] [] ⟨215,25,215,57⟩)
noncomputable abbrev YD:bG:=(.BoolOp .And [.Compare (.Name "newline" ⟨205,11,205,18⟩) [.IsNot] [.Constant .none 0 ⟨205,26,205,30⟩] ⟨205,11,205,30⟩,.Compare (.Call (.Name "type" ⟨205,35,205,39⟩) [.Name "newline" ⟨205,40,205,47⟩] [] ⟨205,35,205,48⟩) [.IsNot] [.Name "str" ⟨205,56,205,59⟩] ⟨205,35,205,59⟩] ⟨205,11,205,59⟩)
noncomputable abbrev YF:List Stmt:=[.Expr (.Call (.Name "_wall" ⟨206,12,206,17⟩) [.Constant (.int 17) 0 ⟨206,18,206,20⟩] [] ⟨206,12,206,21⟩) ⟨206,12,206,21⟩]
noncomputable abbrev YC:bG:=(.BoolOp .And [.Compare (.Name "initial_value" ⟨209,11,209,24⟩) [.IsNot] [.Constant .none 0 ⟨209,32,209,36⟩] ⟨209,11,209,36⟩,.Compare (.Call (.Name "type" ⟨209,41,209,45⟩) [.Name "initial_value" ⟨209,46,209,59⟩] [] ⟨209,41,209,60⟩) [.IsNot] [.Name "str" ⟨209,68,209,71⟩] ⟨209,41,209,71⟩] ⟨209,11,209,71⟩)
noncomputable abbrev YE:List Stmt:=[.Expr (.Call (.Name "_wall" ⟨210,12,210,17⟩) [.Constant (.int 18) 0 ⟨210,18,210,20⟩] [] ⟨210,12,210,21⟩) ⟨210,12,210,21⟩]
noncomputable abbrev YG:Stmt:=.Assign [.Attribute (.Name "self" ⟨215,12,215,16⟩) "_StringIO__buf" ⟨215,12,215,22⟩] siC ⟨215,12,215,57⟩
theorem Py:aC (bO 10 1)=[.If YD YF [] ⟨205,8,206,21⟩,gK (aC (bO 10 1)) 1,.If YC YE [] ⟨209,8,210,21⟩,gK (aC (bO 10 1)) 3,gK (aC (bO 10 1)) 4,gK (aC (bO 10 1)) 5,
 .If (.Compare (.Name "initial_value" ⟨214,11,214,24⟩) [.IsNot] [.Constant .none 0 ⟨214,32,214,36⟩] ⟨214,11,214,36⟩) [YG] [] ⟨214,8,215,57⟩]:=by kernel_rfl
theorem abt(L:Addr)(T:Str)(o:OF):jx (objI (rZ 1) vo) (BK L) 60 o (Cc T) (gK (aC (bO 10 1)) 1)=some (o,Cc T,.next):=by kernel_rfl
theorem abr(L:Addr)(T:Str):jx (objI (rZ 1) vo) (BK L) 60 [] (Cc T) (gK (aC (bO 10 1)) 3)=some (Te,Cc T,.next):=by kernel_rfl
theorem abq(L:Addr)(T:Str):jx (objI (rZ 1) vo) (BK L) 60 Te (Cc T) (gK (aC (bO 10 1)) 4)=some (Td,Cc T,.next):=by kernel_rfl
theorem abp(L:Addr)(T:Str):jx (objI (rZ 1) vo) (BK L) 60 Td (Cc T) (gK (aC (bO 10 1)) 5)=some (ig (.str ""),Cc T,.next):=by kernel_rfl
section
variable {Pm:aD}
theorem Eg{x dx:Addr}(R:cH (KS Pm) p az aL mg mb A₀ base av A env C.h₀ C.L (d+1))(h:At (bD C o₀ 587 x dx) (ig (.str "")) ρ fz s){T:Str}(hv:VR fz (.str T) v)(hq:∀aT s' v,Sub fz aT->At (bD C o₀ 587 x dx) (ig (.str "")) ρ aT s'->VR aT (.str T) v->Q v s'):wpAny (model ai w) A (call (.ref 364) [.ref x,v]) Q E s:=by
 refine gk ?_
 exact j8 (C:=bD C o₀ 587 x dx) R h 10 2 "__translated" "StringIO.__translated" (dV:=.none) (f:=364) [("self",.ref x),("s",v)] (by kernel_rfl) (by kernel_rfl) (iN (by kernel_rfl)) (by kernel_rfl) (by kernel_rfl) rfl (qu (n:="s") rfl hv r7) (.inl rfl)
   (fun g L' R'=>Sn (oF (C:=aV C g L' [("self",.ref x)]) (o₀:=o₀) (cls:=587) (x:=x) (dx:=dx) (names:=rZ 2) (lg:=vo) R' (KO Pm) (.head _) (wK ((show(rZ 2).contains "self"=false by decide +kernel)) TL) (H7 _) (by kernel_rfl)) (UA L' T)) hq
theorem yX{x dx:Addr}(R:cH (KS Pm) p az aL mg mb A₀ base av A env C.h₀ C.L (d+2))(h:At (bD C o₀ 587 x dx) [] ρ fz s){T:Str}(hv:VR fz (.str T) v)(hq:∀aT s',Sub fz aT->At (bD C o₀ 587 x dx) (ig (.str T)) ρ aT s'->Re (.ok (.ret .none)) s'):fN (model ai w) A (.call (.ref 357) ⟨[.ref x,v],[]⟩) Re s:=by
 refine gB h.nO fun U8 A8 FH Xg=>?_
 refine j8 (C:=bD C o₀ 587 x dx) R h 10 1 "__init__" "StringIO.__init__" (dV:=.ref 350) (cd:=356) (f:=357) [("self",.ref x),("initial_value",v),("newline",.str "\n" 671)] (by kernel_rfl) (by kernel_rfl) (kp_binds (R.rD FH) fun S=>by kernel_rfl) (by kernel_rfl) (by kernel_rfl) rfl (qu (n:="initial_value") rfl hv (qu (n:="newline") rfl (.str _ _) r7)) (.inr ⟨rfl,rfl⟩) (fun g L' R'=>?_) fun aT s' v sb hA hv=>af (mS hv) (hq aT s' sb hA)
 have IK:=oF (ai:=ai) (w:=w) (K:=KS Pm) (C:=aV C g L' [("self",.ref x)]) (o₀:=o₀) (cls:=587) (x:=x) (dx:=dx) (names:=rZ 1) (lg:=vo) (X:=fun _ _ _ _=>False) R' (KO Pm) (.head _) (wK ((show(rZ 1).contains "self"=false by decide +kernel)) TL) (H8 _) (by kernel_rfl)
 have hnl:∀ {o pos},bq ai w (A.deeper (BK L')) (bD (aV C g L' [("self",.ref x)]) o₀ 587 x dx) o (BK L') (Cc T) (.Name "newline" pos) (.str "\n"):=fun {o pos}=>fM (IK.fh o) (x:="newline") (show(rZ 1).contains "newline"=true by decide +kernel) (by decide +kernel) rfl
 have hiv:∀ {o pos},bq ai w (A.deeper (BK L')) (bD (aV C g L' [("self",.ref x)]) o₀ 587 x dx) o (BK L') (Cc T) (.Name "initial_value" pos) (.str T):=fun {o pos}=>fM (IK.fh o) (x:="initial_value") (show(rZ 1).contains "initial_value"=true by decide +kernel) (by decide +kernel) rfl
 refine af Py ?_
 have s0:cK ai w (A.deeper (BK L')) (bD (aV C g L' [("self",.ref x)]) o₀ 587 x dx) (BK L') (fun _ _ _ _=>False) [] (Cc T) (.If YD YF [] ⟨205,8,206,21⟩) ([],Cc T,.next):=
   jY (c:=false) (kW (t:=true) (wZ hnl (fq rfl) rfl rfl rfl) (by simp only[if_true]; exact rX (wY (C:=bD (aV C g L' _) o₀ 587 x dx) R' hnl rfl (by kernel_rfl) (by kernel_rfl) (by kernel_rfl) (by kernel_rfl)))) (by simp only[qO,if_false]; exact ja)
 have s2:cK ai w (A.deeper (BK L')) (bD (aV C g L' [("self",.ref x)]) o₀ 587 x dx) (BK L') (fun _ _ _ _=>False) [] (Cc T) (.If YC YE [] ⟨209,8,210,21⟩) ([],Cc T,.next):=
   jY (c:=false) (kW (t:=true) (wZ hiv (fq rfl) rfl rfl rfl) (by simp only[if_true]; exact rX (wY (C:=bD (aV C g L' _) o₀ 587 x dx) R' hiv rfl (by kernel_rfl) (by kernel_rfl) (by kernel_rfl) (by kernel_rfl)))) (by simp only[qO,if_false]; exact ja)
 have ec:bq ai w (A.deeper (BK L')) (bD (aV C g L' [("self",.ref x)]) o₀ 587 x dx) (ig (.str "")) (BK L') (Cc T) siC (.str T):=by
   intro fz s Q E h hq
   refine d9 (pl:=_) ?_ (iJ (v:=.Name "self" ⟨215,25,215,29⟩) rfl rfl (by simp) rfl)
   refine pL (C:=bD (aV C g L' _) o₀ 587 x dx) R' (.head _) (by kernel_rfl) (by decide) _ _ _ _ h fun s₁ h1=>?_
   refine Ba (C:=bD (aV C g L' _) o₀ 587 x dx) (K:=KS Pm) R' h1 (fun Rl hr=>Cy hr) rfl (f:=364) (by kernel_rfl) (by kernel_rfl) (by kernel_rfl) (by kernel_rfl) rfl rfl ?_
   refine(cC rfl hiv fC) _ fz _ _ E h1 fun ay s₁ vs s1 h1 x1=>?_
   refine Sg x1 fun _ v1=>?_
   exact⟨⟨_,_,_,h1⟩,Eg (C:=aV C g L' [("self",.ref x)]) R' h1 v1 fun aO aX v s2 h2 x2=>hq aO aX v (fun p hp=>s2 p (s1 p hp)) h2 x2⟩
 have s6:cK ai w (A.deeper (BK L')) (bD (aV C g L' [("self",.ref x)]) o₀ 587 x dx) (BK L') (fun _ _ _ _=>False) (ig (.str "")) (Cc T) (.If (.Compare (.Name "initial_value" ⟨214,11,214,24⟩) [.IsNot] [.Constant .none 0 ⟨214,32,214,36⟩] ⟨214,11,214,36⟩) [YG] [] ⟨214,8,215,57⟩) (ig (.str T),Cc T,.next):=
   jY (c:=true) (wZ hiv (fq rfl) rfl rfl rfl) (by simp only[if_true]; exact aQ (AQ IK rfl ec (by kernel_rfl)) ja)
 exact⟨_,aQ s0 (aQ (dN IK (abt L' T [])) (aQ s2 (aQ (dN IK (abr L' T)) (aQ (dN IK (abq L' T)) (aQ (dN IK (abp L' T)) (aQ s6 ja))))))⟩
end
section
open PySem PySem.Calls PyProof.Rows PySem.W Builtin Builtin.ObjectAttr Builtin.Getset_descriptor
theorem rO:entryFor table "dict.fromkeys.loop"=some Builtin.«dict.fromkeys.loop» :=kF (by kernel_rfl)
theorem Nh:entryFor table "dict.fromkeys"=some Builtin.«dict.fromkeys» :=kF (by kernel_rfl)
theorem rM:(Code.builtin "dict.fromkeys.loop" as).quiet=true:=uc _ (by decide +kernel)
theorem Nf:(Code.builtin "dict.fromkeys" as).quiet=true:=uc _ (by decide +kernel)
theorem yq:checkTypeCall "dict" ⟨[],[]⟩=pure ():=by kernel_rfl
theorem zj:checkBuiltinCall "dict.__new__" ⟨[.type "dict"],[]⟩=pure ():=by kernel_rfl
theorem Fo(a:Value):argsOk "dict.__init__" ⟨[a],[]⟩:=by unfold argsOk; kernel_rfl
noncomputable def keysL:List Nat->List (Str×Value)->List (Str×Value)
 | [],JF=>JF
 |c::r,JF=>keysL r (stored JF (S [c]) .none)
section
theorem FA(h:Q (.ref s.heap.objs.size) { s with heap:=s.heap.push { cls:=.type "dict",data:=.dict #[] } }):wpAny (model ai w) A (call (.type "dict") []) Q E s:=by
 have hn:fN (model ai w) A.in1 (.call (.builtin "dict.__new__") ⟨[.type "dict"],[]⟩) (wants (fun obj s₁=>obj= .ref s.heap.objs.size/\s₁= { s with heap:=s.heap.push { cls:=.type "dict",data:=.dict #[] } }) E) s:=by
   refine codeAny_call_builtin PySem.F.kt_plain_dict_new PySem.F.kt_entry_dict_new (fW zj ?_)
   have abO:=PySem.F.kt_sub_dict
   have acg:=PySem.F.kt_mro_dict
   obtain⟨hp,g,d,tk,os⟩:=s
   unfold Builtin.«dict.__new__»
   wp_walk
   exact⟨rfl,rfl⟩
 refine callType_codes (Q₁:=fun obj s₁=>obj= .ref s.heap.objs.size/\s₁= { s with heap:=s.heap.push { cls:=.type "dict",data:=.dict #[] } }) PySem.F.kt_called_dict yq PySem.F.entry_dict_init hn ?_
 rintro obj s₁ ⟨rfl,rfl⟩
 have I6:(s.heap.push { cls:=.type "dict",data:=.dict #[] }).DictOf (strKind ai w) s.heap.objs.size []:=Heap.DictOf.new s.heap
 refine⟨I6.typeIs,Fo _,?_⟩
 unfold Builtin.«dict.__init__»
 refine ao ?_
 unfold Builtin.Dict.selfAndRest
 refine ao (wpAny_notOrdered_dict I6.typeIs ?_)
 show wpAny _ _ (pure (s.heap.objs.size,([]:List Value))) _ _ _
 refine aA ?_
 exact ao (aA (aA ⟨rfl,h⟩))
theorem RL{it d:Addr}{M:List Nat}{St:Nat->aE->Prop}(W:∀A':cy,A'.handled=none->Walks ai w A' it [it] [it] M.length (SignAt (S M)) St)(nS:it≠d)(hh:A.handled=none)(b1:base.get? it=none)(b2:base.get? d=none)(hz:M.length<=100):
   ∀n i (s:ak) JF,n+i=M.length->St i s.heap->s.heap.DictOf (strKind ai w) d JF->JF.length<=i->(∀b o,base.get? b=some o->s.heap.get? b=some o)->
   (∀h' tk,h'.DictOf (strKind ai w) d (keysL (M.drop i) JF)->(∀b o,base.get? b=some o->h'.get? b=some o)->R (.ok (.ret (.ref d))) { s with heap:=h',toks:=tk })->
   fN (model ai w) A (.builtin "dict.fromkeys.loop" ⟨[.ref d,.ref it,.none],[]⟩) R s:=by
 intro n
 induction n with
 | zero=>
   intro i s JF hn st hd hk kb hq
   refine oS rO ?_
   unfold Builtin.«dict.fromkeys.loop»
   have hu:(A.under (.builtin "dict.fromkeys.loop" ⟨[.ref d,.ref it,.none],[]⟩)).handled=none:=hh
   have hi:i=M.length:=by lia
   subst hi
   refine ao ((W _ hu).done s _ _ st fun h' tk keep=>?_)
   refine aA (hq h' tk ?_ fun b o e=>keep b o ?_ (kb b o e))
   . have hdr:M.drop M.length=[]:=qf
     refine af hdr ?_
     refine cp fun G' k'=>?_
     refine yV hd fun o es ep ho r=>?_
     refine k' ?_
     exact⟨o,es,ep,keep d o (by simpa using fun e=>nS e.symm) ho,r⟩
   . simp only[aY]
     rintro rfl
     rw[b1]at e; cases e
 | succ n ih=>
   intro i s JF hn st hd hk kb hq
   refine oS rO ?_
   unfold Builtin.«dict.fromkeys.loop»
   have hu:(A.under (.builtin "dict.fromkeys.loop" ⟨[.ref d,.ref it,.none],[]⟩)).handled=none:=hh
   have hi:i<M.length:=by lia
   refine ao ((W _ hu).item i s _ _ hi st fun v h' tk hv fE keep=>?_)
   refine gB hv fun c u hc jU=>?_
   subst jU
   have Wt:h'.DictOf (strKind ai w) d JF:=by
     refine yV hd fun o es ep ho r=>?_
     exact⟨o,es,ep,keep d o (by simpa using fun e=>nS e.symm) ho,r⟩
   have ZU:∀b o,base.get? b=some o->h'.get? b=some o:=fun b o e=>keep b o (by
     simp only[aY]
     rintro rfl
     rw[b1]at e; cases e) (kb b o e)
   refine ao (wpAny_typeOf (s:={ s with heap:=h',toks:=tk }) Wt.typeIs ?_)
   refine KFB.if_so (by decide) ?_
   refine ao (fW (a:=d) rfl ?_)
   refine ao (iQ (wpAny_dictSet_pairs (s:={ s with heap:=h',toks:=tk }) (strKind_is ai w ⟨#[c]⟩ u) Wt (fun gY GZ sb=>?_) (by refine af dh ?_; lia)))
   refine aA ⟨rM,?_⟩
   have hM:M.drop i=c::M.drop (i+1):=by
     refine af (List.drop_eq_getElem_cons hi) ?_
     have:M[i]? =some c:=by simpa [S]using hc
     rw[List.getElem?_eq_getElem hi]at this
     (refine af (oU this) ?_; rfl)
   refine ih (i+1) { s with heap:=gY,toks:=tk+1 } (stored JF (S [c]) .none) (by lia) ?_ GZ ?_ (fun b o e=>?_) fun kZ zw aah ZT=>?_
   . refine(W A hh).frame _ _ _ fE fun b hb o e=>?_
     simp only[aY]at hb
     subst hb
     exact af (sb.2 b nS) e
   . have:=stored_length_le JF (S [c]) .none
     lia
   . have hbd:b≠d:=by rintro rfl; rw[b2]at e; cases e
     exact af (sb.2 b hbd) (ZU b o e)
   . refine hq kZ zw ?_ ZT
     exact af hM aah
noncomputable def Ag:Obj:={ cls:=.type "builtin_function_or_method",data:=.fields #[.builtin "dict.fromkeys",.type "dict"] }
theorem RJ:typeOf (.builtin "dict.fromkeys")=pure (.type "classmethod_descriptor"):=by show builtinType _=_; refine af qK ?_; kernel_rfl
theorem zq:isType (.type "dict")=pure true:=by first|rfl|kernel_rfl|(unfold isType; rw[jH]; kernel_rfl)
theorem Ng:(kfb_private% "ownerAndName") "dict.fromkeys"=("dict","fromkeys"):=by first|decide +kernel|kernel_rfl
theorem WI(h:P (.done (.ret (.ref s.heap.objs.size))) { s with heap:=s.heap.push Ag }):
   wpAny M A (Builtin.«classmethod_descriptor.__get__» ⟨[.builtin "dict.fromkeys",.none,.type "dict"],[]⟩) P E s:=by
 unfold Builtin.«classmethod_descriptor.__get__»
 refine ao (fW (a:=(.builtin "dict.fromkeys",none,some (.type "dict"))) (by first|rfl|kernel_rfl) ?_)
 simp only[Ng]
 refine ao (fW (a:=.type "dict") rfl ?_)
 refine ao (fW (a:=true) zq ?_)
 refine gP rfl ?_
 refine ao (fW (a:=true) PySem.F.kt_sub_dict ?_)
 refine gP rfl ?_
 exact ao (wpAny_newObj_type (aA h))
theorem RM{K:Frag}{L:Addr}(F:Fr h₀ L s.heap m)(Xe:K.In h₀)(h:Q (.ref s.heap.objs.size,[]) { s with heap:=s.heap.push Ag,toks:=s.toks+1 }):
   wpAny (model ai w) A (ie (.type "dict") "fromkeys" pl) Q E s:=by
 have X:=Xe.keeps F.keep
 have MK:qg (.type "dict")=pure none:=by unfold qg; dsimp only; exact af (show Manifest.isStub "dict"=false by decide +kernel) rfl
 have ht:typeOf (.type "dict")=pure (.type "type"):=by first|rfl|kernel_rfl
 have L0:Looks (model ai w) s.heap (typeOf (.type "dict")) (.type "type"):=Looks.of_pure ht
 have hg:dS K (.type "type") "__getattribute__"=some (some (.builtin "type.__getattribute__")):=type_tga
 have e:findCls K (.type "dict") (.type "type") "fromkeys"=some (.get (.builtin "classmethod_descriptor.__get__") (.builtin "dict.fromkeys") .none (.type "dict")):=by kernel_rfl
 unfold ie specialOf
 refine ao (ao (L0.here ((looks_findIn X hg).here ?_)))
 dsimp only
 refine af (if_pos canon_tga) ?_
 refine ao (fD (Q:=fun v=>Q (v,[])) (E:=E) ?_ (fun _ _ z=>aA z) fun _ _ z=>z)
 have LO:Looks (model ai w) s.heap (qg (.type "dict")) none:=Looks.of_pure MK
 refine cls_open X LO L0 hg (looks_hook X (r:=none) rfl) (by show subIn K _ _=_; rfl) e ?_
 show wpAny _ _ (holding [.builtin "dict.fromkeys"] (call (.builtin "classmethod_descriptor.__get__") [.builtin "dict.fromkeys",.none,.type "dict"]) >>= fun v=>ret v) _ _ _
 exact ao (iQ (qJ KFB.slot_get RJ KFB.entry_get (WI ⟨_,rfl,aA (aA h)⟩) (KFB.args_get _ _ _)))
theorem Dk{u:Addr}(hs:notStar e=true)(h:wpAny M A (spliced (eX pos (dI [e] env))) (fun vs s₁=>s₁.heap.get? u=some Ag/\wpAny M A (call (.ref u) vs) Q E s₁) E s):
   wpAny M A (callWith pos (.ref u) [] (eX pos (dI [e] env)) []) Q E s:=by
 have he:dI [e] env=(false,eval e env)::dI [] env:=cU hs
 rw[he]at h |-
 unfold callWith
 have h':wpAny M A (evalArgs (.ref u) true (eX pos ((false,eval e env)::dI [] env)) []) (fun x s₁=>s₁.heap.get? u=some Ag/\wpAny M A (call (.ref u) ([]++x.pos) x.kw) Q E s₁) E s:=Calls.evalArgs_plain h
 refine ao (iQ (fD h' (fun x s₁ cj=>ao (wpAny_standAt ?_)) fun _ _ x=>x))
 refine bx cj fun ho aaj=>?_
 have Wh:(eX pos ((false,eval e env)::dI [] env)).any (·.1)=false:=rfl
 simp only[Wh,List.any_nil,Bool.or_false]
 refine ao (m:=keeperOf (.ref u)) ?_
 unfold keeperOf
 refine ao (wpAny_load ho ?_)
 skip
 refine aA ?_
 exact ao (fD aaj (fun r aX hr=>ao (iQ (wpAny_point (aA hr)))) fun _ _ x=>x)
theorem Ni(x:Str)(t:Tok):checkBoundCall "dict.fromkeys" ⟨[.type "dict",.str x t],[]⟩=pure ():=by first|kernel_rfl|rfl
theorem RN{u:Addr}{M:List Nat}{t:Tok}(hh:A.handled=none)(hz:M.length<=100)(ho:s.heap.get? u=some Ag)(h:∀h' tk,h'.DictOf (strKind ai w) s.heap.objs.size (keysL M [])->(∀b o,s.heap.get? b=some o->h'.get? b=some o)->Q (.ref s.heap.objs.size) { s with heap:=h',toks:=tk }):
   wpAny (model ai w) A (call (.ref u) [.str (S M) t]) Q E s:=by
 refine gk (codeAny_of_tree ?_)
 show wpAny _ A.in1 (callAny (.ref u) ⟨[.str (S M) t],[]⟩) _ _ s
 simp only[callAny]
 refine ao (wpAny_load ho ?_)
 skip
 refine KFB.if_so (by decide) ?_
 refine ao (fW (a:=()) (Ni _ _) ?_)
 refine ao (aA (aA ⟨Nf,oS Nh ?_⟩))
 unfold Builtin.«dict.fromkeys»
 refine ao (fW (a:=true) zq ?_)
 refine gP rfl ?_
 refine ao (fW (a:=true) PySem.F.kt_sub_dict ?_)
 refine gP rfl ?_
 refine gP rfl ?_
 refine ao (wpAny_rule ?_)
 refine ao (aA ?_)
 refine ao (FA ?_)
 have I6:(s.heap.push { cls:=.type "dict",data:=.dict #[] }).DictOf (strKind ai w) s.heap.objs.size []:=Heap.DictOf.new s.heap
 refine iQ ?_
 refine ao (wpAny_typeOf (lR _ _ _) ?_)
 refine ao (wpAny_typeOf (s:={ s with heap:=s.heap.push { cls:=.type "dict",data:=.dict #[] } }) I6.typeIs ?_)
 refine gP (by decide) ?_
 refine ao (wpAny_typeOf (s:={ s with heap:=s.heap.push { cls:=.type "dict",data:=.dict #[] } }) I6.typeIs ?_)
 refine gP (by decide) ?_
 refine ao (wpAny_pyIter_str fun o St W h0=>?_)
 refine aA ⟨rM,?_⟩
 have hsz:(s.heap.push { cls:=.type "dict",data:=.dict #[] }).objs.size=s.heap.objs.size+1:=oR _ _
 refine RL (it:=(s.heap.push { cls:=.type "dict",data:=.dict #[] }).objs.size) (d:=s.heap.objs.size) (M:=M) (St:=St) W (af hsz (Nat.succ_ne_self _)) hh (base:=s.heap) ?_ ?_ hz M.length 0 _ [] (by lia) h0 (I6.push o) (bC _) (fun b ob e=>?_) fun h' tk hd kb=>?_
 . cases q:s.heap.get? (s.heap.push { cls:=.type "dict",data:=.dict #[] }).objs.size with
   |none=>rfl
   |some o'=>have:=ek q; rw[hsz]at this; exact absurd this (Nat.not_lt.mpr (iX _))
 . cases q:s.heap.get? s.heap.objs.size with
   |none=>rfl
   |some o'=>exact absurd (ek q) (iY _)
 . exact Heap.get?_push_of_some _ (Heap.get?_push_of_some _ e)
 . exact h h' tk hd kb
end
end
section
open PySem PySem.Calls PyProof.Rows PySem.W Builtin Builtin.ObjectAttr Builtin.Getset_descriptor
theorem Gw:typeOf (.builtin "str.maketrans")=pure (.type "builtin_function_or_method"):=by show builtinType _=_; refine af qK ?_; kernel_rfl
theorem O8:typeOf (.builtin "str.translate")=pure (.type "method_descriptor"):=by show builtinType _=_; refine af qK ?_; kernel_rfl
theorem zO:typeLookup (.type "str") "maketrans"=pure (some (.builtin "str.maketrans")):=by(rewrite [iP]; refine af iO ?_); kernel_rfl
theorem Vb:typeLookup (.type "builtin_function_or_method") "__get__"=pure none:=by(rewrite [iP]; refine af iO ?_); kernel_rfl
theorem U9:typeLookup (.type "builtin_function_or_method") "__set__"=pure none:=by(rewrite [iP]; refine af iO ?_); kernel_rfl
theorem Vc:typeLookup (.type "builtin_function_or_method") "__delete__"=pure none:=by(rewrite [iP]; refine af iO ?_); kernel_rfl
theorem LR:entryFor table "str.maketrans"=some Builtin.«str.maketrans» :=kF (by kernel_rfl)
theorem Kq:entryFor table "str.translate"=some Builtin.«str.translate» :=kF (by kernel_rfl)
theorem LS(a:Addr):checkBuiltinCall "str.maketrans" ⟨[.ref a],[]⟩=pure ():=by kernel_rfl
section
variable {h:aE}{g:Array GenState}{d:Drawn}{t:Nat}{os:OsState}{x:Str}{u:Tok}
theorem Qo{tk:Tok}(hq:Q (.done (.ret (.builtin "str.maketrans"))) ⟨h,g,d,t,os⟩):
   wpAny (model ai w) A (Builtin.«object.__getattribute__» ⟨[.str x u,.str "maketrans" tk],[]⟩) Q E ⟨h,g,d,t,os⟩:=by
 have hT:(⟨h,g,d,t,os⟩:ak).TypeIs (.str x u) "str":=rfl
 have f4:=zO
 have f5:=Gw
 have f6:=Vb
 have f7:=U9
 have f8:=Vc
 repeat (any_goals (first|assumption|wp_step))
theorem Qn{tk:Tok}(hq:R (.ok (.ret (.builtin "str.maketrans"))) ⟨h,g,d,t,os⟩):
   fN (model ai w) A (.call (.builtin "object.__getattribute__") ⟨[.str x u,.str "maketrans" tk],[]⟩) R ⟨h,g,d,t,os⟩:=
 codeAny_call_builtin PySem.F.slot_str_getattribute.plain PySem.F.entry_object_getattribute (PySem.F.slot_str_getattribute.check _ _ _ _ _ _ _ _ (show(⟨h,g,d,t,os⟩:ak).TypeIs (.str x u) "str" from rfl) (PySem.F.args_object_getattribute_2 _ _) (Qo hq))
theorem Zc{tk:Tok}(hq:Q (.builtin "str.maketrans") ⟨h,g,d,t,os⟩):wpAny (model ai w) A (getAttrBy (.str x u) (.str "maketrans" tk) true false) Q E ⟨h,g,d,t,os⟩:=by
 have hT:(⟨h,g,d,t,os⟩:ak).TypeIs (.str x u) "str":=rfl
 have f2:=PySem.F.slot_str_getattribute.lookup
 have f3:=PySem.F.slot_str_getattribute.bind (.str x u)
 repeat (any_goals (first|assumption|wp_step))
 refine Qn ?_
 repeat (any_goals (first|assumption|wp_step))
theorem uQ{T:String}{name:Str}{id:String}{Q:Value×List Value->ak->Prop}(hT:s.TypeIs v T)(pa:PlainAttrs T)(hl:typeLookup (.type T) name=pure (some (.builtin id)))(hty:typeOf (.builtin id)=pure (.type "builtin_function_or_method"))(h:wpAny M A (getAttr v name) (fun r=>Q (r,[])) E s):wpAny M A (ie v name pl) Q E s:=by
 refine au pa.ga fun g hg ack=>?_
 unfold ie
 refine ao (wpAny_specialOf hT hg ?_)
 show wpAny M A (if(Manifest.canonical g !="object.__getattribute__")=true then _ else _) Q E s
 refine af ack (af (if_neg u7) ?_)
 refine ao (wpAny_specialOf hT pa.noGetattr ?_)
 refine ao (wpAny_specialOf hT hl ?_)
 refine ao (fW hty ?_)
 refine KFB.if_so (by decide) ?_
 exact ao (fD h (fun r s' hr=>aA hr) fun _ _ e=>e)
theorem Qm(hq:Q (.builtin "str.maketrans",[]) { s with toks:=s.toks+1 }):wpAny (model ai w) A (ie (.str x u) "maketrans" pl) Q E s:=by
 refine uQ (M:=model ai w) (v:=.str x u) (T:="str") (name:="maketrans") (id:="str.maketrans") ?h1 ?h2 ?h3 ?h4 ?h5
 case h1=>exact lR _ _ _
 case h2=>exact PySem.F.plainAttrs_str
 case h3=>exact zO
 case h4=>exact Gw
 unfold getAttr
 refine ao (wpAny_mkText ?_)
 exact Zc (h:=s.heap) (g:=s.gens) (d:=s.drawn) (t:=s.toks+1) (os:=s.os) hq
end
end
section
open PySem PySem.Calls PyProof.Rows PySem.W Builtin Builtin.ObjectAttr Builtin.Getset_descriptor
noncomputable def onceL:List Nat->List Nat->List Nat
 | [],cs=>cs
 |c::r,cs=>onceL r (if c∈cs then cs else cs++[c])
theorem zP(x:Nat):∀(M cs:List Nat),x∈onceL M cs↔x∈cs\/x∈M
 | [],cs=>by simp[onceL]
 | c ::r,cs=>by
   unfold onceL
   rw[zP x r]
   by_cases h:c∈cs
   . (refine af (if_pos h) ?_; rw[aB])
     constructor
     . rintro(h1|h1)
       . exact .inl h1
       . exact .inr (.inr h1)
     . rintro(h1|rfl|h1)
       . exact .inl h1
       . exact .inl h
       . exact .inr h1
   . (refine af (if_neg h) ?_; rw[bu,aY,aB,or_assoc])
theorem zK:∀(M cs:List Nat),(onceL M cs).length<=cs.length+M.length
 | [],cs=>by simp[onceL]
 | c::r,cs=>by
   unfold onceL
   have:=zK r (if c∈cs then cs else cs++[c])
   by_cases h:c∈cs
   . rw[if_pos h]at *; simp only[dg]; lia
   . rw[if_neg h]at *; simp only[dg,aR,iF]at *; lia
noncomputable abbrev ju(cs:List Nat):List (Str×Value):=cs.map fun c=>(S [c],.none)
noncomputable abbrev fK(cs:List Nat):List (Int×Value):=cs.map fun(c:Nat)=>((c:Int),.none)
theorem aaJ{a b:Nat}(h:S [a]=S [b]):a=b:=by
 injection h with h; simpa using h
theorem El(cs:List Nat)(c:Nat):stored (ju cs) (S [c]) .none=ju (if c∈cs then cs else cs++[c]):=by
 unfold stored
 by_cases h:c∈cs
 . have:(ju cs).any (fun kv=>decide (kv.1=S [c]))=true:=List.any_eq_true.mpr ⟨(S [c],.none),bZ.mpr ⟨c,h,rfl⟩,by simp⟩
   refine af (if_pos this) (af (if_pos h) (af fL ?_))
   refine List.map_congr_left fun x _=>?_
   show(if S [x]=S [c]then(S [x],Value.none)else(S [x],Value.none))=_
   split <;> rfl
 . have:¬(ju cs).any (fun kv=>decide (kv.1=S [c]))=true:=fun h2=>by
     refine au (List.any_eq_true.mp h2) fun kv h3 h4=>?_
     refine au (bZ.mp h3) fun x hx iU=>?_
     subst iU
     have:=aaJ (of_decide_eq_true h4)
     subst this; exact h hx
   refine af (if_neg this) (af (if_neg h) ?_); simp[ju]
theorem CW:∀(M cs:List Nat),keysL M (ju cs)=ju (onceL M cs)
 | [],_=>rfl
 | c::r,cs=>by
   unfold keysL onceL
   rw[El,CW r]
theorem Em(cs:List Nat)(c:Nat)(h:c∉cs):stored (fK cs) (c:Int) .none=fK (cs++[c]):=by
 unfold stored
 have:¬(fK cs).any (fun kv=>decide (kv.1=(c:Int)))=true:=fun h2=>by
   refine au (List.any_eq_true.mp h2) fun kv h3 h4=>?_
   refine au (bZ.mp h3) fun x hx iU=>?_
   subst iU
   have e:(x:Int)=c:=of_decide_eq_true h4
   have:x=c:=by lia
   subst this; exact h hx
 refine af (if_neg this) ?_; simp[fK]
theorem vA:∀(M cs:List Nat),cs.Nodup->(onceL M cs).Nodup
 | [],_,h=>h
 | c ::r,cs,h=>by
   unfold onceL
   refine vA r _ ?_
   split
   . exact h
   . rename_i q
     rw[List.nodup_append]
     refine⟨h,by simp,fun a ha b hb=>?_⟩
     simp only[aY]at hb; subst hb
     rintro rfl; exact q ha
section
theorem Ph{c:Nat}(h:(PySem.strKind ai w).is (S [c]) v=true):∃t,v= .str (S [c]) t:=by
 unfold PySem.strKind at h
 cases v <;> simp[Value.isStrOf]at h
 exact⟨_,by(refine af h ?_; rfl)⟩
theorem Gx{tb:Addr}(hb:base.get? tb=none)(hf:∀(e:iZ) (c:Nat) (t:Tok),e.key= .str (S [c]) t->f e ⟨⟩=(do let v <-mkInt (c:Int); dictSet tb v e.val; pure (n5 ⟨⟩))):
   ∀(es:List iZ) (cs ds:List Nat) (s:ak) {Q:PUnit->ak->Prop},PySem.Pairs (PySem.strKind ai w) es (ju cs)->s.heap.DictOf (mO ai w) tb (fK ds)->(ds++cs).Nodup->ds.length+cs.length<=1000->(∀b o,base.get? b=some o->s.heap.get? b=some o)->
   (∀h' tk,h'.DictOf (mO ai w) tb (fK (ds++cs))->(∀b o,base.get? b=some o->h'.get? b=some o)->Q ⟨⟩ { s with heap:=h',toks:=tk })->
   wpAny (model ai w) A (forIn es PUnit.unit f) Q E s
 | [],[],ds,s,Q,_,hd,_,_,kb,hq=>by
   have:=hq s.heap s.toks (by simpa using hd) kb
   exact aA this
 | e ::es,c::cs,ds,s,Q,hp,hd,hn,hz,kb,hq=>by
   cases hp with
   | cons h1 h2 h3=>
     refine cE (Ph h1) fun t ht=>?_
     (rewrite [List.forIn_cons]; refine af (hf e c t ht) ?_)
     have hv:e.val= .none:=h2
     refine af hv ?_
     refine ao (ao (wpAny_mkInt (ao ?_)))
     refine wpAny_dictSet_pairs (s:={ s with toks:=s.toks+1 }) (intKind_is ai w (c:Int) _) hd (fun gY GZ sb=>?_) (by(rewrite [bM]; refine af dh ?_); lia)
     refine aA ?_
     have hc:c∉ds:=fun h=>by
       rw[List.nodup_append]at hn
       exact hn.2.2 c h c (.head _) rfl
     rw[Em ds c hc]at GZ
     refine Gx hb hf es cs (ds++[c]) _ h3 GZ (by rw[bB]; exact hn) (by simp only[aR,dg,iF]at *; lia) (fun b o q=>?_) fun h' tk Wt ZU=>?_
     . have:b≠tb:=by rintro rfl; rw[hb]at q; exact nn q
       exact af (sb.2 b this) (kb b o q)
     . refine hq h' tk ?_ ZU
       rw[bB]at Wt; exact Wt
 | [],_::_,_,_,_,hp,_,_,_,_,_=>by cases hp
 |_::_,[],_,_,_,hp,_,_,_,_,_=>by cases hp
theorem Va{d:Addr}{M:List Nat}{P:Fin->ak->Prop}(hd:s.heap.DictOf (strKind ai w) d (keysL M []))(hm:(d==jQ)=false)(hz:M.length<=100)(h:∀h' tk,h'.DictOf (mO ai w) s.heap.objs.size (fK (onceL M []))->(∀b o,s.heap.get? b=some o->h'.get? b=some o)->P (.done (.ret (.ref s.heap.objs.size))) { s with heap:=h',toks:=tk }):
   wpAny (model ai w) A (Builtin.«str.maketrans» ⟨[.ref d],[]⟩) P E s:=by
 unfold Builtin.«str.maketrans»
 refine ao (fW (a:=()) rfl ?_)
 refine ao (fW (a:=()) rfl ?_)
 dsimp only[List.headD,List.getElem?_cons_succ,List.getElem?_nil,Option.mapM]
 refine ao (aA (ao (aA (ao ?_))))
 refine wpAny_newObj_type ?_
 have hT:Shared.TypeIs { s with heap:=s.heap.push { cls:=.type "dict",data:=.dict #[] } } (.ref d) "dict":=(hd.push { cls:=.type "dict",data:=.dict #[] }).typeIs
 dsimp only
 refine ao (iQ ?_)
 refine ao (wpAny_typeOf hT ?_)
 refine ao (fW (a:=()) rfl ?_)
 refine ao (wpAny_typeOf hT ?_)
 refine gP (by decide) ?_
 refine ao (fW (a:=()) (by unfold notTheModulesDict; refine af hm ?_; rfl) ?_)
 have hk:keysL M []=ju (onceL M []):=CW M []
 rw[hk]at hd
 refine X4 hd fun o es ep ho hc acj hks hp hn=>?_
 have hb:s.heap.get? s.heap.objs.size=none:=by
   cases q:s.heap.get? s.heap.objs.size with
   |none=>rfl
   |some o'=>exact absurd (ek q) (iY _)
 refine ao (wpAny_dictEntries (s:={ s with heap:=s.heap.push { cls:=.type "dict",data:=.dict #[] } }) (Heap.get?_push_of_some _ ho) acj ?_)
 refine ao ?_
 refine af Array.forIn_toList.symm ?_
 refine Gx (tb:=s.heap.objs.size) (base:=s.heap) hb (fun e c t he=>by obtain⟨hs,key,val⟩:=e; subst he; rfl) es.toList (onceL M []) [] _ hp (Heap.DictOf.new s.heap) (vA M [] List.nodup_nil) (by have:=zK M []; simp only[iF]at *; lia) (fun b o q=>Heap.get?_push_of_some _ q) fun h' tk Wt ZU=>?_
 exact aA (aA (h h' tk (by simpa using Wt) ZU))
end
end
section
open PySem PySem.Calls PyProof.Rows PySem.W Builtin Builtin.ObjectAttr Builtin.Getset_descriptor
theorem EW:isSubtype (.type "KeyError") (.type "LookupError")=pure true:=by rw[jH]; kernel_rfl
theorem yW(cs:List Nat)(c:Nat):valueAt (fK cs) (c:Int)=if c∈cs then some .none else none:=by
 unfold valueAt
 by_cases h:c∈cs
 . refine af (if_pos h) ?_
   cases q:(fK cs).find? fun kv=>decide (kv.1=(c:Int))with
   | none=>
     have:=List.find?_eq_none.mp q ((c:Int),.none) (bZ.mpr ⟨c,h,rfl⟩)
     simp at this
   | some kv=>
     obtain⟨x,_,rfl⟩:=bZ.mp (List.mem_of_find?_eq_some q)
     rfl
 . refine af (if_neg h) ?_
   cases q:(fK cs).find? fun kv=>decide (kv.1=(c:Int))with
   |none=>rfl
   | some kv=>
     obtain⟨x,hx,rfl⟩:=bZ.mp (List.mem_of_find?_eq_some q)
     have h2:=List.find?_some q
     have:x=c:=by
       have h3:((x:Nat):Int)=(c:Int):=of_decide_eq_true h2
       lia
     subst this; exact absurd hx h
section
theorem HV{tb:Addr}{cs:List Nat}{c:Nat}(hh:A.handled=none)(hd:s.heap.DictOf (mO ai w) tb (fK cs))(hm:(tb==jQ)=false)(hq:∀h' tk,(∀b o,s.heap.get? b=some o->h'.get? b=some o)->Q (if c∈cs then .drop else .keep) { s with heap:=h',toks:=tk }):
   wpAny (model ai w) A (Str.tableLookup (.ref tb) c) Q E s:=by
 unfold Str.tableLookup
 refine ao (wpAny_attempt (ao (wpAny_mkInt ?_)))
 have hv:=yW cs c
 by_cases h:c∈cs
 . rw[if_pos h]at hv hq
   refine wpAny_getItem_of (s:={ s with toks:=s.toks+1 }) (intKind_is ai w (c:Int) _) hd.mapOf hv ?_
   exact aA (hq s.heap _ fun _ _ e=>e)
 . rw[if_neg h]at hv hq
   refine wpAny_getItem_missing_of (s:={ s with toks:=s.toks+1 }) (intKind_is ai w (c:Int) _) hm hh hd.mapOf hv fun h' e hx=>?_
   refine cp fun G' k'=>?_
   refine fS hx.there fun ob t ho hc _=>?_
   refine k' ?_
   refine ao (wpAny_isInstance (T:="KeyError") ⟨ob,ho,hc⟩ EW ?_)
   refine KFB.if_so rfl ?_
   refine ao (wpAny_rule ?_)
   exact aA (hq h' _ hx.keeps)
theorem vH:∀(l:List Nat) (acc:Array Nat),(l.map fun c=>(⟨#[c]⟩:PySem.Str)).foldl (fun acc p=>acc++p.cps) acc=acc++l.toArray
 | [],acc=>by simp
 | c::r,acc=>by
   (refine af eZ (af List.foldl_cons ?_); rw[vH r])
   apply Array.ext'; simp
theorem Af{σ:Type}{f:Nat->σ->Sem (ForInStep σ)}{W:List Nat}(Inv:List Nat->σ->aE->Prop)(Tn:∀(pre:List Nat) (c:Nat) (rest:List Nat) (st:σ) (h:aE) (tk:Nat) (Q:ForInStep σ->ak->Prop),W=pre++c::rest->Inv pre st h->(∀fE h' lG,Inv (pre++[c]) fE h'->Q (.yield fE) { s with heap:=h',toks:=lG })->wpAny M A (f c st) Q E { s with heap:=h,toks:=tk }):
   ∀(l pre:List Nat) (st:σ) (h:aE) (tk:Nat) (Q:σ->ak->Prop),W=pre++l->Inv pre st h->(∀fE h' lG,Inv W fE h'->Q fE { s with heap:=h',toks:=lG })->wpAny M A (forIn l st f) Q E { s with heap:=h,toks:=tk }
 | [],pre,st,h,tk,Q,hW,hi,hq=>by
   rw[aK]at hW; subst hW
   exact aA (hq st h tk hi)
 | c::r,pre,st,h,tk,Q,hW,hi,hq=>by
   rw[List.forIn_cons]
   refine ao (Tn pre c r st h tk _ hW hi fun fE h' lG hi'=>?_)
   exact Af Inv Tn r (pre++[c]) fE h' lG Q (by rw[bB]; exact hW) hi' hq
def yK(cs:List Nat)(s:ak)(pre:List Nat)(pieces:List PySem.Str)(total:Nat)(known:List (Nat×Option Nat))(h':aE):Prop:=
 pieces=((pre.filter fun c=>decide (c∉cs)).map fun c=>(⟨#[c]⟩:PySem.Str)).reverse/\total=(pre.filter fun c=>decide (c∉cs)).length/\(∀c a,known.lookup c=some a->a=if c∈cs then none else some c)/\∀b o,s.heap.get? b=some o->h'.get? b=some o
theorem yK.drop{cs pre:List Nat}{c:Nat}{total:Nat}(I:yK cs s pre pieces total known cj)(hc:c∈cs)(hk:xX=known\/xX=(c,none)::known)(k:∀b o,s.heap.get? b=some o->h'.get? b=some o):
   yK cs s (pre++[c]) pieces total xX h':=by
 refine Az I fun h1 h2 h3 _=>?_
 have e:((pre++[c]).filter fun c=>decide (c∉cs))=(pre.filter fun c=>decide (c∉cs)):=by rw[List.filter_append]; simp[hc]
 refine⟨by refine af e ?_; exact h1,by refine af e ?_; exact h2,fun c' a' hl=>?_,k⟩
 rcases hk with rfl|rfl
 . exact h3 c' a' hl
 . rw[bW]at hl
   split at hl
   . rename_i q
     (refine af ((sj hl).symm) (af (eq_of_beq q) (af (if_pos hc) ?_)); rfl)
   . exact h3 c' a' hl
theorem yK.keep{cs pre:List Nat}{c:Nat}{total:Nat}(I:yK cs s pre pieces total known cj)(hc:c∉cs)(hk:xX=known\/xX=(c,some c)::known)(k:∀b o,s.heap.get? b=some o->h'.get? b=some o):
   yK cs s (pre++[c]) (⟨#[c]⟩::pieces) (total+1) xX h':=by
 refine Az I fun h1 h2 h3 _=>?_
 have e:((pre++[c]).filter fun c=>decide (c∉cs))=(pre.filter fun c=>decide (c∉cs))++[c]:=by rw[List.filter_append]; simp[hc]
 refine⟨by refine af e (af h1 ?_); simp,by refine af e (af h2 ?_); simp,fun c' a' hl=>?_,k⟩
 rcases hk with rfl|rfl
 . exact h3 c' a' hl
 . rw[bW]at hl
   split at hl
   . rename_i q
     (refine af ((sj hl).symm) (af (eq_of_beq q) (af (if_neg hc) ?_)); rfl)
   . exact h3 c' a' hl
theorem Us{tb:Addr}{cs:List Nat}{W:List Nat}{t:Tok}(hh:A.handled=none)(hd:s.heap.DictOf (mO ai w) tb (fK cs))(hm:(tb==jQ)=false)(hz:W.length<=1000)(nS:W≠ [])(h:∀h' tk u,(∀b o,s.heap.get? b=some o->h'.get? b=some o)->P (.done (.ret (.str (S (W.filter fun c=>decide (c∉cs))) u))) { s with heap:=h',toks:=tk }):
   wpAny (model ai w) A (Builtin.«str.translate» ⟨[.str (S W) t,.ref tb],[]⟩) P E s:=by
 unfold Builtin.«str.translate»
 refine ao (fW (a:=(.str (S W) t,S W,.ref tb)) rfl ?_)
 dsimp only
 refine gP (by cases W with|nil=>exact absurd rfl nS|cons _ _=>rfl) ?_
 refine af Array.forIn_toList.symm ?_
 refine ao (Af (W:=W) (fun pre st h'=>yK cs s pre st.1 st.2.1 st.2.2.2.1 h') ?step W [] _ s.heap s.toks _ rfl ⟨rfl,rfl,fun c a e=>(by exact nn e),fun _ _ e=>e⟩ ?fin)
 case fin=>
   rintro⟨pieces,total,fast,known,ad⟩ h' tk ⟨h1,h2,-,hk⟩
   dsimp only at h1 h2 |-
   have hlen:(W.filter fun c=>decide (c∉cs)).length<=1000:=cg (kR _ _) hz
   refine gP (by unfold Str.tooLong; (rewrite [decide_eq_false_iff_not]; refine af h2 (af dh ?_)); lia) ?_
   (refine af h1 ?_; rw[List.reverse_reverse,vH])
   have e:(#[]:Array Nat)++(W.filter fun c=>decide (c∉cs)).toArray=(W.filter fun c=>decide (c∉cs)).toArray:=by simp
   refine af e ?_
   refine ao (wpAny_mkStr (aA (h h' _ _ hk)) ?_)
   show(W.filter fun c=>decide (c∉cs)).toArray.size<=sizeLine
   refine af nj (af dh ?_); lia
 case step=>
   intro pre c rest st h' tk Q hW I hq
   have h2:=I.2.1
   have h3:=I.2.2.1
   have hk:=I.2.2.2
   have hlen:st.2.1<=1000:=by
     refine af h2 ?_
     refine cg (kR _ _) (cg ?_ hz)
     exact af hW (af aR (ni _ _))
   have look:∀ {h₀:aE} {Ks:Nat} {Q':Str.Mapped->ak->Prop},(∀b o,s.heap.get? b=some o->h₀.get? b=some o)->(∀gY fR,(∀b o,s.heap.get? b=some o->gY.get? b=some o)->(c∈cs->Q' .drop { s with heap:=gY,toks:=fR })/\(c∉cs->Q' .keep { s with heap:=gY,toks:=fR }))->
       wpAny (model ai w) A (Str.tableLookup (.ref tb) c) Q' E { s with heap:=h₀,toks:=Ks }:=fun {h₀ Ks Q'} k0 rJ=>
     HV (s:={ s with heap:=h₀,toks:=Ks }) hh (hd.keep k0) hm fun gY fR m6=>by
       have hq2:=rJ gY fR fun b o e=>m6 b o (k0 b o e)
       by_cases hc:c∈cs
       . exact af (if_pos hc) (hq2.1 hc)
       . exact af (if_neg hc) (hq2.2 hc)
   refine gP (by unfold Str.tooLong; (rewrite [decide_eq_false_iff_not]; refine af dh ?_); lia) ?_
   cases hf:st.2.2.1 with
   | true=>
     refine KFB.if_so rfl ?_
     cases hl:List.lookup c st.2.2.2.1 with
     | some a=>
       have ha:=h3 c a hl
       by_cases hc:c∈cs
       . obtain rfl:a=none:=ha.trans (if_pos hc)
         exact ao (aA (aA (hq _ _ _ (I.drop hc (.inl rfl) hk))))
       . obtain rfl:a=some c:=ha.trans (if_neg hc)
         exact ao (aA (aA (hq _ _ _ (I.keep hc (.inl rfl) hk))))
     |none=>exact ao (look hk fun gY fR m6=>⟨fun hc=>ao (aA (aA (hq _ _ _ (I.drop hc (.inr rfl) m6)))),fun hc=>ao (aA (aA (hq _ _ _ (I.keep hc (.inr rfl) m6))))⟩)
   | false=>
     refine gP rfl ?_
     cases ha:st.2.2.2.2 with
     | true=>
       refine KFB.if_so rfl ?_
       exact ao (look hk fun gY fR m6=>⟨fun hc=>aA (hq _ _ _ (I.drop hc (.inl rfl) m6)),fun hc=>ao (look m6 fun kZ zw aag=>⟨fun Wv=>absurd Wv hc,fun _=>aA (hq _ _ _ (I.keep hc (.inl rfl) aag))⟩)⟩)
     | false=>
       refine gP rfl ?_
       exact ao (look hk fun gY fR m6=>⟨fun hc=>aA (hq _ _ _ (I.drop hc (.inl rfl) m6)),fun hc=>aA (hq _ _ _ (I.keep hc (.inl rfl) m6))⟩)
end
end
theorem O9(a b:Value):argsOk "str.translate" ⟨[a,b],[]⟩:=by unfold argsOk; kernel_rfl
theorem At.mem(h:At C o ρ fz s)(hq:q∈fz):s.heap.get? q.1=some q.2:=by
 refine At.el h fun hp tk m R F N rp ap lc rf=>?_
 exact(N q (aJ _ (aH _ hq))).1
section
variable {K:Frag}
theorem zC(R:cH K p az aL mg mb A₀ base av A env C.h₀ C.L d)(h:At C o ρ fz s){x:Str}(hk:env.kindOf x=some .local)(pU:ρ.lookup x=none)(hr:∀q∈C.refs,q.1≠x)(hq:∀s',At (gq C ((x,v)::C.refs)) o ρ fz s'->Q () s'):wpAny (model ai w) A (storeName env x v) Q E s:=by
 refine At.el h fun h' tk m Rl F N rp ap lc rf=>?_
 have hf:=R.hk
 have hL:=R.hl
 refine qN hk (af hL F.ns) (fun h2 hn hs=>hq _ ?_) (af hf rfl)
 rw[hL]at hn hs
 refine⟨h2,tk+1,_,Rl,rfl,F.set hn hs,N.set hs,rp,ap,fun y u hy=>?_,fun p hp=>?_⟩
 . have e:y≠x:=by rintro rfl; rw[pU]at hy; exact nn hy
   refine au (lc y u hy) fun v' h1 h2=>?_
   exact⟨v',by refine af (if_neg e) ?_; exact h1,h2⟩
 . rcases aB.mp hp with rfl|hp
   . exact if_pos rfl
   . show(if p.1=x then some v else m p.1)=some p.2
     exact af (if_neg (hr p hp)) (rf p hp)
theorem Bb(R:cH K p az aL mg mb A₀ base av A env C.h₀ C.L d)(h:At C o ρ fz s){f:Str}{p1 p2 p3 p4 p5 pa:Pos}{W M:List Nat}(hw:bq ai w A C o env ρ (.Attribute v f pa) (.str (S W)))(he:bq ai w A C o env ρ e (.str (S M)))(hs:notStar e=true)(hz:M.length<=100)(l1:(p1.endLine==p2.line)=true)(l2:(p3.endLine==p4.line)=true)(g1:nsIn K dc "dict"=some none)(k1:env.kindOf "dict"=some .globalImplicit){Q E:Value->ak->Prop}(hq:∀aT s' tb ob,Sub fz aT->At C o ρ aT s'->(tb,ob)∈aT->ob.IsDictOf (mO ai w) (fK (onceL M []))->(tb==jQ)=false->Q (.ref tb) s'):
   wpAny (model ai w) A (eval (.Call (.Attribute (.Attribute v f pa) "maketrans" p1) [.Call (.Attribute (.Name "dict" p5) "fromkeys" p3) [e] [] p4] [] p2) env) Q E s:=by
 have RA:=modules_low R.T.nolimit
 refine d9 (pl:=_) ?_ (gu rfl rfl (by simp) l1)
 refine hw fz s _ E h fun ay s₁ v1 s1 h1 x1=>?_
 refine FQ x1 fun _=>?_
 refine Qm ?_
 refine callWith_builtin1 (fP ?_ rfl) rfl rfl
 have h2:=h1.toks (s₁.toks+1)
 refine d9 (pl:=_) ?_ (iJ (v:=.Name "dict" p5) rfl (by simp[hs]) (by simp) l2)
 refine jG R h2 (x:="dict") g1 (v:=.type "dict") (by kernel_rfl) (by decide) k1 (by decide) ?_
 refine gB h2.nO fun m₂ wB kq kj=>?_
 refine RM kq R.X ?_
 have h3:=(h2.push Ag rfl).toks (s₁.toks+1+1)
 refine Dk hs (fP ?_ (cU hs))
 refine he _ _ _ E h3 fun gz dF v3 s3 h3' x3=>?_
 cases x3
 refine ic ⟨h3'.mem (s3 _ (.head _)),?_⟩
 refine RN R.hh hz (h3'.mem (s3 _ (.head _))) fun mQ BW hd kb=>?_
 have hn3:dF.heap.get? dF.heap.objs.size=none:=by
   cases q:dF.heap.get? dF.heap.objs.size with
   |none=>rfl
   |some o'=>exact absurd (ek q) (iY _)
 refine gB h3'.nO fun Zb aba sH pB=>?_
 have hm3:=sH.notModules RA
 have h4:=h3'.keep kb BW
 refine ic ?_
 refine gk (codeAny_call_builtin_code (uc _ (by decide +kernel)) (fW (LS _) (oS LR ?_)))
 refine Va (s:={ dF with heap:=mQ,toks:=BW }) hd hm3 hz fun qW Kr hd5 kb5=>?_
 refine au (Heap.dictOf_iff.mp hd5) fun ob rK abZ=>?_
 refine gB h4.nO fun abE aaZ JA Sy=>?_
 have hn4:mQ.get? mQ.objs.size=none:=by
   cases q:mQ.get? mQ.objs.size with
   |none=>rfl
   |some o'=>exact absurd (ek q) (iY _)
 exact hq _ _ _ ob (fun p hp=>.tail _ (s3 p (.tail _ (s1 p hp)))) (h4.grow kb5 hn4 rK Kr) (.head _) abZ (JA.notModules RA)
theorem AK(R:cH K p az aL mg mb A₀ base av A env C.h₀ C.L d)(h:At C o ρ fz s){f:Str}{x:Str}{p1 p2 p3 pa:Pos}{W cs:List Nat}{tb:Addr}{ob:Obj}(hw:bq ai w A C o env ρ (.Attribute v f pa) (.str (S W)))(hx:(x,.ref tb)∈C.refs)(hk:env.kindOf x=some .local)(hd:(x==("__debug__":Str))=false)(rK:(tb,ob)∈fz)(hd1:ob.IsDictOf (mO ai w) (fK cs))(hm:(tb==jQ)=false)(hz:W.length<=1000)(nS:W≠ [])(l1:(p1.endLine==p2.line)=true){Q E:Value->ak->Prop}(hq:∀aT s' v',Sub fz aT->At C o ρ aT s'->VR aT (.str (S (W.filter fun c=>decide (c∉cs)))) v'->Q v' s'):
   wpAny (model ai w) A (eval (.Call (.Attribute (.Attribute v f pa) "translate" p1) [.Name x p3] [] p2) env) Q E s:=by
 refine d9 (pl:=_) ?_ (gu rfl rfl (by simp) l1)
 refine hw fz s _ E h fun ay s₁ v1 s1 h1 x1=>?_
 refine FQ x1 fun _=>?_
 refine getMethod_builtin (M:=model ai w) (v:=.str (S W) _) (T:="str") (name:="translate") (id:="str.translate") ?a1 ?a2 ?a3 ?a4 ?a5 ?a6
 case a1=>exact lR _ _ _
 case a2=>exact PySem.F.plainAttrs_str
 case a3=>exact PySem.F.slot_str_translate
 case a4=>exact O8
 case a5=>intro _ e; cases e
 refine cW rfl (fP ?_ rfl)
 refine pL R hx hk hd ay s₁ _ E h1 fun aX h2=>?_
 refine ic ?_
 have acf:=h2.mem (s1 _ rK)
 have hd2:aX.heap.DictOf (mO ai w) tb (fK cs):=Heap.dictOf_iff.mpr ⟨ob,acf,hd1⟩
 refine qJ PySem.F.slot_str_translate (lR _ _ _) Kq (Us (A:=A.in1) R.hh hd2 hm hz nS fun kZ zw u kb=>?_) (O9 _ _)
 exact⟨_,rfl,hq ay _ _ s1 (h2.keep kb zw) (.str _ _)⟩
end
section
set_option tactic.hygienic true
noncomputable def vP(ai:cB)(w:World)(A:cy)(C:Cx O)(env:Env)(X:Nat->Led->ak->(Value->ak->Prop)->Prop):O->Loc->List Stmt->O->Loc->Prop
 |o,ρ,[],o',ρ'=>o'=o/\ρ'=ρ
 |o,ρ,st::r,o',ρ'=>∃nv jm,cK ai w A C env X o ρ st (nv,jm,.next)/\vP ai w A C env X nv jm r o' ρ'
noncomputable def runs(I:pD O)(env:Env)(n:Nat):O->Loc->List Stmt->Option (O×Loc)
 |o,ρ,[]=>some (o,ρ)
 | o,ρ,st::r=>opt (jx I env n o ρ st) (fun q=>match q.2.2 with
   | .next=>runs I env n q.1 q.2.1 r
   |_=>none) none
section
variable {I:pD O}{sa:Addr}
theorem lN(K:cV ai w A C env I X sa){n:Nat}:∀ {b:List Stmt} {o o':O} {ρ ρ':Loc},runs I env n o ρ b=some (o',ρ')->vP ai w A C env X o ρ b o' ρ'
 | [],o,o',ρ,ρ',h=>by cases h; exact⟨rfl,rfl⟩
 | st::r,o,o',ρ,ρ',h=>by
   refine au (aq (show opt _ _ none=some _ from h)) fun q h1 h=>?_
   obtain⟨nv,jm,fl⟩:=q
   cases fl with
   |next=>exact⟨nv,jm,dN K h1,lN K h⟩
   |_=>exact nn h
theorem f9:∀ {b rest:List Stmt} {o o':O} {ρ ρ':Loc} {fz:Led} {s:ak} {Q:Flow->ak->Prop} {E:Value->ak->Prop},vP ai w A C env X o ρ b o' ρ'->At C o ρ fz s->
   (∀aT s',Sub fz aT->At C o' ρ' aT s'->wpAny (model ai w) A (execs rest env) Q E s')->wpAny (model ai w) A (execs (b++rest) env) Q E s
 | [],rest,o,o',ρ,ρ',fz,s,Q,E,h,hA,hq=>by
   cases h.1; cases h.2
   exact hq fz s (fun _ h=>h) hA
 | st::b,rest,o,o',ρ,ρ',fz,s,Q,E,h,hA,hq=>by
   refine gB h fun nv jm h1 h2=>?_
   refine af eY ?_
   refine bS (h1 fz s _ _ hA fun ay s₁ s1 XN=>?_)
   exact f9 h2 XN fun aO aX s2 hA2=>hq aO aX (fun p hp=>s2 p (s1 p hp)) hA2
theorem At.drop(h:At C o ρ fz s)(hs:∀x v,ρ'.lookup x=some v->ρ.lookup x=some v):At C o ρ' fz s:=by
 refine At.el h fun hp tk m R F N rp ap lc rf=>?_
 exact⟨hp,tk,m,R,rfl,F,N,rp,ap,fun x v hx=>lc x v (hs x v hx),rf⟩
end
noncomputable abbrev sM:List Str:=["infile","posix","punctuation_chars"]
noncomputable def rA:List Str:=["instream","infile","posix","eof","commenters","wordchars","whitespace","whitespace_split","quotes","escape","escapedquotes","state","pushback","lineno","debug","token","filestack","source","_punctuation_chars","_pushback_chars"]
noncomputable abbrev Wc:pD OF:=objI sM rA
noncomputable abbrev rH(L:Addr):Env:=envOf "shlex.__init__" (aF (bO 19 0)) L 646 (.ref 645)
theorem ny(P:aD):fldsOk (KS P) 722 rA=true:=by kernel_rfl
theorem mC:∀L,∀x∈sM,(rH L).kindOf x=some .local:=by
 intro L
 have:∀x∈sM,(rH 0).kindOf x=some .local:=by decide +kernel
 exact this
noncomputable abbrev inB:List Stmt:=aC (bO 19 0)
noncomputable def rG(i n:Nat):List Stmt:=(inB.drop i).take n
noncomputable def SD(aa:Bool):List Nat:=[97,98,99,100,102,101,103,104,105,106,107,108,109,110,111,112,113,114,115,116,117,118,119,120,121,122,65,66,67,68,69,70,71,72,73,74,75,76,77,78,79,80,81,82,83,84,85,86,87,88,89,90,48,49,50,51,52,53,54,55,56,57,95]++
 (bif aa then [223,224,225,226,227,228,229,230,231,232,233,234,235,236,237,238,239,240,241,242,243,244,245,246,248,249,250,251,252,253,254,255,192,193,194,195,196,197,198,199,200,201,202,203,204,205,206,207,208,209,210,211,212,213,214,216,217,218,219,220,221,222]else [])
noncomputable def wl(aa:Bool):List Nat:=SD aa++[126,45,46,47,42,63,61]
noncomputable abbrev vZ(io:Addr):OF:=[("instream",.r io),("infile",.v .none)]
noncomputable abbrev XS(io:Addr)(aa:Bool):OF:=[("instream",.r io),("infile",.v .none),("posix",.v (.bool aa)),("eof",.v (pA aa)),("commenters",.v (.str "#")),("wordchars",.v (.str (S (SD aa)))),("whitespace",.v (.str " \t\r\n")),("whitespace_split",.v (.bool false)),
  ("quotes",.v (.str "'\"")),("escape",.v (.str "\\")),("escapedquotes",.v (.str "\"")),("state",.v (.str " "))]
noncomputable abbrev fsC(io pb:Addr)(aa:Bool):OF:=XS io aa++([("pushback",.r pb)]:OF)
noncomputable abbrev fsD(io pb:Addr)(aa:Bool):OF:=XS io aa++([("pushback",.r pb),("lineno",.v (.int 1)),("debug",.v (.int 0)),("token",.v (.str ""))]:OF)
noncomputable abbrev fsE(io pb vZ:Addr)(aa:Bool):OF:=XS io aa++([("pushback",.r pb),("lineno",.v (.int 1)),("debug",.v (.int 0)),("token",.v (.str "")),("filestack",.r vZ)]:OF)
noncomputable abbrev RH(io pb vZ:Addr)(aa:Bool):OF:=XS io aa++([("pushback",.r pb),("lineno",.v (.int 1)),("debug",.v (.int 0)),("token",.v (.str "")),("filestack",.r vZ),("source",.v .none)]:OF)
noncomputable abbrev fsG(io pb vZ:Addr)(aa:Bool)(M:Str):OF:=XS io aa++([("pushback",.r pb),("lineno",.v (.int 1)),("debug",.v (.int 0)),("token",.v (.str "")),("filestack",.r vZ),("source",.v .none),("_punctuation_chars",.v (.str M))]:OF)
noncomputable abbrev uB(aa:Bool)(M:V):Loc:=[("infile",.none),("posix",.bool aa),("punctuation_chars",M)]
theorem Rp(L io:Addr)(aa:Bool)(M:V):runs Wc (rH L) 60 (vZ io) (uB aa M) (rG 2 11)=some (XS io aa,uB aa M):=by cases aa <;> kernel_rfl
theorem Ro(L io pb:Addr)(aa:Bool)(M:V):runs Wc (rH L) 60 (fsC io pb aa) (uB aa M) (rG 14 3)=some (fsD io pb aa,uB aa M):=by cases aa <;> kernel_rfl
theorem Rn(L io pb vZ:Addr)(aa:Bool)(M:V):runs Wc (rH L) 60 (fsE io pb vZ aa) (uB aa M) (rG 18 1)=some (RH io pb vZ aa,uB aa M):=by cases aa <;> kernel_rfl
theorem GQ(L io pb vZ:Addr)(aa:Bool)(M:Str):runs Wc (rH L) 60 (RH io pb vZ aa) (uB aa (.str M)) (rG 20 1)=some (fsG io pb vZ aa M,uB aa (.str M)):=by cases aa <;> kernel_rfl
end
section
variable {Pm:aD}{o₀:O}{x dx:Addr}
theorem BA(R:cH (KS Pm) p az aL mg mb A₀ base av A env C.h₀ C.L d)(h:At (bD C o₀ 722 x dx) fs ρ fz s){a:Str}(bF:((aj "self"),.ref x)∈C.refs)(hk:env.kindOf "self"=some .local)(hd:env.kindOf "deque"=some .globalImplicit)(ha:rA.contains a=true)(hz:fs.length<=100)(hq:∀s' pb,At (bD (bz C pb (aN 0 [])) o₀ 722 x dx) (putF a (.r pb) fs) ρ fz s'->Q .next s'):
   wpAny (model ai w) A (exec (.Assign [.Attribute (.Name "self" p1) a p2] (.Call (.Name "deque" p3) [] [] p4) p5) env) Q E s:=by
 refine plainObj_wpAny_Assign_Attribute (gJ rfl ?_) (fk rfl)
 refine tg (C:=bD C o₀ 722 x dx) R (v:=.type "collections.deque") (by kernel_rfl) hd (by decide) fz s _ E h fun s₁ h1=>?_
 refine callWith_type0 (W5 fun h' he ho hsz=>?_)
 have h2:=LA h1 he ho
 refine pL (C:=bD (bz C _ (aN 0 [])) o₀ 722 x dx) R bF hk (by decide) fz _ _ E h2 fun dF h3=>?_
 exact wA (C:=bz C _ (aN 0 [])) R (ny Pm) h3 ha hz (f:=.r _) rfl fun lX h4=>hq lX _ h4
theorem Nq(R:cH (KS Pm) p az aL mg mb A₀ base av A env C.h₀ C.L d){t:Str}(he:bq ai w A C o env ρ e (.str t))(hs:notStar e=true)(k1:env.kindOf "isinstance"=some .globalImplicit)(k2:env.kindOf "str"=some .globalImplicit):
   bq ai w A C o env ρ (.Call (.Name "isinstance" p1) [e,.Name "str" p2] [] p3) (.bool true):=by
 intro fz s Q E h hq
 refine gJ rfl (jG R h (x:="isinstance") (by kernel_rfl) (v:=.builtin "isinstance") (by kernel_rfl) (by decide) k1 (by decide) ?_)
 refine callWith_builtin1 (fP (he fz s _ E h fun ay s₁ v s1 h1 x1=>?_) (cU hs)) (cU hs) rfl
 refine fP (jG R h1 (x:="str") (by kernel_rfl) (v:=.type "str") (by kernel_rfl) (by decide) k2 (by decide) ?_) rfl
 refine ic ?_
 refine FQ x1 fun _=>?_
 refine call_isinstance (isinstance_true (Tx:="str") (T:="str") (by first|rfl|kernel_rfl) (by rw[jH]; kernel_rfl)) ⟨lR _ _ _,?_⟩
 exact hq ay s₁ _ s1 h1 (.bool true)
theorem KP(R:cH (KS Pm) p az aL mg mb A₀ base av A env C.h₀ C.L (d+3))(h:At C o ρ fz s){T:Str}(he:bq ai w A C o env ρ e (.str T))(hs:notStar e=true)(k1:env.kindOf "StringIO"=some .globalImplicit)(hq:∀aT s' io id,Sub fz aT->At (bD C o 587 io id) (ig (.str T)) ρ aT s'->Q (.ref io) s'):
   wpAny (model ai w) A (eval (.Call (.Name "StringIO" p1) [e] [] p2) env) Q E s:=by
 refine gJ rfl ?_
 refine tg R (v:=.ref 587) (by kernel_rfl) k1 (by decide) fz s _ E h fun s₁ h1=>?_
 refine callWith_K (first:=[]) R.X (by kernel_rfl) (fP (he fz s₁ _ E h1 fun aO aX v s2 h2 x2=>ic ?_) (cU hs)) (cU hs) rfl
 refine gB h2.nO fun m₂ wB kq kj=>?_
 refine⟨R.rD kq,gk ?_⟩
 refine KH (d:=d+1) R h2 fun gz dF io id s3 h3=>?_
 refine yX (d:=d) ((R.under 587 [v] [])) h3 (x2.mono s3) fun o8 lX s4 h4=>?_
 exact⟨rfl,hq o8 lX io id (fun p hp=>s4 p (s3 p (s2 p hp))) h4⟩
end
noncomputable abbrev in0:Stmt:=.If (.Call (.Name "isinstance" ⟨473,11,473,21⟩) [.Name "instream" ⟨473,22,473,30⟩,.Name "str" ⟨473,32,473,35⟩] [] ⟨473,11,473,36⟩) [.Assign [.Name "instream" ⟨474,12,474,20⟩] (.Call (.Name "StringIO" ⟨474,23,474,31⟩) [.Name "instream" ⟨474,32,474,40⟩] [] ⟨474,23,474,41⟩) ⟨474,12,474,41⟩] [] ⟨473,8,474,41⟩
noncomputable abbrev in1:Stmt:=.If (.Compare (.Name "instream" ⟨475,11,475,19⟩) [.IsNot] [.Constant .none 0 ⟨475,27,475,31⟩] ⟨475,11,475,31⟩) [.Assign [.Attribute (.Name "self" ⟨476,12,476,16⟩) "instream" ⟨476,12,476,25⟩] (.Name "instream" ⟨476,28,476,36⟩) ⟨476,12,476,36⟩,.Assign [.Attribute (.Name "self" ⟨477,12,477,16⟩) "infile" ⟨477,12,477,23⟩] (.Name "infile" ⟨477,26,477,32⟩) ⟨477,12,477,32⟩] [.Assign [.Attribute (.Name "self" ⟨479,12,479,16⟩) "instream" ⟨479,12,479,25⟩] (.Call (.Name "_wall" ⟨479,28,479,33⟩) [.Constant (.int 34) 0 ⟨479,34,479,36⟩] [] ⟨479,28,479,37⟩) ⟨479,12,479,37⟩,.Assign [.Attribute (.Name "self" ⟨480,12,480,16⟩) "infile" ⟨480,12,480,23⟩] (.Constant .none 0 ⟨480,26,480,30⟩) ⟨480,12,480,30⟩] ⟨475,8,480,30⟩
noncomputable abbrev abM:Stmt:=.Assign [.Attribute (.Name "self" ⟨496,8,496,12⟩) "pushback" ⟨496,8,496,21⟩] (.Call (.Name "deque" ⟨496,24,496,29⟩) [] [] ⟨496,24,496,31⟩) ⟨496,8,496,31⟩
noncomputable abbrev abL:Stmt:=.Assign [.Attribute (.Name "self" ⟨500,8,500,12⟩) "filestack" ⟨500,8,500,22⟩] (.Call (.Name "deque" ⟨500,25,500,30⟩) [] [] ⟨500,25,500,32⟩) ⟨500,8,500,32⟩
noncomputable abbrev We:Stmt:=.If (.UnaryOp UnaryOp.Not (.Name "punctuation_chars" ⟨502,15,502,32⟩) ⟨502,11,502,32⟩) [.Assign [.Name "punctuation_chars" ⟨503,12,503,29⟩] (.Constant (.str "") 0 ⟨503,32,503,34⟩) ⟨503,12,503,34⟩] [.If (.Compare (.Name "punctuation_chars" ⟨504,13,504,30⟩) [.Is] [.Constant (.bool true) 0 ⟨504,34,504,38⟩] ⟨504,13,504,38⟩) [.Assign [.Name "punctuation_chars" ⟨505,12,505,29⟩] (.Constant (.str "();<>|&") 0 ⟨505,32,505,41⟩) ⟨505,12,505,41⟩] [] ⟨504,8,505,41⟩] ⟨502,8,505,41⟩
noncomputable abbrev Z1:Stmt:=.Assign [.Attribute (.Name "self" ⟨508,12,508,16⟩) "_pushback_chars" ⟨508,12,508,32⟩] (.Call (.Name "deque" ⟨508,35,508,40⟩) [] [] ⟨508,35,508,42⟩) ⟨508,12,508,42⟩
noncomputable abbrev MH:Stmt:=.AugAssign (.Attribute (.Name "self" ⟨509,12,509,16⟩) "wordchars" ⟨509,12,509,26⟩) .Add (.Constant (.str "~-./*?=") 0 ⟨509,30,509,39⟩) ⟨509,12,509,39⟩
noncomputable abbrev Tg:Stmt:=.Assign [.Name "t" ⟨510,12,510,13⟩] (.Call (.Attribute (.Attribute (.Name "self" ⟨510,16,510,20⟩) "wordchars" ⟨510,16,510,30⟩) "maketrans" ⟨510,16,510,40⟩) [.Call (.Attribute (.Name "dict" ⟨510,41,510,45⟩) "fromkeys" ⟨510,41,510,54⟩) [.Name "punctuation_chars" ⟨510,55,510,72⟩] [] ⟨510,41,510,73⟩] [] ⟨510,16,510,74⟩) ⟨510,12,510,74⟩
noncomputable abbrev Tf:Stmt:=.Assign [.Attribute (.Name "self" ⟨511,12,511,16⟩) "wordchars" ⟨511,12,511,26⟩] (.Call (.Attribute (.Attribute (.Name "self" ⟨511,29,511,33⟩) "wordchars" ⟨511,29,511,43⟩) "translate" ⟨511,29,511,53⟩) [.Name "t" ⟨511,54,511,55⟩] [] ⟨511,29,511,56⟩) ⟨511,12,511,56⟩
noncomputable abbrev Wd:Stmt:=.If (.Name "punctuation_chars" ⟨507,11,507,28⟩) [Z1,MH,Tg,Tf] [] ⟨507,8,511,56⟩
theorem Rq:inB=in0::in1::(rG 2 11++(abM::(rG 14 3++(abL::(rG 18 1++(We::(rG 20 1++[Wd]))))))):=by kernel_rfl
noncomputable abbrev fsH(io pb vZ pc:Addr)(aa:Bool)(M:Str)(W:Str):OF:=[("instream",.r io),("infile",.v .none),("posix",.v (.bool aa)),("eof",.v (pA aa)),("commenters",.v (.str "#")),("wordchars",.v (.str W)),("whitespace",.v (.str " \t\r\n")),("whitespace_split",.v (.bool false)),
  ("quotes",.v (.str "'\"")),("escape",.v (.str "\\")),("escapedquotes",.v (.str "\"")),("state",.v (.str " ")),("pushback",.r pb),("lineno",.v (.int 1)),("debug",.v (.int 0)),("token",.v (.str "")),("filestack",.r vZ),("source",.v .none),("_punctuation_chars",.v (.str M)),("_pushback_chars",.r pc)]
theorem V9(L io pb vZ pc:Addr)(aa:Bool)(M:Str):runs Wc (rH L) 60 (fsH io pb vZ pc aa M (S (SD aa))) (uB aa (.str M)) [MH]=some (fsH io pb vZ pc aa M (S (wl aa)),uB aa (.str M)):=by cases aa <;> kernel_rfl
theorem CZ:kI .Is (.bool true) (.bool true)=pure (.bool true):=by kernel_rfl
theorem EX(x:Str)(t:Tok):kI .Is (.str x t) (.bool true)=pure (.bool false):=by kernel_rfl
noncomputable def MF(C:Cx O)(o₀:O)(x dx:Addr):Cx (OF ⊕ (LP×LO)):=
 { s₀:=C.s₀,h₀:=C.h₀,L:=C.L,rest:=C.rest,refs:=C.refs
   Rep:=fun o fz R=>match o with
     | .inl fs=>(bD C o₀ 722 x dx).Rep fs fz R
     | .inr q=>bK q.1 q.2 fz R
   mono:=fun o fz aT R hs h=>match o,h with
     | .inl fs,h=>(bD C o₀ 722 x dx).mono fs fz aT R hs h
     | .inr q,h=>pS q.1 q.2 fz aT R hs h }
noncomputable def sQ(C:Cx O)(P:LP):Cx LO:={ s₀:=C.s₀,h₀:=C.h₀,L:=C.L,rest:=C.rest,refs:=C.refs,Rep:=bK P,mono:=pS P }
noncomputable def Ou:LO:=⟨.str " ",.str "",.int 1,.int 0,[]⟩
theorem CG{k:Str}(hk:ρ.lookup k=none):∀x v,ρ.lookup x=some v->((k,u)::ρ).lookup x=some v:=fun x v hx=>by
 refine af bW ?_
 by_cases e:(x==k)=true
 . have:=eq_of_beq e
   subst this; rw[hk]at hx; exact nn hx
 . have e:(x==k)=false:=by simpa using e
   exact af e hx
theorem Xy{a:Addr}{R:Led}(h:∀q∈R,q.1≠a)(n:(R.map (·.1)).Nodup):(a::R.map (·.1)).Nodup:=List.nodup_cons.mpr ⟨fun m=>(bZ.mp m).elim fun q h'=>h q h'.1 h'.2,n⟩
theorem nd2{x dx:Addr}{R:Led}(d:x≠dx)(h:∀q∈R,q.1≠x/\q.1≠dx)(n:(R.map (·.1)).Nodup):(x::dx::R.map (·.1)).Nodup:=List.nodup_cons.mpr ⟨fun m=>(aB.mp m).elim d fun m=>(bZ.mp m).elim fun q h'=>(h q h'.1).1 h'.2,Xy (fun q hq=>(h q hq).2) n⟩
theorem YZ{α:Type}(a b c d e f g:α): [a,b,c,d,e,f,g].Perm [a,b,g,e,f,c,d]:=.cons a (.cons b ((List.perm_append_comm (l₁:=[c,d]) (l₂:=[e,f,g])).trans ((List.perm_append_comm (l₁:=[e,f]) (l₂:=[g])).append_right [c,d])))
theorem Y3{α:Type}(a b c d e f:α): [a,b,c,d,e,f].Perm [a,b,e,f,c,d]:=.cons a (.cons b (List.perm_append_comm (l₁:=[c,d]) (l₂:=[e,f])))
section
variable {o₀:O}{x dx io id pb fs pc:Addr}
theorem Mf(hR:∀fz R,C.Rep o₀ fz R->R=[]){T M W:List Nat}(hM:M≠ []){aa:Bool}(h:At (bD (bz (bz (bz (bD C o₀ 587 io id) pb (aN 0 [])) fs (aN 0 [])) pc (aN 0 [])) (ig (.str (S T))) 722 x dx) (fsH io pb fs pc aa (S M) (S W)) ρ fz s):
   At (sQ C ⟨x,dx,io,id,pb,fs,pc,T,M,W,aa⟩) Ou ρ fz s:=by
 cases M with
 |nil=>exact absurd rfl hM
 | cons c r=>
   refine At.el h fun hp tk m R' F N rp ap lc rf=>?_
   refine JO rp fun es n R1 e1 h1 rp d1 a1=>?_
   refine nD rp fun R2 e2 rp a2=>?_
   refine nD rp fun R3 e3 rp a3=>?_
   refine nD rp fun R4 e4 rp a4=>?_
   refine JO rp fun pY n2 R5 e5 h2 rp d5 a5=>?_
   have e6:=hR _ _ rp
   have pm:=(YZ (x,bI 722 dx) (dx,bH es n) (io,bI 587 id) (id,bH pY n2) (fs,aN 0 []) (pb,aN 0 []) (pc,aN 0 [])).trans (List.Perm.of_eq (l₂:=R') (by rw[e1,e2,e3,e4,e5,e6]))
   exact⟨hp,tk,m,_,rfl,F,fun q hq=>N q ((pm.append_right _).subset hq),⟨es,n,pY,n2,0,0,0,[],rfl,h1,h2,.nil,(pm.map Prod.fst).nodup_iff.mpr (af e1 (nd2 d1 a1 (af e2 (Xy a2 (af e3 (Xy a3 (af e4 (Xy a4 (af e5 (nd2 d5 a5 (af e6 .nil)))))))))))⟩,fun q hq=>ap q (pm.subset hq),lc,rf⟩
theorem ID(hR:∀fz R,C.Rep o₀ fz R->R=[]){T:List Nat}{aa:Bool}(h:At (bD (bz (bz (bD C o₀ 587 io id) pb (aN 0 [])) fs (aN 0 [])) (ig (.str (S T))) 722 x dx) (fsG io pb fs aa (S [])) ρ fz s):
   At (sQ C ⟨x,dx,io,id,0,fs,pb,T,[],SD aa,aa⟩) Ou ρ fz s:=by
 refine At.el h fun hp tk m R' F N rp ap lc rf=>?_
 refine JO rp fun es n R1 e1 h1 rp d1 a1=>?_
 refine nD rp fun R3 e3 rp a3=>?_
 refine nD rp fun R4 e4 rp a4=>?_
 refine JO rp fun pY n2 R5 e5 h2 rp d5 a5=>?_
 have e6:=hR _ _ rp
 have pm:=(Y3 (x,bI 722 dx) (dx,bH es n) (io,bI 587 id) (id,bH pY n2) (fs,aN 0 []) (pb,aN 0 [])).trans (List.Perm.of_eq (l₂:=R') (by rw[e1,e3,e4,e5,e6]))
 exact⟨hp,tk,m,_,rfl,F,fun q hq=>N q ((pm.append_right _).subset hq),⟨es,n,pY,n2,0,0,0,[],rfl,h1,h2,.nil,(pm.map Prod.fst).nodup_iff.mpr (af e1 (nd2 d1 a1 (af e3 (Xy a3 (af e4 (Xy a4 (af e5 (nd2 d5 a5 (af e6 .nil)))))))))⟩,fun q hq=>ap q (pm.subset hq),lc,rf⟩
end
section
variable {Pm:aD}
noncomputable def wordsOf(aa:Bool)(M:List Nat):List Nat:=match M with
 | []=>SD aa
 |_::_=>(wl aa).filter fun c=>decide (c∉onceL M [])
theorem HG{aa:Bool}{M:List Nat}(hM:M≠ []):wordsOf aa M=(wl aa).filter fun c=>decide (c∉onceL M []):=by
 cases M with
 |nil=>exact absurd rfl hM
 |cons=>rfl
noncomputable abbrev Rr(T:Str)(M:V)(aa:Bool):Loc:=("instream",.str T)::uB aa M
theorem Aa{o₀:O}{x dx L io id pb oh:Addr}(hR:∀fz R,C.Rep o₀ fz R->R=[])(hrefs:C.refs=[((aj "self"),.ref x)])(JL:gq (bD C o₀ 587 io id) ((aj "instream",.ref io)::C.refs)=Cs)(Rs:cH (KS Pm) p az aL mg mb A₀ base av A (rH L) Cs.h₀ Cs.L (d+3)){T M:List Nat}{aa:Bool}(hM:M≠ [])(hz:M.length<=100)(Wy:At (bD (bz (bz Cs pb (aN 0 [])) oh (aN 0 [])) (ig (.str (S T))) 722 x dx) (RH io pb oh aa) (uB aa (.str (S M))) mG sS){Q:Flow->ak->Prop}(hq:∀aT s' P,Sub mG aT->P.lx=x->P.T=T->P.M=M->P.W=wordsOf aa M->P.aa=aa->At (sQ C P) Ou [] aT s'->Q .next s'):
   wpAny (model ai w) A (execs (rG 20 1++[Wd]) (rH L)) Q E sS:=by
 have ks:(rH L).kindOf "self"=some .local:=by kernel_rfl
 have kd:(rH L).kindOf "deque"=some .globalImplicit:=by kernel_rfl
 have er:Cs.refs=(aj "instream",.ref io)::C.refs:=by exact af JL.symm rfl
 have GU:((aj "self"),.ref x)∈Cs.refs:=by exact af er (af hrefs (.tail _ (.head _)))
 have MP:∀q∈Cs.refs,sM.contains q.1=false:=by
   refine af er (af hrefs ?_)
   intro q hq
   cases hq with
   |head=>exact(show sM.contains "instream"=false by decide +kernel)
   | tail _ hq=>cases hq with
     |head=>exact(show sM.contains "self"=false by decide +kernel)
     |tail _ hq=>cases hq
 have Of:=oF (ai:=ai) (w:=w) (K:=KS Pm) (C:=bz (bz Cs pb (aN 0 [])) oh (aN 0 [])) (o₀:=ig (.str (S T))) (cls:=722) (x:=x) (dx:=dx) (names:=sM) (lg:=rA) (X:=fun _ _ _ _=>False) Rs (ny Pm) GU MP (mC _) ks
 have hMs:ir (.str (S M))=some true:=by
   show(if strOk (S M)then some (((S M).length:Int)!=0)else mK)=some true
   have h1:(S M).length=M.length:=by simp[PySem.Str.length]
   have h2:strOk (S M)=true:=ck (by lia)
   refine af (if_pos h2) (af h1 ?_)
   cases M with
   |nil=>exact absurd rfl hM
   | cons c r=>
     have:(((c::r).length:Int)!=0)=true:=by
       rw[bne_iff_ne]; simp only[dg]; lia
     (refine af this ?_; rfl)
 have R6:∀ {fs:OF} {pos},bq ai w A (bD (bz (bz Cs pb (aN 0 [])) oh (aN 0 [])) (ig (.str (S T))) 722 x dx) fs (rH L) (uB aa (.str (S M))) (.Name "punctuation_chars" pos) (.str (S M)):=fun {fs pos}=>fM (Of.fh _) (x:="punctuation_chars") (show sM.contains "punctuation_chars"=true by decide +kernel) (by decide +kernel) rfl
 refine f9 (lN Of (GQ L io pb oh aa (S M))) Wy fun tU we YK XO=>?_
 refine bS (wpAny_If (jr R6 hMs rfl tU we _ E XO fun yh F2 s18 h18=>?_))
 skip
 refine bS (BA (C:=bz (bz Cs pb (aN 0 [])) oh (aN 0 [])) Rs h18 GU ks kd (by kernel_rfl) (by simp) fun Pd pc h19=>?_)
 dsimp only
 have acn:At (bD (bz (bz (bz Cs pb (aN 0 [])) oh (aN 0 [])) pc (aN 0 [])) (ig (.str (S T))) 722 x dx) (fsH io pb oh pc aa (S M) (S (SD aa))) (uB aa (.str (S M))) yh Pd:=h19
 have IK4:=oF (ai:=ai) (w:=w) (K:=KS Pm) (C:=bz (bz (bz Cs pb (aN 0 [])) oh (aN 0 [])) pc (aN 0 [])) (o₀:=ig (.str (S T))) (cls:=722) (x:=x) (dx:=dx) (names:=sM) (lg:=rA) (X:=fun _ _ _ _=>False) Rs (ny Pm) GU MP (mC _) ks
 refine f9 (b:=[MH]) (rest:=[Tg,Tf]) (lN IK4 (V9 L io pb oh pc aa (S M))) acn fun aao aaW s20 h20=>?_
 have acz:∀ {fs:OF} {pos},bq ai w A (bD (bz (bz (bz Cs pb (aN 0 [])) oh (aN 0 [])) pc (aN 0 [])) (ig (.str (S T))) 722 x dx) fs (rH L) (uB aa (.str (S M))) (.Name "punctuation_chars" pos) (.str (S M)):=fun {fs pos}=>fM (IK4.fh _) (x:="punctuation_chars") (show sM.contains "punctuation_chars"=true by decide +kernel) (by decide +kernel) rfl
 refine bS (jJ (Bb (C:=bD (bz (bz (bz Cs pb (aN 0 [])) oh (aN 0 [])) pc (aN 0 [])) (ig (.str (S T))) 722 x dx) Rs h20 ((IK4.fh _).attr "wordchars" (.str (S (wl aa))) (by kernel_rfl) _ _ _) acz rfl hz rfl rfl (by kernel_rfl) (by kernel_rfl) fun M6 aaV tb ob s21 h21 hm rK htb=>?_) (fk rfl))
 refine zC (C:=bD (bz (bz (bz Cs pb (aN 0 [])) oh (aN 0 [])) pc (aN 0 [])) (ig (.str (S T))) 722 x dx) Rs h21 (by kernel_rfl) rfl (fun q hq=>?_) fun Pc h22=>?_
 . have hq:q∈Cs.refs:=hq
   rw[er,hrefs]at hq
   cases hq with
   |head=>exact(show "instream"≠aj "t" by decide)
   | tail _ hq=>
     cases hq with
     |head=>exact(show "self"≠aj "t" by decide)
     |tail _ hq=>cases hq
 dsimp only
 have acm:At (bD (gq (bz (bz (bz Cs pb (aN 0 [])) oh (aN 0 [])) pc (aN 0 [])) ((aj "t",.ref tb)::Cs.refs)) (ig (.str (S T))) 722 x dx) (fsH io pb oh pc aa (S M) (S (wl aa))) (uB aa (.str (S M))) M6 Pc:=h22
 have ho5:∀q∈((aj "t",.ref tb)::Cs.refs),sM.contains q.1=false:=fun q hq=>by
   cases hq with
   |head=>exact(show sM.contains "t"=false by decide +kernel)
   |tail _ hq=>exact MP q hq
 have IK5:=oF (ai:=ai) (w:=w) (K:=KS Pm) (C:=gq (bz (bz (bz Cs pb (aN 0 [])) oh (aN 0 [])) pc (aN 0 [])) ((aj "t",.ref tb)::Cs.refs)) (o₀:=ig (.str (S T))) (cls:=722) (x:=x) (dx:=dx) (names:=sM) (lg:=rA) (X:=fun _ _ _ _=>False) Rs (ny Pm) (.tail _ GU) ho5 (mC _) ks
 refine bS (plainObj_wpAny_Assign_Attribute (AK (C:=bD (gq (bz (bz (bz Cs pb (aN 0 [])) oh (aN 0 [])) pc (aN 0 [])) ((aj "t",.ref tb)::Cs.refs)) (ig (.str (S T))) 722 x dx) Rs acm ((IK5.fh _).attr "wordchars" (.str (S (wl aa))) (by kernel_rfl) _ _ _) (.head _) (by kernel_rfl) (by decide) hm rK htb (by cases aa <;> decide) (by cases aa <;> decide) rfl fun Df aaU aaS s23 h23 OD=>?_) (fk rfl))
 refine pL (C:=bD (gq (bz (bz (bz Cs pb (aN 0 [])) oh (aN 0 [])) pc (aN 0 [])) ((aj "t",.ref tb)::Cs.refs)) (ig (.str (S T))) 722 x dx) Rs (.tail _ GU) ks (by decide) Df _ _ E h23 fun aaT h24=>?_
 refine wA (C:=gq (bz (bz (bz Cs pb (aN 0 [])) oh (aN 0 [])) pc (aN 0 [])) ((aj "t",.ref tb)::Cs.refs)) Rs (ny Pm) h24 (name:="wordchars") (by kernel_rfl) (by simp) (f:=.v _) OD fun Pb h25=>?_
 refine fX ?_
 dsimp only
 refine fX ?_
 subst JL
 have h26:=Mf (C:=gq C ((aj "t",.ref tb)::(aj "instream",.ref io)::C.refs)) (o₀:=o₀) (io:=io) (id:=id) (pb:=pb) (fs:=oh) (pc:=pc) (W:=(wl aa).filter fun c=>decide (c∉onceL M [])) hR hM h25
 refine hq Df Pb ⟨x,dx,io,id,pb,oh,pc,T,M,(wl aa).filter fun c=>decide (c∉onceL M []),aa⟩ (fun q hq=>s23 q (s21 q (s20 q (s18 q (YK q hq))))) rfl rfl rfl (HG hM).symm rfl ?_
 obtain⟨hp,tk,m,R',e1,e2,e3,e4,e5,e6,e7⟩:=h26
 exact⟨hp,tk,m,R',e1,e2,e3,e4,e5,fun _ _ h=>(by exact nn h),fun q hq=>e7 q (.tail _ (.tail _ hq))⟩
theorem E2{o₀:O}{x dx L io id pb oh:Addr}(hR:∀fz R,C.Rep o₀ fz R->R=[])(hrefs:C.refs=[((aj "self"),.ref x)])(JL:gq (bD C o₀ 587 io id) ((aj "instream",.ref io)::C.refs)=Cs)(Rs:cH (KS Pm) p az aL mg mb A₀ base av A (rH L) Cs.h₀ Cs.L (d+3)){T:List Nat}{aa:Bool}(Wy:At (bD (bz (bz Cs pb (aN 0 [])) oh (aN 0 [])) (ig (.str (S T))) 722 x dx) (RH io pb oh aa) (uB aa (.str (S []))) mG sS){Q:Flow->ak->Prop}(hq:∀aT s' P,Sub mG aT->P.lx=x->P.T=T->P.M=[]->P.W=wordsOf aa []->P.aa=aa->At (sQ C P) Ou [] aT s'->Q .next s'):
   wpAny (model ai w) A (execs (rG 20 1++[Wd]) (rH L)) Q E sS:=by
 have ks:(rH L).kindOf "self"=some .local:=by kernel_rfl
 have kd:(rH L).kindOf "deque"=some .globalImplicit:=by kernel_rfl
 have er:Cs.refs=(aj "instream",.ref io)::C.refs:=by exact af JL.symm rfl
 have GU:((aj "self"),.ref x)∈Cs.refs:=by exact af er (af hrefs (.tail _ (.head _)))
 have MP:∀q∈Cs.refs,sM.contains q.1=false:=by
   refine af er (af hrefs ?_)
   intro q hq
   cases hq with
   |head=>exact(show sM.contains "instream"=false by decide +kernel)
   | tail _ hq=>cases hq with
     |head=>exact(show sM.contains "self"=false by decide +kernel)
     |tail _ hq=>cases hq
 have Of:=oF (ai:=ai) (w:=w) (K:=KS Pm) (C:=bz (bz Cs pb (aN 0 [])) oh (aN 0 [])) (o₀:=ig (.str (S T))) (cls:=722) (x:=x) (dx:=dx) (names:=sM) (lg:=rA) (X:=fun _ _ _ _=>False) Rs (ny Pm) GU MP (mC _) ks
 refine f9 (lN Of (GQ L io pb oh aa (S []))) Wy fun tU we YK XO=>?_
 have R6:bq ai w A (bD (bz (bz Cs pb (aN 0 [])) oh (aN 0 [])) (ig (.str (S T))) 722 x dx) (fsG io pb oh aa (S [])) (rH L) (uB aa (.str (S []))) (.Name "punctuation_chars" ⟨507,11,507,28⟩) (.str (S [])):=fM (Of.fh _) (x:="punctuation_chars") (show sM.contains "punctuation_chars"=true by decide +kernel) (by decide +kernel) rfl
 refine bS (wpAny_If (jr R6 rfl rfl tU we _ E XO fun yh F2 s18 h18=>?_))
 skip
 refine fX ?_
 dsimp only
 refine fX ?_
 subst JL
 have h26:=ID (C:=gq C ((aj "instream",.ref io)::C.refs)) (o₀:=o₀) (io:=io) (id:=id) (pb:=pb) (fs:=oh) hR h18
 refine hq yh F2 ⟨x,dx,io,id,0,oh,pb,T,[],SD aa,aa⟩ (fun q hq=>s18 q (YK q hq)) rfl rfl rfl rfl rfl ?_
 obtain⟨hp,tk,m,R',e1,e2,e3,e4,e5,e6,e7⟩:=h26
 exact⟨hp,tk,m,R',e1,e2,e3,e4,e5,fun _ _ h=>(by exact nn h),fun q hq=>e7 q (.tail _ hq)⟩
end
inductive lD:V->List Nat->Prop
 |text (M:List Nat):M≠ []->M.length<=100->lD (.str (S M)) M
 |yes:lD (.bool true) [40,41,59,60,62,124,38]
 |no:lD (.bool false) []
theorem lD.out{M:List Nat}(h:lD v M):(v= .bool false/\M=[])\/(v= .bool true/\M=[40,41,59,60,62,124,38])\/(v= .str (S M)/\M≠ []/\M.length<=100):=by
 cases h with
 |text M h1 h2=>exact .inr (.inr ⟨rfl,h1,h2⟩)
 |yes=>exact .inr (.inl ⟨rfl,rfl⟩)
 |no=>exact .inl ⟨rfl,rfl⟩
theorem Km{M:List Nat}(hM:M≠ [])(hz:M.length<=100):ir (.str (S M))=some true:=by
 show(if strOk (S M)then some (((S M).length:Int)!=0)else mK)=some true
 (refine af (if_pos (ck (cg hz (by decide)))) ?_; rw[Qd])
 cases M with
 |nil=>exact absurd rfl hM
 |cons=>rfl
theorem GB:"();<>|&"=S [40,41,59,60,62,124,38]:=by decide +kernel
theorem Gi(aa:Bool)(d d':V):∀x v,(uB aa d).lookup x=some v->([(aj "punctuation_chars",d),(aj "infile",.none),(aj "posix",.bool aa),(aj "punctuation_chars",d')]:Loc).lookup x=some v:=by
 intro x v h
 simp only[bW]at h |-
 by_cases e1:(x==aj "infile")=true
 . have e1:=eq_of_beq e1
   subst e1; exact h
 . by_cases e2:(x==aj "posix")=true
   . have e2:=eq_of_beq e2
     subst e2; exact h
   . simp only[show(x==aj "infile")=false by simpa using e1,show(x==aj "posix")=false by simpa using e2]at h |-
     split at h
     . exact h
     . exact nn h
theorem Wb(L io pb vZ:Addr)(aa:Bool):runs Wc (rH L) 60 (RH io pb vZ aa) (uB aa (.bool false)) [We]=some (RH io pb vZ aa,[(aj "punctuation_chars",.str ""),(aj "infile",.none),(aj "posix",.bool aa),(aj "punctuation_chars",.bool false)]):=by cases aa <;> kernel_rfl
noncomputable abbrev Th:Stmt:=.Assign [.Name "punctuation_chars" ⟨505,12,505,29⟩] (.Constant (.str "();<>|&") 0 ⟨505,32,505,41⟩) ⟨505,12,505,41⟩
theorem Wa(L io pb vZ:Addr)(aa:Bool):runs Wc (rH L) 60 (RH io pb vZ aa) (uB aa (.bool true)) [Th]=some (RH io pb vZ aa,[(aj "punctuation_chars",.str "();<>|&"),(aj "infile",.none),(aj "posix",.bool aa),(aj "punctuation_chars",.bool true)]):=by cases aa <;> kernel_rfl
section
variable {Pm:aD}
theorem aar{x dx L:Addr}(R:cH (KS Pm) p az aL mg mb A₀ base av A (rH L) C.h₀ C.L d){T:Str}{aa:Bool}(ki:(rH L).kindOf "instream"=some .local):bq ai w A (bD C o₀ 722 x dx) fs (rH L) (Rr T pv aa) (.Name "instream" q) (.str T):=fun fz s Q E h hq=>by
 refine At.eh h fun h' tk m Rl F N rp ap lc rf h=>?_
 refine au (lc "instream" (.str T) rfl) fun v' h1 h2=>?_
 refine eN (fY R.hk ki (af R.hl F.ns) h1 ?_) (by decide)
 exact hq fz _ v' (fun _ h=>h) h h2
theorem I2{o₀:O}{x dx L:Addr}(hR:∀fz R,C.Rep o₀ fz R->R=[])(hrefs:C.refs=[((aj "self"),.ref x)])(R:cH (KS Pm) p az aL mg mb A₀ base av A (rH L) C.h₀ C.L (d+3)){T M:List Nat}{aa:Bool}{pv:V}(hp:lD pv M)(h:At (bD C o₀ 722 x dx) [] (Rr (S T) pv aa) fz s){Q:Flow->ak->Prop}(hq:∀aT s' P,Sub fz aT->P.lx=x->P.T=T->P.M=M->P.W=wordsOf aa M->P.aa=aa->At (sQ C P) Ou [] aT s'->Q .next s'):
   wpAny (model ai w) A (execs inB (rH L)) Q E s:=by
 have ks:(rH L).kindOf "self"=some .local:=by kernel_rfl
 have kd:(rH L).kindOf "deque"=some .globalImplicit:=by kernel_rfl
 have ki:(rH L).kindOf "instream"=some .local:=by kernel_rfl
 refine af Rq ?_
 have uO:∀ {v:Value} {rf:List (Str×Value)},(∀q∈rf,sM.contains q.1=false)->∀q∈(aj "instream",v)::rf,sM.contains q.1=false:=fun hr=>List.forall_mem_cons.mpr ⟨(show sM.contains "instream"=false by decide +kernel),hr⟩
 have aad:∀q∈C.refs,sM.contains q.1=false:=by
   exact af hrefs (List.forall_mem_singleton.mpr (show sM.contains (aj "self")=false by decide +kernel))
 have en:∀ {fs:OF} {q:Pos},bq ai w A (bD C o₀ 722 x dx) fs (rH L) (Rr (S T) pv aa) (.Name "instream" q) (.str (S T)):=fun {fs q}=>aar R ki
 refine bS (wpAny_If (jr (Nq (C:=bD C o₀ 722 x dx) R en rfl (by kernel_rfl) (by kernel_rfl)) rfl rfl fz s _ E h fun ay s₁ s1 h1=>?_))
 simp only[if_true]
 refine bS (jJ (KP (C:=bD C o₀ 722 x dx) (d:=d) R h1 en rfl (by kernel_rfl) fun aO aX io id s2 h2=>?_) (fk rfl))
 have h3:=(Lz h2).drop (ρ':=uB aa pv) (CG rfl)
 refine zC (C:=bD (bD C o₀ 587 io id) (ig (.str (S T))) 722 x dx) R h3 ki rfl (show ∀q∈C.refs,q.1≠aj "instream" by refine af hrefs ?_; exact List.forall_mem_singleton.mpr (show(aj "self")≠aj "instream" by decide)) fun lX h4=>?_
 refine fX ?_
 dsimp only
 have h4':At (bD (gq (bD C o₀ 587 io id) ((aj "instream",.ref io)::C.refs)) (ig (.str (S T))) 722 x dx) [] (uB aa pv) aO lX:=h4
 generalize JL:gq (bD C o₀ 587 io id) ((aj "instream",.ref io)::C.refs)=Cs at h4'
 have eh:Cs.h₀=C.h₀:=by exact af JL.symm rfl
 have eL:Cs.L=C.L:=by exact af JL.symm rfl
 have er:Cs.refs=(aj "instream",.ref io)::C.refs:=by exact af JL.symm rfl
 have Rs:cH (KS Pm) p az aL mg mb A₀ base av A (rH L) Cs.h₀ Cs.L (d+3):=by exact af eh (af eL R)
 have GU:((aj "self"),.ref x)∈Cs.refs:=by exact af er (af hrefs (.tail _ (.head _)))
 have hri:((aj "instream"),.ref io)∈Cs.refs:=by exact af er (.head _)
 have MP:∀q∈Cs.refs,sM.contains q.1=false:=by exact af er (uO aad)
 have IK1:=oF (ai:=ai) (w:=w) (K:=KS Pm) (C:=Cs) (o₀:=ig (.str (S T))) (cls:=722) (x:=x) (dx:=dx) (names:=sM) (lg:=rA) (X:=fun _ _ _ _=>False) Rs (ny Pm) GU MP (mC _) ks
 refine bS (wpAny_If (lT (pL (C:=bD Cs _ 722 x dx) Rs hri ki (by decide) aO lX _ E h4' fun Kw h5=>wpAny_Constant_none ?_) rfl))
 refine isNot_none (cF (fz:=aO) (.bool true) rfl fun tk=>?_)
 simp only[if_true]
 have h5':=h5.toks tk
 refine bS (plainObj_wpAny_Assign_Attribute (pL (C:=bD Cs _ 722 x dx) Rs hri ki (by decide) aO _ _ E h5' fun ada h6=>?_) (fk rfl))
 refine pL (C:=bD Cs _ 722 x dx) Rs GU ks (by decide) aO _ _ E h6 fun abo h7=>?_
 refine wA Rs (ny Pm) h7 (name:="instream") (by kernel_rfl) (by decide) (f:=.r io) rfl fun Uv h8=>?_
 dsimp only
 refine bS ((AQ IK1 (a:="infile") (v:=.none) (o':=vZ io) rfl (fM (IK1.fh _) (x:="infile") (show sM.contains "infile"=true by decide +kernel) (by decide +kernel) rfl) (by kernel_rfl)) aO Uv _ _ h8 fun acW acZ s9 h9=>?_)
 refine fX ?_
 dsimp only at h9 |-
 refine f9 (lN IK1 (Rp L io aa pv)) h9 fun M8 aaY s10 Wz=>?_
 refine bS (BA Rs Wz GU ks kd (by kernel_rfl) (by simp) fun AO pb h11=>?_)
 dsimp only
 have acp:At (bD (bz Cs pb (aN 0 [])) (ig (.str (S T))) 722 x dx) (fsC io pb aa) (uB aa pv) M8 AO:=h11
 have IK2:=oF (ai:=ai) (w:=w) (K:=KS Pm) (C:=bz Cs pb (aN 0 [])) (o₀:=ig (.str (S T))) (cls:=722) (x:=x) (dx:=dx) (names:=sM) (lg:=rA) (X:=fun _ _ _ _=>False) Rs (ny Pm) GU MP (mC _) ks
 refine f9 (lN IK2 (Ro L io pb aa pv)) acp fun M7 aaX s12 h12=>?_
 refine bS (BA (C:=bz Cs pb (aN 0 [])) Rs h12 GU ks kd (by kernel_rfl) (by simp) fun Pe oh h13=>?_)
 dsimp only
 have aco:At (bD (bz (bz Cs pb (aN 0 [])) oh (aN 0 [])) (ig (.str (S T))) 722 x dx) (fsE io pb oh aa) (uB aa pv) M7 Pe:=h13
 have Of:=oF (ai:=ai) (w:=w) (K:=KS Pm) (C:=bz (bz Cs pb (aN 0 [])) oh (aN 0 [])) (o₀:=ig (.str (S T))) (cls:=722) (x:=x) (dx:=dx) (names:=sM) (lg:=rA) (X:=fun _ _ _ _=>False) Rs (ny Pm) GU MP (mC _) ks
 refine f9 (lN Of (Rn L io pb oh aa pv)) aco fun Dg F3 s14 XR=>?_
 rcases hp.out with ⟨ep,eM⟩|⟨ep,eM⟩|⟨ep,hM,hz⟩
 . rw[ep]at XR
   refine f9 (b:=[We]) (lN Of (Wb L io pb oh aa)) XR fun tV wg YL XQ=>?_
   rw[dR]at XQ
   rw[eM]at hq
   exact E2 (Cs:=Cs) hR hrefs JL Rs (XQ.drop (Gi _ _ _)) fun aT s' P YJ e1 e2 e3 e4 e5 h9'=>hq aT s' P (fun q hq=>YJ q (YL q (s14 q (s12 q (s10 q (s9 q (s2 q (s1 q hq)))))))) e1 e2 e3 e4 e5 h9'
 . rw[ep]at XR
   rw[eM]at hq
   have R6:∀ {pos},bq ai w A (bD (bz (bz Cs pb (aN 0 [])) oh (aN 0 [])) (ig (.str (S T))) 722 x dx) (RH io pb oh aa) (rH L) (uB aa (.bool true)) (.Name "punctuation_chars" pos) (.bool true):=fun {pos}=>fM (Of.fh _) (x:="punctuation_chars") (show sM.contains "punctuation_chars"=true by decide +kernel) (by decide +kernel) rfl
   refine bS (wpAny_If (AL (jr R6 rfl rfl) Dg F3 _ E XR fun tV wg YL XQ=>?_))
   simp only[Bool.not_true,qO,if_false]
   refine bS (wpAny_If (lT (R6 tV wg _ E XQ fun mG sS v16 s16 Wy x16=>wpAny_Constant_bool ?_) rfl))
   refine af (AH x16) (af CZ ?_)
   refine aA (cF (fz:=mG) (.bool true) rfl fun tk=>?_)
   simp only[if_true]
   refine f9 (b:=[Th]) (rest:=[]) (lN Of (Wa L io pb oh aa)) (Wy.toks tk) fun tU we YK XO=>?_
   refine fX ?_
   dsimp only
   refine fX ?_
   dsimp only
   rw[GB]at XO
   exact Aa (Cs:=Cs) hR hrefs JL Rs (by simp) (by decide) (XO.drop (Gi _ _ _)) fun aT s' P YJ e1 e2 e3 e4 e5 h9'=>hq aT s' P (fun q hq=>YJ q (YK q (s16 q (YL q (s14 q (s12 q (s10 q (s9 q (s2 q (s1 q hq)))))))))) e1 e2 e3 e4 e5 h9'
 . rw[ep]at XR
   have hMs:=Km hM hz
   have R6:∀ {fs:OF} {pos},bq ai w A (bD (bz (bz Cs pb (aN 0 [])) oh (aN 0 [])) (ig (.str (S T))) 722 x dx) fs (rH L) (uB aa (.str (S M))) (.Name "punctuation_chars" pos) (.str (S M)):=fun {fs pos}=>fM (Of.fh _) (x:="punctuation_chars") (show sM.contains "punctuation_chars"=true by decide +kernel) (by decide +kernel) rfl
   refine bS (wpAny_If (AL (jr R6 hMs rfl) Dg F3 _ E XR fun tV wg YL XQ=>?_))
   simp only[Bool.not_true,qO,if_false]
   refine bS (wpAny_If (lT (R6 tV wg _ E XQ fun mG sS v16 s16 Wy x16=>wpAny_Constant_bool ?_) rfl))
   refine FQ x16 fun _=>?_
   rw[EX]
   refine aA (cF (fz:=mG) (.bool false) rfl fun tk=>?_)
   simp only[qO,if_false]
   refine fX ?_
   dsimp only
   refine fX ?_
   dsimp only
   exact Aa (Cs:=Cs) hR hrefs JL Rs hM hz (Wy.toks tk) fun aT s' P YJ e1 e2 e3 e4 e5 h9'=>hq aT s' P (fun q hq=>YJ q (s16 q (YL q (s14 q (s12 q (s10 q (s9 q (s2 q (s1 q hq))))))))) e1 e2 e3 e4 e5 h9'
theorem I1{o₀:O}{x dx:Addr}(hR:∀fz R,C.Rep o₀ fz R->R=[])(R:cH (KS Pm) p az aL mg mb A₀ base av A env C.h₀ C.L (d+4)){T M:List Nat}{aa:Bool}{pv:V}(To:lD pv M){v1 v2:Value}(h:At (bD C o₀ 722 x dx) [] ρ fz s)(hv1:VR fz (.str (S T)) v1)(Z3:VR fz pv v2){Re:Result->ak->Prop}(hq:∀aT s' P,Sub fz aT->P.lx=x->P.T=T->P.M=M->P.W=wordsOf aa M->P.aa=aa->At (sQ C P) Ou ρ aT s'->Re (.ok (.ret .none)) s'):
   fN (model ai w) A (.call (.ref 646) ⟨[.ref x,v1,.none,.bool aa,v2],[]⟩) Re s:=by
 refine cp fun G' k'=>?_
 obtain⟨U8,A8,FH,Xg⟩:=h.nO
 refine k' ?_
 have h0:At (MF C o₀ x dx) (.inl []) ρ fz s:=(h.re rfl rfl rfl rfl rfl fun _ h=>h)
 refine sA (C:=MF C o₀ x dx) (d:=d+3) (Post:=fun o' dd=>(∃P,o'= .inr (P,Ou)/\P.lx=x/\P.T=T/\P.M=M/\P.W=wordsOf aa M/\P.aa=aa)/\dd= .none) R h0 (name:="__init__") (qual:="shlex.__init__") (params:=nU (bO 19 0)) (body:=aC (bO 19 0)) (scope:=aF (bO 19 0)) (dV:=.ref 639) (kV:=.none) (doc:=.none) (pm:=.str "cpy313.shlex" 1001) (cdv:=.ref 645) (ct:=.none) (oc:=.type "function") (an:=none) (od:=none) (osl:= #[])
   (binds:=[("self",.ref x),("instream",v1),("infile",.none),("posix",.bool aa),("punctuation_chars",v2)])
   (by kernel_rfl) (by kernel_rfl) (kp_binds (R.rD FH) (fun S=>by kernel_rfl)) (fun y hy=>?_) (by kernel_rfl) (by kernel_rfl) (by kernel_rfl) (by decide +kernel) (ρ':=Rr (S T) pv aa) (refs':=[("self",.ref x)]) (fun y v hy=>?_) (fun q hq=>by simp only[aY]at hq; subst hq; rfl)
   (fun g L' s' R' h'=>?_) fun aT s' o' dd v e sb hA hv=>?_
 . simp only[aB,eS,or_false]at hy
   rcases hy with rfl|rfl|rfl|rfl|rfl <;> kernel_rfl
 . rw[bW]at hy
   split at hy
   . rename_i e; obtain rfl:=sj hy; cases eq_of_beq e; exact⟨_,rfl,hv1⟩
   . rw[bW]at hy
     split at hy
     . rename_i e; obtain rfl:=sj hy; cases eq_of_beq e; exact⟨_,rfl,.none⟩
     . rw[bW]at hy
       split at hy
       . rename_i e; obtain rfl:=sj hy; cases eq_of_beq e; exact⟨_,rfl,.bool _⟩
       . rw[bW]at hy
         split at hy
         . rename_i e; obtain rfl:=sj hy; cases eq_of_beq e; exact⟨_,rfl,Z3⟩
         . exact nn hy
 . refine I2 (C:=aV C g L' [("self",.ref x)]) (o₀:=o₀) (L:=L') hR rfl R' To (h'.re rfl rfl rfl rfl rfl fun _ h=>h) fun aO aX P s2 e1 e2 e3 e4 e5 h2=>?_
   exact⟨aO,.inr (P,Ou),[],.none,s2,(h2.re rfl rfl rfl rfl rfl fun _ h=>h),.none,⟨P,rfl,e1,e2,e3,e4,e5⟩,rfl⟩
 . obtain⟨⟨P,rfl,e1,e2,e3,e4,e5⟩,rfl⟩:=e
   cases hv
   exact hq aT s' P sb e1 e2 e3 e4 e5 (hA.re rfl rfl rfl rfl rfl fun _ h=>h)
theorem CI:makesIn (KS Pm) 722=true:=by kernel_rfl
theorem EM:dS (KS Pm) (.ref 722) "__init__"=some (some (.ref 646)):=by kernel_rfl
theorem Et{o₀:O}(hR:∀fz R,C.Rep o₀ fz R->R=[])(R:cH (KS Pm) p az aL mg mb A₀ base av A env C.h₀ C.L (d+5)){T M:List Nat}{aa:Bool}{pv:V}(To:lD pv M)(h:At C o₀ ρ fz s){args:List bG}{p1 p2:Pos}(ha:n7 ai w A C o₀ env ρ args [.str (S T),.none,.bool aa,pv])(hs:args.all notStar=true)(nS:args≠ [])(k1:env.kindOf "shlex"=some .globalImplicit){Q E:Value->ak->Prop}(hq:∀aT s' P,Sub fz aT->P.T=T->P.M=M->P.W=wordsOf aa M->P.aa=aa->At (sQ C P) Ou ρ aT s'->Q (.ref P.lx) s'):
   wpAny (model ai w) A (eval (.Call (.Name "shlex" p1) args [] p2) env) Q E s:=by
 refine gJ rfl ?_
 refine tg R (v:=.ref 722) (by kernel_rfl) k1 (by decide) fz s _ E h fun s₁ h1=>?_
 cases args with
 |nil=>exact absurd rfl nS
 | cons e rest=>
   rw[fQ,aM]at hs
   refine callWith_K (first:=[]) R.X (by kernel_rfl) (ha p2 fz s₁ _ E h1 fun aO aX vs s2 h2 x2=>?_) (cU hs.1) (gS p2 hs.2)
   refine At.eh h2 fun hp tk m Rl F N rp ap lc rf h2=>?_
   refine⟨R.rD F,?_⟩
   obtain⟨_,_,rfl,y1,x2⟩:=c8 x2
   obtain⟨_,_,rfl,y2,x2⟩:=c8 x2
   obtain⟨_,_,rfl,y3,x2⟩:=c8 x2
   obtain⟨_,rfl,y4⟩:=jE x2
   obtain rfl:=mS y2
   obtain rfl:=AH y3
   refine call_cls (s:={ C.s₀ with heap:=hp,toks:=tk }) F R.X N CI EM (by kernel_rfl) fun x dx h' F' N' jl Wm=>?_
   have h3:At (bD C o₀ 722 x dx) [] ρ aO { C.s₀ with heap:=h',toks:=tk }:=by
     refine⟨h',tk,m,(x,bI 722 dx)::(dx,bH [] 0)::Rl,rfl,F',N',⟨[],0,Rl,rfl,trivial,rp,kT Wm,fun q hq=>?_⟩,fun q hq r hr=>?_,lc,rf⟩
     . have:=jl q (aH _ hq)
       exact⟨dJ (jR this Wm),dJ this⟩
     . have k:=jl r (aJ _ hr)
       rcases aB.mp hq with rfl|hq
       . exact kT (jR k Wm)
       . rcases aB.mp hq with rfl|hq
         . exact kT k
         . exact ap q hq r hr
   refine I1 (d:=d) hR (R.under 722 _ []) To h3 y1 y4 fun o8 lX P s4 e1 e2 e3 e4 e5 h4=>?_
   subst e1
   exact⟨rfl,hq o8 lX P (fun q hq=>s4 q (s2 q hq)) e2 e3 e4 e5 h4⟩
end
def qR(C:Cx O)(base:aE)(l:List Env)(o:O)(ρ:Loc)(fz:Led)(k:Nat)(e:Addr)(s:ak):Prop:=
 ∃ h tk g m R t tx B,s= { C.s₀ with heap:=h,toks:=tk }/\Fr C.h₀ C.L g m/\g.UpToSlots h/\base.StaysIn B/\(∀q∈R++(fz++C.rest),B.get? q.1=some q.2/\base.get? q.1=none)/\Heap.HeldW B l e (.type "ValueError") (.ref t) C.L h/\B.get? t=none/\
   h.TupAt t [.str (lE k) tx]/\C.Rep o fz R/\Apart R (fz++C.rest)/\(∀x v,ρ.lookup x=some v->∃v',m x=some v'/\VR fz v v')/\∀p∈C.refs,m p.1=some p.2
section
variable {M:Model}{k:Nat}{e:Addr}{Q:Unit->ak->Prop}
theorem Cz(hA:A.frames=some (env::av))(hf:env.frame=some C.L)(h:ExcAt C base (env::av) o ρ fz k e s)(hq:∀s',qR C base (env::av) o ρ fz k e s'->Q () s'):wpAny M A (noteFrame (.ref e) env) Q E s:=by
 refine cp fun G' k'=>?_
 refine BO h fun hp tk g m R BX=>?_
 obtain⟨t,tx,rfl,F,up,⟨⟨B,b1,b2,fl,b4⟩,tup⟩,rp,ap,lc,rf⟩:=BX
 refine k' ?_
 refine wpAny_looks_onW hA hf fl fun h' hh Uo=>hq _ ⟨h',tk,g,m,R,t,tx,B,rfl,F,up.trans Uo,b1,b2,hh,b4,tup.of_slots Uo,rp,ap,lc,rf⟩
theorem EI(hf:env.frame=some C.L)(h:qR C base (env::av) o ρ fz k e s)(hq:Q () s):wpAny M A (noteFrame (.ref e) env) Q E s:=by
 refine cp fun G' k'=>?_
 refine BO h fun hp tk g m R BX=>?_
 obtain⟨t,tx,B,rfl,F,up,b1,b2,hh,b4,tup,rp,ap,lc,rf⟩:=BX
 refine k' ?_
 exact wpAny_noteFrame_againW hf hh.2.2.2 hq
theorem NW(hf:env.frame=some C.L)(h:qR C base (env::av) o ρ fz k e s)(hq:∀s',qR C base (env::av) o ρ fz k e s'->E (.ref e) s'):cameBackBy M A env E (.ref e) s:=by
 refine cp fun G' k'=>?_
 refine BO h fun hp tk g m R BX=>?_
 obtain⟨t,tx,B,rfl,F,up,b1,b2,⟨c1,c2,c3,c4⟩,b4,tup,rp,ap,lc,rf⟩:=BX
 refine k' ?_
 unfold cameBackBy
 refine cp fun G' k'=>?_
 refine T5 (id c4) fun oe ws T oT ts he E7 hd h1 hnT hTe hT XJ h3=>?_
 refine k' ?_
 refine ao (wpAny_field he hd h1 ?_)
 refine af (if_neg (show ¬(.ref T==Value.none)=true from by simp)) ?_
 refine af hf ?_
 refine vI c1 c3 c4 fun h' k1 k2 k3 k4=>hq _ ⟨h',tk,g,m,R,t,tx,B,rfl,F,up.trans fun b o hb hn=>⟨o.slots,k4 b o hb hn⟩,b1,b2,⟨k1,c2,k2,k3⟩,b4,?_,rp,ap,lc,rf⟩
 exact tup.of_slots fun b o hb hn=>⟨o.slots,k4 b o hb hn⟩
end
section
variable {M:Model}{Q:Unit->ak->Prop}
theorem A2(hk:env.scope.kind= .function)(hl:env.locals=C.L)(h:At C o ρ fz s){x:Str}(hx:env.kindOf x=some .local)(pU:ρ.lookup x=none)(hr:∀q∈C.refs,q.1≠x)(hq:∀s',At (gq C ((x,v)::C.refs)) o ρ fz s'->Q () s'):wpAny M A (storeName env x v) Q E s:=by
 refine At.el h fun h' tk m Rl F N rp ap lc rf=>?_
 refine qN hx (af hl F.ns) (fun h2 hn hs=>hq _ ?_) (af hk rfl)
 rw[hl]at hn hs
 refine⟨h2,tk+1,_,Rl,rfl,F.set hn hs,N.set hs,rp,ap,fun y u hy=>?_,fun p hp=>?_⟩
 . have e:y≠x:=by rintro rfl; rw[pU]at hy; exact nn hy
   refine au (lc y u hy) fun v' h1 h2=>?_
   exact⟨v',by refine af (if_neg e) ?_; exact h1,h2⟩
 . rcases aB.mp hp with rfl|hp
   . exact if_pos rfl
   . show(if p.1=x then some v else m p.1)=some p.2
     exact af (if_neg (hr p hp)) (rf p hp)
theorem Gl(hk:env.scope.kind= .function)(hl:env.locals=C.L)(h:At C o ρ fz s){x:Str}{d:V}(hx:env.kindOf x=some .local)(hv:VR fz d v)(hr:∀q∈C.refs,q.1≠x)(hq:∀s',At C o ((x,d)::ρ) fz s'->Q () s'):wpAny M A (storeName env x v) Q E s:=by
 refine At.el h fun h' tk m R F N rp ap lc rf=>?_
 refine qN hx (af hl F.ns) (fun h2 hn hs=>hq _ ?_) (af hk rfl)
 rw[hl]at hn hs
 refine⟨h2,tk+1,_,R,rfl,F.set hn hs,N.set hs,rp,ap,fun y u hy=>?_,fun p hp=>?_⟩
 . by_cases e:y=x
   . subst e
     rw[bW,beq_self_eq_true]at hy
     obtain rfl:=sj hy
     exact⟨v,if_pos rfl,hv⟩
   . rw[bW,beq_false_of_ne e]at hy
     refine au (lc y u hy) fun v' h1 h2=>?_
     exact⟨v',by refine af (if_neg e) ?_; exact h1,h2⟩
 . show(if p.1=x then some v else m p.1)=some p.2
   exact af (if_neg (hr p hp)) (rf p hp)
theorem LN(hk:env.scope.kind= .function)(hl:env.locals=C.L){x:Str}(h:At (gq C ((x,Uk)::rf)) o ρ fz s)(hx:env.kindOf x=some .local)(pU:ρ.lookup x=none)(hr:∀q∈rf,q.1≠x)(hq:∀s',At (gq C rf) o ρ fz s'->Q () s'):wpAny M A (do bindName env x .none; unbindBehindTheSuite env x pos) Q E s:=by
 refine At.el h fun h' tk m R F N rp ap lc rfs=>?_
 refine wpAny_nameGoes_keeps hx (af hl F.ns) (af hk rfl) fun h2 v hn hs=>hq _ ?_
 rw[hl]at hn hs
 refine⟨h2,tk+1,_,R,rfl,F.set hn hs,N.set hs,rp,ap,fun y u hy=>?_,fun p hp=>?_⟩
 . have e:y≠x:=by rintro rfl; rw[pU]at hy; exact nn hy
   refine au (lc y u hy) fun v' h1 h2=>?_
   exact⟨v',by refine af (if_neg e) ?_; exact h1,h2⟩
 . show(if p.1=x then v else m p.1)=some p.2
   exact af (if_neg (hr p hp)) (rfs p (.tail _ hp))
end
section
variable {K:Frag}
theorem LM(R:cH K p az aL mg mb A₀ base av A env C.h₀ C.L d)(h:At C o ρ fz s){x:Str}(hr:(x,v)∈C.refs)(hk:env.kindOf x=some .local)(hd:(x==("__debug__":Str))=false){Q E:Value->ak->Prop}(hq:Q v s):wpAny (model ai w) A' (eval (.Name x pos) env) Q E s:=by
 obtain⟨h',tk,m,Rl,rfl,F,N,rp,ap,lc,rf⟩:=id h
 exact eN (fY R.hk hk (af R.hl F.ns) (rf _ hr) hq) hd
end
noncomputable def AW:V->Bool
 | .none=>true
 | .bool _=>true
 | .int _=>true
 | .str _=>true
 |_=>false
theorem kr{fz TH:Led}{d:V}(h:AW d=true)(x:VR fz d v):VR TH d v:=by
 cases x <;> first|(constructor; done)|exact ff h
noncomputable def scalF:List (Str×FV)->Bool
 | []=>true
 |y::r=>(match y.2 with| .v d=>AW d| .r _=>true)&&scalF r
theorem G2{fz TH:Led}(hs:scalF fs=true)(h:g6 fz fs es):g6 TH fs es:=by
 refine g6.ind (P:=fun fs es=>scalF fs=true->g6 TH fs es) (fun _=>trivial) (fun y r e es h1 h2 _ ih hs=>?_) h hs
 unfold scalF at hs
 rw[aM]at hs
 refine⟨h1,?_,ih hs.2⟩
 obtain⟨n,f⟩:=y
 cases f with
 |v d=>exact kr (by simpa using hs.1) h2
 |r a=>exact h2
theorem QH(P:LP)(s:RS):scalF (bg P (bT s))=true:=by
 obtain⟨lx,ld,io,id,pb,fs,pc,T,M,W,aa⟩:=P
 unfold bg Xw bT
 cases aa <;> cases s.st <;> cases M <;> rfl
theorem Rf(P:LP)(s:RS):scalF (dw P (bT s))=true:=rfl
theorem Jh{fz TH:Led}:∀ {cs:List Nat} {vs:List Value},aU fz vs (cs.map fun c=>.str (S [c]))->aU TH vs (cs.map fun c=>.str (S [c])):=by
 intro cs
 induction cs with
 |nil=>intro vs h; exact af (j6 h) .nil
 |cons c cs ih=>intro vs h; obtain⟨v,us,rfl,a,b⟩:=c8 h; exact .cons (kr rfl a) (ih b)
theorem xA{P:LP}{s:RS}{fz TH R:Led}(h:bK P (bT s) fz R):bK P (bT s) TH R:=by
 obtain⟨es,n,pY,n2,s1,s2,s3,vs,e,h1,h2,h3,h4⟩:=h
 exact⟨es,n,pY,n2,s1,s2,s3,vs,e,G2 (QH P s) h1,G2 (Rf P s) h2,Jh h3,h4⟩
noncomputable def qS(s₀:ak)(h₀:aE)(L:Addr)(RR:Led)(P:LP)(tl:Addr)(vs:List Value)(k:Nat):Cx LO:=
 { s₀:=s₀,h₀:=h₀,L:=L,rest:=(tl,fu vs.toArray k)::RR,refs:=[(aj "row",.ref tl),(aj "lexer",.ref P.lx)],Rep:=bK P,mono:=pS P }
def rq(ρ:Loc):Prop:=∀x v,ρ.lookup x=some v->AW v=true
theorem oE{x:Str}{d:V}(h:rq ρ)(hd:AW d=true):rq ((x,d)::ρ):=fun y v hy=>by
 rw[bW]at hy
 split at hy
 . obtain rfl:=sj hy; exact hd
 . exact h y v hy
section
variable {s₀:ak}{h₀:aE}{RR:Led}{L tl:Addr}{P:LP}{vs:List Value}{k:Nat}
theorem At.Eh{s:RS}{fz Ae:Led}{st:ak}(h:At (qS s₀ h₀ L RR P tl vs k) (bT s) ρ fz st)(hs:Sub Ae fz)(pU:rq ρ):At (qS s₀ h₀ L RR P tl vs k) (bT s) ρ Ae st:=by
 refine At.el h fun hp tk m R F N rp ap lc rf=>?_
 refine⟨hp,tk,m,R,rfl,F,fun q hq=>N q ?_,xA rp,fun q hq r hr=>ap q hq r ?_,fun x v hx=>?_,rf⟩
 . simp only[bu]at hq |-
   rcases hq with hq|hq|hq
   . exact .inl hq
   . exact .inr (.inl (hs q hq))
   . exact .inr (.inr hq)
 . simp only[bu]at hr |-
   rcases hr with hr|hr
   . exact .inl (hs r hr)
   . exact .inr hr
 . refine au (lc x v hx) fun v' e1 e2=>?_
   exact⟨v',e1,kr (pU x v hx) e2⟩
theorem ExcAt.Eh{e:Addr}{kk:Nat}{s:RS}{fz Ae:Led}{st:ak}(h:ExcAt (qS s₀ h₀ L RR P tl vs k) base l (bT s) ρ fz kk e st)(hs:Sub Ae fz)(pU:rq ρ):ExcAt (qS s₀ h₀ L RR P tl vs k) base l (bT s) ρ Ae kk e st:=by
 refine cp fun G' k'=>?_
 refine BO h fun hp tk g m R BX=>?_
 obtain⟨t,tx,rfl,F,up,⟨⟨B,b1,b2,b3,b4⟩,tup⟩,rp,ap,lc,rf⟩:=BX
 refine k' ?_
 refine⟨hp,tk,g,m,R,t,tx,rfl,F,up,⟨⟨B,b1,fun q hq=>b2 q ?_,b3,b4⟩,tup⟩,xA rp,fun q hq r hr=>ap q hq r ?_,fun x v hx=>?_,rf⟩
 . simp only[bu]at hq |-
   rcases hq with hq|hq|hq
   . exact .inl hq
   . exact .inr (.inl (hs q hq))
   . exact .inr (.inr hq)
 . simp only[bu]at hr |-
   rcases hr with hr|hr
   . exact .inl (hs r hr)
   . exact .inr hr
 . refine au (lc x v hx) fun v' e1 e2=>?_
   exact⟨v',e1,kr (pU x v hx) e2⟩
end
theorem sP{T M W:List Nat}{aa:Bool}{s s':RS}{d:V}(h:dO T M W aa s=some (.tok d s')):AW d=true:=by
 rcases pN h with rfl|⟨x,rfl⟩ <;> rfl
section
variable {Pm:aD}{s₀:ak}{h₀:aE}{RR:Led}{L tl:Addr}{P:LP}{vs:List Value}{k:Nat}
theorem RD(R:cH (eG Pm) p az aL mg mb A₀ base av A env h₀ L (d+6))(hT:P.T.length<=300)(hM:P.M.length<=100)(kl:env.kindOf "lexer"=some .local){s:RS}(hs:oY P.T s)(hP:P.M=[]->∀c∈s.pb,BF P.W P.aa c)(hx:dO P.T P.M P.W P.aa s=some x){st:ak}(pU:rq ρ)(h:At (qS s₀ h₀ L RR P tl vs k) (bT s) ρ fz st)(hl:(p2.endLine==p3.line)=true){Q E:Value->ak->Prop}(hq:∀fE v d s',x= .tok d s'->At (qS s₀ h₀ L RR P tl vs k) (bT s') ρ fz fE->VR fz d v->Q v fE)(tT:∀fE e kk s',x= .exc kk s'->ExcAt (qS s₀ h₀ L RR P tl vs k) base (env::av) (bT s') ρ fz kk e fE->E (.ref e) fE):
   wpAny (model ai w) A (eval (.Call (.Attribute (.Name "lexer" p1) "get_token" p2) [] [] p3) env) Q E st:=by
 refine yD (C:=qS s₀ h₀ L RR P tl vs k) R h (fun Rl hr=>pR hr) (.tail _ (.head _)) kl (by decide) hl (zX rfl rfl) (by kernel_rfl) (M4 Pm) (by kernel_rfl) (fo:=⟨.type "function",none,.func (fnOf "get_token" "shlex.get_token" (nU (bO 19 5)) (aC (bO 19 5)) (aF (bO 19 5)) .none .none .none (.str "cpy313.shlex" 1001) none (.ref 682) .none), #[]⟩) (by kernel_rfl) rfl ?_
 refine yg (C:=qS s₀ h₀ L RR P tl vs k) rfl hT hM R hs hP hx h (fun aT fE v d s' e sb h' hv=>?_) fun aT fE e kk s' ex sb h'=>?_
 . exact hq fE v d s' e (h'.Eh sb pU) (kr (sP (e▸hx)) hv)
 . exact tT fE e kk s' ex (h'.Eh sb pU)
end
inductive pg(T M W:List Nat)(aa:Bool):Nat->V->RS->List V->(List V×Option Nat)->Prop
 |stop {n:Nat} {d:V} {s:RS} {told:List V} (hc:lP .NotEq d (pA aa)=some (.bool false)):pg T M W aa n d s told (told,none)
 |fault {n:Nat} {d:V} {s s':RS} {told:List V} {k:Nat} (hc:lP .NotEq d (pA aa)=some (.bool true)) (hr:dO T M W aa s=some (.exc k s')):pg T M W aa n d s told (told++[d],some k)
 |more {n:Nat} {d d':V} {s s':RS} {told:List V} {r:List V×Option Nat} (hc:lP .NotEq d (pA aa)=some (.bool true)) (hr:dO T M W aa s=some (.tok d' s')) (hl:pg T M W aa n d' s' (told++[d]) r):pg T M W aa (n+1) d s told r
theorem pg.inv{T M W:List Nat}{aa:Bool}{n:Nat}{d:V}{s:RS}{told:List V}{r:List V×Option Nat}{G:Prop}(h:pg T M W aa n d s told r)(k1:lP .NotEq d (pA aa)=some (.bool false)->r=(told,none)->G)(k2:∀s' k,lP .NotEq d (pA aa)=some (.bool true)->dO T M W aa s=some (.exc k s')->r=(told++[d],some k)->G)(k3:∀n' d' s',lP .NotEq d (pA aa)=some (.bool true)->dO T M W aa s=some (.tok d' s')->pg T M W aa n' d' s' (told++[d]) r->n'<n->G):G:=by
 cases h with
 |stop hc=>exact k1 hc rfl
 |fault hc hr=>exact k2 _ _ hc hr rfl
 |more hc hr hl=>exact k3 _ _ _ hc hr hl (sF _)
structure FE(P:LP)(s:RS):Prop where
 top:oY P.T s
 ZL:P.M=[]->∀c∈s.pb,BF P.W P.aa c
theorem FE.next{P:LP}{s s':RS}{d:V}(h:FE P s)(hr:dO P.T P.M P.W P.aa s=some (.tok d s')):FE P s':=by
 refine⟨vt h.top hr,fun e=>?_⟩
 rw[e]at hr
 exact A0 h.top (h.ZL e) hr
inductive LoopAt(s₀:ak)(h₀:aE)(L:Addr)(RR:Led)(tl:Addr)(P:LP)(ρ:Loc)(res:List V×Option Nat)(n:Nat)(st:ak):Prop
 |mk (dv:V) (s:RS) (told:List V) (vs:List Value) (k:Nat) (hw:pg P.T P.M P.W P.aa n dv s told res) (hs:FE P s) (hdv:AW dv=true) (hn:told.length+n<=999) (hv:aU [] vs told) (h:At (qS s₀ h₀ L RR P tl vs k) (bT s) ((aj "token",dv)::ρ) [] st)
noncomputable abbrev rhA(p1 p2 p3 p7 p8:Pos):Stmt:=.Expr (.Call (.Attribute (.Name "row" p1) "append" p2) [.Name "token" p3] [] p7) p8
noncomputable abbrev rhG(p1 p2 p3 p4 p5:Pos):Stmt:=.Assign [.Name "token" p1] (.Call (.Attribute (.Name "lexer" p2) "get_token" p3) [] [] p4) p5
noncomputable abbrev rhT(p1 p2 p3 p4 p5 p6:Pos):bG:=.Compare (.Name "token" p1) [.NotEq] [.IfExp (.Name "posix" p2) (.Constant .none 0 p3) (.Constant (.str "") 0 p4) p5] p6
section
variable {Pm:aD}{s₀:ak}{h₀:aE}{RR:Led}{L tl:Addr}{P:LP}{vs:List Value}{k:Nat}
theorem nV{K:Frag}(R:cH K p az aL mg mb A₀ base av A env C.h₀ C.L d){x:Str}{v:V}(hk:env.kindOf x=some .local)(hd:(x==("__debug__":Str))=false)(hv:ρ.lookup x=some v):bq ai w A C o env ρ (.Name x pos) v:=by
 intro fz s Q E h hq
 refine At.eh h fun h' tk m Rl F N rp ap lc rf h=>?_
 refine au (lc x v hv) fun v' h1 h2=>?_
 refine eN (fY R.hk hk (af R.hl F.ns) h1 ?_) hd
 exact hq fz _ v' (fun _ h=>h) h h2
theorem zp(R:cH (eG Pm) p az aL mg mb A₀ base av A env h₀ L d)(ht:∀q∈RR,q.1≠tl)(kt:env.kindOf "row"=some .local)(ko:env.kindOf "token"=some .local){s:RS}{st:ak}{dv:V}(pU:rq ρ)(hd:ρ.lookup (aj "token")=some dv)(hz:vs.length<=1000)(h:At (qS s₀ h₀ L RR P tl vs k) (bT s) ρ [] st)(hl:(p2.endLine==p7.line)=true)(hq:∀fE v,VR [] dv v->At (qS s₀ h₀ L RR P tl (vs++[v]) (k+1)) (bT s) ρ [] fE->Q .next fE):
   wpAny (model ai w) A (exec (rhA p1 p2 p3 p7 p8) env) Q E st:=by
 refine wpAny_Expr ?_ R.hi rfl
 refine d9 (pl:=_) ?_ (iJ (v:=.Name "row" p1) rfl rfl (by simp) hl)
 refine LM (C:=qS s₀ h₀ L RR P tl vs k) R h (.head _) kt (by decide) ?_
 have rK:st.heap.get? tl=some (fu vs.toArray k):=by
   refine At.eh h fun hp tk m Rl F N rp ap lc rf h=>?_
   exact(N (tl,fu vs.toArray k) (aJ _ (aJ _ (.head _)))).1
 refine getMethod_list_append rK rfl rfl ?_
 refine cW (first:=[.ref tl]) rfl (fP (nV (C:=qS s₀ h₀ L RR P tl vs k) R ko (by decide) hd _ st _ E h fun ay s₁ v s1 h1 x1=>?_) rfl)
 refine ic ?_
 have hv0:VR [] dv v:=kr (pU _ _ hd) x1
 have h2:=h1.Eh (Ae:=[]) (fun _ h=>nomatch h) pU
 refine At.el h2 fun hp tk m Rl F N rp ap lc rf=>?_
 have Rw:∀q∈Rl,q.1≠tl:=fun q hq e=>ap q hq (tl,fu vs.toArray k) (.head _) e
 refine append_K (s:={ s₀ with heap:=hp,toks:=tk }) (its:=vs.toArray) (D:=tl) (news:=Rl++((tl,fu vs.toArray k)::RR))
   (news':=Rl++((tl,fu (vs.toArray.push v) (k+1))::RR)) F N (AJ ht Rw) (fun h' F' N'=>?_) (by refine af nj (af dh ?_); lia)
 have e:vs.toArray.push v=(vs++[v]).toArray:=by simp
 rw[e]at N'
 refine hq _ v hv0 ⟨h',tk,m,Rl,rfl,F',N',rp,fun q hq r hr=>?_,lc,rf⟩
 rcases aB.mp hr with rfl|hr
 . exact Rw q hq
 . exact ap q hq r (.tail _ hr)
theorem nT(R:cH (eG Pm) p az aL mg mb A₀ base av A env h₀ L (d+6))(hT:P.T.length<=300)(hM:P.M.length<=100)(kl:env.kindOf "lexer"=some .local)(ko:env.kindOf "token"=some .local){s:RS}(hs:FE P s)(hx:dO P.T P.M P.W P.aa s=some x){st:ak}(pU:rq ρ)(h:At (qS s₀ h₀ L RR P tl vs k) (bT s) ρ [] st)(hl:(p3.endLine==p4.line)=true)(hq:∀fE d s',x= .tok d s'->At (qS s₀ h₀ L RR P tl vs k) (bT s') ((aj "token",d)::ρ) [] fE->Q .next fE)(tT:∀fE e kk s',x= .exc kk s'->ExcAt (qS s₀ h₀ L RR P tl vs k) base (env::av) (bT s') ρ [] kk e fE->E (.ref e) fE):
   wpAny (model ai w) A (exec (rhG p1 p2 p3 p4 p5) env) Q E st:=by
 refine jJ (RD R hT hM kl hs.top hs.ZL hx pU h hl (fun fE v d s' e h' hv=>?_) tT) (fk rfl)
 refine Gl (C:=qS s₀ h₀ L RR P tl vs k) R.hk R.hl h' ko hv (fun q hq=>?_) fun jX h2=>hq jX d s' e h2
 have hq:q∈ [(aj "row",.ref tl),(aj "lexer",.ref P.lx)]:=hq
 simp only[aB,eS,or_false]at hq
 rcases hq with rfl|rfl
 . exact(show "row"≠aj "token" by decide)
 . exact(show "lexer"≠aj "token" by decide)
theorem vD{k y:Str}(h:(y==k)=false):((k,u)::ρ).lookup y=ρ.lookup y:=by
 (refine af bW (af h ?_); rfl)
theorem SE(R:cH (eG Pm) p az aL mg mb A₀ base av A env h₀ L (d+6))(hT:P.T.length<=300)(hM:P.M.length<=100)(ht:∀q∈RR,q.1≠tl)(kl:env.kindOf "lexer"=some .local)(ko:env.kindOf "token"=some .local)(kt:env.kindOf "row"=some .local)(kp:env.kindOf "posix"=some .local)(pU:rq ρ)(aci:ρ.lookup (aj "posix")=some (.bool P.aa)){n:Nat}{dv:V}{s:RS}(hw:pg P.T P.M P.W P.aa n dv s told res)(hs:FE P s)(hdv:AW dv=true)(hn:told.length+n<=999){st:ak}(hv:aU [] vs told)(h:At (qS s₀ h₀ L RR P tl vs k) (bT s) ((aj "token",dv)::ρ) [] st){q1 q2 q3 q7 q8 r1 r2 r3 r4 r5 r6 u1 u2 u3 u4 u5 pw:Pos}(l1:(q2.endLine==q7.line)=true)(l2:(u3.endLine==u4.line)=true){Q:Flow->ak->Prop}(hq:∀fE sO k' s' ρ',res.2=none->At (qS s₀ h₀ L RR P tl sO k') (bT s') ρ' [] fE->aU [] sO res.1->Q .next fE)(tT:∀fE sO k' s' ρ' kk e,res.2=some kk->qR (qS s₀ h₀ L RR P tl sO k') base (env::av) (bT s') ρ' [] kk e fE->aU [] sO res.1->E (.ref e) fE):
   wpAny (model ai w) A (exec (.While (rhT r1 r2 r3 r4 r5 r6) [rhA q1 q2 q3 q7 q8,rhG u1 u2 u3 u4 u5] [] pw) env) Q E st:=by
 refine wpAny_While (codeAny_whileLoop (LoopAt s₀ h₀ L RR tl P ρ res) ?_ n ⟨dv,s,told,vs,k,hw,hs,hdv,hn,hv,h⟩)
 rintro n st ⟨dv,s,told,vs,k,hw,hs,hdv,hn,hv,h⟩
 have htk:((aj "token",dv)::ρ).lookup (aj "token")=some dv:=by(refine af bW ?_; rw[beq_self_eq_true])
 have hen:((aj "token",dv)::ρ).lookup (aj "posix")=some (.bool P.aa):=by exact af (vD (by decide)) aci
 have tr:∀ {b:Bool},lP .NotEq dv (pA P.aa)=some (.bool b)->gi ai w A (qS s₀ h₀ L RR P tl vs k) (bT s) env ((aj "token",dv)::ρ) (rhT r1 r2 r3 r4 r5 r6) b:=fun hc=>by
   refine wZ (nV (C:=qS s₀ h₀ L RR P tl vs k) R ko (by decide) htk) (Ds (jr (nV (C:=qS s₀ h₀ L RR P tl vs k) R kp (by decide) hen) rfl rfl) ?_) rfl hc rfl
   cases P.aa with
   |true=>exact fq rfl
   |false=>exact fq rfl
 have hlen:vs.length<=1000:=by have:=hv.length; lia
 have E5:=oE (x:="token") pU hdv
 refine hw.inv (fun hc er=>?_) (fun s' kk hc hr er=>?_) fun n' d' s' hc hr hl jl=>?_
 . refine tr hc [] st _ _ h fun aO jX s2 h2=>?_
   exact fX (hq jX vs k s _ (congrArg Prod.snd er) (h2.Eh (fun _=>nm) E5) (af er hv))
 . refine tr hc [] st _ _ h fun aO jX s2 h2=>?_
   refine bS (zp R ht kt ko E5 htk hlen (h2.Eh (fun _=>nm) E5) l1 fun Yy v hv3 h3=>?_)
   refine bS (nT R hT hM kl ko hs hr E5 h3 l2 (fun _ _ _ e _=>by cases e) fun Yx e kk s' ee h4=>?_)
   cases ee
   refine Cz (C:=qS s₀ h₀ L RR P tl (vs++[v]) (k+1)) R.hA R.hf h4 fun Yw h5=>?_
   refine NW (C:=qS s₀ h₀ L RR P tl (vs++[v]) (k+1)) R.hf h5 fun Yv h6=>?_
   exact tT Yv (vs++[v]) (k+1) _ _ _ e (congrArg Prod.snd er) h6 (af er (oO hv (.cons hv3 .nil)))
 . refine tr hc [] st _ _ h fun aO jX s2 h2=>?_
   refine bS (zp R ht kt ko E5 htk hlen (h2.Eh (fun _=>nm) E5) l1 fun Yy v hv3 h3=>?_)
   refine bS (nT R hT hM kl ko hs hr E5 h3 l2 (fun Yx d' s' e h4=>?_) fun _ _ _ _ e _=>by cases e)
   cases e
   refine fX ?_
   refine⟨n',jl,_,_,_,vs++[v],k+1,hl,hs.next hr,sP hr,?_,oO hv (.cons hv3 .nil),h4.drop fun x y hy=>?_⟩
   . simp only[aR,dg,iF]; lia
   . rw[bW]at hy |-
     split at hy
     . exact hy
     . rename_i e
       exact af (vD (by simpa using e)) hy
end
structure BE(K:Frag)(p:cB)(az:List Str)(aL:ExcName->Option Value)(mg mb:Str->Option Value)(env:Env)(h₀:aE)(L:Addr):Prop where
 X:K.In h₀
 T:Top p az aL mg mb h₀
 hk:env.scope.kind= .function
 hl:env.locals=L
 hg:env.globals=dc
 hb:env.builtins=builtinsNs
structure Kept{O:Type}(C:Cx O)(o:O)(ρ:Loc)(fz Rl:Led)(m:Str->Option Value):Prop where
 rp:C.Rep o fz Rl
 off:∀q∈Rl++(fz++C.rest),q.1≠C.L
 ap:Apart Rl (fz++C.rest)
 lc:∀x v,ρ.lookup x=some v->∃v',m x=some v'/\VR fz v v'
 rf:∀p∈C.refs,m p.1=some p.2
noncomputable def nJ(C:Cx O)(h₀:aE)(L:Addr)(X:Led)(refs:List (Str×Value)):Cx Unit:=
 { s₀:=C.s₀,h₀:=h₀,L:=L,rest:=C.rest,refs:=refs,Rep:=fun _ _ R=>R=X,mono:=fun _ _ _ _ _ h=>h }
section
variable {K:Frag}
theorem zN(R:BE K p az aL mg mb env C.h₀ C.L)(h:At C o ρ fz s){x:Str}(e:nsIn K dc x=some none)(hv:bootBuiltins x=some v)(hn:x≠"__name__")(hx:env.kindOf x=some .globalImplicit)(hd:(x==("__debug__":Str))=false)(hq:Q v s):
   wpAny (model ai w) A (eval (.Name x pos) env) Q E s:=by
 refine gB h.nO fun m news F N=>?_
 refine Name_function_global R.hk hx (loadGlobal_builtin ?_ (Gz R.X R.T.g e) ?_ ((R.T.builtins x hn).trans hv) hq) hd
 . exact af R.hg (R.T.g.keeps F.keep)
 . exact af R.hb (R.T.b.keeps F.keep)
theorem Iq(R:BE K p az aL mg mb env C.h₀ C.L)(h:At C o ρ fz s){x:Str}(hr:(x,v)∈C.refs)(hk:env.kindOf x=some .local)(hd:(x==("__debug__":Str))=false)(hq:Q v s):wpAny (model ai w) A (eval (.Name x pos) env) Q E s:=by
 obtain⟨h',tk,m,Rl,rfl,F,N,rp,ap,lc,rf⟩:=id h
 exact eN (fY R.hk hk (af R.hl F.ns) (rf _ hr) hq) hd
theorem Aj(R:BE K p az aL mg mb env C.h₀ C.L){x:Str}(hk:env.kindOf x=some .local)(hd:(x==("__debug__":Str))=false)(hv:ρ.lookup x=some v):bq ai w A C o env ρ (.Name x pos) v:=by
 intro fz s Q E h hq
 obtain⟨h',tk,m,Rl,rfl,F,N,rp,ap,lc,rf⟩:=id h
 refine au (lc x v hv) fun v' h1 h2=>?_
 refine eN (fY R.hk hk (af R.hl F.ns) h1 ?_) hd
 exact hq fz _ v' (fun _ h=>h) h h2
theorem Ld{L:Addr}(k:Kept C o ρ fz Rl m)(eC:C.h₀=base)(ab:C.h₀.objs.size<=C.L)(Tp:∀h:aE,h.get? C.L=some oc->h.Ns C.L m)(h:At (nJ C base L ((C.L,oc)::Rl) refs) () ρ' aT s')(sb:Sub fz aT):At C o ρ aT s':=by
 obtain⟨hp,tk,m₂,d8,rfl,kq,kj,rfl,kO,z6,xy⟩:=h
 have hL:=(kj (C.L,oc) (.head _)).1
 have keep:∀b ob,C.h₀.get? b=some ob->hp.get? b=some ob:=eC▸kq.keep
 refine⟨hp,tk,m,Rl,rfl,⟨Tp hp hL,keep,ab⟩,fun q hq=>⟨(kj q (.tail _ hq)).1,?_,eC▸(kj q (.tail _ hq)).2.2⟩,C.mono _ _ _ _ sb k.rp,fun q hq=>kO q (.tail _ hq),fun x v hx=>?_,k.rf⟩
 . rcases bu.mp hq with hq|hq
   . exact k.off q (aH _ hq)
   . exact fun e=>kO (C.L,oc) (.head _) q hq e.symm
 . refine au (k.lc x v hx) fun v' e1 e2=>?_
   exact⟨v',e1,e2.mono sb⟩
noncomputable abbrev hdR(p1 p2 p3 p4 p5 p6 p7 p8:Pos):ExceptHandler:=ExceptHandler.ExceptHandler (some (.Name "ValueError" p1)) (some "fault") [.Return (some (.Tuple [.Name "row" p2,.Call (.Name "str" p3) [.Name "fault" p4] [] p5] 0 p6)) p7] p8
theorem Dq(R:BE K p az aL mg mb env C.h₀ C.L)(hu:A.units+2<cLine){e t:Addr}{k:Nat}{tx:Tok}{nt:Nat}(he:(aj "fault",.ref e)∈C.refs)(me:(e,oe)∈fz)(mt:(t,ot)∈fz)(Wj:oe.cls= .type "ValueError")(MR:oe.data= .fields ws)(Wk:ws[0]? =some (.ref t))(Wi:ot.cls= .type "tuple")(MO:ot.data= .seq #[.str (lE k) tx] nt)(g2:nsIn K dc "str"=some none)(k2:env.kindOf "str"=some .globalImplicit)(k3:env.kindOf "fault"=some .local)(h:At C o ρ fz s)(hq:∀v,VR fz (.str (lE k)) v->Q v s):
   wpAny (model ai w) A (eval (.Call (.Name "str" p3) [.Name "fault" p4] [] p5) env) Q E s:=by
 refine gJ rfl ?_
 refine zN R h (x:="str") g2 (v:=.type "str") (by kernel_rfl) (by decide) k2 (by decide) ?_
 refine PyProof.Rows.callWith_type1 (fP (Iq R h he k3 (by decide) ?_) rfl) rfl rfl
 refine ic ?_
 exact P.str_of_exc_one PySem.F.excStr_ValueError (t0:=t) (m:=lE k) hu ⟨oe,ws,h.mem me,Wj,MR,Wk⟩ ⟨ot,nt,h.mem mt,Wi,MO⟩ (hq _ (.str _ _))
theorem Hv{L tl:Addr}{n:Nat}{kk:Nat}{e:Addr}{l:List Env}{Rl:Led}{m:Str->Option Value}{told:List V}{st:ak}(RT:BE K p az aL mg mb env base L)(hf:env.frame=some L)(XH:∃l',l=env::l')(hu:A.units+2<cLine)(FG:Fr base C.L h₀ m)(eC:C.h₀=base)(XM:C.L≠L)(hLb:base.get? C.L=none)(ab:base.objs.size<=L)(kp:Kept C o ρ fz Rl m)(ht:∀q∈Rl++(fz++C.rest),q.1≠tl)(XD:tl≠C.L)(h:qR (qS C.s₀ h₀ L (Rl++(fz++C.rest)) P tl vs n) base l (bT rs) ρ' [] kk e st)(hv:aU [] vs told)(g1:nsIn K dc "ValueError"=some none)(g2:nsIn K dc "str"=some none)(k1:env.kindOf "ValueError"=some .globalImplicit)(k2:env.kindOf "str"=some .globalImplicit)(k3:env.kindOf "fault"=some .local)(k4:env.kindOf "row"=some .local){p1 p2 p3 p4 p5 p6 p7 p8:Pos}{Q:Flow->ak->Prop}(hq:∀aT fE v,Sub fz aT->At C o ρ aT fE->VR aT (.tuple [.list told,.str (lE kk)]) v->Q (.ret v) fE):
   wpAny (model ai w) A (setFlight (.ref e) none) (fun _ dF=>wpAny (model ai w) A (handleBy (.ref e) env [hdR p1 p2 p3 p4 p5 p6 p7 p8]) Q E dF) E st:=by
 refine cp fun G' k'=>?_
 refine BO h fun hp tk g m' fF BX=>?_
 obtain⟨t,tx,B,rfl,F,up,b1,b2,hh,b4,tup,rp,ap,lc,rf⟩:=BX
 refine k' ?_
 refine wpAny_landsW hh fun qW MX FW=>?_
 have GX:=flyingW_base b1 MX
 have Fb:Fr base L g m':=⟨F.ns,fun b q e=>F.keep b q (FG.keep b q e),ab⟩
 have Fc:Fr base C.L g m:=⟨FG.ns.keeps F.keep,fun b q e=>F.keep b q (FG.keep b q e),FG.above⟩
 have Xi:=Fb.of_stays GX.1 (up.trans FW)
 refine au GX.there fun ob rK acd=>?_
 have A5:At (C:=ur C.s₀ base L) () [] [] { C.s₀ with heap:=qW,toks:=tk }:=⟨qW,tk,m',[],rfl,Xi,fun _ hq=>(nm hq),rfl,fun _ hq=>(nm hq),fun _ _ h=>(by exact nn h),fun _ hq=>(nm hq)⟩
 refine wpAny_handleBy_builtin_as (X:="ValueError") (T:="ValueError") (b:=true) PySem.F.isExc_ValueError PySem.F.notTuple_ValueError (by rw[jH]; kernel_rfl) (zN (C:=ur C.s₀ base L) RT A5 (x:="ValueError") g1 (v:=.type "ValueError") (by kernel_rfl) (by decide) k1 (by decide) ⟨rfl,⟨ob,rK,acd⟩,?_⟩)
 refine lands_againW MX fun I4 Bp Kc=>?_
 have wH:=flyingW_base b1 Bp
 have Og:=Fb.of_stays wH.1 ((up.trans FW).trans Kc)
 have aaO:=Fc.of_stays wH.1 ((up.trans FW).trans Kc)
 refine cp fun G' k'=>?_
 refine yU aaO.ns fun oc es ep hoc MS abX abY=>?_
 have Tp:∀h:aE,h.get? C.L=some oc->h.Ns C.L m:=fun h e=>⟨oc,es,ep,e,MS,abX,abY⟩
 refine X6 wH.first fun oe ws hoe Wj MR Wk=>?_
 refine fS ((tup.of_slots FW).of_slots Kc) fun ot nt hot Wi MO=>?_
 refine k' ?_
 have hL:B.get? L=none:=by
   refine cE XH fun l' fj=>?_
   subst fj
   refine lV Bp.2.2.1 fun _ HW _=>?_
   obtain⟨L',_,GY,hn',_⟩:=HW
   have:L'=L:=oU (GY.symm.trans hf)
   subst this; exact hn'
 have row:∀q∈(tl,fu vs.toArray n)::(Rl++(fz++C.rest)),I4.get? q.1=some q.2/\q.1≠L/\base.get? q.1=none/\B.get? q.1=some q.2:=fun q hq=>by
   have hb:=b2 q (aJ _ hq)
   exact⟨Bp.1 _ _ hb.1,(fun z=>by have:=hb.1; rw[z,hL]at this; cases this),hb.2,hb.1⟩
 have kj:News base L I4 [(e,oe),(t,ot)]:=News.more Og (News.more Og News.nil hot (fun es n q=>by rw[MO]at q; cases q) (fresh_of_stays b1 b4)) hoe (fun es n q=>by rw[MR]at q; cases q) wH.2.1
 have he:∀q:Addr×Obj,B.get? q.1=some q.2->q.1≠e/\q.1≠t:=fun q hb=>⟨fun z=>(by have:=Bp.2.1; rw[<-z,hb]at this; cases this),fun z=>(by rw[<-z,hb]at b4; cases b4)⟩
 have hLe:C.L≠e:=fun z=>by
   have:=hoc
   rw[z,hoe]at this
   obtain rfl:=oU this
   rw[MR]at MS; cases MS
 have hLt:C.L≠t:=fun z=>by
   have:=hoc
   rw[z,hot]at this
   obtain rfl:=oU this
   rw[MO]at MS; cases MS
 have rw3:∀q∈(tl,fu vs.toArray n)::(Rl++(fz++C.rest)),I4.get? q.1=some q.2/\q.1≠L/\base.get? q.1=none:=fun q hq=>⟨(row q hq).1,(row q hq).2.1,(row q hq).2.2.1⟩
 have A6:At (nJ C base L ((C.L,oc)::Rl) []) () [(aj "row",.list told)] ((e,oe)::(t,ot)::(tl,fu vs.toArray n)::fz) { C.s₀ with heap:=I4,toks:=tk }:=
   ⟨I4,tk,m',_,rfl,Og,fap (P:=fun q:Addr×Obj=>I4.get? q.1=some q.2/\q.1≠L/\base.get? q.1=none) (wK ⟨hoc,XM,hLb⟩ fun q h=>rw3 q (.tail _ (aH _ h))) (fap (wK (kj _ (.head _)) (wK (kj _ (.tail _ (.head _))) (wK (rw3 _ (.head _)) fun q h=>rw3 q (.tail _ (aJ _ (aH _ h)))))) fun q h=>rw3 q (.tail _ (aJ _ (aJ _ h)))),rfl,
     wK (p:=fun q:Addr×Obj=>∀r∈((e,oe)::(t,ot)::(tl,fu vs.toArray n)::fz)++C.rest,q.1≠r.1) (wK hLe (wK hLt (wK (Ne.symm XD) fun r h=>Ne.symm (kp.off r (aJ _ h))))) fun q hq=>have hB:=(row q (.tail _ (aH _ hq))).2.2.2; wK (he q hB).1 (wK (he q hB).2 (wK (ht q (aH _ hq)) fun r h=>kp.ap q hq r h)),
     L5 (rf _ (.head _)) (.list (.tail _ (.tail _ (.head _))) (hv.mono fun q hq=>nm hq)),fun _=>nm⟩
 refine A2 (C:=nJ C base L ((C.L,oc)::Rl) []) RT.hk RT.hl A6 (x:="fault") k3 rfl (fun q hq=>(by have hq:q∈([]:List (Str×Value)):=hq; cases hq)) fun abo h7=>?_
 have RT7:BE K p az aL mg mb env (gq (nJ C base L ((C.L,oc)::Rl) []) [(aj "fault",.ref e)]).h₀ (gq (nJ C base L ((C.L,oc)::Rl) []) [(aj "fault",.ref e)]).L:=RT
 refine bS (ue (wpAny_Tuple (fP (Aj (C:=gq (nJ C base L ((C.L,oc)::Rl) []) [(aj "fault",.ref e)]) RT7 k4 (by decide) rfl _ _ _ _ h7 fun aan Uv Yg K3 h8 x8=>?_) rfl)))
 refine fP (Dq (C:=gq (nJ C base L ((C.L,oc)::Rl) []) [(aj "fault",.ref e)]) RT7 (by rw[Around.mark_units]; exact hu) (.head _) (K3 _ (.head _)) (K3 _ (.tail _ (.head _))) Wj MR Wk Wi MO g2 k2 k3 h8 fun Ye x9=>?_) rfl
 refine ic ⟨by refine af dh ?_; simp,?_⟩
 have Wz:=h8.push { cls:=.type "tuple",data:=.seq [Yg,Ye].toArray } rfl
 refine LN (C:=nJ C base L ((C.L,oc)::Rl) []) RT.hk RT.hl Wz k3 rfl (fun q hq=>(by have hq:q∈([]:List (Str×Value)):=hq; cases hq)) fun AO h11=>?_
 have sb:Sub fz ((Uv.heap.objs.size,({ cls:=.type "tuple",data:=.seq [Yg,Ye].toArray }:Obj))::aan):=fun q hq=>.tail _ (K3 q (.tail _ (.tail _ (.tail _ hq))))
 exact hq _ AO _ sb (Ld kp eC (af eC FG.above) Tp h11 sb) (.tuple (.head _) (.cons (x8.mono fun q hq=>.tail _ hq) (.cons (x9.mono fun q hq=>.tail _ hq) .nil)))
end
inductive FI(T M W:List Nat)(aa:Bool):RS->(List V×Str)->Prop
 |f1 {s s':RS} {k:Nat} (hr:dO T M W aa s=some (.exc k s')):FI T M W aa s ([],lE k)
 |f2 {s s1:RS} {d:V} {told:List V} {k n:Nat} (hr:dO T M W aa s=some (.tok d s1)) (hl:pg T M W aa n d s1 [] (told,some k)) (hn:n<=900):FI T M W aa s (told,lE k)
 |f3 {s s1:RS} {d:V} {told:List V} {n:Nat} (hr:dO T M W aa s=some (.tok d s1)) (hl:pg T M W aa n d s1 [] (told,none)) (hn:n<=900):FI T M W aa s (told,aj "")
noncomputable abbrev yT(L:Addr):Env:=envOf "_law_read" (aF (aW 22)) L 740 (.ref 739)
noncomputable abbrev lrC:bG:=.Tuple [.Call (.Name "shlex" ⟨731,18,731,23⟩) [.Name "text" ⟨731,24,731,28⟩,.Constant .none 0 ⟨731,30,731,34⟩,.Name "posix" ⟨731,36,731,41⟩,.Name "given" ⟨731,43,731,48⟩] [] ⟨731,18,731,49⟩,.List [] ⟨731,51,731,53⟩] 0 ⟨731,17,731,54⟩
noncomputable abbrev lrT:List bG:=[.Name "lexer" ⟨731,4,731,9⟩,.Name "row" ⟨731,11,731,14⟩]
noncomputable abbrev lr1:Stmt:=.Assign [.Tuple lrT 0 ⟨731,4,731,14⟩] lrC ⟨731,4,731,54⟩
noncomputable abbrev abJ:Stmt:=rhG ⟨733,8,733,13⟩ ⟨733,16,733,21⟩ ⟨733,16,733,31⟩ ⟨733,16,733,33⟩ ⟨733,8,733,33⟩
noncomputable abbrev lrW:Stmt:=.While (rhT ⟨734,14,734,19⟩ ⟨734,32,734,37⟩ ⟨734,24,734,28⟩ ⟨734,43,734,45⟩ ⟨734,24,734,45⟩ ⟨734,14,734,46⟩) [rhA ⟨735,12,735,15⟩ ⟨735,12,735,22⟩ ⟨735,23,735,28⟩ ⟨735,12,735,29⟩ ⟨735,12,735,29⟩,rhG ⟨736,12,736,17⟩ ⟨736,20,736,25⟩ ⟨736,20,736,35⟩ ⟨736,20,736,37⟩ ⟨736,12,736,37⟩] [] ⟨734,8,736,37⟩
noncomputable abbrev lr2:Stmt:=.Try [abJ,lrW] [hdR ⟨737,11,737,21⟩ ⟨738,16,738,19⟩ ⟨738,21,738,24⟩ ⟨738,25,738,30⟩ ⟨738,21,738,31⟩ ⟨738,15,738,32⟩ ⟨738,8,738,32⟩ ⟨737,4,738,32⟩] [] [] ⟨732,4,738,32⟩
noncomputable abbrev lr3:Stmt:=.Return (some (.Tuple [.Name "row" ⟨739,12,739,15⟩,.Constant (.str "") 0 ⟨739,17,739,19⟩] 0 ⟨739,11,739,20⟩)) ⟨739,4,739,20⟩
theorem QE:aC (aW 22)=[lr1,lr2,lr3]:=by kernel_rfl
theorem QC(L:Addr):sU lrT 0 ⟨731,4,731,14⟩ lrC (yT L)=some (some [aj "lexer",aj "row"]):=by kernel_rfl
noncomputable def Ex:RS:={ st:=32,tok:=[],ln:=1,pos:=0,pb:=[],quoted:=false,cD:=32 }
theorem UO:bT Ex=Ou:=by kernel_rfl
theorem AX(T:List Nat):oY T Ex:=⟨.inr rfl,dz _,by simp[Ex],fun h=>absurd rfl h,by simp[Ex],rfl⟩
section
theorem O0(hh:A.handled=none)(h:At C o ρ fz s){x y:Str}(hq:∀aT s',Sub fz aT->At C o ρ aT s'->wpAny (model ai w) A (lS [bindName env y,bindName env x] [b,a]) Q E s'):
   wpAny (model ai w) A (unpackItems (.ref s.heap.objs.size) [x,y].length none) (fun items aX=>wpAny (model ai w) A (lS ([x,y].reverse.map fun n=>bindName env n) items.reverse) Q E aX) E { s with heap:=s.heap.push { cls:=.type "tuple",data:=.seq [a,b].toArray } }:=by
 have h4:=h.push { cls:=.type "tuple",data:=.seq [a,b].toArray } rfl
 have ht:IsTup (s.heap.push { cls:=.type "tuple",data:=.seq [a,b].toArray }) s.heap.objs.size [a,b].toArray:=rV h
 have e1: [x,y].length=[a,b].toArray.size:=rfl
 refine af e1 ?_
 refine unpackItems_tuple (s:={ s with heap:=s.heap.push { cls:=.type "tuple",data:=.seq [a,b].toArray } }) hh ht fun h' he=>?_
 exact hq _ _ (fun q hq=>.tail _ hq) (h4.ext2 he)
theorem UK{g:aE}{L tl:Addr}{Rl:Led}{k:Nat}{ρ':Loc}{told:List V}{st:ak}(ht:∀q∈Rl++(fz++C.rest),q.1≠tl)(ap:Apart Rl (fz++C.rest))(hv:aU [] vs told)(h:At (qS C.s₀ g L (Rl++(fz++C.rest)) P tl vs k) (bT rs) ρ' [] st):At (nJ C g L Rl []) () [(aj "row",.list told)] ((tl,fu vs.toArray k)::fz) st:=by
 refine At.el h fun hp tk m fF F N rp acX lc rf=>?_
 refine⟨hp,tk,m,Rl,rfl,F,fun q hq=>N q (aJ _ ?_),rfl,fun q hq r hr=>?_,fun x v hx=>?_,fun _=>nm⟩
 . have hq:q∈Rl++(((tl,fu vs.toArray k)::fz)++C.rest):=hq
   show q∈ []++((tl,fu vs.toArray k)::(Rl++(fz++C.rest)))
   simp only[bu,eY,aB,List.nil_append]at hq |-
   rcases hq with hq|rfl|hq|hq
   . exact .inr (.inl hq)
   . exact .inl rfl
   . exact .inr (.inr (.inl hq))
   . exact .inr (.inr (.inr hq))
 . have hr:r∈((tl,fu vs.toArray k)::fz)++C.rest:=hr
   rw[eY,aB]at hr
   rcases hr with rfl|hr
   . exact ht q (aH _ hq)
   . exact ap q hq r hr
 . rw[bW]at hx
   split at hx
   . rename_i ex
     refine af (eq_of_beq ex) ?_
     obtain rfl:=sj hx
     exact⟨.ref tl,rf _ (.head _),.list (.head _) (hv.mono fun q hq=>by cases hq)⟩
   . exact nn hx
end
section
variable {Pm:aD}{base g:aE}{fz Rl:Led}{m:Str->Option Value}{L:Addr}
theorem VJ(R:cH (KS Pm) p az aL mg mb A₀ base av A (yT L) g L (d+6))(RT:BE (eG Pm) p az aL mg mb (yT L) base L)(hu:A.units+2<cLine){tl:Addr}{n:Nat}{st:ak}(hT:P.T.length<=300)(hM:P.M.length<=100)(FG:Fr base C.L g m)(eC:C.h₀=base)(XM:C.L≠L)(hLb:base.get? C.L=none)(ab:base.objs.size<=L)(kp:Kept C o ρ fz Rl m)(ht:∀q∈Rl++(fz++C.rest),q.1≠tl)(XD:tl≠C.L)(pU:rq ρ')(hpx:ρ'.lookup (aj "posix")=some (.bool P.aa))(h:At (qS C.s₀ g L (Rl++(fz++C.rest)) P tl [] n) (bT Ex) ρ' [] st)(MY:FI P.T P.M P.W P.aa Ex res){Q:Flow->ak->Prop}(Rv:∀aT fE v,Sub fz aT->At (nJ C g L Rl []) () [(aj "row",.list res.1)] aT fE->VR aT (.tuple [.list res.1,.str res.2]) v->Q (.ret v) fE)(hq2:∀aT fE v,Sub fz aT->At C o ρ aT fE->VR aT (.tuple [.list res.1,.str res.2]) v->Q (.ret v) fE):
   wpAny (model ai w) A (execs [lr2,lr3] (yT L)) Q E st:=by
 have kl:(yT L).kindOf "lexer"=some .local:=by kernel_rfl
 have ko:(yT L).kindOf "token"=some .local:=by kernel_rfl
 have kt:(yT L).kindOf "row"=some .local:=by kernel_rfl
 have kx:(yT L).kindOf "posix"=some .local:=by kernel_rfl
 have g1:nsIn (eG Pm) dc "ValueError"=some none:=by kernel_rfl
 have g2:nsIn (eG Pm) dc "str"=some none:=by kernel_rfl
 have hs0:FE P Ex:=⟨AX _,fun _ _=>nm⟩
 have nx:∀fE sO k' s' kU,res.2=aj ""->At (qS C.s₀ g L (Rl++(fz++C.rest)) P tl sO k') (bT s') kU [] fE->aU [] sO res.1->wpAny (model ai w) A (execs [lr3] (yT L)) Q E fE:=fun fE sO k' s' kU e2 h1 hv=>by
   have h2:=UK ht kp.ap hv h1
   have RT2:BE (KS Pm) p az aL mg mb (yT L) (nJ C g L Rl []).h₀ (nJ C g L Rl []).L:=⟨R.X,R.T,R.hk,R.hl,R.hg,R.hb⟩
   have abT:bq ai w A (nJ C g L Rl []) () (yT L) [(aj "row",.list res.1)] (.Tuple [.Name "row" ⟨739,12,739,15⟩,.Constant (.str "") 0 ⟨739,17,739,19⟩] 0 ⟨739,11,739,20⟩) (.tuple [.list res.1,.str res.2]):=by
     exact af e2 (Dp (cC rfl (Aj RT2 kt (by decide) (by rfl)) (cC rfl (fq rfl) fC)) (by simp))
   refine bS (ue (abT _ _ _ _ h2 fun gz dF v s3 h3 x3=>?_))
   exact Rv gz dF v (fun q hq=>s3 q (.tail _ hq)) h3 x3
 refine bS (wpAny_Try_except ?_)
 cases MY with
 | f1 Ru=>
   refine bS (nT R.ks hT hM kl ko hs0 Ru pU h rfl (fun _ _ _ e _=>by cases e) fun B3 e kk s' ee h1=>?_)
   cases ee
   refine Cz (C:=qS C.s₀ g L (Rl++(fz++C.rest)) P tl [] n) R.hA R.hf h1 fun jX h2=>?_
   exact Hv RT R.hf ⟨_,rfl⟩ hu FG eC XM hLb ab kp ht XD h2 .nil g1 g2 (by kernel_rfl) (by kernel_rfl) (by kernel_rfl) kt fun aT fE v sb h' hv=>hq2 aT fE v sb h' hv
 | f2 Ru hl hn=>
   refine bS (nT R.ks hT hM kl ko hs0 Ru pU h rfl (fun B3 d1' s' e h1=>?_) fun _ _ _ _ e _=>by cases e)
   cases e
   refine bS (SE R.ks hT hM ht kl ko kt kx pU hpx hl (hs0.next Ru) (sP Ru) (by simp only[iF]; lia) .nil h1 rfl rfl (fun _ _ _ _ _ e=>by cases e) fun jX sO k' Ew kU kk e ee h2 Z3=>?_)
   obtain rfl:=sj ee
   refine EI (C:=qS C.s₀ g L (Rl++(fz++C.rest)) P tl sO k') R.hf h2 ?_
   exact Hv RT R.hf ⟨_,rfl⟩ hu FG eC XM hLb ab kp ht XD h2 Z3 g1 g2 (by kernel_rfl) (by kernel_rfl) (by kernel_rfl) kt fun aT fE v sb h' hv=>hq2 aT fE v sb h' hv
 | f3 Ru hl hn=>
   refine bS (nT R.ks hT hM kl ko hs0 Ru pU h rfl (fun B3 d1' s' e h1=>?_) fun _ _ _ _ e _=>by cases e)
   cases e
   refine bS (SE R.ks hT hM ht kl ko kt kx pU hpx hl (hs0.next Ru) (sP Ru) (by simp only[iF]; lia) .nil h1 rfl rfl (fun jX sO k' Ew kU _ h2 Z3=>?_) fun _ _ _ _ _ _ _ e=>by exact nn e)
   refine fX ?_
   dsimp only
   refine fX ?_
   exact nx jX sO k' Ew kU rfl h2 Z3
end
structure Iter(ai:cB)(w:World)(A:cy)(fz:Led)(I:Addr)(ds:List V)(St:Nat->aE->Prop):Prop where
 live:∀i h,St i h->∃ob,h.get? I=some ob
 frame:∀i h h',St i h->(∀o,h.get? I=some o->h'.get? I=some o)->(∀p∈fz,h'.get? p.1=some p.2)->St i h'
 item:∀i (s:ak) (Q:Option Value->ak->Prop) (E:Value->ak->Prop),i<ds.length->St i s.heap->
   (∀v h' tk,VR fz (ds.getD i .none) v->St (i+1) h'->(∀b o,b≠I->s.heap.get? b=some o->h'.get? b=some o)->Q (some v) { s with heap:=h',toks:=tk })->wpAny (model ai w) A (pyNext (.ref I)) Q E s
 done:∀(s:ak) (Q:Option Value->ak->Prop) (E:Value->ak->Prop),St ds.length s.heap->
   (∀h' tk,(∀b o,b≠I->s.heap.get? b=some o->h'.get? b=some o)->Q none { s with heap:=h',toks:=tk })->wpAny (model ai w) A (pyNext (.ref I)) Q E s
 self:∀i (s:ak) (Q:Value->ak->Prop) (E:Value->ak->Prop),St i s.heap->Q (.ref I) s->wpAny (model ai w) A (pyIter (.ref I)) Q E s
def qi(ai:cB)(w:World)(A:cy)(C:Cx O)(o:O)(env:Env)(ρ:Loc)(e:Expr)(ds:List V):Prop:=
 ∀ (fz:Led) (s:ak) (Q:Value->ak->Prop) (E:Value->ak->Prop),At C o ρ fz s->
   (∀aT s' ob St,Sub fz aT->At C o ρ aT s'->ob.isFreed=false->Iter ai w A aT s'.heap.objs.size ds St->St 0 (s'.heap.push ob)->Q (.ref s'.heap.objs.size) { s' with heap:=s'.heap.push ob })->
   wpAny (model ai w) A (eval e env) (fun x s₁=>wpAny (model ai w) A (pyIter x) Q E s₁) E s
noncomputable def jw(x:Str):List V:=x.cps.toList.map fun c=>.str (S [c])
noncomputable def j3(n:Nat):List V:=(eU n).map fun(k:Nat)=>.int (k:Int)
theorem map_getD{α:Type}(g:α->V)(l:List α)(i:Nat)(h:i<l.length):(l.map g).getD i .none=g l[i]:=by simp[gn,h]
section
theorem wG{I:Addr}{St:Nat->aE->Prop}(W:Walks ai w A I fp [I] ds.length P St)(hl:∀i h,St i h->∃ob,h.get? I=some ob)(hf:∀i h h',St i h->(∀o,h.get? I=some o->h'.get? I=some o)->(∀p∈fz,h'.get? p.1=some p.2)->St i h')(hP:∀i v,i<ds.length->P i v->VR fz (ds.getD i .none) v):Iter ai w A fz I ds St where
 live:=hl
 frame:=hf
 item:=fun i s Q E hi st hQ=>W.item i s Q E hi st fun v h' tk p fE hk=>hQ v h' tk (hP i v hi p) fE fun b o hb=>hk b o (by simpa using hb)
 done:=fun s Q E st hQ=>W.done s Q E st fun h' tk hk=>hQ h' tk fun b o hb=>hk b o (by simpa using hb)
 self:=W.self
theorem tP(hh:A.handled=none)(he:bq ai w A C o env ρ e (.list ds)):qi ai w A C o env ρ e ds:=by
 intro fz s Q E h hq
 refine he fz s _ E h fun ay s₁ v s1 h1 x1=>?_
 refine oj (jo x1) fun a vs n jU hm hv=>?_
 subst jU
 have hl:s₁.heap.IsList a vs.toArray:=⟨_,h1.row hm,rfl,n,rfl⟩
 have jl:a<s₁.heap.objs.size:=ek (h1.row hm)
 have hlen:=hv.length
 refine wpAny_pyIter_list hl (hq ay s₁ _ _ s1 h1 rfl (wG (P:=fun i v=>vs.toArray[i]? =some v) (fp:=[s₁.heap.objs.size,a]) (St:=fun i h=>h.IsListIter s₁.heap.objs.size a i/\h.IsList a vs.toArray) ?_ ?_ ?_ ?_) ⟨⟨_,Heap.get?_push_size _ rfl,rfl,rfl⟩,hl.push _⟩)
 . have W:=Walks.list (prog:=ai) (w:=w) hh s₁.heap.objs.size a (dJ jl) vs.toArray
   have e:vs.toArray.size=ds.length:=hlen
   exact e▸W
 . rintro i h ⟨⟨ob,e,_⟩,_⟩; exact⟨ob,e⟩
 . rintro i h h' ⟨st,_⟩ k1 k2
   exact⟨st.at k1,⟨_,k2 _ hm,rfl,n,rfl⟩⟩
 . intro i v hi p
   refine au (uX hv i hi) fun u e1 e2=>?_
   have:vs[i]? =some v:=by simpa using p
   rw[e1]at this
   obtain rfl:=sj this
   simpa [gn,hi]using e2
theorem sz(x:Str):x.cps.size=(jw x).length:=by simp[jw]
theorem SM{x:Str}(i:Nat)(v:Value)(hi:i<(jw x).length):SignAt x i v->VR fz ((jw x).getD i .none) v:=by
 rintro⟨c,u,e,rfl⟩
 have h':i<x.cps.size:=by simpa [jw]using hi
 rw[Array.getElem?_eq_getElem h']at e
 obtain rfl:=sj e
 unfold jw
 refine af (map_getD _ _ _ (by simpa using h')) ?_
 simpa using DatIn.str (x:=⟨#[x.cps[i]]⟩) (t:=u)
theorem B4{h:aE}{I:Addr}{ty:String}{x:Str}{t:Tok}{i:Nat}(st:h.IsStrIter I ty x t i):∃ob,h.get? I=some ob:=let ⟨ob,e,_⟩:=st; ⟨ob,e⟩
theorem zz{h h':aE}{I:Addr}{ty:String}{x:Str}{t:Tok}{i:Nat}(st:h.IsStrIter I ty x t i)(k:∀o,h.get? I=some o->h'.get? I=some o):h'.IsStrIter I ty x t i:=let ⟨ob,e,r⟩:=st; ⟨ob,k _ e,r⟩
theorem Q6(hh:A.handled=none){e:Expr}{x:Str}(he:bq ai w A C o env ρ e (.str x)):qi ai w A C o env ρ e (jw x):=by
 intro fz s Q E h hq
 refine he fz s _ E h fun ay s₁ v s1 h1 x1=>?_
 refine FQ x1 fun t=>?_
 cases ha:x.cps.all (· <128)with
 |true=>exact wpAny_pyIter_ascii ha (hq ay s₁ _ _ s1 h1 rfl (wG (P:=SignAt x) (St:=fun i h=>h.IsStrIter s₁.heap.objs.size "str_ascii_iterator" x t i) (sz x▸Walks.strAscii hh _ x t) (fun i h st=>B4 st) (fun i h h' st k _=>zz st k) SM) ⟨_,Heap.get?_push_size _ rfl,rfl,rfl⟩)
 |false=>exact wpAny_pyIter_wide ha (hq ay s₁ _ _ s1 h1 rfl (wG (P:=SignAt x) (St:=fun i h=>h.IsStrIter s₁.heap.objs.size "str_iterator" x t i) (sz x▸Walks.strWide hh _ x t) (fun i h st=>B4 st) (fun i h h' st k _=>zz st k) SM) ⟨_,Heap.get?_push_size _ rfl,rfl,rfl⟩)
theorem z9{K:Frag}{uS:Env}(R:cH K p az aL mg mb A₀ base av A uS C.h₀ C.L d)(lk:yN env)(hk:nsIn K dc "range"=some none)(hr:env.kindOf "range"=some .globalImplicit){e:Expr}{n:Nat}{q1 q2:Pos}(hs:notStar e=true)(hn:n<=100000)(he:bq ai w A C o env ρ e (.int (n:Int))):qi ai w A C o env ρ (.Call (.Name "range" q1) [e] [] q2) (j3 n):=by
 intro fz s Q E h hq
 refine gJ rfl (mJ R lk h (v:=.type "range") hk (by kernel_rfl) (by decide) hr (by decide) ?_)
 refine PyProof.Rows.callWith_type1 ((cC hs he fC) q2 fz s _ E h fun ay s₁ vs s1 h1 x1=>?_) (cU hs) rfl
 refine Sg x1 fun v xv=>?_
 refine Xq xv fun t=>?_
 refine call_range_1 ?_
 have h2:=(h1.push { cls:=.type "range",data:=.fields #[.int 0 s₁.toks,.int (n:Int) t,.int 1 (s₁.toks+1)] } rfl).toks (s₁.toks+1+1)
 have hlen:(j3 n).length=n:=by simp[j3]
 have hrg:IsRange (s₁.heap.push { cls:=.type "range",data:=.fields #[.int 0 s₁.toks,.int (n:Int) t,.int 1 (s₁.toks+1)] }) s₁.heap.objs.size 0 (n:Int) 1 s₁.toks t (s₁.toks+1):=IsRange.new ..
 have hsz:Builtin.Range.rangeSize 0 (n:Int) 1=(n:Int):=by rw[rangeSize_one]; split <;> lia
 refine wpAny_pyIter_range hrg (small_one (by decide) (by decide) (by lia) (Int.lt_trans (show(n:Int)<100001 by lia) (by decide))) (hq _ _ _ _ (fun p hp=>.tail _ (s1 p hp)) h2 rfl (wG (fp:=[(s₁.heap.push { cls:=.type "range",data:=.fields #[.int 0 s₁.toks,.int (n:Int) t,.int 1 (s₁.toks+1)] }).objs.size]) (P:=fun i v=>∃t,v= .int (0+(i:Int)) t) (St:=fun i h=>IsRangeIter h (s₁.heap.push { cls:=.type "range",data:=.fields #[.int 0 s₁.toks,.int (n:Int) t,.int 1 (s₁.toks+1)] }).objs.size (0+(i:Nat)*1) ((n:Int)-(i:Nat)) 1) ?_ ?_ ?_ ?_) ?_)
 . have W:=LCg.range_walks (prog:=ai) (w:=w) (I:=(s₁.heap.push { cls:=.type "range",data:=.fields #[.int 0 s₁.toks,.int (n:Int) t,.int 1 (s₁.toks+1)] }).objs.size) R.hh 0 n
   exact af hlen W
 . intro i h st; exact⟨_,st⟩
 . intro i h h' st k _; exact k _ st
 . rintro i v hi ⟨t,rfl⟩
   unfold j3
   (refine af (map_getD _ _ _ (by simpa [j3]using hi)) ?_; rw[List.getElem_range])
   have e:(0:Int)+(i:Int)=(i:Int):=by lia
   exact af e (.int _ _)
 . show IsRangeIter _ _ (0+((0:Nat):Int)*1) ((n:Int)-((0:Nat):Int)) 1
   have e0:(0:Int)+((0:Nat):Int)*1=0:=by decide
   have e1:(n:Int)-((0:Nat):Int)=n:=by lia
   refine af hsz (af e0 (af e1 ?_))
   exact Heap.get?_push_size _ rfl
end
section
set_option tactic.hygienic true
structure aaQ{O:Type}(C:Cx O)(X cG:Led)(o:O)(fz R:Led):Prop where
 sb:Sub cG fz
 nd:(X.map (·.1)).Nodup
 rp:∃fF,R=X++fF/\Apart X fF/\C.Rep o fz fF
noncomputable def CT(C:Cx O)(X cG:Led):Cx O:=
 { s₀:=C.s₀,h₀:=C.h₀,L:=C.L,rest:=C.rest,refs:=C.refs,Rep:=aaQ C X cG,mono:=fun _ _ _ _ h r=>⟨fun p hp=>h p (r.sb p hp),r.nd,let ⟨fF,e,a,q⟩:=r.rp; ⟨fF,e,a,C.mono _ _ _ fF h q⟩⟩ }
theorem BD{X fF S:Led}{p:Addr×Obj}(h:p∈fF++S):p∈(X++fF)++S:=by rw[bB]; exact aJ _ h
section
variable {fz cG X:Led}
theorem At.out(h:At (CT C X cG) o ρ fz s):At C o ρ fz s:=by
 refine cp fun G' k'=>?_
 obtain⟨h',tk,m,R,rfl,F,N,rp,ap,lc,rf⟩:=h
 obtain⟨fF,rfl,ax,rp⟩:=rp.rp
 refine k' ?_
 exact⟨h',tk,m,fF,rfl,F,fun p hp=>N p (BD hp),rp,fun p hp=>ap p (aJ _ hp),lc,rf⟩
theorem At.qT(h:At (CT C X cG) o ρ fz s){p:Addr×Obj}(hp:p∈X):s.heap.get? p.1=some p.2/\p.1≠C.L/\C.h₀.get? p.1=none:=by
 obtain⟨h',tk,m,R,rfl,F,N,rp,ap,lc,rf⟩:=h
 refine nD rp.rp fun fF fj ax rp=>?_
 subst fj
 exact N p (aH _ (aH _ hp))
theorem At.SP(h:At (CT C X cG) o ρ fz s):Sub cG fz/\(X.map (·.1)).Nodup:=by
 refine At.el h fun h' tk m R F N rp ap lc rf=>?_
 exact⟨rp.sb,rp.nd⟩
theorem At.opn(h:At C o ρ fz s){h':aE}{tk:Nat}(hs:Sub cG fz)(hn:(X.map (·.1)).Nodup)(hk:∀b ob,s.heap.get? b=some ob->h'.get? b=some ob)(hX:∀p∈X,s.heap.get? p.1=none/\h'.get? p.1=some p.2):At (CT C X cG) o ρ fz { s with heap:=h',toks:=tk }:=by
 obtain⟨hp,lG,m,R,rfl,F,N,rp,ap,lc,rf⟩:=h
 have new:∀p∈X,∀q∈R++(fz++C.rest),p.1≠q.1:=fun p hp q hq e=>by
   have h1:=(hX p hp).1
   rw[e,(N q hq).1]at h1; cases h1
 refine⟨h',tk,m,X++R,rfl,F.keeps hk,fun p hp=>?_,⟨hs,hn,R,rfl,fun p hp q hq=>new p hp q (aH _ hq),rp⟩,fun p hp q hq=>?_,lc,rf⟩
 . rw[bB]at hp
   rcases bu.mp hp with hp|hp
   . refine⟨(hX p hp).2,fun e=>?_,?_⟩
     . refine yV F.ns fun oL _ _ hL _=>?_
       have:=(hX p hp).1
       rw[e]at this
       exact nn (this.symm.trans hL)
     . cases e:C.h₀.get? p.1 with
       |none=>exact e
       |some ob=>exact nn ((hX p hp).1.symm.trans (F.keep _ _ e))
   . exact⟨hk _ _ (N p hp).1,(N p hp).2⟩
 . rcases bu.mp hp with hp|hp
   . exact new p hp q (aJ _ hq)
   . exact ap p hp q hq
theorem At.Ym(h:At (CT C X cG) o ρ fz s){X':Led}{h':aE}{tk:Nat}(hn:(X'.map (·.1)).Sublist (X.map (·.1)))(hk:∀b ob,(∀p∈X,b≠p.1)->s.heap.get? b=some ob->h'.get? b=some ob)(hX:∀p∈X',h'.get? p.1=some p.2):
   At (CT C X' cG) o ρ fz { s with heap:=h',toks:=tk }:=by
 obtain⟨hp,lG,m,R,rfl,F,N,rp,ap,lc,rf⟩:=h
 obtain⟨sb,nd,fF,rfl,ax,rp⟩:=rp
 have old:∀p∈X',∃q∈X,q.1=p.1:=fun p hp=>by
   have:=hn.subset (qP (f:=(·.1)) hp)
   refine au (bZ.mp this) fun q hq e=>?_
   exact⟨q,hq,e⟩
 have NX:∀q∈X,q.1≠C.L/\C.h₀.get? q.1=none:=fun q hq=>(N q (aH _ (aH _ hq))).2
 have hL:∀p∈X,C.L≠p.1:=fun p hp e=>(NX p hp).1 e.symm
 refine⟨h',tk,m,X'++fF,rfl,⟨F.ns.at' fun ob e=>hk _ ob hL e,fun b ob e=>hk b ob (fun p hp e'=>?_) (F.keep b ob e),F.above⟩,fun p hp=>?_,⟨sb,hn.nodup nd,fF,rfl,fun p hp q hq=>?_,rp⟩,fun p hp q hq=>?_,lc,rf⟩
 . have h2:=(NX p hp).2
   rw[<-e']at h2
   exact nn (h2.symm.trans e)
 . rw[bB]at hp
   rcases bu.mp hp with hp|hp
   . refine au (old p hp) fun q hq e=>?_
     exact⟨hX p hp,e▸NX q hq⟩
   . have hN:=N p (BD hp)
     refine⟨hk _ _ (fun q hq e=>?_) hN.1,hN.2⟩
     rcases bu.mp hp with hp|hp
     . exact ax q hq p hp e.symm
     . exact ap q (aH _ hq) p hp e.symm
 . refine au (old p hp) fun r hr e=>?_
   exact af e.symm (ax r hr q hq)
 . rcases bu.mp hp with hp|hp
   . refine au (old p hp) fun r hr e=>?_
     exact af e.symm (ap r (aH _ hr) q hq)
   . exact ap p (aJ _ hp) q hq
theorem At.giv(h:At (CT C X cG) o ρ fz s){x:Addr×Obj}(hx:x∈X):At C o ρ (x::fz) s:=by
 obtain⟨hp,lG,m,R,rfl,F,N,rp,ap,lc,rf⟩:=h
 obtain⟨fF,rfl,ax,rp⟩:=rp.rp
 refine⟨hp,lG,m,fF,rfl,F,fun p hp=>?_,C.mono _ _ _ _ (fun p hp=>.tail _ hp) rp,fun p hp q hq=>?_,lc.mono fun p hp=>.tail _ hp,rf⟩
 . rcases bu.mp hp with hp|hp
   . exact N p (aH _ (aJ _ hp))
   . rcases aB.mp hp with rfl|hp
     . exact N _ (aH _ (aH _ hx))
     . exact N p (aJ _ hp)
 . rcases aB.mp hq with rfl|hq
   . exact fun e=>ax _ hx p hp e.symm
   . exact ap p (aJ _ hp) q hq
theorem At.HU{pre post:Led}{a:Addr}{ob yS:Obj}(h:At (CT C (pre++(a,ob)::post) cG) o ρ fz s){h':aE}{tk:Nat}(hk:∀b o,b≠a->s.heap.get? b=some o->h'.get? b=some o)(ha:h'.get? a=some yS):
   At (CT C (pre++(a,yS)::post) cG) o ρ fz { s with heap:=h',toks:=tk }:=by
 have nd:=h.SP.2
 have kk:=gc nd
 refine h.Ym (by simp) (fun b o hb e=>hk b o (hb (a,ob) (aJ _ (.head _))) e) fun p hp=>?_
 rcases bu.mp hp with hp|hp
 . exact hk _ _ (kk.1 p hp) (h.qT (aH _ hp)).1
 . rcases aB.mp hp with rfl|hp
   . exact ha
   . exact hk _ _ (kk.2 p hp) (h.qT (aJ _ (.tail _ hp))).1
end
inductive BH(env:Env)(x:Str)(cG:Led)(d:V)(X:Led):Prop
 |loc (hx:env.kindOf x=some .local) {oC:Obj} {m:Str->Option Value} {v:Value} (hm:(env.locals,oC)∈X) (ho:LCg.NsObj oC m) (hv:m x=some v) (hd:VR cG d v)
 |cell (hx:env.kindOf x=some .cell) {c:Addr} {oc:Obj} {v:Value} (hc:env.cells.lookup x=some c) (hm:(c,oc)∈X) (ho:oc.data= .cell (some v)) (hd:VR cG d v)
inductive TX(env:Env)(x:Str):Led->Prop
 |loc (hx:env.kindOf x=some .local) {oC:Obj} {m:Str->Option Value} (ho:LCg.NsObj oC m):TX env x [(env.locals,oC)]
 |cell (hx:env.kindOf x=some .cell) {oC oc:Obj} {m:Str->Option Value} {c:Addr} {v:Option Value} (hc:env.cells.lookup x=some c) (ho:LCg.NsObj oC m) (hd:oc.data= .cell v):TX env x [(env.locals,oC),(c,oc)]
section
variable {X cG:Led}{x:Str}
theorem BH.ev{d:V}(H:BH env x cG d X)(hk:env.scope.kind= .function)(hb:(x==("__debug__":Str))=false){p:Pos}:bq ai w A (CT C X cG) o env ρ (.Name x p) d:=by
 intro fz s Q E h hq
 have sb:=h.SP.1
 cases H with
 |loc hx hm ho hv hd=>exact eN (fY hk hx (ho.ns (h.qT hm).1) hv (hq fz s _ (fun _ h=>h) h (hd.mono sb))) hb
 |cell hx hc hm ho hd=>exact eN (wpAny_loadName_cell hk hx hc ⟨_,(h.qT hm).1,ho⟩ (hq fz s _ (fun _ h=>h) h (hd.mono sb))) hb
theorem HX{d:V}(hk:env.scope.kind= .function)(h:At (CT C (P++Z) cG) o ρ fz s)(hZ:TX env x Z)(hv:VR cG d v)(hq:∀Z' s',At (CT C (P++Z') cG) o ρ fz s'->BH env x cG d (P++Z')->TX env x Z'->Q () s'):wpAny (model ai w) A (storeName env x v) Q E s:=by
 cases hZ with
 | @loc hx oC m ho=>
   have hm:(env.locals,oC)∈P++[(env.locals,oC)]:=aJ _ (by simp)
   refine qN hx (ho.ns (h.qT hm).1) (fun h' hn hs=>?_) (af hk rfl)
   refine au (LCg.ns_obj hn) fun oC' e1 e2=>?_
   exact hq [(env.locals,oC')] _ (h.HU (fun b o hb e=>hs.extBut b o hb e) e1) (.loc hx (oC:=oC') (aJ _ (aY.mpr rfl)) e2 (by simp) hv) (.loc hx e2)
 | @cell hx oC oc m c Uk hc ho hd=>
   have hm:(c,oc)∈P++[(env.locals,oC),(c,oc)]:=aJ _ (by simp)
   refine wpAny_storeName_cell hk hx hc ⟨oc,(h.qT hm).1,hd⟩ fun h' BN hs=>?_
   refine au BN fun oc' e1 e2=>?_
   have h2:At (CT C ((P++[(env.locals,oC)])++(c,oc)::[]) cG) o ρ fz s:=by rw[bB]; exact h
   have h3:=h2.HU (tk:=s.toks) (fun b o hb e=>hs.extBut b o hb e) e1
   rw[bB]at h3
   exact hq [(env.locals,oC),(c,oc')] _ h3 (.cell hx hc (oc:=oc') (aJ _ (by simp)) e2 hv) (.cell hx hc ho e2)
noncomputable def HE(ai:cB)(w:World)(A:cy)(C:Cx O)(o:O)(env:Env)(ρ:Loc):List Expr->Bool->Prop
 | [],ok=>ok=true
 |c::r,ok=>∃t,gi ai w A C o env ρ c t/\(t=true->HE ai w A C o env ρ r ok)/\(t=false->ok=false)
theorem MI{ifs:List Expr}(hq:Q false s):wpAny (model ai w) A (forIn ifs false fun c r=>if r=true then do let ok <-isTrue c env (eval c env); pure (n5 ok)else pure (n5 r)) Q E s:=by
 induction ifs with
 |nil=>exact af List.forIn_nil (aA hq)
 | cons c r ih=>
   rw[List.forIn_cons]
   exact ao (aA ih)
theorem GS{ifs:List Expr}{ok:Bool}(h:HE ai w A C o env ρ ifs ok)(hA:At C o ρ fz s)(hq:∀aT s',Sub fz aT->At C o ρ aT s'->Q ok s'):
   wpAny (model ai w) A (forIn ifs true fun c r=>if r=true then do let ok <-isTrue c env (eval c env); pure (n5 ok)else pure (n5 r)) Q E s:=by
 induction ifs generalizing fz s with
 | nil=>
   have h:ok=true:=h
   subst h
   exact af List.forIn_nil (aA (hq fz s (fun _ h=>h) hA))
 | cons c r ih=>
   refine nD h fun t ht h1 h2=>?_
   rw[List.forIn_cons]
   refine ao (ao (ht fz s _ _ hA fun ay s₁ s1 XN=>aA ?_))
   cases t with
   |true=>exact ih (h1 rfl) XN fun aO aX s2 hA2=>hq aO aX (fun p hp=>s2 p (s1 p hp)) hA2
   | false=>
     obtain rfl:=h2 rfl
     exact MI (hq ay s₁ s1 XN)
noncomputable def iD(turn:V->Option (Option V)):List V->Option (List V)
 | []=>some []
 |d::r=>opt (turn d) (fun t=>opt (iD turn r) (fun vs=>some (opt t (fun v=>v::vs) vs)) none) none
def TurnOk(ai:cB)(w:World)(A:cy)(C:Cx O)(o:O)(env:Env)(ρ:Loc)(ifs:List Expr)(elt:Expr)(t:Option V):Prop:=
 (HE ai w A C o env ρ ifs false/\t=none)\/(HE ai w A C o env ρ ifs true/\∃v,t=some v/\bq ai w A C o env ρ elt v)
inductive acO(C:Cx O)(o:O)(env:Env)(ρ:Loc)(x:Str)(cG fz:Led)(I D:Addr)(ds outs:List V)(turn:V->Option (Option V))(St:Nat->aE->Prop)(k:Nat)(s:ak):Prop
 |mk (i:Nat) {aT:Led} {oI:Obj} {ys:List Value} {Z:Led} {dl rest:List V} (sb:Sub fz aT) (h:At (CT C ((I,oI)::(D,dX ys)::Z) cG) o ρ aT s) (hZ:TX env x Z) (st:St i s.heap) (hd:aU aT ys dl)
     (hg:iD turn (ds.drop i)=some rest) (e:outs=dl++rest) (hi:i<=ds.length) (hy:ys.length<=i) (hk:k=ds.length+1-i)
theorem Ji{I D:Addr}{oI:Obj}{Z:Led}{St:Nat->aE->Prop}{RR:Result->ak->Prop}(it:Iter ai w A cG I ds St)(hk:env.scope.kind= .function)(hz:ds.length<=100000)(JJ:iD turn ds=some outs)(jC:∀X d t,d∈ds->turn d=some t->BH env x cG d X->TurnOk ai w A (CT C X cG) o env ρ ifs elt t)(h:At (CT C ((I,oI)::(D,dX [])::Z) cG) o ρ fz s)(hZ:TX env x Z)(st:St 0 s.heap)(hR:∀aT s' ys Z',Sub fz aT->At (CT C ((D,dX ys)::Z') cG) o ρ aT s'->TX env x Z'->aU aT ys outs->RR (.ok .next) s'):
   fN (model ai w) A (.compLoop (.ListComp elt [⟨.Name x px,iter,ifs,0⟩] cs pos) 0 (.ref I) (.ref D) env) RR s:=by
 refine codeAny_compLoop_tests (acO C o env ρ x cG fz I D ds outs turn St) ?_ (ds.length+1) (.mk 0 (fun _ h=>h) h hZ st .nil JJ rfl (dz _) (dz _) rfl)
 intro k s' hI
 obtain⟨i,sb,h',hZ',fE,hd,hg,e,hi,hy,MV⟩:=hI
 rename_i aT oI' ys Z' dl rest
 have nd:=h'.SP.2
 by_cases jl:i<ds.length
 . refine it.item i s' _ _ jl fE fun v cj zx hv B3 ye=>?_
   refine cE (it.live _ _ B3) fun zL e1=>?_
   have G0:=h'.HU (pre:=[]) (tk:=zx) ye e1
   refine wpAny_assign_Name (HX (P:=[(I,zL),(D,dX ys)]) hk G0 hZ' hv fun acG aX TG H Tz=>?_)
   have reI:∀ {gz:Led} {dF:ak} {XX:List Value},At (CT C ((I,zL)::(D,dX XX)::acG) cG) o ρ gz dF->St (i+1) dF.heap:=fun kZ=>by
     refine it.frame _ _ _ B3 (fun ob eo=>?_) fun p hp=>kZ.out.row (kZ.SP.1 p hp)
     obtain rfl:=sj (e1.symm.trans eo)
     exact(kZ.qT (.head _)).1
   rw[List.drop_eq_getElem_cons jl]at hg
   refine cp fun G' k'=>?_
   refine au (aq hg) fun t ht hg=>?_
   refine au (aq hg) fun vs XC hg=>?_
   refine k' ?_
   have hg:=sj hg
   have eD:ds.getD i .none=ds[i]:=by simp[gn,jl]
   rw[eD]at H
   rcases jC _ _ _ (nZ jl) ht H with ⟨hf,et⟩|⟨hf,v',et,he⟩
   . subst et
     refine GS hf TG fun gz dF s3 h3=>?_
     skip
     exact⟨ds.length+1-(i+1),LQ jl MV,.mk (i+1) (fun p hp=>s3 p (sb p hp)) h3 Tz (reI h3) (hd.mono s3) XC (af e (af hg.symm rfl)) jl (by lia) rfl⟩
   . subst et
     refine GS hf TG fun gz dF s3 h3=>?_
     skip
     refine he gz dF _ _ h3 fun o8 lX u s4 h4 x4=>?_
     have hD:=(h4.qT (p:=(D,dX ys)) (.tail _ (.head _))).1
     refine append_at (hsz:=?_) hD fun qW Z5 aak=>?_
     . have h5:=h4.HU (pre:=[(I,zL)]) (tk:=lX.toks) (fun b o hb e=>Z5.extBut b o hb e) (aak.trans (congrArg some (LCg.lst_snoc ys u)))
       refine⟨ds.length+1-(i+1),LQ jl MV,.mk (i+1) (fun p hp=>s4 p (s3 p (sb p hp))) h5 Tz (reI h5) (su (hd.mono fun p hp=>s4 p (s3 p hp)) (.cons x4 .nil)) XC (by(refine af e (af hg.symm ?_); rw[bB]); rfl) jl ?_ rfl⟩
       refine af aR (af dG ?_); lia
     . show ys.toArray.size<=sizeLine
       refine af nj (af dh ?_); lia
 . obtain rfl:i=ds.length:=Nat.le_antisymm hi (Nat.not_lt.mp jl)
   rw[qf]at hg
   obtain rfl:=sj hg
   rw[aK]at e
   subst e
   refine it.done s' _ _ fE fun cj zx ye=>?_
   have kk:=gc (pre:=[]) nd
   refine hR aT _ ys Z' sb (h'.Ym (.cons _ (.refl _)) (fun b o hb e=>ye b o (hb (I,oI') (.head _)) e) fun p hp=>?_) hZ' hd
   exact ye _ _ (kk.2 p hp) (h'.qT (.tail _ hp)).1
end
end
inductive Od(cs:Scope)(x:Str):Prop
 |loc (hx:cs.names.lookup x=some .local) (hc:∀n acc,aZ n cs.names acc=acc) (hp:∀h,pushCells h cs.names=h)
 |cell (hx:cs.names.lookup x=some .cell) (hc:∀n acc,aZ n cs.names acc=(x,n)::acc) (hp:∀h,pushCells h cs.names=h.push { cls:=.type "cell",data:=.cell none })
noncomputable abbrev jV(cs:Scope)(cl:List (Str×Addr))(C':Addr)(env:Env):Env:=compEnvC cs (aZ (C'+1) cs.names cl) C' env
section
variable {x:Str}
theorem CB(h:∀Fw:Env,Fw.locals=s.heap.objs.size-> { Fw with scope:=relabel cs env }=jV cs cl s.heap.objs.size env->Q Fw { s with heap:=pushCells (s.heap.push { cls:=.type "dict",data:=.dict #[] }) cs.names }):
   wpAny M A (newFunctionEnv cs env.globals cl [] env.qual none .none (some env)) Q E s:=by
 simp only[newFunctionEnv,Option.isSome_some,if_true]
 refine ao (wpAny_alloc (ao (wpAny_layCells _ (fun name kind cells=>by cases hkc:kind== .cell <;> simp) _ _ _ _ ?_)))
 simp only[List.forIn_nil]
 exact af (show({ s with heap:=s.heap.push { cls:=.type "dict",data:=.dict #[] } }:ak).heap.objs.size=s.heap.objs.size+1 from oR ..) (ao (aA (aA (h _ rfl rfl))))
theorem tH{F:Str×dU->Str×dU}(hF:∀q,(F q).1=q.1){y:Str}{k:dU}:∀ {l:List (Str×dU)},l.lookup y=some k->(l.map F).lookup y=some (F (y,k)).2
 | (n,j)::r,h=>by
   have e:F (n,j)=(n,(F (n,j)).2):=Prod.ext (hF _) rfl
   rw[bW]at h
   rw[eZ,e,bW]
   cases q:y==n with
   |true=>rw[q]at h; obtain rfl:=sj h; cases eq_of_beq q; rfl
   |false=>rw[q]at h; exact tH hF h
noncomputable abbrev PL(env:Env):Str×dU->Str×dU:=fun(n,k)=>if(k== .free&&env.scope.kind== .function&&env.kindOf n==some .cell)then(n,.cell)else(n,k)
theorem Ez(q:Str×dU):(PL env q).1=q.1:=Mz (P:=fun r:Str×dU=>r.1=q.1) rfl rfl
theorem tu{names:List (Str×dU)}{x:Str}(h:names.lookup x=some .cell):(names.map (PL env)).lookup x=some .cell:=tH Ez h
theorem yt{elt iter:Expr}{px:Pos}{ifs:List Expr}{cs:Scope}{cl:List (Str×Addr)}{pos:Pos}{turn:V->Option (Option V)}{ds outs:List V}{ob:Obj}{St:Nat->aE->Prop}{RR:Value->Addr->Result->ak->Prop}(it:Iter ai w A fz s.heap.objs.size ds St)(rK:ob.isFreed=false)(hk:cs.kind= .function)(own:Od cs x)(hz:ds.length<=100000)(JJ:iD turn ds=some outs)(jC:∀C' X d t,d∈ds->turn d=some t->BH (jV cs cl C' env) x fz d X->TurnOk ai w A (CT C X fz) o (jV cs cl C' env) ρ ifs elt t)(h:At C o ρ fz s)(st:St 0 (s.heap.push ob))(hR:∀C' D aT s' ys oC m Z',Sub fz aT->At (CT C ((D,dX ys)::(C',oC)::Z') fz) o ρ aT s'->LCg.NsObj oC m->aU aT ys outs->RR (.ref D) C' (.ok .next) s'):
   wpAny (model ai w) A (newList []) (fun acc dF=>wpAny (model ai w) A (newFunctionEnv cs env.globals cl [] env.qual none .none (some env)) (fun Fw lX=>
     fN (model ai w) A (.compStart (.ListComp elt [⟨.Name x px,iter,ifs,0⟩] cs pos) 0 (.ref s.heap.objs.size) acc { Fw with scope:=relabel cs env }) (RR acc Fw.locals) lX) E dF) E { s with heap:=s.heap.push ob }:=by
 refine wpAny_newObj_type (CB fun Fw eL eE=>?_)
 refine af eE (af eL ?_)
 dsimp only
 have z1:(s.heap.push ob).objs.size=s.heap.objs.size+1:=oR ..
 have z2:((s.heap.push ob).push (dX [])).objs.size=s.heap.objs.size+1+1:=by(rewrite [oR]; refine af z1 ?_; rfl)
 have eD:(dX []:Obj)= { cls:=.type "list",dict:=none,data:=.seq ([]:List Value).toArray }:=rfl
 refine af eD.symm (af z1 (af z2 ?_))
 generalize hC:s.heap.objs.size+1+1=C'
 generalize hD:s.heap.objs.size+1=D at hC z2
 have z3:(((s.heap.push ob).push (dX [])).push { cls:=.type "dict",data:=.dict #[] }).objs.size=C'+1:=by(rewrite [oR]; refine af z2 (af hC ?_); rfl)
 have Tp:=LCg.ns_obj (Heap.Ns.new ((s.heap.push ob).push (dX [])) (.type "dict"))
 rw[z2,hC]at Tp
 refine au Tp fun oC e1 e2=>?_
 have fresh:∀a,s.heap.objs.size<=a->s.heap.get? a=none:=fun a ha=>by
   cases e:s.heap.get? a with
   |none=>rfl
   |some o'=>exact absurd (ek e) (Nat.not_lt.mpr ha)
 have hI:(((s.heap.push ob).push (dX [])).push { cls:=.type "dict",data:=.dict #[] }).get? s.heap.objs.size=some ob:=Heap.get?_push_of_some _ (Heap.get?_push_of_some _ (Heap.get?_push_size _ rK))
 have hDr:(((s.heap.push ob).push (dX [])).push { cls:=.type "dict",data:=.dict #[] }).get? D=some (dX []):=by
   refine Heap.get?_push_of_some _ ?_
   refine af hD.symm (af z1.symm ?_)
   exact Heap.get?_push_size _ rfl
 have hold:∀b o,s.heap.get? b=some o->(((s.heap.push ob).push (dX [])).push { cls:=.type "dict",data:=.dict #[] }).get? b=some o:=fun b o e=>Heap.get?_push_of_some _ (Heap.get?_push_of_some _ (Heap.get?_push_of_some _ e))
 have MV:(jV cs cl C' env).scope.kind= .function:=hk
 have go:∀(H:aE) (Z:Led),(∀b o,(((s.heap.push ob).push (dX [])).push { cls:=.type "dict",data:=.dict #[] }).get? b=some o->H.get? b=some o)->TX (jV cs cl C' env) x Z->([s.heap.objs.size,D]++Z.map (·.1)).Nodup->(∀p∈Z,s.heap.get? p.1=none/\H.get? p.1=some p.2)->
     fN (model ai w) A (.compStart (.ListComp elt [⟨.Name x px,iter,ifs,0⟩] cs pos) 0 (.ref s.heap.objs.size) (.ref D) (jV cs cl C' env)) (RR (.ref D) C') { s with heap:=H }:=by
   intro H Z hH hZ hnd E6
   have hA:At (CT C ((s.heap.objs.size,ob)::(D,dX [])::Z) fz) o ρ fz { s with heap:=H }:=by
     refine h.opn (fun _ h=>h) hnd (fun b o e=>hH b o (hold b o e)) fun p hp=>?_
     rcases aB.mp hp with rfl|hp
     . exact⟨fresh _ (bC _),hH _ _ hI⟩
     . rcases aB.mp hp with rfl|hp
       . exact⟨fresh _ (af hD.symm (iX _)),hH _ _ hDr⟩
       . exact E6 p hp
   have fE:St 0 H:=it.frame _ _ _ st (fun o eo=>hH _ _ (Heap.get?_push_of_some _ (Heap.get?_push_of_some _ eo))) fun p hp=>hH _ _ (hold _ _ (h.row hp))
   have loop:=Ji (RR:=RR (.ref D) C') (px:=px) (iter:=iter) (cs:=cs) (pos:=pos) it MV hz JJ (jC C') hA hZ fE fun aT s' ys Z' sb h' hZ' hd=>by
     cases hZ' with
     |loc hx ho=>exact hR C' D aT s' ys _ _ _ sb h' ho hd
     |cell hx hc ho _=>exact hR C' D aT s' ys _ _ _ sb h' ho hd
   exact codeAny_compStart_list loop (it.self 0 _ _ _ fE loop)
 have jl:s.heap.objs.size<D/\D<C':=by exact af hC.symm (af hD.symm ⟨sF _,sF _⟩)
 cases own with
 | loc hx hc hp=>
   rw[hp]
   refine go _ [(C',oC)] (fun _ _ e=>e) (.loc (show(jV cs cl C' env).kindOf x=_ from lookup_relabel_local hx) e2) ?_ fun p hp=>?_
   . simp only[eZ,List.map_nil,eY,List.nil_append,List.nodup_cons,aB,eS,or_false,not_false_eq_true,List.nodup_nil,and_true,not_or]
     exact⟨⟨dJ jl.1,dJ (jR jl.1 jl.2)⟩,dJ jl.2⟩
   . exact af (aY.mp hp) ⟨fresh _ (kH (jR jl.1 jl.2)),e1⟩
 | cell hx hc hp=>
   rw[hp]
   have e3:=Heap.get?_push_size (((s.heap.push ob).push (dX [])).push { cls:=.type "dict",data:=.dict #[] }) (o:={ cls:=.type "cell",data:=.cell none }) rfl
   rw[z3]at e3
   refine go _ [(C',oC),(C'+1,{ cls:=.type "cell",data:=.cell none })] (fun _ _ e=>Heap.get?_push_of_some _ e) (.cell (c:=C'+1) (v:=none) (show(jV cs cl C' env).kindOf x=_ from tu hx) ?_ e2 rfl) ?_ fun p hp=>?_
   . show(aZ (C'+1) cs.names cl).lookup x=_
     (rewrite [hc]; refine af bW ?_; rw[beq_self_eq_true])
   . simp only[eZ,List.map_nil,eY,List.nil_append,List.nodup_cons,aB,eS,or_false,not_false_eq_true,List.nodup_nil,and_true,not_or]
     exact⟨⟨dJ jl.1,dJ (jR jl.1 jl.2),dJ (u9 (jR jl.1 jl.2))⟩,⟨dJ jl.2,dJ (u9 jl.2)⟩,dJ (sF _)⟩
   . rcases aB.mp hp with rfl|hp
     . exact⟨fresh _ (kH (jR jl.1 jl.2)),Heap.get?_push_of_some _ e1⟩
     . exact af (aY.mp hp) ⟨fresh _ (kH (u9 (jR jl.1 jl.2))),e3⟩
theorem Hq(rL:closureFor cs env=pure cl)(hk:cs.kind= .function)(nB:∀y∈cs.names,y.2= .local->cs.names.lookup y.1=some .local)(own:Od cs x)(hz:ds.length<=100000)(hs:∀v,foldedSetIterable iter env v=pure v)(hit:qi ai w A C o env ρ iter ds)(JJ:iD turn ds=some outs)(jC:∀fz C' X d t,d∈ds->turn d=some t->BH (jV cs cl C' env) x fz d X->TurnOk ai w A (CT C X fz) o (jV cs cl C' env) ρ ifs elt t):
   bq ai w A C o env ρ (.ListComp elt [⟨.Name x px,iter,ifs,0⟩] cs pos) (.list outs):=by
 intro fz s Q E h hq
 rw[eval_ListComp]
 refine wpAny_comprehension_free (use:=none) rfl hs rL hk nB (hit fz s _ _ h fun ay s₁ ob St sb cj rK it st=>yt (RR:=fun acc C'=>compPost (model ai w) A E none Q acc C') it rK hk own hz JJ (jC ay) cj st ?_)
 intro C' D aT s' ys oC m Z' K8 h' ho hd
 refine⟨m,ho.ns (h'.qT (p:=(C',oC)) (.tail _ (.head _))).1,fun gY Ab=>?_⟩
 have kk:=gc (pre:=[(D,dX ys)]) h'.SP.2
 have h3:=h'.Ym (X':=[(D,dX ys)]) (h':=gY) (tk:=s'.toks) (.cons_cons _ (jP _)) (fun b o hb e=>Ab.extBut b o (hb _ (.tail _ (.head _))) e) fun p hp=>by
   exact af (aY.mp hp) (Ab.extBut _ _ (kk.1 _ (.head _)) (h'.qT (.head _)).1)
 exact hq _ _ _ (fun p hp=>.tail _ (K8 p (sb p hp))) (h3.giv (.head _)) (.list (.head _) (hd.mono fun p hp=>.tail _ hp))
end
noncomputable def Ak(I:Jz)(ρ:Loc)(e:Expr):Option V:=jZ bE I ρ none 12 e some
noncomputable def vf(I:Jz)(ρ:Loc)(elt:Expr):List Expr->Option (Option V)
 | []=>jZ bE I ρ none 12 elt fun v=>some (some v)
 |c::r=>jZ bE I ρ none 12 c fun v=>dj bE none v fun t=>cond t (vf I ρ elt r) (some none)
noncomputable def Ul(e:Expr):Option Expr:=opt (wW e) (fun q=>opt (dQ q.1) (fun f=>gate (f=="range") (opt (one q.2.1) (fun a=>gate (notStar a) (some a) none) none) none) none) none
noncomputable def U7(v:V):Option Nat:=opt (intOf v) (fun i=>gate (decide (0<=i)) (some i.toNat) none) none
noncomputable def itemsOf:V->Option (List V)
 | .list ds=>some ds
 | .str x=>some (jw x)
 |_=>none
noncomputable def kG(cs:Scope)(f:Str):Bool:=cs.names.lookup f==some .globalImplicit
noncomputable def xZ(sc:Scope)(ev:Expr->Option V)(iter:Expr):Option (List V):=opt (Ul iter)
 (fun a=>gate (kG sc "range") (opt (ev a) (fun v=>opt (U7 v) (fun n=>gate (iG n) (some (j3 n)) none) none) none) none)
 (opt (ev iter) (fun v=>opt (itemsOf v) (fun ds=>gate (iG ds.length) (some ds) none) none) none)
noncomputable def FU:Expr->Option (Expr×Comprehension×Scope×Pos)
 | .ListComp el gs cs p=>opt (one gs) (fun g=>gate (g.is_async==0) (some (el,g,cs,p)) none) none
 |_=>none
theorem Ka(h:FU e=some q):e= .ListComp q.1 [⟨q.2.1.target,q.2.1.iter,q.2.1.ifs,0⟩] q.2.2.1 q.2.2.2:=by
 cases e with
 | ListComp el gs cs p=>
   refine au (aq h) fun g h1 h=>?_
   refine bx (bA h) fun h2 h=>?_
   obtain rfl:=sj h
   refine af (gF h1) ?_
   have e2:g.is_async=0:=eq_of_beq h2
   cases g
   subst e2
   rfl
 |_=>exact nn h
noncomputable def EJ(e:Expr):Bool:=e.ctorIdx !=7
noncomputable def cellsN:List (Str×dU)->List Str
 | []=>[]
 |(x,k)::r=>if k== .cell then x::cellsN r else cellsN r
noncomputable def UY(cs:Scope)(x:Str):Bool:=match cellsN cs.names with
 | []=>cs.names.lookup x==some .local
 |y::r=>r.isEmpty&&y==x&&cs.names.lookup x==some .cell
noncomputable def okC(cn:Str->Option V)(cs:Scope)(x:Str)(iter:Expr):Bool:=cs.kind== .function&&cs.names.all (fun y=>(y.2 != .local||cs.names.lookup y.1==some .local)&&(y.2 != .free||((cn y.1).isSome&&y.1 !="__debug__")))&&UY cs x&&EJ iter&&x !="__debug__"
noncomputable def rF(cP:List (Str×(List V->Option (Bool×V))))(cs:Scope)(x:Str)(d:V)(cn:Str->Option V)(cv:Loc->Expr->Option V):Jz:=
 { names:=[],self:="",attr:=fun _=>none,j0:=fun f ds=>gate (kG cs f) (opt (cP.lookup f) (fun g=>g ds) none) none,nm:=fun y=>gate (y==x) (some d) (gate (cs.names.lookup y==some .free) (cn y) none),cv:=cv,big:=true }
noncomputable def I3(cs:Scope)(x:Str)(d:V)(cn:Str->Option V):Str->Option V:=fun y=>gate (cs.names.lookup y==some .cell) (gate (y==x) (some d) none) (gate (cs.names.lookup y==some .free) (cn y) none)
noncomputable def lM(cP:List (Str×(List V->Option (Bool×V)))):Nat->Scope->(Str->Option V)->Loc->(Expr->Option V)->Expr->Option V
 |0=>fun _ _ _ _ _=>none
 | l +1=>fun sc cn ρ ev e=>opt (FU e) (fun q=>opt (dQ q.2.1.target) (fun x=>gate (okC cn q.2.2.1 x q.2.1.iter) (opt (xZ sc ev q.2.1.iter) (fun ds=>
     opt (iD (fun d=>vf (rF cP q.2.2.1 x d cn (fun ρ' e=>lM cP l q.2.2.1 (I3 q.2.2.1 x d cn) ρ' (Ak (rF cP q.2.2.1 x d cn (fun _ _=>none)) ρ') e)) ρ q.1 q.2.1.ifs) ds) (fun vs=>some (.list vs)) none) none) none) none) none
noncomputable def closL(cells:List (Str×Addr)):List (Str×dU)->List (Str×Addr)->List (Str×Addr)
 | [],acc=>acc
 |(x,k)::r,acc=>closL cells r (if k== .free then(x,(cells.lookup x).getD 0)::acc else acc)
theorem Hs:∀ {names:List (Str×dU)} {acc:List (Str×Addr)},(∀y∈names,y.2= .free->∃c,env.cells.lookup y.1=some c)->
   (forIn names acc fun(x:Str×dU) cs=>(if x.2== .free then do let a <-cellOf env x.1; pure (n5 ((x.1,a)::cs))else pure (n5 cs):Sem (ForInStep (List (Str×Addr)))))=pure (closL env.cells names acc)
 | [],acc,_=>by exact af List.forIn_nil rfl
 | (x,k)::r,acc,h=>by
   rw[List.forIn_cons]
   have ih:=fun acc=>Hs (acc:=acc) fun y hy=>h y (.tail _ hy)
   unfold closL
   by_cases hk:(k== .free)=true
   . refine cE (h (x,k) (.head _) (eq_of_beq hk)) fun c hc=>?_
     have e:cellOf env x=pure c:=by unfold cellOf; (refine af hc ?_; rfl)
     dsimp only
     exact af (if_pos hk) (af (if_pos hk) (af e (af hc (ih _))))
   . dsimp only
     exact af (if_neg hk) (af (if_neg hk) (ih _))
theorem Hr(h:∀y∈cs.names,y.2= .free->∃c,env.cells.lookup y.1=some c):closureFor cs env=pure (closL env.cells cs.names []):=by
 have:=Hs (acc:=[]) h
 unfold closureFor
 exact(congrArg (· >>= pure) this)
theorem Ao{y:Str}{c:Addr}(hc:cells.lookup y=some c):∀ {names:List (Str×dU)} {acc:List (Str×Addr)},acc.lookup y=some c->(closL cells names acc).lookup y=some c
 | [],_,h=>h
 | (x,k)::r,acc,h=>by
   unfold closL
   refine Ao hc ?_
   by_cases hk:(k== .free)=true
   . refine af (if_pos hk) (af bW ?_)
     by_cases e:(y==x)=true
     . exact af e (af ((eq_of_beq e).symm) (af hc rfl))
     . exact af (Bool.eq_false_iff.mpr e) h
   . exact af (if_neg hk) h
theorem sy{y:Str}{c:Addr}(hc:cells.lookup y=some c):∀ {names:List (Str×dU)} {acc:List (Str×Addr)},(y,.free)∈names->(closL cells names acc).lookup y=some c
 | (x,k)::r,acc,h=>by
   unfold closL
   rcases aB.mp h with e|h
   . cases e
     refine Ao hc ?_
     (refine af (if_pos rfl) (af bW ?_); rewrite [beq_self_eq_true]; refine af hc ?_); rfl
   . exact sy hc h
theorem nX:∀ {names:List (Str×dU)},cellsN names=[]->(∀n acc,aZ n names acc=acc)/\∀h,pushCells h names=h
 | [],_=>⟨fun _ _=>rfl,fun _=>rfl⟩
 | (x,k)::r,h=>by
   unfold cellsN at h
   by_cases hk:(k== .cell)=true
   . rw[if_pos hk]at h; cases h
   . rw[if_neg hk]at h
     have ih:=nX h
     exact⟨fun n acc=>by unfold aZ; refine af (if_neg hk) ?_; exact ih.1 n acc,fun g=>by unfold pushCells; refine af (if_neg hk) ?_; exact ih.2 g⟩
theorem uZ{x:Str}:∀ {names:List (Str×dU)},cellsN names=[x]->(∀n acc,aZ n names acc=(x,n)::acc)/\∀h,pushCells h names=h.push { cls:=.type "cell",data:=.cell none }
 | (y,k)::r,h=>by
   unfold cellsN at h
   by_cases hk:(k== .cell)=true
   . rw[if_pos hk]at h
     refine bx (List.cons.inj h) fun Se h2=>?_
     subst Se
     have ih:=nX h2
     exact⟨fun n acc=>by unfold aZ; refine af (if_pos hk) ?_; exact ih.1 _ _,fun g=>by unfold pushCells; refine af (if_pos hk) ?_; exact ih.2 _⟩
   . rw[if_neg hk]at h
     have ih:=uZ h
     exact⟨fun n acc=>by unfold aZ; refine af (if_neg hk) ?_; exact ih.1 n acc,fun g=>by unfold pushCells; refine af (if_neg hk) ?_; exact ih.2 g⟩
theorem Lr{x:Str}(h:UY cs x=true):Od cs x:=by
 unfold UY at h
 cases hc:cellsN cs.names with
 | nil=>
   rw[hc]at h
   exact .loc (eq_of_beq h) (nX hc).1 (nX hc).2
 | cons y r=>
   rw[hc]at h
   dsimp only at h
   rw[aM,aM]at h
   have e:=eq_of_beq h.1.2
   subst e
   rw[oV.mp h.1.1]at hc
   exact .cell (eq_of_beq h.2) (uZ hc).1 (uZ hc).2
def D5(C:Cx O)(o:O)(env:Env)(cn:Str->Option V):Prop:=∀y v,cn y=some v->env.kindOf y=some .cell/\∃c,env.cells.lookup y=some c/\∀ρ fz s,At C o ρ fz s->∃ob u,s.heap.get? c=some ob/\ob.data= .cell (some u)/\VR fz v u
section
variable {x:Str}
theorem NP(OA:D5 C o env cn)(hk:env.scope.kind= .function){y:Str}(h:cn y=some v)(hb:(y==("__debug__":Str))=false){p:Pos}:bq ai w A C o env ρ (.Name y p) v:=by
 refine bx (OA y v h) fun h1 HW=>?_
 obtain⟨c,h2,h3⟩:=HW
 intro fz s Q E hA hq
 refine fS (h3 ρ fz s hA) fun ob u e1 e2 e3=>?_
 exact eN (wpAny_loadName_cell hk h1 h2 ⟨ob,e1,e2⟩ (hq fz s u (fun _ h=>h) hA e3)) hb
theorem DH(K:zl ai w A C o env I):∀ {ifs:List Expr} {t:Option V},vf I ρ elt ifs=some t->TurnOk ai w A C o env ρ ifs elt t
 | [],t,h=>by
   refine au (jD K ρ 12 _ _ h) fun v hv h=>?_
   exact .inr ⟨rfl,v,(sj h).symm,hv.1⟩
 | c ::r,t,h=>by
   refine cp fun G' k'=>?_
   refine au (jD K ρ 12 _ _ h) fun v hv h=>?_
   refine au (jd h) fun b hb h=>?_
   refine k' ?_
   cases b with
   | true=>
     rcases DH K (ifs:=r) h with ⟨h1,h2⟩|⟨h1,h2⟩
     . exact .inl ⟨⟨true,hv.2 _ hb,fun _=>h1,fun e=>nomatch e⟩,h2⟩
     . exact .inr ⟨⟨true,hv.2 _ hb,fun _=>h1,fun e=>nomatch e⟩,h2⟩
   |false=>exact .inl ⟨⟨false,hv.2 _ hb,(fun e=>nomatch e),fun _=>rfl⟩,(sj h).symm⟩
theorem iB(K:zl ai w A C o env I)(h:Ak I ρ e=some v):bq ai w A C o env ρ e v:=by
 refine au (jD K ρ 12 _ _ h) fun u hu h=>?_
 obtain rfl:=sj h
 exact hu.1
theorem AR(h:EJ e=true)(v:Value):foldedSetIterable e env v=pure v:=by
 cases e <;> first|rfl|exact cX h rfl rfl
theorem tn(hk:env.scope.kind= .function){y:Str}(hy:env.kindOf y=some .cell){names:List (Str×dU)}(h:names.lookup y=some .free):(names.map (PL env)).lookup y=some .cell:=by
 refine(tH Ez h).trans ?_
 show some (if(.free==NameKind.free&&env.scope.kind== .function&&env.kindOf y==some .cell)=true then(y,NameKind.cell)else(y,.free)).2=_
 rw[hk,hy]; rfl
theorem AY{y:Str}{names:List (Str×dU)}(h:names.lookup y=some .globalImplicit):(names.map (PL env)).lookup y=some .globalImplicit:=tH Ez h
theorem vC{β:Type}{l:List (Str×β)}{x:Str}{v:β}(h:l.lookup x=some v):(x,v)∈l:=lookup_mem h
end
def sL(ai:cB)(w:World)(A:cy)(h₀:aE)(L:Addr)(nm:Str)(f:List V->Option (Bool×V)):Prop:=
 ∀ {O:Type} {C:Cx O} {jj:Env} {o:O} {ρ:Loc} {fz:Led} {s:ak},C.h₀=h₀->C.L=L->yN jj->At C o ρ fz s->jj.kindOf nm=some .globalImplicit->
   ∀(args:List Expr) (pos q:Pos) (ds:List V) (r:V),f ds=some (true,r)->args.all notStar=true->args≠ []->∀(Q E:Value->ak->Prop),
   wpAny (model ai w) A (spliced (eX pos (dI args jj))) (fun vs s₁=>∃ay,Sub fz ay/\At C o ρ ay s₁/\aU ay vs ds/\∀aT s' v',Sub ay aT->At C o ρ aT s'->VR aT r v'->Q v' s') E s->
   wpAny (model ai w) A (eval (.Call (.Name nm q) args [] pos) jj) Q E s
theorem nY{K:Frag}{base h₀:aE}{L:Addr}{nm:Str}{f:List V->Option (Bool×V)}(h:mP ai w K p az aL mg mb nm d f)(R:cH K p az aL mg mb A₀ base av A env h₀ L d)(hu:A.units+8*d+64<cLine):sL ai w A h₀ L nm f:=fun {O C jj o ρ fz s} e1 e2 l hA hk args pos q ds r hf hs nS Q E hw=>by
 unfold mP at h
 exact h (af e1 (af e2 R)) hu l hA hk args pos q ds r hf hs nS Q E hw
structure DZ(ai:cB)(w:World)(K:Frag)(p:cB)(az:List Str)(aL:ExcName->Option Value)(mg mb:Str->Option Value)(d:Nat)(cP:List (Str×(List V->Option (Bool×V))))(A:cy)(h₀:aE)(L:Addr):Prop where
 rim:∃A₀ base av uS,cH K p az aL mg mb A₀ base av A uS h₀ L d
 room:A.units+8*d+64<cLine
 calls:∀y∈cP,sL ai w A h₀ L y.1 y.2
 range:nsIn K dc "range"=some none
section
variable {K:Frag}{cP:List (Str×(List V->Option (Bool×V)))}
inductive sJ(ai:cB)(w:World)(A:cy){O:Type}(C:Cx O)(o:O)(env:Env)(ρ:Loc)(e:Expr)(v:V):Prop
 |mk {elt iter:Expr} {x:Str} {px:Pos} {ifs:List Expr} {cs:Scope} {cl:List (Str×Addr)} {pos:Pos} {turn:V->Option (Option V)} {ds outs:List V} (he:e= .ListComp elt [⟨.Name x px,iter,ifs,0⟩] cs pos) (hv:v= .list outs)
     (rL:closureFor cs env=pure cl) (hk:cs.kind= .function) (nB:∀y∈cs.names,y.2= .local->cs.names.lookup y.1=some .local) (own:Od cs x) (hz:ds.length<=100000) (hs:∀v,foldedSetIterable iter env v=pure v)
     (hit:qi ai w A C o env ρ iter ds) (JJ:iD turn ds=some outs)
     (jC:∀fz C' X d t,d∈ds->turn d=some t->BH (jV cs cl C' env) x fz d X->TurnOk ai w A (CT C X fz) o (jV cs cl C' env) ρ ifs elt t):sJ ai w A C o env ρ e v
theorem sJ.ev(h:sJ ai w A C o env ρ e v):bq ai w A C o env ρ e v:=by
 cases h with
 |mk he hv rL hk nB own hz hs hit JJ jC=>subst he; subst hv; exact Hq rL hk nB own hz hs hit JJ jC
theorem IV{env uS:Env}(R:cH K p az aL mg mb A₀ base av A uS C.h₀ C.L d)(S:DZ ai w K p az aL mg mb d cP A C.h₀ C.L)(lk:yN env)(JH:∀f,kG sc f=true->env.kindOf f=some .globalImplicit)(Tu:∀e v,ev e=some v->bq ai w A C o env ρ e v){it:Expr}{ds:List V}(h3:xZ sc ev it=some ds):ds.length<=100000/\qi ai w A C o env ρ it ds:=by
 rcases fT h3 with ⟨a,e1,h3⟩|⟨_,h3⟩
 . refine bx (bA h3) fun hr h3=>?_
   refine au (aq h3) fun u e2 h3=>?_
   refine au (aq h3) fun n e3 h3=>?_
   refine bx (bA h3) fun e4 h3=>?_
   obtain rfl:=sj h3
   refine cp fun G' k'=>?_
   refine au (aq e3) fun i e5 h5=>?_
   refine bx (bA h5) fun h6 h5=>?_
   refine au (aq e1) fun qq e7 h7=>?_
   refine au (aq h7) fun f e8 h7=>?_
   refine bx (bA h7) fun e9 h7=>?_
   refine au (aq h7) fun b WY h7=>?_
   refine bx (bA h7) fun e11 h7=>?_
   refine k' ?_
   have e12:=sj h7
   subst e12
   have e13:=iz e8
   have e14:=gF WY
   have e15:=eq_of_beq e9
   have e16:i=(n:Int):=by
     have:=sj h5
     have h6:=of_decide_eq_true h6
     lia
   have MZ:=Tu _ _ e2
   rw[gx e5,e16]at MZ
   refine⟨by simp[j3]; exact oi e4,?_⟩
   exact af (nF e7) (af e13 (af e14 (af e15 (z9 R lk S.range (JH _ hr) e11 (oi e4) MZ))))
 . refine au (aq h3) fun u e2 h3=>?_
   refine au (aq h3) fun ds' e3 h3=>?_
   refine bx (bA h3) fun e4 h3=>?_
   obtain rfl:=sj h3
   refine⟨oi e4,?_⟩
   have MZ:=Tu _ _ e2
   cases u with
   |list es=>obtain rfl:=sj e3; exact tP R.hh MZ
   |str y=>obtain rfl:=sj e3; exact Q6 R.hh MZ
   |_=>exact nn e3
theorem t7:∀(l:Nat) (O:Type) (C:Cx O) (o:O) (env:Env) (ρ:Loc) (sc:Scope) (cn:Str->Option V) (ev:Expr->Option V),DZ ai w K p az aL mg mb d cP A C.h₀ C.L->yN env->(∀f,kG sc f=true->env.kindOf f=some .globalImplicit)->D5 C o env cn->
   (∀e v,ev e=some v->bq ai w A C o env ρ e v)->∀e v,lM cP l sc cn ρ ev e=some v->sJ ai w A C o env ρ e v
 |0=>fun _ _ _ _ _ _ _ _ _ _ _ _ _ _ _=>nn
 | l + 1 =>fun O C o env ρ sc cn ev S lk JH OA Tu e v h=>by
   refine cp fun G' k'=>?_
   refine X3 S.rim fun A₀ base av uS R=>?_
   refine au (aq h) fun q h1 h=>?_
   refine au (aq h) fun x h2 h=>?_
   refine bx (bA h) fun MQ h=>?_
   refine au (aq h) fun ds h3 h=>?_
   refine au (aq h) fun vs h4 h=>?_
   refine k' ?_
   obtain rfl:=sj h
   obtain⟨elt,g,cs,pos⟩:=q
   dsimp only at h1 h2 MQ h3 h4
   have eg:=iz h2
   simp only[okC,aM]at MQ
   refine bx MQ fun fZ hxd=>?_
   obtain⟨⟨⟨hk,RB⟩,abU⟩,abS⟩:=fZ
   have hk:=eq_of_beq hk
   have hxd:(x==("__debug__":Str))=false:=by simpa using hxd
   have RB:=dH.mp RB
   have nB:∀y∈cs.names,y.2= .local->cs.names.lookup y.1=some .local:=fun y hy e=>by
     have:=RB y hy
     rw[aM]at this
     have h1:=this.1
     rw[e]at h1
     exact eq_of_beq (by simpa using h1)
   have Tt:∀y∈cs.names,y.2= .free->(∃v,cn y.1=some v)/\(y.1==("__debug__":Str))=false:=fun y hy e=>by
     have:=RB y hy
     rw[aM]at this
     have h1:=this.2
     rw[e]at h1
     have h1:((cn y.1).isSome&&y.1 !="__debug__")=true:=by simpa using h1
     rw[aM]at h1
     exact⟨Option.isSome_iff_exists.mp h1.1,by simpa using h1.2⟩
   have rL:closureFor cs env=pure (closL env.cells cs.names []):=Hr fun y hy e=>by
     refine bx (Tt y hy e) fun fZ _=>?_
     obtain⟨v,hv⟩:=fZ
     refine bx (OA _ _ hv) fun _ HW=>?_
     obtain⟨c,hc,_⟩:=HW
     exact⟨c,hc⟩
   have own:=Lr abU
   have hz:=IV R S lk JH Tu h3
   refine .mk (px:=mZ g.target) (by refine af (Ka h1) ?_; dsimp only; (refine af eg.symm ?_; rfl)) rfl rL hk nB own hz.1 (AR abS) hz.2 h4 fun fz C' X d' t _ ht H=>?_
   have lk':yN (jV cs (closL env.cells cs.names []) C' env):=⟨hk,lk.glob,lk.blt⟩
   have S':DZ ai w K p az aL mg mb d cP A (CT C X fz).h₀ (CT C X fz).L:=S
   have Z9:∀f,kG cs f=true->(jV cs (closL env.cells cs.names []) C' env).kindOf f=some .globalImplicit:=fun f hf=>AY (eq_of_beq hf)
   have look:∀y c,cs.names.lookup y=some .free->env.cells.lookup y=some c->(jV cs (closL env.cells cs.names []) C' env).cells.lookup y=some c:=fun y c hy hc=>by
     have h1:=sy hc (acc:=[]) (vC hy)
     show(aZ (C'+1) cs.names (closL env.cells cs.names [])).lookup y=some c
     cases own with
     |loc hx Wv _=>rw[Wv]; exact h1
     | cell hx Wv _=>
       (rewrite [Wv]; refine af bW ?_)
       have:(y==x)=false:=by
         rw[beq_eq_false_iff_ne]
         rintro rfl
         rw[hx]at hy; cases hy
       exact af this h1
   have aaw:∀y v,cs.names.lookup y=some .free->cn y=some v->(jV cs (closL env.cells cs.names []) C' env).kindOf y=some .cell/\∃c,(jV cs (closL env.cells cs.names []) C' env).cells.lookup y=some c/\∀ρ aT s,At (CT C X fz) o ρ aT s->∃ob u,s.heap.get? c=some ob/\ob.data= .cell (some u)/\VR aT v u:=fun y v hy hv=>by
     refine cp fun G' k'=>?_
     refine bx (OA _ _ hv) fun k1 HW=>?_
     obtain⟨c,k2,k3⟩:=HW
     refine k' ?_
     exact⟨tn lk.fn k1 hy,c,look y c hy k2,fun ρ aT s hA=>k3 ρ aT s hA.out⟩
   have acE:D5 (CT C X fz) o (jV cs (closL env.cells cs.names []) C' env) (I3 cs x d' cn):=fun y v hv=>by
     cases hc:(cs.names.lookup y==some .cell)with
     | true=>
       have hv:gate (cs.names.lookup y==some .cell) _ _=some v:=hv
       rw[hc]at hv
       refine bx (bA hv) fun e1 e2=>?_
       have e1:=eq_of_beq e1
       obtain rfl:=sj e2
       have e3:=eq_of_beq hc
       subst e1
       cases H with
       | loc hx _ _ _ _=>
         have:=tu (env:=env) e3
         exact absurd ((show some .cell=some NameKind.local from this.symm.trans hx)) (by simp)
       |cell hx Wv hm ho hd=>exact⟨hx,_,Wv,fun ρ aT s hA=>⟨_,_,(hA.qT hm).1,ho,hd.mono hA.SP.1⟩⟩
     | false=>
       have hv:gate (cs.names.lookup y==some .cell) _ _=some v:=hv
       rw[hc]at hv
       refine bx (bA hv) fun e1 e2=>?_
       exact aaw y v (eq_of_beq e1) e2
   have W:∀ {ρ:Loc} {cv:Loc->Expr->Option V},(∀ρ' e v,cv ρ' e=some v->bq ai w A (CT C X fz) o (jV cs (closL env.cells cs.names []) C' env) ρ' e v)->zl ai w A (CT C X fz) o (jV cs (closL env.cells cs.names []) C' env) (rF cP cs x d' cn cv):=fun hcv=>
     { name:=fun _ _ _ _ hx=>nomatch hx
       attr:=fun _ _=>nn
       call:=fun f ds r hf ρ aT s Q E q pos args hA hs nS hw=>by
         refine cp fun G' k'=>?_
         refine bx (bA hf) fun hg hf=>?_
         refine au (aq hf) fun gg e1 hf=>?_
         refine k' ?_
         have cc:sL ai w A C.h₀ C.L f gg:=S.calls (f,gg) (lookup_mem e1)
         unfold sL at cc
         exact cc (C:=CT C X fz) rfl rfl lk' hA (Z9 f hg) args pos q ds r hf hs nS Q E hw
       LD :=fun y v hv ρ p=>by
         cases hy:(y==x)with
         | true=>
           have hv:gate (y==x) _ _=some v:=hv
           rw[hy]at hv
           obtain rfl:=sj hv
           exact af (eq_of_beq hy) (H.ev hk hxd)
         | false=>
           have hv:gate (y==x) _ _=some v:=hv
           rw[hy]at hv
           refine bx (bA hv) fun e1 e2=>?_
           have e1:=eq_of_beq e1
           exact NP (cn:=fun z=>gate (cs.names.lookup z==some .free) (cn z) none) (fun z u hz=>by obtain⟨z1,z2⟩:=bA hz; exact aaw z u (eq_of_beq z1) z2) hk hv (Tt _ (vC e1) rfl).2
       Hl:=hcv
       v9:=fun _=>by have:=S.room; lia }
   refine DH (W (ρ:=ρ) fun ρ' e v hv=>?_) ht
   exact(t7 l _ _ _ _ _ _ _ _ S' lk' Z9 acE (fun e v he=>iB (W (ρ:=ρ') fun _ _ _=>nn) he) e v hv).ev
theorem NG(l:Nat)(O:Type)(C:Cx O)(o:O)(env:Env)(ρ:Loc)(sc:Scope)(cn:Str->Option V)(ev:Expr->Option V)(S:DZ ai w K p az aL mg mb d cP A C.h₀ C.L)(lk:yN env)(JH:∀f,kG sc f=true->env.kindOf f=some .globalImplicit)(OA:D5 C o env cn)(Tu:∀e v,ev e=some v->bq ai w A C o env ρ e v)(e:Expr)(v:V)(h:lM cP l sc cn ρ ev e=some v):bq ai w A C o env ρ e v:=(t7 l O C o env ρ sc cn ev S lk JH OA Tu e v h).ev
end
section
variable {Pm:aD}{env jj:Env}
noncomputable abbrev Iv:List Str:=["text","posix","given"]
noncomputable abbrev L3(T:Str)(aa:Bool)(pv:V):Loc:=[(aj "text",.str T),(aj "posix",.bool aa),(aj "given",pv)]
theorem Ih{M:List Nat}(h:lD pv M):AW pv=true:=by cases h <;> rfl
theorem xN{T:Str}{aa:Bool}(h:AW pv=true):rq (L3 T aa pv):=by
 refine oE (oE (oE (fun _ _ hx=>nomatch hx) h) rfl) rfl
theorem Na{L:Addr}(F:Fr base L h m):base.get? L=none:=by
 cases q:base.get? L with
 |none=>rfl
 |some ob=>exact absurd (Nat.lt_of_lt_of_le (ek q) F.above) (iY _)
theorem QD(R:cH (KS Pm) p az aL mg mb A₀ base av A env C.h₀ C.L (d+7))(eC:C.h₀=base)(hu:A.units+5<cLine)(h:At C o ρ fz s){T M:List Nat}{aa:Bool}(To:lD pv M)(hT:T.length<=300)(hM:M.length<=100)(MY:FI T M (wordsOf aa M) aa Ex res)(hv:aU fz vs [.str (S T),.bool aa,pv])(hq:∀aT s' v,Sub fz aT->At C o ρ aT s'->VR aT (.tuple [.list res.1,.str res.2]) v->Re (.ok (.ret v)) s'):
   fN (model ai w) A (.call (.ref 740) ⟨vs,[]⟩) Re s:=by
 refine At.el h fun hp tk m Rl F N rp ap lc rf=>?_
 have kp:Kept C o ρ fz Rl m:=⟨rp,fun q hq=>(N q hq).2.1,ap,lc,rf⟩
 refine Az (groundX (R:=Re) (s:={ C.s₀ with heap:=hp,toks:=tk }) R.B F N R.hA R.hf R.hk) fun FG BG st lv=>?_
 have ho:(KS Pm).lookup 740=some ⟨.type "function",none,.func (fnOf "_law_read" "_law_read" (nU (aW 22)) (aC (aW 22)) (aF (aW 22)) .none .none .none (.str "law_in0035_01" 1142) none (.ref 739) .none), #[]⟩:=by kernel_rfl
 have Xs:=R.X.keeps F.keep
 have hvl:vs.length=([.str (S T),.bool aa,pv]:List V).length:=hv.length
 have sc:=Ih To
 refine codeAny_call_def (fd:=fnOf "_law_read" "_law_read" (nU (aW 22)) (aC (aW 22)) (aF (aW 22)) .none .none .none (.str "law_in0035_01" 1142) none (.ref 739) .none) (body:=aC (aW 22)) (binds:=Iv.zip vs) (by have:=R.room; lia) (Xs _ _ ho) rfl (R.T.nolimit.keeps F.keep) (codeRec_of Xs (by kernel_rfl)) rfl ?_ (by decide +kernel) (fun y hy=>?_) (fun cj Tp ye=>?_) (by kernel_rfl) (by kernel_rfl) (by kernel_rfl)
 . refine Ea (QN hvl) fun a b c jU=>?_
   subst jU
   exact iN (by kernel_rfl)
 . have:=(List.of_mem_zip hy).1
   have all:∀x∈Iv,(aF (aW 22)).names.lookup x=some .local:=by decide +kernel
   exact all _ this
 have hsz:(hideAll hp ((Rl++(fz++C.rest)).map (·.1))).objs.size=hp.objs.size:=hideAll_size _ _
 show wpAny (model ai w) (A.deeper (yT hp.objs.size)) (execs (aC (aW 22)) (yT hp.objs.size)) _ _ _
 generalize hg:hideAll hp ((Rl++(fz++C.rest)).map (·.1))=g at FG BG st lv hsz
 have Fr1:Fr g hp.objs.size cj (fun x=>(Iv.zip vs).reverse.lookup x):=⟨Tp,fun b q e=>ye b q (by rw[<-hg]at e; exact of_hideAll _ e),Nat.le_of_eq hsz⟩
 have N1:News g hp.objs.size cj (Rl++(fz++C.rest)):=fun q hq=>⟨ye _ _ (N q hq).1,dJ (ek (N q hq).1),by refine af hg.symm ?_; exact hideAll_none _ (qP hq)⟩
 have Rc:cH (KS Pm) p az aL mg mb A base (env::av) (A.deeper (yT hp.objs.size)) (yT hp.objs.size) g hp.objs.size (d+6):=by
   refine⟨BG,R.X.keeps st,R.T.keeps st,ud R.hA,rfl,(by kernel_rfl),rfl,rfl,rfl,R.hh,j5 (by kernel_rfl),?_⟩
   have:=R.room
   show A.depth+1+(d+6)<=_
   lia
 have RT:BE (eG Pm) p az aL mg mb (yT hp.objs.size) base hp.objs.size:=⟨S9 (eC▸R.X),eC▸R.T,by kernel_rfl,rfl,rfl,rfl⟩
 have hcl:hp.get? C.L≠none:=by obtain⟨oL,_,_,e,_⟩:=F.ns; refine af e ?_; simp
 have XM:C.L≠hp.objs.size:=by
   refine yV F.ns fun oL _ _ e _=>?_
   exact dJ (ek e)
 have adf:C.L<hp.objs.size:=by
   refine yV F.ns fun oL _ _ e _=>?_
   exact ek e
 generalize hp.objs.size=L at*
 let Xk:Cx Unit:={ s₀:=C.s₀,h₀:=g,L:=L,rest:=Rl++(fz++C.rest),refs:=[],Rep:=fun _ _ R=>R=[],mono:=fun _ _ _ _ _ h=>h }
 refine fS (c8 hv) fun v1 r1 e1 x1 hv=>?_
 refine fS (c8 hv) fun v2 r2 e2 x2 hv=>?_
 refine fS (c8 hv) fun v3 r3 e3 x3 hv=>?_
 obtain rfl:=j6 hv
 subst e3; subst e2; subst e1
 have h1:At Xk () (L3 (S T) aa pv) [] { heap:=cj,gens:=C.s₀.gens,drawn:=C.s₀.drawn,toks:=tk+(Iv.zip [v1,v2,v3]).length,os:=C.s₀.os }:=by
   refine⟨cj,_,_,[],rfl,Fr1,N1,rfl,(fun _ hq=>nm hq),(fun x v hx=>?_),(fun _ hq=>nm hq)⟩
   have:aU [] [v1,v2,v3] [.str (S T),.bool aa,pv]:=.cons (kr rfl x1) (.cons (kr rfl x2) (.cons (kr sc x3) .nil))
   refine au (rR (xs:=Iv) this hx) fun v' a1 a2=>?_
   refine⟨v',xP ?_ a1,a2⟩
   exact(by decide:Iv.Nodup)
 have kx:(yT L).kindOf "text"=some .local:=by kernel_rfl
 have kpx:(yT L).kindOf "posix"=some .local:=by kernel_rfl
 have kg:(yT L).kindOf "given"=some .local:=by kernel_rfl
 have kl:(yT L).kindOf "lexer"=some .local:=by kernel_rfl
 have kt:(yT L).kindOf "row"=some .local:=by kernel_rfl
 refine af QE ?_
 refine bS (Assign_Tuple_swapped (names:=[aj "lexer",aj "row"]) (wpAny_Tuple (fP ?_ rfl)) (by unfold swapsWithSole; exact fk rfl) (xd (QC L)))
 refine Et (o₀:=()) (fun _ _ h=>h) (d:=d+1) Rc To h1
   (cC rfl (nV Rc kx (by decide) rfl) (cC rfl (fq rfl) (cC rfl (nV Rc kpx (by decide) rfl) (cC rfl (nV Rc kg (by decide) rfl) fC)))) rfl (by simp) (by kernel_rfl) fun aO jX P _ eT eM eW eP h2=>?_
 refine fP (wpAny_List (ic ⟨by refine af dh ?_; simp,?_⟩)) rfl
 have h3:=h2.push { cls:=.type "list",data:=.seq ([]:List Value).toArray } rfl
 have hold:∀b ob,jX.heap.get? b=some ob->b≠jX.heap.objs.size:=fun b ob e=>dJ (ek e)
 have E6:∀q∈Rl++(fz++C.rest),q.1≠jX.heap.objs.size:=fun q hq=>by
   obtain⟨yc,fR,m₂,d8,rfl,kq,kj,_⟩:=h2
   exact hold _ _ (kj q (aJ _ (aJ _ hq))).1
 have XD:jX.heap.objs.size≠C.L:=by
   refine cp fun G' k'=>?_
   obtain⟨yc,fR,m₂,d8,rfl,kq,kj,_⟩:=h2
   refine yV FG.ns fun oL _ _ e _=>?_
   refine k' ?_
   exact Ne.symm (hold _ _ (kq.keep _ _ e))
 generalize jX.heap.objs.size=tl at*
 refine ic ⟨by refine af dh ?_; simp,?_⟩
 refine O0 (A:=A.deeper (yT L)) R.hh h3 fun o8 Yw s4 h5=>?_
 refine ao (iQ (bindName_ (A2 (C:=sQ Xk P) Rc.hk Rc.hl h5 kt rfl (fun q hq=>(by have hq:q∈([]:List (Str×Value)):=hq; cases hq)) fun acP h7=>?_)))
 refine ao (iQ (bindName_ (A2 (C:=gq (sQ Xk P) [(aj "row",.ref tl)]) Rc.hk Rc.hl h7 kl rfl (fun q hq=>?_) fun Yu h8=>?_)))
 . have hq:q∈ [(aj "row",.ref tl)]:=hq
   simp only[aY]at hq
   subst hq
   exact(show "row"≠aj "lexer" by decide)
 refine aA ?_
 dsimp only
 have h9:At (qS C.s₀ g L (Rl++(fz++C.rest)) P tl [] 0) (bT Ex) (L3 (S T) aa pv) [] Yu:=by
   obtain⟨yc,fR,m₂,d8,e0,kq,kj,mq,kO,z6,xy⟩:=h8
   have hmm:(tl,fu ([]:List Value).toArray 0)∈o8:=s4 _ (.head _)
   refine⟨yc,fR,m₂,d8,e0,kq,fun q hq=>?_,?_,fun q hq r hr=>?_,fun x v hx=>?_,fun q hq=>?_⟩
   . have hq:q∈d8++([]++((tl,fu ([]:List Value).toArray 0)::(Rl++(fz++C.rest)))):=hq
     rw[List.nil_append,bu,aB]at hq
     rcases hq with hq|rfl|hq
     . exact kj q (aH _ hq)
     . exact kj _ (aJ _ (aH _ hmm))
     . exact kj q (aJ _ (aJ _ hq))
   . have rp':bK P (bT Ex) o8 d8:=by exact af UO mq
     exact xA rp'
   . have hr:r∈(tl,fu ([]:List Value).toArray 0)::(Rl++(fz++C.rest)):=hr
     rcases aB.mp hr with rfl|hr
     . exact kO q hq _ (aH _ hmm)
     . exact kO q hq r (aJ _ hr)
   . refine au (z6 x v hx) fun v' e1 e2=>?_
     exact⟨v',e1,kr (xN sc x v hx) e2⟩
   . have hq:q∈ [(aj "row",.ref tl),(aj "lexer",.ref P.lx)]:=hq
     simp only[aB,eS,or_false]at hq
     rcases hq with rfl|rfl
     . exact xy _ (.tail _ (.head _))
     . exact xy _ (.head _)
 rw[<-eT,<-eM,<-eP]at MY
 have hW:wordsOf P.aa P.M=P.W:=by(refine af eW (af eM (af eP ?_)); rfl)
 rw[hW]at MY
 refine VJ (d:=d) (m:=m) (base:=base) Rc RT (by show A.units+3+2<cLine; omega) (af eT hT) (af eM hM) (eC▸FG) eC XM (af eC.symm (Na F)) (by have:=F.above; rw[eC]at this; lia) kp E6 XD (xN sc) (af eP rfl) h9 MY (fun aT fE v sb h' BN=>?_) fun aT fE v sb h' BN=>hq aT fE v sb h' BN
 obtain⟨aab,zw,Zb,acI,rfl,sH,pB,rfl,yG,acT,acR⟩:=h'
 refine lv v _ ⟨L,Zb,_,sH,pB,fun JA Sy=>hq aT _ v sb ⟨aab,zw,m,acI,rfl,JA,Sy,C.mono _ _ _ _ sb kp.rp,yG,fun x u hx=>?_,kp.rf⟩ BN⟩
 refine au (kp.lc x u hx) fun v' e1 e2=>?_
 exact⟨v',e1,e2.mono sb⟩
end
inductive Sc where
 |out
 |word (w:List Nat)
 |run (w:List Nat)
 |jg (q:Nat) (w:List Nat)
 |cD (w:List Nat)
 |i9 (w:List Nat)
 |kD (s:Sc)
noncomputable abbrev ri:List Nat:=[32,9,13,10]
section
variable (aa:Bool)(M W:List Nat)
noncomputable def cM(c:Nat):List (List Nat)×Sc:=
 if c∈ri then([],.out)else if c=35 then([],.kD .out)else if aa=true/\c=92 then([],.cD [])else if c∈W then([],.word [c])else if c∈M then([],.run [c])else if c∈ [39,34]then([],.jg c (if aa=true then []else [c]))else([[c]],.out)
noncomputable def stp:Sc->Nat->List (List Nat)×Sc
 | .out,c=>cM aa M W c
 | .word w,c=>if c∈ri then([w],.out)else if c=35 then(if aa=true then([w],.kD .out)else([],.kD (.word w)))else if aa=true/\c∈ [39,34]then([],.jg c w)else if aa=true/\c=92 then([],.cD w)else
     if c∈W\/c∈ [39,34]then([],.word (w++[c]))else(w::(cM aa M W c).1,(cM aa M W c).2)
 | .run w,c=>if c∈ri then([w],.out)else if c=35 then(if aa=true then([w],.kD .out)else([],.kD (.run w)))else if c∈M then([],.run (w++[c]))else(w::(cM aa M W c).1,(cM aa M W c).2)
 | .jg q w,c=>if c=q then(if aa=true then([],.word w)else([w++[c]],.out))else if aa=true/\c=92/\q=34 then([],.i9 w)else([],.jg q (w++[c]))
 | .cD w,c=>([],.word (w++[c]))
 | .i9 w,c=>([],.jg 34 ((if c≠92/\c≠34 then w++[92]else w)++[c]))
 | .kD s,c=>if c=10 then([],s)else([],.kD s)
noncomputable def walk:List Nat->Sc->List (List Nat)×Sc
 | [],s=>([],s)
 |c::r,s=>((stp aa M W s c).1++(walk r (stp aa M W s c).2).1,(walk r (stp aa M W s c).2).2)
end
noncomputable def fin:Sc->List (List Nat)×Nat
 | .out=>([],0)
 | .word w=>([w],0)
 | .run w=>([w],0)
 | .jg _ _=>([],1)
 | .cD _=>([],2)
 | .i9 _=>([],2)
 | .kD s=>fin s
noncomputable def scan(aa:Bool)(M W t:List Nat)(s:Sc):List (List Nat)×Nat:=((walk aa M W t s).1++(fin (walk aa M W t s).2).1,(fin (walk aa M W t s).2).2)
section
variable {aa:Bool}{M W:List Nat}
theorem bX(c:Nat)(r:List Nat)(s:Sc):walk aa M W (c::r) s=((stp aa M W s c).1++(walk aa M W r (stp aa M W s c).2).1,(walk aa M W r (stp aa M W s c).2).2):=rfl
theorem nE:∀(a b:List Nat) (s:Sc),walk aa M W (a++b) s=((walk aa M W a s).1++(walk aa M W b (walk aa M W a s).2).1,(walk aa M W b (walk aa M W a s).2).2)
 | [],b,s=>rfl
 | c::r,b,s=>by
   (refine af eY ?_; rw[bX,bX,nE r b])
   simp only[bB]
theorem iI(c:Nat)(r:List Nat)(s:Sc):scan aa M W (c::r) s=((stp aa M W s c).1++(scan aa M W r (stp aa M W s c).2).1,(scan aa M W r (stp aa M W s c).2).2):=by
 unfold scan
 rw[bX,bB]
theorem fy{c:Nat}{r:List Nat}{s s':Sc}(h:stp aa M W s c=([],s')):scan aa M W (c::r) s=scan aa M W r s':=by
 (rewrite [iI]; refine af h ?_); rfl
theorem nI{c:Nat}{r:List Nat}{s s':Sc}{w:List Nat}(h:stp aa M W s c=([w],s')):scan aa M W (c::r) s=(w::(scan aa M W r s').1,(scan aa M W r s').2):=by
 (rewrite [iI]; refine af h ?_); rfl
theorem xw{c:Nat}{r:List Nat}{s:Sc}{w:List Nat}(h:stp aa M W s c=(w::(cM aa M W c).1,(cM aa M W c).2)):scan aa M W (c::r) s=(w::(scan aa M W (c::r) .out).1,(scan aa M W (c::r) .out).2):=by
 (rewrite [iI]; refine af h ?_; rw[iI]); rfl
theorem qm{s:Sc}{c:Nat}:stp aa M W (.kD s) c=if c=10 then([],s)else([],.kD s):=rfl
theorem DL(s:Sc):∀(r:List Nat) (k:Nat),scan aa M W r (.kD s)=scan aa M W (if firstAt 10 r k<0 then []else r.drop ((firstAt 10 r k).toNat+1-k)) s
 | [],k=>by
   have e:firstAt 10 [] k= -1:=by rfl
   exact af e (af (if_pos (by decide)) rfl)
 | c ::r,k=>by
   by_cases h:c=10
   . subst h
     have e:firstAt 10 (10::r) k=(k:Int):=by unfold firstAt; simp
     refine af e (af (if_neg (Qf k)) ?_)
     have e2:(k:Int).toNat+1-k=1:=Nat.add_sub_cancel_left ..
     exact af e2 (fy (qm.trans (if_pos rfl)))
   . have e:firstAt 10 (c::r) k=firstAt 10 r (k+1):=by
       rw[firstAt]; (refine af (if_neg (by simpa using h)) ?_; rfl)
     refine af e ?_
     refine(fy (qm.trans (if_neg h))).trans ((DL s r (k+1)).trans ?_)
     by_cases q:firstAt 10 r (k+1)<0
     . (refine af (if_pos q) (af (if_pos q) ?_); rfl)
     . refine af (if_neg q) (af (if_neg q) ?_)
       have hk:(k+1:Nat)<=(firstAt 10 r (k+1)).toNat:=by
         rcases oM 10 r (k+1)with e|⟨j,e,hj⟩
         . rw[e]at q; exact absurd (by decide) q
         . exact af e (ni (k+1) j)
       exact af (Y8 hk) rfl
theorem qc(s:Sc)(T:List Nat)(k:Nat):scan aa M W (T.drop k) (.kD s)=scan aa M W (T.drop (bJ T k)) s:=by
 refine af (DL s (T.drop k) k) ?_
 unfold bJ
 by_cases q:firstAt 10 (T.drop k) k<0
 . (refine af (if_pos q) (af (if_pos q) (af qf ?_)); rfl)
 . refine af (if_neg q) (af (if_neg q) (af List.drop_drop ?_))
   have hk:k<=(firstAt 10 (T.drop k) k).toNat:=by
     rcases oM 10 (T.drop k) k with e|⟨j,e,hj⟩
     . rw[e]at q; exact absurd (by decide) q
     . exact af e (ni k j)
   (refine af (Nat.add_sub_of_le (n6 hk)) ?_; rfl)
end
noncomputable def rem(T:List Nat)(s:RS):List Nat:=s.pb++T.drop s.pos
inductive qh(T:List Nat)(aa:Bool)(s:RS):Sc->Prop
 |out (h1:s.st=32) (h2:s.tok=[]) (h3:s.quoted=false):qh T aa s .out
 |done (h1:s.st=0) (h4:s.pb=[]) (h5:s.pos=T.length) (h2:s.tok=[]) (h3:s.quoted=false):qh T aa s .out
 |word {w:List Nat} (h1:s.st=97) (hp:s.pb=[]) (hf:fm aa s=true) (hw:s.tok=w):qh T aa s (.word w)
 |run {w:List Nat} (h1:s.st=99) (hp:s.pb=[]) (hf:fm aa s=true) (hw:s.tok=w):qh T aa s (.run w)
 |jg {q:Nat} {w:List Nat} (hq:q=39\/q=34) (h1:s.st=q) (hp:s.pb=[]) (hf:aa=true\/s.tok≠ []) (hw:s.tok=w):qh T aa s (.jg q w)
 |cD {w:List Nat} (h1:s.st=92) (h2:s.cD=97) (hp:s.pb=[]) (hw:s.tok=w):qh T aa s (.cD w)
 |i9 {w:List Nat} (h1:s.st=92) (h2:s.cD=34) (hp:s.pb=[]) (hx:aa=true) (hw:s.tok=w):qh T aa s (.i9 w)
def D3(T:List Nat)(s:RS):Prop:=s.st=32\/(s.st=0/\s.pb=[]/\s.pos=T.length)
noncomputable def DY(T M W:List Nat)(aa:Bool)(res:List (List Nat)×Nat):kh->Prop
 | .go s'=>∃a',qh T aa s' a'/\res=scan aa M W (rem T s') a'
 | .brk s'=>(∃tok,pq aa s'= .str (S tok)/\(aa=true\/tok≠ [])/\D3 T s'/\res=(tok::(scan aa M W (rem T s') .out).1,(scan aa M W (rem T s') .out).2))\/(pq aa s'=pA aa/\res=([],0))
 | .exc k _=>res=([],k)/\(k=1\/k=2)
section
variable {T M W:List Nat}{aa:Bool}{s:RS}{res:List (List Nat)×Nat}
theorem kL{tok:List Nat}(hf:fm aa s=true)(e:s'.quoted=s.quoted)(e2:s'.tok=tok)(e3:s.tok=tok):pq aa s'= .str (S tok)/\(aa=true\/tok≠ []):=by
 unfold fm at hf
 rw[e3]at hf
 unfold pq
 refine af e (af e2 ?_)
 cases tok with
 | nil=>
   have hf:(aa&&s.quoted)=true:=hf
   rw[aM]at hf
   rw[if_neg (fun q=>by rw[hf.2]at q; cases q.2.1)]
   exact⟨rfl,.inl hf.1⟩
 |cons c r=>rw[if_neg (fun q=>by cases q.2.2)]; exact⟨rfl,.inr (by simp)⟩
theorem Cj{tok:List Nat}(e2:s'.tok=tok)(h:tok≠ []):pq aa s'= .str (S tok)/\(aa=true\/tok≠ []):=by
 unfold pq
 exact af e2 (af (if_neg (fun q=>h q.2.2)) ⟨rfl,.inr h⟩)
theorem Gj(e:s'.quoted=false)(e2:s'.tok=[]):pq aa s'=pA aa:=by
 unfold pq pA
 refine af e (af e2 ?_)
 cases aa with
 |true=>rfl
 |false=>rw[if_neg (fun q=>by cases q.1)]; rfl
theorem kB{tok:List Nat}(h:pq aa s'= .str (S tok)/\(aa=true\/tok≠ []))(h2:D3 T s')(e:res=(tok::(scan aa M W (rem T s') .out).1,(scan aa M W (rem T s') .out).2)):DY T M W aa res (.brk s'):=
 .inl ⟨tok,h.1,h.2,h2,e⟩
theorem iu(h:qh T aa s' a')(e:res=scan aa M W (rem T s') a'):DY T M W aa res (.go s'):=⟨a',h,e⟩
theorem tW(h:s'.tok≠ []):fm aa s'=true:=by
 unfold fm
 cases e:s'.tok with
 |nil=>exact absurd e h
 |cons=>rfl
theorem qA(h:fm aa s=true)(e1:s'.tok=s.tok)(e2:s'.quoted=s.quoted):fm aa s'=true:=by
 unfold fm at h |-
 exact af e1 (af e2 h)
theorem sW{b:Bool}(h:b=true):fG b s'= .brk s':=by unfold fG; (refine af (if_pos h) ?_; rfl)
theorem Pn{b:Bool}(h:b=false):fG b s'= .go s':=by unfold fG; rw[if_neg (by refine af h ?_; decide)]
theorem mh{w:List Nat}{c:Nat}:stp aa M W (.word w) c=if c∈ri then([w],.out)else if c=35 then(if aa=true then([w],.kD .out)else([],.kD (.word w)))else if aa=true/\c∈ [39,34]then([],.jg c w)else if aa=true/\c=92 then([],.cD w)else
     if c∈W\/c∈ [39,34]then([],.word (w++[c]))else(w::(cM aa M W c).1,(cM aa M W c).2):=rfl
theorem sV{w:List Nat}{c:Nat}:stp aa M W (.run w) c=if c∈ri then([w],.out)else if c=35 then(if aa=true then([w],.kD .out)else([],.kD (.run w)))else if c∈M then([],.run (w++[c]))else(w::(cM aa M W c).1,(cM aa M W c).2):=rfl
theorem wo{q:Nat}{w:List Nat}{c:Nat}:stp aa M W (.jg q w) c=if c=q then(if aa=true then([],.word w)else([w++[c]],.out))else if aa=true/\c=92/\q=34 then([],.i9 w)else([],.jg q (w++[c])):=rfl
noncomputable abbrev qL:List Nat:=[39,34]
structure pn(aa:Bool)(M W:List Nat)(c:Nat):Prop where
 ws:c∉ri
 Xz:c≠35
 Za:¬(aa=true/\c=92)
 w:c∉W
 m:c∉M
 q:c∉qL
theorem dB{α:Type}{p:Prop}{d:Decidable p}{x y:α}{P:α->Prop}(h1:p->P x)(h2:¬p->P y):P (@ite α p d x y):=by
 by_cases h:p
 . exact af (if_pos h) (h1 h)
 . exact af (if_neg h) (h2 h)
theorem tE{c:Nat}{P:List (List Nat)×Sc->Prop}(h1:c∈ri->P ([],.out))(h2:c=35->P ([],.kD .out))(h3:aa=true->c=92->P ([],.cD []))(h4:c∈W->P ([],.word [c]))(h5:c∈M->P ([],.run [c]))(h6:c∈qL->P ([],.jg c (if aa=true then []else [c])))(h7:pn aa M W c->P ([[c]],.out)):P (cM aa M W c):=
 dB h1 fun a=>dB h2 fun b=>dB (fun q=>h3 q.1 q.2) fun d=>dB h4 fun e=>dB h5 fun f=>dB h6 fun g=>h7 ⟨a,b,d,e,f,g⟩
theorem wu{c:Nat}{P:Sc->List (List Nat)×Sc->Prop}(o:P .out (cM aa M W c))(w1:∀w,c∈ri->P (.word w) ([w],.out))(w2:∀w,c=35->aa=true->P (.word w) ([w],.kD .out))(w3:∀w,c=35->¬aa=true->P (.word w) ([],.kD (.word w)))(w4:∀w,aa=true->c∈qL->P (.word w) ([],.jg c w))(w5:∀w,aa=true->c=92->P (.word w) ([],.cD w))(w6:∀w,c∈W\/c∈qL->P (.word w) ([],.word (w++[c])))(w7:∀w,P (.word w) (w::(cM aa M W c).1,(cM aa M W c).2))(r1:∀w,c∈ri->P (.run w) ([w],.out))(r2:∀w,c=35->aa=true->P (.run w) ([w],.kD .out))(r3:∀w,c=35->¬aa=true->P (.run w) ([],.kD (.run w)))(r4:∀w,c∈M->P (.run w) ([],.run (w++[c])))(r5:∀w,P (.run w) (w::(cM aa M W c).1,(cM aa M W c).2))(q1:∀q w,c=q->aa=true->P (.jg q w) ([],.word w))(q2:∀q w,c=q->¬aa=true->P (.jg q w) ([w++[c]],.out))(q3:∀q w,aa=true/\c=92/\q=34->P (.jg q w) ([],.i9 w))(q4:∀q w,¬c=q->P (.jg q w) ([],.jg q (w++[c])))(e:∀w,P (.cD w) ([],.word (w++[c])))(e1:∀w,P (.i9 w) ([],.jg 34 ((if c≠92/\c≠34 then w++[92]else w)++[c])))(c1:∀s,c=10->P (.kD s) ([],s))(c2:∀s,P (.kD s) ([],.kD s)):∀s,P s (stp aa M W s c)
 | .out=>o
 | .word w=>dB (w1 w) fun _=>dB (fun a=>dB (w2 w a) (w3 w a)) fun _=>dB (fun q=>w4 w q.1 q.2) fun _=>dB (fun q=>w5 w q.1 q.2) fun _=>dB (w6 w) fun _=>w7 w
 | .run w=>dB (r1 w) fun _=>dB (fun a=>dB (r2 w a) (r3 w a)) fun _=>dB (r4 w) fun _=>r5 w
 | .jg q w=>dB (fun a=>dB (q1 q w a) (q2 q w a)) fun a=>dB (q3 q w) fun _=>q4 q w a
 | .cD w=>e w
 | .i9 w=>e1 w
 | .kD s=>dB (c1 s) fun _=>c2 s
theorem oA{c:Nat}:stp aa M W .out c=cM aa M W c:=rfl
theorem Jm{cs:List Nat}(h:s.st=0):bY T M W aa s cs= .brk { s with tok:=[] }:=by unfold bY; (refine af (if_pos h) ?_; rfl)
theorem yz{cs:List Nat}(h:s.st=32):bY T M W aa s cs=jA T M W aa s cs:=by unfold bY; rw[if_neg (by refine af h ?_; decide),if_pos h]
theorem Aq{cs:List Nat}{q:Nat}(hq:q=39\/q=34)(h:s.st=q):bY T M W aa s cs=kN aa s cs:=by
 unfold bY
 refine af h ?_
 rcases hq with rfl|rfl
 . (refine af (if_neg (by decide)) (af (if_neg (by decide)) (af (if_pos (by decide)) ?_)); rfl)
 . (refine af (if_neg (by decide)) (af (if_neg (by decide)) (af (if_pos (by decide)) ?_)); rfl)
theorem oQ{cs:List Nat}(h:s.st=92):bY T M W aa s cs=uK s cs:=by
 unfold bY
 (refine af h (af (if_neg (by decide)) (af (if_neg (by decide)) (af (if_neg (by decide)) (af (if_pos (by decide)) ?_)))); rfl)
theorem yx{cs:List Nat}(h:s.st=99):bY T M W aa s cs=oH T M aa s cs:=by
 unfold bY
 (refine af h (af (if_neg (by decide)) (af (if_neg (by decide)) (af (if_neg (by decide)) (af (if_neg (by decide)) (af (if_pos (by decide)) ?_))))); rfl)
theorem yy{cs:List Nat}(h:s.st=97):bY T M W aa s cs=jz T W aa s cs:=by
 unfold bY
 (refine af h (af (if_neg (by decide)) (af (if_neg (by decide)) (af (if_neg (by decide)) (af (if_neg (by decide)) (af (if_neg (by decide)) ?_))))); rfl)
theorem c6{s':RS}(h:s'.pb=[]):rem T s'=T.drop s'.pos:=by unfold rem; exact af h rfl
theorem Jo{a:Sc}(c:Nat)(hr:qh T aa s a)(h0:s.st≠0)(hp:s.pb=[]):DY T M W aa (scan aa M W (c::T.drop s.pos) a) (bY T M W aa s [c]):=by
 cases hr with
 |done h1=>exact absurd h1 h0
 | out h1 h2 h3=>
   refine af (yz h1) ?_
   have nf:fm aa s=false:=by unfold fm; refine af h2 (af h3 ?_); simp
   by_cases b1:c∈ri
   . refine af (U6 b1) (af (Pn nf) ?_)
     exact iu (.out h1 h2 h3) ((fy (oA.trans (if_pos b1))).trans (by(refine af (c6 hp) ?_; rfl)))
   by_cases b2:c=35
   . refine af (LJ b1 b2) ?_
     exact iu (.out h1 h2 h3) ((fy (oA.trans ((if_neg b1).trans (if_pos b2)))).trans ((qc _ _ _).trans (by(refine af (c6 (by exact hp)) ?_; rfl))))
   by_cases b3:aa=true/\c=92
   . refine af (Qh b1 b2 b3) ?_
     exact iu (.cD rfl rfl hp h2) ((fy (oA.trans ((if_neg b1).trans ((if_neg b2).trans (if_pos b3))))).trans (by(refine af (c6 (by exact hp)) ?_; rfl)))
   by_cases b4:c∈W
   . refine af (LF b1 b2 b3 b4) ?_
     exact iu (.word rfl hp (tW (by simp)) rfl) ((fy (oA.trans ((if_neg b1).trans ((if_neg b2).trans ((if_neg b3).trans (if_pos b4)))))).trans (by(refine af (c6 (by exact hp)) ?_; rfl)))
   by_cases b5:c∈M
   . refine af (Qg b1 b2 b3 b4 b5) ?_
     exact iu (.run rfl hp (tW (by simp)) rfl) ((fy (oA.trans ((if_neg b1).trans ((if_neg b2).trans ((if_neg b3).trans ((if_neg b4).trans (if_pos b5))))))).trans (by(refine af (c6 (by exact hp)) ?_; rfl)))
   by_cases b6:c∈ [39,34]
   . refine af (Io b1 b2 b3 b4 b5 b6) ?_
     have hq:c=39\/c=34:=by simpa using b6
     refine iu (.jg (w:=if aa=true then []else [c]) hq rfl hp ?_ ?_) ((fy (oA.trans ((if_neg b1).trans ((if_neg b2).trans ((if_neg b3).trans ((if_neg b4).trans ((if_neg b5).trans (if_pos b6)))))))).trans (by(refine af (c6 (by exact hp)) ?_; rfl)))
     . cases aa with
       |true=>exact .inl rfl
       |false=>exact .inr (by simp)
     . cases aa with
       |true=>exact h2
       |false=>rfl
   . refine af (LH b1 b2 b3 b4 b5 b6) ?_
     exact kB (Cj rfl (by simp)) (.inl h1) ((nI (oA.trans ((if_neg b1).trans ((if_neg b2).trans ((if_neg b3).trans ((if_neg b4).trans ((if_neg b5).trans (if_neg b6)))))))).trans (by(refine af (c6 (by exact hp)) ?_; rfl)))
 | word h1 _ hf hw=>
   subst hw
   refine af (yy h1) ?_
   by_cases b1:c∈ri
   . refine af (OE b1) (af (sW hf) ?_)
     exact kB (kL hf rfl rfl rfl) (.inl rfl) ((nI (mh.trans (if_pos b1))).trans (by(refine af (c6 (by exact hp)) ?_; rfl)))
   by_cases b2:c=35
   . refine af (HM b1 b2) ?_
     by_cases hx:aa=true
     . refine af (if_pos hx) (af (sW hf) ?_)
       exact kB (kL hf rfl rfl rfl) (.inl rfl) ((nI (mh.trans ((if_neg b1).trans ((if_pos b2).trans (if_pos hx))))).trans (by(rewrite [qc]; refine af (c6 (by exact hp)) ?_; rfl)))
     . refine af (if_neg hx) ?_
       exact iu (.word h1 hp (qA hf rfl rfl) rfl) ((fy (mh.trans ((if_neg b1).trans ((if_pos b2).trans (if_neg hx))))).trans ((qc _ _ _).trans (by(refine af (c6 (by exact hp)) ?_; rfl))))
   by_cases b3:aa=true/\c∈ [39,34]
   . refine af (Eb b1 b2 b3) ?_
     exact iu (.jg (by simpa using b3.2) rfl hp (.inl b3.1) rfl) ((fy (mh.trans ((if_neg b1).trans ((if_neg b2).trans (if_pos b3))))).trans (by(refine af (c6 (by exact hp)) ?_; rfl)))
   by_cases b4:aa=true/\c=92
   . refine af (JT b1 b2 b3 b4) ?_
     exact iu (.cD rfl rfl hp rfl) ((fy (mh.trans ((if_neg b1).trans ((if_neg b2).trans ((if_neg b3).trans (if_pos b4)))))).trans (by(refine af (c6 (by exact hp)) ?_; rfl)))
   by_cases b5:c∈W\/c∈ [39,34]
   . refine af (OJ b1 b2 b3 b4 b5) ?_
     exact iu (.word h1 hp (tW (by simp)) rfl) ((fy (mh.trans ((if_neg b1).trans ((if_neg b2).trans ((if_neg b3).trans ((if_neg b4).trans (if_pos b5))))))).trans (by(refine af (c6 (by exact hp)) ?_; rfl)))
   . refine af (JQ b1 b2 b3 b4 b5) (af (sW hf) ?_)
     refine kB (kL hf rfl rfl rfl) (.inl rfl) ((xw (mh.trans ((if_neg b1).trans ((if_neg b2).trans ((if_neg b3).trans ((if_neg b4).trans (if_neg b5))))))).trans ?_)
     have:rem T { s with st:=32,pb:=s.pb++[c] }=c::T.drop s.pos:=by unfold rem; simp only[hp]; rfl
     (refine af this ?_; rfl)
 | run h1 _ hf hw=>
   subst hw
   refine af (yx h1) ?_
   by_cases b1:c∈ri
   . refine af (UL b1) (af (sW hf) ?_)
     exact kB (kL hf rfl rfl rfl) (.inl rfl) ((nI (sV.trans (if_pos b1))).trans (by(refine af (c6 (by exact hp)) ?_; rfl)))
   by_cases b2:c=35
   . refine af (K9 b1 b2) ?_
     by_cases hx:aa=true
     . refine af (if_pos hx) (af (sW hf) ?_)
       exact kB (kL hf rfl rfl rfl) (.inl rfl) ((nI (sV.trans ((if_neg b1).trans ((if_pos b2).trans (if_pos hx))))).trans (by(rewrite [qc]; refine af (c6 (by exact hp)) ?_; rfl)))
     . refine af (if_neg hx) ?_
       exact iu (.run h1 hp (qA hf rfl rfl) rfl) ((fy (sV.trans ((if_neg b1).trans ((if_pos b2).trans (if_neg hx))))).trans ((qc _ _ _).trans (by(refine af (c6 (by exact hp)) ?_; rfl))))
   by_cases b5:c∈M
   . refine af (UM b1 b2 b5) ?_
     exact iu (.run h1 hp (tW (by simp)) rfl) ((fy (sV.trans ((if_neg b1).trans ((if_neg b2).trans (if_pos b5))))).trans (by(refine af (c6 (by exact hp)) ?_; rfl)))
   . refine af (PF b1 b2 b5) ?_
     refine kB (kL hf rfl rfl rfl) (.inl rfl) ((xw (sV.trans ((if_neg b1).trans ((if_neg b2).trans (if_neg b5))))).trans ?_)
     have:rem T { s with st:=32,pb:=s.pb++[c] }=c::T.drop s.pos:=by unfold rem; simp only[hp]; rfl
     (refine af this ?_; rfl)
 | @jg q _ hq h1 _ hf hw=>
   subst hw
   refine af (Aq hq h1) ?_
   unfold kN
   dsimp only
   refine af h1 ?_
   by_cases b1:c=q
   . refine af (if_pos b1) ?_
     by_cases hx:aa=true
     . refine af (if_pos hx) ?_
       refine iu (.word rfl hp ?_ rfl) ((fy (wo.trans ((if_pos b1).trans (if_pos hx)))).trans (by(refine af (c6 (by exact hp)) ?_; rfl)))
       unfold fm; refine af hx ?_; simp
     . refine af (if_neg hx) ?_
       exact kB (Cj rfl (by simp)) (.inl rfl) ((nI (wo.trans ((if_pos b1).trans (if_neg hx)))).trans (by(refine af (c6 (by exact hp)) ?_; rfl)))
   . refine af (if_neg b1) ?_
     by_cases b2:aa=true/\c=92/\q=34
     . refine af (if_pos b2) ?_
       exact iu (.i9 rfl b2.2.2 hp b2.1 rfl) ((fy (wo.trans ((if_neg b1).trans (if_pos b2)))).trans (by(refine af (c6 (by exact hp)) ?_; rfl)))
     . refine af (if_neg b2) ?_
       exact iu (.jg hq rfl hp (.inr (by simp)) rfl) ((fy (wo.trans ((if_neg b1).trans (if_neg b2)))).trans (by(refine af (c6 (by exact hp)) ?_; rfl)))
 | cD h1 h2 _ hw=>
   subst hw
   refine af (oQ h1) ?_
   unfold uK
   dsimp only
   rw[h2,if_neg (fun q=>by have:=q.1; revert this; decide)]
   exact iu (.word rfl hp (tW (by simp)) rfl) ((fy rfl).trans (by(refine af (c6 (by exact hp)) ?_; rfl)))
 | i9 h1 h2 _ hx hw=>
   subst hw
   refine af (oQ h1) ?_
   unfold uK
   dsimp only
   refine af h2 ?_
   refine iu (.jg (.inr rfl) rfl hp (.inl hx) rfl) ((fy ?_).trans (by(refine af (c6 (by exact hp)) ?_; rfl)))
   show([],.jg 34 _)=([],Sc.jg 34 _)
   have:(34∈ [39,34]/\c≠92/\c≠34)=(c≠92/\c≠34):=by simp
   simp only[this]
theorem R8{a:Sc}(hr:qh T aa s a)(hp:s.pb=[])(he:s.pos=T.length):DY T M W aa (scan aa M W [] a) (bY T M W aa s []):=by
 have aaa:∀s':RS,s'.pb=[]->s'.pos=s.pos->rem T s'=[]:=fun s' h1 h2=>by(refine af (c6 h1) (af h2 (af he (af qf ?_))); rfl)
 cases hr with
 | done h1 h4 h5 h2 h3=>
   exact af (Jm h1) (.inr ⟨Gj h3 rfl,rfl⟩)
 | out h1 h2 h3=>
   exact af (yz h1) (.inr ⟨Gj h3 h2,rfl⟩)
 | word h1 _ hf hw=>
   subst hw
   refine af (yy h1) ?_
   exact kB (kL hf rfl rfl rfl) (.inr ⟨rfl,hp,he⟩) (af (aaa _ (by exact hp) (by rfl)) rfl)
 | run h1 _ hf hw=>
   subst hw
   refine af (yx h1) ?_
   exact kB (kL hf rfl rfl rfl) (.inr ⟨rfl,hp,he⟩) (af (aaa _ (by exact hp) (by rfl)) rfl)
 | jg hq h1 _ hf hw=>
   exact af (Aq hq h1) ⟨rfl,.inl rfl⟩
 | cD h1 h2 _ hw=>
   exact af (oQ h1) ⟨rfl,.inr rfl⟩
 | i9 h1 h2 _ hx hw=>
   exact af (oQ h1) ⟨rfl,.inr rfl⟩
end
section
set_option tactic.hygienic true
section
variable {T M W:List Nat}{aa:Bool}{s:RS}
theorem qh.move(h:qh T aa s a)(h0:s.st≠0)(e1:s'.st=s.st)(e2:s'.tok=s.tok)(e3:s'.quoted=s.quoted)(e4:s'.cD=s.cD)(hp:s'.pb=[]):qh T aa s' a:=by
 cases h with
 |done h1=>exact absurd h1 h0
 |out h1 h2 h3=>exact .out (e1.trans h1) (e2.trans h2) (e3.trans h3)
 |word h1 _ hf hw=>exact .word (e1.trans h1) hp (qA hf e2 e3) (e2.trans hw)
 |run h1 _ hf hw=>exact .run (e1.trans h1) hp (qA hf e2 e3) (e2.trans hw)
 |jg hq h1 _ hf hw=>exact .jg hq (e1.trans h1) hp (af e2 hf) (e2.trans hw)
 |cD h1 h2 _ hw=>exact .cD (e1.trans h1) (e4.trans h2) hp (e2.trans hw)
 |i9 h1 h2 _ hx hw=>exact .i9 (e1.trans h1) (e4.trans h2) hp hx (e2.trans hw)
theorem L7(cs:List Nat)(s:RS):(dm cs s).st=s.st/\(dm cs s).tok=s.tok/\(dm cs s).quoted=s.quoted/\(dm cs s).cD=s.cD/\(dm cs s).pb=s.pb/\(dm cs s).pos=s.pos:=by
 unfold dm; split <;> exact⟨rfl,rfl,rfl,rfl,rfl,rfl⟩
theorem Kf(hi:pC T aa s)(hr:qh T aa s a):DY T M W aa (scan aa M W (rem T s) a) (fB T M W aa s):=by
 have one:∀(c:Nat) (s1:RS),s1.st=s.st->s1.tok=s.tok->s1.quoted=s.quoted->s1.cD=s.cD->s1.pb=[]->s.st≠0->DY T M W aa (scan aa M W (c::T.drop s1.pos) a) (bY T M W aa (dm [c] s1) [c]):=fun c s1 e1 e2 e3 e4 hp h0=>by
   refine cp fun G' k'=>?_
   refine T9 (L7 [c] s1) fun l1 l2 l3 l4 l5 l6=>?_
   refine k' ?_
   have hr':=hr.move (s':=dm [c] s1) h0 (l1.trans e1) (l2.trans e2) (l3.trans e3) (l4.trans e4) (l5.trans hp)
   have:=Jo (M:=M) (W:=W) c hr' (af l1 (af e1 h0)) (l5.trans hp)
   rwa[l6]at this
 unfold fB
 cases e:s.pb with
 | nil=>
   by_cases hk:s.pos<T.length
   . have e1:nextIn T s=([T[s.pos]],{ s with pos:=s.pos+1 }):=by unfold nextIn iw; refine af e ?_; simp only[dif_pos hk]
     refine af e1 (af (c6 e) (af (List.drop_eq_getElem_cons hk) ?_))
     refine one T[s.pos] { s with pos:=s.pos+1 } rfl rfl rfl rfl e fun h0=>?_
     cases hr with
     |done _ _ h5=>lia
     |out h1=>rw[h0]at h1; cases h1
     |word h1=>rw[h0]at h1; cases h1
     |run h1=>rw[h0]at h1; cases h1
     |jg hq h1=>rw[h0]at h1; subst h1; rcases hq with h|h <;> cases h
     |cD h1=>rw[h0]at h1; cases h1
     |i9 h1=>rw[h0]at h1; cases h1
   . have e1:nextIn T s=([],s):=by unfold nextIn iw; refine af e ?_; simp only[dif_neg hk]; (refine af e.symm ?_; rfl)
     have hp:s.pos=T.length:=by have:=hi.pos; lia
     exact af e1 (af (c6 e) (af hp (af qf (R8 hr e hp))))
 | cons c r=>
   have:r=[]:=by have:=hi.pb; rw[e]at this; exact List.eq_nil_of_length_eq_zero (by simpa using this)
   subst this
   have e1:nextIn T s=([c],{ s with pb:=[] }):=by unfold nextIn; (refine af e ?_; rfl)
   have e2:rem T s=c::T.drop s.pos:=by unfold rem; exact af e rfl
   have vY:s.st=32:=hi.iV (af e (by simp))
   refine af e1 (af e2 ?_)
   exact one c { s with pb:=[] } rfl rfl rfl rfl rfl (af vY (by decide))
theorem CF:∀(n:Nat) (s:RS) (a:Sc) (x:kh),pC T aa s->qh T aa s a->rdLoop T M W aa n s=some x->DY T M W aa (scan aa M W (rem T s) a) x
 |0,_,_,_,_,_,h=>by exact nn h
 | n +1,s,a,x,hi,hr,h=>by
   have ht:=Kf (M:=M) (W:=W) hi hr
   have MQ:=wc (M:=M) (W:=W) hi
   unfold rdLoop at h
   cases e:fB T M W aa s with
   | go s'=>
     rw[e]at h ht MQ
     refine au ht fun a' h1 h2=>?_
     exact af h2 (CF n s' a' x MQ.1 h1 h)
   |brk s'=>rw[e]at h ht; obtain rfl:=sj h; exact ht
   |exc k s'=>rw[e]at h ht; obtain rfl:=sj h; exact ht
theorem D3.rel(h:D3 T s)(ht:s.tok=[]):qh T aa { s with quoted:=false,cD:=32 } .out:=by
 rcases h with h|⟨h1,h2,h3⟩
 . exact .out h ht rfl
 . exact .done h1 h2 h3 ht rfl
noncomputable def aaK(T M W:List Nat)(aa:Bool)(s:RS):N8->Prop
 | .tok d s'=>oY T s'/\((∃tok,d= .str (S tok)/\(aa=true\/tok≠ [])/\D3 T s'/\scan aa M W (rem T s) .out=(tok::(scan aa M W (rem T s') .out).1,(scan aa M W (rem T s') .out).2))\/(d=pA aa/\scan aa M W (rem T s) .out=([],0)))
 | .exc k _=>scan aa M W (rem T s) .out=([],k)/\(k=1\/k=2)
theorem Ci(hs:oY T s)(h:D3 T s)(hx:dO T M W aa s=some x):aaK T M W aa s x:=by
 have hl:∀x,rdLoop T M W aa (2*T.length+10) { s with quoted:=false,cD:=32 }=some x->DY T M W aa (scan aa M W (rem T s) .out) x:=fun x hx=>CF _ { s with quoted:=false,cD:=32 } .out x hs.inv (h.rel hs.tok) hx
 cases x with
 | tok d s'=>
   refine⟨vt hs hx,?_⟩
   refine nD (kK hx) fun aX e e1 e2=>?_
   rw[e1,e2]
   exact hl _ e
 |exc k s'=>exact hl _ (vv hx)
theorem wI{tok:List Nat}(h:aa=true\/tok≠ []):lP .NotEq (.str (S tok)) (pA aa)=some (.bool true):=by
 cases aa with
 |true=>rfl
 | false=>
   have h:tok≠ []:=h.resolve_left (by simp)
   show some (Dat.bool (!bw (S tok) ""))=_
   (refine af dR ?_; rewrite [g7]; refine af (show(tok==([]:List Nat))=false by simpa using h) ?_); rfl
theorem Nv:lP .NotEq (pA aa) (pA aa)=some (.bool false):=by
 cases aa <;> rfl
noncomputable abbrev bf(t:List Nat):V:=.str (S t)
noncomputable def WM:Nat->Option Nat
 |0=>none
 |k+1=>some (k+1)
noncomputable def qX(k:Nat):Str:=if k=0 then aj "" else lE k
theorem Dl:∀(toks:List (List Nat)) (s:RS) (k:Nat) (told:List V) (tok:List Nat),oY T s->D3 T s->scan aa M W (rem T s) .out=(toks,k)->(aa=true\/tok≠ [])->
   pg T M W aa (toks.length+1) (bf tok) s told (told++bf tok::toks.map bf,WM k)
 | toks, s,k,told,tok,hs,ht,he,hg=>by
   refine cE (ry (M:=M) (W:=W) (aa:=aa) hs) fun x hx=>?_
   have hr:=Ci hs ht hx
   cases x with
   | exc k' s'=>
     refine bx hr fun h1 h2=>?_
     rw[he]at h1
     refine bx (cR h1) fun Se fj=>?_
     subst Se
     subst fj
     rcases h2 with rfl|rfl
     . exact .fault (wI hg) hx
     . exact .fault (wI hg) hx
   | tok d s'=>
     obtain⟨I5,⟨O7,rfl,h2,h3,h4⟩|⟨rfl,h4⟩⟩:=hr
     . rw[he]at h4
       refine bx (cR h4) fun e1 e2=>?_
       cases toks with
       |nil=>cases e1
       | cons t toks=>
         refine bx (List.cons.inj e1) fun Se e3=>?_
         subst Se
         have ih:=Dl toks s' k (told++[bf tok]) t I5 h3 (Prod.ext e3.symm e2.symm) h2
         refine .more (wI hg) hx ?_
         rw[bB]at ih
         exact ih
     . rw[he]at h4
       refine bx (cR h4) fun Se fj=>?_
       subst Se
       subst fj
       exact .more (wI hg) hx (.stop Nv)
theorem RQ(hn:∀a,(scan aa M W T a).1.length<=T.length+1)(hT:T.length<=800):FI T M W aa Ex ((scan aa M W T .out).1.map bf,qX (scan aa M W T .out).2):=by
 have e0:rem T Ex=T:=by unfold rem Ex; simp
 have hn:=hn .out
 have ht:D3 T Ex:=.inl rfl
 refine cE (ry (M:=M) (W:=W) (aa:=aa) (AX T)) fun x hx=>?_
 have hr:=Ci (AX T) ht hx
 cases x with
 | exc k s'=>
   refine bx hr fun h1 h2=>?_
   rw[e0]at h1
   refine af h1 ?_
   have:qX k=lE k:=by rcases h2 with rfl|rfl <;> rfl
   exact af this (.f1 hx)
 | tok d s'=>
   obtain⟨I5,⟨O7,rfl,h2,h3,h4⟩|⟨rfl,h4⟩⟩:=hr
   . rw[e0]at h4
     rw[h4]at hn |-
     have hl:=Dl (scan aa M W (rem T s') .out).1 s' (scan aa M W (rem T s') .out).2 [] O7 I5 h3 rfl h2
     generalize scan aa M W (rem T s') .out=q at*
     obtain⟨toks,k⟩:=q
     dsimp only[dg]at hn hl |-
     cases k with
     |zero=>exact .f3 hx hl (by lia)
     |succ k=>exact .f2 hx hl (by lia)
   . rw[e0]at h4
     exact af h4 (.f3 (n:=0) hx (.stop Nv) (by decide))
end
noncomputable def pend:Sc->Nat
 | .out=>0
 | .kD s=>pend s
 |_=>1
section
variable {aa:Bool}{M W:List Nat}
theorem Ls(c:Nat):(cM aa M W c).1.length+pend (cM aa M W c).2<=1:=
 tE (P:=fun r=>r.1.length+pend r.2<=1) (fun _=>dz 1) (fun _=>dz 1) (fun _ _=>bC 1) (fun _=>bC 1) (fun _=>bC 1) (fun _=>bC 1) fun _=>bC 1
theorem Kz(s:Sc)(c:Nat):(stp aa M W s c).1.length+pend (stp aa M W s c).2<=pend s+1:=by
 have ho:=Ls (aa:=aa) (M:=M) (W:=W) c
 have h2:(cM aa M W c).1.length+1+pend (cM aa M W c).2<=2:=af (Nat.succ_add _ _) (Nat.succ_le_succ ho)
 have b1:1<=2:=iX 1
 have hc:∀s,0+pend s<=pend s+1:=fun s=>af (Nat.zero_add _) (iX _)
 exact wu (P:=fun s r=>r.1.length+pend r.2<=pend s+1) ho (fun _ _=>b1) (fun _ _ _=>b1) (fun _ _ _=>b1) (fun _ _ _=>b1) (fun _ _ _=>b1) (fun _ _=>b1) (fun _=>h2) (fun _ _=>b1) (fun _ _ _=>b1) (fun _ _ _=>b1) (fun _ _=>b1) (fun _=>h2) (fun _ _ _ _=>b1) (fun _ _ _ _=>b1) (fun _ _ _=>b1) (fun _ _ _=>b1) (fun _=>b1) (fun _=>b1) (fun s _=>hc s) hc s
theorem Nk(s:Sc):(fin s).1.length<=pend s:=by
 induction s with
 |out=>exact bC _
 |word=>exact bC _
 |run=>exact bC _
 |jg=>exact dz _
 |cD=>exact dz _
 |i9=>exact dz _
 |kD s ih=>exact ih
theorem P6(s:Sc):pend s<=1:=by
 induction s with
 |kD s ih=>exact ih
 |_=>first|exact bC _|exact dz _
theorem scan_len:∀(t:List Nat) (s:Sc),(scan aa M W t s).1.length<=t.length+pend s
 | [],s=>by
   have:=Nk s
   show(fin s).1.length<=0+_
   rw[Nat.zero_add]; exact this
 | c::r,s=>by
   rw[iI]
   have h1:=Kz (aa:=aa) (M:=M) (W:=W) s c
   have h2:=scan_len r (stp aa M W s c).2
   simp only[aR,dg]
   lia
theorem Nj{T:List Nat}(hT:T.length<=800):FI T M W aa Ex ((scan aa M W T .out).1.map bf,qX (scan aa M W T .out).2):=
 RQ (fun a=>cg (scan_len T a) (Nat.add_le_add_left (P6 a) _)) hT
end
end
noncomputable def pe(fz:Led)(o:Obj):Option V->Prop
 |none=>o.data= .cell none
 |some d=>∃v,o.data= .cell (some v)/\VR fz d v
theorem Fy(h:∀p∈fz,p∈aT){o:Obj}:∀ {d:Option V},pe fz o d->pe aT o d
 |none,x=>x
 |some _,⟨v,e,x⟩=>⟨v,e,x.mono h⟩
theorem DO{o:Obj}:∀ {d:Option V},pe fz o d->∃v,o.data= .cell v
 |none,x=>⟨_,x⟩
 |some _,⟨_,e,_⟩=>⟨_,e⟩
inductive bV(fz:Led)(c:Loc):List (Str×Addr)->Led->Prop
 |nil:bV fz c [] []
 |cons {n:Str} {a:Addr} {ob:Obj} {cs:List (Str×Addr)} {R:Led} (h:pe fz ob (c.lookup n)) (r:bV fz c cs R):bV fz c ((n,a)::cs) ((a,ob)::R)
theorem bV.mono(h:∀p∈fz,p∈aT){cs:List (Str×Addr)}(x:bV fz c cs R):bV aT c cs R:=by
 induction x with
 |nil=>exact .nil
 |cons a _ ih=>exact .cons (Fy h a) ih
theorem bV.same{x:Str}{d:V}{cs:List (Str×Addr)}(r:bV fz c cs R)(hx:∀y∈cs,y.1≠x):bV fz ((x,d)::c) cs R:=by
 induction r with
 |nil=>exact .nil
 | @cons n a ob cs R h _ ih=>
   refine .cons ?_ (ih fun y hy=>hx y (.tail _ hy))
   exact af bW (af (beq_false_of_ne (hx _ (.head _))) h)
theorem bV.keys{c:Loc}{cs:List (Str×Addr)}{R:Led}(r:bV fz c cs R):R.map (·.1)=cs.map (·.2):=by
 induction r with
 |nil=>rfl
 |cons _ _ ih=>exact congrArg (List.cons _) ih
theorem bV.app{c:Loc}{cs cs':List (Str×Addr)}{R R':Led}(r:bV fz c cs R)(r':bV fz c cs' R'):bV fz c (cs++cs') (R++R'):=by
 induction r with
 |nil=>exact r'
 |cons h _ ih=>exact .cons h ih
theorem bV.cut{c:Loc}{x:Str}{a:Addr}{cs:List (Str×Addr)}{R:Led}(r:bV fz c cs R)(hx:cs.lookup x=some a):∀ {P:List (Str×Addr)->Led->Prop},
   (∀c1 c2 R1 ob R2,bV fz c c1 R1->bV fz c c2 R2->pe fz ob (c.lookup x)->P (c1++(x,a)::c2) (R1++(a,ob)::R2))->P cs R:=by
 induction r with
 |nil=>exact nn hx
 | @cons n b ob cs R h r ih=>
   intro P k
   rw[bW]at hx
   cases e:x==n with
   |true=>rw[e]at hx; obtain rfl:=sj hx; cases eq_of_beq e; exact k [] cs [] ob R .nil r h
   |false=>rw[e]at hx; exact ih hx (P:=fun cs R=>P ((n,b)::cs) ((b,ob)::R)) fun c1 c2 R1 o1 R2 q1=>k ((n,b)::c1) c2 ((b,ob)::R1) o1 R2 (.cons h q1)
theorem bV.find{x:Str}{a:Addr}{cs:List (Str×Addr)}(r:bV fz c cs R)(hn:(cs.map (·.1)).Nodup)(hx:cs.lookup x=some a):
   ∃pre ob post,R=pre++(a,ob)::post/\pe fz ob (c.lookup x)/\R.map (·.1)=cs.map (·.2)/\∀yS d,pe fz yS (some d)->bV fz ((x,d)::c) cs (pre++(a,yS)::post):=
 r.cut hx (P:=fun cs R=>(cs.map (·.1)).Nodup->R.map (·.1)=cs.map (·.2)->∃pre ob post,R=pre++(a,ob)::post/\pe fz ob (c.lookup x)/\R.map (·.1)=cs.map (·.2)/\∀yS d,pe fz yS (some d)->bV fz ((x,d)::c) cs (pre++(a,yS)::post))
   (fun c1 c2 R1 ob R2 q1 q2 q3 hn e=>have k:=gc hn
     ⟨R1,ob,R2,rfl,q3,e,fun yS d hv=>(q1.same k.1).app (.cons (by rw[bW,beq_self_eq_true]; exact hv) (q2.same k.2))⟩) hn r.keys
structure aaR{O:Type}(C:Cx O)(cs:List (Str×Addr))(o:O×Loc)(fz R:Led):Prop where
 n1:(cs.map (·.1)).Nodup
 n2:(cs.map (·.2)).Nodup
 rp:∃fF d8,R=fF++d8/\bV fz o.2 cs fF/\Apart fF d8/\C.Rep o.1 fz d8
noncomputable def eV(C:Cx O)(g:aE)(L:Addr)(cs:List (Str×Addr))(refs:List (Str×Value)):Cx (O×Loc):=
 { s₀:=C.s₀,h₀:=g,L:=L,rest:=C.rest,refs:=refs,Rep:=aaR C cs,mono:=fun _ _ _ _ h r=>⟨r.n1,r.n2,let ⟨fF,d8,e,x,a,q⟩:=r.rp; ⟨fF,d8,e,x.mono h,a,C.mono _ _ _ d8 h q⟩⟩ }
noncomputable abbrev cz(C:Cx O)(g:aE)(L:Addr)(cs:List (Str×Addr)):Cx (O×Loc):=eV C g L cs []
section
variable {o:O×Loc}{g:aE}{L:Addr}{cs:List (Str×Addr)}{refs:List (Str×Value)}
theorem Ar(h:At (eV C g L cs refs) o ρ fz s){y:Str}{c:Addr}{d:V}(hc:cs.lookup y=some c)(hd:o.2.lookup y=some d):∃ob u,s.heap.get? c=some ob/\ob.data= .cell (some u)/\VR fz d u:=by
 refine cp fun G' k'=>?_
 obtain⟨h',tk,m,R,rfl,F,N,rp,ap,lc,rf⟩:=h
 obtain⟨n1,n2,fF,d8,rfl,x,a,q⟩:=rp
 refine yU (x.find n1 hc) fun pre ob post jU hv _ _=>?_
 subst jU
 refine k' ?_
 rw[hd]at hv
 refine au hv fun v e1 e2=>?_
 exact⟨ob,v,(N (c,ob) (by simp)).1,e1,e2⟩
theorem Fx(h:At (eV C g L cs refs) o ρ fz s)(hk:env.scope.kind= .function){x:Str}{c:Addr}(hx:env.kindOf x=some .cell)(he:env.cells.lookup x=some c)(hc:cs.lookup x=some c){d:V}(hv:VR fz d v)(hq:∀s',At (eV C g L cs refs) (o.1,(x,d)::o.2) ρ fz s'->Q () s'):wpAny (model ai w) A (storeName env x v) Q E s:=by
 refine cp fun G' k'=>?_
 obtain⟨h',tk,m,R,rfl,F,N,rp,ap,lc,rf⟩:=h
 obtain⟨n1,n2,fF,d8,rfl,xr,a,q⟩:=rp
 refine yU (xr.find n1 hc) fun pre ob post jU MJ MU hup=>?_
 subst jU
 refine cE (DO MJ) fun Uk e0=>?_
 refine k' ?_
 have hm:(c,ob)∈((pre++(c,ob)::post)++d8)++(fz++C.rest):=by simp
 refine wpAny_storeName_cell hk hx he ⟨ob,(N _ hm).1,e0⟩ fun gY BN hs=>?_
 refine au BN fun yS e1 e2=>?_
 have kk:=gc (af MU n2)
 have e3:(pre++(c,ob)::post)++d8=pre++(c,ob)::(post++d8):=by simp
 have k2:∀q∈post++d8,q.1≠c:=fun q hq=>by
   rcases bu.mp hq with hq|hq
   . exact kk.2 q hq
   . exact fun e=>a (c,ob) (by simp) q hq e.symm
 have ap':Apart (pre++(c,ob)::(post++d8)) (fz++C.rest):=e3▸ap
 have N':News g L h' ((pre++(c,ob)::(post++d8))++(fz++C.rest)):=e3▸N
 refine lV (xV F N' ap' kk.1 k2 hs e1) fun sH pB yG=>?_
 have e4:pre++(c,yS)::(post++d8)=(pre++(c,yS)::post)++d8:=by simp
 refine hq _ ⟨gY,tk,m,pre++(c,yS)::(post++d8),rfl,sH,pB,⟨n1,n2,_,d8,e4,hup yS d ⟨v,e2,hv⟩,fun p hp q hq=>?_,q⟩,yG,lc,rf⟩
 rcases bu.mp hp with hp|hp
 . exact a p (aH _ hp) q hq
 . rcases aB.mp hp with rfl|hp
   . exact a (c,ob) (by simp) q hq
   . exact a p (aJ _ (.tail _ hp)) q hq
end
section
variable (O:Type)(names cells:List Str)(cP:List (Str×(List V->Option (Bool×V))))(lv:Nat)(sc:Scope)
noncomputable def An(o:O×Loc)(x:Str):Option V:=gate (cells.contains x) (o.2.lookup x) none
noncomputable def Fp(f:Str)(ds:List V):Option (Bool×V):=gate (kG sc f) (opt (cP.lookup f) (fun g=>g ds) none) none
noncomputable def DP(o:O×Loc):Jz:={ names:=names,self:="",attr:=fun _=>none,j0:=Fp cP sc,nm:=An O cells o,big:=true }
noncomputable def DR:pD (O×Loc):=
 { names:=names,self:="",attr:=fun _ _=>none,uz:=fun _ _ _=>none,j0:=fun _=>Fp cP sc,prim:=fun _ _ _=>none,nm:=An O cells,
   cv:=fun o ρ e=>lM cP lv sc (An O cells o) ρ (Ak (DP O names cells cP sc o) ρ) e,big:=true,KW:=fun o x v=>gate (cells.contains x) (some (o.1,(x,v)::o.2)) none }
end
section
variable {K:Frag}{cP:List (Str×(List V->Option (Bool×V)))}{names cells:List Str}{lv:Nat}{yQ:Cx O}{g:aE}{L:Addr}{refs:List (Str×Value)}
structure Xj(env:Env)(names cells:List Str)(cs:List (Str×Addr)):Prop where
 loc:∀x∈names,env.kindOf x=some .local
 OA:∀x∈cells,env.kindOf x=some .cell/\(x==("__debug__":Str))=false/\∃c,cs.lookup x=some c/\env.cells.lookup x=some c
theorem Xj.cn{o:O×Loc}(H:Xj env names cells cs):D5 (eV yQ g L cs refs) o env (An O cells o):=fun y v h=>by
 refine cp fun G' k'=>?_
 refine bx (bA h) fun h1 h2=>?_
 refine lV (H.OA y (by simpa using h1)) fun k1 _ Yr=>?_
 obtain⟨c,k2,k3⟩:=Yr
 refine k' ?_
 exact⟨k1,c,k3,fun ρ fz s hA=>Ar hA k2 h2⟩
theorem DN(R:cH K p az aL mg mb A₀ base av A env g L d)(S:DZ ai w K p az aL mg mb d cP A g L)(H:Xj env names cells cs)(o:O×Loc)(hcv:∀ρ e v,cv ρ e=some v->bq ai w A (eV yQ g L cs refs) o env ρ e v):yM ai w A (eV yQ g L cs refs) o env { names:=names,self:="",attr:=fun _=>none,j0:=Fp cP env.scope,nm:=An O cells o,cv:=cv,big:=true } where
 fn:=R.hk
 loc:=R.hl
 names:=H.loc
 attr:=fun _ _=>nn
 call:=fun f ds r hf ρ fz s Q E q pos args hA hs nS hw=>by
   refine bx (bA hf) fun hg hf=>?_
   refine au (aq hf) fun gg e1 hf=>?_
   have cc:sL ai w A g L f gg:=S.calls (f,gg) (lookup_mem e1)
   unfold sL at cc
   exact cc (C:=eV yQ g L cs refs) rfl rfl ⟨R.hk,R.hg,R.hb⟩ hA (eq_of_beq hg) args pos q ds r hf hs nS Q E hw
 LD:=fun y v h ρ p=>by
   have h1:=(bA h).1
   exact NP H.cn R.hk h (H.OA y (by simpa using h1)).2.1
 Hl:=hcv
 v9:=fun _=>by have:=S.room; lia
theorem yC(R:cH K p az aL mg mb A₀ base av A env g L d)(S:DZ ai w K p az aL mg mb d cP A g L)(H:Xj env names cells cs)(uO:∀q∈refs,names.contains q.1=false):
   cV ai w A (eV yQ g L cs refs) env (DR O names cells cP lv env.scope) X 0 where
 fh o:=DN R S H o fun ρ e v h=>NG lv _ (eV yQ g L cs refs) o env ρ env.scope _ _ S ⟨R.hk,R.hg,R.hb⟩ (fun f hf=>eq_of_beq hf) H.cn (fun e v he=>iB (DN R S H o fun _ _ _=>nn).wk he) e v h
 hh:=R.hh
 inter:=R.hi
 push:=fun _ _ _ _ h=>by exact nn h
 give:=fun _ _ _ _ h=>by exact nn h
 off:=uO
 self:=.inr ⟨fun _ _=>rfl,fun _ _ _=>rfl⟩
 vq:=.inr ⟨fun _ _=>rfl,fun _ _ _=>rfl⟩
 get:=fun _ _ _ h=>by exact nn h
 set:=fun _ _ _ _ h=>by exact nn h
 prim:=fun _ _ _ _=>nn
 oZ:=fun _ _ _ _=>nn
 vp:=fun o x dd o' h=>by
   refine bx (bA h) fun h1 h2=>?_
   obtain rfl:=sj h2
   refine cp fun G' k'=>?_
   refine lV (H.OA x (by simpa using h1)) fun k1 _ Yr=>?_
   obtain⟨c,k2,k3⟩:=Yr
   refine k' ?_
   exact⟨by refine af k1 ?_; simp,fun ρ fz s v Q E hA hv hq=>Fx hA R.hk k1 k3 k2 hv hq⟩
end
noncomputable abbrev kdOf(sc:Scope)(x:Str):Option dU:=sc.names.lookup x
noncomputable def bindLV(kd:Str->Option dU):List (Str×V)->Loc->Loc
 | [],ρ=>ρ
 |(n,d)::r,ρ=>bindLV kd r (cond (kd n==some .local) ((n,d)::ρ) ρ)
noncomputable def sC(kd:Str->Option dU):List (Str×V)->Loc->Loc
 | [],c=>c
 |(n,d)::r,c=>sC kd r (cond (kd n==some .local) c ((n,d)::c))
noncomputable def Xf(fz:Led)(v:Option Value):Option V->Prop
 |none=>v=none
 |some d=>∃u,v=some u/\VR fz d u
theorem yE:∀ {xs:List Str} {vs:List Value} {ds:List V} {m:Str->Option Value} {ρ:Loc},aU fz vs ds->i6 m ρ fz->i6 (bindL kd (xs.zip vs) m) (bindLV kd (xs.zip ds) ρ) fz
 | [],_,_,_,_,_,h=>h
 |_::_,_,_,_,_,.nil,h=>h
 | x ::xs,_,_,m,ρ,.cons hv hr,h=>by
   refine af List.zip_cons_cons (af List.zip_cons_cons ?_)
   unfold bindL bindLV
   refine yE hr ?_
   by_cases e:kd x=some .local
   . (refine af (if_pos e) (af e ?_); rw[beq_self_eq_true])
     exact h.set hv
   . exact af (if_neg e) (af (beq_false_of_ne e) h)
theorem yF:∀ {xs:List Str} {vs:List Value} {ds:List V} {m:Str->Option Value} {c:Loc},aU fz vs ds->(∀n,Xf fz (m n) (c.lookup n))->∀n,Xf fz (bindC kd (xs.zip vs) m n) ((sC kd (xs.zip ds) c).lookup n)
 | [],_,_,_,_,_,h=>h
 |_::_,_,_,_,_,.nil,h=>h
 | x ::xs,_,_,m,c,.cons hv hr,h=>by
   refine af List.zip_cons_cons (af List.zip_cons_cons ?_)
   unfold bindC sC
   refine yF hr fun n=>?_
   by_cases e:kd x=some .local
   . (refine af (if_pos e) (af e ?_); rw[beq_self_eq_true])
     exact h n
   . refine af (if_neg e) (af (beq_false_of_ne e) ?_)
     dsimp only[cond]
     refine af bW ?_
     by_cases en:n=x
     . (refine af (if_pos en) (af en ?_); rw[beq_self_eq_true])
       exact⟨_,rfl,hv⟩
     . exact af (if_neg en) (af (beq_false_of_ne en) (h n))
theorem Gh(h:∀n,Xf fz (cm n) (c.lookup n))(x:CellsAre cm cs R):bV fz c cs R:=by
 induction x with
 |nil=>exact .nil
 | @cons n a ob cs R hd _ ih=>
   refine .cons ?_ ih
   have hn:=h n
   cases e:c.lookup n with
   | none=>
     rw[e]at hn
     have hn:cm n=none:=hn
     rw[hn]at hd
     exact hd
   | some d=>
     rw[e]at hn
     refine au hn fun u e1 e2=>?_
     rw[e1]at hd
     exact⟨u,hd,e2⟩
theorem Ib(x:CellsAre cm cs R):R.map (·.1)=cs.map (·.2):=by
 induction x with
 |nil=>rfl
 |cons _ _ ih=>(refine af eZ (af eZ (af ih ?_)); rfl)
theorem Ht:∀ {names:List (Str×dU)} {n lo:Nat} {acc:List (Str×Addr)},lo<=n->(∀p∈acc,lo<=p.2/\p.2<n)->(acc.map (·.2)).Nodup->(∀p∈aZ n names acc,lo<=p.2)/\((aZ n names acc).map (·.2)).Nodup
 | [],_,_,_,_,h,hn=>⟨fun p hp=>(h p hp).1,hn⟩
 | (x, k)::r,n,lo,acc,hl,h,hn=>by
   unfold aZ
   by_cases hk:(k== .cell)=true
   . refine af (if_pos hk) ?_
     refine Ht (n6 hl) (fun p hp=>?_) ?_
     . rcases aB.mp hp with rfl|hp
       . exact⟨hl,sF _⟩
       . exact⟨(h p hp).1,u9 (h p hp).2⟩
     . (refine af eZ ?_; rw[List.nodup_cons])
       refine⟨fun hm=>?_,hn⟩
       refine au (bZ.mp hm) fun p hp e=>?_
       have:=(h p hp).2
       rw[e]at this
       exact iY _ this
   . exact af (if_neg hk) (Ht hl h hn)
section
variable {K:Frag}
theorem nL{nm name qual:Str}{dV kV doc pm cdv ct oc:Value}{osl:Array (Option Value)}{f:Addr}{xs:List Str}{spec:List V->Option (Bool×V)}(hg:nsIn K dc nm=some (some (.ref f)))(hdb:(nm==("__debug__":Str))=false)(ho:K.lookup f=some ⟨oc,od,.func (fnOf name qual params body scope dV kV doc pm an cdv ct),osl⟩)(E8:codeIn K cdv qual=true)(pV:∀(vs:List Value) (s:ak),vs.length=xs.length->BindsTo s (fnOf name qual params body scope dV kV doc pm an cdv ct) ⟨vs,[]⟩ (xs.zip vs))(yd:∀y∈xs,(scope.names.lookup y==some .local||scope.names.lookup y==some .cell)=true)(hnc:((aZ 0 scope.names []).map (·.1)).Nodup)(zc:scope.isCoroutine=false)(Bo:scope.isGenerator=false)(hk:scope.kind= .function)(hlen:∀ds r,spec ds=some (true,r)->ds.length=xs.length)(Wf:∀ {O:Type} {C:Cx O} {A₀:cy} {base g:aE} {av:List Env} {A:cy} {L:Addr} (o:O) ds r,spec ds=some (true,r)->cH K p az aL mg mb A₀ base av A (envOfC qual scope L f cdv) g L d->A.units+8*d+64<cLine->
     ∃c' ρ',gy ai w A (cz C g L (aZ (L+1) scope.names [])) (envOfC qual scope L f cdv) (fun _ _ _ _=>False) (o,sC (kdOf scope) (xs.zip ds) []) (bindLV (kdOf scope) (xs.zip ds) []) body ((o,c'),ρ',.ret r)):
   mP ai w K p az aL mg mb nm (d+1) spec:=by
 intro O C A₀ base av A env jj o ρ fz s R hu lk h mD args pos q ds r hr hs nS Q E hw
 refine gJ rfl (qy R lk h hg mD hdb ?_)
 cases args with
 |nil=>exact absurd rfl nS
 | cons e rest=>
   rw[fQ,aM]at hs
   refine callWith_def (o:=⟨oc,od,.func (fnOf name qual params body scope dV kV doc pm an cdv ct),osl⟩) rfl (fD hw (fun vs s₁ x=>?_) fun _ _ x=>x) (cU hs.1)
   refine cp fun G' k'=>?_
   refine wR x fun ay sb cj hv hq=>?_
   obtain⟨hp,tk,m,Rl,rfl,F,N,rp,ap,lc,rf⟩:=cj
   refine k' ?_
   refine⟨F.keep _ _ (R.X _ _ ho),gk ?_⟩
   have hlv:vs.length=xs.length:=hv.length.trans (hlen ds r hr)
   refine code_defC R.B F R.X N R.T R.hA R.hf R.hk ho E8 (by have:=R.room; lia) (pV vs _ hlv) (dH.mpr fun y hy=>yd _ (List.of_mem_zip hy).1) hnc (fun g L' cj lG cells FG F' N' Y B' X' T' l=>?_) zc Bo hk
   have R':cH K p az aL mg mb A base (env::av) (A.deeper (envOfC qual scope L' f cdv)) (envOfC qual scope L' f cdv) g L' d:=by
     refine⟨B',X',T',?_,rfl,hk,rfl,rfl,rfl,R.hh,j5 hk,?_⟩
     . exact ud R.hA
     . have:=R.room
       show A.depth+1+d<=_
       lia
   have cf:=Ht (names:=scope.names) (n:=L'+1) (lo:=L'+1) (acc:=[]) (bC _) (fun _ h=>nomatch h) .nil
   have above:∀p∈cells,L'<p.1:=fun p hp=>by
     have hm:=qP (f:=(·.1)) hp
     rw[Ib Y]at hm
     refine au (bZ.mp hm) fun q hq e=>?_
     have:=cf.1 q hq
     exact af e.symm this
   have Y6:∀p∈cells,∀q∈Rl++(ay++C.rest),p.1≠q.1:=fun p hp q hq e=>iY _ (jR (above p hp) (af e (l q hq)))
   have rows:=Gh (fz:=ay) (yF (kd:=kdOf scope) (xs:=xs) hv (c:=[]) (m:=fun _=>none) fun _=>rfl) Y
   have locs:=yE (kd:=kdOf scope) (xs:=xs) hv (ρ:=[]) (m:=fun _=>none) fun _ _ hx=>nomatch hx
   have Wx:At (cz C g L' (aZ (L'+1) scope.names [])) (o,sC (kdOf scope) (xs.zip ds) []) (bindLV (kdOf scope) (xs.zip ds) []) ay { heap:=cj,gens:=C.s₀.gens,drawn:=C.s₀.drawn,toks:=lG,os:=C.s₀.os }:=by
     refine⟨cj,lG,_,cells++Rl,rfl,F',?_,⟨?_,cf.2,cells,Rl,rfl,rows,fun p hp q hq=>Y6 p hp q (aH _ hq),rp⟩,fun p hp q hq=>?_,locs,fun _ h=>nomatch h⟩
     . rw[bB]; exact N'
     . exact af (cellsFrom_names scope.names (L'+1) 0 [] [] rfl) hnc
     . rcases bu.mp hp with hp|hp
       . exact Y6 p hp q (aJ _ hq)
       . exact ap p hp q hq
   obtain⟨c',kU,hb⟩:=Wf o ds r hr R' (by show A.units+3+8*d+64<cLine; lia)
   refine hb ay _ _ _ Wx fun aO aX s2 h2 v BN=>?_
   refine cp fun G' k'=>?_
   obtain⟨gY,fR,m₂,d8,rfl,kq,kj,mq,kO,z6,xy⟩:=h2
   obtain⟨_,_,Ra,Rb,rfl,_,_,mq⟩:=mq
   refine k' ?_
   exact⟨L',m₂,_,kq,kj,fun sH pB=>hq aO _ v s2 ⟨gY,fR,m,Rb,rfl,sH,fun p hp=>pB p (BD hp),mq,fun p hp=>kO p (aJ _ hp),lc.mono s2,rf⟩ BN⟩
end
section
set_option tactic.hygienic true
section
variable {g:aE}{L:Addr}{cs:List (Str×Addr)}{refs:List (Str×Value)}{X cG:Led}{o:O×Loc}
theorem TU(h:At (CT (eV C g L cs refs) X cG) o ρ fz s):At (eV (CT C X cG) g L cs refs) o ρ fz s:=by
 refine cp fun G' k'=>?_
 obtain⟨h',tk,m,R,rfl,F,N,rp,ap,lc,rf⟩:=h
 obtain⟨sb,nd,fF,rfl,ax,rp⟩:=rp
 obtain⟨n1,n2,Rc,d8,rfl,cr,ac,rp⟩:=rp
 refine k' ?_
 have pm:∀p,p∈Rc++(X++d8)->p∈X++(Rc++d8):=fun p hp=>by
   simp only[bu]at hp |-
   rcases hp with hp|hp|hp
   . exact .inr (.inl hp)
   . exact .inl hp
   . exact .inr (.inr hp)
 refine⟨h',tk,m,Rc++(X++d8),rfl,F,fun p hp=>N p ?_,⟨n1,n2,Rc,X++d8,rfl,cr,fun p hp q hq=>?_,sb,nd,d8,rfl,fun p hp q hq=>ax p hp q (aJ _ hq),rp⟩,fun p hp=>ap p (pm p hp),lc,rf⟩
 . rcases bu.mp hp with hp|hp
   . exact aH _ (pm p hp)
   . exact aJ _ hp
 . rcases bu.mp hq with hq|hq
   . exact fun e=>ax q hq p (aH _ hp) e.symm
   . exact ac p hp q hq
theorem wO(h:At (eV (CT C X cG) g L cs refs) o ρ fz s):At (CT (eV C g L cs refs) X cG) o ρ fz s:=by
 refine At.el h fun h' tk m R F N rp ap lc rf=>?_
 obtain⟨n1,n2,Rc,d8,rfl,cr,ac,rp⟩:=rp
 obtain⟨sb,nd,fF,rfl,ax,rp⟩:=rp
 have pm:∀p,p∈X++(Rc++fF)->p∈Rc++(X++fF):=fun p hp=>by
   simp only[bu]at hp |-
   rcases hp with hp|hp|hp
   . exact .inr (.inl hp)
   . exact .inl hp
   . exact .inr (.inr hp)
 refine⟨h',tk,m,X++(Rc++fF),rfl,F,fun p hp=>N p ?_,⟨sb,nd,Rc++fF,rfl,fun p hp q hq=>?_,n1,n2,Rc,fF,rfl,cr,fun p hp q hq=>ac p hp q (aJ _ hq),rp⟩,fun p hp=>ap p (pm p hp),lc,rf⟩
 . rcases bu.mp hp with hp|hp
   . exact aH _ (pm p hp)
   . exact aJ _ hp
 . rcases bu.mp hq with hq|hq
   . exact fun e=>ac q hq p (aH _ hp) e.symm
   . exact ax p hp q hq
end
section
variable {g:aE}{L:Addr}{cs:List (Str×Addr)}
theorem PC(hr:C.refs=[])(hk:env.scope.kind= .function){x:Str}(hx:env.kindOf x=some .local)(hl:env.locals=C.L){d:V}(h:At C o ρ fz s)(hv:VR fz d v){Q:Unit->ak->Prop}(hq:∀s',At C o ((x,d)::ρ) fz s'->Q () s'):wpAny (model ai w) A (storeName env x v) Q E s:=by
 refine At.el h fun h' tk m R F N rp ap lc rf=>?_
 refine qN hx (af hl F.ns) (fun h2 hn hs=>hq _ ?_) (af hk rfl)
 rw[hl]at hn hs
 exact⟨h2,tk+1,_,R,rfl,F.set hn hs,N.set hs,rp,ap,lc.set hv,fun p hp=>by rw[hr]at hp; exact nm hp⟩
noncomputable def aaN(r:O×Loc×Fl)(more:O->Loc->Prop)(o:O)(ρ:Loc):Fl->Prop
 | .next=>∃eF,sle eF ρ/\more o eF
 | .cont=>∃eF,sle eF ρ/\more o eF
 | .ret v=>r=(o,ρ,.ret v)
 | .brk=>False
 | .exc _=>False
noncomputable def rg(ai:cB)(w:World)(A:cy)(C:Cx O)(env:Env)(X:Nat->Led->ak->(Value->ak->Prop)->Prop)(g:aE)(L:Addr)(cs:List (Str×Addr))(x:Str)(body:List Stmt)(r:(O×Loc)×Loc×Fl):List V->O×Loc->Loc->Prop
 | [],o,ρ=>r=(o,ρ,.next)
 |d::ds,o,ρ=>∃o' ρ' fl,(∀Y cG,gy ai w A (cz (CT C Y cG) g L cs) env X o ((x,d)::ρ) body (o',ρ',fl))/\aaN r (rg ai w A C env X g L cs x body r ds) o' ρ' fl
theorem rg.stop{x:Str}{body:List Stmt}{r:(O×Loc)×Loc×Fl}{o:O×Loc}(hr:r=(o,ρ,.next)):rg ai w A C env X g L cs x body r [] o ρ:=hr
theorem rg.more{x:Str}{body:List Stmt}{r:(O×Loc)×Loc×Fl}{d:V}{ds:List V}{o o':O×Loc}{ρ ρ' eF:Loc}{fl:Fl}(hb:∀Y cG,gy ai w A (cz (CT C Y cG) g L cs) env X o ((x,d)::ρ) body (o',ρ',fl))(hf:fl= .next\/fl= .cont)(hs:sle eF ρ')(hr:rg ai w A C env X g L cs x body r ds o' eF):
   rg ai w A C env X g L cs x body r (d::ds) o ρ:=⟨o',ρ',fl,hb,hf.elim (fun e=>af e ⟨eF,hs,hr⟩) fun e=>af e ⟨eF,hs,hr⟩⟩
theorem rg.ret{x:Str}{body:List Stmt}{r:(O×Loc)×Loc×Fl}{d:V}{ds:List V}{o o':O×Loc}{ρ ρ':Loc}{v:V}(hb:∀Y cG,gy ai w A (cz (CT C Y cG) g L cs) env X o ((x,d)::ρ) body (o',ρ',.ret v))(hr:r=(o',ρ',.ret v)):rg ai w A C env X g L cs x body r (d::ds) o ρ:=⟨o',ρ',.ret v,hb,hr⟩
inductive aaP(ai:cB)(w:World)(A:cy)(C:Cx O)(env:Env)(X:Nat->Led->ak->(Value->ak->Prop)->Prop)(g:aE)(L:Addr)(cs:List (Str×Addr))(x:Str)(body:List Stmt)(r:(O×Loc)×Loc×Fl)(fz:Led)(I:Addr)(ds:List V)(St:Nat->aE->Prop)(k:Nat)(s:ak):Prop
 |mk (i:Nat) {o:O×Loc} {ρ:Loc} {aT:Led} {oI:Obj} (sb:Sub fz aT) (h:At (CT (cz C g L cs) [(I,oI)] fz) o ρ aT s) (st:St i s.heap) (hf:rg ai w A C env X g L cs x body r (ds.drop i) o ρ) (hi:i<=ds.length) (hk:k=ds.length+1-i)
theorem Eo{o:O×Loc}{x:Str}(hk:env.scope.kind= .function)(hx:env.kindOf x=some .local)(hl:env.locals=L)(hs:EJ iter=true)(hit:qi ai w A (cz C g L cs) o env ρ iter ds)(hf:rg ai w A C env X g L cs x body r ds o ρ):cK ai w A (cz C g L cs) env X o ρ (.For (.Name x px) iter body [] pos) r:=by
 intro fz s Q E h hq
 refine wpAny_For (hit fz s _ _ h fun ay s₁ ob St sb cj rK it st=>?_) (AR hs)
 have hA:At (CT (cz C g L cs) [(s₁.heap.objs.size,ob)] ay) o ρ ay { s₁ with heap:=s₁.heap.push ob }:=by
   refine cj.opn (fun _ h=>h) (by simp) (fun b o e=>Heap.get?_push_of_some _ e) fun p hp=>?_
   refine af (aY.mp hp) ?_
   refine⟨?_,Heap.get?_push_size _ rK⟩
   cases e:s₁.heap.get? s₁.heap.objs.size with
   |none=>rfl
   |some o'=>exact absurd (ek e) (iY _)
 refine codeAny_forLoop (aaP ai w A C env X g L cs x body r ay s₁.heap.objs.size ds St) ?_ (ds.length+1) (.mk 0 (fun _ h=>h) hA st hf (dz _) rfl)
 intro k s' hI
 obtain⟨i,K8,h',fE,GY,hi,MV⟩:=hI
 rename_i nv jm aT oI
 by_cases jl:i<ds.length
 . refine it.item i s' _ _ jl fE fun v gY fR hv jX m6=>?_
   obtain⟨zL,e1⟩:=it.live _ _ jX
   have G0:=h'.HU (pre:=[]) (post:=[]) (tk:=fR) m6 e1
   have eD:ds.getD i .none=ds[i]:=by simp[gn,jl]
   rw[eD]at hv
   refine wpAny_assign_Name (PC (C:=CT (cz C g L cs) [(s₁.heap.objs.size,zL)] ay) rfl hk hx hl G0 (hv.mono G0.SP.1) fun dF kZ=>?_)
   have reI:∀ {o:O×Loc} {ρ:Loc} {o8:Led} {lX:ak},At (CT (cz C g L cs) [(s₁.heap.objs.size,zL)] ay) o ρ o8 lX->St (i+1) lX.heap:=fun mQ=>by
     refine it.frame _ _ _ jX (fun ob eo=>?_) fun p hp=>mQ.out.row (mQ.SP.1 p hp)
     obtain rfl:=sj (e1.symm.trans eo)
     exact(mQ.qT (.head _)).1
   rw[List.drop_eq_getElem_cons jl]at GY
   refine yV GY fun o' ρ' fl hb ho=>?_
   refine hb _ _ aT dF _ _ (TU kZ) fun De Kw s5 qW=>?_
   have qW:=wO qW
   have go:(∃eF,sle eF ρ'/\rg ai w A C env X g L cs x body r (ds.drop (i+1)) o' eF)->∃m,m<k/\aaP ai w A C env X g L cs x body r ay s₁.heap.objs.size ds St m Kw:=fun t=>au t fun eF I5 hr=>⟨ds.length+1-(i+1),LQ jl MV,.mk (i+1) (fun p hp=>s5 p (K8 p hp)) (qW.weak I5) (reI qW) hr jl rfl⟩
   cases fl with
   |next=>exact go ho
   |cont=>exact go ho
   |brk=>exact ho.elim
   |exc=>exact ho.elim
   | ret v=>
     intro v hv
     rw[show r=_ from ho]at hq
     exact hq De Kw (fun p hp=>s5 p (K8 p (sb p hp))) qW.out v hv
 . obtain rfl:i=ds.length:=Nat.le_antisymm hi (Nat.not_lt.mp jl)
   rw[qf]at GY
   refine it.done s' _ _ fE fun gY fR m6=>fX ?_
   have kZ:=h'.Ym (X':=[]) (h':=gY) (tk:=fR) (jP _) (fun b o hb e=>m6 b o (hb _ (.head _)) e) fun p hp=>nm hp
   rw[show r=_ from GY]at hq
   exact hq aT _ (fun p hp=>K8 p (sb p hp)) kZ.out
end
end
noncomputable abbrev wD(k:Nat)(nm:String)(fa cd:Nat)(L:Addr):Env:=envOfC nm (aF (aW k)) L fa (.ref cd)
noncomputable abbrev IA(O:Type)(k:Nat)(cells:List Str)(cP:List (Str×(List V->Option (Bool×V))))(lv:Nat):pD (O×Loc):=DR O (locs (aF (aW k))) cells cP lv (aF (aW k))
section
variable {P:aD}{g:aE}{L:Addr}
theorem Gg(R:cH (eG P) p az aL mg mb A₀ base av A env g L d)(hu:A.units+8*d+64<cLine)(hc:∀y∈cP,mP ai w (eG P) p az aL mg mb y.1 d y.2):DZ ai w (eG P) p az aL mg mb d cP A g L:=
 ⟨⟨_,_,_,_,R⟩,hu,fun y hy=>nY (hc y hy) R hu,by kernel_rfl⟩
end
noncomputable def Y5{β:Type}(x y:Bool)(k:Bool->β)(rest:β):β:=bif x then bif y then k true else rest else rest
theorem A7{β:Type}(x y:Bool)(a b:β):Y5 x y (fun _=>a) b=bif x&&y then a else b:=by cases x <;> cases y <;> rfl
noncomputable def g9(aa:Bool)(marks sign:Str):Bool:=
 bif aG marks sign||((!strLt sign "a"&& !strLt "z" sign)||((!strLt sign "A"&& !strLt "Z" sign)||((!strLt sign "0"&& !strLt "9" sign)||bw sign "_")))then !aG marks sign else
   bif aa&&(!strLt sign "À"&& !strLt "ÿ" sign)then !aG "×÷" sign else !bw marks ""&&aG "~-./*?=" sign
theorem Fq(O:Type)(o:O×Loc)(L:Addr)(sign marks:Str)(aa:Bool):d7 bE (IA O 24 [] [] 0) (wD 24 "_law_cheap" 754 753 L) none 30 o [("marks",.str marks),("posix",.bool aa),("sign",.str sign)] (aC (aW 24)) (fun o _ fl=>some (o,fl))=
 bif aG marks sign then some (o,.ret (.bool !aG marks sign))else
   Y5 (!strLt sign "a") (!strLt "z" sign) (fun _=>some (o,.ret (.bool !aG marks sign))) (Y5 (!strLt sign "A") (!strLt "Z" sign) (fun _=>some (o,.ret (.bool !aG marks sign))) (Y5 (!strLt sign "0") (!strLt "9" sign) (fun _=>some (o,.ret (.bool !aG marks sign)))
     (bif bw sign "_" then some (o,.ret (.bool !aG marks sign))else
       bif aa then Y5 (!strLt sign "À") (!strLt "ÿ" sign) (fun _=>some (o,.ret (.bool !aG "×÷" sign))) (bif !bw marks "" then some (o,.ret (.bool (aG "~-./*?=" sign)))else some (o,.ret (.bool false)))else(bif !bw marks "" then some (o,.ret (.bool (aG "~-./*?=" sign)))else some (o,.ret (.bool false)))))):=by kernel_rfl
theorem Ft{β:Type}(m a1 a2 a3 u p b c n1 n2 n3:Bool)(k:Bool->β):(bif m then k n1 else bif a1 then k n1 else bif a2 then k n1 else bif a3 then k n1 else bif u then k n1 else bif p then bif b then k n2 else bif !c then k n3 else k false else bif !c then k n3 else k false)=
   k (bif m||(a1||(a2||(a3||u)))then n1 else bif p&&b then n2 else !c&&n3):=by
 cases m with
 |true=>rfl
 | false =>cases a1 with
   |true=>rfl
   | false=>cases a2 with
     |true=>rfl
     | false=>cases a3 with
       |true=>rfl
       | false=>cases u with
         |true=>rfl
         |false=>cases p <;> cases b <;> cases c <;> rfl
theorem Jj(O:Type)(o:O×Loc)(L:Addr)(sign marks:Str)(aa:Bool):d7 bE (IA O 24 [] [] 0) (wD 24 "_law_cheap" 754 753 L) none 30 o [("marks",.str marks),("posix",.bool aa),("sign",.str sign)] (aC (aW 24)) (fun o _ fl=>some (o,fl))=
   some (o,.ret (.bool (g9 aa marks sign))):=by
 rw[Fq,A7,A7,A7,A7]
 exact Ft _ _ _ _ _ _ _ _ _ _ _ fun b=>some (o,Fl.ret (.bool b))
noncomputable def Fv(l:List V):Option (Bool×V):=opt (Xd l) (fun q=>some (true,.bool (g9 q.2.1 q.2.2 q.1))) none
section
variable {P:aD}
theorem yb{k:Nat}{nm:String}{fa cd:Nat}{cells:List Str}{lv:Nat}{base g:aE}{L:Addr}(R:cH (eG P) p az aL mg mb A₀ base av A (wD k nm fa cd L) g L d)(hu:A.units+8*d+64<cLine)(hc:∀y∈cP,mP ai w (eG P) p az aL mg mb y.1 d y.2)(H:Xj (wD k nm fa cd L) (locs (aF (aW k))) cells (wD k nm fa cd L).cells):
   cV ai w A (cz C g L (aZ (L+1) (aF (aW k)).names [])) (wD k nm fa cd L) (IA O k cells cP lv) (fun _ _ _ _=>False) 0:=
 yC (yQ:=C) (refs:=[]) R (Gg R hu hc) H (fun _ h=>by cases h)
theorem qC{k:Nat}{nm:String}{fa cd:Nat}{L:Addr}(h:((aF (aW k)).names.all fun y=>y.2 != .local||(aF (aW k)).names.lookup y.1==some .local)=true):∀x∈locs (aF (aW k)),(wD k nm fa cd L).kindOf x=some .local:=fun x hx=>by
 unfold locs at hx
 refine au (bZ.mp hx) fun y hy iU=>?_
 subst iU
 refine bx (mL.mp hy) fun h1 h2=>?_
 have h3:=dH.mp h y h1
 rw[eq_of_beq h2]at h3
 have h4:((aF (aW k)).names.lookup y.1==some .local)=true:=h3
 exact eq_of_beq h4
theorem yv(d:Nat):mP ai w (eG P) p az aL mg mb "_law_cheap" (d+1) Fv:=by
 refine nL (f:=754) (name:="_law_cheap") (dV:=.none) (kV:=.none) (doc:=.none) (pm:=.str "law_in0035_01" 1142) (an:=none) (ct:=.none) (oc:=.type "function") (od:=none) (osl:= #[]) (qual:="_law_cheap") (scope:=aF (aW 24)) (params:=nU (aW 24)) (body:=aC (aW 24)) (cdv:=.ref 753) (xs:=["sign","posix","marks"]) (by kernel_rfl) (by decide) (by kernel_rfl) (by kernel_rfl)
   (fun vs s hl=>?_) (by decide +kernel) (by decide +kernel) (by kernel_rfl) (by kernel_rfl) (by kernel_rfl) (fun ds r h=>?_) (fun {O C A₀ base g av A L} o ds r h R hu=>?_)
 . refine Ea (QN hl) fun a b c jU=>?_
   subst jU
   exact iN (by kernel_rfl)
 . refine au (aq h) fun q h1 _=>?_
   refine af (wQ h1) ?_; rfl
 . refine au (aq h) fun q h1 h=>?_
   refine bx (cR (sj h)) fun _ e=>?_
   refine af (wQ h1) (af e.symm ?_)
   have IK:=yb (ai:=ai) (w:=w) (C:=C) (lv:=0) (cP:=[]) (cells:=[]) R hu (fun y hy=>by cases hy) ⟨qC (by decide +kernel),fun _ h=>by cases h⟩
   refine cE (Sn IK (Jj O (o,[]) L q.1 q.2.2 q.2.1)) fun ρ' hb=>?_
   exact⟨_,ρ',hb⟩
end
noncomputable def Sh(l:List V):Option (Bool×V):=opt (aI l) (fun n=>some (decide (0<=n)&&decide (n<=1114111),.str (S [n.toNat]))) none
noncomputable def iH:List Nat:=[39,34,92,32,9,13,10,35,120,97,55,95,40,41,59,60,62,124,38,45,126,61,43,64,233,247,160,120]
noncomputable def rm(x:Int):List Nat:=if x.fmod 32<28 then [iH.getD (x.fmod 32).toNat 0]else if x.fmod 32=28 then []else
 [((if(x.fdiv 32).fmod 1112064<55296 then(x.fdiv 32).fmod 1112064 else(x.fdiv 32).fmod 1112064+2048)).toNat]
theorem HZ(O:Type)(o:O×Loc)(L:Addr)(x:Int):d7 bE (IA O 21 [] [("chr",Sh)] 0) (wD 21 "_law_sign" 733 732 L) none 30 o [("x",.int x)] (aC (aW 21)) (fun o _ fl=>some (o,fl))=
 bif decide (x.fmod 32<28)then(bif strOk (S iH)&&decide (-((S iH).length:Int)<=x.fmod 32)&&decide (x.fmod 32<(S iH).length)then some (o,.ret (.str (dW (S iH) (x.fmod 32))))else none)else
   bif x.fmod 32==28 then some (o,.ret (.str (S [])))else
     bif decide ((x.fdiv 32).fmod 1112064<55296)then(bif decide (0<=(x.fdiv 32).fmod 1112064)&&decide ((x.fdiv 32).fmod 1112064<=1114111)then some (o,.ret (.str (S [((x.fdiv 32).fmod 1112064).toNat])))else none)else
       (bif decide (0<=(x.fdiv 32).fmod 1112064+2048)&&decide ((x.fdiv 32).fmod 1112064+2048<=1114111)then some (o,.ret (.str (S [((x.fdiv 32).fmod 1112064+2048).toNat])))else none):=by kernel_rfl
theorem KR(O:Type)(o:O×Loc)(L:Addr)(x:Int):d7 bE (IA O 21 [] [("chr",Sh)] 0) (wD 21 "_law_sign" 733 732 L) none 30 o [("x",.int x)] (aC (aW 21)) (fun o _ fl=>some (o,fl))=
   some (o,.ret (.str (S (rm x)))):=by
 rw[HZ]
 have m1:0<=x.fmod 32:=Int.fmod_nonneg_of_pos x (by decide)
 have c1:0<=(x.fdiv 32).fmod 1112064:=Int.fmod_nonneg_of_pos _ (by decide)
 have c2:(x.fdiv 32).fmod 1112064<1112064:=Int.fmod_lt_of_pos _ (by decide)
 unfold rm
 obtain⟨k,hk⟩:∃k:Nat,x.fmod 32=k:=⟨(x.fmod 32).toNat,by lia⟩
 refine af hk ?_
 generalize (x.fdiv 32).fmod 1112064=c at c1 c2
 by_cases h1:(k:Int)<28
 . rw[decide_eq_true h1,if_pos h1]
   have e4:k<iH.length:=by show k<28; lia
   have h2:(strOk (S iH)&&decide (-((S iH).length:Int)<=(k:Int))&&decide ((k:Int)<(S iH).length))=true:=by
     rw[eu]
     simp only[aM,decide_eq_true_eq]
     have e:(iH.length:Int)=28:=rfl
     exact⟨⟨by decide,by refine af e ?_; lia⟩,by refine af e ?_; exact h1⟩
   refine(ct h2).trans ?_
   refine af (Bm e4) ?_
   simp[gn,e4]
 . refine af (decide_eq_false h1) (af (if_neg h1) ?_)
   by_cases h2:(k:Int)=28
   . refine af (if_pos h2) (af h2 ?_)
     rfl
   . refine af (if_neg h2) ?_
     refine(cf (beq_false_of_ne h2)).trans ?_
     by_cases h3:c<55296
     . refine af (if_pos h3) ?_
       refine(ct (decide_eq_true h3)).trans (ct ?_)
       exact af (decide_eq_true c1) (af (decide_eq_true (by lia)) rfl)
     . refine af (if_neg h3) ?_
       refine(cf (decide_eq_false h3)).trans (ct ?_)
       exact af (decide_eq_true (by lia)) (af (decide_eq_true (by lia)) rfl)
noncomputable def Cb(l:List V):Option (Bool×V):=opt (aI l) (fun x=>some (true,.str (S (rm x)))) none
section
variable {P:aD}
theorem NL(d:Nat):mP ai w (eG P) p az aL mg mb "chr" d Sh:=by
 intro O C A₀ base av A env jj o ρ fz s R _ lk h mD args pos q ds r hr hs nS Q E hw
 refine gJ rfl (mJ R lk h (v:=.builtin "chr") (by kernel_rfl) (by kernel_rfl) (by decide) mD (by decide) ?_)
 cases args with
 |nil=>exact absurd rfl nS
 | cons e rest=>
   rw[fQ,aM]at hs
   refine callWith_builtin1 (fD hw (fun vs s₁ x=>?_) fun _ _ x=>x) (cU hs.1) (gS pos hs.2)
   refine wR x fun ay sb cj hv hq=>?_
   refine au (aq hr) fun n h1 hr=>?_
   refine bx (cR (sj hr)) fun hx e=>?_
   rw[HD h1]at hv
   rw[<-e]at hq
   refine Sg hv fun v xv=>?_
   refine Xq xv fun t=>?_
   simp only[aM,decide_eq_true_eq]at hx
   exact chr_of_range hx.1 hx.2 (hq ay _ _ (fun _ h=>h) (cj.toks _) (.str _ _))
theorem H6(d:Nat):mP ai w (eG P) p az aL mg mb "_law_sign" (d+1) Cb:=by
 refine nL (f:=733) (name:="_law_sign") (dV:=.none) (kV:=.none) (doc:=.none) (pm:=.str "law_in0035_01" 1142) (an:=none) (ct:=.none) (oc:=.type "function") (od:=none) (osl:= #[]) (qual:="_law_sign") (scope:=aF (aW 21)) (params:=nU (aW 21)) (body:=aC (aW 21)) (cdv:=.ref 732) (xs:=["x"]) (by kernel_rfl) (by decide) (by kernel_rfl) (by kernel_rfl)
   (fun vs s hl=>?_) (by decide +kernel) (by decide +kernel) (by kernel_rfl) (by kernel_rfl) (by kernel_rfl) (fun ds r h=>?_) (fun {O C A₀ base g av A L} o ds r h R hu=>?_)
 . refine cE (List.length_eq_one_iff.mp hl) fun a fj=>?_
   subst fj
   exact iN (by kernel_rfl)
 . refine au (aq h) fun q h1 _=>?_
   exact af (HD h1) rfl
 . refine au (aq h) fun q h1 h=>?_
   refine bx (cR (sj h)) fun _ e=>?_
   refine af (HD h1) (af e.symm ?_)
   have IK:=yb (ai:=ai) (w:=w) (C:=C) (lv:=0) (cP:=[("chr",Sh)]) (cells:=[]) R hu (wK (NL d) TL) ⟨qC (by decide +kernel),fun _ h=>by cases h⟩
   refine cE (Sn IK (KR O (o,[]) L q)) fun ρ' hb=>?_
   exact⟨_,ρ',hb⟩
end
noncomputable def Mh(l:List V):Option (Bool×V):=opt (one l) (fun d=>opt (strOf d) (fun s=>some (strOk s,.int s.length)) (opt (listOf d) (fun ds=>some (iG ds.length,.int (ds.length:Int))) none)) none
noncomputable def eH:Option Str->V
 |none=>.none
 |some t=>.str t
noncomputable def cZ(b:Option Str):List Str->Option Str
 | []=>b
 |t::r=>cZ (opt b (fun y=>cond (decide ((t.length:Int)<y.length)) (some t) (some y)) (some t)) r
noncomputable def kX(l:List V):Option (Bool×V):=opt (one l) (fun d=>opt (listOf d) (fun ds=>opt (lB ds) (fun ys=>some (ys.all strOk&&iG ds.length,eH (cZ none ys))) none) none) none
section
variable {P:aD}
theorem DT{I:pD O}{sa:Addr}(K:cV ai w A C env I X sa){n:Nat}{b:List Stmt}{r:O×Loc×Fl}(h:d7 bE I env none n o ρ b (fun o ρ fl=>some (o,ρ,fl))=some r):gy ai w A C env X o ρ b r:=by
 refine au ((tY K n).2 _ _ _ _ h) fun q hb h=>?_
 obtain rfl:=sj h; exact hb
theorem stK{I:pD O}{sa:Addr}(K:cV ai w A C env I X sa){n:Nat}{st:Stmt}{r:O×Loc×Fl}(h:cu bE I env none n o ρ st (fun o ρ fl=>some (o,ρ,fl))=some r):cK ai w A C env X o ρ st r:=by
 refine au ((tY K n).1 _ _ _ _ h) fun q hb h=>?_
 obtain rfl:=sj h; exact hb
theorem qv(d:Nat):mP ai w (eG P) p az aL mg mb "len" d Mh:=by
 intro O C A₀ base av A env jj o ρ fz s R _ lk h mD args pos q ds r hr hs nS Q E hw
 refine gJ rfl (mJ R lk h (v:=.builtin "len") (by kernel_rfl) (by kernel_rfl) (by decide) mD (by decide) ?_)
 cases args with
 |nil=>exact absurd rfl nS
 | cons e rest=>
   rw[fQ,aM]at hs
   refine callWith_builtin1 (fD hw (fun vs s₁ x=>?_) fun _ _ x=>x) (cU hs.1) (gS pos hs.2)
   refine wR x fun ay sb cj hv hq=>?_
   refine au (aq hr) fun d h1 hr=>?_
   rw[gF h1]at hv
   refine Sg hv fun v xv=>?_
   rcases fT hr with ⟨x,h2,hr⟩|⟨_,hr⟩
   . refine bx (cR (sj hr)) fun hx e=>?_
     rw[<-e]at hq
     rw[cS h2]at xv
     refine FQ xv fun t=>?_
     have:=lY hx
     exact len_str (by lia) (hq ay _ _ (fun _ h=>h) (cj.toks _) (.int _ _))
   . refine au (aq hr) fun xs h2 hr=>?_
     refine bx (cR (sj hr)) fun hx e=>?_
     rw[<-e]at hq
     rw[iK h2]at xv
     refine oj (jo xv) fun a vs n jU hm XC=>?_
     subst jU
     have hlen:=XC.length
     have hz:=oi hx
     refine len_list ⟨_,cj.row hm,rfl,n,rfl⟩ (by show(vs.length:Int)<_; lia) ?_
     have e:((vs.toArray.size:Nat):Int)=(xs.length:Int):=congrArg _ hlen
     exact af e (hq ay _ _ (fun _ h=>h) (cj.toks _) (.int _ _))
end
noncomputable abbrev sm(o:O×Loc)(ρ:Loc)(fl:Fl):Option ((O×Loc)×Loc×Fl):=some (o,ρ,fl)
noncomputable abbrev YH:List (Str×(List V->Option (Bool×V))):=[("len",Mh)]
theorem PB(O:Type)(o:O×Loc)(L:Addr)(T:V):cu bE (IA O 23 [] YH 0) (wD 23 "_law_short" 747 746 L) none 30 o [("texts",T)] (gK (aC (aW 23)) 0) (fun o ρ fl=>some (o,ρ,fl))=sm o [("best",.none),("texts",T)] .next:=by kernel_rfl
theorem Pz(O:Type)(o:O×Loc)(L:Addr)(T:V)(t:Str):d7 bE (IA O 23 [] YH 0) (wD 23 "_law_short" 747 746 L) none 30 o [("text",.str t),("best",.none),("texts",T)] (aC (gK (aC (aW 23)) 1)) (fun o ρ fl=>some (o,ρ,fl))=
 sm o [("best",.str t),("text",.str t),("best",.none),("texts",T)] .next:=by kernel_rfl
theorem Gb(O:Type)(o:O×Loc)(L:Addr)(T:V)(t y:Str):d7 bE (IA O 23 [] YH 0) (wD 23 "_law_short" 747 746 L) none 30 o [("text",.str t),("best",.str y),("texts",T)] (aC (gK (aC (aW 23)) 1)) (fun o ρ fl=>some (o,ρ,fl))=
 bif strOk t then bif strOk y then bif decide ((t.length:Int)<y.length)then sm o [("best",.str t),("text",.str t),("best",.str y),("texts",T)] .next else sm o [("text",.str t),("best",.str y),("texts",T)] .next else none else none:=by kernel_rfl
theorem PA(O:Type)(o:O×Loc)(L:Addr)(T b:V):d7 bE (IA O 23 [] YH 0) (wD 23 "_law_short" 747 746 L) none 30 o [("best",b),("texts",T)] ((aC (aW 23)).drop 2) (fun o ρ fl=>some (o,ρ,fl))=sm o [("best",b),("texts",T)] (.ret b):=by kernel_rfl
theorem H9:aC (aW 23)=gK (aC (aW 23)) 0:: .For (.Name "text" (mZ (gO (gK (aC (aW 23)) 1)))) (cJ (gK (aC (aW 23)) 1)) (aC (gK (aC (aW 23)) 1)) [] (qZ (gK (aC (aW 23)) 1))::(aC (aW 23)).drop 2:=by kernel_rfl
section
variable {P:aD}{base g:aE}{L:Addr}
theorem qn(C:Cx O)(R:cH (eG P) p az aL mg mb A₀ base av A (wD 23 "_law_short" 747 746 L) g L d)(hu:A.units+8*d+64<cLine):
   cV ai w A (cz C g L (aZ (L+1) (aF (aW 23)).names [])) (wD 23 "_law_short" 747 746 L) (IA O 23 [] YH 0) (fun _ _ _ _=>False) 0:=
 yb (cells:=[]) R hu (wK (qv d) TL) ⟨qC (by decide +kernel),fun _ h=>by cases h⟩
theorem mX(R:cH (eG P) p az aL mg mb A₀ base av A (wD 23 "_law_short" 747 746 L) g L d)(hu:A.units+8*d+64<cLine)(o:O×Loc)(T:V):∀(ys:List Str) (b:Option Str),ys.all strOk=true->(∀y,b=some y->strOk y=true)->
   rg ai w A C (wD 23 "_law_short" 747 746 L) (fun _ _ _ _=>False) g L (aZ (L+1) (aF (aW 23)).names []) "text" (aC (gK (aC (aW 23)) 1)) (o,[("best",eH (cZ b ys)),("texts",T)],.next) (ys.map .str) o [("best",eH b),("texts",T)]
 | [],b,_,_=>.stop rfl
 | t ::ys,b,h,hb=>by
   rw[fQ,aM]at h
   refine af eZ ?_
   cases b with
   |none=>exact .more (eF:=[("best",.str t),("texts",T)]) (fun Y cG=>DT (qn (CT C Y cG) R hu) (Pz O o L T t)) (.inl rfl) ⟨rfl,rfl,trivial⟩ (mX R hu o T ys (some t) h.2 fun y e=>by refine af ((sj e).symm) ?_; exact h.1)
   | some y=>
     have Oz:=hb y rfl
     cases hc:decide ((t.length:Int)<y.length)with
     | true=>
       have e:cZ (some y) (t::ys)=cZ (some t) ys:=by show cZ (cond _ _ _) ys=_; exact af hc rfl
       refine af e ?_
       exact .more (eF:=[("best",.str t),("texts",T)]) (fun Y cG=>DT (qn (CT C Y cG) R hu) ((Gb O o L T t y).trans ((ct h.1).trans ((ct Oz).trans (ct hc))))) (.inl rfl) ⟨rfl,rfl,trivial⟩ (mX R hu o T ys (some t) h.2 fun y e=>by refine af ((sj e).symm) ?_; exact h.1)
     | false=>
       have e:cZ (some y) (t::ys)=cZ (some y) ys:=by show cZ (cond _ _ _) ys=_; exact af hc rfl
       exact af e (.more (eF:=[("best",.str y),("texts",T)]) (fun Y cG=>DT (qn (CT C Y cG) R hu) ((Gb O o L T t y).trans ((ct h.1).trans ((ct Oz).trans (cf hc))))) (.inl rfl) ⟨rfl,rfl,trivial⟩ (mX R hu o T ys (some y) h.2 hb))
theorem sD:∀ {ds:List V} {ys:List Str},lB ds=some ys->ds=ys.map .str
 | [],ys,h=>by obtain rfl:=sj h; rfl
 | d::ds,ys,h=>by
   refine au (aq h) fun y h1 h=>?_
   refine au (aq h) fun zs h2 h=>?_
   obtain rfl:=sj h
   exact af (cS h1) (af (sD h2) rfl)
theorem xo(d:Nat):mP ai w (eG P) p az aL mg mb "_law_short" (d+1) kX:=by
 refine nL (f:=747) (name:="_law_short") (dV:=.none) (kV:=.none) (doc:=.none) (pm:=.str "law_in0035_01" 1142) (an:=none) (ct:=.none) (oc:=.type "function") (od:=none) (osl:= #[]) (qual:="_law_short") (scope:=aF (aW 23)) (params:=nU (aW 23)) (body:=aC (aW 23)) (cdv:=.ref 746) (xs:=["texts"]) (by kernel_rfl) (by decide) (by kernel_rfl) (by kernel_rfl)
   (fun vs s hl=>?_) (by decide +kernel) (by decide +kernel) (by kernel_rfl) (by kernel_rfl) (by kernel_rfl) (fun ds r h=>?_) (fun {O C A₀ base g av A L} o ds r h R hu=>?_)
 . refine cE (List.length_eq_one_iff.mp hl) fun a fj=>?_
   subst fj
   exact iN (by kernel_rfl)
 . refine cp fun G' k'=>?_
   refine au (aq h) fun q h1 _=>?_
   refine k' ?_
   exact af (gF h1) rfl
 . refine cp fun G' k'=>?_
   refine au (aq h) fun q h1 h=>?_
   refine au (aq h) fun vs h2 h=>?_
   refine au (aq h) fun ys h3 h=>?_
   refine bx (cR (sj h)) fun hz e=>?_
   refine k' ?_
   rw[aM]at hz
   refine af (gF h1) (af (iK h2) (af (sD h3) (af e.symm ?_)))
   have IK:=qn C R hu (ai:=ai) (w:=w)
   have it:qi ai w A (cz C g L (aZ (L+1) (aF (aW 23)).names [])) (o,[]) (wD 23 "_law_short" 747 746 L) [("best",.none),("texts",.list (ys.map .str))] (cJ (gK (aC (aW 23)) 1)) (ys.map .str):=
     tP R.hh (iB (IK.fh (o,[])).wk (by kernel_rfl))
   have h2:=Eo (px:=mZ (gO (gK (aC (aW 23)) 1))) (pos:=qZ (gK (aC (aW 23)) 1)) (X:=fun _ _ _ _=>False) (x:="text") R.hk (by kernel_rfl) R.hl (by kernel_rfl) it (mX R hu (o,[]) (.list (ys.map .str)) ys none hz.1 fun _=>nn)
   exact af H9 ⟨_,_,aQ (stK IK (PB O (o,[]) L _)) (aQ h2 (DT IK (PA O (o,[]) L _ _)))⟩
end
section
variable {g:aE}{L:Addr}{cs:List (Str×Addr)}
theorem Iw{x y:Str}{d v:V}(h:((x,d)::ρ).lookup y=some v):(y=x/\v=d)\/(y≠x/\ρ.lookup y=some v):=by
 rw[bW]at h
 by_cases e:y=x
 . rw[beq_iff_eq.mpr e]at h
   exact .inl ⟨e,(sj h).symm⟩
 . rw[beq_false_of_ne e]at h
   exact .inr ⟨e,h⟩
theorem Yj{o:O×Loc}{x:Str}{a:Addr}{d:V}(h:At (eV C g L cs [(x,.ref a)]) o ρ fz s)(hv:VR fz d (.ref a)):At (cz C g L cs) o ((x,d)::ρ) fz s:=by
 obtain⟨h',tk,m,R,e8,F,N,rp,ap,lc,rf⟩:=h
 refine⟨h',tk,m,R,e8,F,N,rp,ap,fun y v hy=>?_,fun q hq=>nomatch hq⟩
 rcases Iw hy with ⟨rfl,rfl⟩|⟨_,hy⟩
 . exact⟨.ref a,rf _ (.head _),hv⟩
 . exact lc y v hy
theorem RE{o:O×Loc}{x:Str}{d:V}(hk:env.scope.kind= .function)(hi:interactive env=false)(hx:env.kindOf x=some .local)(hb:(x==("__debug__":Str))=false)(hl:env.locals=L)(pU:ρ.lookup x=none)(hs:notStar arg=true)(aae:(p5.endLine==p6.line)=true)(he:n7 ai w A (cz C g L cs) o env ρ es ds)(hz:ds.length<=1000)(ht:∀Y cG a,gi ai w A (eV (CT C Y cG) g L cs [(x,.ref a)]) o env ρ test true)(ha:∀Y cG a,bq ai w A (eV (CT C Y cG) g L cs [(x,.ref a)]) o env ρ arg d)(hr:gy ai w A (cz C g L cs) env X o ((x,.list (ds++[d]))::ρ) rest r):
   gy ai w A (cz C g L cs) env X o ρ (.Assign [.Name x p1] (.List es p2) p3:: .If test [.Expr (.Call (.Attribute (.Name x p4) "append" p5) [arg] [] p6) p7] [] p8::rest) r:=by
 intro fz s Q E h hq
 refine bS (jJ (wpAny_List (he p2 fz s _ E h fun ay s₁ vs s1 h1 x1=>⟨?_,?_⟩)) rfl)
 . refine af x1.length (af dh ?_); lia
 have fresh:s₁.heap.get? s₁.heap.objs.size=none:=by
   cases e:s₁.heap.get? s₁.heap.objs.size with
   |none=>rfl
   |some o'=>exact absurd (ek e) (iY _)
 generalize hav:s₁.heap.objs.size=a at fresh
 have E6:(s₁.heap.push ({ cls:=.type "list",data:=.seq vs.toArray }:Obj)).get? a=some { cls:=.type "list",data:=.seq vs.toArray }:=by refine af hav.symm ?_; exact Heap.get?_push_size _ rfl
 have h2:At (CT (cz C g L cs) [(a,({ cls:=.type "list",data:=.seq vs.toArray }:Obj))] ay) o ρ ay { s₁ with heap:=s₁.heap.push { cls:=.type "list",data:=.seq vs.toArray } }:=by
   refine h1.opn (fun _ h=>h) (by simp) (fun b o e=>Heap.get?_push_of_some _ e) fun p hp=>?_
   exact af (aY.mp hp) ⟨fresh,E6⟩
 have h3:=TU h2
 obtain⟨h',tk,m,R,e0,F,N,rp,ap,lc,rf⟩:=h3
 refine af e0 ?_
 refine qN hx (af hl F.ns) (fun gY hn Ab=>?_) (af hk rfl)
 rw[hl]at hn Ab
 have h4:At (eV (CT C [(a,({ cls:=.type "list",data:=.seq vs.toArray }:Obj))] ay) g L cs [(x,.ref a)]) o ρ ay { heap:=gY,gens:=C.s₀.gens,drawn:=C.s₀.drawn,toks:=tk+1,os:=C.s₀.os }:=by
   refine⟨gY,tk+1,_,R,rfl,F.set hn Ab,N.set Ab,rp,ap,fun y v hy=>?_,fun q hq=>?_⟩
   . refine au (lc y v hy) fun v' e1 e2=>?_
     exact⟨v',(if_neg fun e=>by rw[e,pU]at hy; exact nn hy).trans e1,e2⟩
   . exact af (aY.mp hq) (if_pos rfl)
 refine bS (wpAny_If (ht _ _ a ay _ _ E h4 fun aO aX s2 h5=>?_))
 skip
 have Z8:([arg]:List Expr).all notStar=true:=by simp[hs]
 refine bS (wpAny_Expr ?_ hi rfl)
 refine d9 (pl:=_) ?_ (iJ (v:=.Name x p4) rfl Z8 (by simp) aae)
 have bF:∀ {Q' E':Value->ak->Prop},Q' (.ref a) aX->wpAny (model ai w) A (eval (.Name x p4) env) Q' E' aX:=fun rJ=>by
   obtain⟨h',tk,m,R,rfl,F,N,rp,ap,lc,rf⟩:=h5
   exact eN (fY hk hx (af hl F.ns) (rf _ (.head _)) rJ) hb
 refine bF ?_
 have rK:=((wO h5).qT (.head _)).1
 refine getMethod_list_append rK rfl rfl ?_
 refine cW (first:=[.ref a]) Z8 ((cC hs (ha _ _ a) fC) p6 aO aX _ E h5 fun gz dF us s3 h6 x6=>?_)
 refine Sg x6 fun u xu=>?_
 have ace:=((wO h6).qT (.head _)).1
 refine append_at (hsz:=?_) ace fun ade Z4 TF=>?_
 . refine fX ?_
   rw[List.push_toArray]at TF
   have h9:=((wO h6).HU (pre:=[]) (tk:=dF.toks) (fun b o hb e=>Z4.extBut b o hb e) TF).giv (.head _)
   refine hr _ _ _ _ (Yj h9 (.list (.head _) ((su (x1.mono fun p hp=>s3 p (s2 p hp)) (.cons xu .nil)).mono fun p hp=>.tail _ hp))) fun o8 lX s4 Wz=>hq o8 lX (fun p hp=>s4 p (.tail _ (s3 p (s2 p (s1 p hp))))) Wz
 . have:=x1.length
   refine af dh ?_
   show vs.length<=_
   lia
end
noncomputable def cQ(e:Expr):Expr×Comprehension×Scope×Pos:=(FD e,jF e,DS e,bP e)
theorem fV{l:Nat}{x:Str}(h1:FU e=some (cQ e))(h2:dQ (jF e).target=some x)(h3:okC cn (DS e) x (jF e).iter=true)(h4:xZ sc ev (jF e).iter=some ds)(h5:iD (fun d=>vf (rF cP (DS e) x d cn (fun ρ' e'=>lM cP l (DS e) (I3 (DS e) x d cn) ρ' (Ak (rF cP (DS e) x d cn (fun _ _=>none)) ρ') e')) ρ (FD e) (jF e).ifs) ds=some outs):lM cP (l+1) sc cn ρ ev e=some (.list outs):=by
 show opt (FU e) _ _=_
 refine af h1 ?_
 show opt (dQ (jF e).target) _ _=_
 refine af h2 ?_
 show gate (okC cn (DS e) x (jF e).iter) _ _=_
 refine af h3 ?_
 show opt (xZ sc ev (jF e).iter) _ _=_
 exact af h4 (congrArg (fun z=>opt z (fun vs=>some (Dat.list vs)) none) h5)
theorem j7{α:Type}{c g:α->V}{l:List α}(h:∀a∈l,turn (c a)=some (some (g a))):iD turn (l.map c)=some (l.map g):=by
 induction l with
 |nil=>rfl
 | cons a r ih=>
   show opt (turn (c a)) _ _=_
   refine af (h a (.head _)) ?_
   show opt (iD turn (r.map c)) _ _=_
   refine af (ih fun b hb=>h b (.tail _ hb)) ?_
   rfl
theorem gU{α:Type}{c:α->V}{p:α->Bool}{l:List α}(h:∀a∈l,turn (c a)=some (cond (p a) (some (c a)) none)):iD turn (l.map c)=some ((l.filter p).map c):=by
 induction l with
 |nil=>rfl
 | cons a r ih=>
   show opt (turn (c a)) _ _=_
   refine af (h a (.head _)) ?_
   show opt (iD turn (r.map c)) _ _=_
   refine af (ih fun b hb=>h b (.tail _ hb)) (af kQ ?_)
   cases p a <;> rfl
theorem qI(ys:List Str):lB (ys.map .str)=some ys:=by
 induction ys with
 |nil=>rfl
 | cons y ys ih=>
   show opt (some y) (fun y=>opt (lB (ys.map .str)) _ _) _=_
   refine af ih ?_
   rfl
theorem pJ(b:Str)(ys:List Str):∃t,cZ (some b) ys=some t:=by
 induction ys generalizing b with
 |nil=>exact⟨b,rfl⟩
 | cons y ys ih=>
   show ∃t,cZ (cond _ _ _) ys=some t
   cases decide ((y.length:Int)<b.length) <;> exact ih _
noncomputable def shortest(ys:List Str):Str:=(cZ none ys).getD ""
theorem xq{ys:List Str}(h:ys≠ [])(hs:ys.all strOk=true)(hz:ys.length<=100000):kX [.list (ys.map .str)]=some (true,.str (shortest ys)):=by
 show opt (lB (ys.map .str)) (fun ys'=>some (ys'.all strOk&&iG (ys.map eK).length,eH (cZ none ys'))) none=_
 rw[qI]
 show some (ys.all strOk&&iG (ys.map eK).length,eH (cZ none ys))=_
 (refine af hs ?_; rewrite [bM]; refine af (show iG ys.length=true from c9 hz) ?_)
 cases ys with
 |nil=>exact absurd rfl h
 | cons y ys=>
   refine cE (pJ y ys) fun t ht=>?_
   have e:cZ none (y::ys)=some t:=ht
   unfold shortest
   exact af e rfl
noncomputable abbrev Lq:List Nat:=[40,41,59,60,62,124,38]
noncomputable def A3:V->Option (List Nat)
 | .str m=>gate (!bw m ""&&Nat.ble m.length 100) (some m.cps.toList) none
 | .bool b=>some (cond b Lq [])
 |_=>none
theorem Ii{d:V}{M:List Nat}(h:A3 d=some M):lD d M/\M.length<=100:=by
 cases d with
 | str m=>
   refine bx (bA h) fun h1 h2=>?_
   rw[aM]at h1
   obtain rfl:=sj h2
   have hl:m.cps.toList.length<=100:=by have:=oW h1.2; rw[dD]at this; simpa using this
   refine⟨?_,hl⟩
   have:=lD.text m.cps.toList (fun e=>?_) hl
   . rwa[<-sG m]at this
   . have h1:(!bw m "")=true:=h1.1
     rw[dR,sG m,g7,e]at h1
     exact ff h1
 | bool b=>
   obtain rfl:=sj h
   cases b with
   |true=>exact⟨.yes,by decide⟩
   |false=>exact⟨.no,by decide⟩
 |_=>exact nn h
noncomputable def lI(aa:Bool)(M T:List Nat):V:=.tuple [.list ((scan aa M (wordsOf aa M) T .out).1.map bf),.str (qX (scan aa M (wordsOf aa M) T .out).2)]
noncomputable def ru(l:List V):Option (Bool×V):=opt (three l) (fun q=>opt (strOf q.1) (fun T=>opt (boolOf q.2.1) (fun aa=>opt (A3 q.2.2) (fun M=>some (Nat.ble T.length 300,lI aa M T.cps.toList)) none) none) none) none
section
variable {Pm:aD}{h₀:aE}{L:Addr}
theorem PM(R:cH (KS Pm) p az aL mg mb A₀ base av A env h₀ L (d+7))(eC:h₀=base)(hu:A.units+5<cLine):sL ai w A h₀ L "_law_read" ru:=by
 intro O C jj o ρ fz s e1 e2 lk hA mD args pos q ds r hf hs nS Q E hw
 subst e1; subst e2
 refine au (aq hf) fun fZ h1 hf=>?_
 obtain⟨a,b,c⟩:=fZ
 refine au (aq hf) fun T h2 hf=>?_
 refine au (aq hf) fun aa h3 hf=>?_
 refine au (aq hf) fun M h4 hf=>?_
 refine bx (cR (sj hf)) fun h5 fj=>?_
 subst fj
 have hT:T.cps.toList.length<=300:=by have:=oW h5; rw[dD]at this; simpa using this
 refine bx (Ii h4) fun To hM=>?_
 have eds:ds=[.str (S T.cps.toList),.bool aa,c]:=by(refine af (sR h1) (af ((sG T).symm) (af ((cS h2).symm) (af ((u0 h3).symm) ?_))); rfl)
 subst eds
 refine gJ rfl (qy R lk hA (v:=.ref 740) (by kernel_rfl) mD (by decide) ?_)
 cases args with
 |nil=>exact absurd rfl nS
 | cons e rest=>
   rw[fQ,aM]at hs
   have ho:(KS Pm).lookup 740=some ⟨.type "function",none,.func (fnOf "_law_read" "_law_read" (nU (aW 22)) (aC (aW 22)) (aF (aW 22)) .none .none .none (.str "law_in0035_01" 1142) none (.ref 739) .none), #[]⟩:=by kernel_rfl
   refine callWith_def (o:=⟨.type "function",none,.func (fnOf "_law_read" "_law_read" (nU (aW 22)) (aC (aW 22)) (aF (aW 22)) .none .none .none (.str "law_in0035_01" 1142) none (.ref 739) .none), #[]⟩) rfl (fD hw (fun vs s₁ x=>?_) fun _ _ x=>x) (cU hs.1)
   refine wR x fun ay sb cj hv hq=>?_
   refine gB cj.nO fun m₁ Gu Oh aaL=>?_
   refine⟨Oh.keep _ _ (R.X _ _ ho),gk ?_⟩
   exact QD R eC hu cj To hT hM (Nj (by lia)) hv fun aT s' v K8 h' BN=>hq aT s' v K8 h' BN
end
noncomputable def bindG(I:pD O):List Str->List V->O->Loc->Option (O×Loc)
 | [],[],o,ρ=>some (o,ρ)
 |x::xs,v::vs,o,ρ=>gate (I.names.contains x) (bindG I xs vs o ((x,v)::ρ)) (opt (I.KW o x v) (fun o'=>bindG I xs vs o' ρ) none)
 |_,_,_,_=>none
section
variable {I:pD O}{sa:Addr}
theorem F7(K:cV ai w A C env I X sa){x:Str}{xs:List Str}{d:V}(h:At C o ρ fz s)(hv:VR fz d v)(hb:bindG I (x::xs) (d::ds) o ρ=some q)(hq:∀o' ρ' s',bindG I xs ds o' ρ'=some q->At C o' ρ' fz s'->Q () s'):wpAny (model ai w) A (storeName env x v) Q E s:=by
 cases hx:I.names.contains x with
 | true=>
   have hb:gate (I.names.contains x) _ _=some q:=hb
   rw[hx]at hb
   exact jv K h hx hv fun s' h'=>hq _ _ s' hb h'
 | false=>
   have hb:gate (I.names.contains x) _ _=some q:=hb
   rw[hx]at hb
   refine au (aq hb) fun o' h1 hb=>?_
   exact(K.vp o x d o' h1).2 ρ fz s v _ _ h hv fun s' h'=>hq _ _ s' hb h'
theorem B6(K:cV ai w A C env I X sa):∀ {ts:List Expr} {xs:List Str} {vs:List Value} {ds:List V} {o:O} {ρ:Loc} {s:ak},namesOf ts=some xs->aU fz vs ds->bindG I xs ds o ρ=some q->
   At C o ρ fz s->(∀s',At C q.1 q.2 fz s'->Q () s')->wpAny (model ai w) A (lS ((assignEach ts env).map (·.2)) vs) Q E s
 | [],xs,vs,ds,o,ρ,s,hn,hd,hb,h,hq=>by
   obtain rfl:=sj hn
   cases hd with
   | nil=>
     obtain rfl:=sj hb
     exact aA (hq s h)
   |cons=>exact nn hb
 | e ::r,xs,vs,ds,o,ρ,s,hn,hd,hb,h,hq=>by
   refine au (aq hn) fun x hx hn=>?_
   refine au (aq hn) fun ys hy hn=>?_
   have hn:=sj hn
   subst hn
   refine cE (dP hx) fun p fj=>?_
   subst fj
   cases hd with
   |nil=>exact nn hb
   | @cons v vs d ds hv hr=>
     show wpAny (model ai w) A (do holding vs (assign (.Name x p) env v); lS ((assignEach r env).map (·.2)) vs) Q E s
     refine ao (iQ (assign_Name (F7 K h hv hb fun o' ρ' aX Oz h2=>?_)))
     exact B6 K hy hr Oz h2 hq
theorem zB(K:cV ai w A C env I X sa):∀ {xs:List Str} {vs:List Value} {ds:List V} {o:O} {ρ:Loc} {s:ak},aU fz vs ds->bindG I xs ds o ρ=some q->
   At C o ρ fz s->(∀s',At C q.1 q.2 fz s'->Q () s')->wpAny (model ai w) A (lS (xs.map fun n=>bindName env n) vs) Q E s
 | [],vs,ds,o,ρ,s,hd,hb,h,hq=>by
   cases hd with
   | nil=>
     obtain rfl:=sj hb
     exact aA (hq s h)
   |cons=>exact nn hb
 | x ::xs,vs,ds,o,ρ,s,hd,hb,h,hq=>by
   cases hd with
   |nil=>exact nn hb
   | @cons v vs d ds hv hr=>
     show wpAny (model ai w) A (do holding vs (bindName env x v); lS (xs.map fun n=>bindName env n) vs) Q E s
     refine ao (iQ (bindName_ (F7 K h hv hb fun o' ρ' aX Oz h2=>?_)))
     exact zB K hr Oz h2 hq
theorem uy(K:cV ai w A C env I X sa){k:Nat}{p p':Pos}{xs:List Str}(hn:namesOf ts=some xs)(hr:sU ts k p' e env=some r)(he:bq ai w A C o env ρ e (.tuple ds))(hl:xs.length=ds.length)(hc:mY e=true)(hb:(opt r (fun ys=>gate (ys==xs) (bindG I xs.reverse ds.reverse o ρ) none) (bindG I xs ds o ρ))=some q):
   cK ai w A C env X o ρ (.Assign [.Tuple ts k p'] e p) (q.1,q.2,.next):=by
 intro fz s Q E h hq
 have hw:=xd hr
 have h0:swapsWithSole [.Tuple ts k p'] e p.line env=pure false:=by unfold swapsWithSole; exact fk hc
 cases r with
 | none=>
   refine Assign_Tuple (he fz s _ E h fun ay s₁ va s1 h1 x1=>?_) h0 hw
   refine oj (pG x1) fun a vs n jU hm hv=>?_
   subst jU
   have ht:IsTup s₁.heap a vs.toArray:=⟨_,h1.row hm,rfl,n,rfl⟩
   refine assign_Tuple_tuple K.hh ht ?_ (uT hn) fun h2 Wq=>?_
   . (refine af yk (af (uF hn) (af hl (af nj (af hv.length ?_)))); rfl)
   . exact B6 K hn hv hb (h1.ext2 Wq) fun aX h3=>hq ay aX s1 h3
 | some ys=>
   refine bx (bA hb) fun ey hb=>?_
   obtain rfl:=eq_of_beq ey
   refine Assign_Tuple_swapped (he fz s _ E h fun ay s₁ va s1 h1 x1=>?_) h0 hw
   refine oj (pG x1) fun a vs n jU hm hv=>?_
   subst jU
   have ht:IsTup s₁.heap a vs.toArray:=⟨_,h1.row hm,rfl,n,rfl⟩
   have e1:ys.length=vs.toArray.size:=by(refine af nj (af hv.length (af hl ?_)); rfl)
   refine af e1 ?_
   refine unpackItems_tuple K.hh ht fun h2 Wq=>?_
   exact zB K (yr (by simpa using hv)) hb (h1.ext2 Wq) fun aX h3=>hq ay aX s1 h3
end
section
variable {fz cG X:Led}
theorem At.acr{x:Addr×Obj}(h:At (CT C (x::X) cG) o ρ fz s):At (CT C X cG) o ρ (x::fz) s:=by
 obtain⟨hp,lG,m,R,rfl,F,N,rp,ap,lc,rf⟩:=h
 obtain⟨sb,nd,fF,rfl,ax,rp⟩:=rp
 rw[eZ,List.nodup_cons]at nd
 refine⟨hp,lG,m,X++fF,rfl,F,fun p hp=>?_,⟨fun p hp=>.tail _ (sb p hp),nd.2,fF,rfl,fun p hp=>ax p (.tail _ hp),C.mono _ _ _ _ (fun p hp=>.tail _ hp) rp⟩,fun p hp q hq=>?_,lc.mono fun p hp=>.tail _ hp,rf⟩
 . have hp:p∈(X++fF)++((x::fz)++C.rest):=hp
   refine N p ?_
   show p∈(x::X++fF)++(fz++C.rest)
   simp only[bu,eY,aB]at hp |-
   rcases hp with (hp|hp)|rfl|hp|hp
   . exact .inr (.inl (.inl hp))
   . exact .inr (.inl (.inr hp))
   . exact .inl rfl
   . exact .inr (.inr (.inl hp))
   . exact .inr (.inr (.inr hp))
 . have hq:q∈(x::fz)++C.rest:=hq
   rw[eY,aB]at hq
   rcases hq with rfl|hq
   . rcases bu.mp hp with hp|hp
     . exact fun e=>nd.1 (e▸qP (f:=(·.1)) hp)
     . exact fun e=>ax _ (.head _) p hp e.symm
   . exact ap p (.tail _ hp) q hq
end
section
variable {x:Str}
theorem DI{y:Str}(hsw:swapsWith (.ListComp elt [⟨.Name x px,iter,ifs,0⟩] cs pos) (some (.Name y py)) UD.line env=pure true)(hf:env.scope.kind= .function)(hl:env.locals=C.L)(hy:env.kindOf y=some .local)(hr:∀q∈C.refs,q.1≠y)(rL:closureFor cs env=pure cl)(hk:cs.kind= .function)(nB:∀y∈cs.names,y.2= .local->cs.names.lookup y.1=some .local)(own:Od cs x)(hz:ds.length<=100000)(hs:∀v,foldedSetIterable iter env v=pure v)(hit:qi ai w A C o env ρ iter ds)(JJ:iD turn ds=some outs)(jC:∀fz C' X d t,d∈ds->turn d=some t->BH (jV cs cl C' env) x fz d X->TurnOk ai w A (CT C X fz) o (jV cs cl C' env) ρ ifs elt t):
   cK ai w A C env X o ρ (.Assign [.Name y py] (.ListComp elt [⟨.Name x px,iter,ifs,0⟩] cs pos) UD) (o,(y,.list outs)::ρ,.next):=by
 intro fz s Q E h hq
 refine af (exec_Assign_Name_used _ _ _ _ hsw) ?_
 refine ao (wpAny_standAt (ao ?_))
 show wpAny _ A (do let _ <-comprehension (.ListComp elt [⟨.Name x px,iter,ifs,0⟩] cs pos) cs env _ (newList []) false (eval iter env) (some (assign (.Name y py) env))) _ _ s
 refine ao (fD (wpAny_comprehension_free (use:=some (assign (.Name y py) env)) (Q:=fun _ s'=>Q .next s') rfl hs rL hk nB
   (hit fz s _ _ h fun ay s₁ ob St sb cj rK it st=>yt (RR:=fun acc C'=>compPost (model ai w) A E (some (assign (.Name y py) env)) (fun _ s'=>Q .next s') acc C') it rK hk own hz JJ (jC ay) cj st ?_))
   (fun _ s' hq=>aA (aA hq)) fun _ _ e=>e)
 intro C' D aT s' ys oC m Z' K8 h' ho hd
 show wpAny _ A (assign (.Name y py) env (.ref D)) _ _ _
 have h2:=h'.acr
 refine wpAny_assign_Name (Gl (C:=CT C ((C',oC)::Z') ay) hf hl h2 hy (.list (.head _) (hd.mono fun p hp=>.tail _ hp)) hr fun dF h3=>?_)
 refine⟨m,ho.ns (h3.qT (p:=(C',oC)) (.head _)).1,fun mQ Z6=>?_⟩
 have h5:=(h3.Ym (X':=[]) (h':=mQ) (tk:=dF.toks) (jP _) (fun b o hb e=>Z6.extBut b o (hb _ (.head _)) e) fun p hp=>nomatch hp).out
 exact hq _ _ (fun p hp=>.tail _ (K8 p (sb p hp))) h5
theorem sJ.assign{y:Str}(h:sJ ai w A C o env ρ e v)(hsw:swapsWith e (some (.Name y py)) UD.line env=pure true)(hf:env.scope.kind= .function)(hl:env.locals=C.L)(hy:env.kindOf y=some .local)(hr:∀q∈C.refs,q.1≠y):
   cK ai w A C env X o ρ (.Assign [.Name y py] e UD) (o,(y,v)::ρ,.next):=by
 cases h with
 |mk he hv rL hk nB own hz hs hit JJ jC=>subst he; subst hv; exact DI hsw hf hl hy hr rL hk nB own hz hs hit JJ jC
end
structure WS where
 bare:Str
 one:Str
 two:Str
 sE:Str
noncomputable def lJ(st:WS)(c:Str):List Str:=cond (!bw c "'") [st.one++c] []
noncomputable def rU(st:WS)(c:Str):Str:=cond (aG "\"\\" c) (st.two++"\\"++c) (st.two++c)
noncomputable def rP(W:Str)(k:Nat):Bool:=decide ((k:Int)>0)&&bw (dW W ((k:Int)-1)) "\\"
noncomputable def lF(W:Str)(k:Nat)(st:WS)(c:Str):List Str:=cond (rP W k&& !aG "\"\\" c) [rU st c,st.sE++"\\"++c] [rU st c]
noncomputable def dY(M:Str)(st:WS)(c:Str):Str:=cond (g9 true M c) (st.bare++c) (st.bare++"\\"++c)
noncomputable def dK(b:Str)(os ts:List Str):List Str:=[b]++os.map (fun y:Str=>y++("'":Str))++ts.map (fun y:Str=>y++("\"":Str))
noncomputable def lH(M W:Str)(k:Nat)(st:WS):WS:=
 let c:=dW W k
 let b:=shortest (dK (dY M st c) (lJ st c) (lF W k st c))
 ⟨b,shortest (lJ st c++[b++"'"]),shortest (lF W k st c++[b++"\""]),st.two⟩
noncomputable def tX(M W:Str):List Nat->WS->WS
 | [],st=>st
 |k::r,st=>tX M W r (lH M W k st)
noncomputable def ve(M W:Str):Str:=cond (bw W "") "''" (tX M W (eU W.length) ⟨"","'","\"",""⟩).bare
noncomputable abbrev Xn:List (Str×(List V->Option (Bool×V))):=[("len",Mh),("_law_short",kX),("_law_cheap",Fv)]
noncomputable abbrev vS(L:Addr):Env:=wD 25 "_law_word" 759 758 L
noncomputable abbrev BP(O:Type):pD (O×Loc):=IA O 25 [] Xn 1
noncomputable abbrev zm(i:Nat):Stmt:=gK (aC (aW 25)) i
noncomputable abbrev jT(i:Nat):Stmt:=gK (aC (zm 2)) i
noncomputable abbrev D6(st:WS)(W M:Str):Loc:=[("bare",.str st.bare),("one",.str st.one),("two",.str st.two),("ago",.str st.sE),("word",.str W),("marks",.str M)]
section
variable (O:Type)(o:O×Loc)(L:Addr)(W M c:Str)(k:Nat)(st:WS)(a b:V)
theorem J1:cu bE (BP O) (vS L) none 30 o [("marks",.str M),("word",.str W)] (zm 0) (fun o ρ fl=>some (o,ρ,fl))=
 bif bw W "" then sm o [("marks",.str M),("word",.str W)] (.ret (.str "''"))else sm o [("marks",.str M),("word",.str W)] .next:=by kernel_rfl
theorem Ub:cu bE (BP O) (vS L) none 30 o [("marks",.str M),("word",.str W)] (zm 1) (fun o ρ fl=>some (o,ρ,fl))=
 sm o [("ago",.str ""),("two",.str "\""),("one",.str "'"),("bare",.str ""),("marks",.str M),("word",.str W)] .next:=by kernel_rfl
theorem Ua:d7 bE (BP O) (vS L) none 30 o (D6 st W M) ((aC (aW 25)).drop 3) (fun o ρ fl=>some (o,ρ,fl))=sm o (D6 st W M) (.ret (.str st.bare)):=by kernel_rfl
theorem OU:cu bE (BP O) (vS L) none 30 o (("k",.int (k:Int))::D6 st W M) (jT 0) (fun o ρ fl=>some (o,ρ,fl))=
 bif strOk W&&decide (-(W.length:Int)<=(k:Int))&&decide ((k:Int)<W.length)then sm o (("sign",.str (dW W k))::("k",.int (k:Int))::D6 st W M) .next else none:=by kernel_rfl
theorem OT:cu bE (BP O) (vS L) none 30 o (("sign",.str c)::("k",.int (k:Int))::D6 st W M) (jT 1) (fun o ρ fl=>some (o,ρ,fl))=
 bif !bw c "'" then bif strOk st.one&&strOk c then sm o (("ones",.list [.str (st.one++c)])::("sign",.str c)::("k",.int (k:Int))::D6 st W M) .next else none else sm o (("ones",.list [])::("sign",.str c)::("k",.int (k:Int))::D6 st W M) .next:=by kernel_rfl
noncomputable abbrev Xp(os:List Str)(c:Str)(k:Nat)(st:WS)(W M:Str):Loc:=("ones",.list (os.map .str))::("sign",.str c)::("k",.int (k:Int))::D6 st W M
noncomputable abbrev OV(O:Type)(o:O×Loc)(ρ:Loc)(e:Expr):Option V:=lM Xn 1 (aF (aW 25)) (An O [] o) ρ (Ak (DP O (locs (aF (aW 25))) [] Xn (aF (aW 25)) o) ρ) e
noncomputable abbrev Uc(O:Type):pD (O×Loc):=DR O ((locs (aF (aW 25))).erase "twos") [] Xn 1 (aF (aW 25))
theorem FJ(os:List Str):Ak ((Uc O).fh o) (Xp os c k st W M) ((um (cJ (jT 2))).headD zE)=
 bif aG "\"\\" c then bif strOk st.two&&strOk "\\" then bif strOk (st.two++"\\")&&strOk c then some (.str (st.two++"\\"++c))else none else none else bif strOk st.two&&strOk c then some (.str (st.two++c))else none:=by kernel_rfl
theorem OS(os:List Str):jZ bE ((Uc O).fh o) (Xp os c k st W M) none 12 (cJ (jT 3)) (fun v=>dj bE none v some)=
 bif decide ((k:Int)>0)then bif strOk W&&decide (-(W.length:Int)<=(k:Int)-1)&&decide ((k:Int)-1<W.length)then bif bw (dW W ((k:Int)-1)) "\\" then some (!aG "\"\\" c)else some false else none else some false:=by kernel_rfl
theorem JW(os:List Str)(d:V):jZ bE ((BP O).fh o) (("twos",d)::Xp os c k st W M) none 12 (cJ (jT 3)) (fun v=>dj bE none v some)=
 bif decide ((k:Int)>0)then bif strOk W&&decide (-(W.length:Int)<=(k:Int)-1)&&decide ((k:Int)-1<W.length)then bif bw (dW W ((k:Int)-1)) "\\" then some (!aG "\"\\" c)else some false else none else some false:=by kernel_rfl
theorem JX(os:List Str):Ak ((Uc O).fh o) (Xp os c k st W M) ((um (cJ ((aC (jT 3)).headD (.Pass ⟨0,0,0,0⟩)))).headD zE)=
 bif strOk st.sE&&strOk "\\" then bif strOk (st.sE++"\\")&&strOk c then some (.str (st.sE++"\\"++c))else none else none:=by kernel_rfl
noncomputable abbrev Xo(ts os:List Str)(c:Str)(k:Nat)(st:WS)(W M:Str):Loc:=("twos",.list (ts.map .str))::Xp os c k st W M
theorem OR(ts os:List Str):cu bE (BP O) (vS L) none 30 o (Xo ts os c k st W M) (jT 4) (fun o ρ fl=>some (o,ρ,fl))=
 bif g9 true M c then bif strOk st.bare&&strOk c then sm o (("bares",.list [.str (st.bare++c)])::Xo ts os c k st W M) .next else none
 else bif strOk st.bare&&strOk "\\" then bif strOk (st.bare++"\\")&&strOk c then sm o (("bares",.list [.str (st.bare++"\\"++c)])::Xo ts os c k st W M) .next else none else none:=by kernel_rfl
noncomputable abbrev vR(X:V)(ts os:List Str)(c:Str)(k:Nat)(st:WS)(W M:Str):Loc:=("bares",X)::Xo ts os c k st W M
theorem OM(X:V)(ts os:List Str)(h:os.all strOk=true)(hz:iG os.length=true):OV O o (vR X ts os c k st W M) (bR (bL (cJ (jT 5))))=some (.list ((os.map fun y:Str=>y++("'":Str)).map .str)):=by
 refine fV (x:="text") (ds:=os.map .str) (by kernel_rfl) (by kernel_rfl) (by kernel_rfl) ?_ ?_
 . refine bU (b:=gate (iG (os.map eK).length) (some (os.map eK)) none) (by kernel_rfl) ?_
   (rewrite [bM]; refine af hz ?_); rfl
 . refine af fL ?_
   refine j7 fun y hy=>?_
   have hc:(strOk y&&strOk "'")=true:=by exact af (dH.mp h y hy) rfl
   refine bU (b:=bE (strOk y&&strOk "'") (some (some (.str (y++("'":Str))))) none) (by kernel_rfl) ?_
   exact af hc rfl
theorem OL(X:V)(ts os:List Str)(h:ts.all strOk=true)(hz:iG ts.length=true):OV O o (vR X ts os c k st W M) (bR (cJ (jT 5)))=some (.list ((ts.map fun y:Str=>y++("\"":Str)).map .str)):=by
 refine fV (x:="text") (ds:=ts.map .str) (by kernel_rfl) (by kernel_rfl) (by kernel_rfl) ?_ ?_
 . refine bU (b:=gate (iG (ts.map eK).length) (some (ts.map eK)) none) (by kernel_rfl) ?_
   (rewrite [bM]; refine af hz ?_); rfl
 . refine af fL ?_
   refine j7 fun y hy=>?_
   have hc:(strOk y&&strOk "\"")=true:=by exact af (dH.mp h y hy) rfl
   refine bU (b:=bE (strOk y&&strOk "\"") (some (some (.str (y++("\"":Str))))) none) (by kernel_rfl) ?_
   exact af hc rfl
theorem J0:jT 5= .Assign [.Name "bares" (bP (gO (jT 5)))] (.BinOp (.BinOp (.Name "bares" (bP (bL (bL (cJ (jT 5)))))) .Add (bR (bL (cJ (jT 5)))) (bP (bL (cJ (jT 5))))) .Add (bR (cJ (jT 5))) (bP (cJ (jT 5)))) (qZ (jT 5)):=by kernel_rfl
theorem OQ(X:V)(ts os:List Str):cu bE (BP O) (vS L) none 30 o (vR X ts os c k st W M) (jT 6) (fun o ρ fl=>some (o,ρ,fl))=sm o (("ago",.str st.two)::vR X ts os c k st W M) .next:=by kernel_rfl
theorem OP(X:List V)(g:V)(ts os:List Str):cu bE (BP O) (vS L) none 30 o (("ago",g)::vR (.list X) ts os c k st W M) (jT 7) (fun o ρ fl=>some (o,ρ,fl))=
 opt (kX [.list X]) (fun q=>bE q.1 (sm o (("bare",q.2)::("ago",g)::vR (.list X) ts os c k st W M) .next) none) none:=by kernel_rfl
theorem OO(X g:V)(b:Str)(ts os:List Str):cu bE (BP O) (vS L) none 30 o (("bare",.str b)::("ago",g)::vR X ts os c k st W M) (jT 8) (fun o ρ fl=>some (o,ρ,fl))=
 bif strOk b&&strOk "'" then bif iG ((os.map eK).length+1)then opt (kX [.list (os.map .str++[.str (b++("'":Str))])]) (fun q=>bE q.1 (sm o (("one",q.2)::("bare",.str b)::("ago",g)::vR X ts os c k st W M) .next) none) none else none else none:=by kernel_rfl
theorem ON(X g n:V)(b:Str)(ts os:List Str):cu bE (BP O) (vS L) none 30 o (("one",n)::("bare",.str b)::("ago",g)::vR X ts os c k st W M) (jT 9) (fun o ρ fl=>some (o,ρ,fl))=
 bif strOk b&&strOk "\"" then bif iG ((ts.map eK).length+1)then opt (kX [.list (ts.map .str++[.str (b++("\"":Str))])]) (fun q=>bE q.1 (sm o (("two",q.2)::("one",n)::("bare",.str b)::("ago",g)::vR X ts os c k st W M) .next) none) none else none else none:=by kernel_rfl
theorem JV:aC (zm 2)=[jT 0,jT 1,.Assign [.Name "twos" (bP (gO (jT 2)))] (.List [(um (cJ (jT 2))).headD zE] (bP (cJ (jT 2)))) (qZ (jT 2)),
   .If (cJ (jT 3)) [.Expr (.Call (.Attribute (.Name "twos" (bP (bL (bL (cJ ((aC (jT 3)).headD (.Pass ⟨0,0,0,0⟩))))))) "append" (bP (bL (cJ ((aC (jT 3)).headD (.Pass ⟨0,0,0,0⟩)))))) [(um (cJ ((aC (jT 3)).headD (.Pass ⟨0,0,0,0⟩)))).headD zE] [] (bP (cJ ((aC (jT 3)).headD (.Pass ⟨0,0,0,0⟩))))) (qZ ((aC (jT 3)).headD (.Pass ⟨0,0,0,0⟩)))] [] (qZ (jT 3)),
   jT 4,jT 5,jT 6,jT 7,jT 8,jT 9]:=by kernel_rfl
theorem OI:aC (aW 25)=zm 0::zm 1:: .For (.Name "k" (mZ (gO (zm 2)))) (cJ (zm 2)) (aC (zm 2)) [] (qZ (zm 2))::(aC (aW 25)).drop 3:=by kernel_rfl
theorem OH:cJ (zm 2)= .Call (.Name "range" (bP (bL (cJ (zm 2))))) [(um (cJ (zm 2))).headD zE] [] (bP (cJ (zm 2))):=by kernel_rfl
theorem JS:Ak ((BP O).fh o) (D6 st W M) ((um (cJ (zm 2))).headD zE)=bE (strOk W) (some (.int (W.length:Int))) none:=by kernel_rfl
end
theorem len_app(x y:Str):(x++y).length=x.length+y.length:=by simp[dD,Str.cps_append]
theorem g8{x:Str}{n:Nat}(h:x.length<=n)(hn:n<=1000000):strOk x=true:=c9 (cg h hn)
theorem ok2{x y:Str}(h:strOk x=true)(h':strOk y=true):(strOk x&&strOk y)=true:=by exact af h (af h' rfl)
theorem nH:∀(ys:List Str) (b:Option Str) (t:Str),cZ b ys=some t->(∀y,b=some y->t.length<=y.length)/\(∀y∈ys,t.length<=y.length)/\(b=some t\/t∈ys)
 | [],b,t,h=>⟨fun y e=>by rw[e]at h; refine af ((sj h).symm) ?_; exact bC _,(fun _ h=>nomatch h),.inl h⟩
 | y ::ys,none,t,h=>by
   refine lV (nH ys (some y) t h) fun h1 h2 h3=>?_
   refine⟨fun _ e=>(nomatch e),fun z hz=>?_,.inr ?_⟩
   . rcases aB.mp hz with rfl|hz
     . exact h1 _ rfl
     . exact h2 z hz
   . rcases h3 with e|h3
     . exact af (sj e) (.head _)
     . exact .tail _ h3
 | y ::ys,some b,t,h=>by
   have h:cZ (cond (decide ((y.length:Int)<b.length)) (some y) (some b)) ys=some t:=h
   by_cases hc:(y.length:Int)<b.length
   . rw[decide_eq_true hc]at h
     refine lV (nH ys (some y) t h) fun h1 h2 h3=>?_
     have:=h1 _ rfl
     refine⟨fun z e=>by refine af ((sj e).symm) ?_; lia,fun z hz=>?_,?_⟩
     . rcases aB.mp hz with rfl|hz
       . exact this
       . exact h2 z hz
     . rcases h3 with e|h3
       . exact af (sj e) (.inr (.head _))
       . exact .inr (.tail _ h3)
   . rw[decide_eq_false hc]at h
     refine lV (nH ys (some b) t h) fun h1 h2 h3=>?_
     have:=h1 _ rfl
     refine⟨fun z e=>by refine af ((sj e).symm) ?_; exact this,fun z hz=>?_,?_⟩
     . rcases aB.mp hz with rfl|hz
       . lia
       . exact h2 z hz
     . rcases h3 with e|h3
       . exact .inl e
       . exact .inr (.tail _ h3)
theorem mW{ys:List Str}(h:ys≠ []):shortest ys∈ys/\∀y∈ys,(shortest ys).length<=y.length:=by
 cases ys with
 |nil=>exact absurd rfl h
 | cons y ys=>
   refine cE (pJ y ys) fun t ht=>?_
   have e:cZ none (y::ys)=some t:=ht
   have e2:shortest (y::ys)=t:=by unfold shortest; exact af e rfl
   refine lV (nH _ _ _ e) fun _ h2 h3=>?_
   exact af e2 ⟨h3.resolve_left (fun e=>by exact nn e),h2⟩
theorem CY{W:Str}{k:Nat}(h:k<W.length):(dW W k).length=1:=by
 rw[sG W]at h |-
 rw[eu]at h
 (refine af (Bm h) ?_; rw[eu]); rfl
structure Oe(n:Nat)(st:WS):Prop where
 bare:st.bare.length<=n
 one:st.one.length<=n+1
 two:st.two.length<=n+1
 sE:st.sE.length<=n+1
section
variable {M W c:Str}{k n:Nat}{st:WS}
theorem Qa(h:Oe n st)(hc:c.length=1):∀y∈lJ st c,y.length<=n+2:=fun y hy=>by
 unfold lJ at hy
 cases e:(!bw c "'")with
 | true=>
   rw[e]at hy
   have hy:y∈ [st.one++c]:=hy
   (refine af (aY.mp hy) ?_; rewrite [len_app]; refine af hc ?_)
   have:=h.one; lia
 |false=>rw[e]at hy; exact nomatch(hy:y∈([]:List Str))
theorem Up(h:Oe n st)(hc:c.length=1):(rU st c).length<=n+3:=by
 unfold rU
 have:=h.two
 have e:("\\":Str).length=1:=rfl
 cases aG "\"\\" c with
 |true=>show(st.two++"\\"++c).length<=_; (rewrite [len_app,len_app]; refine af hc (af e ?_)); lia
 |false=>show(st.two++c).length<=_; (rewrite [len_app]; refine af hc ?_); lia
theorem O1(h:Oe n st)(hc:c.length=1):∀y∈lF W k st c,y.length<=n+3:=fun y hy=>by
 unfold lF at hy
 have h1:=Up h hc
 cases e:(rP W k&& !aG "\"\\" c)with
 | true=>
   rw[e]at hy
   have hy:y∈ [rU st c,st.sE++"\\"++c]:=hy
   rcases aB.mp hy with rfl|hy
   . exact h1
   . (refine af (aY.mp hy) ?_; rewrite [len_app,len_app]; refine af hc (af (show("\\":Str).length=1 from rfl) ?_))
     have:=h.sE; lia
 | false=>
   rw[e]at hy
   exact af (aY.mp (show y∈ [rU st c]from hy)) h1
theorem Hy(h:Oe n st)(hc:c.length=1):(dY M st c).length<=n+2:=by
 unfold dY
 have:=h.bare
 have e:("\\":Str).length=1:=rfl
 cases g9 true M c with
 |true=>show(st.bare++c).length<=_; (rewrite [len_app]; refine af hc ?_); lia
 |false=>show(st.bare++"\\"++c).length<=_; (rewrite [len_app,len_app]; refine af hc (af e ?_)); lia
theorem NV{b:Str}{os ts:List Str}{n:Nat}(hb:b.length<=n+2)(ho:∀y∈os,y.length<=n+2)(ht:∀y∈ts,y.length<=n+3):∀y∈dK b os ts,y.length<=n+4:=fun y hy=>by
 unfold dK at hy
 rcases bu.mp hy with hy|hy
 . rcases bu.mp hy with hy|hy
   . refine af (aY.mp hy) ?_; lia
   . refine au (bZ.mp hy) fun z hz iU=>?_
     subst iU
     (rewrite [len_app]; refine af (show("'":Str).length=1 from rfl) ?_)
     have:=ho z hz; lia
 . refine au (bZ.mp hy) fun z hz iU=>?_
   subst iU
   (rewrite [len_app]; refine af (show("\"":Str).length=1 from rfl) ?_)
   have:=ht z hz; lia
theorem yH{ys:List Str}(hn:n<=1000000)(h:∀y∈ys,y.length<=n):ys.all strOk=true:=dH.mpr fun y hy=>g8 (h y hy) hn
theorem F8(h:Oe n st)(hk:k<W.length):Oe (n+2) (lH M W k st):=by
 have hc:=CY hk
 have b1:=Hy (M:=M) h hc
 have b2:(lH M W k st).bare.length<=n+2:=cg ((mW (ys:=dK (dY M st (dW W k)) (lJ st (dW W k)) (lF W k st (dW W k))) (by simp[dK])).2 _ (by unfold dK; exact aH _ (aH _ (.head _)))) b1
 refine⟨b2,?_,?_,by have:=h.two; show st.two.length<=_; lia⟩
 . refine cg ((mW (by simp)).2 _ (aJ _ (.head _))) ?_
   (rewrite [len_app]; refine af (show("'":Str).length=1 from rfl) ?_)
   exact Nat.succ_le_succ b2
 . refine cg ((mW (by simp)).2 _ (aJ _ (.head _))) ?_
   (rewrite [len_app]; refine af (show("\"":Str).length=1 from rfl) ?_)
   exact Nat.succ_le_succ b2
end
noncomputable abbrev Ec:Nat->Led->ak->(Value->ak->Prop)->Prop:=fun _ _ _ _=>False
section
variable {P:aD}{base g:aE}{L:Addr}
theorem J2(d:Nat):∀y∈Xn,mP ai w (eG P) p az aL mg mb y.1 (d+1) y.2:=wK (qv _) (wK (xo d) (wK (yv d) TL))
theorem AD(C:Cx O)(refs:List (Str×Value))(names:List Str)(hn:∀x∈names,x∈locs (aF (aW 25)))(ho:∀q∈refs,names.contains q.1=false)(R:cH (eG P) p az aL mg mb A₀ base av A (vS L) g L (d+1))(hu:A.units+8*(d+1)+64<cLine):
   cV ai w A (eV C g L (aZ (L+1) (aF (aW 25)).names []) refs) (vS L) (DR O names [] Xn 1 (aF (aW 25))) Ec 0:=
 yC (yQ:=C) (refs:=refs) R (Gg R hu (J2 d)) ⟨fun x hx=>qC (by decide +kernel) x (hn x hx),fun _ h=>by cases h⟩ ho
theorem As{W:Str}{k:Nat}(hw:strOk W=true)(hk:k<W.length)(c:Str):(bif decide ((k:Int)>0)then bif strOk W&&decide (-(W.length:Int)<=(k:Int)-1)&&decide ((k:Int)-1<W.length)then bif bw (dW W ((k:Int)-1)) "\\" then some (!aG "\"\\" c)else some false else none else some false)=
   some (rP W k&& !aG "\"\\" c):=by
 unfold rP
 by_cases h:(k:Int)>0
 . have e:(strOk W&&decide (-(W.length:Int)<=(k:Int)-1)&&decide ((k:Int)-1<W.length))=true:=by
     exact af hw (af (decide_eq_true (by lia)) (af (decide_eq_true (by lia)) rfl))
   refine af (decide_eq_true h) ?_
   refine(ct e).trans ?_
   cases bw (dW W ((k:Int)-1)) "\\" <;> rfl
 . exact af (decide_eq_false h) rfl
theorem O3{st:WS}{c:Str}{n:Nat}(h:Oe n st)(hc:c.length=1)(hn:n<=400000):(bif aG "\"\\" c then bif strOk st.two&&strOk "\\" then bif strOk (st.two++"\\")&&strOk c then some (eK (st.two++"\\"++c))else none else none else bif strOk st.two&&strOk c then some (eK (st.two++c))else none)=some (.str (rU st c)):=by
 have e1:strOk st.two=true:=g8 h.two (by lia)
 have e2:strOk c=true:=g8 (Nat.le_of_eq hc) (by decide)
 have e3:strOk (st.two++"\\")=true:=g8 (n:=n+2) (by(rewrite [len_app]; refine af (show("\\":Str).length=1 from rfl) ?_); have:=h.two; lia) (by lia)
 unfold rU
 refine af e1 (af e2 (af e3 ?_))
 cases aG "\"\\" c <;> rfl
theorem ou(K:zl ai w A C o env I){t:Bool}(h:jZ bE I ρ none 12 e (fun v=>dj bE none v some)=some t):gi ai w A C o env ρ e t:=by
 refine au (jD K ρ 12 _ _ h) fun v hv h=>?_
 refine au (jd h) fun t' ht h=>?_
 obtain rfl:=sj h
 exact hv.2 _ ht
theorem HH(C:Cx O)(R:cH (eG P) p az aL mg mb A₀ base av A (vS L) g L (d+1))(hu:A.units+8*(d+1)+64<cLine)(o:O×Loc){W M:Str}{k n:Nat}{st:WS}(hw:W.length<=100000)(hk:k<W.length)(vG:Oe n st)(hn:n<=400000):
   gy ai w A (cz C g L (aZ (L+1) (aF (aW 25)).names [])) (vS L) Ec o (("k",.int (k:Int))::D6 st W M) (aC (zm 2))
     (o,("two",.str (lH M W k st).two)::("one",.str (lH M W k st).one)::("bare",.str (lH M W k st).bare)::("ago",.str st.two)::vR (.list ((dK (dY M st (dW W k)) (lJ st (dW W k)) (lF W k st (dW W k))).map .str)) (lF W k st (dW W k)) (lJ st (dW W k)) (dW W k) k st W M,.next):=by
 have IK:=AD (ai:=ai) (w:=w) C [] (locs (aF (aW 25))) (fun _ h=>h) (fun _ h=>by cases h) R hu
 have hwo:strOk W=true:=g8 hw (by decide)
 have hc:=CY hk
 have zc:strOk (dW W k)=true:=g8 (Nat.le_of_eq hc) (by decide)
 have b0:=(OU O o L W M k st).trans (ct (af hwo (af (decide_eq_true (by lia)) (af (decide_eq_true (by lia)) rfl))))
 generalize E8:dW W k=c at hc zc b0
 have Gr:=Qa vG hc
 have F0:=O1 (W:=W) (k:=k) vG hc
 have hso:strOk st.one=true:=g8 vG.one (by lia)
 have b1:cu bE (BP O) (vS L) none 30 o (("sign",.str c)::("k",.int (k:Int))::D6 st W M) (jT 1) (fun o ρ fl=>some (o,ρ,fl))=sm o (Xp (lJ st c) c k st W M) .next:=by
   (rewrite [OT]; refine af hso (af zc ?_))
   unfold lJ
   cases (!bw c "'") <;> rfl
 have XK:=Hy (M:=M) vG hc
 have NR:=NV XK Gr F0
 have Ti:∀ys:List Str,ys.length<=100000->iG ys.length=true:=fun _ h=>c9 h
 have hol:(lJ st c).length<=1:=by unfold lJ; cases (!bw c "'") <;> simp
 have htl:(lF W k st c).length<=2:=by unfold lF; cases (rP W k&& !aG "\"\\" c) <;> simp
 generalize MP:lJ st c=os at Gr b1 NR hol
 generalize hts:lF W k st c=ts at F0 NR htl
 have b4:cu bE (BP O) (vS L) none 30 o (Xo ts os c k st W M) (jT 4) (fun o ρ fl=>some (o,ρ,fl))=sm o (vR (.list [.str (dY M st c)]) ts os c k st W M) .next:=by
   have e1:strOk st.bare=true:=g8 vG.bare (by lia)
   have e2:strOk (st.bare++"\\")=true:=g8 (n:=n+1) (by(rewrite [len_app]; refine af (show("\\":Str).length=1 from rfl) ?_); have:=vG.bare; lia) (by lia)
   (rewrite [OR]; refine af e1 (af e2 (af zc ?_)))
   unfold dY
   cases g9 true M c <;> rfl
 have aos:=yH (n:=n+2) (by lia) Gr
 have ats:=yH (n:=n+3) (by lia) F0
 have abs:=yH (n:=n+4) (by lia) NR
 have b5:cK ai w A (cz C g L (aZ (L+1) (aF (aW 25)).names [])) (vS L) Ec o (vR (.list [.str (dY M st c)]) ts os c k st W M) (jT 5) (o,("bares",.list ((dK (dY M st c) os ts).map .str))::vR (.list [.str (dY M st c)]) ts os c k st W M,.next):=by
   refine af J0 ?_
   refine oB IK (by kernel_rfl) rfl ?_
   have c1:=(IK.fh o).Hl (vR (.list [.str (dY M st c)]) ts os c k st W M) (bR (bL (cJ (jT 5)))) _ (show OV O o _ _=_ from OM O o W M c k st (.list [.str (dY M st c)]) ts os aos (Ti os (by lia)))
   have c2:=(IK.fh o).Hl (vR (.list [.str (dY M st c)]) ts os c k st W M) (bR (cJ (jT 5))) _ (show OV O o _ _=_ from OL O o W M c k st (.list [.str (dY M st c)]) ts os ats (Ti ts (by lia)))
   have hx:bq ai w A (cz C g L (aZ (L+1) (aF (aW 25)).names [])) o (vS L) (vR (.list [.str (dY M st c)]) ts os c k st W M) (.Name "bares" (bP (bL (bL (cJ (jT 5)))))) (.list [.str (dY M st c)]):=iB (IK.fh o).wk (by kernel_rfl)
   have l1:=Bs (p:=bP (bL (cJ (jT 5)))) (op:=.Add) hx c1 (v:=.list ([.str (dY M st c)]++(os.map fun y:Str=>y++("'":Str)).map .str)) (by
     show some (iG _,_)=_
     (rewrite [bM,bM]; refine af (show iG (List.length [.str (dY M st c)]+os.length)=true from c9 (by simp; lia)) ?_; rfl))
   have l2:=Bs (p:=bP (cJ (jT 5))) (op:=.Add) l1 c2 (v:=.list (([.str (dY M st c)]++(os.map fun y:Str=>y++("'":Str)).map .str)++(ts.map fun y:Str=>y++("\"":Str)).map .str)) (by
     show some (iG _,_)=_
     (refine af aR ?_; rewrite [bM,bM,bM,bM]; refine af (show iG (List.length [.str (dY M st c)]+os.length+ts.length)=true from c9 (by simp; lia)) ?_; rfl))
   have e:((dK (dY M st c) os ts).map .str:List V)=([.str (dY M st c)]++(os.map fun y:Str=>y++("'":Str)).map .str)++(ts.map fun y:Str=>y++("\"":Str)).map .str:=by
     unfold dK; exact af jL (af jL rfl)
   exact af e l2
 have hbl:(dK (dY M st c) os ts).length<=100000:=by unfold dK; simp; lia
 have hb2:(shortest (dK (dY M st c) os ts)).length<=n+2:=cg ((mW (by simp[dK])).2 _ (by unfold dK; exact aH _ (aH _ (.head _)))) XK
 have hbs:=xq (ys:=dK (dY M st c) os ts) (by simp[dK]) abs hbl
 have Ww:strOk (shortest (dK (dY M st c) os ts))=true:=g8 hb2 (by lia)
 generalize hbb:shortest (dK (dY M st c) os ts)=b at hb2 hbs Ww
 have l8:∀y∈os++[b++("'":Str)],y.length<=n+4:=fun y hy=>by
   rcases bu.mp hy with hy|hy
   . have:=Gr y hy; lia
   . (refine af (aY.mp hy) ?_; rewrite [len_app]; refine af (show("'":Str).length=1 from rfl) ?_); lia
 have l9:∀y∈ts++[b++("\"":Str)],y.length<=n+4:=fun y hy=>by
   rcases bu.mp hy with hy|hy
   . have:=F0 y hy; lia
   . (refine af (aY.mp hy) ?_; rewrite [len_app]; refine af (show("\"":Str).length=1 from rfl) ?_); lia
 have h8:=xq (ys:=os++[b++("'":Str)]) (by simp) (yH (by lia) l8) (by simp; lia)
 have h9:=xq (ys:=ts++[b++("\"":Str)]) (by simp) (yH (by lia) l9) (by simp; lia)
 rw[jL]at h8 h9
 have b7:cu bE (BP O) (vS L) none 30 o (("ago",.str st.two)::vR (.list ((dK (dY M st c) os ts).map .str)) ts os c k st W M) (jT 7) (fun o ρ fl=>some (o,ρ,fl))=sm o (("bare",.str b)::("ago",.str st.two)::vR (.list ((dK (dY M st c) os ts).map .str)) ts os c k st W M) .next:=by
   (rewrite [OP]; refine af hbs ?_); rfl
 have b8:cu bE (BP O) (vS L) none 30 o (("bare",.str b)::("ago",.str st.two)::vR (.list ((dK (dY M st c) os ts).map .str)) ts os c k st W M) (jT 8) (fun o ρ fl=>some (o,ρ,fl))=sm o (("one",.str (shortest (os++[b++("'":Str)])))::("bare",.str b)::("ago",.str st.two)::vR (.list ((dK (dY M st c) os ts).map .str)) ts os c k st W M) .next:=by
   (rewrite [OO,bM]; refine af (show([.str (b++("'":Str))]:List V)=[b++("'":Str)].map .str from rfl) (af h8 (af (ok2 Ww (by decide)) (af (show iG (os.length+1)=true from c9 (by lia)) ?_)))); rfl
 have b9:cu bE (BP O) (vS L) none 30 o (("one",.str (shortest (os++[b++("'":Str)])))::("bare",.str b)::("ago",.str st.two)::vR (.list ((dK (dY M st c) os ts).map .str)) ts os c k st W M) (jT 9) (fun o ρ fl=>some (o,ρ,fl))=sm o (("two",.str (shortest (ts++[b++("\"":Str)])))::("one",.str (shortest (os++[b++("'":Str)])))::("bare",.str b)::("ago",.str st.two)::vR (.list ((dK (dY M st c) os ts).map .str)) ts os c k st W M) .next:=by
   (rewrite [ON,bM]; refine af (show([.str (b++("\"":Str))]:List V)=[b++("\"":Str)].map .str from rfl) (af h9 (af (ok2 Ww (by decide)) (af (show iG (ts.length+1)=true from c9 (by lia)) ?_)))); rfl
 have aat:lH M W k st=⟨b,shortest (os++[b++("'":Str)]),shortest (ts++[b++("\"":Str)]),st.two⟩:=by
   unfold lH
   dsimp only
   (refine af E8 (af MP (af hts (af hbb ?_))); rfl)
 have tail:gy ai w A (cz C g L (aZ (L+1) (aF (aW 25)).names [])) (vS L) Ec o (Xo ts os c k st W M) [jT 4,jT 5,jT 6,jT 7,jT 8,jT 9]
     (o,("two",.str (lH M W k st).two)::("one",.str (lH M W k st).one)::("bare",.str (lH M W k st).bare)::("ago",.str st.two)::vR (.list ((dK (dY M st c) os ts).map .str)) ts os c k st W M,.next):=by
   refine af aat ?_
   refine aQ (stK IK b4) (aQ b5 (ia (ρ':=vR (.list ((dK (dY M st c) os ts).map .str)) ts os c k st W M) (aQ (stK IK (OQ O o L W M c k st _ ts os)) (aQ (stK IK b7) (aQ (stK IK b8) (aQ (stK IK b9) ja)))) ?_))
   exact⟨rfl,rfl,rfl,rfl,rfl,rfl,rfl,rfl,rfl,rfl,rfl,trivial⟩
 refine af JV ?_
 refine aQ (stK IK b0) (aQ (stK IK b1) ?_)
 have hrm:∀x∈(locs (aF (aW 25))).erase "twos",x∈locs (aF (aW 25)):=fun x hx=>List.mem_of_mem_erase hx
 have IK2:=AD (ai:=ai) (w:=w) C [] ((locs (aF (aW 25))).erase "twos") hrm (fun q hq=>by cases hq) R hu
 have tw:=O3 vG hc hn
 cases hbk:(rP W k&& !aG "\"\\" c)with
 | false=>
   have ets:ts=[rU st c]:=by refine af hts.symm ?_; unfold lF; refine af hbk ?_; rfl
   refine aQ (oB IK (by kernel_rfl) rfl (Br (cC (by kernel_rfl) (iB (IK2.fh o).wk ((FJ O o W M c k st os).trans tw)) fC) (by simp))) ?_
   have e:([.str (rU st c)]:List V)=ts.map .str:=by exact af ets rfl
   refine af e ?_
   refine aQ (jY (c:=false) (ou (IK.fh o).wk ((JW O o W M c k st os (.list (ts.map .str))).trans ((As hwo hk c).trans (by(refine af hbk ?_; rfl))))) ?_) tail
   exact ja
 | true=>
   have ets:ts=[rU st c,st.sE++"\\"++c]:=by refine af hts.symm ?_; unfold lF; refine af hbk ?_; rfl
   have sE:(bif strOk st.sE&&strOk "\\" then bif strOk (st.sE++"\\")&&strOk c then some (eK (st.sE++"\\"++c))else none else none)=some (.str (st.sE++"\\"++c)):=by
     have e1:strOk st.sE=true:=g8 vG.sE (by lia)
     have e2:strOk (st.sE++"\\")=true:=g8 (n:=n+2) (by(rewrite [len_app]; refine af (show("\\":Str).length=1 from rfl) ?_); have:=vG.sE; lia) (by lia)
     exact af e1 (af e2 (af zc rfl))
   have IK':=fun(C:Cx O) (a:Addr)=>AD (ai:=ai) (w:=w) C [("twos",.ref a)] ((locs (aF (aW 25))).erase "twos") hrm (fun q hq=>by refine af (aY.mp hq) ?_; exact(by decide +kernel:((locs (aF (aW 25))).erase "twos").contains "twos"=false)) R hu
   refine RE (ds:=[.str (rU st c)]) (d:=.str (st.sE++"\\"++c)) R.hk R.hi (by kernel_rfl) (by decide) R.hl rfl (by kernel_rfl) (by kernel_rfl) (cC (by kernel_rfl) (iB (IK2.fh o).wk ((FJ O o W M c k st os).trans tw)) fC) (by simp)
     (fun Y cG a=>ou ((IK' (CT C Y cG) a).fh o).wk ((OS O o W M c k st os).trans ((As hwo hk c).trans (by(refine af hbk ?_; rfl))))) (fun Y cG a=>iB ((IK' (CT C Y cG) a).fh o).wk ((JX O o W M c k st os).trans sE)) ?_
   have e:([.str (rU st c)]++[.str (st.sE++"\\"++c)]:List V)=ts.map .str:=by exact af ets rfl
   exact af e tail
end
noncomputable def aSS(l:List V):Option (Str×Str):=opt (two l) (fun q=>opt (strOf q.1) (fun a=>opt (strOf q.2) (fun b=>some (a,b)) none) none) none
theorem N5(h:aSS l=some x):l=[.str x.1,.str x.2]:=by
 refine au (aq h) fun q h1 h=>?_
 refine au (aq h) fun a h2 h=>?_
 refine au (aq h) fun b h3 h=>?_
 (refine af (rS h1) (af (cS h2) (af (cS h3) (af ((sj h).symm) ?_))); rfl)
noncomputable def FL(l:List V):Option (Bool×V):=opt (aSS l) (fun q=>some (iG q.1.length,.str (ve q.2 q.1))) none
section
variable {P:aD}{base g:aE}{L:Addr}
theorem wV(R:cH (eG P) p az aL mg mb A₀ base av A (vS L) g L (d+1))(hu:A.units+8*(d+1)+64<cLine)(o:O×Loc){W M:Str}(hw:W.length<=100000):∀(ks:List Nat) (st:WS) (n:Nat),(∀k∈ks,k<W.length)->Oe n st->n+2*ks.length<=400000->
   rg ai w A C (vS L) Ec g L (aZ (L+1) (aF (aW 25)).names []) "k" (aC (zm 2)) (o,D6 (tX M W ks st) W M,.next) (ks.map fun(k:Nat)=>.int (k:Int)) o (D6 st W M)
 | [],_,_,_,_,_=>.stop rfl
 | k::ks,st,n,hk,vG,hn=>by
   refine af eZ ?_
   rw[dg]at hn
   have MV:=hk k (.head _)
   refine .more (fun Y cG=>HH (CT C Y cG) R hu o hw MV vG (by lia)) (.inl rfl) (eF:=D6 (lH M W k st) W M) ⟨rfl,rfl,rfl,rfl,rfl,rfl,trivial⟩ (wV R hu o hw ks (lH M W k st) (n+2) (fun j hj=>hk j (.tail _ hj)) (F8 vG MV) (by lia))
theorem HJ(d:Nat):mP ai w (eG P) p az aL mg mb "_law_word" (d+2) FL:=by
 refine nL (f:=759) (name:="_law_word") (dV:=.none) (kV:=.none) (doc:=.none) (pm:=.str "law_in0035_01" 1142) (an:=none) (ct:=.none) (oc:=.type "function") (od:=none) (osl:= #[]) (qual:="_law_word") (scope:=aF (aW 25)) (params:=nU (aW 25)) (body:=aC (aW 25)) (cdv:=.ref 758) (xs:=["word","marks"]) (by kernel_rfl) (by decide) (by kernel_rfl) (by kernel_rfl)
   (fun vs s hl=>?_) (by decide +kernel) (by decide +kernel) (by kernel_rfl) (by kernel_rfl) (by kernel_rfl) (fun ds r h=>?_) (fun {O C A₀ base g av A L} o ds r h R hu=>?_)
 . refine OC (VS hl) fun a b iU=>?_
   subst iU
   exact iN (by kernel_rfl)
 . refine au (aq h) fun q h1 _=>?_
   exact af (N5 h1) rfl
 . refine au (aq h) fun fZ h1 h=>?_
   obtain⟨W,M⟩:=fZ
   refine bx (cR (sj h)) fun hz e=>?_
   refine af (N5 h1) (af e.symm ?_)
   have hw:=oi hz
   have IK:=AD (ai:=ai) (w:=w) C [] (locs (aF (aW 25))) (fun _ h=>h) (fun _ h=>by cases h) R hu
   have e0:bindLV (kdOf (aF (aW 25))) ((["word","marks"]:List Str).zip ([.str W,.str M]:List V)) []=([("marks",.str M),("word",.str W)]:Loc):=by kernel_rfl
   dsimp only
   refine af e0 (af OI ?_)
   unfold ve
   cases he:bw W "" with
   |true=>exact⟨_,_,lQ (stK IK ((J1 O (o,[]) L W M).trans (ct he))) fun _ _ e=>by cases e⟩
   | false=>
     have it:qi ai w A (cz C g L (aZ (L+1) (aF (aW 25)).names [])) (o,[]) (vS L) (D6 ⟨"","'","\"",""⟩ W M) (cJ (zm 2)) (j3 W.length):=by
       exact af OH (z9 (C:=cz C g L (aZ (L+1) (aF (aW 25)).names [])) R ⟨R.hk,R.hg,R.hb⟩ (by kernel_rfl) (by kernel_rfl) (by kernel_rfl) hw (iB (IK.fh (o,[])).wk ((JS O (o,[]) W M ⟨"","'","\"",""⟩).trans (ct (g8 hw (by decide))))))
     have h2:=Eo (px:=mZ (gO (zm 2))) (pos:=qZ (zm 2)) (x:="k") R.hk (by kernel_rfl) R.hl (by kernel_rfl) it (wV R hu (o,[]) hw (eU W.length) ⟨"","'","\"",""⟩ 0 (fun k hk=>kP.mp hk) ⟨by decide,by decide,by decide,by decide⟩ (by refine af List.length_range ?_; lia))
     refine⟨_,_,aQ (stK IK ((J1 O (o,[]) L W M).trans (cf he))) (aQ (stK IK (Ub O (o,[]) L W M)) (ia (ρ':=D6 ⟨"","'","\"",""⟩ W M) (aQ h2 (DT IK (Ua O (o,[]) L W M _))) ⟨rfl,rfl,rfl,rfl,rfl,rfl,trivial⟩))⟩
end
noncomputable def iE(e:Expr):Expr:=(um e).headD zE
noncomputable def mF(T:Str):Str:=di T none (some 1)
noncomputable def kindS(aa:Bool)(M T:Str):Str:=
 cond (!bw (mF T) ""&&T.cps.toList.all fun n=>aG M (S [n])) "run" (cond ([("'":Str),("\"":Str)].any (· ==mF T)) (cond (Txt.find3 T (mF T) 1==(T.length:Int)-1) "mark" "")
   (cond (bw (mF T) ""||(aG " \t\r\n#" (mF T)||(aa&&bw (mF T) "\\"))) "" (cond (!g9 aa M (mF T)) (cond ((T.length:Int)==1) "lone" "")
     (cond (T.cps.toList.all fun n=> !(!aG "'\"" (S [n])&& !g9 aa M (S [n]))) "word" ""))))
noncomputable abbrev kiT:List (Str×(List V->Option (Bool×V))):=[("len",Mh),("_law_cheap",Fv)]
noncomputable abbrev kiC:List Str:=["marks","posix"]
noncomputable abbrev JG(L:Addr):Env:=wD 26 "_law_kind" 764 763 L
noncomputable abbrev Q3(O:Type):pD (O×Loc):=IA O 26 kiC kiT 1
noncomputable abbrev uo(i:Nat):Stmt:=gK (aC (aW 26)) i
noncomputable abbrev qw(o:O)(aa:Bool)(M:Str):O×Loc:=(o,[("marks",.str M),("posix",.bool aa)])
noncomputable abbrev Q4(O:Type)(o:O×Loc)(ρ:Loc)(e:Expr):Option V:=lM kiT 1 (aF (aW 26)) (An O kiC o) ρ (Ak (DP O (locs (aF (aW 26))) kiC kiT (aF (aW 26)) o) ρ) e
noncomputable abbrev qV(h T:Str):Loc:=[("head",.str h),("token",.str T)]
noncomputable abbrev ZS:Expr:=bL ((um (cJ (uo 1))).getD 1 zE)
noncomputable abbrev ZR:Expr:=bL (bL (cJ (uo 5)))
noncomputable def EK(c:V):Option Bool:=opt (iT .Eq c (.list [])) (fun q=>gate true (bE q.1 (dj bE none q.2 some) none) none) (opt (lP .Eq c (.list [])) (fun v=>dj bE none v some) none)
theorem LI{α:Type}(c:α->V)(X:List α)(h:∀a∈X,kqdOk 8 (c a)=true):EK (.list (X.map c))=some X.isEmpty:=by
 have h1:(kqdOk 9 (.list (X.map c))&&kqdOk 9 (.list []))=true:=by
   simp only[kqdOk,List.all_nil,Bool.and_true,dH,bZ]
   rintro d ⟨a,ha,rfl⟩
   exact h a ha
 have h2:iT .Eq (.list (X.map c)) (.list [])=some (true,.bool X.isEmpty):=by
   refine congrArg some (Prod.ext h1 (congrArg Dat.bool ?_))
   cases X with
   |nil=>simp
   |cons a r=>simp
 show opt (iT .Eq (.list (X.map c)) (.list [])) _ _=_
 refine af h2 ?_; rfl
section
variable (O:Type)(o:O)(L:Addr)(M T h:Str)(aa:Bool)
theorem V1:cu bE (Q3 O) (JG L) none 30 (qw o aa M) [("token",.str T)] (uo 0) (fun o ρ fl=>some (o,ρ,fl))=bE (strOk T) (sm (qw o aa M) (qV (mF T) T) .next) none:=by kernel_rfl
theorem QY:jZ bE ((Q3 O).fh (qw o aa M)) (qV h T) none 12 (cJ (uo 1)) (fun v=>dj bE none v some)=
 bif !bw h "" then opt (Q4 O (qw o aa M) (qV h T) ZS) EK none else some false:=by kernel_rfl
theorem My:uo 1= .If (cJ (uo 1)) (aC (uo 1)) [] (qZ (uo 1)):=by kernel_rfl
theorem Q2:d7 bE (Q3 O) (JG L) none 30 (qw o aa M) (qV h T) (aC (uo 1)) (fun o ρ fl=>some (o,ρ,fl))=sm (qw o aa M) (qV h T) (.ret (.str "run")):=by kernel_rfl
theorem Mx:cu bE (Q3 O) (JG L) none 30 (qw o aa M) (qV h T) (uo 2) (fun o ρ fl=>some (o,ρ,fl))=
 bif [("'":Str),("\"":Str)].any (· ==h)then bif strOk T then bif Txt.find3 T h 1==(T.length:Int)-1 then sm (qw o aa M) (qV h T) (.ret (.str "mark"))else sm (qw o aa M) (qV h T) (.ret (.str ""))else none else sm (qw o aa M) (qV h T) .next:=by kernel_rfl
theorem V0:cu bE (Q3 O) (JG L) none 30 (qw o aa M) (qV h T) (uo 3) (fun o ρ fl=>some (o,ρ,fl))=
 bif bw h "" then sm (qw o aa M) (qV h T) (.ret (.str ""))else bif aG " \t\r\n#" h then sm (qw o aa M) (qV h T) (.ret (.str ""))else bif aa then bif bw h "\\" then sm (qw o aa M) (qV h T) (.ret (.str ""))else sm (qw o aa M) (qV h T) .next else sm (qw o aa M) (qV h T) .next:=by kernel_rfl
theorem Mw:cu bE (Q3 O) (JG L) none 30 (qw o aa M) (qV h T) (uo 4) (fun o ρ fl=>some (o,ρ,fl))=
 bif !g9 aa M h then bif strOk T then bif (T.length:Int)==1 then sm (qw o aa M) (qV h T) (.ret (.str "lone"))else sm (qw o aa M) (qV h T) (.ret (.str ""))else none else sm (qw o aa M) (qV h T) .next:=by kernel_rfl
theorem QX:jZ bE ((Q3 O).fh (qw o aa M)) (qV h T) none 12 (bL (cJ (uo 5))) (fun v=>dj bE none v some)=opt (Q4 O (qw o aa M) (qV h T) ZR) EK none:=by kernel_rfl
theorem VZ:uo 5= .Return (some (.IfExp (bL (cJ (uo 5))) (.Constant (.str "word") 0 (bP (bR (cJ (uo 5))))) (.Constant (.str "") 0 (bP (iE (cJ (uo 5))))) (bP (cJ (uo 5))))) (qZ (uo 5)):=by kernel_rfl
end
theorem Px{T:Str}(h:kqdOk 8 (.str T)=true):∀n∈T.cps.toList,kqdOk 8 (.str (S [n]))=true:=fun n hn=>by
 have h:(T.cps.all fun c=>decide (c<0x110000))=true:=h
 rw[Array.all_eq_true_iff_forall_mem]at h
 have:=h n (by simpa using hn)
 show((#[n]:Array Nat).all fun c=>decide (c<0x110000))=true
 simpa using this
theorem XU{α:Type}(b:Bool)(x y:α):(bif b then some x else some y)=some (bif b then x else y):=by cases b <;> rfl
section
variable (O:Type)(o:O)(L:Addr)(M T h:Str)(aa:Bool)
theorem Q0(hz:iG T.length=true):Q4 O (qw o aa M) (qV h T) ZS=some (.list ((T.cps.toList.filter fun n=> !aG M (S [n])).map fun n=>.str (S [n]))):=by
 refine fV (x:="sign") (ds:=jw T) (by kernel_rfl) (by kernel_rfl) (by kernel_rfl) ?_ ?_
 . refine bU (b:=gate (iG (jw T).length) (some (jw T)) none) (by kernel_rfl) ?_
   (rewrite [<-sz]; refine af (show T.cps.size=T.length from rfl) (af hz ?_)); rfl
 . refine gU fun n _=>?_
   exact bU (b:=bif !aG M (S [n])then some (some (.str (S [n])))else some none) (by kernel_rfl) (XU _ _ _)
theorem QZ(hz:iG T.length=true):Q4 O (qw o aa M) (qV h T) ZR=some (.list ((T.cps.toList.filter fun n=> !aG "'\"" (S [n])&& !g9 aa M (S [n])).map fun n=>.str (S [n]))):=by
 refine fV (x:="sign") (ds:=jw T) (by kernel_rfl) (by kernel_rfl) (by kernel_rfl) ?_ ?_
 . refine bU (b:=gate (iG (jw T).length) (some (jw T)) none) (by kernel_rfl) ?_
   (rewrite [<-sz]; refine af (show T.cps.size=T.length from rfl) (af hz ?_)); rfl
 . refine gU fun n _=>?_
   refine bU (b:=bif !aG "'\"" (S [n])then bif !g9 aa M (S [n])then some (some (.str (S [n])))else some none else some none) (by kernel_rfl) ?_
   cases (!aG "'\"" (S [n])) <;> cases (!g9 aa M (S [n])) <;> rfl
end
theorem yi{α:Type}(p:α->Bool)(l:List α):(l.filter p).isEmpty=l.all fun a=> !p a:=by
 induction l with
 |nil=>rfl
 | cons a r ih=>
   refine af kQ (af fQ ?_)
   cases h:p a with
   |true=>rfl
   |false=>exact ih
noncomputable def GL(l:List V):Option (Bool×V):=opt (Xd l) (fun q=>some (iG q.1.length&&kqdOk 8 (.str q.1),.str (kindS q.2.1 q.2.2 q.1))) none
section
variable {P:aD}
theorem G4{k:Nat}{nm:String}{fa cd:Nat}{L:Addr}{cells:List Str}(h:(cells.all fun x=>(aF (aW k)).names.lookup x==some .cell&&x !="__debug__")=true):∀x∈cells,(wD k nm fa cd L).kindOf x=some .cell/\(x==("__debug__":Str))=false/\∃c,(wD k nm fa cd L).cells.lookup x=some c/\(wD k nm fa cd L).cells.lookup x=some c:=fun x hx=>by
 have h1:=dH.mp h x hx
 rw[aM]at h1
 have h2:=eq_of_beq h1.1
 obtain⟨c,hc⟩:=Option.isSome_iff_exists.mp (cellsFrom_some _ _ _ (.inl h2))
 exact⟨h2,by simpa using h1.2,c,hc,hc⟩
theorem IQ(d:Nat):mP ai w (eG P) p az aL mg mb "_law_kind" (d+2) GL:=by
 refine nL (f:=764) (name:="_law_kind") (dV:=.none) (kV:=.none) (doc:=.none) (pm:=.str "law_in0035_01" 1142) (an:=none) (ct:=.none) (oc:=.type "function") (od:=none) (osl:= #[]) (qual:="_law_kind") (scope:=aF (aW 26)) (params:=nU (aW 26)) (body:=aC (aW 26)) (cdv:=.ref 763) (xs:=["token","posix","marks"]) (by kernel_rfl) (by decide) (by kernel_rfl) (by kernel_rfl)
   (fun vs s hl=>?_) (by decide +kernel) (by decide +kernel) (by kernel_rfl) (by kernel_rfl) (by kernel_rfl) (fun ds r h=>?_) (fun {O C A₀ base g av A L} o ds r h R hu=>?_)
 . refine Ea (QN hl) fun a b c jU=>?_
   subst jU
   exact iN (by kernel_rfl)
 . refine au (aq h) fun q h1 _=>?_
   exact af (wQ h1) rfl
 . refine cp fun G' k'=>?_
   refine au (aq h) fun fZ h1 h=>?_
   obtain⟨T,aa,M⟩:=fZ
   refine bx (cR (sj h)) fun hz e=>?_
   refine k' ?_
   rw[aM]at hz
   refine af (wQ h1) (af e.symm ?_)
   dsimp only at hz |-
   have hT:strOk T=true:=g8 (oi hz.1) (by decide)
   have hq:=Px hz.2
   have IK:=yb (ai:=ai) (w:=w) (C:=C) (lv:=1) (cP:=kiT) (cells:=kiC) R hu (wK (qv _) (wK (yv d) TL)) ⟨qC (by decide +kernel),G4 (by decide +kernel)⟩
   have e0:bindLV (kdOf (aF (aW 26))) ((["token","posix","marks"]:List Str).zip ([.str T,.bool aa,.str M]:List V)) []=([("token",.str T)]:Loc):=by kernel_rfl
   have e1:sC (kdOf (aF (aW 26))) ((["token","posix","marks"]:List Str).zip ([.str T,.bool aa,.str M]:List V)) []=([("marks",.str M),("posix",.bool aa)]:Loc):=by kernel_rfl
   refine af e0 (af e1 ?_)
   have eb:aC (aW 26)=[uo 0,uo 1,uo 2,uo 3,uo 4,uo 5]:=by kernel_rfl
   refine af eb ?_
   have s0:=stK IK ((V1 O o L M T aa).trans (ct hT))
   have t1:jZ bE ((Q3 O).fh (qw o aa M)) (qV (mF T) T) none 12 (cJ (uo 1)) (fun v=>dj bE none v some)=(bif !bw (mF T) "" then some (T.cps.toList.all fun n=>aG M (S [n]))else some false):=by
     refine(QY O o M T (mF T) aa).trans ?_
     refine af (Q0 O o M T (mF T) aa hz.1) ?_
     have:=LI (fun n=>.str (S [n])) (T.cps.toList.filter fun n=> !aG M (S [n])) fun n hn=>hq n (mL.mp hn).1
     rw[yi]at this
     simp only[Bool.not_not]at this
     rw[show ∀x:V,opt (some x) EK none=EK x from fun _=>rfl,this]
   unfold kindS
   generalize hh:mF T=hd at s0 t1
   have stop:∀ {st:Stmt} {b:List Stmt} {v:V},cK ai w A (cz C g L (aZ (L+1) (aF (aW 26)).names [])) (JG L) (fun _ _ _ _=>False) (qw o aa M) (qV hd T) st (qw o aa M,qV hd T,.ret v)->∃c' ρ',gy ai w A (cz C g L (aZ (L+1) (aF (aW 26)).names [])) (JG L) (fun _ _ _ _=>False) (qw o aa M) (qV hd T) (st::b) ((o,c'),ρ',.ret v):=fun hs=>⟨_,_,lQ hs fun _ _ e=>by cases e⟩
   have next:∀ {st:Stmt} {b:List Stmt} {v:V},cK ai w A (cz C g L (aZ (L+1) (aF (aW 26)).names [])) (JG L) (fun _ _ _ _=>False) (qw o aa M) (qV hd T) st (qw o aa M,qV hd T,.next)->(∃c' ρ',gy ai w A (cz C g L (aZ (L+1) (aF (aW 26)).names [])) (JG L) (fun _ _ _ _=>False) (qw o aa M) (qV hd T) b ((o,c'),ρ',.ret v))->∃c' ρ',gy ai w A (cz C g L (aZ (L+1) (aF (aW 26)).names [])) (JG L) (fun _ _ _ _=>False) (qw o aa M) (qV hd T) (st::b) ((o,c'),ρ',.ret v):=fun hs ⟨c',ρ',hb⟩=>⟨c',ρ',aQ hs hb⟩
   have first:∀ {b:List Stmt} {v:V},(∃c' ρ',gy ai w A (cz C g L (aZ (L+1) (aF (aW 26)).names [])) (JG L) (fun _ _ _ _=>False) (qw o aa M) (qV hd T) b ((o,c'),ρ',.ret v))->∃c' ρ',gy ai w A (cz C g L (aZ (L+1) (aF (aW 26)).names [])) (JG L) (fun _ _ _ _=>False) (o,[("marks",.str M),("posix",.bool aa)]) [("token",.str T)] (uo 0::b) ((o,c'),ρ',.ret v):=fun⟨c',ρ',hb⟩=>⟨c',ρ',aQ s0 hb⟩
   refine first ?_
   cases h1:(!bw hd ""&&T.cps.toList.all fun n=>aG M (S [n]))with
   | true=>
     rw[aM]at h1
     refine stop ?_
     refine af My ?_
     refine jY (c:=true) (ou (IK.fh _).wk (t1.trans (af h1.1 (af h1.2 rfl)))) ?_
     exact DT IK (Q2 O o L M T hd aa)
   | false =>
     have h1':(bif !bw hd "" then some (T.cps.toList.all fun n=>aG M (S [n]))else some false)=some false:=by
       refine af h1.symm ?_; cases (!bw hd "") <;> rfl
     refine next (by
       refine af My ?_
       exact jY (c:=false) (ou (IK.fh _).wk (t1.trans h1')) ja) ?_
     cases h2:([("'":Str),("\"":Str)].any (· ==hd))with
     | true=>
       have k2:=(Mx O o L M T hd aa).trans ((ct h2).trans (ct hT))
       cases h3:(Txt.find3 T hd 1==(T.length:Int)-1)with
       |true=>exact stop (stK IK (k2.trans (ct h3)))
       |false=>exact stop (stK IK (k2.trans (cf h3)))
     | false =>
       refine next (stK IK ((Mx O o L M T hd aa).trans (cf h2))) ?_
       have k3:=V0 O o L M T hd aa
       cases h3:(bw hd ""||(aG " \t\r\n#" hd||(aa&&bw hd "\\")))with
       | true=>
         refine stop (stK IK (k3.trans ?_))
         revert h3
         cases bw hd "" with
         |true=>intro _; rfl
         | false=>cases aG " \t\r\n#" hd with
           |true=>intro _; rfl
           | false=>cases aa with
             |false=>intro e; cases e
             | true=>cases bw hd "\\" with
               |true=>intro _; rfl
               |false=>intro e; cases e
       | false =>
         refine next (stK IK (k3.trans ?_)) ?_
         . revert h3
           cases bw hd "" with
           |true=>intro e; cases e
           | false=>cases aG " \t\r\n#" hd with
             |true=>intro e; cases e
             | false=>cases aa with
               |false=>intro _; rfl
               | true=>cases bw hd "\\" with
                 |true=>intro e; cases e
                 |false=>intro _; rfl
         . cases h4:(!g9 aa M hd)with
           | true=>
             have k4:=(Mw O o L M T hd aa).trans ((ct h4).trans (ct hT))
             cases h5:((T.length:Int)==1)with
             |true=>exact stop (stK IK (k4.trans (ct h5)))
             |false=>exact stop (stK IK (k4.trans (cf h5)))
           | false=>
             refine next (stK IK ((Mw O o L M T hd aa).trans (cf h4))) ?_
             refine stop ?_
             refine af VZ ?_
             have t5:jZ bE ((Q3 O).fh (qw o aa M)) (qV hd T) none 12 (bL (cJ (uo 5))) (fun v=>dj bE none v some)=some (T.cps.toList.all fun n=> !(!aG "'\"" (S [n])&& !g9 aa M (S [n]))):=by
               refine(QX O o M T hd aa).trans ?_
               refine af (QZ O o M T hd aa hz.1) ?_
               have:=LI (fun n=>.str (S [n])) (T.cps.toList.filter fun n=> !aG "'\"" (S [n])&& !g9 aa M (S [n])) fun n hn=>hq n (mL.mp hn).1
               rw[yi]at this
               rw[show ∀x:V,opt (some x) EK none=EK x from fun _=>rfl]
               exact this
             refine AP (Ds (ou (IK.fh _).wk t5) ?_)
             cases (T.cps.toList.all fun n=> !(!aG "'\"" (S [n])&& !g9 aa M (S [n])))with
             |true=>exact fq rfl
             |false=>exact fq rfl
end
noncomputable abbrev Ov:List (Str×(List V->Option (Bool×V))):=[("_law_kind",GL),("_law_word",FL),("_law_short",kX)]
noncomputable abbrev S8:List Str:=["ends","ways"]
noncomputable abbrev vE(L:Addr):Env:=wD 27 "_law_least" 769 768 L
noncomputable abbrev JE(O:Type):pD (O×Loc):=IA O 27 S8 Ov 2
noncomputable abbrev sd(i:Nat):Stmt:=gK (aC (aW 27)) i
noncomputable abbrev leB(i:Nat):Stmt:=gK (aC (sd 1)) i
noncomputable abbrev S7(i:Nat):Stmt:=gK (aC (leB 1)) i
noncomputable abbrev leN:Stmt:=gK (C3 (leB 1)) 0
noncomputable abbrev nA(x y:Str)(rw:V)(p:Bool)(M:Str):Loc:=[("text",.str x),("ahead",.str y),("row",rw),("posix",.bool p),("marks",.str M)]
noncomputable abbrev D7(o:O)(E:List V)(c:Loc):O×Loc:=(o,("ends",.list E)::c)
noncomputable abbrev zb(o:O)(E W:List V)(c:Loc):O×Loc:=(o,("ways",.list W)::("ends",.list E)::c)
noncomputable abbrev GI:Expr:=cJ (S7 1)
noncomputable abbrev QU:Expr:=(um (FD GI)).headD zE
noncomputable abbrev Mp(O:Type)(o:O×Loc)(ρ:Loc)(e:Expr):Option V:=lM Ov 2 (aF (aW 27)) (An O S8 o) ρ (Ak (DP O (locs (aF (aW 27))) S8 Ov (aF (aW 27)) o) ρ) e
noncomputable abbrev Gs(E:List V)(a:Int):Bool:=decide (0<=a)&&decide (a.toNat<E.length)&&iG E.length
noncomputable abbrev DX(x y:V)(k:V->Option (Option V)):Option (Option V):=opt (z7 .Add x y) (fun q=>bE q.1 (k q.2) none) (Sv bE none x y k)
section
variable (O:Type)(o:O)(L:Addr)(M T:Str)(p:Bool)(c ρ:Loc)(E W:List V)(rw:V)(x y kd:Str)
theorem Mm(a b:Int)(cv:Loc->Expr->Option V):vf (rF Ov (DS QU) "a" (.int a) (I3 (DS GI) "b" (.int b) (An O S8 (zb o E W c))) cv) ρ (FD QU) (jF QU).ifs=
 bE (Gs E a) (bE (pP (E.getD a.toNat .none)) (bE (Gs W b) (cond (pP (W.getD b.toNat .none))
   (bE (Gs E a) (bE (a==b) (bE (decide (b<2)) (DX (E.getD a.toNat .none) (.str " ") fun z=>bE (Gs W b) (DX z (W.getD b.toNat .none) fun v=>some (some v)) none) (DX (E.getD a.toNat .none) (.str "") fun z=>bE (Gs W b) (DX z (W.getD b.toNat .none) fun v=>some (some v)) none))
     (DX (E.getD a.toNat .none) (.str "") fun z=>bE (Gs W b) (DX z (W.getD b.toNat .none) fun v=>some (some v)) none)) none) (some none)) none) (some none)) none:=by kernel_rfl
theorem IJ(d:V)(cn:Str->Option V)(cv:Loc->Expr->Option V):vf (rF Ov (DS GI) "b" d cn cv) ρ (FD GI) (jF GI).ifs=opt (cv ρ QU) (fun c=>opt (kX [c]) (fun q=>bE q.1 (some (some q.2)) none) none) none:=by kernel_rfl
theorem CU(o:O×Loc):cu bE (JE O) (vE L) none 30 o (("token",.str T)::nA x y rw p M) (leB 0) (fun o ρ fl=>some (o,ρ,fl))=opt (GL [.str T,.bool p,.str M]) (fun q=>bE q.1 (sm o (("kind",q.2)::("token",.str T)::nA x y rw p M) .next) none) none:=by kernel_rfl
theorem CS:leB 1= .If (.Name "posix" (bP (cJ (leB 1)))) (aC (leB 1)) (C3 (leB 1)) (qZ (leB 1)):=by kernel_rfl
theorem tO:aC (leB 1)=[S7 0,S7 1]/\C3 (leB 1)=[leN]/\aC (sd 1)=[leB 0,leB 1]:=⟨by kernel_rfl,by kernel_rfl,by kernel_rfl⟩
theorem Mk:cu bE (JE O) (vE L) none 30 (D7 o E c) (("kind",.str kd)::("token",.str T)::nA x y rw p M) (S7 0) (fun o ρ fl=>some (o,ρ,fl))=
 opt (FL [.str T,.str M]) (fun q=>bE q.1 (bE (bw kd "run") (bE (bw kd "lone") (sm (zb o E [q.2,.str T,.str T] c) (("kind",.str kd)::("token",.str T)::nA x y rw p M) .next) (sm (zb o E [q.2,.str T,.none] c) (("kind",.str kd)::("token",.str T)::nA x y rw p M) .next))
   (bE (bw kd "lone") (sm (zb o E [q.2,.none,.str T] c) (("kind",.str kd)::("token",.str T)::nA x y rw p M) .next) (sm (zb o E [q.2,.none,.none] c) (("kind",.str kd)::("token",.str T)::nA x y rw p M) .next))) none) none:=by kernel_rfl
theorem Mj:S7 1= .Assign [.Name "ends" (bP (gO (S7 1)))] GI (qZ (S7 1)):=by kernel_rfl
theorem GG(o:O×Loc):cu bE (JE O) (vE L) none 30 o (("kind",.str kd)::("token",.str T)::nA x y rw p M) leN (fun o ρ fl=>some (o,ρ,fl))=
 bE (bw kd "") (sm o (("kind",.str kd)::("token",.str T)::nA x y rw p M) (.ret .none))
   (opt (iT .In (.list [.str y,.str kd]) (.list [.list [.str "word",.str "word"],.list [.str "word",.str "mark"],.list [.str "run",.str "run"]])) (fun q=>gate true (bE q.1 (dj bE none q.2 fun t=>bE t
     (bE (strOk x&&strOk " ") (bE (strOk (x++" ")&&strOk T) (sm o (("ahead",.str kd)::("text",.str (x++" "++T))::("kind",.str kd)::("token",.str T)::nA x y rw p M) .next) none) none)
     (bE (strOk x&&strOk "") (bE (strOk (x++"")&&strOk T) (sm o (("ahead",.str kd)::("text",.str (x++""++T))::("kind",.str kd)::("token",.str T)::nA x y rw p M) .next) none) none)) none) none) none):=by kernel_rfl
end
noncomputable def yY(a b:Nat):Str:=cond (a==b&&decide (b<2)) " " ""
noncomputable def Ug(e w:Option Str)(sep:Str):Option Str:=opt e (fun s=>opt w (fun t=>some (s++sep++t)) none) none
noncomputable def m7(Es:List (Option Str))(w:Option Str)(b:Nat):List Str:=(eU 3).filterMap fun a=>Ug (Es.getD a none) w (yY a b)
noncomputable def jW(M T kd:Str):List (Option Str):=[some (ve M T),cond (bw kd "run") (some T) none,cond (bw kd "lone") (some T) none]
noncomputable def pI(M T kd:Str)(Es:List (Option Str)):List (Option Str):=(eU 3).map fun b=>cZ none (m7 Es ((jW M T kd).getD b none) b)
theorem yu{α:Type}{c:α->V}{g:α->Option V}{l:List α}(h:∀a∈l,turn (c a)=some (g a)):iD turn (l.map c)=some (l.filterMap g):=by
 induction l with
 |nil=>rfl
 | cons a r ih=>
   show opt (turn (c a)) _ _=_
   refine af (h a (.head _)) ?_
   show opt (iD turn (r.map c)) _ _=_
   refine af (ih fun b hb=>h b (.tail _ hb)) (af List.filterMap_cons ?_)
   cases g a <;> rfl
theorem Dc(Es:List (Option Str))(a:Nat):(Es.map eH).getD a .none=eH (Es.getD a none):=by
 simp only[gn,List.getElem?_map]
 cases Es[a]? with
 |none=>rfl
 |some x=>rfl
theorem Lx{E:List V}{a:Nat}(h:E.length=3)(ha:a<3):Gs E (a:Int)=true:=by
 unfold Gs
 refine af h ?_
 simp only[aM,decide_eq_true_eq]
 exact⟨⟨by lia,by lia⟩,by decide⟩
theorem BQ{Es:List (Option Str)}{w:Option Str}{b:Nat}{y:Str}(h:y∈m7 Es w b):∃s t sep,some s∈Es/\w=some t/\sep.length<=1/\y=s++sep++t:=by
 unfold m7 at h
 refine au (List.mem_filterMap.mp h) fun a _ ha=>?_
 refine au (aq ha) fun s e1 ha=>?_
 refine au (aq ha) fun t e2 ha=>?_
 refine⟨s,t,yY a b,?_,e2,?_,(sj ha).symm⟩
 . rw[List.getD_eq_getElem?_getD]at e1
   cases e:Es[a]? with
   |none=>rw[e]at e1; exact nn e1
   | some x=>
     rw[e]at e1
     have:x=some s:=e1
     exact af this.symm (List.mem_of_getElem? e)
 . unfold yY
   cases (a==b&&decide (b<2)) <;> decide
section
variable (O:Type)(o:O)(L:Addr)(M T:Str)(p:Bool)(c ρ:Loc)(Es Ws:List (Option Str))(rw:V)(x y kd:Str)
theorem IL(a b:Nat)(ha:a<3)(hb:b<3)(hE:Es.length=3)(hW:Ws.length=3)(he:∀s,some s∈Es->s.length<=500000)(hw:∀t,some t∈Ws->t.length<=400000)(cv:Loc->Expr->Option V):
   vf (rF Ov (DS QU) "a" (.int (a:Int)) (I3 (DS GI) "b" (.int (b:Int)) (An O S8 (zb o (Es.map eH) (Ws.map eH) c))) cv) ρ (FD QU) (jF QU).ifs=some (opt (Ug (Es.getD a none) (Ws.getD b none) (yY a b)) (fun s=>some (.str s)) none):=by
 have Tv:∀s,Es.getD a none=some s->s.length<=500000:=fun s e=>he s (by
   have h:a<Es.length:=by lia
   have:Es[a]=some s:=by simpa [gn,h]using e
   refine af this.symm ?_; exact nZ h)
 have hw':∀s,Ws.getD b none=some s->s.length<=400000:=fun s e=>hw s (by
   have h:b<Ws.length:=by lia
   have:Ws[b]=some s:=by simpa [gn,h]using e
   refine af this.symm ?_; exact nZ h)
 (rewrite [Mm]; refine af (Lx (by simp[hE]) ha) (af (Lx (by simp[hW]) hb) ?_); rw[Int.toNat_natCast,Int.toNat_natCast,Dc,Dc])
 have e1:((a:Int)==(b:Int))=(a==b):=by
   by_cases h:a=b
   . refine af h ?_; simp
   . (refine af (beq_false_of_ne h) (af (beq_false_of_ne (by lia)) ?_); rfl)
 have e2:decide ((b:Int)<2)=decide (b<2):=by
   by_cases h:b<2
   . (refine af (decide_eq_true h) (af (decide_eq_true (by lia)) ?_); rfl)
   . (refine af (decide_eq_false h) (af (decide_eq_false (by lia)) ?_); rfl)
 refine af e1 (af e2 ?_)
 generalize Es.getD a none=e at Tv
 generalize Ws.getD b none=v at hw'
 cases e with
 |none=>rfl
 | some s=>cases v with
   |none=>rfl
   | some t=>
     have hs:=Tv s rfl
     have ht:=hw' t rfl
     have key:∀sep:Str,sep.length<=1->DX (eH (some s)) (.str sep) (fun z=>bE true (DX z (eH (some t)) fun v=>some (some v)) none)=some (some (.str (s++sep++t))):=fun sep h1=>by
       show bE (strOk s&&strOk sep) (bE true (bE (strOk (s++sep)&&strOk t) (some (some (eK (s++sep++t)))) none) none) none=_
       rw[g8 hs (by decide),g8 h1 (by decide),g8 ht (by decide),g8 (n:=500001) (by rw[len_app]; lia) (by decide)]; rfl
     unfold yY
     cases (a==b)with
     |false=>exact key "" (by decide)
     | true=>cases decide (b<2)with
       |true=>exact key " " (by decide)
       |false=>exact key "" (by decide)
theorem CR(b:Nat)(hb:b<3)(hE:Es.length=3)(hW:Ws.length=3)(he:∀s,some s∈Es->s.length<=500000)(hw:∀t,some t∈Ws->t.length<=400000)(ev:Expr->Option V)(h4:xZ (DS GI) ev (jF QU).iter=some (j3 3)):
   lM Ov 1 (DS GI) (I3 (DS GI) "b" (.int (b:Int)) (An O S8 (zb o (Es.map eH) (Ws.map eH) c))) ρ ev QU=some (.list ((m7 Es (Ws.getD b none) b).map .str)):=by
 refine fV (x:="a") (ds:=j3 3) (by kernel_rfl) (by kernel_rfl) (by kernel_rfl) h4 ?_
 refine bU (yu (c:=fun k:Nat=>.int (k:Int)) (l:=eU 3) (g:=fun a=>opt (Ug (Es.getD a none) (Ws.getD b none) (yY a b)) (fun s=>some (.str s)) none) fun a ha=>?_) (congrArg some ?_)
 . exact IL O o c ρ Es Ws a b (kP.mp ha) hb hE hW he hw _
 unfold m7
 refine af List.map_filterMap ?_
 congr 1
theorem ES(hE:Es.length=3)(hW:Ws.length=3)(he:∀s,some s∈Es->s.length<=500000)(hw:∀t,some t∈Ws->t.length<=400000):
   Mp O (zb o (Es.map eH) (Ws.map eH) c) ρ GI=some (.list (((eU 3).map fun b=>cZ none (m7 Es (Ws.getD b none) b)).map eH)):=by
 refine fV (x:="b") (ds:=j3 3) (by kernel_rfl) (by kernel_rfl) (by kernel_rfl) (by kernel_rfl) ?_
 refine af fL ?_
 refine j7 (c:=fun k:Nat=>.int (k:Int)) (l:=eU 3) fun b hb=>?_
 have hb:=kP.mp hb
 rw[IJ]
 have h:=CR O o c ρ Es Ws b hb hE hW he hw (Ak (rF Ov (DS GI) "b" (.int (b:Int)) (An O S8 (zb o (Es.map eH) (Ws.map eH) c)) (fun _ _=>none)) ρ) (by kernel_rfl)
 refine(congrArg (fun z=>opt z (fun c=>opt (kX [c]) (fun q=>bE q.1 (some (some q.2)) none) none) none) h).trans ?_
 have hs:(m7 Es (Ws.getD b none) b).all strOk=true:=dH.mpr fun y hy=>by
   refine yU (BQ hy) fun s t sep h1 h2 h3 e'6=>?_
   subst e'6
   have hm:some t∈Ws:=by
     have jl:b<Ws.length:=by lia
     have:Ws[b]=some t:=by simpa [gn,jl]using h2
     exact af this.symm (nZ jl)
   have:=he s h1
   have:=hw t hm
   exact g8 (n:=900001) (by rw[len_app,len_app]; lia) (by decide)
 have hl:(m7 Es (Ws.getD b none) b).length<=3:=by unfold m7; exact cg (List.length_filterMap_le _ _) (by simp)
 have hz:iG ((m7 Es (Ws.getD b none) b).map eK).length=true:=c9 (by rw[bM]; lia)
 show opt (opt (lB ((m7 Es (Ws.getD b none) b).map .str)) (fun ys=>some (ys.all strOk&&iG ((m7 Es (Ws.getD b none) b).map eK).length,eH (cZ none ys))) none) (fun q=>bE q.1 (some (some q.2)) none) none=_
 (rewrite [qI]; refine af hz ?_)
 show bE ((m7 Es (Ws.getD b none) b).all strOk&&true) _ none=_
 exact af hs rfl
end
theorem B5{a b:Str}(h:bw a b=true):a=b:=by
 unfold bw at h
 have:=eq_of_beq h
 (refine af (sG a) (af (sG b) (af this ?_)); rfl)
noncomputable def o6(ah kd:Str):Bool:=(bw ah "word"&&(bw kd "word"||bw kd "mark"))||(bw ah "run"&&bw kd "run")
noncomputable def gG(M:Str):List Str->List (Option Str)->List (Option Str)
 | [],E=>E
 |T::r,E=>gG M r (pI M T (kindS true M T) E)
noncomputable def leRaw(M:Str):List Str->Str->Str->Option Str
 | [],x,_=>some x
 |T::r,x,y=>cond (bw (kindS false M T) "") none (leRaw M r (x++cond (o6 y (kindS false M T)) " " ""++T) (kindS false M T))
noncomputable def fU(p:Bool)(M:Str)(row:List Str):Option Str:=cond p (cZ none ((gG M row [none,none,some ""]).filterMap id)) (leRaw M row "" "")
noncomputable def oJ:List Str:=["run","mark","lone","word",""]
theorem IT(p:Bool)(M T:Str):kindS p M T∈oJ:=by
 have h:∀(b:Bool) (x y:Str),x∈oJ->y∈oJ->cond b x y∈oJ:=fun b x y hx hy=>by cases b; exact hy; exact hx
 unfold kindS
 refine h _ _ _ (by decide +kernel) (h _ _ _ (h _ _ _ (by decide +kernel) (by decide +kernel)) (h _ _ _ (by decide +kernel) (h _ _ _ (h _ _ _ (by decide +kernel) (by decide +kernel)) (h _ _ _ (by decide +kernel) (by decide +kernel)))))
theorem GK{x:Str}(h:x∈oJ):kqdOk 8 (.str x)=true:=by
 have:oJ.all (fun x=>kqdOk 8 (.str x))=true:=by decide +kernel
 exact dH.mp this x h
theorem Gn{a b:Str}:(.list [.str a,.str b]∈([.list [.str "word",.str "word"],.list [.str "word",.str "mark"],.list [.str "run",.str "run"]]:List V))↔o6 a b=true:=by
 unfold o6
 have e:∀x:Str,∀y:Str,(bw x y=true)↔x=y:=fun x y=>⟨B5,fun e=>by subst e; unfold bw; exact beq_self_eq_true _⟩
 simp only[aB,eS,or_false,Dat.list.injEq,List.cons.injEq,eK.injEq,and_true,Bool.or_eq_true,aM,e]
 constructor
 . rintro(⟨h1,h2⟩|⟨h1,h2⟩|⟨h1,h2⟩)
   . exact .inl ⟨h1,.inl h2⟩
   . exact .inl ⟨h1,.inr h2⟩
   . exact .inr ⟨h1,h2⟩
 . rintro(⟨h1,h2|h2⟩|⟨h1,h2⟩)
   . exact .inl ⟨h1,h2⟩
   . exact .inr (.inl ⟨h1,h2⟩)
   . exact .inr (.inr ⟨h1,h2⟩)
theorem Q5{a b:Str}(ha:a∈oJ)(hb:b∈oJ):iT .In (.list [.str a,.str b]) (.list [.list [.str "word",.str "word"],.list [.str "word",.str "mark"],.list [.str "run",.str "run"]])=some (true,.bool (o6 a b)):=by
 refine congrArg some (Prod.ext ?_ (congrArg Dat.bool ?_))
 . have e:kqdOk 9 (.list [.list [.str "word",.str "word"],.list [.str "word",.str "mark"],.list [.str "run",.str "run"]])=true:=by decide +kernel
   have e2:kqdOk 8 (.list [.str a,.str b])=true:=by
     have h1:=GK ha
     have h2:=GK hb
     simp only[kqdOk,fQ,List.all_nil,Bool.and_true,aM]at h1 h2 |-
     exact⟨h1,h2⟩
   show(kqdOk 9 _&&kqdOk 8 _)=true
   refine af e (af e2 ?_); rfl
 . cases h:o6 a b with
   |true=>simp only[decide_eq_true_eq]; exact Gn.mpr h
   |false=>simp only[decide_eq_false_iff_not]; intro q; rw[Gn.mp q]at h; exact ff (Eq.symm h)
noncomputable abbrev XA:Expr:=(um (bR (cJ (sd 2)))).headD zE
section
variable (O:Type)(o:O)(L:Addr)(M:Str)(p:Bool)(c ρ:Loc)(Es:List (Option Str))(rw:V)(x y:Str)
theorem GH(o:O×Loc):d7 bE (JE O) (vE L) none 30 o (nA x y rw p M) ((aC (aW 27)).drop 2) (fun o ρ fl=>some (o,ρ,fl))=
 bE p (opt (Mp O o (nA x y rw p M) XA) (fun c=>opt (kX [c]) (fun q=>bE q.1 (sm o (nA x y rw p M) (.ret q.2)) none) none) none) (sm o (nA x y rw p M) (.ret (.str x))):=by kernel_rfl
theorem IM(d:V)(cn:Str->Option V)(cv:Loc->Expr->Option V):vf (rF Ov (DS XA) "end" d cn cv) ρ (FD XA) (jF XA).ifs=cond (pP d) (some (some d)) (some none):=by kernel_rfl
theorem ER(hz:Es.length<=100):Mp O (D7 o (Es.map eH) c) ρ XA=some (.list ((Es.filterMap id).map .str)):=by
 refine fV (x:="end") (ds:=Es.map eH) (by kernel_rfl) (by kernel_rfl) (by kernel_rfl) ?_ ?_
 . refine bU (b:=gate (iG (Es.map eH).length) (some (Es.map eH)) none) (by kernel_rfl) ?_
   rw[show iG (Es.map eH).length=true from c9 (by rw[bM]; lia)]; rfl
 . refine bU (yu (c:=eH) (l:=Es) (g:=fun e=>opt e (fun s=>some (.str s)) none) fun e _=>?_) (congrArg some ?_)
   . rw[IM]
     cases e <;> rfl
   . refine af List.map_filterMap ?_
     rfl
end
theorem G5{M W:Str}:∀(ks:List Nat) (st:WS) (n:Nat),(∀k∈ks,k<W.length)->Oe n st->Oe (n+2*ks.length) (tX M W ks st)
 | [],_,_,_,h=>h
 | k::ks,st,n,hk,h=>by
   have:=G5 (M:=M) (W:=W) ks (lH M W k st) (n+2) (fun j hj=>hk j (.tail _ hj)) (F8 (M:=M) h (hk k (.head _)))
   rw[show n+2*(k::ks).length=n+2+2*ks.length by refine af dg ?_; lia]
   exact this
theorem vc(M W:Str):(ve M W).length<=2*W.length+2:=by
 unfold ve
 cases bw W "" with
 |true=>show(2:Nat)<=_; lia
 | false=>
   have:=(G5 (M:=M) (W:=W) (eU W.length) ⟨"","'","\"",""⟩ 0 (fun k hk=>kP.mp hk) ⟨by decide,by decide,by decide,by decide⟩).bare
   rw[List.length_range]at this
   show(tX M W (eU W.length) ⟨"","'","\"",""⟩).bare.length<=_
   lia
def sI(n:Nat)(Es:List (Option Str)):Prop:=Es.length=3/\∀s,some s∈Es->s.length<=n
theorem FO{M T kd:Str}(hT:T.length<=100):(jW M T kd).length=3/\∀s,some s∈jW M T kd->s.length<=202:=by
 refine⟨rfl,fun s hs=>?_⟩
 have h:=vc M T
 unfold jW at hs
 simp only[aB,eS,or_false]at hs
 rcases hs with hs|hs|hs
 . refine af (sj hs) ?_; lia
 . cases e:bw kd "run" with
   |true=>rw[e]at hs; refine af (sj (show some s=some T from hs)) ?_; lia
   |false=>rw[e]at hs; exact nn (show some s=none from hs).symm
 . cases e:bw kd "lone" with
   |true=>rw[e]at hs; refine af (sj (show some s=some T from hs)) ?_; lia
   |false=>rw[e]at hs; exact nn (show some s=none from hs).symm
theorem B8{M T kd:Str}{n:Nat}(h:sI n Es)(hT:T.length<=100):sI (n+203) (pI M T kd Es):=by
 refine⟨by unfold pI; simp,fun s hs=>?_⟩
 unfold pI at hs
 refine au (bZ.mp hs) fun b hb e=>?_
 refine lV (nH _ _ _ e) fun _ _ h3=>?_
 have hm:=h3.resolve_left fun q=>nn q
 refine yU (BQ hm) fun s' t sep h1 h2 h4 e'6=>?_
 subst e'6
 have hw:=FO (M:=M) (kd:=kd) hT
 have hb:=kP.mp hb
 have ht:some t∈jW M T kd:=by
   have jl:b<(jW M T kd).length:=by exact af hw.1 hb
   have:(jW M T kd)[b]=some t:=by simpa [gn,jl]using h2
   exact af this.symm (nZ jl)
 have:=h.2 s' h1
 have:=hw.2 t ht
 rw[len_app,len_app]; lia
noncomputable def jt(T:Str):Bool:=decide (T.length<=100)&&kqdOk 8 (.str T)
section
variable {P:aD}{base g:aE}{L:Addr}
theorem ET(C:Cx O)(R:cH (eG P) p az aL mg mb A₀ base av A (vE L) g L (d+2))(hu:A.units+8*(d+2)+64<cLine):
   cV ai w A (cz C g L (aZ (L+1) (aF (aW 27)).names [])) (vE L) (JE O) Ec 0:=
 yb (lv:=2) (cP:=Ov) (cells:=S8) R hu (wK (IQ d) (wK (HJ d) (wK (xo (d+1)) TL))) ⟨qC (by decide +kernel),G4 (by decide +kernel)⟩
theorem CV{T M:Str}{p:Bool}(h:jt T=true):GL [.str T,.bool p,.str M]=some (true,.str (kindS p M T)):=by
 unfold jt at h
 rw[aM]at h
 show some (iG T.length&&kqdOk 8 (.str T),_)=_
 refine af h.2 (af (show iG T.length=true from c9 (by have:=of_decide_eq_true h.1; lia)) ?_)
 rfl
theorem JP{T M:Str}(h:jt T=true):FL [.str T,.str M]=some (true,.str (ve M T)):=by
 unfold jt at h
 rw[aM]at h
 show some (iG T.length,_)=_
 (refine af (show iG T.length=true from c9 (by have:=of_decide_eq_true h.1; lia)) ?_; rfl)
theorem AN{T:Str}(h:jt T=true):T.length<=100:=by
 unfold jt at h
 rw[aM]at h
 exact of_decide_eq_true h.1
theorem Mn(C:Cx O)(R:cH (eG P) p az aL mg mb A₀ base av A (vE L) g L (d+2))(hu:A.units+8*(d+2)+64<cLine)(o:O)(c:Loc){T M x y:Str}(hT:jt T=true)(hE:sI 500000 Es):
   gy ai w A (cz C g L (aZ (L+1) (aF (aW 27)).names [])) (vE L) Ec (D7 o (Es.map eH) c) (("token",.str T)::nA x y rw true M) (aC (sd 1))
     (D7 o ((pI M T (kindS true M T) Es).map eH) (("ways",.list ((jW M T (kindS true M T)).map eH))::("ends",.list (Es.map eH))::c),("kind",.str (kindS true M T))::("token",.str T)::nA x y rw true M,.next):=by
 have IK:=ET (ai:=ai) (w:=w) C R hu
 refine af tO.2.2 ?_
 generalize hk:kindS true M T=kd
 have b0:cu bE (JE O) (vE L) none 30 (D7 o (Es.map eH) c) (("token",.str T)::nA x y rw true M) (leB 0) (fun o ρ fl=>some (o,ρ,fl))=sm (D7 o (Es.map eH) c) (("kind",.str kd)::("token",.str T)::nA x y rw true M) .next:=by
   (rewrite [CU]; refine af (CV hT) (af hk ?_)); rfl
 have p0:cu bE (JE O) (vE L) none 30 (D7 o (Es.map eH) c) (("kind",.str kd)::("token",.str T)::nA x y rw true M) (S7 0) (fun o ρ fl=>some (o,ρ,fl))=sm (zb o (Es.map eH) ((jW M T kd).map eH) c) (("kind",.str kd)::("token",.str T)::nA x y rw true M) .next:=by
   (rewrite [Mk]; refine af (JP hT) ?_)
   unfold jW
   cases bw kd "run" <;> cases bw kd "lone" <;> rfl
 refine aQ (stK IK b0) ?_
 refine af CS ?_
 refine aQ (jY (c:=true) (ou (IK.fh _).wk (by kernel_rfl)) ?_) ja
 skip
 refine af tO.1 ?_
 refine aQ (stK IK p0) (aQ ?_ ja)
 refine af Mj ?_
 have hw:=FO (M:=M) (T:=T) (kd:=kd) (AN hT)
 exact sX IK ((IK.fh _).Hl _ GI _ (show Mp O _ _ GI=_ from ES O o c _ Es (jW M T kd) hE.1 hw.1 hE.2 fun t ht=>by have:=hw.2 t ht; lia)) rfl
theorem z0(R:cH (eG P) p az aL mg mb A₀ base av A (vE L) g L (d+2))(hu:A.units+8*(d+2)+64<cLine)(o:O){M x y:Str}:∀(row:List Str) (c:Loc) (Es:List (Option Str)) (n:Nat),(∀T∈row,jt T=true)->sI n Es->n+203*row.length<=500000->
   ∃c',rg ai w A C (vE L) Ec g L (aZ (L+1) (aF (aW 27)).names []) "token" (aC (sd 1)) (D7 o ((gG M row Es).map eH) c',nA x y rw true M,.next) (row.map .str) (D7 o (Es.map eH) c) (nA x y rw true M)
 | [],c,_,_,_,_,_=>⟨c,.stop rfl⟩
 | T::row,c,Es,n,hr,hE,hn=>by
   rw[dg]at hn
   have hT:=hr T (.head _)
   obtain⟨c',h⟩:=z0 R hu o (y:=y) (rw:=rw) row (("ways",.list ((jW M T (kindS true M T)).map eH))::("ends",.list (Es.map eH))::c) (pI M T (kindS true M T) Es) (n+203) (fun T' h=>hr T' (.tail _ h)) (B8 hE (AN hT)) (by lia)
   exact⟨c',.more (eF:=nA x y rw true M) (fun Y cG=>Mn (CT C Y cG) R hu o c hT ⟨hE.1,fun s hs=>by have:=hE.2 s hs; lia⟩) (.inl rfl) ⟨rfl,rfl,rfl,rfl,rfl,trivial⟩ h⟩
theorem z5(R:cH (eG P) p az aL mg mb A₀ base av A (vE L) g L (d+2))(hu:A.units+8*(d+2)+64<cLine)(o:O×Loc){M:Str}:∀(row:List Str) (x y:Str) (n:Nat),(∀T∈row,jt T=true)->x.length<=n->n+101*row.length<=500000->y∈oJ->
   ∃ρ',rg ai w A C (vE L) Ec g L (aZ (L+1) (aF (aW 27)).names []) "token" (aC (sd 1)) (opt (leRaw M row x y) (fun x'=>(o,nA x' (((row.getLast?).map (kindS false M)).getD y) rw false M,.next)) (o,ρ',.ret .none)) (row.map .str) o (nA x y rw false M)
 | [],x,y,_,_,_,_,_=>⟨[],.stop rfl⟩
 | T ::row,x,y,n,hr,hx,hn,hy=>by
   rw[dg]at hn
   have hT:=hr T (.head _)
   have hTl:=AN hT
   have hkm:=IT false M T
   have IK:=fun C:Cx O=>ET (ai:=ai) (w:=w) C R hu
   unfold leRaw
   have b0:∀o:O×Loc,cu bE (JE O) (vE L) none 30 o (("token",.str T)::nA x y rw false M) (leB 0) (fun o ρ fl=>some (o,ρ,fl))=sm o (("kind",.str (kindS false M T))::("token",.str T)::nA x y rw false M) .next:=fun o=>by
     (rewrite [CU]; refine af (CV hT) ?_); rfl
   have body:∀(C:Cx O) (r:(O×Loc)×Loc×Fl),cu bE (JE O) (vE L) none 30 o (("kind",.str (kindS false M T))::("token",.str T)::nA x y rw false M) leN (fun o ρ fl=>some (o,ρ,fl))=some r->
       gy ai w A (cz C g L (aZ (L+1) (aF (aW 27)).names [])) (vE L) Ec o (("token",.str T)::nA x y rw false M) (aC (sd 1)) r:=fun C r hr=>by
     refine af tO.2.2 ?_
     refine aQ (stK (IK C) (b0 o)) ?_
     refine af CS ?_
     have hi:cK ai w A (cz C g L (aZ (L+1) (aF (aW 27)).names [])) (vE L) Ec o (("kind",.str (kindS false M T))::("token",.str T)::nA x y rw false M) (.If (.Name "posix" (bP (cJ (leB 1)))) (aC (leB 1)) (C3 (leB 1)) (qZ (leB 1))) r:=by
       refine jY (c:=false) (ou ((IK C).fh _).wk (by kernel_rfl)) ?_
       skip
       exact af tO.2.1 (j9 (stK (IK C) hr))
     exact j9 hi
   generalize hk:kindS false M T=kd at hkm body
   cases he:bw kd "" with
   |true=>exact⟨_,.ret (fun Y cG=>body (CT C Y cG) _ ((GG O L M T false rw x y kd o).trans (ct he))) rfl⟩
   | false=>
     have h1:=(GG O L M T false rw x y kd o).trans (cf he)
     rw[Q5 hy hkm]at h1
     have key:cu bE (JE O) (vE L) none 30 o (("kind",.str kd)::("token",.str T)::nA x y rw false M) leN (fun o ρ fl=>some (o,ρ,fl))=sm o (("ahead",.str kd)::("text",.str (x++cond (o6 y kd) " " ""++T))::("kind",.str kd)::("token",.str T)::nA x y rw false M) .next:=by
       refine h1.trans ?_
       have e1:strOk x=true:=g8 hx (by lia)
       have e2:strOk (x++(" ":Str))=true:=g8 (n:=n+1) (by(rewrite [len_app]; refine af (show(" ":Str).length=1 from rfl) ?_); lia) (by lia)
       have e3:strOk (x++("":Str))=true:=g8 (by(rewrite [len_app]; refine af (show("":Str).length=0 from rfl) ?_); exact hx) (by lia)
       have e4:strOk T=true:=g8 hTl (by decide)
       cases o6 y kd with
       | true=>
         show bE (strOk x&&strOk " ") (bE (strOk (x++" ")&&strOk T) _ none) none=_
         exact af e1 (af e2 (af e4 rfl))
       | false=>
         show bE (strOk x&&strOk "") (bE (strOk (x++"")&&strOk T) _ none) none=_
         exact af e1 (af e3 (af e4 rfl))
     obtain⟨ρ',h⟩:=z5 R hu o (rw:=rw) row (x++cond (o6 y kd) " " ""++T) kd (n+101) (fun T' h=>hr T' (.tail _ h)) (by rw[len_app,len_app]; cases o6 y kd with
       |true=>show x.length+1+T.length<=_; lia
       |false=>show x.length+0+T.length<=_; lia) (by lia) hkm
     have el:(((T::row).getLast?).map (kindS false M)).getD y=((row.getLast?).map (kindS false M)).getD kd:=by
       cases row with
       |nil=>exact af hk.symm rfl
       | cons a r=>refine af (List.getLast?_cons_cons) ?_; cases hl:(a::r).getLast? with
         |none=>simp at hl
         |some z=>rfl
     exact af el ⟨ρ',.more (eF:=nA (x++cond (o6 y kd) " " ""++T) kd rw false M) (fun Y cG=>body (CT C Y cG) _ key) (.inl rfl) ⟨rfl,rfl,rfl,rfl,rfl,trivial⟩ h⟩
end
noncomputable def aaF(l:List V):Option (List Str×Bool×Str):=opt (three l) (fun q=>opt (listOf q.1) (fun ds=>opt (lB ds) (fun row=>opt (boolOf q.2.1) (fun p=>opt (strOf q.2.2) (fun M=>some (row,p,M)) none) none) none) none) none
theorem HB(h:aaF l=some x):l=[.list (x.1.map .str),.bool x.2.1,.str x.2.2]:=by
 refine cp fun G' k'=>?_
 refine au (aq h) fun q h1 h=>?_
 refine au (aq h) fun ds h2 h=>?_
 refine au (aq h) fun row h3 h=>?_
 refine au (aq h) fun p h4 h=>?_
 refine au (aq h) fun M h5 h=>?_
 refine k' ?_
 (refine af (sR h1) (af (iK h2) (af (sD h3) (af (u0 h4) (af (cS h5) (af ((sj h).symm) ?_))))); rfl)
noncomputable def uL(l:List V):Option (Bool×V):=opt (aaF l) (fun q=>some (decide (q.1.length<=1000)&&q.1.all jt,eH (fU q.2.1 q.2.2 q.1))) none
noncomputable abbrev pT:List (Option Str):=[none,none,some ""]
theorem IG(L:Addr):sU (um (gO (sd 0))) (tK (gO (sd 0))) (bP (gO (sd 0))) (cJ (sd 0)) (vE L)=some none:=by kernel_rfl
theorem Ml:aC (aW 27)= .Assign [.Tuple (um (gO (sd 0))) (tK (gO (sd 0))) (bP (gO (sd 0)))] (cJ (sd 0)) (qZ (sd 0)):: .For (.Name "token" (mZ (gO (sd 1)))) (cJ (sd 1)) (aC (sd 1)) [] (qZ (sd 1))::(aC (aW 27)).drop 2:=by kernel_rfl
section
variable {P:aD}{base g:aE}{L:Addr}
theorem EP(IK:cV ai w A (cz C g L (aZ (L+1) (aF (aW 27)).names [])) (vE L) (JE O) Ec 0)(o:O)(ps:Bool)(M:Str)(rw:V):
   cK ai w A (cz C g L (aZ (L+1) (aF (aW 27)).names [])) (vE L) Ec (o,[]) [("marks",.str M),("posix",.bool ps),("row",rw)] (.Assign [.Tuple (um (gO (sd 0))) (tK (gO (sd 0))) (bP (gO (sd 0)))] (cJ (sd 0)) (qZ (sd 0)))
     (D7 o (pT.map eH) [],[("ahead",.str ""),("text",.str ""),("marks",.str M),("posix",.bool ps),("row",rw)],.next):=
 uy (q:=(D7 o (pT.map eH) [],[("ahead",.str ""),("text",.str ""),("marks",.str M),("posix",.bool ps),("row",rw)])) IK (xs:=["ends","text","ahead"]) (ds:=[.list [.none,.none,.str ""],.str "",.str ""]) (by kernel_rfl) (IG L) (iB (IK.fh _).wk (by kernel_rfl)) rfl (by kernel_rfl) (by kernel_rfl)
theorem EO(d:Nat):mP ai w (eG P) p az aL mg mb "_law_least" (d+3) uL:=by
 refine nL (f:=769) (name:="_law_least") (dV:=.none) (kV:=.none) (doc:=.none) (pm:=.str "law_in0035_01" 1142) (an:=none) (ct:=.none) (oc:=.type "function") (od:=none) (osl:= #[]) (qual:="_law_least") (scope:=aF (aW 27)) (params:=nU (aW 27)) (body:=aC (aW 27)) (cdv:=.ref 768) (xs:=["row","posix","marks"]) (by kernel_rfl) (by decide) (by kernel_rfl) (by kernel_rfl)
   (fun vs s hl=>?_) (by decide +kernel) (by decide +kernel) (by kernel_rfl) (by kernel_rfl) (by kernel_rfl) (fun ds r h=>?_) (fun {O C A₀ base g av A L} o ds r h R hu=>?_)
 . refine Ea (QN hl) fun a b c jU=>?_
   subst jU
   exact iN (by kernel_rfl)
 . refine au (aq h) fun q h1 _=>?_
   exact af (HB h1) rfl
 . refine cp fun G' k'=>?_
   refine au (aq h) fun fZ h1 h=>?_
   obtain⟨row,ps,M⟩:=fZ
   refine bx (cR (sj h)) fun hz e=>?_
   refine k' ?_
   rw[aM]at hz
   refine af (HB h1) (af e.symm ?_)
   dsimp only at hz |-
   have hl:row.length<=1000:=of_decide_eq_true hz.1
   have hr:∀T∈row,jt T=true:=dH.mp hz.2
   have e0:bindLV (kdOf (aF (aW 27))) ((["row","posix","marks"]:List Str).zip ([.list (row.map .str),.bool ps,.str M]:List V)) []=([("marks",.str M),("posix",.bool ps),("row",.list (row.map .str))]:Loc):=by kernel_rfl
   have e1:sC (kdOf (aF (aW 27))) ((["row","posix","marks"]:List Str).zip ([.list (row.map .str),.bool ps,.str M]:List V)) []=([]:Loc):=by kernel_rfl
   refine af e0 (af e1 (af Ml ?_))
   have IK:=ET (ai:=ai) (w:=w) C R hu
   have hd:=EP IK o ps M (.list (row.map .str))
   have it:∀o:O×Loc,qi ai w A (cz C g L (aZ (L+1) (aF (aW 27)).names [])) o (vE L) (nA "" "" (.list (row.map .str)) ps M) (cJ (sd 1)) (row.map .str):=fun o=>
     tP R.hh (iB (IK.fh o).wk (by kernel_rfl))
   have loop:∀ {r:(O×Loc)×Loc×Fl} {o:O×Loc},rg ai w A C (vE L) Ec g L (aZ (L+1) (aF (aW 27)).names []) "token" (aC (sd 1)) r (row.map .str) o (nA "" "" (.list (row.map .str)) ps M)->
       cK ai w A (cz C g L (aZ (L+1) (aF (aW 27)).names [])) (vE L) Ec o (nA "" "" (.list (row.map .str)) ps M) (.For (.Name "token" (mZ (gO (sd 1)))) (cJ (sd 1)) (aC (sd 1)) [] (qZ (sd 1))) r:=fun hf=>
     Eo R.hk (by kernel_rfl) R.hl (by kernel_rfl) (it _) hf
   cases ps with
   | true=>
     have hE0:sI 0 pT:=⟨rfl,fun s hs=>by
       simp only[aB,eS,or_false]at hs
       rcases hs with hs|hs|hs
       . cases hs
       . cases hs
       . refine af (sj hs) ?_; decide⟩
     obtain⟨c',hf⟩:=z0 R hu o (x:="") (y:="") (rw:=.list (row.map .str)) row [] pT 0 hr hE0 (by lia)
     have hEn:∀(row:List Str) (Es:List (Option Str)) (n:Nat),(∀T∈row,jt T=true)->sI n Es->sI (n+203*row.length) (gG M row Es):=fun row=>by
       induction row with
       |nil=>intro Es n _ h; exact h
       | cons T r ih=>
         intro Es n h hE
         have:=ih (pI M T (kindS true M T) Es) (n+203) (fun T' h'=>h T' (.tail _ h')) (B8 hE (AN (h T (.head _))))
         rw[show n+203*(T::r).length=n+203+203*r.length by refine af dg ?_; lia]
         exact this
     have hF:=hEn row _ 0 hr hE0
     have ends:=ER O o c' (nA "" "" (.list (row.map .str)) true M) (gG M row pT) (af hF.1 (by decide))
     have h2:=GH O L M true (.list (row.map .str)) "" "" (D7 o ((gG M row pT).map eH) c')
     have hs:((gG M row pT).filterMap id).all strOk=true:=dH.mpr fun y hy=>by
       refine au (List.mem_filterMap.mp hy) fun a ha e=>?_
       have e:a=some y:=e
       subst e
       exact g8 (hF.2 y ha) (by lia)
     have hl2:((gG M row pT).filterMap id).length<=3:=by have:=List.length_filterMap_le id (gG M row pT); rw[hF.1]at this; exact this
     have h3:kX [.list (((gG M row pT).filterMap id).map .str)]=some (true,eH (fU true M row)):=by
       show opt (lB (((gG M row pT).filterMap id).map .str)) (fun ys=>some (ys.all strOk&&iG (((gG M row pT).filterMap id).map eK).length,eH (cZ none ys))) none=_
       rw[qI]
       show some (_,_)=_
       rw[hs,show iG (((gG M row pT).filterMap id).map eK).length=true from c9 (by rw[bM]; lia)]
       rfl
     have h4:d7 bE (JE O) (vE L) none 30 (D7 o ((gG M row pT).map eH) c') (nA "" "" (.list (row.map .str)) true M) ((aC (aW 27)).drop 2) (fun o ρ fl=>some (o,ρ,fl))=sm (D7 o ((gG M row pT).map eH) c') (nA "" "" (.list (row.map .str)) true M) (.ret (eH (fU true M row))):=by
       refine h2.trans ?_
       show opt (Mp O _ _ XA) _ none=_
       refine af ends ?_
       show opt (kX _) _ none=_
       exact af h3 rfl
     exact⟨_,_,aQ hd (ia (ρ':=nA "" "" (.list (row.map .str)) true M) (aQ (loop hf) (DT IK h4)) ⟨rfl,rfl,rfl,rfl,rfl,trivial⟩)⟩
   | false=>
     obtain⟨ρ',hf⟩:=z5 R hu (D7 o (pT.map eH) []) (rw:=.list (row.map .str)) row "" "" 0 hr (by decide) (by lia) (by decide +kernel)
     have e2:fU false M row=leRaw M row "" "":=rfl
     refine af e2 ?_
     cases MN:leRaw M row "" "" with
     | none=>
       rw[MN]at hf
       exact⟨_,_,aQ hd (ia (ρ':=nA "" "" (.list (row.map .str)) false M) (lQ (loop hf) fun _ _ e=>by cases e) ⟨rfl,rfl,rfl,rfl,rfl,trivial⟩)⟩
     | some x=>
       rw[MN]at hf
       have h2:=GH O L M false (.list (row.map .str)) x (((row.getLast?).map (kindS false M)).getD "") (D7 o (pT.map eH) [])
       exact⟨_,_,aQ hd (ia (ρ':=nA "" "" (.list (row.map .str)) false M) (aQ (loop hf) (DT IK h2)) ⟨rfl,rfl,rfl,rfl,rfl,trivial⟩)⟩
end
noncomputable def iA(l:List Int):V:=.list (l.map .int)
noncomputable abbrev Bd:Scope:=aF (aW 28)
noncomputable abbrev cY(L fa:Addr)(cd:Value):Env:=envOfC "law" Bd L fa cd
noncomputable abbrev QB:List Stmt:=aC (aW 28)
noncomputable abbrev GA:List Str:=(locs Bd).filter fun x:Str=> !(x==("script":Str))
noncomputable abbrev CE:List Str:=["numbers","posix","below","given","text","lost"]
noncomputable def u6:List V->Option (List Int)
 | []=>some []
 |d::r=>opt (intOf d) (fun i=>opt (u6 r) (fun is=>some (i::is)) none) none
theorem yI:∀(l:List Int),u6 (l.map .int)=some l
 | []=>rfl
 | i::r=>by
   show opt (u6 (r.map .int)) (fun is=>some (i::is)) none=_
   exact af (yI r) rfl
theorem Aw:∀ {ds:List V} {l:List Int},u6 ds=some l->ds=l.map .int
 | [],l,h=>by obtain rfl:=sj h; rfl
 | d::r,l,h=>by
   refine au (aq h) fun i h1 h=>?_
   refine au (aq h) fun is h2 h=>?_
   obtain rfl:=sj h
   exact af (gx h1) (af (Aw h2) rfl)
noncomputable def Ux(l:List V):Option (Bool×V):=opt (one l) (fun d=>opt (listOf d) (fun ds=>opt (u6 ds) (fun ns=>some (true,.int ns.sum)) none) none) none
noncomputable abbrev Ot:List (Str×(List V->Option (Bool×V))):=[("len",Mh),("sum",Ux),("_law_sign",Cb),("_law_read",ru),("_law_least",uL)]
noncomputable abbrev vX:pD (Unit×Loc):=DR Unit GA CE Ot 2 Bd
noncomputable abbrev lwR(l:Addr):List (Str×Value):=[(aj "script",.ref l)]
noncomputable abbrev jk(s₀:ak)(h₀:aE)(L:Addr)(rest:Led)(l:Addr)(cs:List (Str×Addr)):Cx (Unit×Loc):=eV { ur s₀ h₀ L with rest:=rest } h₀ L cs (lwR l)
def n8(L fa:Addr)(cd:Value)(cs:List (Str×Addr)):Prop:=∀x∈CE,∃c,cs.lookup x=some c/\(cY L fa cd).cells.lookup x=some c
theorem vN:∀ {ns:List Int} {vs:List Value},aU fz vs (ns.map .int)->IntsAre vs ns
 | [],vs,h=>by exact af (j6 h) .nil
 | n::ns,vs,h=>by
   refine fS (c8 h) fun v us iU a b=>?_
   subst iU
   refine Xq a fun t=>?_
   exact .cons n t (vN b)
theorem C1(hi:IntsAre vs ns)(fz:Led):aU fz vs (ns.map .int):=by
 induction hi with
 |nil=>exact .nil
 |cons n t h ih=>exact .cons (.int _ _) ih
section
variable {P:aD}
theorem Kx(d:Nat):mP ai w (eG P) p az aL mg mb "sum" d Ux:=by
 intro O C A₀ base av A env jj o ρ fz s R _ lk h mD args pos q ds r hr hs nS Q E hw
 refine gJ rfl (mJ R lk h (v:=.builtin "sum") (by kernel_rfl) (by kernel_rfl) (by decide) mD (by decide) ?_)
 cases args with
 |nil=>exact absurd rfl nS
 | cons e rest=>
   rw[fQ,aM]at hs
   refine callWith_builtin1 (fD hw (fun vs s₁ x=>?_) fun _ _ x=>x) (cU hs.1) (gS pos hs.2)
   refine wR x fun ay sb cj hv hq=>?_
   refine au (aq hr) fun d1 h1 hr=>?_
   refine au (aq hr) fun ds1 h2 hr=>?_
   refine au (aq hr) fun ns h3 hr=>?_
   refine bx (cR (sj hr)) fun _ e=>?_
   rw[gF h1,iK h2,Aw h3]at hv
   rw[<-e]at hq
   refine Sg hv fun v xv=>?_
   obtain⟨a,vs,n,rfl,hm,hv⟩:=jo xv
   refine At.eh cj fun h' tk m R' F N rp ap lc rf cj=>?_
   have GV:h'.IsList a vs.toArray:=⟨_,(N _ (aJ _ (aH _ hm))).1,rfl,n,rfl⟩
   have hi:=vN hv
   refine cE ((hi.allInts).items) fun xs hxs=>?_
   rw[hxs]at GV
   refine sum_intListG (s:={ heap:=h',gens:=C.s₀.gens,drawn:=C.s₀.drawn,toks:=tk,os:=C.s₀.os }) R.hh GV fun gY fR t' hk=>?_
   have hn:numsOf vs.toArray.toList=ns:=hi.numsOf
   have e:preSum (numAt xs) xs.size=ns.sum:=by
     (rewrite [preSum_eq]; refine af (List.take_of_length_le (by simp)) ?_)
     (refine af hn.symm (af hxs ?_); rw[nums_intItems])
   exact af e (hq ay _ _ (fun _ h=>h) (cj.keep hk fR) (.int _ _))
end
noncomputable abbrev cA(i:Nat):Stmt:=gK QB i
theorem uG(L fa:Addr)(cd:Value):∀x∈GA,(cY L fa cd).kindOf x=some .local:=by
 have:∀x∈GA,(cY 0 0 .none).kindOf x=some .local:=by decide +kernel
 exact this
theorem jy(L fa:Addr)(cd:Value):∀x∈CE,(cY L fa cd).kindOf x=some .cell/\(x==("__debug__":Str))=false:=by
 have:∀x∈CE,(cY 0 0 .none).kindOf x=some .cell/\(x==("__debug__":Str))=false:=by decide +kernel
 exact this
noncomputable def kM(ns:List Int):List Int:=if ns=[]then [12,8,13,27,108,1,3]else ns.take 60
theorem LB(ns:List Int):kM ns=if(!decide (ns=[]))=true then ns.take 60 else [12,8,13,27,108,1,3]:=by
 unfold kM
 by_cases e:ns=[]
 . (refine af (if_pos e) (af (if_neg (by simp[e])) ?_); rfl)
 . (refine af (if_neg e) (af (if_pos (by simp[e])) ?_); rfl)
theorem P5(vs:List Value)(k:Nat):slicePick vs.toArray none (some (k:Int)) none=(vs.take k).toArray:=by
 rw[slicePick_plain]
 have e:clipAt vs.toArray.size (k:Int)=min k vs.length:=by
   unfold clipAt
   simp only[nj]
   refine af (if_neg (Qf k)) ?_
   rcases Nat.le_total k vs.length with h|h
   . exact af (Int.min_eq_left (Int.ofNat_le.mpr h)) (af (Int.max_eq_right (Int.natCast_nonneg k)) (af (Nat.min_eq_left h) rfl))
   . exact af (Int.min_eq_right (Int.ofNat_le.mpr h)) (af (Int.max_eq_right (Int.natCast_nonneg _)) (af (Nat.min_eq_right h) rfl))
 simp only[Option.elim,e,Nat.sub_zero,List.drop_zero]
 congr 1
 exact(List.take_eq_take_min (i:=k) (l:=vs)).symm▸rfl
theorem aaq{I:pD O}{sa:Addr}(K:cV ai w A C env I X sa){n:Nat}{e:bG}{v:V}(h:jZ bE (I.fh o) ρ none n e (fun v=>some v)=some v):bq ai w A C o env ρ e v:=by
 refine au (jD (K.fh o).wk ρ n _ _ h) fun v' hv e=>?_
 have e:=oU e
 exact af e.symm hv.1
section
variable {P:aD}{L fa:Addr}{cd:Value}{s₀:ak}{h₀:aE}{rest:Led}{l:Addr}{cs:List (Str×Addr)}
theorem Bc(R:cH (KS P) p az aL mg mb A₀ base av A (cY L fa cd) h₀ L (d+8))(hb:h₀=base)(hu:A.units+8*(d+8)+64<cLine):DZ ai w (eG P) p az aL mg mb (d+8) Ot A h₀ L:=
 ⟨⟨_,_,_,_,R.ks⟩,hu,fun y hy=>by
   simp only[Ot,aB,eS,or_false]at hy
   rcases hy with rfl|rfl|rfl|rfl|rfl
   . exact nY (qv (d+8)) R.ks hu
   . exact nY (Kx (d+8)) R.ks hu
   . exact nY (H6 (d+7)) R.ks hu
   . exact PM (d:=d+1) R hb (by lia)
   . exact nY (EO (d+5)) R.ks hu,by kernel_rfl⟩
theorem iS(R:cH (KS P) p az aL mg mb A₀ base av A (cY L fa cd) h₀ L (d+8))(hb:h₀=base)(hu:A.units+8*(d+8)+64<cLine)(gh:n8 L fa cd cs):cV ai w A (jk s₀ h₀ L rest l cs) (cY L fa cd) vX X 0:=
 yC (yQ:={ ur s₀ h₀ L with rest:=rest }) R.ks (Bc R hb hu) ⟨uG L fa cd,fun x hx=>⟨(jy L fa cd x hx).1,(jy L fa cd x hx).2,gh x hx⟩⟩ fun q hq=>by
   have hq:q∈lwR l:=hq
   simp only[aY]at hq; subst hq; exact(show GA.contains "script"=false by decide +kernel)
theorem script_at{K:Frag}(R:cH K p az aL mg mb A₀ base av A (cY L fa cd) h₀ L d){o:Unit×Loc}(h:At (jk s₀ h₀ L rest l cs) o ρ fz s)(hq:Q (.ref l) s):
   wpAny (model ai w) A (eval (.Name "script" q) (cY L fa cd)) Q E s:=by
 obtain⟨h',tk,m,Rl,rfl,F,N,rp,ap,lc,rf⟩:=id h
 exact eN (fY R.hk (by kernel_rfl) (af R.hl F.ns) (rf (aj "script",.ref l) (List.Mem.head _)) hq) (by decide)
theorem WO{K:Frag}(R:cH K p az aL mg mb A₀ base av A (cY L fa cd) h₀ L d)(hl:h₀.IsList l vs.toArray)(hi:IntsAre vs ns)(hz:ns.length<=1000){o:Unit×Loc}:
   bq ai w A (jk s₀ h₀ L rest l cs) o (cY L fa cd) ρ (.Subscript (.Name "script" q1) (.Slice none (some (.Constant (.int 60) 0 q2)) none q3) q4) (iA (ns.take 60)):=by
 intro fz s Q E h1 hq
 have hlen:=hi.length
 refine Subscript_ (script_at R h1 (wpAny_Slice (evalPart_none_step (evalPart_some_step (wpAny_Constant_int (evalPart_none_step ?_))))))
 refine At.eh h1 fun h' tk m R' F N rp ap lc rf h1=>?_
 have XG:h'.IsList l vs.toArray:=by obtain⟨ob,e,r⟩:=hl; exact⟨ob,F.keep _ _ e,r⟩
 refine tail_any (Heap.IsList.typeIs (s:={ heap:=h'.push { cls:=.type "slice",data:=.fields #[.none,.int ((60:Nat):Int) tk,.none] },gens:=s₀.gens,drawn:=s₀.drawn,toks:=tk+1,os:=s₀.os }) (XG.push _)) slot_list_getitem.lookup
   (wpAny_getItem_list_slice (XG.push _) (Heap.IsSliceOf.new ..) .none (.int ((60:Nat):Int) tk) .none (by simp) ?_ (by simp[hlen,dh]; lia)) (by with_unfolding_all rfl)
 rw[P5]
 have h2:=(h1.push { cls:=.type "slice",data:=.fields #[.none,.int ((60:Nat):Int) tk,.none] } rfl).toks (tk+1)
 have h3:=h2.push { cls:=.type "list",data:=.seq (vs.take 60).toArray } rfl
 exact hq _ _ _ (fun p hp=>.tail _ (.tail _ hp)) h3 (.list (.head _) (C1 (hi.take 60) _))
theorem Yn{K:Frag}(R:cH K p az aL mg mb A₀ base av A (cY L fa cd) h₀ L d)(hu:A.units+64<cLine)(hl:h₀.IsList l vs.toArray)(hi:IntsAre vs ns){o:Unit×Loc}:
   gi ai w A (jk s₀ h₀ L rest l cs) o (cY L fa cd) ρ (.Compare (.Name "script" q1) [.NotEq] [.List [] q2] q3) (!decide (ns=[])):=by
 intro fz s Q E h hq
 refine lT (script_at R h ?_) rfl
 refine(Br fC (by simp)) fz s _ E h fun ay s₁ v s1 h1 x1=>?_
 refine oj (jo x1) fun a ws n jU hm hv=>?_
 subst jU
 obtain rfl:=j6 hv
 refine At.eh h1 fun h' tk m R' F N rp ap lc rf h1=>?_
 have XG:h'.IsList l vs.toArray:=by obtain⟨ob,e,r⟩:=hl; exact⟨ob,F.keep _ _ e,r⟩
 have Wl:h'.IsList a ([]:List Value).toArray:=⟨_,(N _ (aJ _ (aH _ hm))).1,rfl,n,rfl⟩
 exact ke_ne_ints (s:={ heap:=h',gens:=s₀.gens,drawn:=s₀.drawn,toks:=tk,os:=s₀.os }) XG Wl hi .nil hu (wpAny_truthy_bool (hq ay _ s1 h1))
noncomputable abbrev Qz:bG:=cJ (cA 0)
noncomputable abbrev ZJ:bG:=(um Qz).headD zE
theorem VH(o:Unit×Loc)(ρ:Loc):jZ bE (vX.fh o) ρ none 30 ZJ (fun v=>some v)=some (iA [12,8,13,27,108,1,3]):=by kernel_rfl
theorem Qy:∃q1 q2 q3 q4 q5 q6 q7 q8,Qz= .IfExp (.Compare (.Name "script" q1) [.NotEq] [.List [] q2] q3) (.Subscript (.Name "script" q4) (.Slice none (some (.Constant (.int 60) 0 q5)) none q6) q7) ZJ q8:=
 ⟨⟨794,29,794,35⟩,⟨794,39,794,41⟩,⟨794,29,794,41⟩,⟨794,14,794,20⟩,⟨794,22,794,24⟩,⟨794,21,794,24⟩,⟨794,14,794,25⟩,⟨794,14,794,73⟩,by kernel_rfl⟩
theorem aas(R:cH (KS P) p az aL mg mb A₀ base av A (cY L fa cd) h₀ L (d+8))(hb:h₀=base)(hu:A.units+8*(d+8)+64<cLine)(gh:n8 L fa cd cs){vs:List Value}(hl:h₀.IsList l vs.toArray)(hi:IntsAre vs ns)(hz:ns.length<=1000){o:Unit×Loc}:
   bq ai w A (jk s₀ h₀ L rest l cs) o (cY L fa cd) ρ Qz (iA (kM ns)):=by
 refine cp fun G' k'=>?_
 refine BO Qy fun q1 q2 q3 q4 q5 BX=>?_
 obtain⟨q6,q7,q8,e⟩:=BX
 refine k' ?_
 refine af e ?_
 refine Ds (Yn R (by lia) hl hi) ?_
 have hn:=LB ns
 generalize (!decide (ns=[]))=t at hn
 cases t with
 |true=>rw[if_pos rfl]at hn |-; exact af hn (WO R hl hi hz)
 | false=>
   rw[if_neg (by decide)]at hn |-
   exact af hn (aaq (iS (X:=fun _ _ _ _=>False) R hb hu gh) (VH o ρ))
end
noncomputable def ji(l:List Nat):V:=iA (l.map fun(k:Nat)=>(k:Int))
noncomputable def vB(ns:List Int):List Nat:=(eU ns.length).filter fun k=>decide (ns.getD k 0<0)
noncomputable def jb(ns:List Int):List Nat:=(vB ns).take 4
noncomputable def nP(ns:List Int):Int:=(ns.sum.fdiv 32).fmod 4
noncomputable def aP(ns:List Int):Bool:=decide (nP ns<2)
noncomputable def gX(ns:List Int):Bool:=(nP ns).fmod 2==1
noncomputable abbrev co(c:Loc):Unit×Loc:=((),c)
noncomputable abbrev gf(o:O)(ρ:Loc)(fl:Fl):Option (O×Loc×Fl):=some (o,ρ,fl)
noncomputable abbrev L1(o:Unit×Loc)(ρ:Loc)(e:bG):Option V:=lM Ot 2 Bd (An Unit CE o) ρ (Ak (vX.fh o) ρ) e
theorem getD_ints(ns:List Int)(k:Nat)(h:k<ns.length):(ns.map Dat.int).getD k .none= .int (ns.getD k 0):=by
 refine af (List.getD_eq_getElem?_getD) (af (List.getD_eq_getElem?_getD) (af (List.getElem?_map) (af (List.getElem?_eq_getElem h) ?_))); rfl
theorem Cu(ns:List Int)(k:Nat)(h:k<ns.length)(hz:ns.length<=1000):Gs (ns.map .int) (k:Int)=true:=by
 unfold Gs
 rw[bM]
 simp only[aM,decide_eq_true_eq]
 refine⟨⟨by lia,by lia⟩,c9 (by lia)⟩
section
variable {o:Unit×Loc}{L fa:Addr}{cd:Value}
theorem abI(N:V):cu bE vX (cY L fa cd) none 40 (co [("numbers",N)]) [] (cA 1) gf=
 opt (Ux [N]) (fun q=>bE q.1 (NT bE none .FloorDiv q.2 (.int 32) fun x=>NT bE none .Mod x (.int 4) fun y=>gf (co [("numbers",N)]) [("mode",y)] .next) none) none:=by kernel_rfl
theorem Zz(ns:List Int):cu bE vX (cY L fa cd) none 40 (co [("numbers",iA ns)]) [] (cA 1) gf=gf (co [("numbers",iA ns)]) [("mode",.int (nP ns))] .next:=by
 refine(abI _).trans ?_
 show opt (opt (u6 (ns.map .int)) _ _) _ _=_
 rw[yI]; rfl
noncomputable abbrev VG:bG:=cJ (cA 2)
theorem Zu(m:Int)(o:Unit×Loc):Ak (vX.fh o) [("mode",.int m)] VG=some (.tuple [.bool (decide (m<2)),.bool (m.fmod 2==1)]):=by kernel_rfl
theorem Zv:sU (um (gO (cA 2))) (tK (gO (cA 2))) (bP (gO (cA 2))) VG (cY L fa cd)=some none:=by kernel_rfl
theorem Zw:cA 2= .Assign [.Tuple (um (gO (cA 2))) (tK (gO (cA 2))) (bP (gO (cA 2)))] VG (qZ (cA 2)):=by kernel_rfl
noncomputable abbrev ZK:bG:=bL (cJ (cA 3))
theorem Zt(ns:List Int)(hz:ns.length<=1000)(p:V):L1 (co [("posix",p),("numbers",iA ns)]) ρ ZK=some (ji (vB ns)):=by
 have e1:vB ns=(eU ns.length).filter fun k=>decide (ns.getD k 0<0):=rfl
 have e2:∀l:List Nat,ji l= .list (l.map fun(k:Nat)=>.int (k:Int)):=fun l=>by
   show Dat.list _=_
   exact af fL rfl
 (rewrite [e2]; refine af e1 ?_)
 refine fV (x:="k") (ds:=(eU ns.length).map fun(k:Nat)=>.int (k:Int)) (by kernel_rfl) (by kernel_rfl) (by kernel_rfl) ?_ ?_
 . refine bU (b:=opt (bE (iG (ns.map Dat.int).length) (some (Dat.int ((ns.map Dat.int).length:Nat))) none) (fun v=>opt (U7 v) (fun n=>gate (iG n) (some (j3 n)) none) none) none) (by kernel_rfl) ?_
   have hzz:iG ns.length=true:=c9 (by lia)
   (rewrite [bM]; refine af hzz ?_)
   show gate (iG (Int.toNat _)) _ _=_
   (rewrite [Int.toNat_natCast]; refine af (show iG ns.length=true from c9 (by lia)) ?_); rfl
 . refine gU fun k hk=>?_
   have hk:k<ns.length:=kP.mp hk
   refine bU (b:=bE (Gs (ns.map .int) (k:Int)) (opt (lP .Lt ((ns.map .int).getD k .none) (.int 0)) (fun v=>dj bE none v fun t=>cond t (some (some (.int (k:Int)))) (some none)) none) none) (by kernel_rfl) ?_
   refine af (Cu ns k hk hz) (af (getD_ints ns k hk) ?_)
   show cond (decide (ns.getD k 0<0)) _ _=_
   exact XU _ _ _
end
theorem Ad:∀(ls:List (List Nat)) (a:Array Nat),(ls.map S).foldl (fun acc p=>acc++(S []).cps++p.cps) a=a++ls.flatten.toArray
 | [],a=>by simp
 | x::r,a=>by
   (refine af eZ (af List.foldl_cons ?_); rw[Ad r])
   simp
theorem join_nil(ls:List (List Nat)):Txt.join (S []) (ls.map S)=S ls.flatten:=by
 unfold Txt.join PySem.Builtin.Str.glued
 apply Str.ext'
 cases ls with
 |nil=>rfl
 | cons x r=>
   refine af eZ (af List.drop_succ_cons (af List.drop_zero ?_))
   show((r.map S).foldl (fun acc p=>acc++(S []).cps++p.cps) (S x).cps)=_
   rw[Ad]
   simp
theorem DF:∀ {vs:List Value} {ls:List (List Nat)},aU fz vs (ls.map fun l=>.str (S l))->∃l:List (Str×Tok),vs=strValues l/\l.map (·.1)=ls.map S:=by
 intro vs ls
 induction ls generalizing vs with
 |nil=>intro h; exact⟨[],j6 h,rfl⟩
 | cons x ls ih=>
   intro h
   refine fS (c8 h) fun v us iU a b=>?_
   subst iU
   refine au (ih b) fun l e1 e2=>?_
   refine FQ a fun t=>?_
   exact⟨(_,t)::l,congrArg (List.cons _) e1,congrArg (List.cons _) e2⟩
section
theorem wL{ls:List (List Nat)}(he:bq ai w A C o env ρ e (.list (ls.map fun l=>.str (S l))))(hs:notStar e=true)(hz:ls.length<=1000)(h1:∀l∈ls,l.length<=1000){kk:Nat}(hl:(q2.endLine==q3.line)=true):
   bq ai w A C o env ρ (.Call (.Attribute (.Constant (.str "") kk q1) "join" q2) [e] [] q3) (.str (S ls.flatten)):=by
 intro fz s Q E h hq
 refine d9 (pl:=_) (i0 ?_) (gu rfl (by simp[hs]) (by simp) hl)
 refine GM.join (cW (by simp[hs]) ((cC hs he fC) q3 fz _ _ E (h.toks _) fun ay s₁ vs s1 h1' x1=>?_))
 refine cp fun G' k'=>?_
 refine au (jE x1) fun _ fj v1=>?_
 subst fj
 refine oj (jo v1) fun a vs n jU hm hv=>?_
 subst jU
 obtain⟨h',tk,m,R',rfl,F,N,rp,ap,lc,rf⟩:=id h1'
 refine au (DF hv) fun l fj e2=>?_
 subst fj
 refine k' ?_
 have GV:h'.IsList a (strValues l).toArray:=⟨_,(N _ (aJ _ (aH _ hm))).1,rfl,n,rfl⟩
 refine SC.join (s:={ heap:=h',gens:=C.s₀.gens,drawn:=C.s₀.drawn,toks:=tk,os:=C.s₀.os }) GV e2 ?_ fun t' k=>?_
 . unfold JoinOk
   rw[StrLaws.joinFits (B:=1000) (fun y hy=>by
     refine au (bZ.mp hy) fun l' XG iU=>?_
     subst iU
     rw[eu]; exact h1 l' XG) (by(rewrite [bM]; refine af dR ?_; rw[eu]); simp; lia)]
   rfl
 . have e:Txt.join "" (ls.map S)=S ls.flatten:=by
     exact af dR (join_nil ls)
   exact af e (hq ay _ _ s1 (h1'.toks _) (.str _ _))
end
theorem sY(x:Int):(rm x).length<=1:=by
 unfold rm; split
 . simp
 . split <;> simp
noncomputable abbrev qU:List Nat:=[39,34,92,32,9,13,10,35]
theorem QI:"'\"\\ \t\r\n#"=S qU:=by decide +kernel
theorem ND(a:List Nat):aG (S a) (S [])=true:=by
 unfold aG
 refine(StrLaws.found_iff _ _).mpr ⟨0,by simp[dD],?_⟩
 unfold PySem.Builtin.Str.subAt
 simp[dD]
noncomputable def j4(ns:List Int):List (List Nat):=(jb ns).map fun k=>rm (ns.getD k 0)
noncomputable def nM(ns:List Int):List Nat:=(j4 ns).flatten.filter fun c=> !decide (c∈qU)
theorem Cr:∀(l:List (List Nat)),(∀x∈l,x.length<=1)->(l.filter fun x=> !aG (S qU) (S x)).flatten=l.flatten.filter fun c=> !decide (c∈qU)
 | [],_=>rfl
 | x ::r,h=>by
   have ih:=Cr r fun y hy=>h y (.tail _ hy)
   have hx:=h x (.head _)
   (refine af jO ?_; rewrite [List.filter_append]; refine af ih.symm (af kQ ?_))
   match x,hx with
   | [],_=>rw[ND]; rfl
   | [c],_=>
     rw[iC]
     cases hc:decide (c∈qU)with
     |true=>simp only[kQ,List.filter_nil,hc]; rfl
     |false=>simp only[kQ,List.filter_nil,hc]; rfl
theorem So:∀k∈jb ns,k<ns.length:=fun k hk=>by
 have:=List.mem_of_mem_take hk
 unfold vB at this
 simpa using (mL.mp this).1
theorem A9(l:List Nat):ji l= .list (l.map fun(k:Nat)=>.int (k:Int)):=by
 show Dat.list _=_
 exact af fL rfl
noncomputable abbrev ZI(i:Nat):bG:=(um (cJ (cA i))).headD zE
noncomputable abbrev QA:bG:=(jF (ZI 4)).iter
section
variable {L fa:Addr}{cd:Value}
noncomputable abbrev c3(ns:List Int):Loc:=[("below",ji (jb ns)),("posix",.bool (aP ns)),("numbers",iA ns)]
theorem zF(ns:List Int)(k:Nat)(h:k<ns.length)(hz:ns.length<=1000):bE (Gs (ns.map .int) (k:Int)) (opt (Cb [(ns.map .int).getD k .none]) (fun q=>bE q.1 (some (some q.2)) none) none) none=some (some (bf (rm (ns.getD k 0)))):=by
 exact af (Cu ns k h hz) (af (getD_ints ns k h) rfl)
theorem Vj(ns:List Int)(hz:ns.length<=1000)(ev:bG->Option V)(Tu:ev (jF QA).iter=some (ji (jb ns))):lM Ot 2 Bd (An Unit CE (co (c3 ns))) ρ ev QA=some (.list ((j4 ns).map bf)):=by
 have hb:(jb ns).length<=4:=by unfold jb; refine af qe ?_; lia
 unfold j4
 refine af fL ?_
 refine fV (x:="k") (ds:=(jb ns).map fun(k:Nat)=>.int (k:Int)) (by kernel_rfl) (by kernel_rfl) (by kernel_rfl) ?_ ?_
 . refine bU (b:=opt (ev (jF QA).iter) (fun v=>opt (itemsOf v) (fun ds=>gate (iG ds.length) (some ds) none) none) none) (by kernel_rfl) ?_
   (refine af Tu ?_; rw[A9])
   show gate (iG (List.map _ _).length) _ _=_
   (rewrite [bM]; refine af (show iG (jb ns).length=true from c9 (by lia)) ?_); rfl
 . refine j7 fun k hk=>?_
   refine bU (b:=bE (Gs (ns.map .int) (k:Int)) (opt (Cb [(ns.map .int).getD k .none]) (fun q=>bE q.1 (some (some q.2)) none) none) none) (by kernel_rfl) ?_
   exact zF ns k (So k hk) hz
theorem Zs(ns:List Int)(hz:ns.length<=1000):L1 (co (c3 ns)) ρ (ZI 4)=some (.list (((j4 ns).filter fun x=> !aG (S qU) (S x)).map bf)):=by
 have hb:(jb ns).length<=4:=by unfold jb; refine af qe ?_; lia
 refine fV (x:="s") (ds:=(j4 ns).map bf) (by kernel_rfl) (by kernel_rfl) (by kernel_rfl) ?_ ?_
 . refine bU (b:=opt (opt (lM Ot 2 Bd (An Unit CE (co (c3 ns))) ρ (Ak (DP Unit GA CE Ot Bd (co (c3 ns))) ρ) QA) some none) (fun v=>opt (itemsOf v) (fun ds=>gate (iG ds.length) (some ds) none) none) none) (by kernel_rfl) ?_
   refine af (Vj ns hz _ (by kernel_rfl)) ?_
   show gate (iG (List.map _ _).length) _ _=_
   have:(j4 ns).length<=4:=by unfold j4; rw[bM]; exact hb
   (rewrite [bM]; refine af (show iG (j4 ns).length=true from c9 (by lia)) ?_); rfl
 . refine gU fun x _=>?_
   refine bU (b:=bif !aG "'\"\\ \t\r\n#" (S x)then some (some (bf x))else some none) (by kernel_rfl) ?_
   exact af QI (XU _ _ _)
end
noncomputable def gZ(ns:List Int):V:=if nM ns=[]then .bool (gX ns)else .str (S (nM ns))
noncomputable def bh(ns:List Int):List Nat:=if nM ns=[]then(if gX ns=true then Lq else [])else nM ns
noncomputable def w9(ns:List Int):List (List Nat):=((eU ns.length).filter fun k=> !decide (k∈jb ns)).map fun k=>rm (ns.getD k 0)
noncomputable def bQ(ns:List Int):List Nat:=(w9 ns).flatten
noncomputable abbrev uv:V:=.list [.str "",.str "'",.str "\"",.str "\\\""]
theorem DJ{α:Type}{c g:α->V}{p:α->Bool}{l:List α}(h:∀a∈l,turn (c a)=some (cond (p a) (some (g a)) none)):iD turn (l.map c)=some ((l.filter p).map g):=by
 induction l with
 |nil=>rfl
 | cons a r ih=>
   show opt (turn (c a)) _ _=_
   refine af (h a (.head _)) ?_
   show opt (iD turn (r.map c)) _ _=_
   refine af (ih fun b hb=>h b (.tail _ hb)) (af kQ ?_)
   cases p a <;> rfl
theorem Qk(l:List Nat):(Dat.list (l.map fun(k:Nat)=>Dat.int (k:Int)))= .list (l.map fun(k:Nat)=>Dat.int (k:Int))/\kqdOk 9 (.list (l.map fun(k:Nat)=>Dat.int (k:Int)))=true:=by
 refine⟨rfl,?_⟩
 show(l.map fun(k:Nat)=>.int (k:Int)).all (kqdOk 8)=true
 exact af List.all_map (dH.mpr fun k _=>rfl)
theorem Gv(l:List Nat)(k:Nat):(Dat.int (k:Int)∈l.map fun(k:Nat)=>Dat.int (k:Int))↔k∈l:=by
 constructor
 . intro h
   refine au (bZ.mp h) fun j hj e=>?_
   have:(j:Int)=k:=by injection e
   exact af ((Int.ofNat.inj this).symm) hj
 . exact fun h=>bZ.mpr ⟨k,h,rfl⟩
theorem EH(l:List Nat)(k:Nat):iT .NotIn (.int (k:Int)) (ji l)=some (true,.bool (!decide (k∈l))):=by
 rw[A9]
 refine congrArg some (Prod.ext ?_ (congrArg Dat.bool (congrArg not ?_)))
 . show(kqdOk 9 _&&kqdOk 8 _)=true
   exact af ((Qk l).2) rfl
 . by_cases q:k∈l
   . refine af (decide_eq_true q) ?_; simp only[decide_eq_true_eq]; exact(Gv l k).mpr q
   . refine af (decide_eq_false q) ?_; simp only[decide_eq_false_iff_not]; exact fun h=>q ((Gv l k).mp h)
section
variable {L fa:Addr}{cd:Value}
theorem abH(own:Str)(u m:V)(c:Loc):cu bE vX (cY L fa cd) none 40 (co c) [("own",.str own),("usual",u),("mode",m)] (cA 5) gf=
 bE (!bw own "") (gf (co (("given",.str own)::c)) [("own",.str own),("usual",u),("mode",m)] .next) (gf (co (("given",u)::c)) [("own",.str own),("usual",u),("mode",m)] .next):=by kernel_rfl
theorem abG(own:Str)(u:Bool)(m:V)(c:Loc):cu bE vX (cY L fa cd) none 40 (co c) [("own",.str own),("usual",.bool u),("mode",m)] (cA 6) gf=
 bE (!bw own "") (gf (co c) [("marks",.str own),("own",.str own),("usual",.bool u),("mode",m)] .next) (bE u (gf (co c) [("marks",.str "();<>|&"),("own",.str own),("usual",.bool u),("mode",m)] .next) (gf (co c) [("marks",.str ""),("own",.str own),("usual",.bool u),("mode",m)] .next)):=by kernel_rfl
theorem abF(c ρ:Loc):cu bE vX (cY L fa cd) none 40 (co c) ρ (cA 8) gf=gf (co c) (("tails",uv)::ρ) .next:=by kernel_rfl
noncomputable abbrev c5(ns:List Int):Loc:=[("given",gZ ns),("below",ji (jb ns)),("posix",.bool (aP ns)),("numbers",iA ns)]
theorem Zr(ns:List Int)(m:V):cu bE vX (cY L fa cd) none 40 (co (c3 ns)) [("own",.str (S (nM ns))),("usual",.bool (gX ns)),("mode",m)] (cA 5) gf=gf (co (c5 ns)) [("own",.str (S (nM ns))),("usual",.bool (gX ns)),("mode",m)] .next:=by
 refine(abH _ _ _ _).trans ?_
 unfold c5 gZ
 show bE (!bw _ "") _ _=_
 (refine af dR ?_; rw[g7])
 by_cases e:nM ns=[]
 . exact af (if_pos e) (af e rfl)
 . exact af (if_neg e) (af (show(nM ns== [])=false by simpa using e) rfl)
theorem Zq(ns:List Int)(m:V)(c:Loc):cu bE vX (cY L fa cd) none 40 (co c) [("own",.str (S (nM ns))),("usual",.bool (gX ns)),("mode",m)] (cA 6) gf=gf (co c) [("marks",.str (S (bh ns))),("own",.str (S (nM ns))),("usual",.bool (gX ns)),("mode",m)] .next:=by
 refine(abG _ _ _ _).trans ?_
 unfold bh
 show bE (!bw _ "") _ (bE _ (gf _ ((_,.str "();<>|&")::_) _) (gf _ ((_,.str "")::_) _))=_
 (refine af dR ?_; rewrite [g7]; refine af GB ?_)
 by_cases e:nM ns=[]
 . refine af (if_pos e) (af e ?_)
   cases gX ns <;> rfl
 . exact af (if_neg e) (af (show(nM ns== [])=false by simpa using e) rfl)
theorem Zp(ns:List Int)(hz:ns.length<=1000):L1 (co (c5 ns)) ρ (ZI 7)=some (.list ((w9 ns).map bf)):=by
 have hb:(jb ns).length<=4:=by unfold jb; refine af qe ?_; lia
 unfold w9
 refine af fL ?_
 refine fV (x:="k") (ds:=(eU ns.length).map fun(k:Nat)=>.int (k:Int)) (by kernel_rfl) (by kernel_rfl) (by kernel_rfl) ?_ ?_
 . refine bU (b:=opt (bE (iG (ns.map Dat.int).length) (some (Dat.int ((ns.map Dat.int).length:Nat))) none) (fun v=>opt (U7 v) (fun n=>gate (iG n) (some (j3 n)) none) none) none) (by kernel_rfl) ?_
   have hzz:iG ns.length=true:=c9 (by lia)
   (rewrite [bM]; refine af hzz ?_)
   show gate (iG (Int.toNat _)) _ _=_
   (rewrite [Int.toNat_natCast]; refine af (show iG ns.length=true from c9 (by lia)) ?_); rfl
 . refine DJ fun k hk=>?_
   have hk:k<ns.length:=kP.mp hk
   refine bU (b:=opt (iT .NotIn (.int (k:Int)) (ji (jb ns))) (fun q=>bE q.1 (dj bE none q.2 fun t=>cond t
     (bE (Gs (ns.map .int) (k:Int)) (opt (Cb [(ns.map .int).getD k .none]) (fun q=>bE q.1 (some (some q.2)) none) none) none) (some none)) none) none) (by kernel_rfl) ?_
   (rewrite [EH]; refine af (zF ns k hk hz) ?_)
   exact XU _ _ _
end
noncomputable abbrev dM:List (List Nat):=[[],[39],[34],[92,34]]
theorem Ku:uv= .list (dM.map bf):=by
 have e1:"'"=S [39]:=by decide +kernel
 have e2:"\""=S [34]:=by decide +kernel
 have e3:"\\\""=S [92,34]:=by decide +kernel
 show Dat.list [.str "",.str "'",.str "\"",.str "\\\""]=_
 refine af dR (af e1 (af e2 (af e3 ?_))); rfl
noncomputable abbrev c7(ns:List Int):Loc:=[("text",bf (bQ ns)),("given",gZ ns),("below",ji (jb ns)),("posix",.bool (aP ns)),("numbers",iA ns)]
noncomputable abbrev r6(ns:List Int):Loc:=[("marks",bf (bh ns)),("own",bf (nM ns)),("usual",.bool (gX ns)),("mode",.int (nP ns))]
noncomputable abbrev r8(ns:List Int):Loc:=("tails",uv)::r6 ns
noncomputable def je(ns:List Int):List V:=dM.map fun t=>lI (aP ns) (bh ns) (bQ ns++t)
theorem uR{α:Type}:∀(l:List α) (f:α->List Nat),(∀x∈l,(f x).length<=1)->((l.map f).flatten).length<=l.length
 | [],_,_=>by simp
 | x::r,f,h=>by
   refine af eZ (af jO (af aR (af dg ?_)))
   have:=h x (.head _)
   have:=uR r f fun y hy=>h y (.tail _ hy)
   lia
theorem P7(ns:List Int):(nM ns).length<=4:=by
 unfold nM j4
 refine cg (kR _ _) (cg (uR _ _ fun _ _=>sY _) ?_)
 unfold jb; refine af qe ?_; lia
theorem text_len(ns:List Int):(bQ ns).length<=ns.length:=by
 unfold bQ w9
 refine cg (uR _ _ fun _ _=>sY _) ?_
 have:=kR (fun k=> !decide (k∈jb ns)) (eU ns.length)
 rw[List.length_range]at this
 exact this
theorem uE(ns:List Int):(kM ns).length<=60:=by
 unfold kM; split
 . decide
 . refine af qe ?_; lia
theorem Fd(ns:List Int):A3 (gZ ns)=some (bh ns):=by
 unfold gZ bh
 by_cases e:nM ns=[]
 . refine af (if_pos e) (af (if_pos e) ?_)
   cases gX ns <;> rfl
 . refine af (if_neg e) (af (if_neg e) ?_)
   have:=P7 ns
   show gate (!bw (S (nM ns)) ""&&Nat.ble (S (nM ns)).length 100) _ _=_
   (refine af dR ?_; rewrite [g7]; refine af (show(nM ns== [])=false by simpa using e) ?_; rewrite [eu]; refine af (c9 (by lia)) ?_)
   rfl
theorem pM{T:List Nat}(h:T.length<=300):ru [bf T,.bool (aP ns),gZ ns]=some (true,lI (aP ns) (bh ns) T):=by
 show opt (A3 (gZ ns)) _ _=_
 rw[Fd]
 show some (Nat.ble (S T).length 300,_)=_
 (rewrite [eu]; refine af (c9 h) ?_; rfl)
noncomputable abbrev VI:bG:=cJ (cA 9)
theorem Zo(ns:List Int)(uP:ns.length<=60):L1 (co (c7 ns)) (r8 ns) VI=some (.list (je ns)):=by
 have ht:=text_len ns
 unfold je
 refine fV (x:="tail") (ds:=dM.map bf) (by kernel_rfl) (by kernel_rfl) (by kernel_rfl) ?_ ?_
 . unfold r8
   refine af Ku ?_
   kernel_rfl
 . refine j7 fun t hm=>?_
   refine bU (b:=bE (strOk (S (bQ ns))&&strOk (S t)) (opt (ru [.str (S (bQ ns)++S t),.bool (aP ns),gZ ns]) (fun q=>bE q.1 (some (some q.2)) none) none) none) (by kernel_rfl) ?_
   have ht2:t.length<=2:=by
     simp only[dM,aB,eS,or_false]at hm
     rcases hm with rfl|rfl|rfl|rfl <;> decide
   rw[eO,ck (by lia),ck (by lia),pM (by refine af aR ?_; lia)]
   rfl
section
variable {P:aD}{L fa:Addr}{cd:Value}{s₀:ak}{h₀:aE}{rest:Led}{l:Addr}{cs:List (Str×Addr)}
theorem wC(R:cH (KS P) p az aL mg mb A₀ base av A (cY L fa cd) h₀ L (d+8))(hb:h₀=base)(hu:A.units+8*(d+8)+64<cLine)(gh:n8 L fa cd cs){o:Unit×Loc}(h:L1 o ρ e=some v):
   sJ ai w A (jk s₀ h₀ L rest l cs) o (cY L fa cd) ρ e v:=by
 have IK:=iS (ai:=ai) (w:=w) (s₀:=s₀) (rest:=rest) (l:=l) (X:=fun _ _ _ _=>False) R hb hu gh
 have H:Xj (cY L fa cd) GA CE cs:=⟨uG L fa cd,fun x hx=>⟨(jy L fa cd x hx).1,(jy L fa cd x hx).2,gh x hx⟩⟩
 exact t7 2 _ (jk s₀ h₀ L rest l cs) o (cY L fa cd) ρ Bd (An Unit CE o) (Ak (vX.fh o) ρ) (Bc R hb hu) ⟨R.hk,R.hg,R.hb⟩ (fun f hf=>eq_of_beq hf) (H.cn (yQ:={ ur s₀ h₀ L with rest:=rest })) (fun e v he=>iB (IK.fh o).wk he) e v h
theorem Zh:cA 0= .Assign [.Name "numbers" (bP (gO (cA 0)))] Qz (qZ (cA 0)):=by kernel_rfl
theorem Zg:∃q1 q2 q3 q4 q5,cA 3= .Assign [.Name "below" q1] (.Subscript ZK (.Slice none (some (.Constant (.int 4) 0 q2)) none q3) q4) q5:=⟨⟨797,4,797,9⟩,⟨797,64,797,65⟩,⟨797,63,797,65⟩,⟨797,12,797,66⟩,⟨797,4,797,66⟩,by kernel_rfl⟩
end
theorem Qs:QB=[cA 0,cA 1,cA 2,cA 3,cA 4,cA 5,cA 6,cA 7,cA 8,cA 9]++(cA 10::cA 11::QB.drop 12):=by kernel_rfl
theorem Zf:cA 7= .Assign [.Name "text" (bP (gO (cA 7)))] (.Call (.Attribute (.Constant (.str "") 0 ⟨801,11,801,13⟩) "join" ⟨801,11,801,18⟩) [ZI 7] [] (bP (cJ (cA 7)))) (qZ (cA 7)):=by kernel_rfl
theorem Vf:cA 4= .Assign [.Name "own" (bP (gO (cA 4)))] (.Call (.Attribute (.Constant (.str "") 0 ⟨798,10,798,12⟩) "join" ⟨798,10,798,17⟩) [ZI 4] [] (bP (cJ (cA 4)))) (qZ (cA 4)):=by kernel_rfl
theorem Ze:cA 9= .Assign [.Name "told" (bP (gO (cA 9)))] VI (qZ (cA 9)):=by kernel_rfl
theorem Ve(L fa:Addr)(cd:Value):swapsWith VI (some (.Name "told" (bP (gO (cA 9))))) (qZ (cA 9)).line (cY L fa cd)=pure true:=by kernel_rfl
theorem NU(ns:List Int):vh ((vB ns).map fun(k:Nat)=>.int (k:Int)) 4=(jb ns).map fun(k:Nat)=>.int (k:Int):=by
 unfold vh jb
 exact af (if_pos (by decide)) (af List.map_take rfl)
section
variable {P:aD}{L fa:Addr}{cd:Value}{s₀:ak}{h₀:aE}{rest:Led}{l:Addr}{cs:List (Str×Addr)}
theorem Zn(R:cH (KS P) p az aL mg mb A₀ base av A (cY L fa cd) h₀ L (d+8))(hb:h₀=base)(hu:A.units+8*(d+8)+64<cLine)(gh:n8 L fa cd cs)(hl:h₀.IsList l vs.toArray)(hi:IntsAre vs iy)(hz:iy.length<=1000):
   cK ai w A (jk s₀ h₀ L rest l cs) (cY L fa cd) X (co []) [] (cA 0) (co [("numbers",iA (kM iy))],[],.next):=by
 have IK:=iS (ai:=ai) (w:=w) (s₀:=s₀) (rest:=rest) (l:=l) (X:=X) R hb hu gh
 exact af Zh (sX IK (aas R hb hu gh hl hi hz) (by kernel_rfl))
section
variable (R:cH (KS P) p az aL mg mb A₀ base av A (cY L fa cd) h₀ L (d+8))(hb:h₀=base)(hu:A.units+8*(d+8)+64<cLine)(gh:n8 L fa cd cs){ns:List Int}(hz:ns.length<=1000)
include R hb hu gh
theorem Zm:cK ai w A (jk s₀ h₀ L rest l cs) (cY L fa cd) X (co [("numbers",iA ns)]) [("mode",.int (nP ns))] (cA 2) (co [("posix",.bool (aP ns)),("numbers",iA ns)],[("usual",.bool (gX ns)),("mode",.int (nP ns))],.next):=by
 have IK:=iS (ai:=ai) (w:=w) (s₀:=s₀) (rest:=rest) (l:=l) (X:=X) R hb hu gh
 exact af Zw (uy (q:=(co [("posix",.bool (aP ns)),("numbers",iA ns)],[("usual",.bool (gX ns)),("mode",.int (nP ns))])) IK (xs:=["posix","usual"]) (ds:=[.bool (aP ns),.bool (gX ns)]) (by kernel_rfl) Zv (iB (IK.fh _).wk (Zu _ _)) rfl (by kernel_rfl) (by kernel_rfl))
include hz
theorem Zl:cK ai w A (jk s₀ h₀ L rest l cs) (cY L fa cd) X (co [("posix",.bool (aP ns)),("numbers",iA ns)]) [("usual",.bool (gX ns)),("mode",.int (nP ns))] (cA 3) (co (c3 ns),[("usual",.bool (gX ns)),("mode",.int (nP ns))],.next):=by
 have IK:=iS (ai:=ai) (w:=w) (s₀:=s₀) (rest:=rest) (l:=l) (X:=X) R hb hu gh
 refine BO Zg fun q1 q2 q3 q4 q5 e=>?_
 refine af e ?_
 have hn:(vB ns).length<=1000:=by
   have:=kR (fun k=>decide (ns.getD k 0<0)) (eU ns.length)
   rw[List.length_range]at this
   exact cg this hz
 have hv:Be (ji (vB ns)) none (some (.int 4))=some (true,ji (jb ns)):=by
   rw[A9,A9,<-NU]
   show some (iG (List.map _ _).length,_)=_
   (rewrite [bM]; refine af (show iG (vB ns).length=true from c9 (by lia)) ?_; rfl)
 have hc:=(wC (ai:=ai) (w:=w) (s₀:=s₀) (rest:=rest) (l:=l) R hb hu gh (Zt (ρ:=[("usual",.bool (gX ns)),("mode",.int (nP ns))]) ns hz (.bool (aP ns)))).ev
 exact sX IK (v:=ji (jb ns)) (Ai hc Dn (Dm (fq rfl)) hv) (by kernel_rfl)
theorem Zk:cK ai w A (jk s₀ h₀ L rest l cs) (cY L fa cd) X (co (c3 ns)) [("usual",.bool (gX ns)),("mode",.int (nP ns))] (cA 4) (co (c3 ns),[("own",bf (nM ns)),("usual",.bool (gX ns)),("mode",.int (nP ns))],.next):=by
 have IK:=iS (ai:=ai) (w:=w) (s₀:=s₀) (rest:=rest) (l:=l) (X:=X) R hb hu gh
 have hp:∀x∈j4 ns,x.length<=1:=fun x hx=>by
   obtain⟨k,_,rfl⟩:=bZ.mp hx; exact sY _
 refine af Vf ?_
 have hf:=Cr (j4 ns) hp
 have hle:((j4 ns).filter fun x=> !aG (S qU) (S x)).length<=1000:=by
   refine cg (kR _ _) ?_
   unfold j4 jb
   (rewrite [bM]; refine af qe ?_); lia
 have hc:=(wC (ai:=ai) (w:=w) (s₀:=s₀) (rest:=rest) (l:=l) R hb hu gh (Zs (ρ:=[("usual",.bool (gX ns)),("mode",.int (nP ns))]) ns hz)).ev
 have he:=wL hc (by kernel_rfl) hle (fun x hx=>cg (hp x (mL.mp hx).1) (by decide)) (kk:=0) (q1:=⟨798,10,798,12⟩) (q2:=⟨798,10,798,17⟩) (q3:=bP (cJ (cA 4))) (by kernel_rfl)
 rw[hf]at he
 exact oB IK (show GA.contains "own"=true by decide +kernel) rfl he
theorem Zj:cK ai w A (jk s₀ h₀ L rest l cs) (cY L fa cd) X (co (c5 ns)) (r6 ns) (cA 7) (co (c7 ns),r6 ns,.next):=by
 have IK:=iS (ai:=ai) (w:=w) (s₀:=s₀) (rest:=rest) (l:=l) (X:=X) R hb hu gh
 refine af Zf ?_
 have hle:(w9 ns).length<=1000:=by
   unfold w9
   rw[bM]
   exact cg (kR _ _) (af List.length_range hz)
 have h1:∀x∈w9 ns,x.length<=1000:=fun x hx=>by
   refine au (bZ.mp hx) fun k _ iU=>?_
   subst iU
   exact cg (sY _) (by decide)
 have hc:=(wC (ai:=ai) (w:=w) (s₀:=s₀) (rest:=rest) (l:=l) R hb hu gh (Zp (ρ:=r6 ns) ns hz)).ev
 have he:=wL hc (by kernel_rfl) hle h1 (kk:=0) (q1:=⟨801,11,801,13⟩) (q2:=⟨801,11,801,18⟩) (q3:=bP (cJ (cA 7))) (by kernel_rfl)
 exact sX IK (v:=bf (bQ ns)) he (by kernel_rfl)
omit hz
theorem Zi(uP:ns.length<=60):cK ai w A (jk s₀ h₀ L rest l cs) (cY L fa cd) X (co (c7 ns)) (r8 ns) (cA 9) (co (c7 ns),("told",.list (je ns))::r8 ns,.next):=by
 refine af Ze ?_
 refine(wC R hb hu gh (Zo ns uP)).assign (Ve L fa cd) R.hk R.hl (by kernel_rfl) fun q hq=>?_
 have hq:q∈lwR l:=hq
 exact af (aY.mp hq) (show "script"≠aj "told" by decide)
end
theorem gb{o nv o':O}{st:Stmt}(h:cK ai w A C env X o ρ st (nv,jm,.next))(h':vP ai w A C env X nv jm r o' ρ'):vP ai w A C env X o ρ (st::r) o' ρ':=⟨nv,jm,h,h'⟩
theorem Mu(R:cH (KS P) p az aL mg mb A₀ base av A (cY L fa cd) h₀ L (d+8))(hb:h₀=base)(hu:A.units+8*(d+8)+64<cLine)(gh:n8 L fa cd cs)(hl:h₀.IsList l vs.toArray)(hi:IntsAre vs iy)(hz:iy.length<=1000):
   vP ai w A (jk s₀ h₀ L rest l cs) (cY L fa cd) X (co []) [] [cA 0,cA 1,cA 2,cA 3,cA 4,cA 5,cA 6,cA 7,cA 8,cA 9] (co (c7 (kM iy))) (("told",.list (je (kM iy)))::r8 (kM iy)):=by
 have IK:=iS (ai:=ai) (w:=w) (s₀:=s₀) (rest:=rest) (l:=l) (X:=X) R hb hu gh
 have uP:=uE iy
 refine gb (Zn R hb hu gh hl hi hz) ?_
 generalize kM iy=ns at*
 have hz':ns.length<=1000:=by lia
 refine gb (stK IK (Zz ns)) (gb (Zm R hb hu gh) (gb (Zl R hb hu gh hz') (gb (Zk R hb hu gh hz') ?_)))
 exact gb (stK IK (Zr ns _)) (gb (stK IK (Zq ns _ _)) (gb (Zj R hb hu gh hz') (gb (stK IK (abF _ _)) (gb (Zi R hb hu gh uP) ⟨rfl,rfl⟩))))
end
noncomputable abbrev nN(cs:List (Str×Addr))(x:Str):List (Str×Addr):=cs.filter fun y=> !(y.1==x)
theorem Cv{cs:List (Str×Addr)}{x:Str}(h:∀y∈cs,y.1≠x):nN cs x=cs:=
 List.filter_eq_self.mpr fun y hy=>af (beq_false_of_ne (h y hy)) rfl
theorem U3(c1 c2:List (Str×Addr))(x:Str)(a:Addr):nN (c1++(x,a)::c2) x=nN c1 x++nN c2 x:=by
 unfold nN
 rw[List.filter_append,kQ,beq_self_eq_true]; rfl
theorem Cw{x y:Str}(h:y≠x):∀cs:List (Str×Addr),(nN cs x).lookup y=cs.lookup y
 | []=>rfl
 | (n,a)::r=>by
   have ih:=Cw h r
   rw[bW]
   unfold nN at ih |-
   rw[kQ]
   cases e:n==x with
   | true=>
     rw[eq_of_beq e,beq_false_of_ne h]; exact ih
   |false=>exact af (if_pos rfl) (af bW (af ih rfl))
theorem bV.drop{x:Str}{a:Addr}{cs:List (Str×Addr)}(r:bV fz c cs R)(hn:(cs.map (·.1)).Nodup)(hx:cs.lookup x=some a):
   ∃pre ob post,R=pre++(a,ob)::post/\pe fz ob (c.lookup x)/\R.map (·.1)=cs.map (·.2)/\bV fz c (nN cs x) (pre++post):=by
 have key:(cs.map (·.1)).Nodup->∃pre ob post,R=pre++(a,ob)::post/\pe fz ob (c.lookup x)/\bV fz c (nN cs x) (pre++post):=
   r.cut hx (P:=fun cs R=>(cs.map (·.1)).Nodup->∃pre ob post,R=pre++(a,ob)::post/\pe fz ob (c.lookup x)/\bV fz c (nN cs x) (pre++post))
     fun c1 c2 R1 ob R2 q1 q2 q3 hn=>⟨R1,ob,R2,rfl,q3,by have k:=gc hn; rw[U3,Cv k.1,Cv k.2]; exact q1.app q2⟩
 exact(key hn).elim fun pre h=>h.elim fun ob h=>h.elim fun post h=>⟨pre,ob,post,h.1,h.2.1,r.keys,h.2.2⟩
section
variable {s₀:ak}{h₀:aE}{L:Addr}{rest:Led}{l:Addr}{cs:List (Str×Addr)}
theorem Ik{o:Unit×Loc}(h:At (jk s₀ h₀ L rest l cs) o ρ fz s)(hk:env.scope.kind= .function){x:Str}{c:Addr}(hx:env.kindOf x=some .cell)(he:env.cells.lookup x=some c)(hc:cs.lookup x=some c){D:Addr}(hD:(D,od)∈fz)(hq:∀ob s',ob.data= .cell (some (.ref D))->At (jk s₀ h₀ L ((c,ob)::(D,od)::rest) l (nN cs x)) o ρ fz s'->Q () s'):wpAny (model ai w) A (storeName env x (.ref D)) Q E s:=by
 refine At.el h fun h' tk m R F N rp ap lc rf=>?_
 obtain⟨n1,n2,fF,d8,rfl,xr,a,q⟩:=rp
 refine yU (xr.drop n1 hc) fun pre ob post jU MJ MU aai=>?_
 subst jU
 refine cE (DO MJ) fun Uk e0=>?_
 have hm:(c,ob)∈((pre++(c,ob)::post)++d8)++(fz++rest):=by simp
 refine wpAny_storeName_cell hk hx he ⟨ob,(N _ hm).1,e0⟩ fun gY BN hs=>?_
 refine au BN fun yS e1 e2=>?_
 have kk:=gc (af MU n2)
 have e3:(pre++(c,ob)::post)++d8=pre++(c,ob)::(post++d8):=by simp
 have k2:∀q∈post++d8,q.1≠c:=fun q hq=>by
   rcases bu.mp hq with hq|hq
   . exact kk.2 q hq
   . exact fun e=>a (c,ob) (by simp) q hq e.symm
 have ap':Apart (pre++(c,ob)::(post++d8)) (fz++rest):=e3▸ap
 have N':News h₀ L h' ((pre++(c,ob)::(post++d8))++(fz++rest)):=e3▸N
 refine lV (xV F N' ap' kk.1 k2 hs e1) fun sH pB yG=>?_
 have XH:∀p∈(pre++post)++d8,p∈pre++(c,yS)::(post++d8):=fun p hp=>by
   simp only[bu,aB]at hp |-
   rcases hp with (hp|hp)|hp
   . exact .inl hp
   . exact .inr (.inr (.inl hp))
   . exact .inr (.inr (.inr hp))
 have nS:∀p∈(pre++post)++d8,p.1≠c:=fun p hp=>by
   simp only[bu]at hp
   rcases hp with (hp|hp)|hp
   . exact kk.1 p hp
   . exact k2 p (aH _ hp)
   . exact k2 p (aJ _ hp)
 have Ys:(nN cs x).Sublist cs:=List.filter_sublist
 refine hq yS _ e2 ⟨gY,tk,m,(pre++post)++d8,rfl,sH,fun p hp=>?_,⟨(Ys.map _).nodup n1,(Ys.map _).nodup n2,_,d8,rfl,aai,fun p hp q hq=>?_,q⟩,fun p hp q hq=>?_,lc,rf⟩
 . have hp:p∈((pre++post)++d8)++(fz++((c,yS)::(D,od)::rest)):=hp
   rcases bu.mp hp with hp|hp
   . exact pB p (aH _ (XH p hp))
   . rcases bu.mp hp with hp|hp
     . exact pB p (aJ _ (aH _ hp))
     . rcases aB.mp hp with rfl|hp
       . exact pB _ (aH _ (aJ _ (.head _)))
       . rcases aB.mp hp with rfl|hp
         . exact pB _ (aJ _ (aH _ hD))
         . exact pB p (aJ _ (aJ _ hp))
 . rcases bu.mp hp with hp|hp
   . exact a p (aH _ hp) q hq
   . exact a p (aJ _ (.tail _ hp)) q hq
 . have hq:q∈fz++((c,yS)::(D,od)::rest):=hq
   have Ox:=XH p hp
   rcases bu.mp hq with hq|hq
   . exact yG p Ox q (aH _ hq)
   . rcases aB.mp hq with rfl|hq
     . exact nS p hp
     . rcases aB.mp hq with rfl|hq
       . exact yG p Ox _ (aH _ hD)
       . exact yG p Ox q (aJ _ hq)
end
noncomputable abbrev JM(t1 t2 t3:Tok):List (Str×Value):=[(aj "",.str "L" t1),(aj "No closing quotation",.str "Q" t2),(aj "No escaped character",.str "E" t3)]
theorem Jg(t1 t2 t3:Tok):merged [] (JM t1 t2 t3)=JM t1 t2 t3:=by kernel_rfl
noncomputable def mz(k:Nat):Nat:=if k=0 then 76 else if k=1 then 81 else 69
theorem acC(t1 t2 t3:Tok):valueAt (JM t1 t2 t3) ""=some (.str "L" t1):=by kernel_rfl
theorem acB(t1 t2 t3:Tok):valueAt (JM t1 t2 t3) "No closing quotation"=some (.str "Q" t2):=by kernel_rfl
theorem acA(t1 t2 t3:Tok):valueAt (JM t1 t2 t3) "No escaped character"=some (.str "E" t3):=by kernel_rfl
theorem aau(t1 t2 t3:Tok)(k:Nat):∃t,valueAt (JM t1 t2 t3) (qX k)=some (.str (S [mz k]) t):=by
 have e1:"L"=S [76]:=by decide +kernel
 have e2:"Q"=S [81]:=by decide +kernel
 have e3:"E"=S [69]:=by decide +kernel
 unfold qX mz lE
 by_cases h0:k=0
 . exact af (if_pos h0) (af (if_pos h0) (af e1.symm ⟨t1,acC t1 t2 t3⟩))
 . refine af (if_neg h0) (af (if_neg h0) ?_)
   by_cases h1:k=1
   . exact af (if_pos h1) (af (if_pos h1) (af e2.symm ⟨t2,acB t1 t2 t3⟩))
   . exact af (if_neg h1) (af (if_neg h1) (af e3.symm ⟨t3,acA t1 t2 t3⟩))
noncomputable abbrev LZ:bG:=.Dict [some (.Constant (.str "") 0 ⟨804,13,804,15⟩),some (.Constant (.str "No closing quotation") 0 ⟨804,22,804,44⟩),some (.Constant (.str "No escaped character") 0 ⟨804,51,804,73⟩)]
   [.Constant (.str "L") 0 ⟨804,17,804,20⟩,.Constant (.str "Q") 0 ⟨804,46,804,49⟩,.Constant (.str "E") 0 ⟨804,75,804,78⟩] ⟨804,12,804,79⟩
theorem Vh:cA 10= .Assign [.Name "names" ⟨804,4,804,9⟩] LZ ⟨804,4,804,79⟩:=by kernel_rfl
section
variable {P:aD}{L fa:Addr}{cd:Value}{s₀:ak}{h₀:aE}{l:Addr}
theorem RW{K:Frag}(R:cH K p az aL mg mb A₀ base av A env C.h₀ C.L d)(h:At C o ρ fz s){Q E:Value->ak->Prop}(hq:∀s' D od t1 t2 t3,At C o ρ ((D,od)::fz) s'->od.IsDictOf (strKind ai w) (JM t1 t2 t3)->(D==jQ)=false->Q (.ref D) s'):wpAny (model ai w) A (eval LZ env) Q E s:=by
 have RA:=modules_low R.T.nolimit
 refine gB h.nO fun m₂ wB kq kj=>?_
 have hn:s.heap.get? s.heap.objs.size=none:=by
   cases q:s.heap.get? s.heap.objs.size with
   |none=>rfl
   |some o'=>exact absurd (ek q) (iY _)
 refine wpAny_Dict_pairs (knd:=strKind ai w) (pairs:=[(eval (.Constant (.str "") 0 ⟨804,13,804,15⟩) env,(do let x <-eval (.Constant (.str "L") 0 ⟨804,17,804,20⟩) env; standAt ⟨804,12,804,79⟩; pure x)),
   (eval (.Constant (.str "No closing quotation") 0 ⟨804,22,804,44⟩) env,(do let x <-eval (.Constant (.str "Q") 0 ⟨804,46,804,49⟩) env; standAt ⟨804,12,804,79⟩; pure x)),
   (eval (.Constant (.str "No escaped character") 0 ⟨804,51,804,73⟩) env,(do let x <-eval (.Constant (.str "E") 0 ⟨804,75,804,78⟩) env; standAt ⟨804,12,804,79⟩; pure x))]) rfl (by simp) (by simp) ?_
 refine evalPairs_cons (i0 (ao (i0 (ao (wpAny_standAt (aA ?_))))))
 refine evalPairs_cons (i0 (ao (i0 (ao (wpAny_standAt (aA ?_))))))
 refine evalPairs_cons (i0 (ao (i0 (ao (wpAny_standAt (aA ?_))))))
 refine evalPairs_nil ⟨JM _ _ _,⟨strKind_is ai w _ _,rfl,strKind_is ai w _ _,rfl,strKind_is ai w _ _,rfl,trivial⟩,Heap.DictOf.new s.heap,fun h' hd hs=>?_⟩
 rw[Jg]at hd
 refine au (Heap.dictOf_iff.mp hd) fun od JI abW=>?_
 exact hq _ _ od _ _ _ (h.grow (fun b ob e=>hs.extBut b ob (dJ (ek e)) (Heap.get?_push_of_some _ e)) hn JI _) abW (kq.notModules RA)
end
theorem WJ(s:Sc):(fin s).2<=2:=by
 induction s with
 |kD s ih=>exact ih
 |out=>exact dz _
 |word=>exact dz _
 |run=>exact dz _
 |jg=>exact iX _
 |cD=>exact bC _
 |i9=>exact bC _
theorem PD(aa:Bool)(M W t:List Nat)(s:Sc):(scan aa M W t s).2<=2:=WJ _
noncomputable def NI(w:Str):Nat:=if w=aj "" then 0 else if w=lE 1 then 1 else 2
theorem NH{k:Nat}(h:k<=2):NI (qX k)=k:=by
 match k,h with
 |0,_=>decide +kernel
 |1,_=>decide +kernel
 |2,_=>decide +kernel
noncomputable def Tc:V->V
 | .tuple [_,.str w]=>bf [mz (NI w)]
 |_=>.none
noncomputable def ksL(aa:Bool)(M T:List Nat):List Nat:=dM.map fun t=>(scan aa M (wordsOf aa M) (T++t) .out).2
noncomputable def fJ(aa:Bool)(M T:List Nat):List Nat:=(ksL aa M T).map mz
noncomputable abbrev L2:bG:=(um (cJ (cA 11))).headD zE
noncomputable abbrev S4:bG:=.Call (.Attribute (.Name "names" ⟨805,21,805,26⟩) "get" ⟨805,21,805,30⟩) [.Subscript (.Name "answer" ⟨805,31,805,37⟩) (.Constant (.int 1) 0 ⟨805,38,805,39⟩) ⟨805,31,805,40⟩,.Constant (.str "?") 0 ⟨805,42,805,45⟩] [] ⟨805,21,805,46⟩
noncomputable abbrev lK:Scope:=⟨.function,[(".0",.local),("answer",.local),("names",.free)],false,false,[]⟩
theorem Vi:L2= .ListComp S4 [⟨.Name "answer" ⟨805,51,805,57⟩,.Name "told" ⟨805,61,805,65⟩,[],0⟩] lK ⟨805,20,805,66⟩:=by kernel_rfl
theorem Vg:cA 11= .Assign [.Name "kinds" (bP (gO (cA 11)))] (.Call (.Attribute (.Constant (.str "") 0 ⟨805,12,805,14⟩) "join" ⟨805,12,805,19⟩) [L2] [] (bP (cJ (cA 11)))) (qZ (cA 11)):=by kernel_rfl
section
variable {P:aD}{L fa:Addr}{cd:Value}{s₀:ak}{h₀:aE}{rest:Led}{l:Addr}{cs:List (Str×Addr)}
theorem Ip{D cN:Addr}{t1 t2 t3:Tok}(hc:(cY L fa cd).cells.lookup (aj "names")=some cN)(rK:ob.data= .cell (some (.ref D)))(JI:od.IsDictOf (strKind ai w) (JM t1 t2 t3))(MT:(D==jQ)=false){o:Unit×Loc}{C':Addr}{k:Nat}(H:BH (jV lK (closL (cY L fa cd).cells lK.names []) C' (cY L fa cd)) "answer" cG (.tuple [r,.str (qX k)]) Z):
   bq ai w A (CT (jk s₀ h₀ L ((cN,ob)::(D,od)::rest) l cs) Z cG) o (jV lK (closL (cY L fa cd).cells lK.names []) C' (cY L fa cd)) ρ S4 (bf [mz k]):=by
 intro fz s Q E h hq
 have hkk:(jV lK (closL (cY L fa cd).cells lK.names []) C' (cY L fa cd)).scope.kind= .function:=rfl
 have kn:(jV lK (closL (cY L fa cd).cells lK.names []) C' (cY L fa cd)).kindOf "names"=some .cell:=tn (by kernel_rfl) (by kernel_rfl) (by kernel_rfl)
 have kc:(jV lK (closL (cY L fa cd).cells lK.names []) C' (cY L fa cd)).cells.lookup (aj "names")=some cN:=by
   show(aZ (C'+1) lK.names (closL (cY L fa cd).cells lK.names [])).lookup (aj "names")=some cN
   rw[(nX (by kernel_rfl)).1]
   exact sy hc (acc:=[]) (.tail _ (.tail _ (.head _)))
 have rows:∀ {fz:Led} {s:ak},At (CT (jk s₀ h₀ L ((cN,ob)::(D,od)::rest) l cs) Z cG) o ρ fz s->s.heap.get? cN=some ob/\∃news,News h₀ L s.heap news/\(D,od)∈news:=fun h=>by
   refine At.el h fun hp tk m R F N rp ap lc rf=>?_
   exact⟨(N (cN,ob) (aJ _ (aJ _ (.head _)))).1,_,N,aJ _ (aJ _ (.tail _ (.head _)))⟩
 refine d9 (pl:=_) (eN (wpAny_loadName_cell hkk kn kc ⟨ob,(rows h).1,rK⟩ ?_) (by decide)) (iJ (v:=.Name "names" ⟨805,21,805,26⟩) rfl rfl (by simp) rfl)
 refine au ((rows h).2) fun news N hn=>?_
 refine kdg_method N hn JI ?_
 have ha:bq ai w A (CT (jk s₀ h₀ L ((cN,ob)::(D,od)::rest) l cs) Z cG) o (jV lK (closL (cY L fa cd).cells lK.names []) C' (cY L fa cd)) ρ (.Subscript (.Name "answer" ⟨805,31,805,37⟩) (.Constant (.int 1) 0 ⟨805,38,805,39⟩) ⟨805,31,805,40⟩) (.str (qX k)):=
   Dr (H.ev hkk (by decide)) (fq rfl) rfl rfl
 refine cW (first:=[.ref D]) rfl ((cC rfl ha (cC rfl (fq rfl) fC)) _ fz s _ E h fun aO aX ws s2 h2 x2=>?_)
 refine au ((rows h2).2) fun acS N2 hn2=>?_
 obtain⟨v1,r1,rfl,x1,x2⟩:=c8 x2
 obtain⟨v2,r2,rfl,x3,x2⟩:=c8 x2
 obtain rfl:=j6 x2
 refine FQ x1 fun tk=>?_
 refine cE (aau t1 t2 t3 k) fun t ht=>?_
 exact kdg_get2 N2 hn2 JI MT (strKind_is ai w _ _) _ ht (hq aO _ _ s2 (h2.toks _) (.str _ _))
theorem Np{K:Frag}(R:cH K p az aL mg mb A₀ base av A (cY L fa cd) h₀ L d){D cN:Addr}{t1 t2 t3:Tok}(hc:(cY L fa cd).cells.lookup (aj "names")=some cN)(rK:ob.data= .cell (some (.ref D)))(JI:od.IsDictOf (strKind ai w) (JM t1 t2 t3))(MT:(D==jQ)=false){o:Unit×Loc}{aa:Bool}{M T:List Nat}(ht:bq ai w A (jk s₀ h₀ L ((cN,ob)::(D,od)::rest) l cs) o (cY L fa cd) ρ (.Name "told" ⟨805,61,805,65⟩) (.list (dM.map fun t=>lI aa M (T++t)))):
   bq ai w A (jk s₀ h₀ L ((cN,ob)::(D,od)::rest) l cs) o (cY L fa cd) ρ L2 (.list ((fJ aa M T).map fun c=>bf [c])):=by
 refine af Vi ?_
 have e1:(fJ aa M T).map (fun c=>bf [c])=dM.map fun t=>bf [mz (scan aa M (wordsOf aa M) (T++t) .out).2]:=by
   unfold fJ ksL
   rw[fL,fL]; rfl
 refine af e1 ?_
 have hkd:∀t,Tc (lI aa M (T++t))=bf [mz (scan aa M (wordsOf aa M) (T++t) .out).2]:=fun t=>by
   show bf [mz (NI (qX _))]=_
   (refine af (NH (PD _ _ _ _ _)) ?_; rfl)
 refine Hq (turn:=fun d=>some (some (Tc d))) (cl:=closL (cY L fa cd).cells lK.names []) (Hr fun y hy e=>?_) rfl (by decide +kernel) (Lr (by kernel_rfl)) (ds:=dM.map fun t=>lI aa M (T++t)) (by simp) (AR rfl) (tP R.hh ht) (j7 fun t _=>by rw[hkd]) fun fz C' Z d' t hd hh H=>?_
 . simp only[aB,eS,or_false]at hy
   rcases hy with rfl|rfl|rfl
   . cases e
   . cases e
   . exact⟨cN,hc⟩
 . refine au (bZ.mp hd) fun u _ iU=>?_
   subst iU
   have hh:=sj hh
   subst hh
   refine .inr ⟨rfl,_,rfl,?_⟩
   rw[hkd]
   exact Ip hc rK JI MT H
end
noncomputable def Z2:Stmt->bG
 | .If t _ _ _=>t
 |_=>zE
noncomputable abbrev pQ(i:Nat):bG:=Z2 (cA i)
noncomputable abbrev W0:List V:=[.str "LQQL",.str "QLQQ",.str "QQLQ",.str "ELLQ",.str "EQQL"]
noncomputable abbrev W2:List V:=[.str "LQQQ",.str "LLLQ",.str "QLQQ",.str "QQLL"]
noncomputable abbrev cT(tx g bl:V)(p:Bool)(nu:V):Loc:=[("text",tx),("given",g),("below",bl),("posix",.bool p),("numbers",nu)]
noncomputable abbrev XT(o:Unit×Loc)(ρ:Loc)(e:bG):Option Bool:=jZ bE (vX.fh o) ρ none 12 e (fun v=>dj bE none v some)
section
variable {L fa:Addr}{cd:Value}{tx g bl nu:V}{p:Bool}
theorem ZH:cu bE vX (cY L fa cd) none 40 (co (cT tx g bl p nu)) ρ (cA 12) gf=bE p (gf (co (cT tx g bl p nu)) (("due",.list W0)::ρ) .next) (gf (co (cT tx g bl p nu)) (("due",.list W2)::ρ) .next):=by kernel_rfl
theorem ZG(K:Str)(ds:List V):XT (co (cT tx g bl p nu)) (("due",.list ds)::("kinds",.str K)::ρ) (pQ 13)=
 opt (z7 .Add (.list ds) (.list [.str "LLLL"])) (fun q=>bE q.1 (opt (iT .NotIn (.str K) q.2) (fun r=>bE r.1 (dj bE none r.2 some) none) none) none) none:=by kernel_rfl
theorem ZF(K:Str)(d:V):cu bE vX (cY L fa cd) none 40 (co (cT tx g bl p nu)) (("due",d)::("kinds",.str K)::ρ) (cA 14) gf=gf (co (cT tx g bl p nu)) (("place",.int (Txt.find K "L"))::("due",d)::("kinds",.str K)::ρ) .next:=by kernel_rfl
noncomputable abbrev LY:bG:=cJ (cA 15)
noncomputable abbrev Ko(r0 w0 r1 w1 r2 w2 r3 w3:V):V:=.list [.tuple [r0,w0],.tuple [r1,w1],.tuple [r2,w2],.tuple [r3,w3]]
noncomputable abbrev Kv:List Str:=["","'","\"","\\\""]
theorem ZE(i:Nat)(hi:i<4)(r0 w0 r1 w1 r2 w2 r3 w3 du ki mk:V)(tx:Str):Ak (vX.fh (co (cT (.str tx) g bl p nu))) [("place",.int (i:Int)),("due",du),("kinds",ki),("told",Ko r0 w0 r1 w1 r2 w2 r3 w3),("tails",uv),("marks",mk)] LY=
 bE (strOk tx&&strOk (Kv.getD i "")) (some (.tuple [([r0,r1,r2,r3]:List V).getD i .none,.str (tx++Kv.getD i "")])) none:=by
 match i,hi with
 |0,_=>kernel_rfl
 |1,_=>kernel_rfl
 |2,_=>kernel_rfl
 |3,_=>kernel_rfl
theorem ZD(rw mk:V):cu bE vX (cY L fa cd) none 40 (co (cT tx g bl p nu)) (("row",rw)::("marks",mk)::ρ) (cA 16) gf=
 opt (uL [rw,.bool p,mk]) (fun q=>bE q.1 (gf (co (cT tx g bl p nu)) (("least",q.2)::("row",rw)::("marks",mk)::ρ) .next) none) none:=by kernel_rfl
noncomputable abbrev Xr(lt:V)(rs:List V)(wh:Str)(i:Nat)(told mk:V):Loc:=[("least",lt),("whole",.str wh),("row",.list rs),("place",.int (i:Int)),("told",told),("marks",mk)]
theorem ZC(lt wh:Str)(rs x0:List V)(i:Nat)(w0 r1 w1 r2 w2 r3 w3 mk:V):XT (co (cT tx g bl p nu)) (Xr (.str lt) rs wh i (Ko (.list x0) w0 r1 w1 r2 w2 r3 w3) mk) (pQ 17)=
 bE (strOk lt) (bE (strOk wh) (bE (decide ((lt.length:Int)>wh.length)) (some true) (bE (decide ((i:Int)>0)) (bE (iG rs.length) (opt (iT .NotEq (.list x0) (.list (vh rs (-1)))) (fun q=>bE q.1 (dj bE none q.2 some) none) none) none) (some false))) none) none:=by kernel_rfl
theorem ZA:cu bE vX (cY L fa cd) none 40 (co (cT tx g bl p nu)) ρ (cA 18) gf=bE p (gf (co (("lost",.str " \t\r\n'\"\\")::cT tx g bl p nu)) ρ .next) (gf (co (("lost",.str " \t\r\n")::cT tx g bl p nu)) ρ .next):=by kernel_rfl
noncomputable abbrev cL(lo tx g bl:V)(p:Bool)(nu:V):Loc:=("lost",lo)::cT tx g bl p nu
variable {lo:V}
theorem Vv(hd lt rw mk:V)(rs:List V):cu bE vX (cY L fa cd) none 40 (co (cL lo tx g bl true nu)) (("hidden",hd)::("least",lt)::("row",.list rs)::ρ) (cA 21) gf=
 bE (iG (rs.length+rs.length)) (gf (co (cL lo tx g bl true nu)) (("twice",.tuple [.list (rs++rs),.str ""])::("hidden",hd)::("least",lt)::("row",.list rs)::ρ) .next) none:=by kernel_rfl
theorem Vw(hd rw:V)(lt:Str):cu bE vX (cY L fa cd) none 40 (co (cL lo tx g bl false nu)) (("hidden",hd)::("least",.str lt)::("row",rw)::ρ) (cA 21) gf=
 bE (strOk lt&&strOk lt) (opt (ru [.str (lt++lt),.bool false,g]) (fun q=>bE q.1 (gf (co (cL lo tx g bl false nu)) (("twice",q.2)::("hidden",hd)::("least",.str lt)::("row",rw)::ρ) .next) none) none) none:=by kernel_rfl
theorem Zy(tw rw:V)(hd lt:Str):XT (co (cL lo tx g bl p nu)) (("twice",tw)::("hidden",.str hd)::("least",.str lt)::("row",rw)::ρ) (pQ 22)=
 bE (strOk lt&&strOk hd) (bE (strOk (lt++hd)&&strOk lt) (opt (ru [.str (lt++hd++lt),.bool p,g]) (fun q=>bE q.1 (opt (iT .NotEq q.2 tw) (fun r=>bE r.1 (dj bE none r.2 some) none) (opt (lP .NotEq q.2 tw) (fun v=>dj bE none v some) none)) none) none) none) none:=by kernel_rfl
theorem Zx(ot mk:V):cu bE vX (cY L fa cd) none 40 (co (cL lo tx g bl p nu)) (("other",ot)::("marks",mk)::ρ) (cA 24) gf=
 opt (uL [ot,.bool p,mk]) (fun q=>bE q.1 (gf (co (cL lo tx g bl p nu)) (("brief",q.2)::("other",ot)::("marks",mk)::ρ) .next) none) none:=by kernel_rfl
noncomputable abbrev X7:bG:=(um (pQ 25)).getD 0 zE
noncomputable abbrev Xm:bG:=(um (pQ 25)).getD 1 zE
noncomputable abbrev Xl:bG:=cJ (cA 26)
theorem Vq:pQ 25= .BoolOp .And [X7,.Compare (bL Xm) [.NotEq] [bR Xm] (bP Xm)] (bP (pQ 25)):=by kernel_rfl
theorem Vm:cA 26= .Return (some (.Compare (bL Xl) [.Eq] [bR Xl] (bP Xl))) (qZ (cA 26)):=by kernel_rfl
theorem Vs(br ot:V):XT (co (cL lo tx g bl p nu)) (("brief",br)::("other",ot)::ρ) X7=some (pP br):=by kernel_rfl
theorem Vp(br:Str)(ot:V):Ak (vX.fh (co (cL lo tx g bl p nu))) (("brief",.str br)::("other",ot)::ρ) (bL Xm)=opt (ru [.str br,.bool p,g]) (fun q=>bE q.1 (some q.2) none) none:=by kernel_rfl
theorem Vo(br ot:V):Ak (vX.fh (co (cL lo tx g bl p nu))) (("brief",br)::("other",ot)::ρ) (bR Xm)=some (.tuple [ot,.str ""]):=by kernel_rfl
theorem Vl(lt:Str)(rs:V):Ak (vX.fh (co (cL lo tx g bl p nu))) (("least",.str lt)::("row",rs)::ρ) (bL Xl)=opt (ru [.str lt,.bool p,g]) (fun q=>bE q.1 (some q.2) none) none:=by kernel_rfl
theorem Vk(lt:Str)(rs:V):Ak (vX.fh (co (cL lo tx g bl p nu))) (("least",.str lt)::("row",rs)::ρ) (bR Xl)=some (.tuple [rs,.str ""]):=by kernel_rfl
theorem Vr:jK .NotEq (bR Xm)=false:=by kernel_rfl
theorem Vn:jK .Eq (bR Xl)=false:=by kernel_rfl
end
noncomputable abbrev bLL(e:bG):bG:=bL (bL e)
noncomputable abbrev JC:bG:=cJ (cA 20)
theorem Vx:cA 20= .Assign [.Name "hidden" (bP (gO (cA 20)))] JC (qZ (cA 20)):=by kernel_rfl
theorem T8:∃k1 q1 q2 q3 k4 q4 k5 q5 q6 q7 k8 q8 q9,JC= .BinOp (.BinOp (.Constant (.str "#") k1 q1) .Add (.Call (.Attribute (.Name "text" q2) "replace" q3) [.Constant (.str "\n") k4 q4,.Constant (.str "") k5 q5] [] q6) q7) .Add (.Constant (.str "\n") k8 q8) q9/\(q3.endLine==q6.line)=true:=
 ⟨0,bP (bL (bL JC)),bP (bLL (bR (bL JC))),bP (bL (bR (bL JC))),0,bP ((um (bR (bL JC))).getD 0 zE),0,bP ((um (bR (bL JC))).getD 1 zE),bP (bR (bL JC)),bP (bL JC),0,bP (bR JC),bP JC,by kernel_rfl,by kernel_rfl⟩
noncomputable abbrev OD:bG:=cJ (cA 23)
theorem Vt:cA 23= .Assign [.Name "other" (bP (gO (cA 23)))] OD (qZ (cA 23)):=by kernel_rfl
theorem T7:∃q1 q2 k q3 q4,OD= .Call (.Attribute (.Name "text" q1) "split" q2) [.Constant (.str "x") k q3] [] q4/\(q2.endLine==q4.line)=true:=
 ⟨bP (bLL OD),bP (bL (OD)),0,bP ((um OD).getD 0 zE),bP OD,by kernel_rfl,by kernel_rfl⟩
noncomputable def gj(T:List Nat):List Nat:=35::(T.filter (· !=10)++[10])
noncomputable def dZ(T:List Nat):List Str:=Txt.split (S T) (S [120])
section
variable {P:aD}{L fa:Addr}{cd:Value}{s₀:ak}{h₀:aE}{rest:Led}{l:Addr}{cs:List (Str×Addr)}
theorem Hu{K:Frag}(R:cH K p az aL mg mb A₀ base av A (cY L fa cd) h₀ L d)(gh:n8 L fa cd cs){o:Unit×Loc}(h:At (jk s₀ h₀ L rest l cs) o ρ fz s){y:Str}(hy:y∈CE)(hv:o.2.lookup y=some v){q:Pos}{Q E:Value->ak->Prop}(hq:∀u,VR fz v u->Q u s):wpAny (model ai w) A (eval (.Name y q) (cY L fa cd)) Q E s:=by
 refine cp fun G' k'=>?_
 refine au (gh y hy) fun c h1 h2=>?_
 refine fS (Ar h h1 hv) fun ob u e1 e2 e3=>?_
 refine k' ?_
 exact eN (wpAny_loadName_cell R.hk (jy L fa cd y hy).1 h2 ⟨ob,e1,e2⟩ (hq u e3)) (jy L fa cd y hy).2
theorem TV(a b:List Nat)(ha:a.length<=1000)(hb:b.length<=1000):vQ ai w binaryOp .Add (bf a) (bf b) (bf (a++b)):=by
 have h:NT bE none .Add (bf a) (bf b) some=some (bf (a++b)):=by
   show bE (strOk (S a)&&strOk (S b)) (some (eK (S a++S b))) none=_
   (refine af (ck (by lia)) (af (ck (by lia)) ?_); rw[eO]); rfl
 obtain⟨d,hd,e⟩:=Hx h
 obtain rfl:=sj e
 exact fun {A E s fz va vb Q}=>hd
theorem Jc{K:Frag}(R:cH K p az aL mg mb A₀ base av A (cY L fa cd) h₀ L d)(gh:n8 L fa cd cs){T:List Nat}(hT:T.length<=300)(hv:c.lookup (aj "text")=some (bf T)):
   bq ai w A (jk s₀ h₀ L rest l cs) (co c) (cY L fa cd) ρ JC (bf (gj T)):=by
 refine cp fun G' k'=>?_
 refine BO T8 fun k1 q1 q2 q3 k4 BX=>?_
 obtain⟨q4,k5,q5,q6,q7,k8,q8,q9,e,hl⟩:=BX
 refine k' ?_
 refine af e ?_
 have hf:(T.filter (· !=10)).length<=300:=cg (kR _ _) hT
 have c1:"#"=S [35]:=by decide +kernel
 have c2:"\n"=S [10]:=S6
 have e4:gj T=([35]++T.filter (· !=10))++[10]:=rfl
 have inner:bq ai w A (jk s₀ h₀ L rest l cs) (co c) (cY L fa cd) ρ (.BinOp (.Constant (.str "#") k1 q1) .Add (.Call (.Attribute (.Name "text" q2) "replace" q3) [.Constant (.str "\n") k4 q4,.Constant (.str "") k5 q5] [] q6) q7) (bf ([35]++T.filter (· !=10))):=by
   intro fz s Q E h hq
   refine wpAny_BinOp (i0 ?_)
   have h1:=h.toks (s.toks+1)
   refine d9 (pl:=_) (Hu R gh h1 (by decide) hv fun u hu=>?_) (iJ rfl rfl (by simp) hl)
   refine FQ hu fun t=>?_
   refine GM.replace (cW (first:=[.str (S T) t]) rfl (fP (i0 (fP (i0 (ic ?_)) rfl)) rfl))
   refine SC.replaceW (u:=s.toks+1) (v:=s.toks+1+1) (Nat.succ_ne_zero _) (Nat.succ_ne_zero _) (dJ (sF _)) (by decide +kernel) (by rw[eu]; lia) (by decide +kernel) fun t' k=>?_
   have er:Txt.replace (S T) "\n" ""=S (T.filter (· !=10)):=by
     refine af c2 (af dR ?_)
     have:=replace_strikes (S T) 10
     exact af (sG (Txt.replace (S T) (S [10]) (S []))) (congrArg S this)
   exact af er (af c1 (TV [35] _ (by decide) (by lia) (.str _ _) (.str _ t') fun v tk x=>hq fz _ v (fun _ h=>h) (h.toks tk) x))
 refine af e4 ?_
 intro fz s Q E h hq
 refine wpAny_BinOp (inner fz s _ E h fun ay s₁ va s1 h1 x1=>i0 ?_)
 refine af c2 ?_
 exact TV ([35]++T.filter (· !=10)) [10] (by refine af aR (af dG ?_); lia) (by decide) x1 (.str _ _) fun v tk x=>hq ay _ v s1 (h1.toks tk) x
theorem Ep{x y:Str}{t u:Tok}(hy:(y.length==0)=false)(hx:x.length<=1000)(hq:∀ls k,ls.map (·.1)=Txt.split x y->Q (.ref s.heap.objs.size) { s with heap:=s.heap.push { cls:=.type "list",data:=.seq (strValues ls).toArray },toks:=k }):
   wpAny (model ai w) A (call (.builtin "str.split") [.str x t,.str y u]) Q E s:=by
 have hsz:x.length<=sizeLine:=by refine af dh ?_; lia
 have abN:(PySem.Builtin.Str.partsBetween x (ua x y 0 x.length (x.length+1)) y.length).length<=sizeLine:=by
   have e:∀(W8:List Nat) (w:Nat),(PySem.Builtin.Str.partsBetween x W8 w).length=W8.length+1:=fun W8 w=>by simp[PySem.Builtin.Str.partsBetween]
   (rewrite [e]; refine af dh ?_)
   have:=StrLaws.occ_length_le x y 0 x.length (x.length+1)
   lia
 unfold Txt.split at hq
 cases h1:(decide (x.length<y.length)||decide (PySem.Builtin.Str.strKind x<PySem.Builtin.Str.strKind y))with
 | false=>
   rw[h1,if_neg (by decide)]at hq
   cases hf:(ua x y 0 x.length (x.length+1)).isEmpty with
   | false=>
     rw[hf,if_neg (by decide)]at hq
     refine call_meets PySem.F.slot_str_split (lR _ _ _) PySem.F.entry_str_split (PySem.F.args_str_split_2 _ _) (meets_str_split_sep x y t u h1 hy hf hsz abN) ?_
     show wants Q E _ { s with toks:=_,heap:=s.heap.push { cls:=.type "list",data:=.seq (strsFrom s.toks (PySem.Builtin.Str.partsBetween x (ua x y 0 x.length (x.length+1)) y.length)).toArray } }
     rw[strsFrom_eq]
     exact hq (numbered s.toks _) _ (numbered_texts _ _)
   | true=>
     rw[hf,if_pos rfl]at hq
     exact call_meets PySem.F.slot_str_split (lR _ _ _) PySem.F.entry_str_split (PySem.F.args_str_split_2 _ _) (meets_str_split_not_found x y t u h1 hy hf) (hq [(x,t)] s.toks rfl)
 | true=>
   rw[h1,if_pos rfl]at hq
   exact call_meets PySem.F.slot_str_split (lR _ _ _) PySem.F.entry_str_split (PySem.F.args_str_split_2 _ _) (meets_str_split_cannot_occur x y t u h1) (hq [(x,t)] s.toks rfl)
theorem vj:∀ls:List (Str×Tok),aU fz (strValues ls) ((ls.map (·.1)).map .str)
 | []=>.nil
 |(x,t)::r=>.cons (.str x t) (vj r)
theorem Nn{K:Frag}(R:cH K p az aL mg mb A₀ base av A (cY L fa cd) h₀ L d)(gh:n8 L fa cd cs){T:List Nat}(hT:T.length<=300)(hv:c.lookup (aj "text")=some (bf T)):
   bq ai w A (jk s₀ h₀ L rest l cs) (co c) (cY L fa cd) ρ OD (.list ((dZ T).map .str)):=by
 refine XY T7 fun q1 q2 k q3 q4 e hl=>?_
 refine af e ?_
 have c1:"x"=S [120]:=by decide +kernel
 intro fz s Q E h hq
 refine d9 (pl:=_) (Hu R gh h (by decide) hv fun u hu=>?_) (iJ rfl rfl (by simp) hl)
 refine FQ hu fun t=>?_
 refine GM.split (cW (first:=[.str (S T) t]) rfl (fP (i0 (ic ?_)) rfl))
 refine af c1 ?_
 have h1:=h.toks (s.toks+1)
 refine Ep (by rw[eu]; rfl) (by rw[eu]; lia) fun ls k hls=>?_
 have h2:=(h1.push { cls:=.type "list",data:=.seq (strValues ls).toArray } rfl).toks k
 refine hq _ _ _ (fun q hq=>.tail _ hq) h2 (.list (.head _) ?_)
 have:=vj (fz:=(s.heap.objs.size,({ cls:=.type "list",data:=.seq (strValues ls).toArray }:Obj))::fz) ls
 rw[hls]at this
 exact this
end
noncomputable abbrev X9:bG:=(um (pQ 19)).getD 0 zE
noncomputable abbrev Ay:bG:=(um (pQ 19)).getD 1 zE
theorem Vz:pQ 19= .BoolOp .And [X9,.Compare (bL Ay) [.NotEq] [bR Ay] (bP Ay)] (bP (pQ 19)):=by kernel_rfl
theorem VA:jK .NotEq (bR Ay)=false:=by kernel_rfl
theorem Vy:∃q1 k q2 q3 q5,(jF (bR Ay)).iter= .Call (.Attribute (.Constant (.str "") k q1) "join" q2) [.Name "row" q5] [] q3/\(q2.endLine==q3.line)=true:=
 ⟨bP (bLL (jF (bR Ay)).iter),0,bP (bL ((jF (bR Ay)).iter)),bP (jF (bR Ay)).iter,bP ((um (jF (bR Ay)).iter).getD 0 zE),by kernel_rfl,by kernel_rfl⟩
noncomputable def ev1(e0:bG)(v:V)(e:bG):Option V:=@ite _ (e=e0) (Classical.propDecidable _) (some v) none
theorem Nu(e0:bG)(v:V):ev1 e0 v e0=some v:=if_pos rfl
theorem WU(h:ev1 e0 v e=some u):e=e0/\u=v:=by
 unfold ev1 at h
 split at h
 . rename_i q; exact⟨q,(sj h).symm⟩
 . exact nn h
noncomputable abbrev vF(nQ:Str)(X:List Nat):List Nat:=X.filter fun n=> !aG nQ (S [n])
noncomputable abbrev sgs(X:List Nat):V:=.list (X.map fun n=>bf [n])
section
variable {lo tx g bl nu:V}{p:Bool}
theorem VB(T:List Nat):XT (co (cL lo (bf T) g bl p nu)) ρ X9=some (!aG (S T) "#"):=by kernel_rfl
theorem Qx(nQ:Str)(X:List Nat)(hX:X.length<=1000)(ev:bG->Option V)(h:ev (jF (bL Ay)).iter=some (bf X)):lM Ot 2 Bd (An Unit CE (co (cL (.str nQ) tx g bl p nu))) ρ ev (bL Ay)=some (sgs (vF nQ X)):=by
 refine fV (x:="s") (ds:=X.map fun n=>bf [n]) (by kernel_rfl) (by kernel_rfl) (by kernel_rfl) ?_ ?_
 . refine bU (b:=opt (ev (jF (bL Ay)).iter) (fun v=>opt (itemsOf v) (fun ds=>gate (iG ds.length) (some ds) none) none) none) (by kernel_rfl) ?_
   refine af h ?_
   refine bU (b:=gate (iG (X.map fun n=>bf [n]).length) (some (X.map fun n=>bf [n])) none) rfl ?_
   (rewrite [bM]; refine af (show iG X.length=true from c9 (by lia)) ?_); rfl
 . refine gU fun n _=>?_
   exact bU (b:=bif !aG nQ (S [n])then some (some (bf [n]))else some none) (by kernel_rfl) (XU _ _ _)
theorem Qw(nQ:Str)(X:List Nat)(hX:X.length<=1000)(ev:bG->Option V)(h:ev (jF (bR Ay)).iter=some (bf X)):lM Ot 2 Bd (An Unit CE (co (cL (.str nQ) tx g bl p nu))) ρ ev (bR Ay)=some (sgs (vF nQ X)):=by
 refine fV (x:="s") (ds:=X.map fun n=>bf [n]) (by kernel_rfl) (by kernel_rfl) (by kernel_rfl) ?_ ?_
 . refine bU (b:=opt (ev (jF (bR Ay)).iter) (fun v=>opt (itemsOf v) (fun ds=>gate (iG ds.length) (some ds) none) none) none) (by kernel_rfl) ?_
   refine af h ?_
   refine bU (b:=gate (iG (X.map fun n=>bf [n]).length) (some (X.map fun n=>bf [n])) none) rfl ?_
   (rewrite [bM]; refine af (show iG X.length=true from c9 (by lia)) ?_); rfl
 . refine gU fun n _=>?_
   exact bU (b:=bif !aG nQ (S [n])then some (some (bf [n]))else some none) (by kernel_rfl) (XU _ _ _)
end
section
variable {P:aD}{L fa:Addr}{cd:Value}{s₀:ak}{h₀:aE}{rest:Led}{l:Addr}{cs:List (Str×Addr)}
theorem CD(R:cH (KS P) p az aL mg mb A₀ base av A (cY L fa cd) h₀ L (d+8))(hb:h₀=base)(hu:A.units+8*(d+8)+64<cLine)(gh:n8 L fa cd cs){o:Unit×Loc}(h0:bq ai w A (jk s₀ h₀ L rest l cs) o (cY L fa cd) ρ e0 u)(h:lM Ot 2 Bd (An Unit CE o) ρ (ev1 e0 u) e=some v):
   bq ai w A (jk s₀ h₀ L rest l cs) o (cY L fa cd) ρ e v:=by
 have H:Xj (cY L fa cd) GA CE cs:=⟨uG L fa cd,fun x hx=>⟨(jy L fa cd x hx).1,(jy L fa cd x hx).2,gh x hx⟩⟩
 exact(t7 2 _ (jk s₀ h₀ L rest l cs) o (cY L fa cd) ρ Bd (An Unit CE o) (ev1 e0 u) (Bc R hb hu) ⟨R.hk,R.hg,R.hb⟩ (fun f hf=>eq_of_beq hf) (H.cn (yQ:={ ur s₀ h₀ L with rest:=rest })) (fun e v he=>by obtain⟨rfl,rfl⟩:=WU he; exact h0) e v h).ev
theorem UI{X:List Nat}(h:∀c∈X,c<0x110000):kqdOk 9 (sgs X)=true:=by
 show(X.map fun n=>bf [n]).all (kqdOk 8)=true
 refine af List.all_map ?_
 refine dH.mpr fun c hc=>?_
 show jN (S [c])=true
 unfold jN
 simp[h c hc]
theorem O4(R:cH (KS P) p az aL mg mb A₀ base av A (cY L fa cd) h₀ L (d+8))(hb:h₀=base)(hu:A.units+8*(d+8)+64<cLine)(gh:n8 L fa cd cs){g bl nu:V}{q:Bool}{nQ:Str}{T wh:List Nat}{row:List (List Nat)}(hw:wh.length<=1000)(hr:row.length<=1000)(hrl:∀t∈row,t.length<=1000)(hf:row.flatten.length<=1000)(hv:∀c∈wh,c<0x110000)(ewh:ρ.lookup (aj "whole")=some (bf wh))(erw:ρ.lookup (aj "row")=some (.list (row.map bf)))(h:35∈T\/vF nQ wh=vF nQ row.flatten):
   gi ai w A (jk s₀ h₀ L rest l cs) (co (cL (.str nQ) (bf T) g bl q nu)) (cY L fa cd) ρ (pQ 19) false:=by
 have IK:=iS (ai:=ai) (w:=w) (s₀:=s₀) (rest:=rest) (l:=l) (X:=fun _ _ _ _=>False) R hb hu gh
 have c1:"#"=S [35]:=by decide +kernel
 refine af Vz ?_
 have ta:=ou (IK.fh (co (cL (.str nQ) (bf T) g bl q nu))).wk (VB (lo:=.str nQ) (ρ:=ρ) (g:=g) (bl:=bl) (nu:=nu) (p:=q) T)
 rw[c1,iC]at ta
 by_cases h35:35∈T
 . rw[decide_eq_true h35]at ta
   exact kW ta rfl
 . rw[decide_eq_false h35]at ta
   have he:=h.resolve_left h35
   have ew:bq ai w A (jk s₀ h₀ L rest l cs) (co (cL (.str nQ) (bf T) g bl q nu)) (cY L fa cd) ρ (jF (bL Ay)).iter (bf wh):=by
     have e:(jF (bL Ay)).iter= .Name "whole" (bP (jF (bL Ay)).iter):=by kernel_rfl
     exact af e (fM (IK.fh _) (show GA.contains "whole"=true by decide +kernel) (by decide +kernel) ewh)
   have er:bq ai w A (jk s₀ h₀ L rest l cs) (co (cL (.str nQ) (bf T) g bl q nu)) (cY L fa cd) ρ (jF (bR Ay)).iter (bf row.flatten):=by
     refine XY Vy fun q1 k q2 q3 q5 e hl=>?_
     exact af e (wL (fM (IK.fh _) (show GA.contains "row"=true by decide +kernel) (by decide +kernel) erw) rfl hr hrl hl)
   have e1:=CD R hb hu gh ew (Qx (tx:=bf T) (g:=g) (bl:=bl) (nu:=nu) nQ wh hw _ (Nu _ _))
   have e2:=CD R hb hu gh er (Qw (tx:=bf T) (g:=g) (bl:=bl) (nu:=nu) nQ row.flatten hf _ (Nu _ _))
   rw[<-he]at e2
   have hk:=UI (X:=vF nQ wh) fun c hc=>hv c (mL.mp hc).1
   refine kW ta (rX (AM (v:=.bool false) e1 e2 VA (by lia) ?_ rfl))
   refine congrArg some (Prod.ext ?_ (congrArg Dat.bool ?_))
   . show(kqdOk 9 _&&kqdOk 9 _)=true
     exact af hk rfl
   . simp
end
noncomputable abbrev o5(aa:Bool):Str:=cond aa " \t\r\n'\"\\" " \t\r\n"
noncomputable abbrev pZ(aa:Bool):List V:=cond aa W0 W2
abbrev Cp(t:List Nat):Prop:=∀c∈t,c<0x110000
structure yO(aa:Bool)(M T:List Nat)(i:Nat)(row:List (List Nat))(lt:List Nat):Prop where
 hi:i<4
 due:bf (fJ aa M T)∈pZ aa++[.str "LLLL"]
 find:Txt.find (S (fJ aa M T)) "L"=(i:Int)
 rd:scan aa M (wordsOf aa M) (T++dM.getD i []) .out=(row,0)
 least:fU aa (S M) (row.map S)=some (S lt)
 len:lt.length<=(T++dM.getD i []).length
 cut:0<i->(scan aa M (wordsOf aa M) T .out).1=row.dropLast
 kept:35∈T\/vF (o5 aa) (T++dM.getD i [])=vF (o5 aa) row.flatten
 kD:scan aa M (wordsOf aa M) (lt++gj T++lt) .out=if aa=true then(row++row,0)else scan aa M (wordsOf aa M) (lt++lt) .out
 oth:∀b,fU aa (S M) (dZ T)=some b->scan aa M (wordsOf aa M) b.cps.toList .out=((dZ T).map (·.cps.toList),0)/\b.length<=300
 back:scan aa M (wordsOf aa M) lt .out=(row,0)
 tok:∀t∈row,t.length<=62/\Cp t
 num:row.length<=63
 flat:row.flatten.length<=62
 Y4:∀t∈dZ T,jt t=true
 abz:(dZ T).length<=61
 cpT:Cp T
 cpt:∀t∈(scan aa M (wordsOf aa M) T .out).1,Cp t
 cpc:∀t∈(scan aa M (wordsOf aa M) (lt++gj T++lt) .out).1,Cp t
theorem NC{t:List Nat}(hv:Cp t):jN (S t)=true:=by
 unfold jN
 simpa using hv
theorem Kp{t:List Nat}(h:t.length<=62)(hv:Cp t):jt (S t)=true:=by
 unfold jt
 (rewrite [eu]; refine af (decide_eq_true (show t.length<=100 by lia)) ?_; rw[Bool.true_and])
 exact NC hv
theorem La{row:List (List Nat)}(n:Nat)(h:∀t∈row,Cp t):kqdOk (n+1) (.list (row.map bf))=true:=by
 show(row.map bf).all (kqdOk n)=true
 refine af List.all_map ?_
 refine dH.mpr fun t ht=>?_
 show kqdOk n (.str (S t))=true
 cases n <;> exact NC (h t ht)
theorem WX(k:Nat):jN (qX k)=true:=by
 unfold qX lE
 split
 . decide +kernel
 . split <;> decide +kernel
theorem AZ{aa:Bool}{M T:List Nat}(h:∀t∈(scan aa M (wordsOf aa M) T .out).1,Cp t):kqdOk 9 (lI aa M T)=true:=by
 show([.list _,.str _]:List V).all (kqdOk 8)=true
 refine af fQ (af fQ (af (La 7 h) ?_))
 show(true&&(jN (qX _)&&true))=true
 rw[WX]; rfl
theorem zY{aa:Bool}{M:List Nat}{row:List Str}(h:∀t∈row,jt t=true)(hn:row.length<=1000):uL [.list (row.map .str),.bool aa,bf M]=some (true,eH (fU aa (S M) row)):=by
 show opt (opt (lB (row.map .str)) _ none) _ none=_
 rw[qI]
 show some (decide (row.length<=1000)&&row.all jt,_)=_
 exact af (decide_eq_true hn) (af (dH.mpr h) rfl)
theorem Ej(ds:List V):vh ds (-1)=ds.dropLast:=by
 unfold vh
 exact af (if_neg (by decide)) (af List.dropLast_eq_take rfl)
theorem xM(hs:∃l,pK x=some l)(h:kqdOk 9 x=true):iT .NotEq x x=some (true,.bool false):=by
 refine cE hs fun l hl=>?_
 show opt (pK x) _ _=_
 refine af hl ?_
 refine congrArg some (Prod.ext ?_ (congrArg Dat.bool ?_))
 . show(kqdOk 9 x&&kqdOk 9 x)=true
   exact af h rfl
 . simp
theorem R0(hs:∃l,pK x=some l)(h:kqdOk 9 x=true):iT .Eq x x=some (true,.bool true):=by
 refine cE hs fun l hl=>?_
 show opt (pK x) _ _=_
 refine af hl ?_
 refine congrArg some (Prod.ext ?_ (congrArg Dat.bool ?_))
 . show(kqdOk 9 x&&kqdOk 9 x)=true
   exact af h rfl
 . simp
section
variable {ns:List Int}{i:Nat}{row:List (List Nat)}{lt:List Nat}
noncomputable abbrev gV(ns:List Int)(i:Nat):List Nat:=bQ ns++dM.getD i []
theorem Uu(i:Nat)(hi:i<4):(Kv.getD i "")=S (dM.getD i []):=by
 match i,hi with
 |0,_=>exact dR
 |1,_=>decide +kernel
 |2,_=>decide +kernel
 |3,_=>decide +kernel
theorem ow(i:Nat):(dM.getD i []).length<=2:=by
 match i with
 |0=>decide
 |1=>decide
 |2=>decide
 |3=>decide
 |n+4=>exact dz _
noncomputable abbrev lW(ns:List Int)(j:Nat):V:=.list ((scan (aP ns) (bh ns) (wordsOf (aP ns) (bh ns)) (bQ ns++dM.getD j []) .out).1.map bf)
noncomputable abbrev vg(ns:List Int)(j:Nat):V:=.str (qX (scan (aP ns) (bh ns) (wordsOf (aP ns) (bh ns)) (bQ ns++dM.getD j []) .out).2)
theorem Ur(ns:List Int):(.list (je ns):V)=Ko (lW ns 0) (vg ns 0) (lW ns 1) (vg ns 1) (lW ns 2) (vg ns 2) (lW ns 3) (vg ns 3):=rfl
end
section
variable {ns:List Int}{i:Nat}{row:List (List Nat)}{lt:List Nat}(K:yO (aP ns) (bh ns) (bQ ns) i row lt)(uP:ns.length<=60)
variable {L fa:Addr}{cd:Value}
include K
theorem v13{d:V}(hd:d= .list (pZ (aP ns))):opt (z7 .Add d (.list [.str "LLLL"])) (fun q=>bE q.1 (opt (iT .NotIn (.str (S (fJ (aP ns) (bh ns) (bQ ns)))) q.2) (fun r=>bE r.1 (dj bE none r.2 some) none) none) none) none=some false:=by
 subst hd
 have e:iT .NotIn (.str (S (fJ (aP ns) (bh ns) (bQ ns)))) (.list (pZ (aP ns)++[.str "LLLL"]))=some (true,.bool false):=by
   refine congrArg some (Prod.ext ?_ (congrArg Dat.bool ?_))
   . have k1:kqdOk 9 (.list (pZ (aP ns)++[.str "LLLL"]))=true:=by cases aP ns <;> decide +kernel
     have k2:jN (S (fJ (aP ns) (bh ns) (bQ ns)))=true:=by
       refine NC fun c hc=>?_
       refine au (bZ.mp hc) fun k _ iU=>?_
       subst iU
       unfold mz
       split
       . decide
       . split <;> decide
     show(kqdOk 9 _&&jN _)=true
     exact af k1 (af k2 rfl)
   . have:=K.due
     simp[this]
 have ez:z7 .Add (.list (pZ (aP ns))) (.list [.str "LLLL"])=some (true,.list (pZ (aP ns)++[.str "LLLL"])):=by cases aP ns <;> rfl
 refine af ez ?_
 refine bU (b:=opt (iT .NotIn (.str (S (fJ (aP ns) (bh ns) (bQ ns)))) (.list (pZ (aP ns)++[.str "LLLL"]))) (fun r=>bE r.1 (dj bE none r.2 some) none) none) rfl ?_
 exact af e rfl
end
noncomputable def yw(p m:Bool)(c:Nat):Bool:=
 bif (!decide (c<97)&& !decide (122<c))||((!decide (c<65)&& !decide (90<c))||((!decide (c<48)&& !decide (57<c))||c==95))then true else
   bif p&&(!decide (c<192)&& !decide (255<c))then !(c==215||c==247)else m&&(c==126||c==45||c==46||c==47||c==42||c==63||c==61)
noncomputable abbrev Ue(p m:Bool):List Nat:=cond m (wl p) (SD p)
theorem Jk:∀p m:Bool,∀c<256,yw p m c=decide (c∈Ue p m):=by decide +kernel
theorem J3:∀p m:Bool,∀c∈Ue p m,c<256:=by decide +kernel
theorem Jl(p m:Bool)(c:Nat):yw p m c=decide (c∈Ue p m):=by
 by_cases h:c<256
 . exact Jk p m c h
 . have h1:decide (c∈Ue p m)=false:=decide_eq_false fun q=>h (J3 p m c q)
   refine af h1 ?_
   unfold yw
   have e1:decide (122<c)=true:=decide_eq_true (by lia)
   have e2:decide (90<c)=true:=decide_eq_true (by lia)
   have e3:decide (57<c)=true:=decide_eq_true (by lia)
   have e4:decide (255<c)=true:=decide_eq_true (by lia)
   have e5:(c==95)=false:=beq_false_of_ne (by lia)
   have e6:(c==126||c==45||c==46||c==47||c==42||c==63||c==61)=false:=by
     exact af (beq_false_of_ne (show c≠126 by lia)) (af (beq_false_of_ne (show c≠45 by lia)) (af (beq_false_of_ne (show c≠46 by lia)) (af (beq_false_of_ne (show c≠47 by lia)) (af (beq_false_of_ne (show c≠42 by lia)) (af (beq_false_of_ne (show c≠63 by lia)) (af (beq_false_of_ne (show c≠61 by lia)) rfl))))))
   refine af e1 (af e2 (af e3 (af e4 (af e5 (af e6 ?_)))))
   cases p <;> cases m <;> simp
theorem CC{aa:Bool}{M:List Nat}{c:Nat}:c∈wordsOf aa M↔c∉M/\c∈Ue aa (!M.isEmpty):=by
 cases M with
 |nil=>simp[wordsOf]
 | cons a r=>
   show c∈(wl aa).filter (fun c=>decide (c∉onceL (a::r) []))↔_
   rw[mL]
   have:(c∉onceL (a::r) [])↔c∉a::r:=by
     rw[zP]; simp
   constructor
   . rintro⟨h1,h2⟩
     exact⟨this.mp (of_decide_eq_true h2),h1⟩
   . rintro⟨h1,h2⟩
     exact⟨h2,decide_eq_true (this.mpr h1)⟩
theorem Sk(aa:Bool)(M:List Nat)(c:Nat):g9 aa (S M) (S [c])=decide (c∈wordsOf aa M):=by
 have la:"a"=S [97]:=by decide +kernel
 have lz:"z"=S [122]:=by decide +kernel
 have lA:"A"=S [65]:=by decide +kernel
 have lZ:"Z"=S [90]:=by decide +kernel
 have l0:"0"=S [48]:=by decide +kernel
 have l9:"9"=S [57]:=by decide +kernel
 have lu:"_"=S [95]:=by decide +kernel
 have lC:"À"=S [192]:=by decide +kernel
 have ly:"ÿ"=S [255]:=by decide +kernel
 have lx:"×÷"=S [215,247]:=by decide +kernel
 have lt:"~-./*?="=S [126,45,46,47,42,63,61]:=by decide +kernel
 have key:g9 aa (S M) (S [c])=bif decide (c∈M)then false else yw aa (!M.isEmpty) c:=by
   unfold g9 yw
   refine af la (af lz (af lA (af lZ (af l0 (af l9 (af lu (af lC (af ly (af lx (af lt (af dR ?_)))))))))))
   simp only[iC,Pj,g7]
   have em:(!(M==([]:List Nat)))= !M.isEmpty:=by cases M <;> rfl
   have e95:([c]== [95])=(c==95):=by cases h:c==95 <;> simp_all
   refine af em (af e95 ?_)
   cases decide (c∈M)with
   |true=>simp
   | false=>
     skip
     have m1:decide (c∈ [215,247])=(c==215||c==247):=by
       rw[Bool.eq_iff_iff]; simp
     have m2:decide (c∈ [126,45,46,47,42,63,61])=(c==126||c==45||c==46||c==47||c==42||c==63||c==61):=by
       rw[Bool.eq_iff_iff]; simp[or_assoc]
     (refine af m1 (af m2 ?_); rfl)
 (refine af key ?_; rw[Jl])
 by_cases hm:c∈M
 . exact af (decide_eq_true hm) (af (decide_eq_false fun h=>(CC.mp h).1 hm) rfl)
 . refine af (decide_eq_false hm) ?_
   by_cases hw:c∈Ue aa (!M.isEmpty)
   . exact af (decide_eq_true hw) (af (decide_eq_true (CC.mpr ⟨hm,hw⟩)) rfl)
   . exact af (decide_eq_false hw) (af (decide_eq_false fun h=>hw (CC.mp h).2) rfl)
def MOk(M:List Nat):Prop:=∀c∈M,c∉qU
theorem Ud:∀p m:Bool,∀c∈Ue p m,c∉qU:=by decide +kernel
theorem aaI{aa:Bool}{M:List Nat}{c:Nat}(h:c∈wordsOf aa M):c∉qU:=Ud _ _ c (CC.mp h).2
theorem W_M{aa:Bool}{M:List Nat}{c:Nat}(h:c∈wordsOf aa M):c∉M:=(CC.mp h).1
structure Ch(aa:Bool)(M W:List Nat):Prop where
 ch:∀c,g9 aa (S M) (S [c])=decide (c∈W)
 off:∀c∈W,c∉qU
 W7:∀c∈W,c∉M
 LU:∀c∈M,c∉qU
theorem aav{aa:Bool}{M:List Nat}(h:MOk M):Ch aa M (wordsOf aa M):=⟨Sk aa M,fun _=>aaI,fun _=>W_M,h⟩
theorem xK{c:Nat}(h:c∉qU):c∉ri/\c≠35/\c≠92/\c≠39/\c≠34:=by
 simp only[qU,ri,aB,eS,or_false,not_or]at h |-
 lia
section
variable {aa:Bool}{M W:List Nat}
theorem Gp{c:Nat}(h:c∈ri):cM aa M W c=([],.out):=if_pos h
theorem Gq:cM aa M W 35=([],.kD .out):=rfl
theorem A4(h:aa=true):cM aa M W 92=([],.cD []):=by
 unfold cM; (refine af (if_neg (by decide)) (af (if_neg (by decide)) (af (if_pos ⟨h,rfl⟩) ?_)); rfl)
theorem xH(C:Ch aa M W){c:Nat}(h:c∈W):cM aa M W c=([],.word [c]):=by
 refine om (xK (C.off c h)) fun h1 h2 h3 h4 h5=>?_
 unfold cM; (refine af (if_neg h1) (af (if_neg h2) (af (if_neg (fun q=>h3 q.2)) (af (if_pos h) ?_))); rfl)
theorem pO(C:Ch aa M W){c:Nat}(h:c∈M):cM aa M W c=([],.run [c]):=by
 refine om (xK (C.LU c h)) fun h1 h2 h3 h4 h5=>?_
 unfold cM; (refine af (if_neg h1) (af (if_neg h2) (af (if_neg (fun q=>h3 q.2)) (af (if_neg (fun q=>C.W7 c q h)) (af (if_pos h) ?_)))); rfl)
theorem rz(C:Ch aa M W){c:Nat}(h:c∈qL):c∉ri/\c≠35/\c≠92/\c∉W/\c∉M:=by
 have e:c∈qU/\c∉ri/\c≠35/\c≠92:=by
   simp only[qL,aB,eS,or_false]at h
   rcases h with rfl|rfl <;> decide
 exact⟨e.2.1,e.2.2.1,e.2.2.2,fun q=>C.off c q e.1,fun q=>C.LU c q e.1⟩
theorem mu(C:Ch aa M W){c:Nat}(h:c∈qL):cM aa M W c=([],.jg c (if aa=true then []else [c])):=by
 refine om (rz C h) fun h1 h2 h3 h4 h5=>?_
 unfold cM; (refine af (if_neg h1) (af (if_neg h2) (af (if_neg (fun q=>h3 q.2)) (af (if_neg h4) (af (if_neg h5) (af (if_pos h) ?_))))); rfl)
theorem gT{c:Nat}(h:pn aa M W c):cM aa M W c=([[c]],.out):=by
 unfold cM; (refine af (if_neg h.ws) (af (if_neg h.Xz) (af (if_neg h.Za) (af (if_neg h.w) (af (if_neg h.m) (af (if_neg h.q) ?_))))); rfl)
theorem cls(aa:Bool)(M W:List Nat)(c:Nat):c∈ri\/c=35\/(aa=true/\c=92)\/c∈W\/c∈M\/c∈qL\/pn aa M W c:=by
 by_cases h1:c∈ri
 . exact .inl h1
 by_cases h2:c=35
 . exact .inr (.inl h2)
 by_cases h3:aa=true/\c=92
 . exact .inr (.inr (.inl h3))
 by_cases h4:c∈W
 . exact .inr (.inr (.inr (.inl h4)))
 by_cases h5:c∈M
 . exact .inr (.inr (.inr (.inr (.inl h5))))
 by_cases h6:c∈qL
 . exact .inr (.inr (.inr (.inr (.inr (.inl h6)))))
 . exact .inr (.inr (.inr (.inr (.inr (.inr ⟨h1,h2,h3,h4,h5,h6⟩)))))
theorem vm{c:Nat}{w:List Nat}(h:c∈ri):stp aa M W (.word w) c=([w],.out):=if_pos h
theorem xg{c:Nat}{w:List Nat}(h:c∈ri):stp aa M W (.run w) c=([w],.out):=if_pos h
theorem l7(C:Ch aa M W){c:Nat}{w:List Nat}(h:c∈W):stp aa M W (.word w) c=([],.word (w++[c])):=by
 refine om (xK (C.off c h)) fun h1 h2 h3 h4 h5=>?_
 simp only[stp]; rw[if_neg h1,if_neg h2,if_neg (fun q=>by simp at q; lia),if_neg (fun q=>h3 q.2),if_pos (.inl h)]
theorem oz{w:List Nat}(h:aa=true):stp aa M W (.word w) 92=([],.cD w):=by
 subst h; rfl
theorem i7{c:Nat}{w:List Nat}(h:aa=true)(hc:c∈qL):stp aa M W (.word w) c=([],.jg c w):=by
 subst h
 simp only[qL,aB,eS,or_false]at hc
 rcases hc with rfl|rfl <;> rfl
theorem mU{c:Nat}{w:List Nat}(h:aa=false)(hc:c∈qL):stp aa M W (.word w) c=([],.word (w++[c])):=by
 subst h
 simp only[qL,aB,eS,or_false]at hc
 rcases hc with rfl|rfl <;> (simp only[stp]; (refine af (if_neg (by decide)) (af (if_neg (by decide)) (af (if_neg (by decide)) (af (if_neg (by decide)) (af (if_pos (.inr (by decide))) ?_)))); rfl))
theorem rY(C:Ch aa M W){c:Nat}{w:List Nat}(h:c∈M):stp aa M W (.word w) c=([w],.run [c]):=by
 refine om (xK (C.LU c h)) fun h1 h2 h3 h4 h5=>?_
 simp only[stp]
 rw[if_neg h1,if_neg h2,if_neg (fun q=>by simp at q; lia),if_neg (fun q=>h3 q.2),if_neg (fun q=>q.elim (fun q=>C.W7 c q h) (fun q=>by simp at q; lia)),pO C h]
theorem ku{c:Nat}{w:List Nat}(h:pn aa M W c):stp aa M W (.word w) c=([w,[c]],.out):=by
 simp only[stp]
 (refine af (if_neg h.ws) (af (if_neg h.Xz) (af (if_neg (fun q=>h.q q.2)) (af (if_neg h.Za) (af (if_neg (fun q=>q.elim h.w h.q)) (af (gT h) ?_))))); rfl)
theorem ux(C:Ch aa M W){c:Nat}{w:List Nat}(h:c∈M):stp aa M W (.run w) c=([],.run (w++[c])):=by
 refine om (xK (C.LU c h)) fun h1 h2 h3 h4 h5=>?_
 simp only[stp]
 (refine af (if_neg h1) (af (if_neg h2) (af (if_pos h) ?_)); rfl)
theorem gD{c:Nat}{w:List Nat}(h1:c∉ri)(h2:c≠35)(h:c∉M):stp aa M W (.run w) c=(w::(cM aa M W c).1,(cM aa M W c).2):=by
 simp only[stp]
 (refine af (if_neg h1) (af (if_neg h2) (af (if_neg h) ?_)); rfl)
theorem KA{w:List Nat}(h:aa=true):stp aa M W (.word w) 35=([w],.kD .out)/\stp aa M W (.run w) 35=([w],.kD .out):=by subst h; exact⟨rfl,rfl⟩
theorem F6{w:List Nat}(h:aa=false):stp aa M W (.word w) 35=([],.kD (.word w))/\stp aa M W (.run w) 35=([],.kD (.run w)):=by subst h; exact⟨rfl,rfl⟩
theorem jf{q:Nat}{w:List Nat}:stp aa M W (.jg q w) q=if aa=true then([],.word w)else([w++[q]],.out):=if_pos rfl
theorem pH{w:List Nat}(h:aa=true):stp aa M W (.jg 34 w) 92=([],.i9 w):=by subst h; rfl
theorem mj{q c:Nat}{w:List Nat}(h:c≠q)(h':¬(aa=true/\c=92/\q=34)):stp aa M W (.jg q w) c=([],.jg q (w++[c])):=by
 simp only[stp]; (refine af (if_neg h) (af (if_neg h') ?_); rfl)
noncomputable def iR:Sc->List Nat
 | .out=>[]
 | .word w=>w
 | .run w=>w
 | .jg _ w=>w
 | .cD w=>w++[92]
 | .i9 w=>w++[92]
 | .kD s=>iR s
theorem sN{I:List Nat->List (List Nat)->Sc->Prop}(h:∀t R s c,I t R s->I (t++[c]) (R++(stp aa M W s c).1) (stp aa M W s c).2):∀(a t:List Nat) (R:List (List Nat)) (s:Sc),I t R s->I (t++a) (R++(walk aa M W a s).1) (walk aa M W a s).2
 | [],t,R,s,hi=>by
   show I (t++[]) (R++[]) s
   rw[aK,aK]; exact hi
 | c::r,t,R,s,hi=>by
   have:=sN h r _ _ _ (h t R s c hi)
   rw[bX]
   rw[bB,bB]at this
   exact this
theorem BY(a b:List Nat):a.Sublist (a++b):=List.sublist_append_left a b
theorem BZ{w b:List Nat}(h:w.Sublist b):([w].flatten++[]).Sublist b:=by rw[aK,jO,List.flatten_nil,aK]; exact h
theorem Ct(c:Nat):((cM aa M W c).1.flatten++iR (cM aa M W c).2).Sublist [c]:=
 tE (P:=fun r=>(r.1.flatten++iR r.2).Sublist [c]) (fun _=>jP _) (fun _=>jP _) (fun _ e=>e▸jM _) (fun _=>jM _) (fun _=>jM _) (fun _=>dB (P:=fun x=>List.Sublist x [c]) (fun _=>jP _) fun _=>jM _) fun _=>jM _
theorem Pk(s:Sc)(c:Nat):((stp aa M W s c).1.flatten++iR (stp aa M W s c).2).Sublist (iR s++[c]):=by
 have hw:∀w,((w::(cM aa M W c).1).flatten++iR (cM aa M W c).2).Sublist (w++[c]):=fun w=>by
   rw[jO,bB]; exact(Ct c).append_left w
 have h0:∀w:List Nat,w.Sublist (w++[c]):=fun w=>BY w [c]
 have hr:∀w:List Nat,(w++[c]).Sublist (w++[c]):=fun w=>jM _
 have h9:∀w:List Nat,c=92->(w++[92]).Sublist (w++[c]):=fun w e=>e▸jM _
 exact wu (P:=fun s r=>(r.1.flatten++iR r.2).Sublist (iR s++[c])) (Ct c) (fun w _=>BZ (h0 w)) (fun w _ _=>BZ (h0 w)) (fun w _ _=>h0 w) (fun w _ _=>h0 w) (fun w _=>h9 w) (fun w _=>hr w) hw (fun w _=>BZ (h0 w)) (fun w _ _=>BZ (h0 w)) (fun w _ _=>h0 w) (fun w _=>hr w) hw (fun _ w _ _=>h0 w) (fun _ w _ _=>BZ (hr w)) (fun _ w h=>h9 w h.2.1) (fun _ w _=>hr w) (fun w=>(BY w [92]).append_right [c])
   (fun w=>(dB (P:=fun x=>List.Sublist x (w++[92])) (fun _=>jM _) fun _=>BY w [92]).append_right [c]) (fun s _=>BY (iR s) [c]) (fun s=>BY (iR s) [c]) s
theorem SK(w:List Nat):([w].flatten).Sublist w:=by rw[jO,List.flatten_nil,aK]; exact jM _
theorem G8:∀s:Sc,(fin s).1.flatten.Sublist (iR s)
 | .out=>jP _
 | .word w=>SK w
 | .run w=>SK w
 | .jg _ _=>jP _
 | .cD _=>jP _
 | .i9 _=>jP _
 | .kD s=>G8 s
theorem Ce(a:List Nat):(scan aa M W a .out).1.flatten.Sublist a:=by
 have:=sN (aa:=aa) (M:=M) (W:=W) (I:=fun t R s=>(R.flatten++iR s).Sublist t) (fun t R s c hi=>by
   rw[qd,bB]
   exact((Pk s c).append_left R.flatten).trans ((bB ..).symm▸hi.append_right [c])) a [] [] .out (jM _)
 unfold scan
 rw[qd]
 exact((G8 _).append_left _).trans this
theorem Ia(a:List Nat):(scan aa M W a .out).1.flatten.length<=a.length/\(scan aa M W a .out).1.length<=a.length:=⟨(Ce a).length_le,scan_len a .out⟩
theorem AV{a:List Nat}(h:Cp a):∀t∈(scan aa M W a .out).1,Cp t:=fun t ht x hx=>h x ((Ce a).subset (List.mem_flatten.mpr ⟨t,ht,hx⟩))
theorem O5{R:List (List Nat)}{t:List Nat}(h:t∈R):t.length<=R.flatten.length:=by
 induction R with
 |nil=>cases h
 | cons a r ih=>
   refine af jO (af aR ?_)
   rcases aB.mp h with rfl|h
   . lia
   . have:=ih h; lia
def uf(W t:List Nat):Prop:=∃c r,t=c::r/\c∈W/\∀x∈r,x∈W\/x∈qL
def D0(M t:List Nat):Prop:=t≠ []/\∀x∈t,x∈M
def MarkT(t:List Nat):Prop:=∃q v,t=q::(v++[q])/\q∈qL/\q∉v
def T3(aa:Bool)(M W t:List Nat):Prop:=∃c,t=[c]/\pn aa M W c
def N7(aa:Bool)(M W t:List Nat):Prop:=uf W t\/D0 M t\/MarkT t\/T3 aa M W t
noncomputable def Gd(aa:Bool)(M W:List Nat):Sc->Prop
 | .out=>True
 | .word w=>aa=true\/uf W w
 | .run w=>D0 M w
 | .jg q w=>q∈qL/\(aa=true\/∃v,w=q::v/\q∉v)
 | .cD _=>aa=true
 | .i9 _=>aa=true
 | .kD s=>(fin s).2=0/\(aa=true->s= .out)/\Gd aa M W s
abbrev Tk(aa:Bool)(M W:List Nat)(R:List (List Nat)):Prop:=aa=false->∀t∈R,N7 aa M W t
theorem gp:Tk aa M W []:=fun _ _ h=>nomatch h
theorem uu{w:List Nat}(h:aa=false->N7 aa M W w):Tk aa M W [w]:=fun e t ht=>by exact af (aY.mp ht) (h e)
theorem P9(C:Ch aa M W)(c:Nat):Tk aa M W (cM aa M W c).1/\Gd aa M W (cM aa M W c).2:=
 tE (P:=fun r=>Tk aa M W r.1/\Gd aa M W r.2) (fun _=>⟨gp,trivial⟩) (fun _=>⟨gp,rfl,fun _=>rfl,trivial⟩) (fun hp _=>⟨gp,hp⟩) (fun h=>⟨gp,.inr ⟨c,[],rfl,h,fun _ hx=>nm hx⟩⟩) (fun h=>⟨gp,List.cons_ne_nil _ _,fun x hx=>af (aY.mp hx) h⟩)
   (fun h=>⟨gp,h,dB (P:=fun x=>aa=true\/∃v,x=c::v/\c∉v) .inl fun _=>.inr ⟨[],rfl,fun q=>nm q⟩⟩) fun h=>⟨uu fun _=>.inr (.inr (.inr ⟨c,rfl,h⟩)),trivial⟩
theorem F1{w:List Nat}(h:aa=false->N7 aa M W w)(h':Tk aa M W R):Tk aa M W (w::R):=fun e t ht=>by
 rcases aB.mp ht with rfl|ht
 . exact h e
 . exact h' e t ht
theorem AB{w:List Nat}(h:Gd aa M W (.word w)):aa=false->N7 aa M W w:=fun e=>.inl (h.resolve_left (af e (fun h=>by exact ff h)))
theorem JY{w:List Nat}{c:Nat}(h:uf W w)(hc:c∈W\/c∈qL):uf W (w++[c]):=by
 refine fS h fun a r iU ha hr=>?_
 subst iU
 refine⟨a,r++[c],rfl,ha,fun x hx=>?_⟩
 rcases bu.mp hx with hx|hx
 . exact hr x hx
 . exact af (aY.mp hx) hc
theorem Qq{P:Nat->Prop}{w:List Nat}{c:Nat}(h:∀x∈w,P x)(hc:P c)(x:Nat)(hx:x∈w++[c]):P x:=(bu.mp hx).elim (h x) fun hx=>af (aY.mp hx) hc
theorem Ek(C:Ch aa M W)(s:Sc)(c:Nat)(hs:Gd aa M W s):Tk aa M W (stp aa M W s c).1/\Gd aa M W (stp aa M W s c).2:=by
 have ho:=P9 C c
 have rt:∀ {w},Gd aa M W (.run w)->aa=false->N7 aa M W w:=fun h _=>.inr (.inl h)
 exact wu (P:=fun s r=>Gd aa M W s->Tk aa M W r.1/\Gd aa M W r.2) (fun _=>ho) (fun w _ hs=>⟨uu (AB hs),trivial⟩) (fun w _ _ hs=>⟨uu (AB hs),rfl,fun _=>rfl,trivial⟩) (fun w _ hp hs=>⟨gp,rfl,fun e=>absurd e hp,hs⟩) (fun w hp hq _=>⟨gp,hq,.inl hp⟩) (fun w hp _ _=>⟨gp,hp⟩)
   (fun w h hs=>⟨gp,hs.imp_right fun q=>JY q h⟩) (fun w hs=>⟨F1 (AB hs) ho.1,ho.2⟩) (fun w _ hs=>⟨uu (rt hs),trivial⟩) (fun w _ _ hs=>⟨uu (rt hs),rfl,fun _=>rfl,trivial⟩) (fun w _ hp hs=>⟨gp,rfl,fun e=>absurd e hp,hs⟩)
   (fun w h hs=>⟨gp,List.append_ne_nil_of_right_ne_nil _ (List.cons_ne_nil _ _),Qq hs.2 h⟩) (fun w hs=>⟨F1 (rt hs) ho.1,ho.2⟩) (fun q w _ hp _=>⟨gp,.inl hp⟩)
   (fun q w e hp hs=>⟨uu fun _=>.inr (.inr (.inl ((hs.2.resolve_left hp).elim fun v hv=>⟨q,v,by rw[e,hv.1]; rfl,hs.1,hv.2⟩))),trivial⟩) (fun q w h _=>⟨gp,h.1⟩)
   (fun q w e hs=>⟨gp,hs.1,hs.2.imp_right fun⟨v,a,hv⟩=>⟨v++[c],by rw[a]; rfl,fun h=>(bu.mp h).elim hv fun h=>e (aY.mp h).symm⟩⟩) (fun w hs=>⟨gp,.inl hs⟩) (fun w hs=>⟨gp,by decide,.inl hs⟩) (fun s _ hs=>⟨gp,hs.2.2⟩) (fun s hs=>⟨gp,hs⟩) s hs
theorem AF(C:Ch aa M W):∀(a:List Nat) (s:Sc),Gd aa M W s->Tk aa M W (walk aa M W a s).1/\Gd aa M W (walk aa M W a s).2
 | [],s,h=>⟨gp,h⟩
 | c::r,s,h=>by
   refine bx (Ek C s c h) fun h1 h2=>?_
   refine bx (AF C r _ h2) fun h3 h4=>?_
   rw[bX]
   refine⟨fun e t ht=>?_,h4⟩
   rcases bu.mp ht with ht|ht
   . exact h1 e t ht
   . exact h3 e t ht
noncomputable abbrev xO(aa:Bool):List Nat:=cond aa [32,9,13,10,39,34,92] [32,9,13,10]
noncomputable abbrev n9(aa:Bool)(X:List Nat):List Nat:=X.filter fun n=> !decide (n∈xO aa)
theorem VK:o5 aa=S (xO aa):=by cases aa <;> decide +kernel
theorem GO(X:List Nat):vF (o5 aa) X=n9 aa X:=by
 refine af VK ?_
 refine List.filter_congr fun n _=>?_
 rw[iC]
theorem kY(a b:List Nat):n9 aa (a++b)=n9 aa a++n9 aa b:=List.filter_append ..
theorem EV{c:Nat}(h:c∈xO aa):n9 aa [c]=[]:=by
 show [c].filter _=[]
 exact af kQ (af (decide_eq_true h) rfl)
theorem AA{c:Nat}(h:c∈ri):c∈xO aa:=by
 cases aa with
 |true=>exact aH [39,34,92] h
 |false=>exact h
theorem ED{c:Nat}(hp:aa=true)(h:c∈qL):c∈xO aa:=by
 subst hp
 simp only[qL,aB,eS,or_false]at h
 rcases h with rfl|rfl <;> decide
theorem QG(hp:aa=true):92∈xO aa:=by subst hp; decide
noncomputable def ug:Sc->Prop
 | .kD _=>False
 |_=>True
theorem P8(C:Ch aa M W){c:Nat}(h:c≠35):n9 aa ((cM aa M W c).1.flatten++iR (cM aa M W c).2)=n9 aa [c]/\ug (cM aa M W c).2:=
 tE (P:=fun r=>n9 aa (r.1.flatten++iR r.2)=n9 aa [c]/\ug r.2) (fun h1=>⟨(EV (AA h1)).symm,trivial⟩) (fun e=>absurd e h) (fun _ e=>⟨congrArg (fun n=>n9 aa [n]) e.symm,trivial⟩) (fun _=>⟨rfl,trivial⟩) (fun _=>⟨rfl,trivial⟩)
   (fun h1=>⟨dB (P:=fun x=>n9 aa x=n9 aa [c]) (fun e=>(EV (ED e h1)).symm) fun _=>rfl,trivial⟩) fun _=>⟨rfl,trivial⟩
theorem Uy(C:Ch aa M W){s:Sc}{c:Nat}(hg:Gd aa M W s)(hs:ug s)(h:c≠35):n9 aa ((stp aa M W s c).1.flatten++iR (stp aa M W s c).2)=n9 aa (iR s)++n9 aa [c]/\ug (stp aa M W s c).2:=by
 have ho:=P8 C h
 have e1:∀ {w:List Nat} {c:Nat},c∈xO aa->n9 aa w=n9 aa w++n9 aa [c]:=fun h=>by(refine af (EV h) ?_; rw[aK])
 have k1:∀ {w b:List Nat},n9 aa w=b->n9 aa ([w].flatten++[])=b:=fun h=>by rw[aK,jO,List.flatten_nil,aK]; exact h
 have e9:∀w,aa=true->n9 aa w=n9 aa (w++[92]):=fun w hp=>(e1 (QG hp)).trans (kY w [92]).symm
 have hw:∀w,n9 aa ((w::(cM aa M W c).1).flatten++iR (cM aa M W c).2)=n9 aa w++n9 aa [c]:=fun w=>by
   (refine af jO ?_; rewrite [bB,kY]; refine af ho.1 ?_); rfl
 have h9:∀w,c=92->n9 aa (w++[92])=n9 aa w++n9 aa [c]:=fun w e=>af e (kY w [92])
 exact wu (P:=fun s r=>Gd aa M W s->ug s->n9 aa (r.1.flatten++iR r.2)=n9 aa (iR s)++n9 aa [c]/\ug r.2) (fun _ _=>ho) (fun w h _ _=>⟨k1 (e1 (AA h)),trivial⟩) (fun _ e=>absurd e h) (fun _ e=>absurd e h) (fun w hp hq _ _=>⟨e1 (ED hp hq),trivial⟩) (fun w _ e _ _=>⟨h9 w e,trivial⟩) (fun w _ _ _=>⟨kY w [c],trivial⟩)
   (fun w _ _=>⟨hw w,ho.2⟩) (fun w h _ _=>⟨k1 (e1 (AA h)),trivial⟩) (fun _ e=>absurd e h) (fun _ e=>absurd e h) (fun w _ _ _=>⟨kY w [c],trivial⟩) (fun w _ _=>⟨hw w,ho.2⟩) (fun q w e hp hg _=>⟨e1 (ED hp (af e hg.1)),trivial⟩) (fun q w _ _ _ _=>⟨k1 (kY w [c]),trivial⟩) (fun q w h _ _=>⟨h9 w h.2.1,trivial⟩)
   (fun q w _ _ _=>⟨kY w [c],trivial⟩) (fun w hp _=>⟨(kY w [c]).trans (congrArg (· ++n9 aa [c]) (e9 w hp)),trivial⟩) (fun w hp _=>⟨(kY _ [c]).trans (congrArg (· ++n9 aa [c]) (dB (P:=fun x=>n9 aa x=n9 aa (w++[92])) (fun _=>rfl) fun _=>e9 w hp)),trivial⟩) (fun _ _ _ hs=>hs.elim) (fun _ _ hs=>hs.elim) s hg hs
theorem FP(C:Ch aa M W):∀(a:List Nat) (s:Sc),Gd aa M W s->ug s->35∉a->n9 aa ((walk aa M W a s).1.flatten++iR (walk aa M W a s).2)=n9 aa (iR s)++n9 aa a/\ug (walk aa M W a s).2
 | [],s,_,hn,_=>⟨(aK _).symm,hn⟩
 | c::r,s,hg,hn,h=>by
   obtain⟨h1,h2⟩:=Uy C hg hn (c:=c) fun e=>h (af e (.head _))
   refine bx (FP C r _ (Ek C s c hg).2 h2 fun e=>h (.tail _ e)) fun h3 h4=>?_
   rw[bX]
   refine⟨?_,h4⟩
   (refine af qd ?_; rewrite [bB,kY]; refine af h3 (af (show c::r=[c]++r from rfl) ?_); rewrite [kY,<-bB,<-bB]; refine af h1.symm ?_; rw[kY])
theorem WK{s:Sc}(h:ug s)(h0:(fin s).2=0):(fin s).1.flatten=iR s:=by
 cases s with
 |out=>rfl
 |word w=>exact aK _
 |run w=>exact aK _
 |jg q w=>cases h0
 |cD w=>cases h0
 |i9 w=>cases h0
 |kD s=>exact h.elim
theorem PE(C:Ch aa M W){a:List Nat}(h:35∉a)(h0:(scan aa M W a .out).2=0):n9 aa a=n9 aa (scan aa M W a .out).1.flatten:=by
 refine bx (FP C a .out trivial trivial h) fun h1 h2=>?_
 unfold scan
 exact af qd (af (WK h2 h0) (af h1 rfl))
theorem s8(a b:List Nat)(s:Sc):scan aa M W (a++b) s=((walk aa M W a s).1++(scan aa M W b (walk aa M W a s).2).1,(scan aa M W b (walk aa M W a s).2).2):=by
 unfold scan
 rw[nE,bB]
theorem nq(c:Nat)(s:Sc):scan aa M W [c] s=((stp aa M W s c).1++(fin (stp aa M W s c).2).1,(fin (stp aa M W s c).2).2):=by rw[iI]; rfl
theorem AU{c:Nat}{r:List Nat}{s s':Sc}(h:stp aa M W s c=(R,s')):scan aa M W (c::r) s=(R++(scan aa M W r s').1,(scan aa M W r s').2):=by(rewrite [iI]; refine af h ?_; rfl)
theorem JD:39∈qL:=by decide
theorem Oq:34∈qL:=by decide
theorem VL(C:Ch aa M W)(h:aa=false):pn aa M W 92:=
 ⟨by decide,by decide,(fun q=>absurd (h.symm.trans q.1) (by decide)),(fun q=>C.off 92 q (by decide)),(fun q=>C.LU 92 q (by decide)),by decide⟩
noncomputable abbrev VY(aa:Bool)(M W:List Nat)(s:Sc):List Nat:=dM.map fun t=>(scan aa M W t s).2
theorem ZQ(s:Sc):VY aa M W s=[(fin s).2,(scan aa M W [39] s).2,(scan aa M W [34] s).2,(scan aa M W [92,34] s).2]:=rfl
noncomputable def Sf(aa:Bool):List (List Nat×Nat):=cond aa [([0,1,1,0],0),([1,0,1,1],1),([1,1,0,1],2),([2,0,0,1],1),([2,1,1,0],3),([0,0,0,0],0)] [([0,1,1,1],0),([0,0,0,1],0),([1,0,1,1],1),([1,1,0,0],2),([0,0,0,0],0)]
def HF(aa:Bool)(M W:List Nat)(s:Sc):Prop:=∃i,i<4/\(VY aa M W s,i)∈Sf aa/\(scan aa M W (dM.getD i []) s).2=0/\(0<i->((fin s).1=[]/\∃t,(scan aa M W (dM.getD i []) s).1=[t]))
theorem vK{s:Sc}(h:(VY aa M W s,0)∈Sf aa)(h0:(fin s).2=0):HF aa M W s:=⟨0,by decide,h,h0,fun h=>absurd h (by decide)⟩
theorem EE(C:Ch aa M W){q:Nat}(h:q∈qL):(fin (cM aa M W q).2).2=1:=by exact af (mu C h) rfl
theorem Sa(C:Ch true M W)(s:Sc)(hg:Gd true M W s):HF true M W s:=by
 have o92:cM true M W 92=([],.cD []):=A4 rfl
 cases s with
 | out=>
   refine vK ?_ rfl
   (rewrite [ZQ,nq,nq]; refine af (AU (s:=.out) o92) (af (show stp true M W .out 39=cM true M W 39 from rfl) (af (show stp true M W .out 34=cM true M W 34 from rfl) (af (EE C JD) (af (EE C Oq) ?_)))))
   exact .head _
 |word w=>exact vK (.head _) rfl
 | run w=>
   refine vK ?_ rfl
   refine om (rz C JD) fun h1 h2 h3 h4 h5=>?_
   refine om (rz C Oq) fun g1 g2 g3 g4 g5=>?_
   (rewrite [ZQ,nq,nq]; refine af (gD h1 h2 h5) (af (gD g1 g2 g5) ?_); rewrite [iI]; refine af (gD (c:=92) (by decide) (by decide) (fun q=>C.LU 92 q (by decide))) (af (mu C JD) (af (mu C Oq) (af o92 ?_))))
   exact .head _
 | jg q w=>
   have hq:q=39\/q=34:=by simpa [qL]using hg.1
   rcases hq with rfl|rfl
   . exact⟨1,by decide,.tail _ (.head _),rfl,fun _=>⟨rfl,_,rfl⟩⟩
   . exact⟨2,by decide,.tail _ (.tail _ (.head _)),rfl,fun _=>⟨rfl,_,rfl⟩⟩
 |cD w=>exact⟨1,by decide,.tail _ (.tail _ (.tail _ (.head _))),rfl,fun _=>⟨rfl,_,rfl⟩⟩
 |i9 w=>exact⟨3,by decide,.tail _ (.tail _ (.tail _ (.tail _ (.head _)))),rfl,fun _=>⟨rfl,_,rfl⟩⟩
 | kD s=>
   refine vK ?_ hg.1
   have:VY true M W (.kD s)=[(fin s).2,(fin s).2,(fin s).2,(fin s).2]:=rfl
   exact af this (af hg.1 (.tail _ (.tail _ (.tail _ (.tail _ (.tail _ (.head _)))))))
theorem R9(C:Ch false M W)(s:Sc)(hg:Gd false M W s):HF false M W s:=by
 have l92:=VL C rfl
 have Za:92∉M:=fun q=>C.LU 92 q (by decide)
 have oq:scan false M W [34] .out=([],1):=by(rewrite [nq]; refine af (show stp false M W .out 34=cM false M W 34 from rfl) (af (mu C Oq) ?_)); rfl
 cases s with
 | out=>
   refine vK ?_ rfl
   (rewrite [ZQ]; refine af oq ?_; rewrite [nq]; refine af (AU (s:=.out) (gT l92)) (af oq (af (show stp false M W .out 39=cM false M W 39 from rfl) (af (EE C JD) ?_))))
   exact .head _
 | word w=>
   refine vK ?_ rfl
   (rewrite [ZQ,nq,nq]; refine af (mU rfl JD) (af (mU rfl Oq) (af (AU (ku l92)) (af oq ?_))))
   exact .tail _ (.head _)
 | run w=>
   refine vK ?_ rfl
   refine om (rz C JD) fun h1 h2 h3 h4 h5=>?_
   refine om (rz C Oq) fun g1 g2 g3 g4 g5=>?_
   (rewrite [ZQ,nq,nq]; refine af (gD h1 h2 h5) (af (gD g1 g2 g5) ?_); rewrite [iI]; refine af (gD (c:=92) (by decide) (by decide) Za) (af (mu C JD) (af (mu C Oq) (af (gT l92) (af oq ?_)))))
   exact .head _
 | jg q w=>
   have hq:q=39\/q=34:=by simpa [qL]using hg.1
   rcases hq with rfl|rfl
   . exact⟨1,by decide,.tail _ (.tail _ (.head _)),rfl,fun _=>⟨rfl,_,rfl⟩⟩
   . exact⟨2,by decide,.tail _ (.tail _ (.tail _ (.head _))),rfl,fun _=>⟨rfl,_,rfl⟩⟩
 |cD w=>exact ff hg
 |i9 w=>exact ff hg
 | kD s=>
   refine vK ?_ hg.1
   have:VY false M W (.kD s)=[(fin s).2,(fin s).2,(fin s).2,(fin s).2]:=rfl
   exact af this (af hg.1 (.tail _ (.tail _ (.tail _ (.tail _ (.head _))))))
theorem Sb(C:Ch aa M W)(s:Sc)(hg:Gd aa M W s):HF aa M W s:=by
 cases aa with
 |true=>exact Sa C s hg
 |false=>exact R9 C s hg
theorem due_dec:∀p:Bool,∀q∈Sf p,bf (q.1.map mz)∈pZ p++[.str "LLLL"]/\Txt.find (S (q.1.map mz)) "L"=(q.2:Int):=by
 intro p q h
 have:(Sf p).all (fun q=>(pZ p++[eK "LLLL"]).any (fun(d:V)=>match d with| .str y=>bw y (S (q.1.map mz))|_=>false)&&Txt.find (S (q.1.map mz)) "L"==(q.2:Int))=true:=by cases p <;> decide +kernel
 have h:=dH.mp this q h
 refine bx (Bool.and_eq_true_iff.mp h) fun h1 h2=>?_
 refine au (List.any_eq_true.mp h1) fun d hd h1=>?_
 refine⟨?_,eq_of_beq h2⟩
 split at h1
 . show eK (S (q.1.map mz))∈_
   exact af ((B5 h1).symm) hd
 . exact ff h1
theorem R7(C:Ch aa M (wordsOf aa M))(T:List Nat):∃(i:Nat) (row:List (List Nat)),i<4/\bf (fJ aa M T)∈pZ aa++[.str "LLLL"]/\Txt.find (S (fJ aa M T)) "L"=(i:Int)/\scan aa M (wordsOf aa M) (T++dM.getD i []) .out=(row,0)/\(0<i->(scan aa M (wordsOf aa M) T .out).1=row.dropLast):=by
 have hg:=(AF C T .out trivial).2
 refine wR (Sb C _ hg) fun i hi h1 h2 h3=>?_
 have e:fJ aa M T=(VY aa M (wordsOf aa M) (walk aa M (wordsOf aa M) T .out).2).map mz:=by
   unfold fJ ksL VY
   refine congrArg _ (List.map_congr_left fun t _=>?_)
   rw[s8]
 refine bx (due_dec aa _ h1) fun d1 d2=>?_
 refine⟨i,_,hi,by refine af e ?_; exact d1,by refine af e ?_; exact d2,(s8 _ _ _).trans (Prod.ext rfl h2),fun h=>?_⟩
 refine bx (h3 h) fun g1 HW=>?_
 obtain⟨t,g2⟩:=HW
 refine af g2 (af List.dropLast_concat ?_)
 unfold scan
 (refine af g1 ?_; rw[aK])
end
noncomputable def shL(b:List Nat):List (List Nat)->List Nat
 | []=>b
 |t::r=>shL (if t.length<b.length then t else b) r
noncomputable def yR:List (List Nat)->List Nat
 | []=>[]
 |a::r=>shL a r
theorem KV:∀(ys:List (List Nat)) (a:List Nat),cZ (some (S a)) (ys.map S)=some (S (shL a ys))
 | [],a=>rfl
 | y::ys,a=>by
   show cZ (cond (decide (((S y).length:Int)<((S a).length:Nat))) (some (S y)) (some (S a))) (ys.map S)=_
   rw[eu,eu]
   show _=some (S (shL (if y.length<a.length then y else a) ys))
   by_cases h:y.length<a.length
   . exact af (if_pos h) (af (decide_eq_true (by lia)) (KV ys y))
   . exact af (if_neg h) (af (decide_eq_false (by lia)) (KV ys a))
theorem SO(ys:List (List Nat)):shortest (ys.map S)=S (yR ys):=by
 cases ys with
 |nil=>exact dR
 | cons y ys=>
   show(cZ (some (S y)) (ys.map S)).getD ""=_
   rw[KV]; rfl
theorem s7:∀(ys:List (List Nat)) (a:List Nat),shL a ys∈a::ys/\∀y∈a::ys,(shL a ys).length<=y.length
 | [],a=>⟨.head _,fun y h=>by refine af (aY.mp h) ?_; exact bC _⟩
 | y ::ys,a=>by
   unfold shL
   split
   . rename_i h
     refine bx (s7 ys y) fun h1 h2=>?_
     refine⟨.tail _ h1,fun z hz=>?_⟩
     rcases aB.mp hz with rfl|hz
     . have:=h2 y (.head _); lia
     . exact h2 z hz
   . rename_i h
     refine bx (s7 ys a) fun h1 h2=>?_
     refine⟨?_,fun z hz=>?_⟩
     . rcases aB.mp h1 with e|h1
       . exact af e (.head _)
       . exact .tail _ (.tail _ h1)
     . rcases aB.mp hz with rfl|hz
       . exact h2 _ (.head _)
       . rcases aB.mp hz with rfl|hz
         . have:=h2 a (.head _); lia
         . exact h2 z (.tail _ hz)
theorem sZ(h:ys≠ []):yR ys∈ys:=by
 cases ys with
 |nil=>exact absurd rfl h
 |cons a r=>exact(s7 r a).1
theorem Eu{y:List Nat}(h:y∈ys):(yR ys).length<=y.length:=by
 cases ys with
 |nil=>cases h
 |cons a r=>exact(s7 r a).2 y h
structure WL where
 bare:List Nat
 one:List Nat
 two:List Nat
 sE:List Nat
 bk:Bool
noncomputable abbrev Jd:List Nat:=[34,92]
noncomputable def o4(l:WL)(c:Nat):List (List Nat):=if c=39 then []else [l.one++[c]]
noncomputable def wX(l:WL)(c:Nat):List Nat:=if c∈Jd then l.two++[92,c]else l.two++[c]
noncomputable def mT(l:WL)(c:Nat):List (List Nat):=if l.bk=true/\c∉Jd then [wX l c,l.sE++[92,c]]else [wX l c]
noncomputable def t8(W:List Nat)(l:WL)(c:Nat):List Nat:=if c∈W then l.bare++[c]else l.bare++[92,c]
noncomputable def jc(W:List Nat)(l:WL)(c:Nat):List (List Nat):=t8 W l c::((o4 l c).map (· ++[39])++(mT l c).map (· ++[34]))
noncomputable def F9(W:List Nat)(l:WL)(c:Nat):WL:=
 ⟨yR (jc W l c),yR (o4 l c++[yR (jc W l c)++[39]]),yR (mT l c++[yR (jc W l c)++[34]]),l.two,decide (c=92)⟩
noncomputable def pF(W w:List Nat):WL:=w.foldl (F9 W) ⟨[],[39],[34],[],false⟩
noncomputable def mR(W w:List Nat):List Nat:=if w=[]then [39,39]else(pF W w).bare
theorem jn(W w:List Nat)(c:Nat):pF W (w++[c])=F9 W (pF W w) c:=by
 unfold pF; exact af List.foldl_append rfl
structure FF(st:WS)(l:WL):Prop where
 b:st.bare=S l.bare
 o:st.one=S l.one
 t:st.two=S l.two
 a:st.sE=S l.sE
theorem GC:aj "\"\\"=S [34,92]:=by decide +kernel
theorem Lw{st:WS}(h:FF st l)(c:Nat):lJ st (S [c])=(o4 l c).map S:=by
 unfold lJ o4
 (refine af (show(("'":Str))=S [39]from CH) ?_; rewrite [g7]; refine af h.o ?_)
 by_cases e:c=39
 . subst e; rfl
 . refine af (if_neg e) (af (show(([c]:List Nat)== [39])=false by simpa using e) ?_)
   show [S l.one++S [c]]=_
   rw[eO]; rfl
theorem Yk{st:WS}(h:FF st l)(c:Nat):rU st (S [c])=S (wX l c):=by
 unfold rU wX
 (refine af (show(("\"\\":Str))=S [34,92]from GC) ?_; rewrite [iC]; refine af (show(("\\":Str))=S [92]from zS) (af h.t ?_); rw[eO,eO,eO])
 by_cases e:c∈Jd
 . (refine af (if_pos e) (af (decide_eq_true e) ?_); rw[bB]); rfl
 . exact af (if_neg e) (af (decide_eq_false e) rfl)
theorem Kd{st:WS}{w:List Nat}{k:Nat}(h:FF st l)(hb:rP (S w) k=l.bk)(c:Nat):lF (S w) k st (S [c])=(mT l c).map S:=by
 unfold lF mT
 (refine af hb ?_; rewrite [Yk h]; refine af (show(("\"\\":Str))=S [34,92]from GC) ?_; rewrite [iC]; refine af (show(("\\":Str))=S [92]from zS) (af h.a ?_); rw[eO,eO,bB])
 by_cases e:c∈Jd
 . (refine af (if_neg (fun q=>q.2 e)) (af (decide_eq_true e) (af Bool.not_true ?_)); rw[Bool.and_false]); rfl
 . (refine af (decide_eq_false e) (af Bool.not_false ?_); rw[Bool.and_true])
   cases hk:l.bk with
   |true=>exact af (if_pos ⟨rfl,e⟩) rfl
   |false=>rw[if_neg (fun q=>by cases q.1)]; rfl
theorem Sq{b:List Nat}{os ts:List (List Nat)}:dK (S b) (os.map S) (ts.map S)=(b::(os.map (· ++[39])++ts.map (· ++[34]))).map S:=by
 unfold dK
 refine af (show(("'":Str))=S [39]from CH) (af (show(("\"":Str))=S [34]from GD) ?_)
 have e:∀(x:List Nat) (l:List (List Nat)),(l.map S).map (fun y:Str=>y++S x)=(l.map (· ++x)).map S:=fun x l=>by
   exact af fL (af fL (List.map_congr_left fun a _=>eO a x))
 (rewrite [e,e]; refine af eZ (af jL ?_)); rfl
section
variable {M W:List Nat}(hc:∀c,g9 true (S M) (S [c])=decide (c∈W))
include hc
theorem bare_S{st:WS}(h:FF st l)(c:Nat):dY (S M) st (S [c])=S (t8 W l c):=by
 unfold dY t8
 (rewrite [hc]; refine af (show(("\\":Str))=S [92]from zS) (af h.b ?_); rw[eO,eO,eO,bB])
 by_cases e:c∈W
 . exact af (if_pos e) (af (decide_eq_true e) rfl)
 . exact af (if_neg e) (af (decide_eq_false e) rfl)
theorem Uz{st:WS}{l:WL}{w:List Nat}{k:Nat}(h:FF st l)(hk:k<w.length)(hb:rP (S w) k=l.bk):FF (lH (S M) (S w) k st) (F9 W l w[k]):=by
 have eb:shortest (dK (dY (S M) st (S [w[k]])) (lJ st (S [w[k]])) (lF (S w) k st (S [w[k]])))=S (yR (jc W l w[k])):=by
   (rewrite [bare_S hc h,Lw h,Kd h hb]; refine af Sq ?_; rw[SO]); rfl
 have e1:∀x:List Nat,∀os:List (List Nat),shortest (os.map S++[S x])=S (yR (os++[x])):=fun x os=>by
   (rewrite [<-SO]; refine af jL ?_); rfl
 unfold lH
 refine af (Bm hk) ?_
 dsimp only
 refine af eb ?_
 refine⟨rfl,?_,?_,h.t⟩
 . show shortest (lJ st (S [w[k]])++[S _++("'":Str)])=_
   (rewrite [Lw h]; refine af (show(("'":Str))=S [39]from CH) ?_; rw[eO,e1]); rfl
 . show shortest (lF (S w) k st (S [w[k]])++[S _++("\"":Str)])=_
   (rewrite [Kd h hb]; refine af (show(("\"":Str))=S [34]from GD) ?_; rw[eO,e1]); rfl
omit hc in
theorem Ja(Ms Ws:Str)(a b:List Nat)(st:WS):tX Ms Ws (a++b) st=tX Ms Ws b (tX Ms Ws a st):=by
 induction a generalizing st with
 |nil=>rfl
 |cons k r ih=>exact ih _
theorem Nb(w:List Nat):∀n,n<=w.length->FF (tX (S M) (S w) (eU n) ⟨"","'","\"",""⟩) (pF W (w.take n))/\(0<n->(pF W (w.take n)).bk=decide (w.getD (n-1) 0=92))
 |0,_=>⟨⟨dR,CH,GD,dR⟩,fun h=>absurd h (by decide)⟩
 | n + 1,h=>by
   refine bx (Nb w n (by lia)) fun h1 h2=>?_
   have hn:n<w.length:=by lia
   have e:w.take (n+1)=w.take n++[w[n]]:=(List.take_append_getElem hn).symm
   have hb:rP (S w) n=(pF W (w.take n)).bk:=by
     unfold rP
     cases n with
     |zero=>rfl
     | succ m=>
       (refine af (h2 (by lia)) (af (decide_eq_true (by lia)) ?_); rewrite [Bool.true_and]; refine af (show(((m+1:Nat):Int)-1)=(m:Nat)by lia) (af (Bm (by lia)) (af (show(("\\":Str))=S [92]from zS) ?_)); rw[g7])
       show _=decide (w.getD m 0=92)
       refine af (show w.getD m 0=w[m]by simp[gn,show m<w.length by lia]) ?_
       cases hd:decide (w[m]=92)with
       |true=>simpa using hd
       |false=>simpa using hd
   (refine af List.range_succ ?_; rewrite [Ja]; refine af e ?_; rw[jn])
   refine⟨Uz hc h1 hn hb,fun _=>?_⟩
   show decide (w[n]=92)=_
   (refine af (show w.getD (n+1-1) 0=w[n]by simp[gn,hn]) ?_; rfl)
theorem JZ(w:List Nat):ve (S M) (S w)=S (mR W w):=by
 unfold ve mR
 (refine af (show(("":Str))=S []from dR) ?_; rw[g7])
 cases w with
 |nil=>exact(by decide +kernel:aj "''"=S [39,39])
 | cons c r=>
   refine af (if_neg (by simp)) (af (show((c::r)==([]:List Nat))=false by simp) ?_)
   have:=(Nb hc (c::r) (c::r).length (bC _)).1.b
   rw[List.take_length]at this
   rw[eu]
   exact this
end
def Hd(W t:List Nat):Prop:=∃c r,t=c::r/\(c∈W\/c=92\/c∈qL)
theorem Hd.app{W t:List Nat}(h:Hd W t)(x:List Nat):Hd W (t++x):=by
 refine gB h fun c r iU hc=>?_
 subst iU
 exact⟨c,r++x,rfl,hc⟩
section
variable {M W:List Nat}
def Sp(M W t:List Nat)(s:Sc):Prop:=Hd W t/\walk true M W t (.word [])=([],s)
theorem Sp.app{t x:List Nat}{s s':Sc}(h:Sp M W t s)(hx:walk true M W x s=([],s')):Sp M W (t++x) s':=by
 refine⟨h.1.app x,?_⟩
 (rewrite [nE]; refine af h.2 (af hx ?_)); rfl
theorem nk{c:Nat}{s s':Sc}(h:stp true M W s c=([],s')):walk true M W [c] s=([],s'):=by
 (rewrite [bX]; refine af h ?_); rfl
theorem AG{c d:Nat}{s s₁ s':Sc}(h:stp true M W s c=([],s₁))(h':stp true M W s₁ d=([],s')):walk true M W [c,d] s=([],s'):=by
 (rewrite [bX]; refine af h ?_)
 exact nk h'
structure rQ(M W:List Nat)(l:WL)(w:List Nat):Prop where
 bare:(w=[]/\l.bare=[])\/Sp M W l.bare (.word w)
 one:Sp M W l.one (.jg 39 w)
 two:Sp M W l.two (.jg 34 w)
 sE:l.bk=true->∃v,w=v++[92]/\Sp M W l.sE (.jg 34 v)
theorem DU{w x:List Nat}{s:Sc}(h:rQ M W l w)(hx:Hd W x)(hw:walk true M W x (.word w)=([],s)):Sp M W (l.bare++x) s:=by
 rcases h.bare with ⟨rfl,e⟩|h
 . exact af e ⟨hx,hw⟩
 . exact h.app hw
theorem F5{w:List Nat}{c:Nat}:stp true M W (.cD w) c=([],.word (w++[c])):=rfl
theorem Ju(C:Ch true M W){w:List Nat}(h:rQ M W l w)(c:Nat):Sp M W (t8 W l c) (.word (w++[c])):=by
 unfold t8
 split
 . rename_i hc
   exact DU h ⟨c,[],rfl,.inl hc⟩ (nk (l7 C hc))
 . exact DU h ⟨92,[c],rfl,.inr (.inl rfl)⟩ (AG (oz rfl) F5)
theorem zJ{w:List Nat}(h:rQ M W l w){c:Nat}{x:List Nat}(hx:x∈o4 l c):Sp M W x (.jg 39 (w++[c])):=by
 unfold o4 at hx
 split at hx
 . cases hx
 . rename_i hc
   exact af (aY.mp hx) (h.one.app (nk (mj hc (fun q=>by cases q.2.2))))
theorem xh{w:List Nat}{c:Nat}:stp true M W (.i9 w) c=([],.jg 34 ((if c≠92/\c≠34 then w++[92]else w)++[c])):=rfl
theorem BS{w:List Nat}(h:rQ M W l w)(c:Nat):Sp M W (wX l c) (.jg 34 (w++[c])):=by
 unfold wX
 split
 . rename_i hc
   refine h.two.app (AG (pH rfl) ?_)
   (refine af xh ?_; rw[if_neg])
   intro q
   simp only[Jd,aB,eS,or_false]at hc
   lia
 . rename_i hc
   simp only[Jd,aB,eS,or_false,not_or]at hc
   exact h.two.app (nk (mj hc.1 (fun q=>hc.2 q.2.1)))
theorem zu{w:List Nat}(h:rQ M W l w){c:Nat}{x:List Nat}(hx:x∈mT l c):Sp M W x (.jg 34 (w++[c])):=by
 unfold mT at hx
 split at hx
 . rename_i hc
   rcases aB.mp hx with rfl|hx
   . exact BS h c
   . refine af (aY.mp hx) ?_
     refine au (h.sE hc.1) fun v e hv=>?_
     refine hv.app (AG (pH rfl) ?_)
     have hc:=hc.2
     simp only[Jd,aB,eS,or_false,not_or]at hc
     (refine af xh (af (if_pos ⟨hc.2,hc.1⟩) (af e ?_)); rfl)
 . exact af (aY.mp hx) (BS h c)
theorem O2(l:WL)(c:Nat):∃r,mT l c=wX l c::r:=by
 unfold mT; split <;> exact⟨_,rfl⟩
theorem HY(C:Ch true M W){w:List Nat}(h:rQ M W l w)(c:Nat):rQ M W (F9 W l c) (w++[c]):=by
 have hb:Sp M W (yR (jc W l c)) (.word (w++[c])):=by
   have:=sZ (ys:=jc W l c) (by unfold jc; simp)
   generalize yR (jc W l c)=b at this
   rcases aB.mp this with rfl|hm
   . exact Ju C h c
   . rcases bu.mp hm with hm|hm
     . refine au (bZ.mp hm) fun x hx iU=>?_
       subst iU
       exact(zJ h hx).app (nk (jf.trans (if_pos rfl)))
     . refine au (bZ.mp hm) fun x hx iU=>?_
       subst iU
       exact(zu h hx).app (nk (jf.trans (if_pos rfl)))
 refine⟨.inr hb,?_,?_,?_⟩
 . show Sp M W (yR (o4 l c++[yR (jc W l c)++[39]])) _
   have:=sZ (ys:=o4 l c++[yR (jc W l c)++[39]]) (by simp)
   generalize yR (o4 l c++[yR (jc W l c)++[39]])=b at this
   rcases bu.mp this with hm|hm
   . exact zJ h hm
   . exact af (aY.mp hm) (hb.app (nk (i7 rfl JD)))
 . show Sp M W (yR (mT l c++[yR (jc W l c)++[34]])) _
   have:=sZ (ys:=mT l c++[yR (jc W l c)++[34]]) (by simp)
   generalize yR (mT l c++[yR (jc W l c)++[34]])=b at this
   rcases bu.mp this with hm|hm
   . exact zu h hm
   . exact af (aY.mp hm) (hb.app (nk (i7 rfl Oq)))
 . intro hk
   have:c=92:=of_decide_eq_true hk
   subst this
   exact⟨w,rfl,h.two⟩
theorem wU(C:Ch true M W)(w:List Nat):rQ M W (pF W w) w:=by
 have key:∀r v:List Nat,rQ M W (pF W v) v->rQ M W (pF W (v++r)) (v++r):=by
   intro r
   induction r with
   |nil=>intro v h; rwa[aK]
   | cons c r ih=>
     intro v h
     have:=ih (v++[c]) (by rw[jn]; exact HY C h c)
     rwa[bB]at this
 refine key w [] ⟨.inl ⟨rfl,rfl⟩,?_,?_,fun h=>by exact ff h⟩
 . exact⟨⟨39,[],rfl,.inr (.inr JD)⟩,nk (i7 rfl JD)⟩
 . exact⟨⟨34,[],rfl,.inr (.inr Oq)⟩,nk (i7 rfl Oq)⟩
theorem HN(C:Ch true M W)(w:List Nat):Sp M W (mR W w) (.word w):=by
 unfold mR
 split
 . rename_i h
   subst h
   exact⟨⟨39,[39],rfl,.inr (.inr JD)⟩,AG (i7 rfl JD) (jf.trans (if_pos rfl))⟩
 . rename_i h
   exact(wU C w).bare.resolve_left fun q=>h q.1
noncomputable abbrev bN(W w:List Nat):Nat:=(pF W w).bare.length
noncomputable abbrev oN(W w:List Nat):Nat:=(pF W w).one.length
noncomputable abbrev tN(W w:List Nat):Nat:=(pF W w).two.length
theorem Hw{w:List Nat}{c:Nat}{x:List Nat}(h:x∈jc W (pF W w) c):bN W (w++[c])<=x.length:=by
 unfold bN; rw[jn]; exact Eu h
theorem S2{w:List Nat}{c:Nat}{x:List Nat}(h:x∈o4 (pF W w) c++[(pF W (w++[c])).bare++[39]]):oN W (w++[c])<=x.length:=by
 unfold oN; rw[jn]at h |-; exact Eu h
theorem Kl{w:List Nat}{c:Nat}{x:List Nat}(h:x∈mT (pF W w) c++[(pF W (w++[c])).bare++[34]]):tN W (w++[c])<=x.length:=by
 unfold tN; rw[jn]at h |-; exact Eu h
theorem b_W{w:List Nat}{c:Nat}(h:c∈W):bN W (w++[c])<=bN W w+1:=by
 have:=Hw (c:=c) (x:=t8 W (pF W w) c) (.head _)
 unfold t8 at this
 rw[if_pos h,aR]at this
 exact this
theorem aaz(W w:List Nat)(c:Nat):bN W (w++[c])<=bN W w+2:=by
 by_cases h:c∈W
 . have:=b_W (w:=w) h; lia
 have:=Hw (c:=c) (x:=t8 W (pF W w) c) (.head _)
 unfold t8 at this
 rw[if_neg h,aR]at this
 exact this
theorem snoc_cases(w:List Nat):w=[]\/∃v c,w=v++[c]:=by
 rcases List.eq_nil_or_concat w with h|⟨v,c,h⟩
 . exact .inl h
 . exact .inr ⟨v,c,by(refine af h (af List.concat_eq_append ?_); rfl)⟩
theorem o_b(W w:List Nat):oN W w<=bN W w+1:=by
 rcases snoc_cases w with rfl|⟨v,c,rfl⟩
 . exact bC _
 . have:=S2 (W:=W) (w:=v) (c:=c) (aJ _ (.head _))
   rwa[aR]at this
theorem t_b(W w:List Nat):tN W w<=bN W w+1:=by
 rcases snoc_cases w with rfl|⟨v,c,rfl⟩
 . exact bC _
 . have:=Kl (W:=W) (w:=v) (c:=c) (aJ _ (.head _))
   rwa[aR]at this
theorem b_o(W w:List Nat):bN W w<=oN W w+1:=by
 rcases snoc_cases w with rfl|⟨v,c,rfl⟩
 . exact dz _
 . have hm:(pF W (v++[c])).one∈o4 (pF W v) c++[(pF W (v++[c])).bare++[39]]:=by
     rw[jn]; exact sZ (by simp)
   rcases bu.mp hm with hm|hm
   . have:=Hw (c:=c) (x:=(pF W (v++[c])).one++[39]) (.tail _ (aH _ (bZ.mpr ⟨_,hm,rfl⟩)))
     rwa[aR]at this
   . have e:=congrArg List.length (aY.mp hm)
     rw[aR]at e
     unfold oN bN; simp only[dG]at e; lia
theorem b_t(W w:List Nat):bN W w<=tN W w+1:=by
 rcases snoc_cases w with rfl|⟨v,c,rfl⟩
 . exact dz _
 . have hm:(pF W (v++[c])).two∈mT (pF W v) c++[(pF W (v++[c])).bare++[34]]:=by
     rw[jn]; exact sZ (by simp)
   rcases bu.mp hm with hm|hm
   . have:=Hw (c:=c) (x:=(pF W (v++[c])).two++[34]) (.tail _ (aJ _ (bZ.mpr ⟨_,hm,rfl⟩)))
     rwa[aR]at this
   . have e:=congrArg List.length (aY.mp hm)
     rw[aR]at e
     unfold tN bN; simp only[dG]at e; lia
theorem abA{w:List Nat}{c:Nat}(h:c≠39):oN W (w++[c])<=oN W w+1:=by
 have:=S2 (c:=c) (x:=(pF W w).one++[c]) (aH _ (by unfold o4; refine af (if_neg h) ?_; exact .head _))
 rwa[aR]at this
theorem Ke(w:List Nat)(c:Nat):tN W (w++[c])<=(wX (pF W w) c).length:=by
 refine cE (O2 (pF W w) c) fun r e=>?_
 exact Kl (c:=c) (x:=wX (pF W w) c) (aH _ (af e (.head _)))
theorem abn{w:List Nat}{c:Nat}(h:c∉Jd):tN W (w++[c])<=tN W w+1:=by
 have:=Ke (W:=W) w c
 unfold wX at this
 rw[if_neg h,aR]at this
 exact this
theorem Yo{w:List Nat}{c:Nat}(h:c∈Jd):tN W (w++[c])<=tN W w+2:=by
 have:=Ke (W:=W) w c
 unfold wX at this
 rw[if_pos h,aR]at this
 exact this
theorem Yp{w:List Nat}{c:Nat}(h:c∉Jd):tN W ((w++[92])++[c])<=tN W w+2:=by
 have:=Kl (W:=W) (w:=w++[92]) (c:=c) (x:=(pF W (w++[92])).sE++[92,c]) (aH _ (by
   unfold mT
   rw[if_pos ⟨by rw[jn]; rfl,h⟩]
   exact .tail _ (.head _)))
 rw[aR]at this
 have e:(pF W (w++[92])).sE=(pF W w).two:=by rw[jn]; rfl
 rw[e]at this
 exact this
end
noncomputable def iW(p:Bool)(M W:List Nat)(c:Nat)(r:List Nat):Nat:=if ∀n∈c::r,n∈M then 1 else if c∈qL then(if firstAt c r 1=(r.length:Int)then 2 else 0)else if c∈ri\/c=35\/(p=true/\c=92)then 0 else if c∉W then(if r=[]then 3 else 0)else if ∀n∈c::r,n∈qL\/n∈W then 4 else 0
noncomputable def gw(p:Bool)(M W:List Nat):List Nat->Nat
 | []=>0
 |c::r=>iW p M W c r
theorem Oa{a b:List Nat}:S a=S b↔a=b:=⟨fun h=>by simpa using congrArg (fun x:Str=>x.cps.toList) h,fun h=>by(refine af h ?_; rfl)⟩
noncomputable def Ow:Nat->Str
 |1=>"run"
 |2=>"mark"
 |3=>"lone"
 |4=>"word"
 |_=>""
section
variable {p:Bool}{M W:List Nat}
theorem Wo(c:Nat)(r:List Nat):mF (S (c::r))=S [c]:=by
 have:=Ut (T:=c::r) (k:=1) (by simp)
 exact this
theorem ng{α:Type}{b:Bool}{P:Prop}[Decidable P](h:b=true↔P)(x y:α):cond b x y=if P then x else y:=by
 cases b with
 |true=>exact af (if_pos (h.mp rfl)) rfl
 |false=>rw[if_neg (fun q=>by have:=h.mpr q; cases this)]; rfl
theorem Mv(C:∀c,g9 p (S M) (S [c])=decide (c∈W))(t:List Nat):kindS p (S M) (S t)=Ow (gw p M W t):=by
 cases t with
 | nil=>
   have e:mF (S [])=S []:=by decide +kernel
   unfold kindS
   refine af e ?_
   have:bw (S []) ""=true:=by decide +kernel
   refine af this ?_
   rfl
 | cons c r=>
   show _=Ow (iW p M W c r)
   unfold kindS iW
   (rewrite [Wo]; refine af (show(("":Str))=S []from dR) ?_; rewrite [g7]; refine af (show(([c]:List Nat)== [])=false by simp) (af Bool.not_false ?_); rw[Bool.true_and,Bool.false_or])
   have h1:((S (c::r)).cps.toList.all fun n=>aG (S M) (S [n]))=true↔∀n∈c::r,n∈M:=by
     simp only[iC,dH,decide_eq_true_eq]
   have h2:([("'":Str),("\"":Str)].any (· ==S [c]))=true↔c∈qL:=by
     refine af (show(("'":Str))=S [39]from CH) (af (show(("\"":Str))=S [34]from GD) ?_)
     show(S [39]==S [c]||(S [34]==S [c]||false))=true↔_
     rw[Bool.or_false,Bool.or_eq_true,beq_iff_eq,beq_iff_eq,Oa,Oa]
     simp only[qL,aB,eS,or_false,List.cons.injEq,and_true]
     exact⟨fun h=>h.imp Eq.symm Eq.symm,fun h=>h.imp Eq.symm Eq.symm⟩
   have h3:(Txt.find3 (S (c::r)) (S [c]) 1==((S (c::r)).length:Int)-1)=true↔firstAt c r 1=(r.length:Int):=by
     have:=G7 (T:=c::r) (c:=c) (k:=1) (by simp)
     (refine af (show Txt.find3 (S (c::r)) (S [c]) 1=firstAt c r 1 from this) ?_; rewrite [eu,beq_iff_eq]; refine af dg ?_)
     lia
   have h4:(aG " \t\r\n#" (S [c])||(p&&bw (S [c]) "\\"))=true↔c∈ri\/c=35\/(p=true/\c=92):=by
     (refine af (show((" \t\r\n#":Str))=S [32,9,13,10,35]from(by decide +kernel)) ?_; rewrite [iC]; refine af (show(("\\":Str))=S [92]from zS) ?_; rw[g7])
     simp[or_assoc]
   have h5:(!g9 p (S M) (S [c]))=true↔c∉W:=by rw[C]; simp
   have h6:(((S (c::r)).length:Int)==1)=true↔r=[]:=by
     (rewrite [eu,beq_iff_eq]; refine af dg ?_)
     cases r with
     |nil=>simp
     |cons=>simp; lia
   have h7:((S (c::r)).cps.toList.all fun n=> !(!aG "'\"" (S [n])&& !g9 p (S M) (S [n])))=true↔∀n∈c::r,n∈qL\/n∈W:=by
     refine af (show(("'\"":Str))=S [39,34]from(by decide +kernel)) ?_
     simp only[iC,C,dH,Bool.not_and,Bool.not_not,Bool.or_eq_true,decide_eq_true_eq]
   rw[ng h1,ng h2,ng h3,ng h4,ng h5,ng h6,ng h7]
   by_cases q1:∀n∈c::r,n∈M
   . exact af (if_pos q1) (af (if_pos q1) rfl)
   refine af (if_neg q1) (af (if_neg q1) ?_)
   by_cases q2:c∈qL
   . refine af (if_pos q2) (af (if_pos q2) ?_)
     by_cases q3:firstAt c r 1=(r.length:Int)
     . exact af (if_pos q3) (af (if_pos q3) rfl)
     . exact af (if_neg q3) (af (if_neg q3) dR.symm)
   refine af (if_neg q2) (af (if_neg q2) ?_)
   by_cases q4:c∈ri\/c=35\/(p=true/\c=92)
   . exact af (if_pos q4) (af (if_pos q4) dR.symm)
   refine af (if_neg q4) (af (if_neg q4) ?_)
   by_cases q5:c∉W
   . refine af (if_pos q5) (af (if_pos q5) ?_)
     by_cases q6:r=[]
     . exact af (if_pos q6) (af (if_pos q6) rfl)
     . exact af (if_neg q6) (af (if_neg q6) dR.symm)
   refine af (if_neg q5) (af (if_neg q5) ?_)
   by_cases q7:∀n∈c::r,n∈qL\/n∈W
   . exact af (if_pos q7) (af (if_pos q7) rfl)
   . exact af (if_neg q7) (af (if_neg q7) dR.symm)
theorem xY{t:List Nat}(h:D0 M t):gw p M W t=1:=by
 cases t with
 |nil=>exact absurd rfl h.1
 | cons c r=>
   show iW p M W c r=1
   unfold iW; (refine af (if_pos h.2) ?_; rfl)
theorem uM{c:Nat}(h:pn p M W c):gw p M W [c]=3:=by
 show iW p M W c []=3
 unfold iW
 (refine af (if_neg (fun q=>h.m (q c (.head _)))) (af (if_neg h.q) ?_); rewrite [if_neg]; refine af (if_pos h.w) (af (if_pos rfl) ?_); rfl)
 rintro(q|q|q)
 . exact h.ws q
 . exact h.Xz q
 . exact h.Za q
theorem z8(C:Ch p M W){t:List Nat}(h:uf W t):gw p M W t=4:=by
 refine fS h fun c r iU hc hr=>?_
 subst iU
 refine om (xK (C.off c hc)) fun h1 h2 h3 h4 h5=>?_
 show iW p M W c r=4
 unfold iW
 rw[if_neg (fun q=>C.W7 c hc (q c (.head _))),if_neg (fun q=>by simp only[qL,aB,eS,or_false]at q; lia),if_neg,if_neg (fun q=>q hc),if_pos]
 . intro n hn
   rcases aB.mp hn with rfl|hn
   . exact .inr hc
   . exact(hr n hn).symm
 . rintro(q|q|q)
   . exact h1 q
   . exact h2 q
   . exact h3 q.2
theorem IS(C:Ch p M W){t:List Nat}(h:MarkT t):gw p M W t=2:=by
 refine fS h fun q v iU hq hv=>?_
 subst iU
 show iW p M W q (v++[q])=2
 unfold iW
 (refine af (if_neg (fun x=>(rz C hq).2.2.2.2 (x q (.head _)))) (af (if_pos hq) ?_); rw[if_pos])
 rcases iL q (v++[q]) 1 with ⟨_,h2⟩|⟨j,h1,h2,h3⟩
 . exact absurd (aJ _ (.head _)) h2
 . have hj:j<(v++[q]).length:=by
     rcases Nat.lt_or_ge j (v++[q]).length with h|h
     . exact h
     . rw[List.getElem?_eq_none h]at h2; exact nn h2
   rw[aR,dG]at hj
   have:j=v.length:=by
     rcases Nat.lt_or_ge j v.length with h|h
     . rw[List.getElem?_append_left h,List.getElem?_eq_getElem h]at h2
       exact absurd (oU h2▸nZ h) hv
     . lia
   refine af h1 (af aR (af dG (af this ?_)))
   lia
theorem Cf{t:List Nat}(h:gw p M W t=1):D0 M t:=by
 cases t with
 |nil=>cases h
 | cons c r=>
   replace h:iW p M W c r=_:=h
   unfold iW at h
   split at h
   . rename_i q; exact⟨by simp,q⟩
   repeat' split at h
   all_goals cases h
theorem zR{t:List Nat}(h:gw p M W t=3):T3 p M W t:=by
 cases t with
 |nil=>cases h
 | cons c r=>
   replace h:iW p M W c r=_:=h
   unfold iW at h
   split at h
   . cases h
   rename_i q1
   split at h
   . split at h <;> cases h
   rename_i q2
   split at h
   . cases h
   rename_i q4
   split at h
   . rename_i q5
     split at h
     . rename_i q6
       subst q6
       exact⟨c,rfl,fun q=>q4 (.inl q),fun q=>q4 (.inr (.inl q)),fun q=>q4 (.inr (.inr q)),q5,fun q=>q1 fun n hn=>by refine af (aY.mp hn) ?_; exact q,q2⟩
     . cases h
   . split at h <;> cases h
theorem Iu{t:List Nat}(h:gw p M W t=2):MarkT t:=by
 cases t with
 |nil=>cases h
 | cons c r=>
   replace h:iW p M W c r=_:=h
   unfold iW at h
   split at h
   . cases h
   split at h
   . rename_i q2
     split at h
     . rename_i q3
       rcases iL c r 1 with ⟨h1,h2⟩|⟨j,h1,h2,h3⟩
       . lia
       . have hj:j+1=r.length:=by lia
         have hr:r=r.take j++[c]:=by
           have hj':j<r.length:=by lia
           rw[List.getElem?_eq_getElem hj']at h2
           (refine af ((oU h2).symm) (af (List.take_append_getElem hj') (af hj (af List.take_length ?_))); rfl)
         exact⟨c,r.take j,by(refine af hr.symm ?_; rfl),q2,h3⟩
     . cases h
   repeat' split at h
   all_goals cases h
theorem HL{t:List Nat}(h:gw p M W t=4):uf W t:=by
 cases t with
 |nil=>cases h
 | cons c r=>
   replace h:iW p M W c r=_:=h
   unfold iW at h
   split at h
   . cases h
   split at h
   . split at h <;> cases h
   split at h
   . cases h
   split at h
   . split at h <;> cases h
   rename_i q5
   split at h
   . rename_i q7
     exact⟨c,r,rfl,Classical.not_not.mp q5,fun x hx=>(q7 x (.tail _ hx)).symm⟩
   . cases h
theorem Bl(t:List Nat):gw p M W t<5:=by
 cases t with
 |nil=>exact Nat.zero_lt_succ 4
 | cons c r=>
   show iW p M W c r<5
   unfold iW; repeat' split
   all_goals decide
end
noncomputable def JB:Sc->Nat->Prop
 | .word _,b=>b=0
 | .run _,b=>b=1
 | .out,b=>b=2
 |_,_=>False
section
variable {aa:Bool}{M W:List Nat}
def Cut(aa:Bool)(M W:List Nat)(s:Sc)(x y:List Nat):Prop:=walk aa M W x s=((fin s).1++(walk aa M W y .out).1,(walk aa M W y .out).2)
theorem DG{w:List Nat}{c:Nat}{r:List Nat}(C:Ch aa M W)(h:c∈M\/pn aa M W c):Cut aa M W (.word w) (c::r) (c::r):=by
 unfold Cut
 rw[bX,bX]
 rcases h with h|h
 . exact af (rY C h) (af (show stp aa M W .out c=cM aa M W c from rfl) (af (pO C h) rfl))
 . exact af (ku h) (af (show stp aa M W .out c=cM aa M W c from rfl) (af (gT h) rfl))
theorem BC{w:List Nat}{c:Nat}{r:List Nat}(h1:c∉ri)(h2:c≠35)(h:c∉M):Cut aa M W (.run w) (c::r) (c::r):=by
 unfold Cut
 (rewrite [bX,bX]; refine af (gD h1 h2 h) ?_); rfl
theorem uY{s:Sc}{b:Nat}(h:JB s b)(r:List Nat):Cut aa M W s (32::r) r:=by
 unfold Cut
 rw[bX]
 cases s with
 |out=>rfl
 |word w=>rfl
 |run w=>rfl
 |_=>exact h.elim
theorem wM(r:List Nat):Cut aa M W .out r r:=rfl
def jS(aa:Bool)(M W:List Nat)(b:Nat)(R:List (List Nat))(l:List Nat):Prop:=∃R' s,walk aa M W l .out=(R',s)/\R=R'++(fin s).1/\JB s b
theorem pW{a b:Nat}{l x y:List Nat}(h:jS aa M W a R l)(hc:∀s,JB s a->Cut aa M W s x y)(hy:walk aa M W y .out=(fF,s₁))(hb:JB s₁ b):jS aa M W b (R++(fF++(fin s₁).1)) (l++x):=by
 refine fS h fun R' s h1 jU h3=>?_
 subst jU
 refine⟨(R'++(fin s).1)++fF,s₁,?_,by rw[bB (R'++_)],hb⟩
 (rewrite [nE]; refine af h1 (af (hc s h3) (af hy ?_)); rw[bB])
theorem J6(C:Ch aa M W){t:List Nat}(h:D0 M t):walk aa M W t .out=([],.run t):=by
 refine bx h fun hn hm=>?_
 cases t with
 |nil=>exact absurd rfl hn
 | cons c r=>
   have key:∀(r w:List Nat),(∀x∈r,x∈M)->walk aa M W r (.run w)=([],.run (w++r)):=by
     intro r
     induction r with
     |nil=>intro w _; rw[aK]; rfl
     | cons d r ih=>
       intro w h
       (rewrite [bX]; refine af (ux C (h d (.head _))) (af (ih _ fun x hx=>h x (.tail _ hx)) ?_); rw[bB]); rfl
   (rewrite [bX]; refine af (show stp aa M W .out c=cM aa M W c from rfl) (af (pO C (hm c (.head _))) (af (key r [c] fun x hx=>hm x (.tail _ hx)) ?_))); rfl
theorem HQ{c:Nat}(h:pn aa M W c):walk aa M W [c] .out=([[c]],.out):=by
 (rewrite [bX]; refine af (show stp aa M W .out c=cM aa M W c from rfl) (af (gT h) ?_)); rfl
theorem C8(C:Ch aa M W){a:Nat}{l t:List Nat}(h:jS aa M W a R l)(ht:D0 M t):jS aa M W 1 (R++[t]) (l++((if a=1 then [32]else [])++t)):=by
 have hw:=J6 C ht
 refine pW (fF:=[]) (s₁:=.run t) (y:=t) h (fun s hs=>?_) hw rfl
 by_cases ea:a=1
 . exact af (if_pos ea) (uY hs t)
 . refine af (if_neg ea) ?_
   refine bx ht fun hn hm=>?_
   cases t with
   |nil=>exact absurd rfl hn
   | cons c r=>
     cases s with
     |out=>exact wM _
     |word w=>exact DG C (.inl (hm c (.head _)))
     |run w=>exact absurd hs ea
     |_=>exact hs.elim
theorem Ac(C:Ch aa M W){a:Nat}{l:List Nat}{c:Nat}(h:jS aa M W a R l)(hc:pn aa M W c):jS aa M W 2 (R++[[c]]) (l++[c]):=by
 have hw:=HQ hc
 refine pW (fF:=[[c]]) (s₁:=.out) (y:=[c]) h (fun s hs=>?_) hw rfl
 cases s with
 |out=>exact wM _
 |word w=>exact DG C (.inr hc)
 |run w=>exact BC hc.ws hc.Xz hc.m
 |_=>exact hs.elim
end
section
variable {M W:List Nat}
theorem Wr(C:Ch true M W){t:List Nat}(h:Hd W t):walk true M W t .out=walk true M W t (.word [])/\∀w,Cut true M W (.run w) t t:=by
 refine gB h fun c r iU hc=>?_
 subst iU
 have e:stp true M W .out c=stp true M W (.word []) c/\c∉ri/\c≠35/\c∉M:=by
   rcases hc with hc|rfl|hc
   . refine lV (xK (C.off c hc)) fun h1 h2 _=>?_
     exact⟨(xH C hc).trans (l7 (w:=[]) C hc).symm,h1,h2,C.W7 c hc⟩
   . exact⟨(A4 rfl).trans (oz rfl).symm,by decide,by decide,fun q=>C.LU 92 q (by decide)⟩
   . refine cp fun G' k'=>?_
     refine om (rz C hc) fun h1 h2 h3 h4 h5=>?_
     refine k' ?_
     exact⟨(mu C hc).trans (i7 rfl hc).symm,h1,h2,h5⟩
 refine⟨?_,fun w=>BC e.2.1 e.2.2.1 e.2.2.2⟩
 (rewrite [bX,bX]; refine af e.1 ?_; rfl)
theorem E9(C:Ch true M W){a:Nat}{l:List Nat}(h:jS true M W a R l)(t:List Nat):jS true M W 0 (R++[t]) (l++((if a=0 then [32]else [])++mR W t)):=by
 refine bx (HN C t) fun hh hw=>?_
 refine bx (Wr C hh) fun h1 h2=>?_
 refine pW (fF:=[]) (s₁:=.word t) (y:=mR W t) h (fun s hs=>?_) (h1.trans hw) rfl
 by_cases ea:a=0
 . exact af (if_pos ea) (uY hs _)
 . refine af (if_neg ea) ?_
   cases s with
   |out=>exact wM _
   |word w=>exact absurd hs ea
   |run w=>exact h2 w
   |_=>exact hs.elim
theorem xm{ys:List Str}:∀ {b t:Str},cZ (some b) ys=some t->t∈b::ys/\∀y∈b::ys,t.length<=y.length:=by
 induction ys with
 | nil=>
   intro b t h
   obtain rfl:=sj h
   exact⟨.head _,fun y h=>by refine af (aY.mp h) ?_; exact bC _⟩
 | cons y ys ih=>
   intro b t h
   replace h:cZ (cond (decide ((y.length:Int)<b.length)) (some y) (some b)) ys=some t:=h
   by_cases hc:y.length<b.length
   . rw[decide_eq_true (by lia)]at h
     refine bx (ih h) fun h1 h2=>?_
     refine⟨.tail _ h1,fun z hz=>?_⟩
     rcases aB.mp hz with rfl|hz
     . have:=h2 y (.head _); lia
     . exact h2 z hz
   . rw[decide_eq_false (by lia)]at h
     refine bx (ih h) fun h1 h2=>?_
     refine⟨?_,fun z hz=>?_⟩
     . rcases aB.mp h1 with e|h1
       . exact af e (.head _)
       . exact .tail _ (.tail _ h1)
     . rcases aB.mp hz with rfl|hz
       . exact h2 _ (.head _)
       . rcases aB.mp hz with rfl|hz
         . have:=h2 b (.head _); lia
         . exact h2 z (.tail _ hz)
theorem zG{ys:List Str}{t:Str}(h:cZ none ys=some t):t∈ys:=by
 cases ys with
 |nil=>exact nn h
 |cons y ys=>exact(xm (show cZ (some y) ys=some t from h)).1
theorem Cd{ys:List Str}{y:Str}(h:y∈ys):∃t,cZ none ys=some t/\t.length<=y.length:=by
 cases ys with
 |nil=>cases h
 | cons x ys=>
   refine cE (pJ x ys) fun t ht=>?_
   exact⟨t,ht,(xm ht).2 y h⟩
theorem B9{Ms T kd:Str}{b:Nat}(hb:b<3):(pI Ms T kd Es).getD b none=cZ none (m7 Es ((jW Ms T kd).getD b none) b):=by
 match b,hb with
 |0,_=>rfl
 |1,_=>rfl
 |2,_=>rfl
theorem B7{Ms T kd:Str}{b:Nat}{t:Str}(hb:b<3)(h:(pI Ms T kd Es).getD b none=some t):∃a s u,a<3/\Es.getD a none=some s/\(jW Ms T kd).getD b none=some u/\t=s++yY a b++u:=by
 rw[B9 hb]at h
 refine cp fun G' k'=>?_
 refine au (List.mem_filterMap.mp (zG h)) fun a ha h=>?_
 refine au (aq h) fun s e1 h=>?_
 refine au (aq h) fun u e2 h=>?_
 refine k' ?_
 exact⟨a,s,u,kP.mp ha,e1,e2,(sj h).symm⟩
theorem KC{Ms T kd:Str}{a b:Nat}{s u:Str}(ha:a<3)(hb:b<3)(h1:Es.getD a none=some s)(h2:(jW Ms T kd).getD b none=some u):∃t,(pI Ms T kd Es).getD b none=some t/\t.length<=(s++yY a b++u).length:=by
 refine af (B9 hb) ?_
 refine Cd (List.mem_filterMap.mpr ⟨a,kP.mpr ha,?_⟩)
 exact af h1 (af h2 rfl)
theorem Ge(a b:Nat):yY a b=S (if a=b/\b<2 then [32]else []):=by
 unfold yY
 rw[ng (P:=a=b/\b<2) (by simp)]
 split
 . exact(by decide +kernel:aj " "=S [32])
 . exact dR
noncomputable abbrev abK:List (Option Str):=[none,none,some ""]
noncomputable def BJ(M:List Nat)(R:List (List Nat)):List (Option Str):=gG (S M) (R.map S) abK
theorem EU(Ms:Str)(a b:List Str):∀Es,gG Ms (a++b) Es=gG Ms b (gG Ms a Es):=by
 induction a with
 |nil=>intro Es; rfl
 |cons T r ih=>intro Es; exact ih _
theorem BI(M:List Nat)(R:List (List Nat))(t:List Nat):BJ M (R++[t])=pI (S M) (S t) (kindS true (S M) (S t)) (BJ M R):=by
 unfold BJ
 (refine af jL ?_; rw[EU]); rfl
theorem AE(C:Ch true M W)(t:List Nat):jW (S M) (S t) (kindS true (S M) (S t))=[some (S (mR W t)),if gw true M W t=1 then some (S t)else none,if gw true M W t=3 then some (S t)else none]:=by
 unfold jW
 rw[JZ C.ch,Mv C.ch]
 have h:=Bl (p:=true) (M:=M) (W:=W) t
 have e1:∀k<5,bw (Ow k) "run"=decide (k=1):=by decide +kernel
 have e3:∀k<5,bw (Ow k) "lone"=decide (k=3):=by decide +kernel
 refine af (e1 _ h) (af (e3 _ h) ?_)
 by_cases h1:gw true M W t=1
 . exact af h1 rfl
 by_cases h3:gw true M W t=3
 . exact af h3 rfl
 exact af (decide_eq_false h1) (af (decide_eq_false h3) (af (if_neg h1) (af (if_neg h3) rfl)))
noncomputable def Om(R:List (List Nat)):Nat:=2*R.flatten.length+3*R.length
theorem FY(R:List (List Nat))(t:List Nat):Om (R++[t])=Om R+2*t.length+3:=by
 unfold Om
 rw[qd,aR,aR,List.flatten_singleton,dG]; lia
def Jy(M W:List Nat)(R:List (List Nat)):Prop:=∀b<3,∀t,(BJ M R).getD b none=some t->∃l,t=S l/\jS true M W b R l/\l.length<=Om R
theorem Lb:Jy M W []:=fun b hb t h=>by
 match b,hb with
 |0,_=>exact nn h
 |1,_=>exact nn h
 | 2,_=>
   obtain rfl:=sj h
   exact⟨[],dR,⟨[],.out,rfl,rfl,rfl⟩,bC _⟩
theorem OG(C:Ch true M W)(t:List Nat):(mR W t).length<=2*t.length+2:=by
 have:=vc (S M) (S t)
 rwa[JZ C.ch,eu,eu]at this
theorem Ic(C:Ch true M W)(h:Jy M W R)(t:List Nat):Jy M W (R++[t]):=fun b hb y hy=>by
 rw[BI]at hy
 refine yU (B7 hb hy) fun a s u ha e1 e2 e'6=>?_
 subst e'6
 refine nD (h a ha s e1) fun l fj hg hl=>?_
 subst fj
 rw[AE C]at e2
 rw[FY]
 have hwu:=OG C t
 match b,hb with
 | 0,_=>
   obtain rfl:=sj e2
   refine⟨l++((if a=0 then [32]else [])++mR W t),?_,E9 C hg t,?_⟩
   . rw[Ge,eO,eO,bB]
     simp
   . refine af aR (af aR ?_)
     split <;> simp only[dG,iF] <;> lia
 | 1,_=>
   replace e2:(if gw true M W t=1 then some (S t)else none)=some u:=e2
   split at e2
   . rename_i hk
     obtain rfl:=sj e2
     refine⟨l++((if a=1 then [32]else [])++t),?_,C8 C hg (Cf hk),?_⟩
     . rw[Ge,eO,eO,bB]
       simp
     . refine af aR (af aR ?_)
       split <;> simp only[dG,iF] <;> lia
   . exact nn e2
 | 2,_=>
   replace e2:(if gw true M W t=3 then some (S t)else none)=some u:=e2
   split at e2
   . rename_i hk
     obtain rfl:=sj e2
     refine au (zR hk) fun c fj hc=>?_
     subst fj
     refine⟨l++[c],?_,Ac C hg hc,?_⟩
     . rw[Ge,eO,eO,bB]
       simp
     . refine af aR (af dG ?_); lia
   . exact nn e2
theorem Lc(C:Ch true M W)(R:List (List Nat)):Jy M W R:=by
 have key:∀r v:List (List Nat),Jy M W v->Jy M W (v++r):=by
   intro r
   induction r with
   |nil=>intro v h; rwa[aK]
   | cons t r ih=>
     intro v h
     have:=ih (v++[t]) (Ic C h t)
     rwa[bB]at this
 exact key R [] Lb
theorem Oj(M:List Nat)(R:List (List Nat)):(BJ M R).length=3:=by
 rcases List.eq_nil_or_concat R with rfl|⟨v,t,rfl⟩
 . rfl
 . (refine af List.concat_eq_append ?_; rw[BI]); rfl
theorem Dv{Es:List (Option Str)}(hl:Es.length=3){t:Str}:t∈Es.filterMap id↔∃b<3,Es.getD b none=some t:=by
 rw[List.mem_filterMap]
 constructor
 . rintro⟨o,ho,e⟩
   refine cE (List.mem_iff_getElem.mp ho) fun b HW=>?_
   obtain⟨hb,h⟩:=HW
   exact⟨b,by lia,by refine af (List.getD_eq_getElem?_getD) (af (List.getElem?_eq_getElem hb) (af h ?_)); exact e⟩
 . rintro⟨b,hb,h⟩
   rw[List.getD_eq_getElem?_getD,List.getElem?_eq_getElem (by lia)]at h
   exact⟨_,nZ _,h⟩
theorem II(C:Ch true M W){R:List (List Nat)}{t:Str}(h:fU true (S M) (R.map S)=some t):∃l b,t=S l/\jS true M W b R l/\l.length<=Om R:=by
 refine cp fun G' k'=>?_
 refine au ((Dv (Oj M R)).mp (zG (show cZ none ((BJ M R).filterMap id)=some t from h))) fun b hb e=>?_
 refine nD (Lc C R b hb t e) fun l h1 h2 h3=>?_
 refine k' ?_
 exact⟨l,b,h1,h2,h3⟩
noncomputable abbrev K1(a b:Nat):Nat:=if a=b/\b<2 then 1 else 0
def GN(M:List Nat)(R:List (List Nat))(b n:Nat):Prop:=∃a s,a<3/\(BJ M R).getD a none=some s/\s.length+K1 a b<=n
def FN(M:List Nat)(R:List (List Nat))(n:Nat):Prop:=∃a s,a<3/\(BJ M R).getD a none=some s/\s.length+(if a<2 then 1 else 0)<=n
def CN(M:List Nat)(R:List (List Nat))(b n:Nat):Prop:=∃s,(BJ M R).getD b none=some s/\s.length<=n
theorem FN.up{n m:Nat}(h:FN M R n)(hm:n<=m):FN M R m:=by
 refine fS h fun a s h1 h2 h3=>?_
 exact⟨a,s,h1,h2,by lia⟩
theorem FN.g{n:Nat}(h:FN M R n)(b:Nat):GN M R b n:=by
 refine fS h fun a s h1 h2 h3=>?_
 refine⟨a,s,h1,h2,cg (Nat.add_le_add_left ?_ _) h3⟩
 unfold K1
 split <;> split <;> lia
theorem CN.g{a b n:Nat}(h:CN M R a n)(ha:a<3)(hb:a≠b\/b=2):GN M R b n:=by
 refine au h fun s h1 h2=>?_
 refine⟨a,s,ha,h1,?_⟩
 unfold K1
 rw[if_neg (fun q=>by lia)]
 exact h2
theorem CN.f{a n:Nat}(h:CN M R a n)(ha:a<3):FN M R (n+1):=by
 refine au h fun s h1 h2=>?_
 refine⟨a,s,ha,h1,?_⟩
 split <;> lia
theorem CN.f2{n:Nat}(h:CN M R 2 n):FN M R n:=by
 refine au h fun s h1 h2=>?_
 exact⟨2,s,by decide,h1,h2⟩
theorem N4{b n k:Nat}{t u:List Nat}(h:GN M R b n)(hb:b<3)(hw:(jW (S M) (S t) (kindS true (S M) (S t))).getD b none=some (S u))(hn:n+u.length<=k):CN M (R++[t]) b k:=by
 refine fS h fun a s h1 h2 h3=>?_
 refine au (KC (Ms:=S M) (T:=S t) (kd:=kindS true (S M) (S t)) h1 hb h2 hw) fun y e hy=>?_
 refine⟨y,by rw[BI]; exact e,?_⟩
 obtain⟨l,rfl⟩:∃l,s=S l:=⟨_,sG s⟩
 rw[Ge,eO,eO]at hy
 replace hy:y.length<=(l++(if a=b/\b<2 then [32]else [])++u).length:=cg hy (Nat.le_of_eq (eu _))
 rw[aR,aR]at hy
 have e2:(if a=b/\b<2 then [32]else []:List Nat).length=K1 a b:=by unfold K1; split <;> rfl
 rw[e2]at hy
 rw[eu]at h3
 lia
section
variable (HC:Ch true M W)
include HC
theorem DV{n k:Nat}{t:List Nat}(h:GN M R 0 n)(hn:n+(mR W t).length<=k):CN M (R++[t]) 0 k:=
 N4 h (by decide) (by rw[AE HC]; rfl) hn
theorem Hz{n k:Nat}{t:List Nat}(h:GN M R 1 n)(ht:D0 M t)(hn:n+t.length<=k):CN M (R++[t]) 1 k:=
 N4 h (by decide) (by(rewrite [AE HC]; refine af (xY ht) ?_); rfl) hn
theorem N3{n:Nat}{c:Nat}(h:GN M R 2 n)(hc:pn true M W c):CN M (R++[[c]]) 2 (n+1):=
 N4 (u:=[c]) h (by decide) (by(rewrite [AE HC]; refine af (uM hc) ?_); rfl) (bC _)
end
noncomputable abbrev wN(W w:List Nat):Nat:=(mR W w).length
theorem abm(W w:List Nat):bN W w<=wN W w:=by
 unfold wN mR
 split
 . rename_i h; subst h; exact dz _
 . exact bC _
theorem Xc{w:List Nat}(h:w≠ []):wN W w=bN W w:=by
 unfold wN mR
 (refine af (if_neg h) ?_; rfl)
theorem Yd{w:List Nat}{n:Nat}(h:bN W w<=n+1)(h0:1<=n):wN W w<=n+1:=by
 unfold wN mR
 split
 . show 2<=n+1; lia
 . exact h
noncomputable def JN(M W:List Nat):Sc->List (List Nat)->Nat->Prop
 | .out,R,n=>FN M R n
 | .word w,R,n=>∃m,GN M R 0 m/\m+wN W w<=n
 | .run r,R,n=>∃m,GN M R 1 m/\D0 M r/\m+r.length<=n
 | .jg q w,R,n=>∃m,GN M R 0 m/\((q=39/\m+oN W w<=n)\/(q=34/\m+tN W w<=n))
 | .cD w,R,n=>∃m,GN M R 0 m/\m+bN W w+1<=n
 | .i9 w,R,n=>∃m,GN M R 0 m/\m+tN W w+1<=n
 | .kD s,R,n=>s= .out/\FN M R n
section
variable (HC:Ch true M W)
include HC
theorem o1{n c:Nat}(h:c∈W\/c=92\/c∈qL)(hg:GN M R 0 n):JN M W (cM true M W c).2 (R++(cM true M W c).1) (n+1):=by
 rcases h with h|rfl|h
 . (refine af (xH HC h) ?_; rw[aK])
   refine⟨n,hg,?_⟩
   refine af (Xc (by simp)) ?_
   have:bN W [c]<=0+1:=b_W (w:=[]) h
   lia
 . (refine af (A4 rfl) ?_; rw[aK])
   exact⟨n,hg,bC _⟩
 . (refine af (mu HC h) ?_; rw[aK])
   refine⟨n,hg,?_⟩
   have h:c=39\/c=34:=by simpa [qL]using h
   exact h.imp (fun h=>⟨h,bC _⟩) fun h=>⟨h,bC _⟩
theorem o2{n c:Nat}(h:c∈M)(hg:GN M R 1 n):JN M W (cM true M W c).2 (R++(cM true M W c).1) (n+1):=by
 (refine af (pO HC h) ?_; rw[aK])
 exact⟨n,hg,⟨by simp,fun x hx=>by refine af (aY.mp hx) ?_; exact h⟩,bC _⟩
theorem o3{n c:Nat}(h:pn true M W c)(hg:GN M R 2 n):JN M W (cM true M W c).2 (R++(cM true M W c).1) (n+1):=by
 exact af (gT h) ((N3 HC hg h).f2)
theorem YA{s:Sc}{n:Nat}(c:Nat)(h:JN M W s R n):JN M W (stp true M W s c).2 (R++(stp true M W s c).1) (n+1):=by
 cases s with
 | out=>
   show JN M W (cM true M W c).2 (R++(cM true M W c).1) (n+1)
   have h:FN M R n:=h
   rcases cls true M W c with h1|h1|⟨_,h1⟩|h1|h1|h1|h1
   . (refine af (Gp h1) ?_; rw[aK]); exact h.up (iX _)
   . (refine af h1 (af Gq ?_); rw[aK]); exact⟨rfl,h.up (iX _)⟩
   . exact o1 HC (.inr (.inl h1)) (h.g 0)
   . exact o1 HC (.inl h1) (h.g 0)
   . exact o2 HC h1 (h.g 1)
   . exact o1 HC (.inr (.inr h1)) (h.g 0)
   . exact o3 HC h1 (h.g 2)
 | word w=>
   refine au h fun m hg hm=>?_
   have hc:=DV HC hg hm
   have hb:=abm W w
   rcases cls true M W c with h1|h1|⟨_,h1⟩|h1|h1|h1|h1
   . exact af (vm h1) (hc.f (by decide))
   . exact af h1 (af ((KA rfl).1) ⟨rfl,hc.f (by decide)⟩)
   . (refine af h1 (af (oz rfl) ?_); rw[aK]); exact⟨m,hg,by lia⟩
   . (refine af (l7 HC h1) ?_; rw[aK])
     refine⟨m,hg,?_⟩
     refine af (Xc (by simp)) ?_
     have:=b_W (w:=w) h1
     lia
   . refine af (rY HC h1) ?_
     have:=o2 HC h1 (hc.g (b:=1) (by decide) (.inl (by decide)))
     rwa[pO HC h1,aK]at this
   . (refine af (i7 rfl h1) ?_; rw[aK])
     refine⟨m,hg,?_⟩
     have ho:=o_b W w
     have ht:=t_b W w
     have h:c=39\/c=34:=by simpa [qL]using h1
     exact h.imp (fun h=>⟨h,by lia⟩) fun h=>⟨h,by lia⟩
   . refine af (ku h1) ?_
     have:=o3 HC h1 (hc.g (b:=2) (by decide) (.inr rfl))
     rw[gT h1,bB]at this
     exact this
 | run r=>
   refine nD h fun m hg hr hm=>?_
   have hc:=Hz HC hg hr hm
   have no:c∉ri->c≠35->c∉M->JN M W (cM true M W c).2 ((R++[r])++(cM true M W c).1) (n+1)->JN M W (stp true M W (.run r) c).2 (R++(stp true M W (.run r) c).1) (n+1):=fun h1 h2 h3 h=>by
     refine af (gD h1 h2 h3) ?_
     rw[bB]at h
     exact h
   rcases cls true M W c with h1|h1|⟨_,h1⟩|h1|h1|h1|h1
   . exact af (xg h1) (hc.f (by decide))
   . exact af h1 (af ((KA rfl).2) ⟨rfl,hc.f (by decide)⟩)
   . exact no (af h1 (by decide)) (af h1 (by decide)) (fun q=>HC.LU 92 (h1▸q) (by decide)) (o1 HC (.inr (.inl h1)) (hc.g (by decide) (.inl (by decide))))
   . refine lV (xK (HC.off c h1)) fun g1 g2 _=>?_
     exact no g1 g2 (HC.W7 c h1) (o1 HC (.inl h1) (hc.g (by decide) (.inl (by decide))))
   . (refine af (ux HC h1) ?_; rw[aK])
     refine⟨m,hg,⟨by simp,fun x hx=>?_⟩,by refine af aR (af dG ?_); lia⟩
     rcases bu.mp hx with hx|hx
     . exact hr.2 x hx
     . exact af (aY.mp hx) h1
   . refine om (rz HC h1) fun g1 g2 _ _ g5=>?_
     exact no g1 g2 g5 (o1 HC (.inr (.inr h1)) (hc.g (by decide) (.inl (by decide))))
   . exact no h1.ws h1.Xz h1.m (o3 HC h1 (hc.g (by decide) (.inr rfl)))
 | jg q w=>
   refine au h fun m hg hm=>?_
   have ho:=b_o W w
   have ht:=b_t W w
   have o0:1<=oN W w:=by
     have:=(wU HC w).one.1
     refine gB this fun c r e _=>?_
     unfold oN; exact af e (Nat.succ_le_succ (dz _))
   have t0:1<=tN W w:=by
     have:=(wU HC w).two.1
     refine gB this fun c r e _=>?_
     unfold tN; exact af e (Nat.succ_le_succ (dz _))
   by_cases hq:c=q
   . subst hq
     (refine af jf (af (if_pos rfl) ?_); rw[aK])
     refine⟨m,hg,?_⟩
     rcases hm with ⟨_,hm⟩|⟨_,hm⟩
     . have:=Yd ho o0; lia
     . have:=Yd ht t0; lia
   . by_cases h92:c=92/\q=34
     . refine bx h92 fun Se fj=>?_
       subst Se
       subst fj
       (refine af (pH rfl) ?_; rw[aK])
       refine⟨m,hg,?_⟩
       rcases hm with ⟨hm,_⟩|⟨_,hm⟩
       . cases hm
       . lia
     . (refine af (mj hq (fun x=>h92 x.2)) ?_; rw[aK])
       refine⟨m,hg,?_⟩
       rcases hm with ⟨rfl,hm⟩|⟨rfl,hm⟩
       . have:=abA (W:=W) (w:=w) hq
         exact .inl ⟨rfl,by lia⟩
       . have:=abn (W:=W) (w:=w) (c:=c) (by simp only[Jd,aB,eS,or_false]; lia)
         exact .inr ⟨rfl,by lia⟩
 | cD w=>
   refine au h fun m hg hm=>?_
   (refine af F5 ?_; rw[aK])
   refine⟨m,hg,?_⟩
   refine af (Xc (by simp)) ?_
   have:=aaz W w c
   lia
 | i9 w=>
   refine au h fun m hg hm=>?_
   (refine af xh ?_; rw[aK])
   refine⟨m,hg,.inr ⟨rfl,?_⟩⟩
   split
   . have:=Yp (W:=W) (w:=w) (c:=c) (by simp only[Jd,aB,eS,or_false]; lia)
     lia
   . have:=Yo (W:=W) (w:=w) (c:=c) (by simp only[Jd,aB,eS,or_false]; lia)
     lia
 | kD s=>
   obtain⟨rfl,h⟩:=h
   refine af qm ?_
   split
   . rw[aK]; exact h.up (iX _)
   . rw[aK]; exact⟨rfl,h.up (iX _)⟩
theorem Ui(a:List Nat):JN M W (walk true M W a .out).2 (walk true M W a .out).1 a.length:=by
 have:=sN (I:=fun t R s=>JN M W s R t.length) (fun t R s c h=>by
   refine af aR (af dG ?_)
   exact YA HC c h) a [] [] .out ⟨2,"",by decide,rfl,bC _⟩
 simpa using this
omit HC in
theorem CN.least{b n:Nat}(h:CN M R b n)(hb:b<3):∃t,fU true (S M) (R.map S)=some t/\t.length<=n:=by
 refine au h fun s h1 h2=>?_
 refine au (Cd ((Dv (Oj M R)).mpr ⟨b,hb,h1⟩)) fun t e ht=>?_
 exact⟨t,e,by lia⟩
theorem least_le{a:List Nat}(h0:(scan true M W a .out).2=0):∃t,fU true (S M) ((scan true M W a .out).1.map S)=some t/\t.length<=a.length:=by
 have h:=Ui HC a
 unfold scan at h0 |-
 generalize walk true M W a .out=p at*
 obtain⟨R,s⟩:=p
 have fo:FN M R a.length->∃t,fU true (S M) (R.map S)=some t/\t.length<=a.length:=fun⟨b,y,hb,e,hy⟩=>CN.least ⟨y,e,by lia⟩ hb
 dsimp only at h h0 |-
 cases s with
 |out=>show ∃t,fU true (S M) ((R++[]).map S)=_/\_; rw[aK]; exact fo h
 | word w=>
   refine au h fun m hg hm=>?_
   exact CN.least (DV HC hg hm) (by decide)
 | run r=>
   refine nD h fun m hg hr hm=>?_
   exact CN.least (Hz HC hg hr hm) (by decide)
 |jg q w=>cases h0
 |cD w=>cases h0
 |i9 w=>cases h0
 | kD s=>
   obtain⟨rfl,h⟩:=h
   show ∃t,fU true (S M) ((R++[]).map S)=_/\_; rw[aK]; exact fo h
end
theorem DK{aa:Bool}{s:Sc}:∀ {h:List Nat},10∉h->walk aa M W h (.kD s)=([],.kD s)
 | [],_=>rfl
 | c::r,h=>by
   rw[bX,qm,if_neg (fun e=>h (by refine af e ?_; exact .head _)),DK fun q=>h (.tail _ q)]; rfl
theorem MW{aa:Bool}{s:Sc}{T:List Nat}{b:Nat}(h:JB s b):walk aa M W (gj T) s=if aa=true then((fin s).1,.out)else([],s):=by
 have hn:(10:Nat)∉T.filter (· !=10):=fun q=>by simp at q
 have go:∀s',stp aa M W s 35=(if aa=true then(fin s).1 else [],.kD s')->walk aa M W (gj T) s=(if aa=true then(fin s).1 else [],s'):=fun s' e=>by
   unfold gj
   (rewrite [bX]; refine af e ?_; rewrite [nE]; refine af (DK hn) ?_; rewrite [bX]; refine af qm (af (if_pos rfl) ?_))
   simp[walk]
 cases aa with
 | true=>
   refine go .out ?_
   cases s with
   |out=>rfl
   |word w=>rfl
   |run w=>rfl
   |_=>exact h.elim
 | false=>
   refine go s ?_
   cases s with
   |out=>rfl
   |word w=>rfl
   |run w=>rfl
   |_=>exact h.elim
theorem uA{aa:Bool}{b:Nat}{l:List Nat}(h:jS aa M W b R l):scan aa M W l .out=(R,0):=by
 refine fS h fun R' s h1 jU h3=>?_
 subst jU
 unfold scan
 refine af h1 ?_
 refine Prod.ext rfl ?_
 cases s with
 |out=>rfl
 |word w=>rfl
 |run w=>rfl
 |_=>exact h3.elim
theorem DM{aa:Bool}{b:Nat}{l T:List Nat}(h:jS aa M W b R l):scan aa M W (l++gj T++l) .out=if aa=true then(R++R,0)else scan aa M W (l++l) .out:=by
 have hs:=uA h
 refine fS h fun R' s h1 jU h3=>?_
 subst jU
 have hw:=MW (M:=M) (W:=W) (aa:=aa) (T:=T) h3
 (rewrite [s8,nE]; refine af h1 (af hw ?_))
 cases aa with
 | true=>
   (refine af (if_pos rfl) (af (if_pos rfl) (af hs ?_)); rfl)
 | false=>
   (refine af (if_neg (by decide)) (af (if_neg (by decide)) ?_); rewrite [s8]; refine af h1 ?_)
   dsimp only
   rw[aK]
end
abbrev gM(y k:Nat):Prop:=(y=4/\(k=4\/k=2))\/(y=1/\k=1)
noncomputable def mV(M W:List Nat)(q:List Nat×Nat)(t:List Nat):Option (List Nat×Nat):=if gw false M W t=0 then none else some (q.1++(if gM q.2 (gw false M W t)then [32]else [])++t,gw false M W t)
noncomputable def za(M W:List Nat):List (List Nat)->List Nat×Nat->Option (List Nat×Nat)
 | [],q=>some q
 |t::r,q=>(mV M W q t).bind (za M W r)
noncomputable def uC(M W:List Nat)(R:List (List Nat)):Option (List Nat×Nat):=za M W R ([],0)
section
variable {M W:List Nat}
theorem Cm:∀(a b:List (List Nat)) (q:List Nat×Nat),za M W (a++b) q=(za M W a q).bind (za M W b)
 | [],b,q=>rfl
 | t::r,b,q=>by
   show(mV M W q t).bind (za M W (r++b))=((mV M W q t).bind (za M W r)).bind (za M W b)
   cases mV M W q t with
   |none=>rfl
   |some q'=>exact Cm r b q'
theorem Ck(R:List (List Nat))(t:List Nat):uC M W (R++[t])=(uC M W R).bind fun q=>mV M W q t:=by
 unfold uC
 rw[Cm]
 congr 1
 funext q
 show(mV M W q t).bind some=_
 cases mV M W q t <;> rfl
theorem IU:∀y<5,∀k<5,k≠0->o6 (Ow y) (Ow k)=decide (gM y k):=by decide +kernel
theorem GJ(C:Ch false M W):∀(R:List (List Nat)) (q:List Nat×Nat),q.2<5->leRaw (S M) (R.map S) (S q.1) (Ow q.2)=(za M W R q).map fun q=>S q.1
 | [],q,_=>rfl
 | t ::r,q,hq=>by
   have hk:=Bl (p:=false) (M:=M) (W:=W) t
   have e0:∀k<5,bw (Ow k) ""=decide (k=0):=by decide +kernel
   show cond (bw (kindS false (S M) (S t)) "") none (leRaw (S M) (r.map S) (S q.1++Str.ofString (cond (o6 (Ow q.2) (kindS false (S M) (S t))) " " "")++S t) (kindS false (S M) (S t)))=((mV M W q t).bind (za M W r)).map _
   (rewrite [Mv C.ch]; refine af (e0 _ hk) ?_)
   unfold mV
   by_cases h0:gw false M W t=0
   . exact af (if_pos h0) (af (decide_eq_true h0) rfl)
   . refine af (if_neg h0) (af (decide_eq_false h0) (af (IU _ hq _ hk h0) ?_))
     have eb:Str.ofString (cond (decide (gM q.2 (gw false M W t))) " " "")=S (if gM q.2 (gw false M W t)then [32]else []):=by
       split
       . rename_i h; exact af (decide_eq_true h) (by decide +kernel:aj " "=S [32])
       . rename_i h; exact af (decide_eq_false h) dR
     (refine af eb ?_; rw[eO,eO])
     exact GJ C r (_,_) hk
theorem Bk(C:Ch false M W)(R:List (List Nat)):fU false (S M) (R.map S)=(uC M W R).map fun q=>S q.1:=by
 have:=GJ C R ([],0) (by decide)
 rw[show S ([],0).1="" from dR.symm,show Ow ([],0).2="" from rfl]at this
 exact this
theorem HO(C:Ch false M W){t:List Nat}(h:uf W t):walk false M W t .out=([],.word t):=by
 refine fS h fun c r iU hc hr=>?_
 subst iU
 have key:∀(r w:List Nat),(∀x∈r,x∈W\/x∈qL)->walk false M W r (.word w)=([],.word (w++r)):=by
   intro r
   induction r with
   |nil=>intro w _; rw[aK]; rfl
   | cons d r ih=>
     intro w h
     have e:stp false M W (.word w) d=([],.word (w++[d])):=(h d (.head _)).elim (l7 C) (mU rfl)
     (rewrite [bX]; refine af e (af (ih _ fun x hx=>h x (.tail _ hx)) ?_); rw[bB]); rfl
 (rewrite [bX]; refine af (show stp false M W .out c=cM false M W c from rfl) (af (xH C hc) (af (key r [c] hr) ?_))); rfl
theorem HP(C:Ch false M W){t:List Nat}(h:MarkT t):walk false M W t .out=([t],.out):=by
 refine fS h fun q v iU hq hv=>?_
 subst iU
 have key:∀(v w:List Nat),q∉v->walk false M W (v++[q]) (.jg q w)=([w++(v++[q])],.out):=by
   intro v
   induction v with
   | nil=>
     intro w _
     show walk false M W [q] (.jg q w)=_
     (rewrite [bX]; refine af jf ?_); rfl
   | cons d v ih=>
     intro w h
     have e:stp false M W (.jg q w) d=([],.jg q (w++[d])):=mj (fun e=>h (af e (.head _))) (fun x=>by cases x.1)
     (refine af eY ?_; rewrite [bX]; refine af e (af (ih _ fun x=>h (.tail _ x)) ?_); rw[bB]); rfl
 (rewrite [bX]; refine af (show stp false M W .out q=cM false M W q from rfl) (af (mu C hq) (af (if_neg (by decide)) (af (key v [q] hv) ?_)))); rfl
noncomputable def zk(y:Nat):Nat:=if y=4 then 0 else if y=1 then 1 else 2
theorem Lg(C:Ch false M W){x t:List Nat}{y:Nat}(h:jS false M W (zk y) R x)(e:mV M W (x,y) t=some q):jS false M W (zk q.2) (R++[t]) q.1:=by
 unfold mV at e
 split at e
 . exact nn e
 rename_i h0
 obtain rfl:=sj e
 have hk:=Bl (p:=false) (M:=M) (W:=W) t
 have cut:∀s,JB s (zk y)->(∃c r,t=c::r/\c∉ri/\c≠35/\c∉M)->Cut false M W s ((if y=4 then [32]else [])++t) t:=fun s hs ⟨c,r,ht,h1,h2,h3⟩=>by
   by_cases e4:y=4
   . exact af (if_pos e4) (uY hs t)
   . refine af (if_neg e4) (af ht ?_)
     unfold zk at hs
     rw[if_neg e4]at hs
     cases s with
     |out=>exact wM _
     |word w=>replace hs:_=0:=hs; split at hs <;> cases hs
     |run w=>exact BC h1 h2 h3
     |_=>exact hs.elim
 dsimp only
 by_cases h1:gw false M W t=1
 . refine af h1 ?_
   have:=C8 C h (Cf h1)
   have e1:(if gM y 1 then [32]else []:List Nat)=if zk y=1 then [32]else []:=by
     have:gM y 1↔zk y=1:=by unfold gM zk; split <;> (try split) <;> lia
     by_cases hj:gM y 1
     . (refine af (if_pos hj) (af (if_pos (this.mp hj)) ?_); rfl)
     . (refine af (if_neg hj) (af (if_neg fun q=>hj (this.mpr q)) ?_); rfl)
   (refine af e1 ?_; rw[bB]); exact this
 by_cases h3:gw false M W t=3
 . (refine af h3 (af (if_neg (by unfold gM; lia)) ?_); rw[aK])
   refine au (zR h3) fun c fj hc=>?_
   subst fj
   exact Ac C h hc
 by_cases h4:gw false M W t=4
 . refine af h4 ?_
   have hw:=HL h4
   have e1:(if gM y 4 then [32]else []:List Nat)=if y=4 then [32]else []:=by
     have:gM y 4↔y=4:=by unfold gM; lia
     by_cases hj:y=4
     . (refine af (if_pos hj) (af (if_pos (this.mpr hj)) ?_); rfl)
     . (refine af (if_neg hj) (af (if_neg fun q=>hj (this.mp q)) ?_); rfl)
   (refine af e1 ?_; rw[bB])
   refine pW (fF:=[]) (s₁:=.word t) (y:=t) h (fun s hs=>cut s hs ?_) (HO C hw) rfl
   refine fS hw fun c r e hc _=>?_
   refine lV (xK (C.off c hc)) fun g1 g2 _=>?_
   exact⟨c,r,e,g1,g2,C.W7 c hc⟩
 . have h2:gw false M W t=2:=by lia
   refine af h2 ?_
   have hm:=Iu h2
   have e1:(if gM y 2 then [32]else []:List Nat)=if y=4 then [32]else []:=by
     have:gM y 2↔y=4:=by unfold gM; lia
     by_cases hj:y=4
     . (refine af (if_pos hj) (af (if_pos (this.mpr hj)) ?_); rfl)
     . (refine af (if_neg hj) (af (if_neg fun q=>hj (this.mp q)) ?_); rfl)
   (refine af e1 ?_; rw[bB])
   refine pW (fF:=[t]) (s₁:=.out) (y:=t) h (fun s hs=>cut s hs ?_) (HP C hm) rfl
   refine fS hm fun q v e hq _=>?_
   refine om (rz C hq) fun g1 g2 _ _ g5=>?_
   exact⟨q,_,e,g1,g2,g5⟩
theorem Gk(C:Ch false M W)(R:List (List Nat)):∀q,uC M W R=some q->jS false M W (zk q.2) R q.1/\q.1.length<=Om R/\∀c∈q.1,c∈R.flatten\/c=32:=by
 have key:∀r v:List (List Nat),(∀q,uC M W v=some q->jS false M W (zk q.2) v q.1/\q.1.length<=Om v/\∀c∈q.1,c∈v.flatten\/c=32)->∀q,uC M W (v++r)=some q->jS false M W (zk q.2) (v++r) q.1/\q.1.length<=Om (v++r)/\∀c∈q.1,c∈(v++r).flatten\/c=32:=by
   intro r
   induction r with
   |nil=>intro v h; rwa[aK]
   | cons t r ih=>
     intro v h
     have := ih (v++[t]) (fun q hq=>by
       rw[Ck]at hq
       refine au (Option.bind_eq_some_iff.mp hq) fun fZ h1 h2=>?_
       obtain⟨x,y⟩:=fZ
       refine lV (h _ h1) fun g1 g2 g3=>?_
       refine⟨Lg C g1 h2,?_,?_⟩
       all_goals
         unfold mV at h2
         split at h2
         . exact nn h2
         obtain rfl:=sj h2
       . dsimp only at g2 |-
         (rewrite [FY]; refine af aR (af aR ?_))
         split <;> simp only[dG,iF] <;> lia
       . intro c hc
         refine af qd (af List.flatten_singleton ?_)
         rcases bu.mp hc with hc|hc
         . rcases bu.mp hc with hc|hc
           . exact(g3 c hc).imp_left (aH _)
           . split at hc
             . exact .inr (aY.mp hc)
             . cases hc
         . exact .inl (aJ _ hc))
     rwa[bB]at this
 refine key R [] fun q hq=>?_
 obtain rfl:=sj hq
 exact⟨⟨[],.out,rfl,rfl,rfl⟩,bC _,fun c h=>nomatch h⟩
noncomputable def exN:Sc->Nat->Nat
 | .out,y=>if y=4\/y=1 then 1 else 0
 | .word w,y=>(if y=4 then 1 else 0)+w.length
 | .run r,y=>(if y=1 then 1 else 0)+r.length
 | .jg _ w,y=>(if y=4 then 1 else 0)+w.length
 | .cD _,_=>0
 | .i9 _,_=>0
 | .kD s,y=>exN s y
def JR(M W:List Nat)(s:Sc)(R:List (List Nat))(n:Nat):Prop:=∃x y,uC M W R=some (x,y)/\x.length+exN s y<=n
theorem yJ{x t:List Nat}{y k:Nat}(h:uC M W R=some (x,y))(hk:gw false M W t=k)(h0:k≠0):uC M W (R++[t])=some (x++(if gM y k then [32]else [])++t,k):=by
 (rewrite [Ck]; refine af h ?_)
 show mV M W (x,y) t=_
 unfold mV
 (refine af hk (af (if_neg h0) ?_); rfl)
theorem t9{x t:List Nat}{y k b:Nat}(h:gM y k↔y=b):(x++(if gM y k then [32]else [])++t).length=x.length+((if y=b then 1 else 0)+t.length):=by
 refine af aR (af aR ?_)
 by_cases hj:y=b
 . refine af (if_pos (h.mpr hj)) (af (if_pos hj) ?_); simp only[dG]; lia
 . refine af (if_neg fun q=>hj (h.mp q)) (af (if_neg hj) ?_); simp only[iF]; lia
section
variable (HC:Ch false M W)
include HC
theorem Lu{x:List Nat}{y n c:Nat}(h:uC M W R=some (x,y))(hn:x.length<=n)(hy:(y=4->c∉W/\c∉qL)/\(y=1->c∉M))(h1:c∉ri)(h2:c≠35):JR M W (cM false M W c).2 (R++(cM false M W c).1) (n+1):=by
 rcases cls false M W c with q|q|⟨q,_⟩|q|q|q|q
 . exact absurd q h1
 . exact absurd q h2
 . exact ff q
 . (refine af (xH HC q) ?_; rw[aK])
   refine⟨x,y,h,?_⟩
   show x.length+((if y=4 then 1 else 0)+1)<=_
   refine af (if_neg fun e=>(hy.1 e).1 q) ?_; lia
 . (refine af (pO HC q) ?_; rw[aK])
   refine⟨x,y,h,?_⟩
   show x.length+((if y=1 then 1 else 0)+1)<=_
   refine af (if_neg fun e=>hy.2 e q) ?_; lia
 . (refine af (mu HC q) ?_; rewrite [aK]; refine af (if_neg (by decide)) ?_)
   refine⟨x,y,h,?_⟩
   show x.length+((if y=4 then 1 else 0)+1)<=_
   refine af (if_neg fun e=>(hy.1 e).2 q) ?_; lia
 . refine af (gT q) ?_
   refine⟨_,_,yJ h (uM q) (by decide),?_⟩
   (refine af (if_neg (by unfold gM; lia)) ?_; rewrite [aK]; refine af aR ?_)
   show x.length+1+0<=_
   lia
omit HC in
theorem JR.up{s:Sc}{n m:Nat}(h:JR M W s R n)(hm:n<=m):JR M W s R m:=by
 refine gB h fun x y h1 h2=>?_
 exact⟨x,y,h1,by lia⟩
theorem TP{s:Sc}{n:Nat}(hg:Gd false M W s)(h:JR M W s R n):(fin s).2=0->∃x y,uC M W (R++(fin s).1)=some (x,y)/\x.length<=n:=by
 intro h0
 induction s with
 | out=>
   refine gB h fun x y h1 h2=>?_
   exact⟨x,y,(congrArg _ (aK R)).trans h1,by lia⟩
 | word w=>
   refine gB h fun x y h1 h2=>?_
   have hw:uf W w:=hg.resolve_left (by decide)
   refine⟨_,_,yJ h1 (z8 HC hw) (by decide),?_⟩
   refine af (t9 (b:=4) (by unfold gM; lia)) ?_
   exact h2
 | run w=>
   refine gB h fun x y h1 h2=>?_
   refine⟨_,_,yJ h1 (xY hg) (by decide),?_⟩
   refine af (t9 (b:=1) (by unfold gM; lia)) ?_
   exact h2
 |jg q w=>cases h0
 |cD w=>cases h0
 |i9 w=>cases h0
 |kD s ih=>exact ih hg.2.2 h h0
theorem Yz{s:Sc}{n:Nat}(c:Nat)(hg:Gd false M W s)(h:JR M W s R n):JR M W (stp false M W s c).2 (R++(stp false M W s c).1) (n+1):=by
 cases s with
 | out=>
   refine gB h fun x y h1 h2=>?_
   have h2:x.length+(if y=4\/y=1 then 1 else 0)<=n:=h2
   show JR M W (cM false M W c).2 (R++(cM false M W c).1) (n+1)
   rcases cls false M W c with q|q|⟨q,_⟩|q|q|q|q
   . (refine af (Gp q) ?_; rw[aK]); exact⟨x,y,h1,n6 h2⟩
   . (refine af q (af Gq ?_); rw[aK]); exact⟨x,y,h1,n6 h2⟩
   . exact ff q
   . (refine af (xH HC q) ?_; rw[aK])
     refine⟨x,y,h1,?_⟩
     show x.length+((if y=4 then 1 else 0)+1)<=_
     split at h2 <;> split <;> lia
   . (refine af (pO HC q) ?_; rw[aK])
     refine⟨x,y,h1,?_⟩
     show x.length+((if y=1 then 1 else 0)+1)<=_
     split at h2 <;> split <;> lia
   . (refine af (mu HC q) ?_; rewrite [aK]; refine af (if_neg (by decide)) ?_)
     refine⟨x,y,h1,?_⟩
     show x.length+((if y=4 then 1 else 0)+1)<=_
     split at h2 <;> split <;> lia
   . refine af (gT q) ?_
     refine⟨_,_,yJ h1 (uM q) (by decide),?_⟩
     (refine af (if_neg (by unfold gM; lia)) ?_; rewrite [aK]; refine af aR ?_)
     show x.length+1+0<=_
     lia
 | word w=>
   have hw:uf W w:=hg.resolve_left (by decide)
   refine gB (TP HC (s:=.word w) hg h rfl) fun x' y' he hl=>?_
   refine gB h fun x y h1 h2=>?_
   have h2:x.length+((if y=4 then 1 else 0)+w.length)<=n:=h2
   have ea:=yJ h1 (z8 HC hw) (by decide)
   have el:=t9 (x:=x) (t:=w) (y:=y) (k:=4) (b:=4) (by unfold gM; lia)
   rcases cls false M W c with q|q|⟨q,_⟩|q|q|q|q
   . refine af (vm q) ?_
     refine⟨_,_,ea,?_⟩
     refine af el ?_
     show _+1<=_
     lia
   . (refine af q (af ((F6 rfl).1) ?_); rw[aK]); exact⟨x,y,h1,n6 h2⟩
   . exact ff q
   . (refine af (l7 HC q) ?_; rw[aK])
     refine⟨x,y,h1,?_⟩
     show x.length+(_+(w++[c]).length)<=_
     refine af aR (af dG ?_); lia
   . refine af (rY HC q) ?_
     have:=Lu HC (c:=c) ea (af el h2) ⟨fun _=>⟨fun q'=>HC.W7 c q' q,fun q'=>(rz HC q').2.2.2.2 q⟩,(fun e=>by cases e)⟩ (xK (HC.LU c q)).1 (xK (HC.LU c q)).2.1
     rwa[pO HC q,aK]at this
   . (refine af (mU rfl q) ?_; rw[aK])
     refine⟨x,y,h1,?_⟩
     show x.length+(_+(w++[c]).length)<=_
     refine af aR (af dG ?_); lia
   . refine af (ku q) ?_
     have:=Lu HC (c:=c) ea (af el h2) ⟨fun _=>⟨q.w,q.q⟩,(fun e=>by cases e)⟩ q.ws q.Xz
     rw[gT q,bB]at this
     exact this
 | run w=>
   refine gB h fun x y h1 h2=>?_
   have h2:x.length+((if y=1 then 1 else 0)+w.length)<=n:=h2
   have ea:=yJ h1 (xY hg) (by decide)
   have el:=t9 (x:=x) (t:=w) (y:=y) (k:=1) (b:=1) (by unfold gM; lia)
   by_cases q1:c∈ri
   . refine af (xg q1) ?_
     refine⟨_,_,ea,?_⟩
     refine af el ?_
     show _+1<=_
     lia
   by_cases q2:c=35
   . (refine af q2 (af ((F6 rfl).2) ?_); rw[aK]); exact⟨x,y,h1,n6 h2⟩
   by_cases q3:c∈M
   . (refine af (ux HC q3) ?_; rw[aK])
     refine⟨x,y,h1,?_⟩
     show x.length+(_+(w++[c]).length)<=_
     refine af aR (af dG ?_); lia
   . refine af (gD q1 q2 q3) ?_
     have:=Lu HC (c:=c) ea (af el h2) ⟨(fun e=>by cases e),fun _=>q3⟩ q1 q2
     rw[bB]at this
     exact this
 | jg q w=>
   refine bx hg fun hq hg=>?_
   refine au (hg.resolve_left (by decide)) fun v fj hv=>?_
   subst fj
   refine gB h fun x y h1 h2=>?_
   have h2:x.length+((if y=4 then 1 else 0)+(q::v).length)<=n:=h2
   by_cases e:c=q
   . subst e
     refine af jf (af (if_neg (by decide)) ?_)
     refine⟨_,_,yJ h1 (IS HC ⟨c,v,rfl,hq,hv⟩) (by decide),?_⟩
     refine af (t9 (b:=4) (by unfold gM; lia)) ?_
     show _+0<=_
     refine af aR (af dG ?_)
     lia
   . rw[mj e (fun z=>by cases z.1),aK]
     refine⟨x,y,h1,?_⟩
     show x.length+(_+((q::v)++[c]).length)<=_
     refine af aR (af dG ?_); lia
 |cD w=>exact ff hg
 |i9 w=>exact ff hg
 | kD s=>
   refine af qm ?_
   split
   . rw[aK]; exact JR.up h (iX _)
   . rw[aK]; exact JR.up h (iX _)
theorem Uh(a:List Nat):JR M W (walk false M W a .out).2 (walk false M W a .out).1 a.length:=by
 have:=sN (I:=fun t R s=>Gd false M W s/\JR M W s R t.length) (fun t R s c h=>by
   refine af aR (af dG ?_)
   exact⟨(Ek HC s c h.1).2,Yz HC c h.1 h.2⟩) a [] [] .out ⟨trivial,[],0,rfl,bC _⟩
 simpa using this.2
theorem UU{a:List Nat}(h0:(scan false M W a .out).2=0):∃x y,uC M W (scan false M W a .out).1=some (x,y)/\x.length<=a.length:=
 TP HC (AF HC a .out trivial).2 (Uh HC a) h0
end
end
theorem acs{α:Type}(f:Nat->α){i:Nat}(hi:i<4)(d:α): [f 0,f 1,f 2,f 3].getD i d=f i:=by
 match i,hi with
 |0,_=>rfl
 |1,_=>rfl
 |2,_=>rfl
 |3,_=>rfl
theorem VF:cA 13= .If (pQ 13) (aC (cA 13)) [] (qZ (cA 13)):=by kernel_rfl
theorem VC:cA 17= .If (pQ 17) (aC (cA 17)) [] (qZ (cA 17)):=by kernel_rfl
theorem Qv:cA 19= .If (pQ 19) (aC (cA 19)) [] (qZ (cA 19)):=by kernel_rfl
theorem Vu:cA 22= .If (pQ 22) (aC (cA 22)) [] (qZ (cA 22)):=by kernel_rfl
theorem Qu:cA 25= .If (pQ 25) (aC (cA 25)) [] (qZ (cA 25)):=by kernel_rfl
theorem VE:cA 15= .Assign [.Tuple (um (gO (cA 15))) (tK (gO (cA 15))) (bP (gO (cA 15)))] LY (qZ (cA 15)):=by kernel_rfl
theorem VD(L fa:Addr)(cd:Value):sU (um (gO (cA 15))) (tK (gO (cA 15))) (bP (gO (cA 15))) LY (cY L fa cd)=some (some [aj "row",aj "whole"]):=by kernel_rfl
theorem Qt:QB.drop 12=[cA 12,cA 13,cA 14,cA 15,cA 16,cA 17,cA 18,cA 19,cA 20,cA 21,cA 22,cA 23,cA 24,cA 25,cA 26]:=by kernel_rfl
noncomputable abbrev cc(ns:List Int):Loc:=cT (bf (bQ ns)) (gZ ns) (ji (jb ns)) (aP ns) (iA ns)
noncomputable abbrev UX(ns:List Int):Loc:=[("kinds",bf (fJ (aP ns) (bh ns) (bQ ns))),("told",.list (je ns)),("tails",uv),("marks",bf (bh ns))]
noncomputable abbrev YX(ns:List Int)(i:Nat):Loc:=[("place",.int (i:Int)),("due",.list (pZ (aP ns))),("kinds",bf (fJ (aP ns) (bh ns) (bQ ns))),("told",.list (je ns)),("tails",uv),("marks",bf (bh ns))]
noncomputable abbrev kJ(row:List (List Nat)):V:=.list (row.map bf)
noncomputable abbrev cO(ns:List Int):Loc:=("lost",.str (o5 (aP ns)))::cc ns
theorem WZ(b:Bool)(o:O)(ρ:Loc):bE b (gf o ((aj "due",.list W0)::ρ) .next) (gf o ((aj "due",.list W2)::ρ) .next)=gf o ((aj "due",.list (pZ b))::ρ) .next:=by cases b <;> rfl
theorem QF(b:Bool)(c ρ:Loc):bE b (gf (co ((aj "lost",.str " \t\r\n'\"\\")::c)) ρ .next) (gf (co ((aj "lost",.str " \t\r\n")::c)) ρ .next)=gf (co ((aj "lost",.str (o5 b))::c)) ρ .next:=by cases b <;> rfl
section
variable {P:aD}{L fa:Addr}{cd:Value}{s₀:ak}{h₀:aE}{rest:Led}{l:Addr}{cs:List (Str×Addr)}
variable (R:cH (KS P) p az aL mg mb A₀ base av A (cY L fa cd) h₀ L (d+8))(hb:h₀=base)(hu:A.units+8*(d+8)+64<cLine)(gh:n8 L fa cd cs){ns:List Int}{i:Nat}{row:List (List Nat)}{lt:List Nat}(K:yO (aP ns) (bh ns) (bQ ns) i row lt)(uP:ns.length<=60)
theorem uD{o:Unit×Loc}(ht:gi ai w A (jk s₀ h₀ L rest l cs) o (cY L fa cd) ρ t false):cK ai w A (jk s₀ h₀ L rest l cs) (cY L fa cd) X o ρ (.If t b [] q) (o,ρ,.next):=jY (c:=false) ht ja
include R hb hu gh
theorem Hf{o:Unit×Loc}{t:Bool}(h:XT o ρ e=some t):gi ai w A (jk s₀ h₀ L rest l cs) o (cY L fa cd) ρ e t:=
 ou ((iS (s₀:=s₀) (rest:=rest) (l:=l) (X:=fun _ _ _ _=>False) R hb hu gh).fh o).wk h
include K
theorem g12:cK ai w A (jk s₀ h₀ L rest l cs) (cY L fa cd) X (co (cc ns)) (UX ns) (cA 12) (co (cc ns),("due",.list (pZ (aP ns)))::UX ns,.next):=by
 have IK:=iS (ai:=ai) (w:=w) (s₀:=s₀) (rest:=rest) (l:=l) (X:=X) R hb hu gh
 exact stK IK (ZH.trans (WZ _ _ _))
theorem g13:cK ai w A (jk s₀ h₀ L rest l cs) (cY L fa cd) X (co (cc ns)) (("due",.list (pZ (aP ns)))::UX ns) (cA 13) (co (cc ns),("due",.list (pZ (aP ns)))::UX ns,.next):=by
 exact af VF (uD (Hf R hb hu gh ((ZG _ _).trans (v13 K rfl))))
theorem g14:cK ai w A (jk s₀ h₀ L rest l cs) (cY L fa cd) X (co (cc ns)) (("due",.list (pZ (aP ns)))::UX ns) (cA 14) (co (cc ns),YX ns i,.next):=by
 have IK:=iS (ai:=ai) (w:=w) (s₀:=s₀) (rest:=rest) (l:=l) (X:=X) R hb hu gh
 refine stK IK ((ZF _ _).trans ?_)
 have:=K.find
 show gf _ ((_,.int (Txt.find _ "L"))::_) _=_
 (refine af this ?_; rfl)
include uP
theorem g15:cK ai w A (jk s₀ h₀ L rest l cs) (cY L fa cd) X (co (cc ns)) (YX ns i) (cA 15) (co (cc ns),("row",kJ row)::("whole",bf (gV ns i))::YX ns i,.next):=by
 have IK:=iS (ai:=ai) (w:=w) (s₀:=s₀) (rest:=rest) (l:=l) (X:=X) R hb hu gh
 have ht:=text_len ns
 have h2:=ow i
 have hw:=eO (bQ ns) (dM.getD i [])
 have hrd:=K.rd
 have hi:=K.hi
 have E6:(([lW ns 0,lW ns 1,lW ns 2,lW ns 3]:List V).getD i .none)=kJ row:=by
   have:lW ns i=kJ row:=by unfold lW; (refine af hrd ?_; rfl)
   exact(acs (lW ns) hi _).trans this
 have he:=ZE (g:=gZ ns) (bl:=ji (jb ns)) (nu:=iA ns) (p:=aP ns) i hi (lW ns 0) (vg ns 0) (lW ns 1) (vg ns 1) (lW ns 2) (vg ns 2) (lW ns 3) (vg ns 3) (.list (pZ (aP ns))) (bf (fJ (aP ns) (bh ns) (bQ ns))) (bf (bh ns)) (S (bQ ns))
 rw[Uu i hi,ck (by lia),ck (by lia),E6,hw]at he
 exact af VE (uy (q:=(co (cc ns),("row",kJ row)::("whole",bf (gV ns i))::YX ns i)) IK (xs:=["row","whole"]) (ds:=[kJ row,bf (gV ns i)]) (by kernel_rfl) (VD L fa cd) (iB (IK.fh _).wk he) rfl (by kernel_rfl) (by kernel_rfl))
omit uP
theorem PJ:∀t∈row.map S,jt t=true:=fun t ht=>by
 refine au (bZ.mp ht) fun t' h iU=>?_
 subst iU
 exact Kp (K.tok t' h).1 (K.tok t' h).2
theorem g16:cK ai w A (jk s₀ h₀ L rest l cs) (cY L fa cd) X (co (cc ns)) (("row",kJ row)::("marks",bf (bh ns))::ρ) (cA 16) (co (cc ns),("least",bf lt)::("row",kJ row)::("marks",bf (bh ns))::ρ,.next):=by
 have IK:=iS (ai:=ai) (w:=w) (s₀:=s₀) (rest:=rest) (l:=l) (X:=X) R hb hu gh
 refine stK IK ((ZD _ _).trans ?_)
 have hl:=zY (aa:=aP ns) (M:=bh ns) (PJ R hb hu gh K) (by rw[bM]; have:=K.num; lia)
 rw[fL]at hl
 have hl:uL [kJ row,.bool (aP ns),bf (bh ns)]=some (true,bf lt):=by
   refine bU hl ?_
   exact af K.least rfl
 exact af hl rfl
include uP
theorem g17:cK ai w A (jk s₀ h₀ L rest l cs) (cY L fa cd) X (co (cc ns)) (Xr (bf lt) (row.map bf) (S (gV ns i)) i (.list (je ns)) (bf (bh ns))) (cA 17) (co (cc ns),Xr (bf lt) (row.map bf) (S (gV ns i)) i (.list (je ns)) (bf (bh ns)),.next):=by
 refine af VC ?_
 refine uD (Hf R hb hu gh ?_)
 have ht:=text_len ns
 have h2:=ow i
 have hlen:=K.len
 rw[aR]at hlen
 rw[Ur]
 refine(ZC (S lt) (S (gV ns i)) (row.map bf) ((scan (aP ns) (bh ns) (wordsOf (aP ns) (bh ns)) (bQ ns++[]) .out).1.map bf) i _ _ _ _ _ _ _ _).trans ?_
 have hn:=K.num
 have e1:strOk (S lt)=true:=ck (by lia)
 have e2:strOk (S (gV ns i))=true:=ck (by unfold gV; refine af aR ?_; lia)
 have e3:decide (((S lt).length:Int)>((S (gV ns i)).length:Nat))=false:=by
   rw[eu,eu]
   unfold gV
   exact af aR (decide_eq_false (by lia))
 have e4:iG (row.map bf).length=true:=c9 (by rw[bM]; lia)
 refine af e1 (af e2 (af e3 (af e4 ?_)))
 by_cases hi0:0<i
 . have e5:decide ((i:Int)>0)=true:=decide_eq_true (by lia)
   have hc:=K.cut hi0
   (rewrite [aK]; refine af hc ?_; rewrite [Ej]; refine af List.map_dropLast.symm (af e5 ?_))
   have hq:=xM (x:=.list (row.dropLast.map bf)) ⟨_,rfl⟩ (La 8 fun t h=>(K.tok t (List.dropLast_subset _ h)).2)
   refine bU (b:=opt (iT .NotEq (.list (row.dropLast.map bf)) (.list (row.dropLast.map bf))) (fun q=>bE q.1 (dj bE none q.2 some) none) none) rfl ?_
   exact af hq rfl
 . have e5:decide ((i:Int)>0)=false:=decide_eq_false (by lia)
   exact af e5 rfl
end
noncomputable abbrev XI(ns:List Int):V:=bf (gj (bQ ns))
noncomputable abbrev FZ(ns:List Int)(lt:List Nat)(row:List (List Nat)):V:=cond (aP ns) (.tuple [.list (row.map bf++row.map bf),.str ""]) (lI (aP ns) (bh ns) (lt++lt))
theorem Wn(T:List Nat):(gj T).length<=T.length+2:=by
 unfold gj
 have:=kR (fun x=>x !=10) T
 simp only[dg,aR,iF]
 lia
section
variable {P:aD}{L fa:Addr}{cd:Value}{s₀:ak}{h₀:aE}{rest:Led}{l:Addr}{cs:List (Str×Addr)}
variable (R:cH (KS P) p az aL mg mb A₀ base av A (cY L fa cd) h₀ L (d+8))(hb:h₀=base)(hu:A.units+8*(d+8)+64<cLine)(gh:n8 L fa cd cs){ns:List Int}{i:Nat}{row:List (List Nat)}{lt:List Nat}(uP:ns.length<=60)(K:yO (aP ns) (bh ns) (bQ ns) i row lt)
include R hb hu gh
theorem g18:cK ai w A (jk s₀ h₀ L rest l cs) (cY L fa cd) X (co (cc ns)) ρ (cA 18) (co (cO ns),ρ,.next):=by
 have IK:=iS (ai:=ai) (w:=w) (s₀:=s₀) (rest:=rest) (l:=l) (X:=X) R hb hu gh
 exact stK IK (ZA.trans (QF _ _ _))
include K uP
theorem g19(ewh:ρ.lookup (aj "whole")=some (bf (gV ns i)))(erw:ρ.lookup (aj "row")=some (kJ row)):cK ai w A (jk s₀ h₀ L rest l cs) (cY L fa cd) X (co (cO ns)) ρ (cA 19) (co (cO ns),ρ,.next):=by
 refine af Qv ?_
 have ht:=text_len ns
 have h2:=ow i
 have hn:=K.num
 have hf:=K.flat
 refine uD (O4 R hb hu gh (by unfold gV; refine af aR ?_; lia) (by lia) (fun t h=>cg (K.tok t h).1 (by decide)) (by lia) (fun c hc=>?_) ewh erw K.kept)
 rcases bu.mp hc with hc|hc
 . exact K.cpT c hc
 . have:∀j,∀c∈(dM.getD j []),c<0x110000:=fun j=>by
     match j with
     |0=>decide
     |1=>decide
     |2=>decide
     |3=>decide
     |n+4=>exact fun c h=>nm h
   exact this i c hc
theorem g20:cK ai w A (jk s₀ h₀ L rest l cs) (cY L fa cd) X (co (cO ns)) ρ (cA 20) (co (cO ns),("hidden",XI ns)::ρ,.next):=by
 have IK:=iS (ai:=ai) (w:=w) (s₀:=s₀) (rest:=rest) (l:=l) (X:=X) R hb hu gh
 have ht:=text_len ns
 exact af Vx (oB IK (show GA.contains "hidden"=true by decide +kernel) (by rfl) (Jc R gh (by lia) (by rfl)))
theorem g21:cK ai w A (jk s₀ h₀ L rest l cs) (cY L fa cd) X (co (cO ns)) (("hidden",XI ns)::("least",bf lt)::("row",kJ row)::ρ) (cA 21) (co (cO ns),("twice",FZ ns lt row)::("hidden",XI ns)::("least",bf lt)::("row",kJ row)::ρ,.next):=by
 have IK:=iS (ai:=ai) (w:=w) (s₀:=s₀) (rest:=rest) (l:=l) (X:=X) R hb hu gh
 have ht:=text_len ns
 have h2:=ow i
 have hlen:=K.len
 rw[aR]at hlen
 have hn:=K.num
 refine stK IK (n:=40) ?_
 have hr:=pM (ns:=ns) (T:=lt++lt) (by refine af aR ?_; lia)
 unfold cO cc FZ
 cases hp:aP ns with
 | true=>
   refine(Vv _ _ (.none) (.none) (row.map bf)).trans ?_
   rw[show iG ((row.map bf).length+(row.map bf).length)=true from c9 (by rw[bM]; lia)]
   rfl
 | false=>
   refine(Vw _ _ (S lt)).trans ?_
   rw[hp]at hr
   (rewrite [eO]; refine af (ck (by lia)) ?_)
   refine bU (b:=opt (ru [bf (lt++lt),.bool false,gZ ns]) (fun q=>bE q.1 (gf (co (cL (.str (o5 false)) (bf (bQ ns)) (gZ ns) (ji (jb ns)) false (iA ns))) (("twice",q.2)::("hidden",XI ns)::("least",.str (S lt))::("row",kJ row)::ρ) .next) none) none) rfl ?_
   exact af hr rfl
theorem Yl:lI (aP ns) (bh ns) (lt++gj (bQ ns)++lt)=FZ ns lt row:=by
 have hc:=K.kD
 unfold FZ lI
 refine af hc ?_
 cases aP ns with
 | true=>
   refine af (if_pos rfl) ?_
   show Dat.tuple [.list ((row++row).map bf),.str (qX 0)]=_
   exact af jL rfl
 |false=>exact af (if_neg (by decide)) rfl
theorem g22:cK ai w A (jk s₀ h₀ L rest l cs) (cY L fa cd) X (co (cO ns)) (("twice",FZ ns lt row)::("hidden",XI ns)::("least",bf lt)::("row",kJ row)::ρ) (cA 22) (co (cO ns),("twice",FZ ns lt row)::("hidden",XI ns)::("least",bf lt)::("row",kJ row)::ρ,.next):=by
 refine af Vu ?_
 refine uD (Hf R hb hu gh ?_)
 have ht:=text_len ns
 have h2:=ow i
 have hlen:=K.len
 rw[aR]at hlen
 have hh:=Wn (bQ ns)
 have hr:=pM (ns:=ns) (T:=lt++gj (bQ ns)++lt) (by refine af aR (af aR ?_); lia)
 have e:=Yl R hb hu gh uP K
 have hk:=AZ K.cpc
 rw[e]at hr hk
 have hs:∃l,pK (FZ ns lt row)=some l:=by exact af e.symm ⟨_,rfl⟩
 have hq:=xM hs hk
 refine(Zy (FZ ns lt row) (kJ row) (S (gj (bQ ns))) (S lt)).trans ?_
 rw[eO,eO,ck (by lia),ck (by lia),ck (by refine af aR ?_; lia)]
 refine bU (b:=opt (ru [bf (lt++gj (bQ ns)++lt),.bool (aP ns),gZ ns]) (fun q=>bE q.1 (opt (iT .NotEq q.2 (FZ ns lt row)) (fun r=>bE r.1 (dj bE none r.2 some) none) (opt (lP .NotEq q.2 (FZ ns lt row)) (fun v=>dj bE none v some) none)) none) none) rfl ?_
 refine af hr ?_
 refine bU (b:=opt (iT .NotEq (FZ ns lt row) (FZ ns lt row)) (fun r=>bE r.1 (dj bE none r.2 some) none) (opt (lP .NotEq (FZ ns lt row) (FZ ns lt row)) (fun v=>dj bE none v some) none)) rfl ?_
 exact af hq rfl
theorem g23:cK ai w A (jk s₀ h₀ L rest l cs) (cY L fa cd) X (co (cO ns)) ρ (cA 23) (co (cO ns),("other",.list ((dZ (bQ ns)).map .str))::ρ,.next):=by
 have IK:=iS (ai:=ai) (w:=w) (s₀:=s₀) (rest:=rest) (l:=l) (X:=X) R hb hu gh
 have ht:=text_len ns
 exact af Vt (oB IK (show GA.contains "other"=true by decide +kernel) (by rfl) (Nn R gh (by lia) (by rfl)))
theorem g24:cK ai w A (jk s₀ h₀ L rest l cs) (cY L fa cd) X (co (cO ns)) (("other",.list ((dZ (bQ ns)).map .str))::("marks",bf (bh ns))::ρ) (cA 24) (co (cO ns),("brief",eH (fU (aP ns) (S (bh ns)) (dZ (bQ ns))))::("other",.list ((dZ (bQ ns)).map .str))::("marks",bf (bh ns))::ρ,.next):=by
 have IK:=iS (ai:=ai) (w:=w) (s₀:=s₀) (rest:=rest) (l:=l) (X:=X) R hb hu gh
 refine stK IK ((Zx _ _).trans ?_)
 refine af (zY (aa:=aP ns) (M:=bh ns) K.Y4 (by have:=K.abz; lia)) ?_; rfl
theorem g25:cK ai w A (jk s₀ h₀ L rest l cs) (cY L fa cd) X (co (cO ns)) (("brief",eH (fU (aP ns) (S (bh ns)) (dZ (bQ ns))))::("other",.list ((dZ (bQ ns)).map .str))::ρ) (cA 25) (co (cO ns),("brief",eH (fU (aP ns) (S (bh ns)) (dZ (bQ ns))))::("other",.list ((dZ (bQ ns)).map .str))::ρ,.next):=by
 have IK:=iS (ai:=ai) (w:=w) (s₀:=s₀) (rest:=rest) (l:=l) (X:=fun _ _ _ _=>False) R hb hu gh
 refine af Qu (af Vq ?_)
 have ho:=K.oth
 have ha:=Hf (ai:=ai) (w:=w) (s₀:=s₀) (rest:=rest) (l:=l) R hb hu gh (Vs (ρ:=ρ) (lo:=.str (o5 (aP ns))) (tx:=bf (bQ ns)) (g:=gZ ns) (bl:=ji (jb ns)) (nu:=iA ns) (p:=aP ns) (eH (fU (aP ns) (S (bh ns)) (dZ (bQ ns)))) (.list ((dZ (bQ ns)).map .str)))
 cases Oz:fU (aP ns) (S (bh ns)) (dZ (bQ ns))with
 | none=>
   rw[Oz]at ha
   exact uD (kW ha rfl)
 | some b=>
   rw[Oz]at ha
   refine bx (ho b Oz) fun h1 h2=>?_
   have hbl:b.cps.toList.length<=300:=by rw[dD]at h2; simpa using h2
   have hr:=pM (ns:=ns) hbl
   have e:lI (aP ns) (bh ns) b.cps.toList= .tuple [.list ((dZ (bQ ns)).map .str),.str ""]:=by
     unfold lI
     refine af h1 ?_
     show Dat.tuple [.list (List.map _ (List.map _ _)),.str (qX 0)]=_
     refine af fL ?_
     have:(bf∘fun(x:Str)=>x.cps.toList)= .str:=funext fun x=>congrArg eK (sG x).symm
     exact af this rfl
   have hk:kqdOk 9 (lI (aP ns) (bh ns) b.cps.toList)=true:=by
     refine AZ fun t ht=>?_
     rw[h1]at ht
     refine au (bZ.mp ht) fun x hx iU=>?_
     subst iU
     have:=K.Y4 x hx
     unfold jt at this
     rw[aM]at this
     have h3:jN x=true:=this.2
     unfold jN at h3
     intro c hc
     rw[Array.all_eq_true']at h3
     simpa using h3 c (by simpa using hc)
   rw[e]at hr hk
   have hq:=xM ⟨_,rfl⟩ hk
   have el:=iB (IK.fh (co (cO ns))).wk (v:=.tuple [.list ((dZ (bQ ns)).map .str),.str ""]) ((Vp (ρ:=ρ) (lo:=.str (o5 (aP ns))) (tx:=bf (bQ ns)) (g:=gZ ns) (bl:=ji (jb ns)) (nu:=iA ns) (p:=aP ns) b (.list ((dZ (bQ ns)).map .str))).trans (af (sG b) (af hr rfl)))
   have er:=iB (IK.fh (co (cO ns))).wk (Vo (ρ:=ρ) (lo:=.str (o5 (aP ns))) (tx:=bf (bQ ns)) (g:=gZ ns) (bl:=ji (jb ns)) (nu:=iA ns) (p:=aP ns) (.str b) (.list ((dZ (bQ ns)).map .str)))
   exact uD (kW ha (rX (AM (v:=.bool false) el er Vr (by lia) hq rfl)))
theorem g26:cK ai w A (jk s₀ h₀ L rest l cs) (cY L fa cd) X (co (cO ns)) (("least",bf lt)::("row",kJ row)::ρ) (cA 26) (co (cO ns),("least",bf lt)::("row",kJ row)::ρ,.ret (.bool true)):=by
 have IK:=iS (ai:=ai) (w:=w) (s₀:=s₀) (rest:=rest) (l:=l) (X:=fun _ _ _ _=>False) R hb hu gh
 refine af Vm ?_
 have ht:=text_len ns
 have h2:=ow i
 have hlen:=K.len
 rw[aR]at hlen
 have hr:=pM (ns:=ns) (T:=lt) (by lia)
 have e:lI (aP ns) (bh ns) lt= .tuple [kJ row,.str ""]:=by unfold lI; exact af K.back rfl
 have hk:kqdOk 9 (lI (aP ns) (bh ns) lt)=true:=AZ fun t h=>by rw[K.back]at h; exact(K.tok t h).2
 rw[e]at hr hk
 have hq:=R0 ⟨_,rfl⟩ hk
 have el:=iB (IK.fh (co (cO ns))).wk (v:=.tuple [kJ row,.str ""]) ((Vl (ρ:=ρ) (lo:=.str (o5 (aP ns))) (tx:=bf (bQ ns)) (g:=gZ ns) (bl:=ji (jb ns)) (nu:=iA ns) (p:=aP ns) (S lt) (kJ row)).trans (af hr rfl))
 have er:=iB (IK.fh (co (cO ns))).wk (Vk (ρ:=ρ) (lo:=.str (o5 (aP ns))) (tx:=bf (bQ ns)) (g:=gZ ns) (bl:=ji (jb ns)) (nu:=iA ns) (p:=aP ns) (S lt) (kJ row))
 exact AP (Hg el er Vn (by lia) hq)
end
theorem Hp(L fa:Addr)(cd:Value):n8 L fa cd (cY L fa cd).cells:=fun x hx=>by
 have h:=(jy L fa cd x hx).1
 refine cE (Option.isSome_iff_exists.mp (cellsFrom_some Bd.names (L+1) [] (.inl h))) fun c hc=>?_
 exact⟨c,hc,hc⟩
theorem W9(L fa:Addr)(cd:Value):n8 L fa cd (nN (cY L fa cd).cells "names"):=fun x hx=>by
 refine au (Hp L fa cd x hx) fun c h1 h2=>?_
 have nS:∀y∈CE,y≠aj "names":=by decide +kernel
 exact⟨c,(Cw (nS x hx) _).trans h1,h2⟩
section
variable {P:aD}{L fa:Addr}{cd:Value}{s₀:ak}{h₀:aE}{rest:Led}{l:Addr}{cs:List (Str×Addr)}
variable (R:cH (KS P) p az aL mg mb A₀ base av A (cY L fa cd) h₀ L (d+8))(hb:h₀=base)(hu:A.units+8*(d+8)+64<cLine)(gh:n8 L fa cd cs){ns:List Int}{i:Nat}{row:List (List Nat)}{lt:List Nat}(uP:ns.length<=60)(K:yO (aP ns) (bh ns) (bQ ns) i row lt)
include R hb hu gh uP K
noncomputable abbrev ra(ns:List Int)(i:Nat)(row:List (List Nat)):Loc:=[("row",kJ row),("marks",bf (bh ns)),("whole",bf (gV ns i)),("place",.int (i:Int)),("told",.list (je ns))]
noncomputable abbrev rb(ns:List Int)(i:Nat)(row:List (List Nat))(lt:List Nat):Loc:=[("least",bf lt),("row",kJ row),("marks",bf (bh ns)),("whole",bf (gV ns i))]
theorem IP:∃ρ',gy ai w A (jk s₀ h₀ L rest l cs) (cY L fa cd) X (co (cO ns)) (rb ns i row lt) [cA 20,cA 21,cA 22,cA 23,cA 24,cA 25,cA 26] (co (cO ns),ρ',.ret (.bool true)):=by
 refine⟨_,aQ (g20 R hb hu gh uP K) (aQ (g21 R hb hu gh uP K) (aQ (g22 R hb hu gh uP K) (aQ (g23 R hb hu gh uP K) (ia (ρ':=("other",.list ((dZ (bQ ns)).map .str))::("marks",bf (bh ns))::[("least",bf lt),("row",kJ row)]) (aQ (g24 R hb hu gh uP K) (aQ (g25 R hb hu gh uP K) (ia (ρ':=("least",bf lt)::("row",kJ row)::[]) (j9 (g26 R hb hu gh uP K)) ⟨rfl,rfl,trivial⟩))) ⟨rfl,rfl,rfl,rfl,trivial⟩))))⟩
theorem Mr:∃ρ',gy ai w A (jk s₀ h₀ L rest l cs) (cY L fa cd) X (co (cc ns)) (UX ns) (QB.drop 12) (co (cO ns),ρ',.ret (.bool true)):=by
 refine cE (IP (ai:=ai) (w:=w) (s₀:=s₀) (rest:=rest) (l:=l) (X:=X) R hb hu gh uP K) fun ρ' h2=>?_
 have e1:sle (rb ns i row lt) (Xr (bf lt) (row.map bf) (S (gV ns i)) i (.list (je ns)) (bf (bh ns))):=⟨rfl,rfl,rfl,rfl,trivial⟩
 have e2:sle (Xr (bf lt) (row.map bf) (S (gV ns i)) i (.list (je ns)) (bf (bh ns))) (("least",bf lt)::ra ns i row):=⟨rfl,rfl,rfl,rfl,rfl,rfl,trivial⟩
 have e3:sle (ra ns i row) (("row",kJ row)::("whole",bf (gV ns i))::YX ns i):=⟨rfl,rfl,rfl,rfl,rfl,trivial⟩
 refine af Qt ?_
 refine⟨ρ',aQ (g12 R hb hu gh K) (aQ (g13 R hb hu gh K) (aQ (g14 R hb hu gh K) (aQ (g15 R hb hu gh K uP) (ia (ρ':=ra ns i row) (aQ (g16 R hb hu gh K) (ia (ρ':=Xr (bf lt) (row.map bf) (S (gV ns i)) i (.list (je ns)) (bf (bh ns))) (aQ (g17 R hb hu gh K uP) (ia (ρ':=rb ns i row lt) (aQ (g18 R hb hu gh) (aQ (g19 R hb hu gh uP K rfl rfl) h2)) e1)) e2)) e3))))⟩
end
section
variable {P:aD}{L fa:Addr}{cd:Value}{s₀:ak}{h₀:aE}{l:Addr}{cs:List (Str×Addr)}
theorem QV(R:cH (KS P) p az aL mg mb A₀ base av A (cY L fa cd) h₀ L (d+8))(hb:h₀=base)(hu:A.units+8*(d+8)+64<cLine){ns:List Int}{cN D:Addr}{t1 t2 t3:Tok}(zc:n8 L fa cd (nN cs "names"))(M0:(cY L fa cd).cells.lookup (aj "names")=some cN)(rK:ob.data= .cell (some (.ref D)))(JI:od.IsDictOf (strKind ai w) (JM t1 t2 t3))(MT:(D==jQ)=false):
   cK ai w A (jk s₀ h₀ L [(cN,ob),(D,od)] l (nN cs "names")) (cY L fa cd) (fun _ _ _ _=>False) (co (c7 ns)) (("told",.list (je ns))::r8 ns) (cA 11) (co (c7 ns),("kinds",bf (fJ (aP ns) (bh ns) (bQ ns)))::("told",.list (je ns))::r8 ns,.next):=by
 have IK:=iS (ai:=ai) (w:=w) (s₀:=s₀) (rest:=[(cN,ob),(D,od)]) (l:=l) (X:=fun _ _ _ _=>False) R hb hu zc
 have ht:bq ai w A (jk s₀ h₀ L [(cN,ob),(D,od)] l (nN cs "names")) (co (c7 ns)) (cY L fa cd) (("told",.list (je ns))::r8 ns) (.Name "told" ⟨805,61,805,65⟩) (.list (je ns)):=fM (IK.fh _) (show GA.contains "told"=true by decide +kernel) (by decide +kernel) rfl
 have e0:=Np (rest:=[]) (cs:=nN cs "names") (s₀:=s₀) (h₀:=h₀) (l:=l) (o:=co (c7 ns)) (ρ:=("told",.list (je ns))::r8 ns) (aa:=aP ns) (M:=bh ns) (T:=bQ ns) R M0 rK JI MT ht
 have e1:(fJ (aP ns) (bh ns) (bQ ns)).map (fun c=>bf [c])=((fJ (aP ns) (bh ns) (bQ ns)).map fun c=>[c]).map fun l=>.str (S l):=by rw[fL]; rfl
 rw[e1]at e0
 have hk:=wL (ls:=(fJ (aP ns) (bh ns) (bQ ns)).map fun c=>[c]) (kk:=0) (q1:=⟨805,12,805,14⟩) (q2:=⟨805,12,805,19⟩) (q3:=bP (cJ (cA 11)))
   e0 (by kernel_rfl) (by rw[bM]; exact(by decide:4<=1000)) (fun x hx=>by obtain⟨c,_,rfl⟩:=bZ.mp hx; exact(by decide:1<=1000)) (by kernel_rfl)
 have e:((fJ (aP ns) (bh ns) (bQ ns)).map fun c=>[c]).flatten=fJ (aP ns) (bh ns) (bQ ns):=by
   induction fJ (aP ns) (bh ns) (bQ ns)with
   |nil=>rfl
   |cons c r ih=>exact af eZ (af jO (af ih rfl))
 rw[e]at hk
 exact af Vg (oB IK (show GA.contains "kinds"=true by decide +kernel) (by rfl) hk)
theorem VV{st:Stmt}(vG:st= .Assign [.Name "names" ⟨804,4,804,9⟩] LZ ⟨804,4,804,79⟩){K:Frag}(R:cH K p az aL mg mb A₀ base av A (cY L fa cd) h₀ L d){cN:Addr}(M0:(cY L fa cd).cells.lookup (aj "names")=some cN)(hcM:cs.lookup (aj "names")=some cN){o:Unit×Loc}(h:At (jk s₀ h₀ L [] l cs) o ρ fz s){Q:Flow->ak->Prop}(hq:∀s' aT D od t1 t2 t3 ob,od.IsDictOf (strKind ai w) (JM t1 t2 t3)->(D==jQ)=false->ob.data= .cell (some (.ref D))->At (jk s₀ h₀ L [(cN,ob),(D,od)] l (nN cs "names")) o ρ aT s'->Q .next s'):wpAny (model ai w) A (exec st (cY L fa cd)) Q E s:=by
 have kn:(cY L fa cd).kindOf "names"=some .cell:=by kernel_rfl
 have kn2:(cY L fa cd).kindOf "names"≠some .local:=by refine af kn ?_; simp
 refine af vG ?_
 refine jJ ?_ ?_
 rotate_left
 . exact zy kn2
 refine RW (C:=jk s₀ h₀ L [] l cs) R h fun aX D od t1 t2 t3 gY JI MT=>?_
 exact Ik gY R.hk kn M0 hcM (.head _) fun ob dF rK kZ=>hq dF _ D od t1 t2 t3 ob JI MT rK kZ
theorem Mq{Xv Xu:Stmt}{tl:List Stmt}(WY:Xv=cA 10)(e11:Xu=cA 11)(etl:tl=QB.drop 12)(R:cH (KS P) p az aL mg mb A₀ base av A (cY L fa cd) h₀ L (d+8))(hb:h₀=base)(hu:A.units+8*(d+8)+64<cLine)(zc:n8 L fa cd (nN cs "names")){cN:Addr}(M0:(cY L fa cd).cells.lookup (aj "names")=some cN)(hcM:cs.lookup (aj "names")=some cN){ns:List Int}(uP:ns.length<=60){i:Nat}{row:List (List Nat)}{lt:List Nat}(K:yO (aP ns) (bh ns) (bQ ns) i row lt)(h:At (jk s₀ h₀ L [] l cs) (co (c7 ns)) (("told",.list (je ns))::r8 ns) fz s){Q:Flow->ak->Prop}(hq:∀s',(∃m news,Fr h₀ L s'.heap m/\News h₀ L s'.heap news)->(∃hp tk,s'= { s₀ with heap:=hp,toks:=tk })->Q (.ret (.bool true)) s'):wpAny (model ai w) A (execs (Xv::Xu::tl) (cY L fa cd)) Q E s:=by
 refine bS ?_
 refine VV (WY.trans Vh) (s₀:=s₀) (l:=l) (cs:=cs) R M0 hcM h fun dF gz D od t1 t2 t3 ob JI MT rK kZ=>?_
 refine cE (Mr (ai:=ai) (w:=w) (s₀:=s₀) (rest:=[(cN,ob),(D,od)]) (l:=l) (X:=fun _ _ _ _=>False) R hb hu zc uP K) fun ρ' ht=>?_
 have all:=aQ (QV (s₀:=s₀) (l:=l) R hb hu zc M0 rK JI MT) (ia (ρ':=UX ns) ht ⟨rfl,rfl,rfl,rfl,trivial⟩)
 rw[<-e11,<-etl]at all
 refine all _ dF _ _ kZ fun o8 lX acQ mQ v hv=>?_
 refine af (AH hv) ?_
 refine hq lX mQ.nO ?_
 obtain⟨hp,tk,m,Rl,e,_⟩:=mQ
 exact⟨hp,tk,e⟩
theorem Mt(e:b=b0++b1){C:Cx (Unit×Loc)}{o o':Unit×Loc}(hh:vP ai w A C env X o ρ b0 o' ρ')(h:At C o ρ fz s)(hr:∀aT s',Sub fz aT->At C o' ρ' aT s'->wpAny (model ai w) A (execs b1 env) Q E s'):wpAny (model ai w) A (execs b env) Q E s:=by
 exact af e (f9 hh h hr)
theorem QW(R:cH (KS P) p az aL mg mb A₀ base av A (cY L fa cd) h₀ L (d+8))(hb:h₀=base)(hu:A.units+8*(d+8)+64<cLine)(hce:cs=(cY L fa cd).cells)(hl:h₀.IsList l vs.toArray)(hi:IntsAre vs iy)(hz:iy.length<=1000){i:Nat}{row:List (List Nat)}{lt:List Nat}(K:yO (aP (kM iy)) (bh (kM iy)) (bQ (kM iy)) i row lt)(h:At (jk s₀ h₀ L [] l cs) (co []) [] fz s)(hq:∀s',(∃m news,Fr h₀ L s'.heap m/\News h₀ L s'.heap news)->(∃hp tk,s'= { s₀ with heap:=hp,toks:=tk })->Q (.ret (.bool true)) s'):wpAny (model ai w) A (execs QB (cY L fa cd)) Q E s:=by
 have gh:n8 L fa cd cs:=hce▸Hp L fa cd
 have zc:n8 L fa cd (nN cs "names"):=hce▸W9 L fa cd
 have kn:(cY L fa cd).kindOf "names"=some .cell:=by kernel_rfl
 refine cE (Option.isSome_iff_exists.mp (cellsFrom_some (x:="names") Bd.names (L+1) [] (.inl kn))) fun cN M0=>?_
 have M0:(cY L fa cd).cells.lookup (aj "names")=some cN:=M0
 have hcM:cs.lookup (aj "names")=some cN:=by exact af hce M0
 clear hce
 have hh:=Mu (ai:=ai) (w:=w) (s₀:=s₀) (rest:=[]) (l:=l) (X:=fun _ _ _ _=>False) R hb hu gh hl hi hz
 have key:∀Xv Xu tl,Xv=cA 10->Xu=cA 11->tl=QB.drop 12->∀b b0,b=b0++(Xv::Xu::tl)->vP ai w A (jk s₀ h₀ L [] l cs) (cY L fa cd) (fun _ _ _ _=>False) (co []) [] b0 (co (c7 (kM iy))) (("told",.list (je (kM iy)))::r8 (kM iy))->wpAny (model ai w) A (execs b (cY L fa cd)) Q E s:=by
   intro Xv Xu tl e1 e2 e3 b b0 eb hs
   refine Mt eb hs h ?_
   intro ay s₁ K7 cj
   exact Mq e1 e2 e3 R hb hu zc M0 hcM (uE iy) K cj hq
 exact key _ _ _ rfl rfl rfl _ _ Qs hh
end
theorem LX(ns:List Int):MOk (bh ns):=by
 unfold bh
 split
 . split
   . exact(by decide +kernel:∀c∈Lq,c∉qU)
   . exact fun c h=>nm h
 . intro c h
   have:=(mL.mp h).2
   exact fun q=>by rw[decide_eq_true q]at this; cases this
theorem KU(x:Int):Cp (rm x):=by
 intro c hc
 unfold rm at hc
 split at hc
 . refine af (aY.mp hc) ?_
   have h:∀k,iH.getD k 0<0x110000:=fun k=>by
     refine af (List.getD_eq_getElem?_getD) ?_
     cases e:iH[k]? with
     |none=>decide
     | some v=>
       have hv:=List.mem_of_getElem? e
       exact(by decide:∀v∈iH,v<0x110000) v hv
   exact h _
 split at hc
 . cases hc
 . refine af (aY.mp hc) ?_
   have h1:=Int.fmod_nonneg_of_pos (a:=x.fdiv 32) (b:=1112064) (by decide)
   have h2:=Int.fmod_lt_of_pos (a:=x.fdiv 32) (b:=1112064) (by decide)
   generalize (x.fdiv 32).fmod 1112064=q at h1 h2 |-
   clear hc
   split <;> lia
theorem Pa(ns:List Int):Cp (bQ ns):=by
 intro c h
 refine au (List.mem_flatten.mp h) fun t h1 h2=>?_
 refine au (bZ.mp h1) fun k _ iU=>?_
 subst iU
 exact KU _ c h2
theorem CX(y:Str):∀ls:List Str,(ls.map (·.length)).sum+ls.length*y.length<=(Str.join y ls).length+y.length/\∀x∈ls,∀c∈x.cps.toList,c∈(Str.join y ls).cps.toList
 | []=>⟨by simp,fun x h=>nm h⟩
 | [x]=>⟨by
     show(([x].map (·.length)).sum+1*y.length<=x.length+y.length)
     simp,fun z hz c hc=>by rw[aY.mp hz]at hc; exact hc⟩
 | x ::z::r=>by
   refine bx (CX y (z::r)) fun h1 h2=>?_
   have e:(Str.join y (x::z::r))=x++y++Str.join y (z::r):=rfl
   have el:(x++y++Str.join y (z::r)).length=x.length+y.length+(Str.join y (z::r)).length:=by
     simp[dD,Str.cps_append]; lia
   refine af e ?_
   refine⟨?_,fun u hu c hc=>?_⟩
   . refine af el (af eZ (af List.sum_cons (af dg ?_)))
     rw[Nat.add_mul]
     lia
   . rw[Str.cps_append,Str.cps_append]
     simp only[Array.toList_append,bu]
     rcases aB.mp hu with rfl|hu
     . exact .inl (.inl hc)
     . exact .inr (h2 u hu c hc)
theorem Lv(T:List Nat):((dZ T).map (·.length)).sum+(dZ T).length<=T.length+1/\∀x∈dZ T,∀c∈x.cps.toList,c∈T:=by
 refine bx (CX (S [120]) (dZ T)) fun h1 h2=>?_
 have e:Str.join (S [120]) (dZ T)=S T:=StrLaws.join_split _ _
 rw[e,eu,eu,dG,Nat.mul_one]at h1
 exact⟨h1,fun x hx c hc=>by have:=h2 x hx c hc; rw[e]at this; simpa using this⟩
theorem Pf{ls:List Str}{x:Str}(h:x∈ls):x.length<=(ls.map (·.length)).sum:=by
 induction ls with
 |nil=>cases h
 | cons y r ih=>
   refine af eZ (af List.sum_cons ?_)
   rcases aB.mp h with rfl|h
   . lia
   . have:=ih h; lia
theorem WH(ls:List Str):(ls.map (·.cps.toList)).flatten.length=(ls.map (·.length)).sum:=by
 induction ls with
 |nil=>rfl
 | cons y r ih=>
   refine af eZ (af jO (af aR (af ih (af eZ (af List.sum_cons ?_)))))
   simp[dD]
theorem Zd(ls:List Str):(ls.map (·.cps.toList)).map S=ls:=by
 exact af fL ((List.map_congr_left fun x _=>(sG x).symm).trans (List.map_id ls))
section
variable {aa:Bool}{M W:List Nat}
theorem zZ(C:Ch aa M W){t:Str}(h:fU aa (S M) (R.map S)=some t):∃l b,t=S l/\jS aa M W b R l/\l.length<=Om R:=by
 cases aa with
 |true=>exact II C h
 | false=>
   rw[Bk C]at h
   refine au (Option.map_eq_some_iff.mp h) fun q h1 iU=>?_
   subst iU
   refine lV (Gk C R q h1) fun g1 g2 _=>?_
   exact⟨q.1,_,rfl,g1,g2⟩
theorem Mi(C:Ch aa M W){a:List Nat}(h0:(scan aa M W a .out).2=0):∃t,fU aa (S M) ((scan aa M W a .out).1.map S)=some t/\t.length<=a.length:=by
 cases aa with
 |true=>exact least_le C h0
 | false=>
   refine gB (UU C h0) fun x y h1 h2=>?_
   refine⟨S x,by(rewrite [Bk C]; refine af h1 ?_); rfl,?_⟩
   rw[eu]; exact h2
theorem Xa(C:Ch aa M W){l T:List Nat}{b:Nat}(hl:fU aa (S M) (R.map S)=some (S l))(hg:jS aa M W b R l)(hR:∀t∈R,Cp t):∀t∈(scan aa M W (l++gj T++l) .out).1,Cp t:=by
 have hc:=DM (T:=T) hg
 cases aa with
 | true=>
   refine af hc (af (if_pos rfl) ?_)
   intro t ht
   exact(bu.mp ht).elim (hR t) (hR t)
 | false=>
   refine af hc (af (if_neg (by decide)) ?_)
   rw[Bk C]at hl
   refine cp fun G' k'=>?_
   refine au (Option.map_eq_some_iff.mp hl) fun q h1 h2=>?_
   have e:q.1=l:=Oa.mp h2
   refine lV (Gk C R q h1) fun _ _ g3=>?_
   refine k' ?_
   have hcl:Cp l:=fun c hc=>by
     rw[e]at g3
     rcases g3 c hc with h|rfl
     . refine au (List.mem_flatten.mp h) fun t ht hx=>?_
       exact hR t ht c hx
     . decide
   exact AV fun c hc=>(bu.mp hc).elim (hcl c) (hcl c)
end
theorem VU(ns:List Int)(hn:ns.length<=60):∃i row lt,yO (aP ns) (bh ns) (bQ ns) i row lt:=by
 have C:=aav (aa:=aP ns) (LX ns)
 have hT:=text_len ns
 have hcp:=Pa ns
 generalize aP ns=aa at*
 generalize bh ns=M at*
 generalize bQ ns=T at*
 refine cp fun G' k'=>?_
 refine X5 (R7 C T) fun i row h1 h2 h3 h4 h5=>?_
 refine k' ?_
 have ht2:=ow i
 have hwl:(T++dM.getD i []).length<=62:=by refine af aR ?_; lia
 have hwc:Cp (T++dM.getD i []):=by
   have ht:∀j,Cp (dM.getD j []):=fun j=>by
     match j with
     |0=>decide
     |1=>decide
     |2=>decide
     |3=>decide
     |n+4=>exact fun c h=>nm h
   intro c hc
   exact(bu.mp hc).elim (hcp c) (ht i c)
 have h0:(scan aa M (wordsOf aa M) (T++dM.getD i []) .out).2=0:=by(refine af h4 ?_; rfl)
 refine au (Mi C h0) fun t hl hlen=>?_
 have GW:=Ia (aa:=aa) (M:=M) (W:=wordsOf aa M) (T++dM.getD i [])
 have Wu:=AV (aa:=aa) (M:=M) (W:=wordsOf aa M) hwc
 have hkp:=fun h=>PE C (a:=T++dM.getD i []) h h0
 rw[h4]at hl GW Wu hkp
 refine fS (zZ C hl) fun lt b iU hg _=>?_
 subst iU
 rw[eu]at hlen
 refine bx (Lv T) fun ho1 ho2=>?_
 refine⟨i,row,lt,⟨h1,h2,h3,h4,hl,hlen,h5,?_,DM hg,?_,uA hg,?_,by have:=GW.2; lia,by have:=GW.1; lia,?_,by lia,hcp,AV hcp,Xa C hl hg Wu⟩⟩
 . by_cases h:35∈T
   . exact .inl h
   . refine .inr ?_
     rw[GO,GO]
     refine hkp fun q=>?_
     have ht:∀j,35∉(dM.getD j []):=fun j=>by
       match j with
       |0=>decide
       |1=>decide
       |2=>decide
       |3=>decide
       |n+4=>exact fun h=>nm h
     exact(bu.mp q).elim h (ht i)
 . intro b hb
   rw[<-Zd (dZ T)]at hb
   refine fS (zZ C hb) fun l b' iU hg' hu=>?_
   subst iU
   refine⟨by simpa using uA hg',?_⟩
   rw[eu]
   unfold Om at hu
   rw[WH,bM]at hu
   lia
 . intro t ht
   refine⟨?_,Wu t ht⟩
   have:=O5 ht
   have:=GW.1
   lia
 . intro t ht
   refine af (sG t) ?_
   have hs:=Pf ht
   have e:t.cps.toList.length=t.length:=by simp[dD]
   have hlen:0<(dZ T).length:=List.length_pos_of_mem ht
   exact Kp (by refine af e ?_; lia) fun c hc=>hcp c (ho2 t ht c hc)
section
set_option tactic.hygienic true
theorem HR{s₁:ak}{fa:Addr}{cd:Value}{iy:List Int}{vs:List Value}{l:Addr}{cj:aE}{zx:Nat}{R:Led}{Q:Flow->ak->Prop}(K0:Below callerA s₁.heap [] s₁.heap)(KX:(KS w.params).In s₁.heap)(T:Top PZ az aL mg mb s₁.heap)(hL:s₁.heap.IsList l vs.toArray)(hI:IntsAre vs iy)(hlen:iy.length<=1000)(F:Fr s₁.heap s₁.heap.objs.size cj (bindL (cY s₁.heap.objs.size fa cd).kindOf [(aj "script",.ref l)] fun _=>none))(Y:CellsAre (bindC (cY s₁.heap.objs.size fa cd).kindOf [(aj "script",.ref l)] fun _=>none) (cY s₁.heap.objs.size fa cd).cells R)(N0:News s₁.heap s₁.heap.objs.size cj R)(hq:∀s',(∃m news,Fr s₁.heap s₁.heap.objs.size s'.heap m/\News s₁.heap s₁.heap.objs.size s'.heap news)->(∃hp tk,s'= { s₁ with heap:=hp,toks:=tk })->Q (.ret (.bool true)) s'):
   wpAny (model ai w) (callerA.deeper (cY s₁.heap.objs.size fa cd)) (execs QB (cY s₁.heap.objs.size fa cd)) Q E { s₁ with heap:=cj,toks:=zx }:=by
 have Rm:cH (KS w.params) PZ az aL mg mb callerA s₁.heap [] (callerA.deeper (cY s₁.heap.objs.size fa cd)) (cY s₁.heap.objs.size fa cd) s₁.heap s₁.heap.objs.size (0+8):=by
   refine⟨K0,KX,T,rfl,rfl,by kernel_rfl,rfl,rfl,rfl,rfl,j5 (by kernel_rfl),?_⟩
   show callerA.depth+1+8<=recursionLimit
   decide
 have hu:(callerA.deeper (cY s₁.heap.objs.size fa cd)).units+8*(0+8)+64<cLine:=by
   show callerA.units+3+8*8+64<cLine
   decide
 obtain⟨i,row,lt,LK⟩:=VU (kM iy) (uE iy)
 have cf:=Ht (names:=Bd.names) (n:=s₁.heap.objs.size+1) (lo:=s₁.heap.objs.size+1) (acc:=[]) (bC _) (fun _ h=>nomatch h) .nil
 have rows:bV [] [] (cY s₁.heap.objs.size fa cd).cells R:=Gh (c:=[]) (fun n=>by
   show bindC (cY s₁.heap.objs.size fa cd).kindOf [(aj "script",.ref l)] (fun _=>none) n=none
   kernel_rfl) Y
 have hA:At (jk s₁ s₁.heap s₁.heap.objs.size [] l (cY s₁.heap.objs.size fa cd).cells) (co []) [] [] { s₁ with heap:=cj,toks:=zx }:=by
   refine⟨cj,zx,_,R,rfl,F,?_,⟨?_,cf.2,R,[],(aK _).symm,rows,fun _ _ _ h=>(by cases h),rfl⟩,fun _ _ _ h=>(by cases h),fun x v hx=>(by cases hx),fun q hq=>?_⟩
   . show News _ _ _ (R++([]++[]))
     rw[aK,aK]; exact N0
   . have:(aZ (s₁.heap.objs.size+1) Bd.names []).map (·.1)=(aZ 0 Bd.names []).map (·.1):=cellsFrom_names Bd.names (s₁.heap.objs.size+1) 0 [] [] rfl
     show((aZ (s₁.heap.objs.size+1) Bd.names []).map (·.1)).Nodup
     refine af this ?_; decide +kernel
   . have hq:q∈ [(aj "script",.ref l)]:=hq
     simp only[aY]at hq
     subst hq
     kernel_rfl
 exact QW Rm rfl hu rfl hL hI hlen LK hA hq
noncomputable def dL:DefRec:={ name:=aj "law",params:=nU (aW 28),body:=aC (aW 28),scope:=aF (aW 28),pos:={ line:=793,col:=0,endLine:=825,endCol:=54 } }
set_option maxHeartbeats 4000000 in
theorem Uj:WalkO PZ Bf (XL PZ []) T4.says PySem.Challenge.rw_in0035_01.row.toRowW dL [] (fun f vs=>call f vs):=by
 k_fill
 intro w s₀ s₁ mg mb G Y fa o pm cd doc dV kV ho hd E8 hD hmg hg args vals as Rw ach hrd hwl MT
 have KX:=kIn_of Y
 have X:=(Ground.X G).1
 have V:=(Ground.X G).2
 refine Ground.open G ?_
 intro T B D TE TW
 try (refine guard_noD D (by decide +kernel) ?_; clear D)
 obtain⟨_,_,M⟩:=bmod_of_top T
 have TA:=at_of_top T
 try (obtain⟨_,_,he,B0⟩:=based_of_top (d:=dL) T (by kernel_rfl) hmg ho hd; have Tv:cd=_:=he; subst Tv; clear he)
 clear hmg
 wrow_args Rw ach hrd hwl MT
 all_goals (
   first|refine callC_kw (enter_call ?_)|refine enter_call ?_|refine callC_kw (enter_callW ?_)|refine enter_callW ?_|w_how
   w_top on
   try refine codeAny_mono ?_ (fun _ _ g=>GoodW.toG g)
   have K0:=below_caller (Top.heap T)
   w_call any ho hd E8 hD T F
   clear hd TA
   k_drop
   skip)
 rename Below callerA _ [] _=>K0
 rename Top PZ _ _ _ _ _=>T
 rename (KS _).In _=>KX
 rename Fr _ _ _ _=>F
 rename News _ _ _ _=>N0
 rename CellsAre _ _ _=>Y0
 rename IntsAre _ _=>hI
 rename Heap.IsList _ _ _=>hL
 rename ¬(_<_)=>acV
 refine HR K0 KX T hL hI (by lia) ?_ Y0 N0 fun s' hF hS=>?_
 . exact F
 . obtain⟨m',news',F',_⟩:=hF
   obtain⟨Ox,lG,rfl⟩:=hS
   exact goodW_bool F' hg (fun _=>by first|rfl|kernel_rfl) (by first|rfl|kernel_rfl) rfl
end
end Mine
open PySem PySem.Calls PySem.W PyProof.Rows Mine
set_option Elab.async false
set_option maxRecDepth 100000
set_option maxHeartbeats 1000000 in
theorem PySem.Challenge.cw_in0035_01_holds : PySem.Challenge.rw_in0035_01.Holds := by
  w_on
  refine holds_law UJ fun adb => ?_
  refine holds_open (q := PZ) (loose := Bf) (Xt := aaG) (XP := XL PZ []) (Yf := Hook.obs T4) (Ya := Hook.val T4) (YP := Hook.says T4) (N := 12000) VT (Hook.of T4) (Hook.keeps T4) (fun s e => xl_of s (Bool.and_eq_true_iff.mp e).1) XL.keeps (by rfl) (by rfl) (by rfl) (fun s e => recFacts_of (Bool.and_eq_true_iff.mp e).2) (by rfl) (by first | assumption | decide +kernel) (by decide +kernel) ⟨rfl, rfl, rfl, rfl, rfl, by decide +kernel⟩ ?hw ?hc
  case hw => exact Yc
  case hc => exact Uj
