import PyProof.Rows.All
import Wide.All
import OpenK.AllK
import Wide.FinOn
import Lean
import PySem.Challenge.RW_uc0049_01
set_option Elab.async false
set_option maxRecDepth 100000
set_option genSizeOfSpec false
set_option linter.all false
noncomputable section
namespace Mine
open Array renaming toList_inj->Za
open Bool renaming and_eq_true->U6,false_eq_true->Vq,or_eq_true_iff->Vr,and_eq_true_iff->Vu,eq_false_iff->WB,casesOn->WX,eq_iff_iff->X6,and_false->Yo,or_eq_true->ZA
open Classical renaming byContradiction->V9
open Exists renaming imp->Wj
open False renaming elim->X2
open ForInStep renaming yield->VI
open Int renaming toNat_natCast->VP,natCast_nonneg->Wg,ofNat_lt->Wr,fmod_eq_emod_of_nonneg->Xe,negSucc_lt_zero->YC,natCast_inj->ZG
open List renaming length_map->UC,range->UD,forall_mem_cons->UL,length_append->UM,all_eq_true->UP,mem_range->UR,mem_singleton->US,length_cons->UU,map_map->UX,mem_map->UY,mem_filter->UZ,mem_cons->U0,replicate->U2,append_assoc->U3,append_nil->U8,length_filter_le->Vb,map_cons->Vc,mem_append->Ve,casesOn->Vk,length_singleton->Vl,map_congr_left->Vn,map_append->Vt,filter_cons->VE,mem_of_getElem?->VM,not_mem_nil->VN,drop_eq_getElem_cons->VQ,forIn_cons->VT,length_nil->V2,length_eq_one_iff->V7,lookup_append->We,drop_zero->Wh,size_toArray->Wn,length_set->Wo,drop_of_length_le->Ww,length_range->WA,flatMap_cons->WN,toArray->WV,nodup_cons->W5,lookup->W6,zipIdx_eq_zip_range'->Xh,count_append->Xp,sum_cons->Xv,prefix_refl->XE,lookup_cons->XF,length_drop->XG,getElem_mem->XH,filter_eq_nil_iff->XQ,map_nil->XZ,count_cons->X1,count_singleton->Yh,drop_drop->Yl,replicate_succ->Yp,length->Yq,filter_sublist->Yr,prefix_append->YJ,mem_cons_self->YK,length_zipIdx->YL,foldl_append->YY,any_eq_false->YZ,set_set->Y6,mem_toArray->Zh,isEmpty_iff->Zi,flatMap_map->Zj,any_eq_true->Zk,zipIdx_map->Zw,of_mem_zip->Zx,nil_append->Zy,foldl_cons->Zz,take_zero->ZL,length_erase_of_mem->ZP
open List.Nodup renaming length_le_of_subset->VB
open List.Sublist renaming map->ZQ
open List.cons renaming inj->WS
open Nat renaming le_of_ble_eq_true->UG,le_trans->UH,lt_of_lt_of_le->U7,lt_of_le_of_lt->Va,le_add_right->Vi,le_of_eq->Vv,lt_of_succ_lt_succ->Vw,add_right_comm->Vy,add_le_add_left->VA,pow_le_pow_right->VD,not_lt_zero->VU,zero_le->VX,ne_of_lt->V0,le_refl->V4,shiftLeft_eq->Wc,zero_add->Wf,add_le_add_right->Wm,le_of_lt->Wq,mul_le_mul_left->Wt,succ_le_succ->WG,lt_trans->WI,ble->WL,mul_le_mul->WU,pow_lt_pow_right->W0,testBit_two_pow_sub_one->W8,lt_add_of_pos_right->XA,le_succ->XB,casesOn->XC,add_assoc->XD,succ_ne_self->XM,not_lt_of_le->XN,lt_succ_self->XO,two_pow_pos->Yc,min_eq_left->Yd,ble_eq_true_of_le->Ye,reduceAdd->YS,mod_lt->Y5,succ_pos->Zb,sub_self->Zc,mul_succ->Ze,add_zero->Zf,add_comm->Zg,mod_two_eq_zero_or_one->ZK
open Nat.succ renaming inj->ZJ
open Option renaming eq_none_iff_forall_ne_some->UQ,isNone_iff_eq_none->Vm,casesOn->Vs,isSome_iff_exists->VF,map_eq_some_iff->Wv,isSome_none->W7,isSome_iff_ne_none->Xb,getD_some->YW,bind_some->YX
open Option.some renaming inj->YB
open PUnit renaming unit->Wu
open Prod.mk renaming inj->UW
open PyProof.Rows renaming seqObj->U5,subscriptTail->WF,oneType'->YD
open PyProof.V renaming FlatPairs->ZO
open PySem renaming wpAny_bind->UA,Params->UB,wpAny_pure->UE,Value->UF,wpAny->UI,Shared->UJ,model->UN,wpAny_holding->U9,truthy->Vf,wpAny_mono->Vg,Around->Vh,Comprehension->Vo,wpAny_standAt->Vp,DictEntry->Vx,wpAny_loadPart'->VG,cellsFrom->VH,Operator->VK,isTrue->VO,compareOp->VS,holding->VW,standAt->VY,mainGlobals->VZ,Scope->V1,OsState->V3,NameKind->V6,keywordEach->Wa,bindArgs->Wb,builtinLookup_eq_fast->Wl,codeAny->Wp,wpAny_dictEntries->Ws,wpAny_field->Wx,builtinsNs->Wy,World->WC,Arguments->WJ,wpAny_call_entry->WK,assign->WM,wpAny_specialOf->WO,typeLookup_type->WP,starEach->WQ,backToKw->WR,sizeLine->Xc,FuncData->Xf,wpAny_rule->Xg,Program->Xm,Keyword->Xn,newFunctionEnv->Xw,wpAny_pyIter_list->XS,wpAny_assign_Name->XT,typeIs_str->XU,pyIter->XV,getMethod_builtin->XW,call_meets->XY,wpAny_of_eq->X7,sizeLine_eq->X8,entryFor_of_fast->Yg,pushCells->Yu,letOwnedTupleGo->Yv,codeAny_of_tree->Yw,Fin->Yz,Builtin->YA,closureFor->YE,wpAny_setField->YT,mergedKeywords->YU,argsOk->YV,wpAny_alloc->Y1,swapsWith->Zl,strValues->Zm,slot_listiter_next->Zn,codeAmong->Zo,binaryOp->Zp,backTo->Zq,assignInOrder->Zr,wpAny_newObj_type->ZB,sysModules->ZC,keywordsIn->ZD,wpAny_askSetting->ZM
open PySem.Builtin renaming bitAnd->VJ,bitOr->WY,bitXor->W9,bitNot->Xa
open PySem.Builtin.List renaming listTooLong->W3,listSubscript?->Ys
open PySem.Builtin.Range renaming rangeSize->W4,small->Zt
open PySem.Builtin.SmallTypes renaming stopIteration->Wz
open PySem.Builtin.Str renaming occurrences->Wi,partsBetween->Y0,tooLong->ZH,strKind->ZI,subAt->ZR
open PySem.Calls renaming call_function_entry->Y3
open PySem.DictEntry renaming mk->Wk
open PySem.Expr.Attribute renaming elim->Xs
open PySem.Expr.BinOp renaming elim->YO
open PySem.Expr.BoolOp renaming elim->Yn
open PySem.Expr.Call renaming elim->Y9
open PySem.Expr.Compare renaming elim->X5
open PySem.Expr.Constant renaming elim->XJ
open PySem.Expr.IfExp renaming elim->YN
open PySem.Expr.Lambda renaming elim->Ym
open PySem.Expr.List renaming elim->Y8
open PySem.Expr.ListComp renaming elim->XI
open PySem.Expr.Name renaming elim->XR
open PySem.Expr.Slice renaming elim->YM
open PySem.Expr.Subscript renaming elim->Xr
open PySem.Expr.Tuple renaming elim->Xq
open PySem.Expr.UnaryOp renaming elim->X4
open PySem.F renaming slot_str_split->X3,args_str_split_2->Y7,entry_str_split->Zs
open PySem.Flow renaming next->WW
open PySem.Heap renaming lt_size->Vz,ExtBut->VL,size_push->Xi
open PySem.Heap.SameBut renaming update->VV
open PySem.NameKind renaming free->U4,cell->V8,globalExplicit->Zv
open PySem.Obj renaming mapSeq->VC
open PySem.PyData renaming keyHash->WE,str->YI,int->ZF
open PySem.Spec renaming lookup->WH,same->YH
open PySem.Sre renaming forSearch->YR,inSet->ZE
open PySem.Stmt.Assign renaming elim->Yk
open PySem.Stmt.AugAssign renaming elim->Xo
open PySem.Stmt.Break renaming elim->YG
open PySem.Stmt.Continue renaming elim->Xy
open PySem.Stmt.Delete renaming elim->Yj
open PySem.Stmt.Expr renaming elim->Y4
open PySem.Stmt.For renaming elim->Zu
open PySem.Stmt.If renaming elim->ZN
open PySem.Stmt.Return renaming elim->Yi
open PySem.Stmt.While renaming elim->YF
open PySem.Str renaming ofString->UK,mk->UO,length->WD
open PySem.StrLaws renaming occBody->Xx
open PySem.Txt renaming lower->UT,upper->Vj,join->WT,contains->Yb,split->YQ
open PySem.Value renaming ref->Yx
open PySem.Value.ref renaming inj->Xd
open PySem.W renaming topFrame->WZ,segRun_of->Xj,piece_app->Xk,dictOf->Xl,kas_sort->Xu,getL->Xz,findIn->XX,piecesOf->X9,putName_dict->Yt,SharedT->Yy,segRunT->Y2
theorem R5{a b c d e:Nat}(h1:a<c)(h2:b<d)(h3:c+d<=e+1):a+b<e:=by omega
theorem R4{a b c d e:Nat}(h1:a<c)(h2:b<d)(h3:c+d<=e+2):a+b<=e:=by omega
local macro_rules | `(tactic|lia)=>`(tactic|first|exact UG rfl|exact UH (by assumption) (UG rfl)|exact U7 (by assumption) (UG rfl)|exact Va (by assumption) (UG rfl)|exact R5 (by assumption) (by assumption) (UG rfl)|exact R4 (by assumption) (by assumption) (UG rfl)|exact Wg _|exact Y5 _ (UG rfl)|exact(Nat.sub_add_cancel (Va (VX _) (by assumption))).symm|exact Wr|exact Int.ofNat_inj|with_reducible exact rfl|exact Wq (U7 (by assumption) (UG rfl)))
section
open PySem
section
inductive NM where
 |join|split|lower|upper|count|index|append|pop|get|search|items|getToken|pushToken|read|readChar|convert
 |lineno|instream|whitespace|pushback|headers
 |kName|kDefault
 deriving DecidableEq,Inhabited
noncomputable def NM.txt:NM->String
 | .join=>"join" | .split=>"split" | .lower=>"lower" | .upper=>"upper" | .count=>"count" | .index=>"index"
 | .append=>"append" | .pop=>"pop" | .get=>"get" | .search=>"search" | .items=>"items" | .getToken=>"get_token"
 | .pushToken=>"push_token" | .read=>"read" | .readChar=>"_read_char" | .convert=>"_convert_string_type"
 | .lineno=>"lineno" | .instream=>"instream" | .whitespace=>"whitespace" | .pushback=>"pushback" | .headers=>"_headers"
 | .kName=>"name" | .kDefault=>"default"
inductive AV where
 |none
 |bool (b:Bool)
 |int (i:Int)
 |str (s:Str)
 |tup (l:List AV)
 |lst (l:List AV)
 |loc (n:Nat)
 |g (v:UF)
 |bm (f:Nat) (self:AV)
 |clo (k:Nat) (caps:List AV)
 |kwd (l:List (NM×AV))
 deriving Inhabited
inductive AO where
 |list (l:List AV)
 |inst (c:Nat) (d:Nat)
 |dict (fs:List (NM×AV))
 |liter (l:List AV) (k:Nat)
 |citer (f s:AV)
 |gone
 |tab (k:Nat)
 deriving Inhabited
abbrev AH:=List AO
inductive bD where
 |one (x:Nat)
 |many (l:List Nat)
mutual
inductive IE where
 |con (v:AV)
 |glob (x:String) (v:AV)
 |var (x:Nat)
 |bin (op:VK) (a b:IE)
 |neg (a:IE)
 |not (a:IE)
 |cmp (op:CmpOp) (a b:IE)
 |and (l:List IE)
 |or (l:List IE)
 |ite (c a b:IE)
 |list (mu:Bool) (l:List IE)
 |tup (l:List IE)
 |sub (a i:IE)
 |slice (mu:Bool) (a:IE) (lo hi:Option IE)
 |comp (mu:Bool) (elt:IE) (gens:List IG)
 |call (f:IE) (args:List IE) (kws:List (NM×IE))
 |callS (f:IE) (args:List IE) (star:IE)
 |meth (o:IE) (name:NM) (args:List IE) (kws:List (NM×IE))
 |attr (o:IE) (name:NM)
 |lam (k:Nat) (caps:List Nat)
inductive IG where
 |mk (t:bD) (it:IE) (ifs:List IE)
end
instance:Inhabited IE:=⟨.con .none⟩
inductive IS where
 |expr (e:IE)
 |set (x:Nat) (e:IE)
 |aug (x:Nat) (op:VK) (e:IE)
 |setA (o:IE) (name:NM) (e:IE)
 |augA (o:IE) (name:NM) (op:VK) (e:IE)
 |setI (o i e:IE)
 |setAll (o e:IE)
 |delI (o i:IE)
 |ret (e:IE)
 |ite (c:IE) (a b:List IS)
 |wh (c:IE) (b:List IS)
 |fr (t:bD) (it:IE) (b o:List IS)
 |brk
 |cont
 |stop
 deriving Inhabited
inductive AF where
 |next|brk|cont
 |ret (v:AV)
abbrev ae:=List (Option AV)
inductive PK where
 |std
 |kwo (m:NM)
 |kwd
 |dfl
structure bN where
 pos:Nat
 extra:Nat
 body:List IS
 kind:PK:=.std
structure vG where
 pos:Nat
 body:IE
structure c8 where
 fn:Nat->Option bN
 lam:Nat->Option vG
 meth:Nat->NM->Option Nat
 init:Nat->Option Nat
 setI:Nat->Option Nat
 delI:Nat->Option Nat
 flags:Nat
 exact:Nat
 rx1:Nat
 rx2:Nat
 flagTab:List (Int×Str)
 exactTab:List (Str×Int)
structure R where
 e:IE->ae->AH->Option (AV×AH)
 t:IE->ae->AH->Option (Bool×AH)
 b:List IS->ae->AH->Option (AF×ae×AH)
 c:Nat->List AV->List (NM×AV)->AH->Option (AV×AH)
noncomputable def R.none:R:=⟨λ_ _ _=>.none,λ_ _ _=>.none,λ_ _ _=>.none,λ_ _ _ _=>.none⟩
section prims
noncomputable def b6{α β:Type}(f:α->Option β)(l:List α):Option β:=match l with
 | []=>Option.none
 |x::r=>(match r with
  | []=>f x
  |_::_=>Option.none)
def nT{α β:Type}(f:α->α->Option β)(l:List α):Option β:=match l with
 | []=>Option.none
 |x::r=>b6 (f x) r
noncomputable def d7{α β:Type}(x:Option β)(l:List α):Option β:=match l with
 | []=>x
 |_::_=>Option.none
noncomputable def gD{β:Type}(f:Str->Option β)(v:AV):Option β:=match v with
 | .str x=>f x
 |_=>Option.none
noncomputable def fo{β:Type}(f:Int->Option β)(v:AV):Option β:=match v with
 | .int x=>f x
 |_=>Option.none
noncomputable def iD{β:Type}(f:List AV->Option β)(v:AV):Option β:=match v with
 | .lst x=>f x
 |_=>Option.none
noncomputable def ob{α β:Type}(x:Option α)(f:α->Option β):Option β:=match x with
 |some y=>f y
 |Option.none=>Option.none
noncomputable def CY{β:Type}(f:List AV->Option β)(v:AV):Option β:=match v with
 | .tup x=>f x
 |_=>Option.none
noncomputable def f9{β:Type}(f:Nat->Option β)(v:AV):Option β:=match v with
 | .loc x=>f x
 |_=>Option.none
noncomputable def vN{β:Type}(f:UF->Option β)(v:AV):Option β:=match v with
 | .g x=>f x
 |_=>Option.none
noncomputable def vM{β:Type}(f:Nat->AV->Option β)(v:AV):Option β:=match v with
 | .bm g s=>f g s
 |_=>Option.none
noncomputable def Ls{β:Type}(f:Bool->Option β)(v:AV):Option β:=match v with
 | .bool x=>f x
 |_=>Option.none
noncomputable def Bf{β:Type}(f:String->Option β)(u:UF):Option β:=match u with
 | .type s=>f s
 |_=>Option.none
noncomputable def qy{β:Type}(x:Option β)(v:AV):Option β:=match v with
 | .none=>x
 |_=>Option.none
noncomputable def vi{β:Type}(f:Nat->Option β)(u:UF):Option β:=match u with
 | .ref a=>f a
 |_=>Option.none
noncomputable def eS{β:Type}(f:List AV->Option β)(o:AO):Option β:=match o with
 | .list l=>f l
 |_=>Option.none
noncomputable def iC{β:Type}(f:Nat->Nat->Option β)(o:AO):Option β:=match o with
 | .inst c d=>f c d
 |_=>Option.none
noncomputable def qv{β:Type}(f:List (NM×AV)->Option β)(o:AO):Option β:=match o with
 | .dict fs=>f fs
 |_=>Option.none
noncomputable def ah{α β γ:Type}(x:Option (α×β))(f:α->β->Option γ):Option γ:=match x with
 |some (a,b)=>f a b
 |Option.none=>Option.none
noncomputable def dX{α β γ δ:Type}(x:Option (α×β×γ))(f:α->β->γ->Option δ):Option δ:=match x with
 |some (a,b,c)=>f a b c
 |Option.none=>Option.none
noncomputable def aw{α:Type}(c:Bool)(x:Option α):Option α:=match c with
 |true=>x
 |false=>Option.none
def bA{α:Type}(c:Prop)[Decidable c](x:Option α):Option α:=aw (decide c) x
noncomputable def aW(n:Nat):Bool:=WL n 1000000
noncomputable def m9(n:Nat)(o:Option AO):AV:=match o with
 |some x=>(match x with | .list l=>.lst l|_=>.loc n)
 |Option.none=>.loc n
def au(H:AH)(v:AV):AV:=match v with
 | .loc n=>m9 n H[n]?
 |v=>v
def rW(v:AV):Option Bool:=match v with
 | .none=>some false
 | .bool b=>some b
 | .int i=>some (i !=0)
 | .str s=>aw (aW s.length) (some (s.length !=0))
 | .lst l=>aw (aW l.length) (some (l.length !=0))
 |_=>Option.none
def truthy(H:AH)(v:AV):Option Bool:=rW (au H v)
noncomputable def bY(f:AV->AV->Option Bool):List AV->List AV->Option Bool
 | [],r=>some r.isEmpty
 |a::l,r=>(match r with
  | []=>some false
  |b::r=>ob (f a b) λx=>ob (bY f l r) λy=>some (x&&y))
def wf(a b:AV):Option Bool:=match a with
 | .none=>qy (some true) b
 | .int x=>fo (λy=>some (decide (x=y))) b
 | .str x=>gD (λy=>some (decide (x=y))) b
 |_=>Option.none
def LQ(f:AV->AV->Option Bool)(a b:AV):Option Bool:=match a with
 | .tup x=>CY (bY f x) b
 | .lst x=>iD (bY f x) b
 |_=>wf a b
def dB:Nat->AV->AV->Option Bool
 |0=>wf
 |n+1=>LQ (dB n)
def ct(a b:AV):Option Bool:=match a with
 | .none=>Option.none
 |_=>dB 6 a b
def getL{α:Type}(l:List α)(i:Int):Option α:=match i with
 | .ofNat n=>aw (WL (n+1) 1000000) l[n]?
 | .negSucc _=>Option.none
noncomputable def cutL{α:Type}(l:List α)(lo hi:Option Int):List α:=
 (l.drop (W.kms_lo lo l.length)).take (W.kms_hi hi l.length-W.kms_lo lo l.length)
noncomputable def fH(s:Str):List AV:=s.cps.toList.map λc=>.str ⟨#[c]⟩
def I7(op:VK)(x y:Int):Option AV:=match op with
 | .Add=>some (.int (x+y))
 | .Sub=>some (.int (x-y))
 | .Mult=>bA (x.natAbs<2^60) (some (.int (x*y)))
 | .FloorDiv=>bA (y≠0/\y.natAbs<1000000000) (some (.int (x.fdiv y)))
 | .Mod=>bA (y≠0) (some (.int (x.fmod y)))
 | .Pow=>bA (0<=y/\y<20/\x.natAbs<100) (some (.int (x^y.toNat)))
 | .LShift=>bA (0<=y/\y<=1000/\x.natAbs<2^64) (some (.int (x*2^y.toNat)))
 | .RShift=>bA (0<=y) (some (.int (x.fdiv (2^y.toNat))))
 | .BitAnd=>some (.int (VJ x y))
 | .BitOr=>some (.int (WY x y))
 | .BitXor=>some (.int (W9 x y))
 |_=>Option.none
noncomputable def vp:VK->Bool | .Add=>true|_=>false
noncomputable def BM:VK->Bool | .Mult=>true|_=>false
def sf(op:VK)(a b:AV):Option AV:=match a with
 | .int x=>fo (I7 op x) b
 | .str x=>(match b with
  | .str y=>aw (vp op&&aW (x.length+y.length)) (some (.str (x++y)))
  | .int n=>aw (BM op&&decide (0<=n/\n<=1000/\x.length<=1000)) (some (.str (Txt.mul x n)))
  |_=>Option.none)
 | .lst x=>(match b with
  | .lst y=>aw (vp op&&aW (x.length+y.length)) (some (.lst (x++y)))
  | .int n=>aw (BM op&&decide (0<=n/\n<=1000/\x.length<=1000)) (some (.lst (U2 n.toNat x).flatten))
  |_=>Option.none)
 |_=>Option.none
def bp(H:AH)(op:VK)(a b:AV):Option AV:=sf op (au H a) (au H b)
def R6(op:VK)(x y:Int):Option AV:=match op with
 | .BitXor=>some (.int (W9 x y))
 | .BitOr=>some (.int (WY x y))
 | .LShift=>bA (0<=y/\y<=1000/\x.natAbs<2^64) (some (.int (x*2^y.toNat)))
 | .Add=>some (.int (x+y))
 |_=>Option.none
def iS(op:VK)(a b:AV):Option AV:=match a with
 | .int x=>fo (R6 op x) b
 | .str x=>gD (λy=>aw (vp op&&aW (x.length+y.length)) (some (.str (x++y)))) b
 |_=>Option.none
def bV:List AV->Option (List Int)
 | []=>some []
 |x::l=>fo (λs=>ob (bV l) λr=>some (s::r)) x
def jW:List AV->Option (List (List Int))
 | []=>some []
 |x::l=>CY (λt=>ob (bV t) λa=>ob (jW l) λr=>some (a::r)) x
def RI(v:AV)(l:List AV):Option Bool:=CY (λt=>ob (bV t) λa=>ob (jW l) λr=>some (r.any λx=>decide (x=a))) v
def v4(f:Int->Int->Bool)(a b:AV):Option Bool:=fo (λx=>fo (λy=>some (f x y)) b) a
def yw(x y:UF):Option Bool:=Bf (λs=>Bf (λt=>some (s==t)) y) x
def Mi(a b:AV):Option Bool:=match a with
 | .none=>qy (some true) b
 | .g x=>vN (yw x) b
 |_=>Option.none
noncomputable def s8:AV->Option Bool
 | .none=>some false
 | .lst _=>some true
 | .loc _=>some true
 | .bm _ _=>some true
 | .clo _ _=>some true
 |_=>Option.none
def wL(a b:AV):Option Bool:=match b with
 | .none=>s8 a
 | .bool y=>Ls (λx=>some (x !=y)) a
 | .g y=>vN (λx=>ob (yw x y) λb=>some !b) a
 |_=>Option.none
def I4(T:c8)(a x y:AV):Option Bool:=match y with
 | .lst l=>RI a l
 | .str t=>gD (λs=>some (Yb t s)) x
 | .g u=>vi (λd=>gD (λs=>bA (d=T.exact) (some (T.exactTab.lookup s).isSome)) x) u
 |_=>Option.none
def ia(T:c8)(H:AH)(op:CmpOp)(a b:AV):Option Bool:=match op with
 | .Eq=>ct (au H a) (au H b)
 | .NotEq=>ob (ct (au H a) (au H b)) λb=>some !b
 | .Lt=>v4 (λx y=>decide (x<y)) (au H a) (au H b)
 | .LtE=>v4 (λx y=>decide (x<=y)) (au H a) (au H b)
 | .Gt=>v4 (λx y=>decide (y<x)) (au H a) (au H b)
 | .GtE=>v4 (λx y=>decide (y<=x)) (au H a) (au H b)
 | .Is=>Mi (au H a) (au H b)
 | .IsNot=>wL (au H a) (au H b)
 | .In=>I4 T a (au H a) (au H b)
 | .NotIn=>Option.none
noncomputable def BO:AV->Option String
 | .str _=>some "str"
 | .lst _=>some "list"
 |_=>Option.none
def jU:List AV->Option (List Str)
 | []=>some []
 |x::l=>gD (λs=>ob (jU l) λr=>some (s::r)) x
noncomputable def qg(x:NM)(v:AV):List (NM×AV)->List (NM×AV)
 | []=>[(x,v)]
 |(y,u)::l=>if y=x then(y,v)::l else(y,u)::qg x v l
noncomputable def fL:List Int->List Int->Bool
 | [],_::_=>true
 |a::l,b::r=>if a=b then fL l r else decide (a<b)
 |_,_=>false
noncomputable def dE{α:Type}(cmp:Nat->Nat->Bool):W.KasT α->α
 | .ret a=>a
 | .ask i j k=>dE cmp (k (cmp i j))
def ot(l:List AV)(rows:List (List Int)):List AV:=
 if rows.length<2 then l else(dE (λi j=>fL (rows.getD i []) (rows.getD j [])) (W.kas_sort rows.length)).toList.map λi=>l.getD i .none
def iP:List AV->Option (List (List Int))
 | []=>some []
 |x::l=>iD (λs=>ob (bV s) λa=>ob (iP l) λb=>some (a::b)) x
noncomputable def c6(ρ:ae)(x:Nat)(v:AV):ae:=ρ.set x (some v)
noncomputable def Cy(v:AV):Option (List AV):=match v with
 | .tup l=>some l
 | .lst l=>some l
 |_=>Option.none
def be(t:bD)(v:AV)(ρ:ae):Option ae:=match t with
 | .one x=>some (c6 ρ x v)
 | .many l=>nT (λx y=>ob (Cy v) (nT λa b=>some (c6 (c6 ρ x a) y b))) l
end prims
inductive aB where
 |items (l:List AV)
 |pairs (l:List AV)
 |locl (n k:Nat)
 |zip (a b:aB)
 |cit (n:Nat)
noncomputable def dP(c:Nat):Bool:=c<=31||c==127
noncomputable def bP(c:Nat):Bool:=c<=8||(10<=c&&c<=31)||c==127
section ev
variable (T:c8)(r:R)
def cj:List IE->ae->AH->Option (List AV×AH)
 | [],_,H=>some ([],H)
 |e::l,ρ,H=>ah (r.e e ρ H) λv H=>ah (cj l ρ H) λvs H=>some (v::vs,H)
def jZ:List (NM×IE)->ae->AH->Option (List (NM×AV)×AH)
 | [],_,H=>some ([],H)
 |p::l,ρ,H=>ah (r.e p.2 ρ H) λv H=>ah (jZ l ρ H) λvs H=>some ((p.1,v)::vs,H)
def bk:List IE->ae->AH->Option (Bool×AH)
 | [],_,H=>some (true,H)
 |e::l,ρ,H=>ah (r.t e ρ H) λb H=>bif b then bk l ρ H else some (false,H)
def ej:List IE->ae->AH->Option (Bool×AH)
 | [],_,H=>some (false,H)
 |e::l,ρ,H=>ah (r.t e ρ H) λb H=>bif b then some (true,H) else ej l ρ H
def jY:List IE->ae->AH->Option (AV×AH)
 | [],_,_=>Option.none
 |e::l,ρ,H=>bif l.isEmpty then r.e e ρ H else ah (r.e e ρ H) λv H=>ob (truthy H v) λb=>bif b then jY l ρ H else some (v,H)
inductive BI where
 |iter|next|len|sum|hex|chr|ord|sorted
noncomputable def BI.txt:BI->String
 | .iter=>"iter" | .next=>"next" | .len=>"len" | .sum=>"sum" | .hex=>"hex" | .chr=>"chr" | .ord=>"ord" | .sorted=>"sorted"
noncomputable def IN:List (String×BI):=[("iter",.iter),("next",.next),("len",.len),("sum",.sum),("hex",.hex),("chr",.chr),("ord",.ord),("sorted",.sorted)]
def Qn(H:AH)(f s:AV):Option (AV×AH):=vM (λg self=>some (.loc H.length,H++[.citer (.bm g self) s])) f
def I8(args:List AV)(H:AH):Option (AV×AH):=match args with
 | []=>Option.none
 |x::r=>(match r with
  | []=>iD (λl=>some (.loc H.length,H++[.liter l 0])) x
  |y::r=>d7 (Qn H x y) r)
noncomputable def B3(n:Nat)(o:AO)(H:AH):Option (AV×AH):=match o with
 | .liter l k=>ob l[k]? λv=>some (v,H.set n (.liter l (k+1)))
 |_=>Option.none
def Jh(v:AV)(H:AH):Option (AV×AH):=f9 (λn=>ob H[n]? λo=>B3 n o H) v
def O7(s:Str):Option Int:=b6 (λ(c:Nat)=>some (c:Int)) s.cps.toList
noncomputable def Bt(i:Int):Bool:=match i with
 | .ofNat n=>WL n 1114111
 | .negSucc _=>false
def Lx(b:BI)(args:List AV)(H:AH):Option (AV×AH):=match b with
 | .iter=>I8 args H
 | .next=>b6 (λv=>Jh v H) args
 | .len=>b6 (λv=>iD (λl=>aw (aW l.length) (some (.int l.length,H))) (au H v)) args
 | .sum=>b6 (λv=>iD (λl=>ob (bV l) λis=>some (.int is.sum,H)) (au H v)) args
 | .hex=>b6 (fo λi=>aw (aW (baseText "0x" 16 i).length) (some (.str (baseText "0x" 16 i),H))) args
 | .chr=>b6 (fo λi=>aw (Bt i) (some (.str ⟨#[i.toNat]⟩,H))) args
 | .ord=>b6 (gD λs=>ob (O7 s) λi=>some (.int i,H)) args
 | .sorted=>b6 (λv=>iD (λl=>ob (iP l) λrows=>bA (rows.length<6/\rows.all (λx=>aW x.length)) (some (.lst (ot l rows),H))) (au H v)) args
def Uv(id:String)(args:List AV)(H:AH):Option (AV×AH):=aw (id=="type") (b6 (λv=>ob (BO (au H v)) λk=>some (.g (.type k),H)) args)
def PZ(u:UF)(args:List AV)(kws:List (NM×AV))(H:AH):Option (AV×AH):=match u with
 | .ref a=>(match T.init a with
  |some i=>ah (r.c i (.loc (H.length+1)::args) kws (H++[.dict [],.inst a H.length])) λd H'=>qy (some (.loc (H.length+1),H')) d
  |Option.none=>r.c a args kws H)
 | .builtin id=>d7 (ob (IN.lookup id) λb=>Lx b args H) kws
 | .type id=>d7 (Uv id args H) kws
 |_=>Option.none
def bj(f:AV)(args:List AV)(kws:List (NM×AV))(H:AH):Option (AV×AH):=match f with
 | .g u=>PZ T r u args kws H
 | .bm a self=>r.c a (self::args) kws H
 | .clo k caps=>d7 (ob (T.lam k) λl=>bA (args.length=l.pos) (r.e l.body ((args++caps).map some) H)) kws
 |_=>Option.none
def wj{β:Type}(H:AH)(n:Nat)(f:Nat->Nat->List (NM×AV)->Option β):Option β:=ob H[n]? (iC λc d=>ob H[d]? (qv (f c d)))
def Ja(s:Str)(l:List AV):Option AV:=ob (jU l) λts=>aw (aW ((ts.map WD).sum+ts.length*s.length)) (some (.str (WT s ts)))
noncomputable def nl(s y:Str):Option AV:=ob (Wi s y 0 s.length 1).head? λi=>some (.int i)
def i6(s:Str)(m:NM)(args:List AV)(H:AH):Option AV:=match m with
 | .join=>b6 (λv=>iD (Ja s) (au H v)) args
 | .split=>b6 (gD λy=>aw (!(y.length==0)&&aW s.length) (some (.lst ((YQ s y).map .str)))) args
 | .lower=>d7 (aw (aW s.length) (some (.str (UT s)))) args
 | .upper=>d7 (aw (aW s.length) (some (.str (Vj s)))) args
 | .count=>b6 (gD λy=>some (.int (Txt.count s y))) args
 | .index=>b6 (gD (nl s)) args
 |_=>Option.none
inductive RM where
 |str (s:Str)
 |list (n:Nat)
 |fn (f:Nat)
 |val (v:AV)
 |tab
 |rx (k:Bool)
noncomputable def Ef(v:AV):Bool:=match v with
 | .g _=>false
 |_=>true
noncomputable def rc(m:NM):Bool:=match m with
 | .join | .split | .lower | .upper | .count | .index=>true
 |_=>false
noncomputable def Qq(m:NM)(n:Nat):Option RM:=match m with
 | .append=>some (.list n)
 | .pop=>some (.list n)
 |_=>Option.none
def I6(c:Nat)(m:NM)(fs:List (NM×AV)):Option RM:=match fs.lookup m with
 |Option.none=>ob (T.meth c m) λf=>some (.fn f)
 |some v=>aw (Ef v&&(T.meth c m).isNone) (some (.val v))
def Cp(m:NM)(n:Nat)(H:AH)(o:AO):Option RM:=match o with
 | .list _=>Qq m n
 | .inst c d=>ob H[d]? (qv (I6 T c m))
 |_=>Option.none
def Ql(a:Nat)(m:NM):Option RM:=match m with
 | .get=>bA (a=T.flags) (some .tab)
 | .search=>if a=T.rx1 then some (.rx true) else bA (a=T.rx2) (some (.rx false))
 |_=>Option.none
def fc(o:AV)(m:NM)(H:AH):Option RM:=match o with
 | .str s=>aw (rc m) (some (.str s))
 | .loc n=>ob H[n]? (Cp T m n H)
 | .g u=>vi (λa=>Ql T a m) u
 |_=>Option.none
def Pa(n:Nat)(l:List AV)(H:AH)(i:Int):Option (AV×AH):=match l with
 | []=>Option.none
 |x::q=>bA (i=0/\aW q.length=true) (some (x,H.set n (.list q)))
def vr(n:Nat)(m:NM)(args:List AV)(H:AH)(l:List AV):Option (AV×AH):=match m with
 | .append=>b6 (λv=>aw (aW l.length) (some (.none,H.set n (.list (l++[v]))))) args
 | .pop=>b6 (fo (Pa n l H)) args
 |_=>Option.none
def ym(k:Bool)(s:Str):Bool:=!s.cps.toList.any (match k with|true=>dP|false=>bP)
def eN(q:RM)(o:AV)(m:NM)(args:List AV)(kws:List (NM×AV))(H:AH):Option (AV×AH):=match q with
 | .str s=>d7 (ob (i6 s m args H) λv=>some (v,H)) kws
 | .list n=>d7 (ob H[n]? (eS (vr n m args H))) kws
 | .fn f=>r.c f (o::args) kws H
 | .val v=>bj T r v args kws H
 | .tab=>d7 (nT (λa b=>fo (λi=>gD (λdv=>some (.str ((T.flagTab.lookup i).getD dv),H)) b) a) args) kws
 | .rx k=>d7 (b6 (gD λs=>aw (ym k s) (some (.none,H))) args) kws
def Bg(o:AV)(m:NM)(c:Nat)(fs:List (NM×AV)):Option AV:=match fs.lookup m with
 |some v=>aw (Ef v&&(T.meth c m).isNone) (some v)
 |Option.none=>ob (T.meth c m) λf=>some (.bm f o)
def Bh(o:AV)(m:NM)(H:AH):Option AV:=f9 (λn=>wj H n λc _ fs=>Bg T (.loc n) m c fs) o
def setA(o:AV)(m:NM)(v:AV)(H:AH):Option AH:=f9 (λn=>wj H n λc d fs=>aw ((T.meth c m).isNone&&WL fs.length 20) (some (H.set d (.dict (qg m v fs))))) o
def CH(o:AV)(k:Int):Option AV:=match o with
 | .lst l=>getL l k
 | .tup l=>getL l k
 | .str s=>ob (getL s.cps.toList k) λc=>some (.str ⟨#[c]⟩)
 |_=>Option.none
def TP(o:AV)(s:Str):Option AV:=vN (vi λd=>bA (d=T.exact) (ob (T.exactTab.lookup s) λi=>some (.int i))) o
def c7(o i:AV)(H:AH):Option AV:=match i with
 | .int k=>CH (au H o) k
 | .str s=>TP T o s
 |_=>Option.none
def rH:Option AV->Option (Option Int)
 |Option.none=>some Option.none
 |some v=>fo (λi=>some (some i)) v
def zi:Option IE->ae->AH->Option (Option AV×AH)
 |Option.none,_,H=>some (Option.none,H)
 |some e,ρ,H=>ah (r.e e ρ H) λv H=>some (some v,H)
noncomputable def kf(mu:Bool)(l:List AV)(H:AH):AV×AH:=match mu with
 |true=>(.loc H.length,H++[.list l])
 |false=>(.lst l,H)
def eU(mu:Bool)(x:AV)(l h:Option Int)(H:AH):Option (AV×AH):=match x with
 | .lst xs=>aw (aW xs.length) (some (kf mu (cutL xs l h) H))
 | .str s=>aw (aW s.length) (some (.str ⟨(cutL s.cps.toList l h).toArray⟩,H))
 |_=>Option.none
noncomputable def yq(n:Nat)(o:AO):Option aB:=match o with
 | .list _=>some (.locl n 0)
 | .citer _ _=>some (.cit n)
 |_=>Option.none
def lV(v:AV)(H:AH):Option aB:=match v with
 | .lst l=>some (.items l)
 | .tup l=>some (.items l)
 | .str s=>some (.items (fH s))
 | .loc n=>ob H[n]? (yq n)
 |_=>Option.none
def CV(v:AV)(H:AH):Option aB:=match v with
 | .lst l=>some (.items l)
 | .loc n=>ob H[n]? (eS λ_=>some (.locl n 0))
 |_=>Option.none
noncomputable def gS(a b:Int):List AV:=(UD (b-a).toNat).map λ(i:Nat)=>.int (a+(i:Int))
noncomputable def eh(l:List AV):List AV:=(UD l.length).zip l |>.map λp=>.tup [.int p.1,p.2]
noncomputable def rp(v:AV):Bool:=match v with
 | .tup _=>false
 |_=>true
noncomputable def r8{β:Type}(f:List AV->Option β)(s:aB):Option β:=match s with
 | .items l=>f l
 |_=>Option.none
def gH(it:IE):Option (String×List IE):=match it with
 | .call f args kws=>(match f with
  | .glob _ v=>vN (Bf λx=>d7 (some (x,args)) kws) v
  |_=>Option.none)
 |_=>Option.none
def CD(args:List IE)(ρ:ae)(H:AH):Option (aB×AH):=match args with
 | []=>Option.none
 |x::l=>(match l with
  | []=>ah (r.e x ρ H) λv H=>fo (λn=>bA (0<=n/\n<=1000) (some (.items (gS 0 n),H))) v
  |y::l=>d7 (ah (r.e x ρ H) λv H=>fo (λm=>ah (r.e y ρ H) λu H=>fo (λn=>bA (0<=m/\m<=1000/\0<=n/\n<=1000) (some (.items (gS m n),H))) u) v) l)
def Tz(args:List IE)(ρ:ae)(H:AH):Option (aB×AH):=b6 (λx=>ah (r.e x ρ H) λv H=>aw (rp v) (ob (lV v H) (r8 λl=>aw (aW l.length) (some (.pairs (eh l),H))))) args
def TA(args:List IE)(ρ:ae)(H:AH):Option (aB×AH):=nT (λx y=>ah (r.e x ρ H) λv H=>ah (r.e y ρ H) λu H=>ob (CV v H) λa=>ob (CV u H) λb=>some (.zip a b,H)) args
def Iv(it:IE)(ρ:ae)(H:AH):Option (aB×AH):=ah (r.e it ρ H) λv H=>ob (lV v H) λs=>some (s,H)
def aO(it:IE)(ρ:ae)(H:AH):Option (aB×AH):=match gH it with
 |Option.none=>Iv r it ρ H
 |some p=>bif p.1=="range" then CD r p.2 ρ H else bif p.1=="enumerate" then Tz r p.2 ρ H else bif p.1=="zip" then TA r p.2 ρ H else Iv r it ρ H
noncomputable def ig(s:aB):Bool:=match s with
 | .pairs _=>true
 | .zip _ _=>true
 |_=>false
noncomputable def gf(t:bD):Bool:=match t with
 | .one _=>true
 | .many _=>false
def dj(t:bD)(s:aB):Bool:=!(gf t&&ig s)
noncomputable def lO:aB->Bool
 | .cit _=>false
 |_=>true
noncomputable def fY(l:List AV):Option (AV×List AV):=match l with
 | []=>Option.none
 |x::r=>some (x,r)
def kK(n:Nat)(v:AV)(H:AH)(o:AO):Option (Option (AV×aB)×AH):=match o with
 | .citer f s=>vM (λg _=>gD (λx=>gD (λy=>bif decide (x=y) then aw (T.fn g).isSome (some (Option.none,H.set n .gone)) else some (some (v,.cit n),H)) v) s) f
 |_=>Option.none
def m6(n:Nat)(H:AH)(o:AO):Option (Option (AV×aB)×AH):=match o with
 | .citer f _=>vM (λg self=>ah (bj T r (.bm g self) [] [] H) λv H=>ob H[n]? (kK T n v H)) f
 | .gone=>some (Option.none,H)
 |_=>Option.none
def CU(p q:Option (AV×aB)):Option (AV×aB):=ah p λx s=>ah q λy t=>some (.tup [x,y],.zip s t)
def aX:aB->AH->Option (Option (AV×aB)×AH)
 | .items l,H=>some ((fY l).map λx=>(x.1,.items x.2),H)
 | .pairs l,H=>some ((fY l).map λx=>(x.1,.pairs x.2),H)
 | .locl n k,H=>ob H[n]? (eS λl=>some ((l[k]?).map λv=>(v,.locl n (k+1)),H))
 | .zip a b,H=>ah (aX a H) λp H=>ah (aX b H) λq H=>some (CU p q,H)
 | .cit n,H=>ob H[n]? (m6 T r n H)
def bJ(t:bD)(ifs:List IE)(go:ae->AH->Option (List AV×AH))(v:AV)(ρ:ae)(H:AH):Option (List AV×AH):=
 ob (be t v ρ) λρ=>ah (bk r ifs ρ H) λb H=>bif b then go ρ H else some ([],H)
def bI(f:AV->AH->Option (List AV×AH)):List AV->AH->Option (List AV×AH)
 | [],H=>some ([],H)
 |x::l,H=>ah (f x H) λa H=>ah (bI f l H) λb H=>some (a++b,H)
def cC(f:AV->AH->Option (List AV×AH)):Nat->aB->AH->Option (List AV×AH)
 |0,_,_=>Option.none
 |k+1,s,H=>ah (aX T r s H) λp H=>p.elim (some ([],H)) λx=>ah (f x.1 H) λa H=>ah (cC f k x.2 H) λb H=>some (a++b,H)
def sq(f:AV->AH->Option (List AV×AH))(s:aB)(H:AH):Option (List AV×AH):=match s with
 | .items l=>bI f l H
 | .pairs l=>bI f l H
 |s=>cC T r f 1000 s H
noncomputable def i7:bD->Nat
 | .one _=>1
 | .many l=>l.length
def ao(elt:IE):List IG->ae->AH->Option (List AV×AH)
 | [],ρ,H=>ah (r.e elt ρ H) λv H=>some ([v],H)
 | .mk t it ifs::gs,ρ,H=>ah (aO r it ρ H) λs H=>aw (dj t s&&lO s) (sq T r (λv H=>bJ r t ifs (λρ H=>ao elt gs ρ H) v (ρ++U2 (i7 t) Option.none) H) s H)
def FH(k:Nat)(v:AV)(H:AH)(o:AO):Option (AV×AH):=match o with
 | .tab j=>bA (j=k) (some (.clo k [v],H))
 |_=>Option.none
noncomputable def EY{β:Type}(f:List (NM×AV)->Option β)(v:AV):Option β:=match v with
 | .kwd l=>f l
 |_=>Option.none
noncomputable def CQ(ρ:ae)(x:Nat):Option AV:=ob ρ[x]? id
def bW(ie:IE)(ρ:ae)(H:AH):Option (AV×AH):=match ie with
 | .con v=>some (v,H)
 | .glob _ v=>some (v,H)
 | .var x=>ob (CQ ρ x) λv=>some (v,H)
 | .bin op a b=>ah (r.e a ρ H) λx H=>ah (r.e b ρ H) λy H=>ob (bp H op x y) λv=>some (v,H)
 | .neg a=>ah (r.e a ρ H) λx H=>fo (λi=>some (.int (-i),H)) x
 | .not a=>ah (r.e a ρ H) λx H=>ob (truthy H x) λb=>some (.bool (!b),H)
 | .cmp op a b=>ah (r.e a ρ H) λx H=>ah (r.e b ρ H) λy H=>ob (ia T H op x y) λb=>some (.bool b,H)
 | .and l=>jY r l ρ H
 | .or _=>Option.none
 | .ite c a b=>ah (r.t c ρ H) λt H=>bif t then r.e a ρ H else r.e b ρ H
 | .list mu l=>ah (cj r l ρ H) λvs H=>some (kf mu vs H)
 | .tup l=>ah (cj r l ρ H) λvs H=>some (.tup vs,H)
 | .sub a i=>ah (r.e a ρ H) λx H=>ah (r.e i ρ H) λy H=>ob (c7 T x y H) λv=>some (v,H)
 | .slice mu a lo hi=>ah (r.e a ρ H) λx H=>ah (zi r lo ρ H) λl H=>ah (zi r hi ρ H) λh H=>ob (rH l) λl=>ob (rH h) λh=>eU mu (au H x) l h H
 | .comp mu elt gens=>ah (ao T r elt gens ρ H) λvs H=>aw (aW vs.length) (some (kf mu vs H))
 | .call f args kws=>ah (r.e f ρ H) λfv H=>ah (cj r args ρ H) λvs H=>ah (jZ r kws ρ H) λks H=>bj T r fv vs ks H
 | .callS f args st=>ah (r.e f ρ H) λfv H=>ah (cj r args ρ H) λvs H=>ah (r.e st ρ H) λkv H=>EY (λl=>aw (WL l.length 1) (bj T r fv vs l H)) kv
 | .meth o m args kws=>ah (r.e o ρ H) λov H=>ob (fc T ov m H) λq=>ah (cj r args ρ H) λvs H=>ah (jZ r kws ρ H) λks H=>eN T r q ov m vs ks H
 | .attr o m=>ah (r.e o ρ H) λov H=>ob (Bh T ov m H) λv=>some (v,H)
 | .lam k caps=>b6 (λx=>ob (CQ ρ x) λv=>ob H[k]? (FH k v H)) caps
def tN(ie:IE)(ρ:ae)(H:AH):Option (Bool×AH):=ah (r.e ie ρ H) λv H=>ob (truthy H v) λb=>some (b,H)
def lW(ie:IE)(ρ:ae)(H:AH):Option (Bool×AH):=match ie with
 | .not a=>ah (r.t a ρ H) λb H=>some (!b,H)
 | .and l=>bk r l ρ H
 | .or l=>ej r l ρ H
 | .ite c a b=>ah (r.t c ρ H) λt H=>bif t then r.t a ρ H else r.t b ρ H
 |ie=>tN r ie ρ H
noncomputable def gW(f:AF)(ρ:ae)(H:AH)(x:Option (AF×ae×AH)):Option (AF×ae×AH):=match f with
 | .next=>x
 | .cont=>x
 | .brk=>some (.next,ρ,H)
 | .ret v=>some (.ret v,ρ,H)
def cL(c:ae->AH->Option (Bool×AH))(b:ae->AH->Option (AF×ae×AH)):Nat->ae->AH->Option (AF×ae×AH)
 |0,_,_=>Option.none
 |k+1,ρ,H=>ah (c ρ H) λt H=>bif t then dX (b ρ H) λf ρ H=>gW f ρ H (cL c b k ρ H) else some (.next,ρ,H)
def bM(t:bD)(b o:ae->AH->Option (AF×ae×AH)):List AV->ae->AH->Option (AF×ae×AH)
 | [],ρ,H=>o ρ H
 |x::l,ρ,H=>ob (be t x ρ) λρ=>dX (b ρ H) λf ρ H=>gW f ρ H (bM t b o l ρ H)
def bo(t:bD)(b o:ae->AH->Option (AF×ae×AH)):Nat->aB->ae->AH->Option (AF×ae×AH)
 |0,_,_,_=>Option.none
 |k+1,s,ρ,H=>ah (aX T r s H) λp H=>p.elim (o ρ H) λx=>ob (be t x.1 ρ) λρ=>dX (b ρ H) λf ρ H=>gW f ρ H (bo t b o k x.2 ρ H)
def lJ(t:bD)(b o:ae->AH->Option (AF×ae×AH))(s:aB)(ρ:ae)(H:AH):Option (AF×ae×AH):=match s with
 | .items l=>bM t b o l ρ H
 | .pairs l=>bM t b o l ρ H
 |s=>bo T r t b o 1000 s ρ H
def am(st:IS)(ρ:ae)(H:AH):Option (AF×ae×AH):=match st with
 | .expr e=>ah (r.e e ρ H) λ_ H=>some (.next,ρ,H)
 | .set x e=>ah (r.e e ρ H) λv H=>some (.next,c6 ρ x v,H)
 | .aug x op e=>ob (CQ ρ x) λu=>ah (r.e e ρ H) λv H=>ob (iS op u v) λy=>some (.next,c6 ρ x y,H)
 | .setA o m e=>ah (r.e e ρ H) λv H=>ah (r.e o ρ H) λov H=>ob (setA T ov m v H) λH=>some (.next,ρ,H)
 | .augA o m op e=>ah (r.e o ρ H) λov H=>ob (Bh T ov m H) λu=>ah (r.e e ρ H) λv H=>ob (iS op u v) λy=>ob (setA T ov m y H) λH=>some (.next,ρ,H)
 | .setI o i e=>ah (r.e e ρ H) λv H=>ah (r.e o ρ H) λov H=>f9 (λn=>ah (r.e i ρ H) λk H=>ob H[n]? (iC λc _=>ob (T.setI c) λf=>ah (r.c f [.loc n,k,v] [] H) λ_ H=>some (.next,ρ,H))) ov
 | .setAll o e=>ah (r.e e ρ H) λv H=>iD (λl=>ah (r.e o ρ H) λov H=>f9 (λn=>ob H[n]? (eS λl0=>aw (aW l0.length&&aW l.length) (some (.next,ρ,H.set n (.list l))))) ov) v
 | .delI o i=>ah (r.e o ρ H) λov H=>f9 (λn=>ah (r.e i ρ H) λk H=>ob H[n]? (iC λc _=>ob (T.delI c) λf=>ah (r.c f [.loc n,k] [] H) λ_ H=>some (.next,ρ,H))) ov
 | .ret e=>ah (r.e e ρ H) λv H=>some (.ret v,ρ,H)
 | .ite c a b=>ah (r.t c ρ H) λt H=>bif t then r.b a ρ H else r.b b ρ H
 | .wh c b=>cL (r.t c) (r.b b) 1000 ρ H
 | .fr t it b o=>ah (aO r it ρ H) λs H=>aw (dj t s) (lJ T r t (r.b b) (r.b o) s ρ H)
 | .brk=>some (.brk,ρ,H)
 | .cont=>some (.cont,ρ,H)
 | .stop=>Option.none
noncomputable def jA(f:AF)(ρ:ae)(H:AH)(x:Option (AF×ae×AH)):Option (AF×ae×AH):=match f with
 | .next=>x
 |f=>some (f,ρ,H)
def ay:List IS->ae->AH->Option (AF×ae×AH)
 | [],ρ,H=>some (.next,ρ,H)
 |s::l,ρ,H=>dX (am T r s ρ H) λf ρ H=>jA f ρ H (ay l ρ H)
def Bn(k:PK)(args:List AV)(kws:List (NM×AV)):Option (List AV):=match k with
 | .std=>d7 (some args) kws
 | .kwo m=>b6 (λp=>bA (p.1=m) (some (args++[p.2]))) kws
 | .kwd=>(match kws with
  | []=>some (args++[.kwd []])
  |p::l=>d7 (bA (p.1= .kDefault) (some (args++[.kwd [p]]))) l)
 | .dfl=>(match kws with
  | []=>some (args++[.none])
  |p::l=>d7 (bA (p.1= .kDefault) (some (args++[p.2]))) l)
def fq(f:bN)(args:List AV)(kws:List (NM×AV)):Option ae:=ob (Bn f.kind args kws) λfull=>bA (full.length=f.pos) (some (full.map some++U2 f.extra Option.none))
noncomputable def pg(f:AF)(H:AH):Option (AV×AH):=match f with
 | .ret v=>some (v,H)
 | .next=>some (.none,H)
 |_=>Option.none
def Rd(a:Nat)(args:List AV)(kws:List (NM×AV))(H:AH):Option (AV×AH):=ob (T.fn a) λf=>ob (fq f args kws) λρ=>dX (r.b f.body ρ H) λf _ H=>pg f H
end ev
def aa(T:c8):Nat->R
 |0=>R.none
 |n+1=>⟨bW T (aa T n),lW (aa T n),ay T (aa T n),Rd T (aa T n)⟩
end
end
set_option genInjectivity false
section
open PySem
section
abbrev ac(n:Int):IE:=.con (.int n)
abbrev cz(s:String):IE:=.glob s (.g (.type s))
abbrev dK(s:String):IE:=.glob s (.g (.builtin s))
abbrev aY(s:String)(n:Nat):IE:=.glob s (.g (.ref n))
noncomputable def tu:IE:=.cmp .Gt (.var 0) (ac 63)
noncomputable def n9:List IS:=[.set 0 (.bin .FloorDiv (.var 0) (ac 64)),.set 1 (.bin .Add (.call (dK "chr") [(.bin .Add (.bin .Add (ac 64) (.bin .Mod (.var 0) (ac 64))) (.bin .Mult (.bin .Mod (.var 0) (ac 2)) (ac 128)))] []) (.var 1))]
noncomputable def yh:IE:=.bin .BitAnd (.var 1) (ac 64)
noncomputable def rM:List IS:=[.aug 2 .LShift (ac 6),.set 1 (.call (dK "next") [(.var 0)] []),.aug 2 .BitOr (.bin .BitAnd (.var 1) (ac 63))]
noncomputable def Iz:IE:=.ite (.cmp .Lt (.var 4) (ac 10)) (.sub (.var 2) (.var 4)) (.bin .Add (.bin .Add (.con (.str (UO #[48,120]))) (.sub (.con (.str (UO #[49,50,52,56]))) (.bin .Mod (.var 4) (ac 4)))) (.bin .Mult (.con (.str (UO #[48]))) (.bin .FloorDiv (.var 4) (ac 4))))
noncomputable def PA:IE:=.and [(.cmp .Lt (.var 4) (ac 32)),(.bin .BitAnd (.bin .RShift (.var 0) (.var 4)) (ac 1))]
noncomputable def En:List IS:=[.expr (.meth (.var 1) .append [(.meth (aY "COMPILER_FLAG_NAMES" 39) .get [(.var 3),(.call (dK "hex") [(.var 3)] [])] [])] []),.aug 0 .BitXor (.var 3),.ite (.not (.var 0)) [.brk] []]
noncomputable def jP:List IS:=[.set 3 (.bin .LShift (ac 1) (.var 2)),.ite (.bin .BitAnd (.var 0) (.var 3)) En []]
noncomputable def rJ:List IS:=[.expr (.meth (.var 1) .append [(.call (dK "hex") [(.var 0)] [])] [])]
noncomputable def lj:List IS:=[.ite (.bin .BitAnd (.bin .RShift (.var 2) (.var 4)) (ac 1)) [.set 2 (.bin .BitOr (.var 2) (.sub (.var 0) (.var 4))),.set 2 (.bin .Sub (.var 2) (.bin .BitAnd (.var 2) (.bin .LShift (ac 1) (.var 1))))] []]
noncomputable def cT:IE:=.call (cz "range") [(ac 5)] []
noncomputable def BR:IE:=.comp false (.var 9) [(.mk (.one 9) (.var 6) [(.cmp .Gt (.bin .Sub (.var 9) (.bin .BitAnd (.var 9) (.var 4))) (ac 0))])]
noncomputable def ww:List IS:=[.ite (.cmp .Eq (.meth (.var 3) .lower [] []) (.var 1)) [.ret (.var 4)] []]
noncomputable def qW:List IS:=[.ite (.cmp .Eq (.var 3) (.con (.str (UO #[34])))) [.ret (.var 1)] [.ite (.cmp .Eq (.var 3) (.con (.str (UO #[92])))) [.set 3 (.meth (.var 0) .readChar [] [])] []],.aug 1 .Add (.var 3)]
noncomputable def oI:List IS:=[.ite (.cmp .In (.var 3) (.attr (.var 0) .whitespace)) [.ret (.var 1)] [.ite (.cmp .Eq (.var 3) (.con (.str (UO #[92])))) [.set 3 (.meth (.var 0) .readChar [] [])] []],.aug 1 .Add (.var 3)]
noncomputable def oH:List IS:=[.ite (.cmp .In (.var 3) (.attr (.var 0) .whitespace)) [.cont] [],.ite (.cmp .Eq (.var 3) (.con (.str (UO #[34])))) [.fr (.one 3) (.var 2) qW []] [.ite (.cmp .Eq (.var 3) (.con (.str (UO #[92])))) [.set 3 (.meth (.var 0) .readChar [] [])] [],.aug 1 .Add (.var 3),.fr (.one 3) (.var 2) oI []]]
noncomputable def vC:IE:=.ite (.or [(.cmp .Eq (.var 4) (ac 1)),(.cmp .In (.var 5) (.var 2))]) (.bin .Add (.con (.str (UO #[92]))) (.var 5)) (.var 5)
noncomputable def v6:IE:=.cmp .In (.slice false (.var 0) none (some (.var 4))) (aY "EXACT_TOKEN_TYPES" 126)
noncomputable def Fd:IS:=.ite (.cmp .In (.slice false (.var 0) none (some (.var 3))) (aY "EXACT_TOKEN_TYPES" 126)) [.expr (.meth (.var 2) .append [(.sub (aY "EXACT_TOKEN_TYPES" 126) (.slice false (.var 0) none (some (.var 3))))] [])] [.ite (.cmp .In (.slice false (.var 0) none (some (.var 3))) (.var 1)) [.expr (.meth (.var 2) .append [(.bin .Add (ac 256) (.meth (.var 1) .index [(.slice false (.var 0) none (some (.var 3)))] []))] [])] []]
noncomputable def I9:IE:=.not (.call (aY "ISEOF" 149) [(.sub (.var 0) (ac 0))] [])
noncomputable def DG:List IS:=[.expr (.meth (.var 2) .append [(.ite (.cmp .Eq (.sub (.var 0) (ac 1)) (.sub (.var 1) (ac 0))) (.tup [(.bin .Sub (.sub (.var 0) (ac 0)) (ac 256)),(.bin .Sub (.sub (.var 0) (ac 2)) (ac 256))]) (.tup [(.bin .Sub (.sub (.var 0) (ac 2)) (ac 256)),(.bin .Sub (.sub (.var 0) (ac 0)) (ac 256))]))] []),.set 0 (.slice false (.var 0) (some (ac 3)) none)]
noncomputable def IT:List IS:=[.expr (.meth (.var 0) .convert [(.var 2)] [(.kName,(.con (.bool true)))]),.expr (.meth (.var 0) .convert [(.var 3)] [(.kName,(.con (.bool false)))])]
noncomputable def JC:List IS:=[.setI (.var 4) (.var 6) (.bin .Add (.call (aY "_law_octets" 300) [(.bin .LShift (ac 1) (.bin .Add (.var 3) (.var 5)))] []) (.call (aY "_law_octets" 300) [(.bin .LShift (.sub (.var 2) (.var 5)) (.var 3))] []))]
noncomputable def BX:IE:=.bin .Add (.list false [(.var 13)]) (.call (aY "_law_block" 305) [(.var 14)] [])
noncomputable def Gi:IS:=.set 5 (.meth (.var 0) .getToken [] [])
noncomputable def Gj:IS:=.set 6 (.call (aY "_get_name_info" 76) [(.meth (.var 5) .upper [] []),(.attr (.var 1) .get)] [])
noncomputable def D5:IE:=.comp false (.tup [(.sub (.var 13) (ac 0)),(.sub (.var 13) (ac 1))]) [(.mk (.one 13) (.var 7) [])]
noncomputable def Gk:IS:=.set 8 (.call (aY "_law_block" 305) [(.sub (.var 6) (ac 0))] [])
noncomputable def BY:IS:=.set 2 (.slice false (.var 2) (some (ac 1)) none)
noncomputable def D4:IE:=.comp false (.var 13) [(.mk (.one 13) (.var 7) [(.and [(.cmp .NotEq (.sub (.var 13) (ac 1)) (.sub (.var 8) (ac 0))),(.cmp .Gt (.bin .BitAnd (.sub (.var 13) (ac 2)) (.sub (.var 8) (ac 0))) (ac 0))])])]
noncomputable def nD:IE:=.comp false (.var 13) [(.mk (.one 13) (.var 3) [(.and [(.cmp .NotEq (.sub (.var 13) (ac 1)) (.sub (.var 8) (ac 0))),(.cmp .NotEq (.sub (.var 13) (ac 1)) (.sub (.sub (.var 9) (ac 0)) (ac 1)))])])]
noncomputable def Jf:List IS:=[.expr (.meth (.var 0) .pushToken [(.var 5)] []),.set 2 (.bin .Add (.var 2) (.list false [(.var 5)])),.set 4 (.bin .Add (.var 4) (ac 1))]
noncomputable def MV:IE:=.cmp .Lt (.var 4) (.call (dK "len") [(.var 2)] [])
noncomputable def wW:List IG:=[(.mk (.many [27,28]) (.call (cz "enumerate") [(.var 0)] []) [(.cmp .Eq (.bin .Mod (.var 27) (ac 2)) (.var 25))])]
noncomputable def wX:List IG:=[(.mk (.many [25,26]) (.call (cz "enumerate") [(.list false [(ac 22127),(ac 512806)])] []) [])]
noncomputable def wY:IE:=(.tup [(.var 25),(.bin .Mod (.bin .FloorDiv (.bin .FloorDiv (.sub (.var 1) (ac 0)) (ac 24)) (.bin .Pow (ac 5) (.var 25))) (ac 5))])
noncomputable def DQ:IE:=(.bin .Add (ac 7) (.bin .Mod (.bin .Add (.sub (.var 1) (ac 1)) (.bin .Mult (.var 25) (.sub (.list false [(ac 1),(ac 5),(ac 7),(ac 11)]) (.bin .Mod (.bin .FloorDiv (.sub (.var 1) (ac 1)) (ac 48)) (ac 4))))) (ac 48)))
noncomputable def DS:List IG:=[(.mk (.one 25) (.call (cz "range") [(ac 2)] []) [])]
noncomputable def MF:IS:=.set 3 (.comp false DQ DS)
noncomputable def MI:IS:=.set 4 (.slice false (.bin .Mult (.con (.str (UO #[34,92,35,63,36,95,32,10]))) (ac 2)) (some (.bin .Mod (.bin .FloorDiv (.sub (.var 1) (ac 1)) (ac 192)) (ac 8))) (some (.bin .Add (.bin .Mod (.bin .FloorDiv (.sub (.var 1) (ac 1)) (ac 192)) (ac 8)) (ac 5))))
noncomputable def MM:IS:=.set 5 (.bin .Mod (.bin .FloorDiv (.sub (.var 1) (ac 1)) (ac 3072)) (ac 32))
noncomputable def MN:IS:=.set 6 (.call (aY "_law_operators" 293) [] [])
noncomputable def rh:IE:=(.bin .Add (.bin .Add (.sub (.var 4) (.sub (.var 26) (.bin .Mod (.var 25) (ac 2)))) (.sub (.var 6) (.bin .Sub (.sub (.var 3) (.bin .Mod (.var 25) (ac 2))) (ac 7)))) (.sub (.var 4) (.sub (.var 26) (.bin .Sub (ac 1) (.bin .Mod (.var 25) (ac 2))))))
noncomputable def DT:List IG:=[(.mk (.many [25,26]) (.call (cz "enumerate") [(.var 2)] []) [])]
noncomputable def MO:IS:=.set 7 (.meth (.con (.str (UO #[]))) .join [(.comp false rh DT)] [])
noncomputable def MP:IS:=.set 8 (.bin .Add (.call (aY "_law_written" 315) [(.var 7),(.ite (.cmp .Eq (.bin .Mod (.bin .FloorDiv (.sub (.var 1) (ac 1)) (ac 1536)) (ac 2)) (ac 1)) (.sub (.con (.str (UO #[10,9,13,32]))) (.bin .Mod (.sub (.var 1) (ac 1)) (ac 4))) (.con (.str (UO #[]))))] []) (.con (.str (UO #[34,97]))))
noncomputable def MQ:IS:=.set 9 (.call (aY "_law_lexer" 320) [(.var 8)] [])
noncomputable def MR:IS:=.set 10 (.call (aY "_law_cut" 325) [(.meth (.var 9) .getToken [] []),(.var 4)] [])
noncomputable def sK:List IG:=[(.mk (.many [25,26]) (.call (cz "enumerate") [(.var 2)] []) []),(.mk (.one 27) (.list false [(.bin .Add (ac 256) (.sub (.var 26) (.bin .Mod (.var 25) (ac 2)))),(.sub (.var 3) (.bin .Mod (.var 25) (ac 2))),(.bin .Add (ac 256) (.sub (.var 26) (.bin .Sub (ac 1) (.bin .Mod (.var 25) (ac 2)))))]) [])]
noncomputable def sL:List IG:=[(.mk (.one 25) (.bin .Add (.var 10) (.list false [(ac 255),(.bin .LShift (ac 512) (.var 5)),(.bin .LShift (.neg (ac 1)) (.var 5))])) [(.or [(.cmp .IsNot (.call (aY "ISTERMINAL" 135) [(.var 25)] []) (.cmp .Lt (.var 25) (ac 256))),(.cmp .IsNot (.call (aY "ISNONTERMINAL" 142) [(.var 25)] []) (.cmp .Gt (.var 25) (ac 255))),(.cmp .IsNot (.call (aY "ISEOF" 149) [(.var 25)] []) (.cmp .Eq (.var 25) (ac 0)))])])]
noncomputable def FR:IS:=.set 11 (.call (aY "_law_jumps" 332) [(.var 10),(.var 3)] [])
noncomputable def sN:IE:=(.bin .LShift (ac 1) (.var 26))
noncomputable def FT:IS:=.set 13 (.call (aY "_law_names" 337) [(.var 5),(.bin .FloorDiv (.sub (.var 1) (ac 1)) (ac 393216))] [])
noncomputable def FU:IS:=.set 14 (.list true [(.tup [(.meth (.sub (.var 13) (ac 4)) .upper [] []),(.con (.str (UO #[97])))]),(.tup [(.meth (.sub (.var 13) (ac 4)) .lower [] []),(.con (.str (UO #[97])))])])
noncomputable def FV:IS:=.set 15 (.call (aY "_law_table" 344) [(.var 14),(.var 13),(.var 12),(.var 5)] [])
noncomputable def sO:IE:=(.bin .LShift (ac 1) (.bin .Add (.var 5) (.var 25)))
noncomputable def zO:IE:=(.call (aY "pretty_flags" 46) [(.sub (.var 16) (.bin .Mod (.bin .Mult (.bin .Add (.var 25) (ac 1)) (.bin .Add (ac 1) (.bin .Mod (.bin .FloorDiv (.sub (.var 1) (ac 1)) (ac 98304)) (ac 4)))) (ac 5)))] [])
noncomputable def zP:List IG:=[(.mk (.one 25) (.call (cz "range") [(ac 4)] []) [])]
noncomputable def FW:IS:=.set 17 (.comp false zO zP)
noncomputable def sP:IE:=(.meth (.var 9) .pushToken [(.var 25)] [])
noncomputable def FX:IS:=.set 18 (.attr (.var 9) .lineno)
noncomputable def sQ:List IG:=[(.mk (.many [25,26]) (.call (cz "zip") [(.var 13),(.var 16)] []) [])]
noncomputable def FY:IS:=.set 20 (.meth (.var 15) .items [] [])
noncomputable def FZ:IS:=.expr (.meth (.var 20) .append [(.tup [(.con (.str (UO #[97]))),(.con (.str (UO #[97])))])] [])
noncomputable def sR:IE:=(.call (aY "_law_block" 305) [(.var 26)] [])
noncomputable def zS:List IG:=[(.mk (.many [25,26]) (.meth (.var 15) .items [] []) [])]
noncomputable def F4:IS:=.set 21 (.comp false sR zS)
noncomputable def F5:IS:=.set 22 (.call (aY "_law_left" 371) [(.var 12)] [])
noncomputable def sS:IE:=(.tup [(.sub (.var 25) (ac 0)),(.sub (.var 26) (ac 0))])
noncomputable def sU:List IG:=[(.mk (.many [25,26]) (.call (cz "zip") [(.var 14),(.var 21)] []) [])]
noncomputable def F6:IS:=.ite (.or [(.cmp .NotEq (.var 14) (.meth (.var 15) .items [] [])),(.cmp .NotEq (.comp false sS sU) (.sub (.var 19) (ac 1)))]) [.ret (.con (.bool false))] []
noncomputable def zT:IE:=(.list false [(.sub (.var 16) (.var 25)),(.bin .LShift (.var 26) (.var 5))])
noncomputable def sV:List IG:=[(.mk (.many [25,26]) (.var 22) [])]
noncomputable def F7:IS:=.ite (.cmp .NotEq (.call (dK "sorted") [(.var 21)] []) (.comp false zT sV)) [.ret (.con (.bool false))] []
noncomputable def n7:IE:=(.sub (.var 25) (ac 0))
noncomputable def F8:IS:=.expr (.meth (.var 14) .append [(.tup [(.con (.str (UO #[69,109,112,116,121]))),(.con (.str (UO #[])))])] [])
noncomputable def sX:IE:=(.call (aY "_law_words" 310) [(.var 25),(.var 5)] [])
noncomputable def sY:List IG:=[(.mk (.one 25) (.var 23) [(.not (.call (aY "_law_known" 354) [(.var 15),(.var 14),(.var 25)] []))])]
noncomputable def BQ:IS:=.expr (.meth (.var 9) .pushToken [(.con (.str (UO #[97])))] [])
noncomputable def F9:IS:=.set 24 (.bin .Add (.sub (.var 19) (ac 0)) (.list false [(.con (.str (UO #[97]))),(.con (.str (UO #[97]))),(.con (.str (UO #[97]))),(.con (.str (UO #[])))]))
noncomputable def kG:List IS:=[
 .set 1 (.list true []),
 .fr (.one 2) (.call (cz "range") [(ac 32)] []) jP rJ,
 .ret (.meth (.con (.str (UO #[44,32]))) .join [(.var 1)] [])]
noncomputable def j6:bN:={pos:=1,extra:=3,body:=kG}
noncomputable def pa:List IS:=[
 .ite (.cmp .IsNot (.var 1) (.con .none)) [.set 3 (.callS (.var 1) [(.var 0)] (.var 2)),.ret (.tup [(.var 3),(.var 3)])] [.ret (.tup [(aY "UNKNOWN" 69),(.con (.str (UO #[])))])]]
noncomputable def fQ:bN:={pos:=3,extra:=1,body:=pa,kind:=.kwd}
noncomputable def qD:List IS:=[
 .set 1 (.call (dK "next") [(.var 0)] []),
 .set 2 (.bin .BitAnd (.var 1) (ac 63)),
 .wh (yh) rM,
 .ret (.var 2)]
noncomputable def gk:bN:={pos:=1,extra:=2,body:=qD}
noncomputable def lC:List IS:=[
 .setA (.var 0) .lineno (ac 1),
 .setA (.var 0) .instream (.var 1),
 .setA (.var 0) .whitespace (.con (.str (UO #[10,9,13,32]))),
 .setA (.var 0) .pushback (.list true [])]
noncomputable def kN:bN:={pos:=2,extra:=0,body:=lC}
noncomputable def kq:List IS:=[
 .set 1 (.meth (.attr (.var 0) .instream) .read [(ac 1)] []),
 .ite (.cmp .Eq (.var 1) (.con (.str (UO #[10])))) [.augA (.var 0) .lineno .Add (ac 1)] [],
 .ret (.var 1)]
noncomputable def cG:bN:={pos:=1,extra:=1,body:=kq}
noncomputable def gv:List IS:=[
 .ite (.attr (.var 0) .pushback) [.ret (.meth (.attr (.var 0) .pushback) .pop [(ac 0)] [])] [],
 .set 1 (.con (.str (UO #[]))),
 .set 2 (.call (dK "iter") [(.attr (.var 0) .readChar),(.con (.str (UO #[])))] []),
 .fr (.one 3) (.var 2) oH [],
 .ret (.var 1)]
noncomputable def cQ:bN:={pos:=1,extra:=3,body:=gv}
noncomputable def kr:List IS:=[
 .expr (.meth (.attr (.var 0) .pushback) .append [(.var 1)] [])]
noncomputable def fK:bN:={pos:=2,extra:=0,body:=kr}
noncomputable def vQ:List IS:=[
 .ret (.cmp .Lt (.var 0) (.glob "NT_OFFSET" (.int 256)))]
noncomputable def l7:bN:={pos:=1,extra:=0,body:=vQ}
noncomputable def qC:List IS:=[
 .ret (.cmp .GtE (.var 0) (.glob "NT_OFFSET" (.int 256)))]
noncomputable def jy:bN:={pos:=1,extra:=0,body:=qC}
noncomputable def JG:List IS:=[
 .ret (.cmp .Eq (.var 0) (.glob "ENDMARKER" (.int 0)))]
noncomputable def wi:bN:={pos:=1,extra:=0,body:=JG}
noncomputable def mY:List IS:=[
 .set 1 (.ite (.cmp .IsNot (.var 1) (.con .none)) (.var 1) (.list false [])),
 .ite (.cmp .IsNot (.call (cz "type") [(.var 1)] []) (cz "list")) [.stop] [],
 .setA (.var 0) .headers (.var 1),
 .ite (.con (.bool true)) [.fr (.many [2,3]) (.var 1) IT []] []]
noncomputable def eW:bN:={pos:=2,extra:=2,body:=mY}
noncomputable def gG:List IS:=[
 .ite (.cmp .Is (.call (cz "type") [(.var 1)] []) (cz "str")) [.set 3 (.ite (.var 2) (aY "_name_disallowed_re" 154) (aY "_value_disallowed_re" 159)),.ite (.meth (.var 3) .search [(.var 1)] []) [.stop] [],.ret (.var 1)] [],
 .stop]
noncomputable def ce:bN:={pos:=3,extra:=1,body:=gG,kind:=.kwo .kName}
noncomputable def kF:List IS:=[
 .delI (.var 0) (.var 1),
 .expr (.meth (.attr (.var 0) .headers) .append [(.tup [(.meth (.var 0) .convert [(.var 1)] [(.kName,(.con (.bool true)))]),(.meth (.var 0) .convert [(.var 2)] [(.kName,(.con (.bool false)))])])] [])]
noncomputable def fV:bN:={pos:=3,extra:=0,body:=kF}
noncomputable def kE:List IS:=[
 .set 1 (.meth (.var 0) .convert [(.meth (.var 1) .lower [] [])] [(.kName,(.con (.bool true)))]),
 .setAll (.attr (.var 0) .headers) (.comp false (.var 2) [(.mk (.one 2) (.attr (.var 0) .headers) [(.cmp .NotEq (.meth (.sub (.var 2) (ac 0)) .lower [] []) (.var 1))])])]
noncomputable def fU:bN:={pos:=2,extra:=0,body:=kE}
noncomputable def u8:List IS:=[
 .set 1 (.meth (.var 0) .convert [(.meth (.var 1) .lower [] [])] [(.kName,(.con (.bool true)))]),
 .fr (.many [3,4]) (.attr (.var 0) .headers) ww [],
 .ret (.var 2)]
noncomputable def fD:bN:={pos:=3,extra:=2,body:=u8,kind:=.dfl}
noncomputable def qE:List IS:=[
 .ret (.slice true (.attr (.var 0) .headers) none none)]
noncomputable def jz:bN:={pos:=1,extra:=0,body:=qE}
noncomputable def pc:List IS:=[
 .ret (.meth (.con (.str (UO #[40,32,41,32,91,32,93,32,58,32,44,32,59,32,43,32,45,32,42,32,47,32,124,32,38,32,60,32,62,32,61,32,46,32,37,32,123,32,125,32,61,61,32,33,61,32,60,61,32,62,61,32,126,32,94,32,60,60,32,62,62,32,42,42,32,43,61,32,45,61,32,42,61,32,47,61,32,37,61,32,38,61,32,124,61,32,94,61,32,60,60,61,32,62,62,61,32,42,42,61,32,47,47,32,47,47,61,32,64,32,64,61,32,45,62,32,46,46,46,32,58,61,32,33]))) .split [(.con (.str (UO #[32])))] [])]
noncomputable def i8:bN:={pos:=0,extra:=0,body:=pc}
noncomputable def u7:List IS:=[
 .set 1 (.call (dK "chr") [(.bin .Add (.bin .Mod (.var 0) (ac 64)) (.ite (.cmp .Lt (.bin .Mod (.var 0) (ac 64)) (ac 32)) (ac 128) (ac 0)))] []),
 .wh (tu) n9,
 .ret (.var 1)]
noncomputable def kQ:bN:={pos:=1,extra:=1,body:=u7}
noncomputable def vR:List IS:=[
 .set 1 (.call (dK "iter") [(.comp false (.call (dK "ord") [(.var 2)] []) [(.mk (.one 2) (.var 0) [])])] []),
 .ret (.list false [(.call (aY "_parse_varint" 83) [(.var 1)] []),(.call (aY "_parse_varint" 83) [(.var 1)] [])])]
noncomputable def l8:bN:={pos:=1,extra:=1,body:=vR}
noncomputable def vW:List IS:=[
 .set 2 (.meth (.con (.str (UO #[79,80,84,73,77,73,90,69,68,32,78,69,87,76,79,67,65,76,83,32,86,65,82,65,82,71,83,32,86,65,82,75,69,89,87,79,82,68,83,32,78,69,83,84,69,68,32,71,69,78,69,82,65,84,79,82,32,78,79,70,82,69,69,32,67,79,82,79,85,84,73,78,69,32,73,84,69,82,65,66,76,69,95,67,79,82,79,85,84,73,78,69,32,65,83,89,78,67,95,71,69,78,69,82,65,84,79,82]))) .split [(.con (.str (UO #[32])))] []),
 .set 3 (.comp false (Iz) [(.mk (.one 4) (.call (cz "range") [(.var 1),(.bin .Add (.var 1) (ac 5))] []) [(PA)])]),
 .ret (.meth (.con (.str (UO #[44,32]))) .join [(.bin .Add (.var 3) (.ite (.cmp .Gt (.bin .RShift (.var 0) (ac 32)) (ac 0)) (.list false [(.call (dK "hex") [(.bin .LShift (.bin .RShift (.var 0) (ac 32)) (ac 32))] [])]) (.list false [])))] [])]
noncomputable def mj:bN:={pos:=2,extra:=2,body:=vW}
noncomputable def sd:List IS:=[
 .set 2 (.ite (.cmp .Eq (.var 1) (.con (.str (UO #[])))) (.con (.str (UO #[34,92]))) (.con (.str (UO #[32,10,9,13,34,92])))),
 .set 3 (.meth (.con (.str (UO #[]))) .join [(.comp false (vC) [(.mk (.many [4,5]) (.call (cz "enumerate") [(.var 0)] []) [])])] []),
 .ret (.ite (.cmp .Eq (.var 1) (.con (.str (UO #[])))) (.bin .Add (.bin .Add (.con (.str (UO #[34]))) (.var 3)) (.con (.str (UO #[34])))) (.bin .Add (.var 3) (.var 1)))]
noncomputable def j5:bN:={pos:=2,extra:=2,body:=sd}
noncomputable def jr:List IS:=[
 .set 2 (.comp true (.var 3) [(.mk (.one 3) (.var 0) [])]),
 .set 1 (.call (aY "_netrclex" 121) [(.con .none)] []),
 .expr (.meth (.var 1) .pushToken [(.con (.str (UO #[97])))] []),
 .setA (.var 1) .read (.lam 0 [2]),
 .ret (.call (aY "_netrclex" 121) [(.var 1)] [])]
noncomputable def mc:bN:={pos:=1,extra:=2,body:=jr}
noncomputable def Bj:List IS:=[
 .set 2 (.list true []),
 .wh (.cmp .NotEq (.var 0) (.con (.str (UO #[])))) [.set 3 (.sub (.bin .Add (.comp false (.var 4) [(.mk (.one 4) (.list false [(ac 3),(ac 2)]) [(v6)])]) (.list false [(ac 1)])) (ac 0)),Fd,.set 0 (.slice false (.var 0) (some (.var 3)) none)],
 .ret (.bin .Add (.var 2) (.list false [(ac 0)]))]
noncomputable def oF:bN:={pos:=2,extra:=2,body:=Bj}
noncomputable def vS:List IS:=[
 .set 2 (.list true []),
 .wh (I9) DG,
 .ret (.var 2)]
noncomputable def l9:bN:={pos:=2,extra:=1,body:=vS}
noncomputable def vU:List IS:=[
 .set 2 (.comp false (.call (aY "_law_words" 310) [(.bin .LShift (ac 1) (.bin .Add (.var 0) (.var 3))),(.var 0)] []) [(.mk (.one 3) (cT) [])]),
 .ret (.comp false (.ite (.cmp .Eq (.bin .Mod (.bin .Add (.var 3) (.var 1)) (ac 2)) (ac 0)) (.var 4) (.meth (.var 4) .lower [] [])) [(.mk (.many [3,4]) (.call (cz "enumerate") [(.var 2)] []) [])])]
noncomputable def mh:bN:={pos:=2,extra:=1,body:=vU}
noncomputable def vV:List IS:=[
 .set 4 (.call (aY "Headers" 282) [(.var 0)] []),
 .fr (.many [5,6]) (.call (cz "enumerate") [(.var 1)] []) JC [],
 .ret (.var 4)]
noncomputable def mi:bN:={pos:=4,extra:=3,body:=vV}
noncomputable def u6:List IS:=[
 .set 4 (ac 0),
 .wh (MV) [Gi,Gj,.set 7 (.comp false (BX) [(.mk (.many [13,14]) (.meth (.var 1) .items [] []) [])]),.ite (.or [(.cmp .NotEq (.var 5) (.sub (.var 2) (ac 0))),(.cmp .NotEq (.sub (.var 6) (ac 0)) (.sub (.var 6) (ac 1))),(.cmp .NotEq (D5) (.var 3))]) [.ret (.list false [(.list false [(.con (.str (UO #[110,111,110,101])))]),(.list false [])])] [],Gk,BY,.set 9 (D4),.ite (.cmp .Eq (.call (dK "len") [(.var 9)] []) (ac 1)) [.set 10 (.bin .BitOr (.sub (.sub (.var 9) (ac 0)) (ac 2)) (.sub (.var 8) (ac 1))),.set 11 (.meth (.sub (.sub (.var 9) (ac 0)) (ac 0)) .lower [] []),.set 12 (.ite (.cmp .NotEq (.var 11) (.sub (.sub (.var 9) (ac 0)) (ac 0))) (.var 11) (.meth (.var 11) .upper [] [])),.delI (.var 1) (.meth (.var 5) .lower [] []),.setI (.var 1) (.var 12) (.bin .Add (.call (aY "_law_octets" 300) [(.sub (.sub (.var 9) (ac 0)) (ac 1))] []) (.call (aY "_law_octets" 300) [(.bin .Sub (.var 10) (.bin .BitAnd (.var 10) (.bin .BitOr (.sub (.sub (.var 9) (ac 0)) (ac 1)) (.sub (.var 8) (ac 0)))))] [])),.set 3 (.bin .Add (nD) (.list false [(.tup [(.var 12),(.sub (.sub (.var 9) (ac 0)) (ac 1))])])),.set 4 (ac 0)] Jf],
 .ret (.list false [(.var 2),(.var 3)])]
noncomputable def kP:bN:={pos:=4,extra:=9,body:=u6}
noncomputable def vT:List IS:=[
 .set 3 (.sub (.bin .Add (.comp false (.var 5) [(.mk (.many [4,5]) (.var 1) [(.cmp .Eq (.meth (.var 4) .upper [] []) (.meth (.var 2) .upper [] []))])]) (.list false [(.con (.str (UO #[103,111,110,101])))])) (ac 0)),
 .ret (.cmp .Eq (.call (aY "_get_name_info" 76) [(.var 2),(.attr (.var 0) .get)] [(.kDefault,(.con (.str (UO #[103,111,110,101]))))]) (.tup [(.var 3),(.var 3)]))]
noncomputable def ma:bN:={pos:=3,extra:=1,body:=vT}
noncomputable def u5:List IS:=[
 .ret (.comp false (.call (aY "_get_name_info" 76) [(.var 2),(.lam 1 [0])] []) [(.mk (.one 2) (.var 1) [])])]
noncomputable def kO:bN:={pos:=2,extra:=0,body:=u5}
noncomputable def sb:List IS:=[
 .set 2 (.ite (.cmp .Eq (.var 1) (ac 0)) (ac 0) (ac 1)),
 .fr (.one 3) (cT) [.fr (.one 4) (cT) lj []] [],
 .ret (.var 2)]
noncomputable def j4:bN:={pos:=2,extra:=3,body:=sb}
noncomputable def yA:List IS:=[
 .set 1 (.comp false (.call (aY "_law_reached" 366) [(.var 0),(.var 9)] []) [(.mk (.one 9) (cT) [])]),
 .set 3 (.comp false (.call (dK "sum") [(.comp false (.bin .LShift (ac 1) (.var 10)) [(.mk (.one 10) (cT) [(.cmp .Eq (.bin .BitAnd (.bin .RShift (.sub (.var 1) (.var 10)) (.var 9)) (ac 1)) (ac 0))])])] []) [(.mk (.one 9) (cT) [])]),
 .set 4 (ac 0),
 .fr (.one 5) (.call (cz "range") [(ac 4)] []) [.fr (.one 2) (.list false [(ac 1),(ac 2),(ac 3),(ac 4)]) [.set 6 (.comp false (.bin .Sub (.sub (.var 3) (.var 9)) (.bin .BitAnd (.sub (.var 3) (.var 9)) (.sub (.var 3) (.var 2)))) [(.mk (.one 9) (cT) [(.bin .BitAnd (.bin .RShift (.sub (.var 0) (.var 9)) (.var 2)) (ac 1))])]),.ite (.cmp .Eq (BR) (.list false [])) [.set 4 (.bin .BitOr (.var 4) (.bin .LShift (ac 1) (.var 2)))] []] []] [],
 .set 7 (.comp false (.bin .Sub (.var 9) (.bin .BitAnd (.var 9) (.var 4))) [(.mk (.one 9) (.var 3) [])]),
 .set 8 (.comp false (.sub (.comp false (.var 10) [(.mk (.one 10) (cT) [(.and [(.bin .BitAnd (.bin .RShift (.sub (.var 7) (.var 9)) (.var 10)) (ac 1)),(.cmp .Eq (.bin .BitAnd (.sub (.var 7) (.var 9)) (.sub (.var 3) (.var 10))) (.sub (.var 7) (.var 9)))])])]) (ac 0)) [(.mk (.one 9) (cT) [])]),
 .ret (.comp false (.list false [(.var 9),(.call (dK "sum") [(.comp false (.bin .LShift (ac 1) (.var 10)) [(.mk (.one 10) (cT) [(.and [(.cmp .NotEq (.var 10) (.var 9)),(.cmp .Eq (.bin .BitAnd (.bin .RShift (.var 4) (.var 10)) (ac 1)) (ac 0)),(.cmp .NotEq (.comp false (.var 11) [(.mk (.one 11) (cT) [(.and [(.cmp .Eq (.sub (.var 8) (.var 11)) (.var 9)),(.bin .BitAnd (.bin .RShift (.sub (.var 0) (.var 11)) (.var 10)) (ac 1))])])]) (.list false []))])])])] [])]) [(.mk (.one 9) (cT) [(.cmp .Eq (.bin .BitAnd (.bin .RShift (.var 4) (.var 9)) (ac 1)) (ac 0))])])]
noncomputable def nh:bN:={pos:=1,extra:=8,body:=yA}
noncomputable def Bk:List IS:=[
 .set 1 (.comp false (.bin .Add (.var 26) (.call (dK "sum") [(.comp false (.var 28) wW)] [])) wX),
 .set 2 (.bin .Add (.list false [(.tup [(ac 0),(ac 1)]),(.tup [(.bin .Mod (.sub (.var 1) (ac 0)) (ac 2)),(ac 2)]),(.tup [(.bin .Mod (.bin .FloorDiv (.sub (.var 1) (ac 0)) (ac 2)) (ac 3)),(ac 3)]),(.tup [(.bin .Mod (.bin .FloorDiv (.sub (.var 1) (ac 0)) (ac 6)) (ac 4)),(ac 4)])]) (.comp false wY [(.mk (.one 25) (cT) [])])),
 MF,
 MI,
 MM,
 MN,
 MO,
 MP,
 MQ,
 MR,
 .ite (.cmp .NotEq (.var 10) (.bin .Add (.comp false (.var 27) sK) (.list false [(ac 0)]))) [.ret (.con (.bool false))] [],
 .ite (.cmp .NotEq (.comp false (.var 25) sL) (.list false [])) [.ret (.con (.bool false))] [],
 FR,
 .set 12 (.comp false (.call (dK "sum") [(.comp false sN [(.mk (.one 26) (cT) [(.and [(.cmp .In (.tup [(.var 25),(.var 26)]) (.var 11)),(.cmp .NotEq (.var 26) (.var 25))])])])] []) [(.mk (.one 25) (cT) [])]),
 FT,
 FU,
 FV,
 .set 16 (.comp false sO [(.mk (.one 25) (cT) [])]),
 FW,
 .ite (.cmp .NotEq (.comp false sP [(.mk (.one 25) (.var 17) [])]) (.bin .Mult (.list false [(.con .none)]) (ac 4))) [.ret (.con (.bool false))] [],
 FX,
 .set 19 (.call (aY "_law_melted" 349) [(.var 9),(.var 15),(.var 17),(.comp false (.tup [(.var 25),(.var 26)]) sQ)] []),
 FY,
 FZ,
 F4,
 F5,
 F6,
 F7,
 .ite (.cmp .NotEq (.call (aY "pretty_flags" 46) [(.call (dK "sum") [(.comp false n7 [(.mk (.one 25) (.var 21) [])])] [])] []) (.call (aY "_law_words" 310) [(.call (dK "sum") [(.comp false (.sub (.var 16) (.var 25)) sV)] []),(.var 5)] [])) [.ret (.con (.bool false))] [],
 F8,
 .set 23 (.bin .Add (.comp false sX [(.mk (.one 25) (.var 16) [])]) (.list false [(.con (.str (UO #[69,77,80,84,89])))])),
 .ite (.cmp .NotEq (.comp false (.var 25) sY) (.list false [])) [.ret (.con (.bool false))] [],
 BQ,
 BQ,
 F9,
 .ret (.and [(.cmp .Eq (.attr (.var 9) .lineno) (.var 18)),(.cmp .Eq (.call (aY "_law_handed" 359) [(.var 9),(.var 24)] []) (.comp false (.tup [(.var 25),(.var 25)]) [(.mk (.one 25) (.var 24) [])])),(.cmp .Eq (.attr (.var 9) .lineno) (.bin .Add (ac 1) (.meth (.var 8) .count [(.con (.str (UO #[10])))] [])))])]
noncomputable def Di:bN:={pos:=1,extra:=24,body:=Bk}
noncomputable def wU:vG:={pos:=1,body:=.ite (.and [.cmp .Eq (.var 0) (ac 1),.cmp .NotEq (.var 1) (.list false [])]) (.meth (.var 1) .pop [.con (.int 0)] []) (.con (.str (UO #[])))}
noncomputable def Kp:vG:={pos:=1,body:=.meth (.var 1) .getToken [] []}
noncomputable def flagTab:List (Int×Str):=[(1,UO #[79,80,84,73,77,73,90,69,68]),(2,UO #[78,69,87,76,79,67,65,76,83]),(4,UO #[86,65,82,65,82,71,83]),(8,UO #[86,65,82,75,69,89,87,79,82,68,83]),(16,UO #[78,69,83,84,69,68]),(32,UO #[71,69,78,69,82,65,84,79,82]),(64,UO #[78,79,70,82,69,69]),(128,UO #[67,79,82,79,85,84,73,78,69]),(256,UO #[73,84,69,82,65,66,76,69,95,67,79,82,79,85,84,73,78,69]),(512,UO #[65,83,89,78,67,95,71,69,78,69,82,65,84,79,82])]
noncomputable def exactTab:List (Str×Int):=[(UO #[33],54),(UO #[33,61],28),(UO #[37],24),(UO #[37,61],40),(UO #[38],19),(UO #[38,61],41),(UO #[40],7),(UO #[41],8),(UO #[42],16),(UO #[42,42],35),(UO #[42,42,61],46),(UO #[42,61],38),(UO #[43],14),(UO #[43,61],36),(UO #[44],12),(UO #[45],15),(UO #[45,61],37),(UO #[45,62],51),(UO #[46],23),(UO #[46,46,46],52),(UO #[47],17),(UO #[47,47],47),(UO #[47,47,61],48),(UO #[47,61],39),(UO #[58],11),(UO #[58,61],53),(UO #[59],13),(UO #[60],20),(UO #[60,60],33),(UO #[60,60,61],44),(UO #[60,61],29),(UO #[61],22),(UO #[61,61],27),(UO #[62],21),(UO #[62,61],30),(UO #[62,62],34),(UO #[62,62,61],45),(UO #[64],49),(UO #[64,61],50),(UO #[91],9),(UO #[93],10),(UO #[94],32),(UO #[94,61],43),(UO #[123],25),(UO #[124],18),(UO #[124,61],42),(UO #[125],26),(UO #[126],31)]
noncomputable def L6:List (Nat×bN):=[(46,j6),(76,fQ),(83,gk),(97,kN),(104,cG),(111,cQ),(118,fK),(135,l7),(142,jy),(149,wi),(174,eW),(181,ce),(195,fV),(200,fU),(229,fD),(246,jz),(293,i8),(300,kQ),(305,l8),(310,mj),(315,j5),(320,mc),(325,oF),(332,l9),(337,mh),(344,mi),(349,kP),(354,ma),(359,kO),(366,j4),(371,nh),(376,Di)]
noncomputable def gc(a:Nat):Option bN:=L6.lookup a
noncomputable def Jc:List ((Nat×NM)×Nat):=[((121,.readChar),104),((121,.getToken),111),((121,.pushToken),118),((282,.convert),181),((282,.get),229),((282,.items),246)]
noncomputable def jg(c:Nat)(m:NM):Option Nat:=Jc.lookup (c,m)
noncomputable def I5:List (Nat×Nat):=[(121,97),(282,174)]
noncomputable def cD(c:Nat):Option Nat:=I5.lookup c
noncomputable def AL(c:Nat):Option Nat:=[(282,195)].lookup c
noncomputable def zf(c:Nat):Option Nat:=[(282,200)].lookup c
noncomputable def nu:Nat->Option vG
 |0=>some wU
 |1=>some Kp
 |_=>none
noncomputable def TT:c8:={fn:=gc,lam:=nu,meth:=jg,init:=cD,setI:=AL,delI:=zf,flags:=39,exact:=126,rx1:=154,rx2:=159,flagTab:=flagTab,exactTab:=exactTab}
end
end
section
open PySem PySem.Calls PyProof.Rows PySem.W
section
section cps
theorem no{α:Type}{P:Prop}{x:α}(e:Option.none=some x):P:=nomatch e
theorem ft{P:Prop}(e:false=true):P:=nomatch e
theorem sj{α:Type}{a b:α}(e:some a=some b):a=b:=YB e
@[elab_as_elim] theorem se{α:Type}{a b:α}{P:α->Prop}(e:some a=some b)(k:P a):P b:=sj e▸k
variable {α β γ δ:Type}{P:Prop}
theorem az{x:Option α}{f:α->Option β}{y:β}(e:ob x f=some y)(k:∀ a,x=some a->f a=some y->P):P:=
 Vs (motive:=λx'=>x=x'->ob x' f=some y->P) x (λ_=>no) (λa=>k a) rfl e
theorem aP{x:Option (α×β)}{f:α->β->Option γ}{y:γ}(e:ah x f=some y)(k:∀ a b,x=some (a,b)->f a b=some y->P):P:=
 Vs (motive:=λx'=>x=x'->ah x' f=some y->P) x (λ_=>no) (λp=>k p.1 p.2) rfl e
theorem rv{x:Option (α×β×γ)}{f:α->β->γ->Option δ}{y:δ}(e:dX x f=some y)(k:∀ a b c,x=some (a,b,c)->f a b c=some y->P):P:=
 Vs (motive:=λx'=>x=x'->dX x' f=some y->P) x (λ_=>no) (λp=>k p.1 p.2.1 p.2.2) rfl e
theorem aJ{c:Bool}{x:Option α}{y:α}(e:aw c x=some y)(k:c=true->x=some y->P):P:=
 WX (motive:=λc'=>c=c'->aw c' x=some y->P) c (λ_=>no) k rfl e
theorem bH{c:Prop}[d:Decidable c]{x:Option α}{y:α}(e:bA c x=some y)(k:c->x=some y->P):P:=
 aJ e λa=>k (of_decide_eq_true a)
theorem eg{α:Type}{b:Bool}{x y z:α}(e:(bif b then x else y)=z)(k:b=true->x=z->P)(l:b=false->y=z->P):P:=
 WX (motive:=λc=>b=c->(bif c then x else y)=z->P) b l k rfl e
@[elab_as_elim] theorem gg{x:Option β}{l:List α}{y:β}{P:List α->Prop}(e:d7 x l=some y)(k:x=some y->P []):P l:=
 Vk (motive:=λl=>d7 x l=some y->P l) l k (λ_ _=>no) e
@[elab_as_elim] theorem nJ{f:α->Option β}{l:List α}{y:β}{P:List α->Prop}(e:b6 f l=some y)(k:∀ a,f a=some y->P [a]):P l:=
 Vk (motive:=λl=>b6 f l=some y->P l) l no (λa r=>Vk (motive:=λr=>b6 f (a::r)=some y->P (a::r)) r (k a) λ_ _=>no) e
@[elab_as_elim] theorem nU{f:α->α->Option β}{l:List α}{y:β}{P:List α->Prop}(e:nT f l=some y)(k:∀ a b,f a b=some y->P [a,b]):P l:=
 Vk (motive:=λl=>nT f l=some y->P l) l no (λa r e=>nJ (P:=λr=>P (a::r)) e (k a)) e
theorem c9{a b:Bool}(e:(a&&b)=true)(k:a=true->b=true->P):P:=k (Vu.mp e).1 (Vu.mp e).2
theorem a1{a b:Bool}(e:(a&&b)=true):a=true:=(Vu.mp e).1
theorem a2{a b:Bool}(e:(a&&b)=true):b=true:=(Vu.mp e).2
theorem nt{a:Bool}(e:(!a)=true):a=false:=WX (motive:=λa=>(!a)=true->a=false) a (λ_=>rfl) ft e
end cps
section av
variable {β:Type}{y:β}{P:AV->Prop}{v:AV}
@[elab_as_elim] theorem gE{f:Str->Option β}(e:gD f v=some y)(k:∀ i,f i=some y->P (.str i)):P v:=AV.casesOn (motive_1:=λv=>gD f v=some y->P v) v no (λ_=>no) (λ_=>no) k (λ_=>no) (λ_=>no) (λ_=>no) (λ_=>no) (λ_ _=>no) (λ_ _=>no) (λ_=>no) e
@[elab_as_elim] theorem dR{f:Int->Option β}(e:fo f v=some y)(k:∀ i,f i=some y->P (.int i)):P v:=AV.casesOn (motive_1:=λv=>fo f v=some y->P v) v no (λ_=>no) k (λ_=>no) (λ_=>no) (λ_=>no) (λ_=>no) (λ_=>no) (λ_ _=>no) (λ_ _=>no) (λ_=>no) e
@[elab_as_elim] theorem qx{f:List AV->Option β}(e:iD f v=some y)(k:∀ i,f i=some y->P (.lst i)):P v:=AV.casesOn (motive_1:=λv=>iD f v=some y->P v) v no (λ_=>no) (λ_=>no) (λ_=>no) (λ_=>no) k (λ_=>no) (λ_=>no) (λ_ _=>no) (λ_ _=>no) (λ_=>no) e
@[elab_as_elim] theorem Be{f:List AV->Option β}(e:CY f v=some y)(k:∀ i,f i=some y->P (.tup i)):P v:=AV.casesOn (motive_1:=λv=>CY f v=some y->P v) v no (λ_=>no) (λ_=>no) (λ_=>no) k (λ_=>no) (λ_=>no) (λ_=>no) (λ_ _=>no) (λ_ _=>no) (λ_=>no) e
@[elab_as_elim] theorem jd{f:Nat->Option β}(e:f9 f v=some y)(k:∀ i,f i=some y->P (.loc i)):P v:=AV.casesOn (motive_1:=λv=>f9 f v=some y->P v) v no (λ_=>no) (λ_=>no) (λ_=>no) (λ_=>no) (λ_=>no) k (λ_=>no) (λ_ _=>no) (λ_ _=>no) (λ_=>no) e
@[elab_as_elim] theorem qw{f:UF->Option β}(e:vN f v=some y)(k:∀ i,f i=some y->P (.g i)):P v:=AV.casesOn (motive_1:=λv=>vN f v=some y->P v) v no (λ_=>no) (λ_=>no) (λ_=>no) (λ_=>no) (λ_=>no) (λ_=>no) k (λ_ _=>no) (λ_ _=>no) (λ_=>no) e
@[elab_as_elim] theorem PQ{f:Bool->Option β}(e:Ls f v=some y)(k:∀ i,f i=some y->P (.bool i)):P v:=AV.casesOn (motive_1:=λv=>Ls f v=some y->P v) v no k (λ_=>no) (λ_=>no) (λ_=>no) (λ_=>no) (λ_=>no) (λ_=>no) (λ_ _=>no) (λ_ _=>no) (λ_=>no) e
@[elab_as_elim] theorem Lv{f:List (NM×AV)->Option β}(e:EY f v=some y)(k:∀ i,f i=some y->P (.kwd i)):P v:=AV.casesOn (motive_1:=λv=>EY f v=some y->P v) v no (λ_=>no) (λ_=>no) (λ_=>no) (λ_=>no) (λ_=>no) (λ_=>no) (λ_=>no) (λ_ _=>no) (λ_ _=>no) k e
@[elab_as_elim] theorem mW{f:Nat->AV->Option β}(e:vM f v=some y)(k:∀ i j,f i j=some y->P (.bm i j)):P v:=AV.casesOn (motive_1:=λv=>vM f v=some y->P v) v no (λ_=>no) (λ_=>no) (λ_=>no) (λ_=>no) (λ_=>no) (λ_=>no) (λ_=>no) k (λ_ _=>no) (λ_=>no) e
@[elab_as_elim] theorem Bc{x:Option β}(e:qy x v=some y)(k:x=some y->P .none):P v:=AV.casesOn (motive_1:=λv=>qy x v=some y->P v) v k (λ_=>no) (λ_=>no) (λ_=>no) (λ_=>no) (λ_=>no) (λ_=>no) (λ_=>no) (λ_ _=>no) (λ_ _=>no) (λ_=>no) e
@[elab_as_elim] theorem hJ{P:AO->Prop}{o:AO}{f:List AV->Option β}(e:eS f o=some y)(k:∀ i,f i=some y->P (.list i)):P o:=AO.casesOn (motive:=λo=>eS f o=some y->P o) o k (λ_ _=>no) (λ_=>no) (λ_ _=>no) (λ_ _=>no) no (λ_=>no) e
@[elab_as_elim] theorem oZ{P:AO->Prop}{o:AO}{f:List (NM×AV)->Option β}(e:qv f o=some y)(k:∀ i,f i=some y->P (.dict i)):P o:=AO.casesOn (motive:=λo=>qv f o=some y->P o) o (λ_=>no) (λ_ _=>no) k (λ_ _=>no) (λ_ _=>no) no (λ_=>no) e
@[elab_as_elim] theorem lB{P:AO->Prop}{o:AO}{f:Nat->Nat->Option β}(e:iC f o=some y)(k:∀ i j,f i j=some y->P (.inst i j)):P o:=AO.casesOn (motive:=λo=>iC f o=some y->P o) o (λ_=>no) k (λ_=>no) (λ_ _=>no) (λ_ _=>no) no (λ_=>no) e
@[elab_as_elim] theorem sa{P:UF->Prop}{u:UF}{f:Nat->Option β}(e:vi f u=some y)(k:∀ i,f i=some y->P (.ref i)):P u:=by cases u<;>first|exact k _ e|exact no e
@[elab_as_elim] theorem vP{P:UF->Prop}{u:UF}{f:String->Option β}(e:Bf f u=some y)(k:∀ i,f i=some y->P (.type i)):P u:=by cases u<;>first|exact k _ e|exact no e
end av
end
end
section
open PySem PySem.Calls PyProof.Rows PySem.W PySem.SeqAt
section
noncomputable def kX(e:Expr):Bool:=e.ctorIdx==26
abbrev Ks:=List (Str×V6)
abbrev Sg:=List (Str×Nat)
noncomputable def wO(e:Expr):Bool:=e.ctorIdx==22
noncomputable def np(e:Expr):Bool:=e.ctorIdx==16
noncomputable def wJ(e:Expr):Bool:=e.ctorIdx==20
noncomputable def gK(e:Expr):Bool:=e.ctorIdx==7
section on
theorem eT{c:Prop}[d:Decidable c]{x:c->Bool}{P:Prop}(h:(if h:c then x h else false)=true)(k:∀ hc,x hc=true->P):P:=
 if q:c then k q ((dif_pos q).symm.trans h) else ft ((dif_neg q).symm.trans h)
variable {α:Type}
@[elab_as_elim] theorem bq{β:Type}[BEq β][LawfulBEq β]{a b:β}{P:β->Prop}(h:(a==b)=true)(k:P a):P b:=eq_of_beq h▸k
noncomputable def one(f:α->Bool)(l:List α):Bool:=match l with
 | []=>false
 |x::l=>match l with
  | []=>f x
  |_::_=>false
@[elab_as_elim] theorem ff{f:α->Bool}{l:List α}{P:List α->Prop}(h:one f l=true)(k:∀ x,f x=true->P [x]):P l:=
 Vk (motive:=λl=>one f l=true->P l) l ft (λx l=>Vk (motive:=λl=>one f (x::l)=true->P (x::l)) l (k x) λ_ _=>ft) h
def u0(f:α->α->Bool)(l:List α):Bool:=match l with
 | []=>false
 |x::l=>one (f x) l
@[elab_as_elim] theorem CO{f:α->α->Bool}{l:List α}{P:List α->Prop}(h:u0 f l=true)(k:∀ x y,f x y=true->P [x,y]):P l:=
 Vk (motive:=λl=>u0 f l=true->P l) l ft (λx l h=>ff (P:=λl=>P (x::l)) h (k x)) h
@[elab_as_elim] theorem j9{o:Option α}{P:Option α->Prop}(h:o.isNone=true)(k:P none):P o:=(Vm.mp h).symm▸k
@[elab_as_elim] theorem gJ{o:List α}{P:List α->Prop}(h:o.isEmpty=true)(k:P []):P o:=(Zi.mp h).symm▸k
noncomputable def gR(f:Str->Pos->Bool)(e:Expr):Bool:=if h:e.ctorIdx=23 then XR (motive_1:=λ_=>Bool) e h (λx p=>f x p) else false
@[elab_as_elim] theorem c4{f:Str->Pos->Bool}{e:Expr}{P:Expr->Prop}(h:gR f e=true)(kk:∀ x p,f x p=true->P (.Name x p)):P e:=
 eT h λhi h=>XR (motive_1:=λe=>∀ hi,XR (motive_1:=λ_=>Bool) e hi (λx p=>f x p)=true->P e) e hi (λx p _ h=>kk x p h) hi h
noncomputable def At(f:Const->Bool)(e:Expr):Bool:=if h:e.ctorIdx=19 then XJ (motive_1:=λ_=>Bool) e h (λk _ _=>f k) else false
@[elab_as_elim] theorem uO{f:Const->Bool}{e:Expr}{P:Expr->Prop}(h:At f e=true)(kk:∀ k a p,f k=true->P (.Constant k a p)):P e:=
 eT h λhi h=>XJ (motive_1:=λe=>∀ hi,XJ (motive_1:=λ_=>Bool) e hi (λk _ _=>f k)=true->P e) e hi (λk a p _ h=>kk k a p h) hi h
noncomputable def Jk(f:Expr->VK->Expr->Bool)(e:Expr):Bool:=if h:e.ctorIdx=2 then YO (motive_1:=λ_=>Bool) e h (λl o r _=>f l o r) else false
@[elab_as_elim] theorem Ar{f:Expr->VK->Expr->Bool}{e:Expr}{P:Expr->Prop}(h:Jk f e=true)(kk:∀ l o r p,f l o r=true->P (.BinOp l o r p)):P e:=
 eT h λhi h=>YO (motive_1:=λe=>∀ hi,YO (motive_1:=λ_=>Bool) e hi (λl o r _=>f l o r)=true->P e) e hi (λl o r p _ h=>kk l o r p h) hi h
noncomputable def Ia(f:UnaryOp->Expr->Bool)(e:Expr):Bool:=if h:e.ctorIdx=3 then X4 (motive_1:=λ_=>Bool) e h (λo x _=>f o x) else false
@[elab_as_elim] theorem rG{f:UnaryOp->Expr->Bool}{e:Expr}{P:Expr->Prop}(h:Ia f e=true)(kk:∀ o x p,f o x=true->P (.UnaryOp o x p)):P e:=
 eT h λhi h=>X4 (motive_1:=λe=>∀ hi,X4 (motive_1:=λ_=>Bool) e hi (λo x _=>f o x)=true->P e) e hi (λo x p _ h=>kk o x p h) hi h
noncomputable def Jm(f:Expr->List CmpOp->List Expr->Bool)(e:Expr):Bool:=if h:e.ctorIdx=15 then X5 (motive_1:=λ_=>Bool) e h (λl o r _=>f l o r) else false
@[elab_as_elim] theorem As{f:Expr->List CmpOp->List Expr->Bool}{e:Expr}{P:Expr->Prop}(h:Jm f e=true)(kk:∀ l o r p,f l o r=true->P (.Compare l o r p)):P e:=
 eT h λhi h=>X5 (motive_1:=λe=>∀ hi,X5 (motive_1:=λ_=>Bool) e hi (λl o r _=>f l o r)=true->P e) e hi (λl o r p _ h=>kk l o r p h) hi h
noncomputable def yb(f:BoolOp->List Expr->Bool)(e:Expr):Bool:=if h:e.ctorIdx=0 then Yn (motive_1:=λ_=>Bool) e h (λo l _=>f o l) else false
@[elab_as_elim] theorem qc{f:BoolOp->List Expr->Bool}{e:Expr}{P:Expr->Prop}(h:yb f e=true)(kk:∀ o l p,f o l=true->P (.BoolOp o l p)):P e:=
 eT h λhi h=>Yn (motive_1:=λe=>∀ hi,Yn (motive_1:=λ_=>Bool) e hi (λo l _=>f o l)=true->P e) e hi (λo l p _ h=>kk o l p h) hi h
noncomputable def OX(f:Expr->Expr->Expr->Bool)(e:Expr):Bool:=if h:e.ctorIdx=5 then YN (motive_1:=λ_=>Bool) e h (λt x y _=>f t x y) else false
@[elab_as_elim] theorem Eh{f:Expr->Expr->Expr->Bool}{e:Expr}{P:Expr->Prop}(h:OX f e=true)(kk:∀ t x y p,f t x y=true->P (.IfExp t x y p)):P e:=
 eT h λhi h=>YN (motive_1:=λe=>∀ hi,YN (motive_1:=λ_=>Bool) e hi (λt x y _=>f t x y)=true->P e) e hi (λt x y p _ h=>kk t x y p h) hi h
noncomputable def Ei(f:List Expr->Bool)(e:Expr):Bool:=if h:e.ctorIdx=24 then Y8 (motive_1:=λ_=>Bool) e h (λl _=>f l) else false
@[elab_as_elim] theorem yc{f:List Expr->Bool}{e:Expr}{P:Expr->Prop}(h:Ei f e=true)(kk:∀ l p,f l=true->P (.List l p)):P e:=
 eT h λhi h=>Y8 (motive_1:=λe=>∀ hi,Y8 (motive_1:=λ_=>Bool) e hi (λl _=>f l)=true->P e) e hi (λl p _ h=>kk l p h) hi h
noncomputable def Cr(f:List Expr->Bool)(e:Expr):Bool:=if h:e.ctorIdx=25 then Xq (motive_1:=λ_=>Bool) e h (λl _ _=>f l) else false
@[elab_as_elim] theorem tz{f:List Expr->Bool}{e:Expr}{P:Expr->Prop}(h:Cr f e=true)(kk:∀ l k p,f l=true->P (.Tuple l k p)):P e:=
 eT h λhi h=>Xq (motive_1:=λe=>∀ hi,Xq (motive_1:=λ_=>Bool) e hi (λl _ _=>f l)=true->P e) e hi (λl k p _ h=>kk l k p h) hi h
noncomputable def oi(f:Expr->Expr->Bool)(e:Expr):Bool:=if h:e.ctorIdx=21 then Xr (motive_1:=λ_=>Bool) e h (λx y _=>f x y) else false
@[elab_as_elim] theorem io{f:Expr->Expr->Bool}{e:Expr}{P:Expr->Prop}(h:oi f e=true)(kk:∀ x y p,f x y=true->P (.Subscript x y p)):P e:=
 eT h λhi h=>Xr (motive_1:=λe=>∀ hi,Xr (motive_1:=λ_=>Bool) e hi (λx y _=>f x y)=true->P e) e hi (λx y p _ h=>kk x y p h) hi h
noncomputable def OY(f:Option Expr->Option Expr->Option Expr->Bool)(e:Expr):Bool:=if h:e.ctorIdx=26 then YM (motive_1:=λ_=>Bool) e h (λl u t _=>f l u t) else false
@[elab_as_elim] theorem OZ{f:Option Expr->Option Expr->Option Expr->Bool}{e:Expr}{P:Expr->Prop}(h:OY f e=true)(kk:∀ l u t p,f l u t=true->P (.Slice l u t p)):P e:=
 eT h λhi h=>YM (motive_1:=λe=>∀ hi,YM (motive_1:=λ_=>Bool) e hi (λl u t _=>f l u t)=true->P e) e hi (λl u t p _ h=>kk l u t p h) hi h
noncomputable def Eg(f:Expr->List Vo->V1->Bool)(e:Expr):Bool:=if h:e.ctorIdx=8 then XI (motive_1:=λ_=>Bool) e h (λel cs sc _=>f el cs sc) else false
@[elab_as_elim] theorem qd{f:Expr->List Vo->V1->Bool}{e:Expr}{P:Expr->Prop}(h:Eg f e=true)(kk:∀ el cs sc p,f el cs sc=true->P (.ListComp el cs sc p)):P e:=
 eT h λhi h=>XI (motive_1:=λe=>∀ hi,XI (motive_1:=λ_=>Bool) e hi (λel cs sc _=>f el cs sc)=true->P e) e hi (λel cs sc p _ h=>kk el cs sc p h) hi h
noncomputable def rF(f:Expr->List Expr->List Xn->Pos->Bool)(e:Expr):Bool:=if h:e.ctorIdx=16 then Y9 (motive_1:=λ_=>Bool) e h (λx as ks p=>f x as ks p) else false
@[elab_as_elim] theorem gr{f:Expr->List Expr->List Xn->Pos->Bool}{e:Expr}{P:Expr->Prop}(h:rF f e=true)(kk:∀ x as ks p,f x as ks p=true->P (.Call x as ks p)):P e:=
 eT h λhi h=>Y9 (motive_1:=λe=>∀ hi,Y9 (motive_1:=λ_=>Bool) e hi (λx as ks p=>f x as ks p)=true->P e) e hi (λx as ks p _ h=>kk x as ks p h) hi h
noncomputable def nI(f:Expr->Str->Pos->Bool)(e:Expr):Bool:=if h:e.ctorIdx=20 then Xs (motive_1:=λ_=>Bool) e h (λo x p=>f o x p) else false
@[elab_as_elim] theorem jM{f:Expr->Str->Pos->Bool}{e:Expr}{P:Expr->Prop}(h:nI f e=true)(kk:∀ o x p,f o x p=true->P (.Attribute o x p)):P e:=
 eT h λhi h=>Xs (motive_1:=λe=>∀ hi,Xs (motive_1:=λ_=>Bool) e hi (λo x p=>f o x p)=true->P e) e hi (λo x p _ h=>kk o x p h) hi h
noncomputable def Jq(f:WJ->Expr->V1->Bool)(e:Expr):Bool:=if h:e.ctorIdx=4 then Ym (motive_1:=λ_=>Bool) e h (λa b sc _=>f a b sc) else false
@[elab_as_elim] theorem Au{f:WJ->Expr->V1->Bool}{e:Expr}{P:Expr->Prop}(h:Jq f e=true)(kk:∀ a b sc p,f a b sc=true->P (.Lambda a b sc p)):P e:=
 eT h λhi h=>Ym (motive_1:=λe=>∀ hi,Ym (motive_1:=λ_=>Bool) e hi (λa b sc _=>f a b sc)=true->P e) e hi (λa b sc p _ h=>kk a b sc p h) hi h
def tw(f:Option Expr->Option Expr->Bool):Expr->Bool:=OY λl u t=>t.isNone&&f l u
@[elab_as_elim] theorem uP{f:Option Expr->Option Expr->Bool}{e:Expr}{P:Expr->Prop}(h:tw f e=true)(k:∀ l u p,f l u=true->P (.Slice l u none p)):P e:=
 OZ h λl u t p h=>j9 (a1 h) (k l u p (a2 h))
def Ek(f:Str->Str->Bool):Expr->Bool:=Cr (u0 λa b=>gR (λx _=>gR (λy _=>f x y) b) a)
@[elab_as_elim] theorem H9{f:Str->Str->Bool}{e:Expr}{P:Expr->Prop}(h:Ek f e=true)(k:∀ x px y py n p,f x y=true->P (.Tuple [.Name x px,.Name y py] n p)):P e:=
 tz h λl n p h=>CO h λa b h=>c4 h λx px h=>c4 h λy py h=>k x px y py n p h
end on
def de(f:IE->Expr->Bool):List IE->List Expr->Bool
 | [],es=>es.isEmpty
 |i::l,es=>match es with
  | []=>false
  |e::r=>!wO e&&f i e&&de f l r
noncomputable def h9(f:IE->Expr->Bool):List (NM×IE)->List Xn->Bool
 | [],es=>es.isEmpty
 |p::l,es=>match es with
  | []=>false
  |k::r=>k.arg==some (UK p.1.txt)&&f p.2 k.value&&h9 f l r
noncomputable def vZ(f:IE->Expr->Bool)(o:Option IE)(e:Option Expr):Bool:=match o with
 |none=>e.isNone
 |some i=>(match e with
  |some e=>f i e
  |none=>false)
theorem kI{f:IE->Expr->Bool}{P:List IE->List Expr->Prop}(n:P [] [])(s:∀ i l e r,wO e=false->f i e=true->de f l r=true->P l r->P (i::l) (e::r)){l:List IE}{es:List Expr}(h:de f l es=true):P l es:=
 List.rec (motive:=λl=>∀ es,de f l es=true->P l es) (λes h=>gJ h n) (λi l ih es=>Vk (motive:=λes=>de f (i::l) es=true->P (i::l) es) es ft λe r h=>s i l e r (nt (a1 (a1 h))) (a2 (a1 h)) (a2 h) (ih r (a2 h))) l es h
theorem C6{f:IE->Expr->Bool}{P:List (NM×IE)->List Xn->Prop}(n:P [] [])(s:∀ p l e q r,f p.2 e=true->h9 f l r=true->P l r->P (p::l) (⟨some (UK p.1.txt),e,q⟩::r)){l:List (NM×IE)}{es:List Xn}(h:h9 f l es=true):P l es:=
 List.rec (motive:=λl=>∀ es,h9 f l es=true->P l es) (λes h=>gJ h n) (λi l ih es=>Vk (motive:=λes=>h9 f (i::l) es=true->P (i::l) es) es ft λe r=>
  Xn.casesOn (motive_7:=λe=>h9 f (i::l) (e::r)=true->P (i::l) (e::r)) e λka v q h=>(eq_of_beq (a1 (a1 h)):ka=_)▸s i l v q r (a2 (a1 h)) (a2 h) (ih r (a2 h))) l es h
noncomputable def I0:List (String×AV):=[
 ("COMPILER_FLAG_NAMES",.g (.ref 39)),("pretty_flags",.g (.ref 46)),("UNKNOWN",.g (.ref 69)),("_get_name_info",.g (.ref 76)),("_parse_varint",.g (.ref 83)),("_netrclex",.g (.ref 121)),
 ("ENDMARKER",.int 0),("NT_OFFSET",.int 256),("EXACT_TOKEN_TYPES",.g (.ref 126)),("ISTERMINAL",.g (.ref 135)),("ISNONTERMINAL",.g (.ref 142)),("ISEOF",.g (.ref 149)),("_name_disallowed_re",.g (.ref 154)),("_value_disallowed_re",.g (.ref 159)),("Headers",.g (.ref 282)),
 ("_law_operators",.g (.ref 293)),("_law_octets",.g (.ref 300)),("_law_block",.g (.ref 305)),("_law_words",.g (.ref 310)),("_law_written",.g (.ref 315)),("_law_lexer",.g (.ref 320)),("_law_cut",.g (.ref 325)),("_law_jumps",.g (.ref 332)),("_law_names",.g (.ref 337)),("_law_table",.g (.ref 344)),("_law_melted",.g (.ref 349)),("_law_known",.g (.ref 354)),("_law_handed",.g (.ref 359)),("_law_reached",.g (.ref 366)),("_law_left",.g (.ref 371))]
noncomputable def RF:List (String×AV):=[
 ("range",.g (.type "range")),("enumerate",.g (.type "enumerate")),("zip",.g (.type "zip")),("type",.g (.type "type")),("str",.g (.type "str")),("list",.g (.type "list")),
 ("iter",.g (.builtin "iter")),("next",.g (.builtin "next")),("len",.g (.builtin "len")),("sum",.g (.builtin "sum")),("hex",.g (.builtin "hex")),("chr",.g (.builtin "chr")),("ord",.g (.builtin "ord")),("sorted",.g (.builtin "sorted"))]
def LR(a b:AV):Bool:=match a with
 | .g x=>(vN (λy=>aw (x==y) (some ())) b).isSome
 | .int x=>(fo (λy=>aw (x==y) (some ())) b).isSome
 |_=>false
theorem AN{α:Type}{o:Option α}(h:o.isSome=true):∃ y,o=some y:=VF.mp h
theorem LT{a b:AV}(h:LR a b=true):a=b:=
 AV.casesOn (motive_1:=λa=>LR a b=true->a=b) a ft (λ_=>ft) (λx h=>(AN h).elim λ_ e=>dR (P:=λb=>.int x=b) e λy e=>aJ e λh _=>congrArg AV.int (eq_of_beq h)) (λ_=>ft) (λ_=>ft) (λ_=>ft) (λ_=>ft)
  (λx h=>(AN h).elim λ_ e=>qw (P:=λb=>.g x=b) e λy e=>aJ e λh _=>congrArg AV.g (eq_of_beq h)) (λ_ _=>ft) (λ_ _=>ft) (λ_=>ft) h
def wv(x:String)(v:AV):Bool:=(I0++RF).any λp=>p.1==x&&LR p.2 v
noncomputable def Mh(ks:Ks)(x:Str):Bool:=match ks.lookup x with
 |some .local|some .cell|some .free=>true
 |_=>false
def Ts(ks:Ks)(x:Str):Bool:=Mh ks x||(ks.lookup x).isNone
noncomputable def dt:Nat->Str
 |0=>"<0>"
 |_=>"<1>"
def bO(ks:Ks)(sc:V1):Ks:=(sc.names.filter λp=>p.2!=.free||(ks.lookup p.1).isSome)++
 ((if ks.lookup (dt 0)=some .globalExplicit then[(dt 0,.globalExplicit)] else[])++(if ks.lookup (dt 1)=some .globalExplicit then[(dt 1,.globalExplicit)] else[]))
noncomputable def xd(e:Expr):Option Str:=if h:e.ctorIdx=23 then XR (motive_1:=λ_=>Option Str) e h (λx _=>some x) else none
def Up:List Expr->Option (List Str):=nT λa b=>ob (xd a) λx=>ob (xd b) λy=>some [x,y]
def iw(e:Expr):Option (List Str):=if h:e.ctorIdx=25 then Xq (motive_1:=λ_=>Option (List Str)) e h (λl _ _=>Up l) else ob (xd e) λx=>some [x]
noncomputable def cZ(ks:Ks)(x:Str):Bool:=match ks.lookup x with|some .local=>true|some .cell=>true|_=>false
def iW(ks:Ks)(sg:Sg)(t:bD)(e:Expr):Bool:=match t with
 | .one i=>gR (λx _=>sg.lookup x==some i&&cZ ks x) e
 | .many l=>u0 (λi j=>Ek (λx y=>sg.lookup x==some i&&(sg.lookup y==some j&&(cZ ks x&&(cZ ks y&&(x !=y&&i !=j))))) e) l
@[elab_as_elim] theorem qI{ks:Ks}{sg:Sg}{t:bD}{e:Expr}{P:bD->Expr->Prop}(h:iW ks sg t e=true)(o:∀ i x p,sg.lookup x=some i->cZ ks x=true->P (.one i) (.Name x p))
  (m:∀ i j x y px py k p,sg.lookup x=some i->sg.lookup y=some j->cZ ks x=true->cZ ks y=true->P (.many [i,j]) (.Tuple [.Name x px,.Name y py] k p)):P t e:=
 bD.casesOn (motive:=λt=>iW ks sg t e=true->P t e) t (λi h=>c4 h λx p h=>o i x p (eq_of_beq (a1 h)) (a2 h)) (λl h=>CO h λi j h=>H9 h λx px y py k p h=>m i j x y px py k p (eq_of_beq (a1 h)) (eq_of_beq (a1 (a2 h))) (a1 (a2 (a2 h))) (a1 (a2 (a2 (a2 h))))) h
noncomputable def Pm(ks:Ks)(sg:Sg)(sc:V1)(p:Str×V6):Bool:=sc.names.lookup p.1==some p.2&&(p.2!=.globalExplicit&&(p.2!=.free||((ks.lookup p.1==some .cell||(ks.lookup p.1==some .free||(ks.lookup p.1).isNone))&&(sg.lookup p.1).isSome)))
def tv(ks:Ks)(sg:Sg)(sc:V1):Bool:=sc.kind==.function&&sc.names.all (Pm ks sg sc)
noncomputable def cH(ns:List Str)(nx:Nat):Sg:=ns.zipIdx.map λp=>(p.1,nx+p.2)
structure ID(f:Ks->Sg->Nat->IE->Expr->Bool)(ks0 ks:Ks)(sg0 sgf:Sg)(nx:Nat)(t:bD)(it:IE)(ifs:List IE)(te ie:Expr)(ifes:List Expr)(ns:List Str):Prop where
 it:f ks0 sg0 nx it ie=true
 tgt:iW ks (cH ns nx++sgf) t te=true
 nm:iw te=some ns
 lc:ns.all (cZ ks)=true
 ifs:de (f ks (cH ns nx++sgf) (nx+ns.length)) ifs ifes=true
 len:i7 t=ns.length
 set:gK ie=false
 new:∀ y∈ns,sgf.lookup y=none
def IZ(f:Ks->Sg->Nat->IE->Expr->Bool)(ks0 ks:Ks)(sg0 sgf:Sg)(nx:Nat)(t:bD)(it:IE)(ifs:List IE)(c:Vo)(ns:List Str):Bool:=
 (0:Int)==c.is_async&&(f ks0 sg0 nx it c.iter&&(iW ks (cH ns nx++sgf) t c.target&&(ns.all (cZ ks)&&(de (f ks (cH ns nx++sgf) (nx+ns.length)) ifs c.ifs&&(i7 t==ns.length&&(!gK c.iter&&(ns.all λx=>(sgf.lookup x).isNone)))))))
noncomputable def Ul:IG->bD | .mk t _ _=>t
noncomputable def Uk:IG->IE | .mk _ i _=>i
noncomputable def Uj:IG->List IE | .mk _ _ l=>l
def pe(f:Ks->Sg->Nat->IE->Expr->Bool)(ks0 ks:Ks)(sg0 sg:Sg)(nx:Nat)(g:IG)(cs:List Vo)(k:Sg->Nat->List Vo->Bool):Bool:=match cs with
 | []=>false
 |c::cs=>match iw c.target with
  |none=>false
  |some ns=>IZ f ks0 ks sg0 sg nx (Ul g) (Uk g) (Uj g) c ns&&k (cH ns nx++sg) (nx+ns.length) cs
@[elab_as_elim] theorem C4{f:Ks->Sg->Nat->IE->Expr->Bool}{ks0 ks:Ks}{sg0 sg:Sg}{nx:Nat}{t:bD}{it:IE}{ifs:List IE}{cs:List Vo}{k:Sg->Nat->List Vo->Bool}{P:List Vo->Prop}(h:pe f ks0 ks sg0 sg nx (.mk t it ifs) cs k=true)
  (q:∀ te ie ifes cs ns,ID f ks0 ks sg0 sg nx t it ifs te ie ifes ns->k (cH ns nx++sg) (nx+ns.length) cs=true->P (⟨te,ie,ifes,0⟩::cs)):P cs:=
 Vk (motive:=λcs=>pe f ks0 ks sg0 sg nx (.mk t it ifs) cs k=true->P cs) cs ft (λc cs=>Vo.casesOn (motive_3:=λc=>pe f ks0 ks sg0 sg nx (.mk t it ifs) (c::cs) k=true->P (c::cs)) c λte ie ifes as h=>
  Vs (motive:=λo=>iw te=o->(match o with|none=>false|some ns=>IZ f ks0 ks sg0 sg nx t it ifs ⟨te,ie,ifes,as⟩ ns&&k (cH ns nx++sg) (nx+ns.length) cs)=true->P (⟨te,ie,ifes,as⟩::cs)) (iw te) (λ_=>ft) (λns e h=>c9 (a1 h) λh0 h'=>c9 h' λh2 h'=>c9 h' λh3 h'=>c9 h' λh4 h'=>c9 h' λh5 h'=>c9 h' λh6 h'=>c9 h' λh7 h'=>
   bq (P:=λas=>P (⟨te,ie,ifes,as⟩::cs)) h0 (q te ie ifes cs ns ⟨h2,h3,e,h4,h5,eq_of_beq h6,nt h7,λy hy=>Vm.mp (UP.mp h' y hy)⟩ (a2 h))) rfl h) h
def C5(f:Ks->Sg->Nat->IE->Expr->Bool)(ks:Ks)(gs:List IG)(k:Sg->Nat->Bool)(sg:Sg)(nx:Nat)(cs:List Vo):Bool:=match gs with
  | []=>cs.isEmpty&&k sg nx
  |g2::gs=>gs.isEmpty&&pe f ks ks sg sg nx g2 cs λsg nx cs=>cs.isEmpty&&k sg nx
def Bs(f:Ks->Sg->Nat->IE->Expr->Bool)(ks0 ks:Ks)(sg0 free:Sg)(nx:Nat)(gs:List IG)(cs:List Vo)(k:Sg->Nat->Bool):Bool:=match gs with
 | []=>false
 |g::gs=>pe f ks0 ks sg0 free nx g cs (C5 f ks gs k)
def yf(f:Str->Bool)(a:WJ):Bool:=a.posonlyargs.isEmpty&&(a.vararg.isNone&&(a.kwonlyargs.isEmpty&&(a.kw_defaults.isEmpty&&(a.kwarg.isNone&&(a.defaults.isEmpty&&one (λx=>x.annotation.isNone&&f x.arg) a.args)))))
@[elab_as_elim] theorem Ib{f:Str->Bool}{a:WJ}{P:WJ->Prop}(h:yf f a=true)(k:∀ p ap,f p=true->P ⟨[],[⟨p,none,ap⟩],none,[],[],none,[]⟩):P a:=
 WJ.casesOn (motive_5:=λa=>yf f a=true->P a) a (λa1' a2' a3' a4' a5' a6' a7' h=>c9 h λh1 h=>c9 h λh2 h=>c9 h λh3 h=>c9 h λh4 h=>c9 h λh5 h=>c9 h λh6 h=>
  gJ (P:=λx=>P ⟨x,_,_,_,_,_,_⟩) h1 (j9 (P:=λx=>P ⟨[],_,x,_,_,_,_⟩) h2 (gJ (P:=λx=>P ⟨[],_,none,x,_,_,_⟩) h3
   (gJ (P:=λx=>P ⟨[],_,none,[],x,_,_⟩) h4 (j9 (P:=λx=>P ⟨[],_,none,[],[],x,_⟩) h5 (gJ (P:=λx=>P ⟨[],a2',none,[],[],none,x⟩) h6
    (ff (P:=λx=>P ⟨[],x,none,[],[],none,[]⟩) h λx=>Arg.casesOn (motive_6:=λx=>(x.annotation.isNone&&f x.arg)=true->P ⟨[],[x],none,[],[],none,[]⟩) x λp an ap h=>j9 (P:=λy=>P ⟨[],[⟨p,y,ap⟩],none,[],[],none,[]⟩) (a1 h) (k p ap (a2 h))))))))) h
def Mp(g:Str->Str->Bool)(a:WJ)(sc:V1):Bool:=yf (λp=>u0 (λ(q r:Str×V6)=>(p,V6.local)==q&&(U4==r.2&&(p !=r.1&&(ScopeKind.function==sc.kind&&(!sc.isGenerator&&(!sc.isCoroutine&&g p r.1)))))) sc.names) a
theorem Mq{g:Str->Str->Bool}{a:WJ}{sc:V1}{P:WJ->V1->Prop}(h:Mp g a sc=true)(k:∀ p x ap more,p≠x->g p x=true->P ⟨[],[⟨p,none,ap⟩],none,[],[],none,[]⟩ ⟨.function,[(p,.local),(x,.free)],false,false,more⟩):P a sc:=
 Ib (P:=λa=>P a sc) h λp ap h=>V1.casesOn (motive:=λsc=>u0 (λ(q r:Str×V6)=>(p,V6.local)==q&&(U4==r.2&&(p !=r.1&&(ScopeKind.function==sc.kind&&(!sc.isGenerator&&(!sc.isCoroutine&&g p r.1)))))) sc.names=true->P ⟨[],[⟨p,none,ap⟩],none,[],[],none,[]⟩ sc) sc (λkd nm gn co more h=>
  CO (P:=λnm=>P ⟨[],[⟨p,none,ap⟩],none,[],[],none,[]⟩ ⟨kd,nm,gn,co,more⟩) h λq r h=>c9 h λh1 h=>c9 h λh2 h=>c9 h λh3 h=>c9 h λh4 h=>c9 h λh5 h=>c9 h λh6 h=>
   eq_of_beq h1▸bq (P:=λy=>P _ ⟨kd,[(p,.local),(r.1,y)],gn,co,more⟩) h2 (bq (P:=λy=>P _ ⟨y,[(p,.local),(r.1,.free)],gn,co,more⟩) h4 ((nt h5:gn=false)▸(nt h6:co=false)▸k p r.1 ap more (bne_iff_ne.mp h3) h))) h
noncomputable def IR(v:AV)(k:Const):Bool:=match v with
 | .none=>(match k with | .none=>true|_=>false)
 | .bool b=>(match k with | .bool d=>b==d|_=>false)
 | .int a=>(match k with | .int b=>a==b|_=>false)
 | .str a=>(match k with | .str b=>a==b|_=>false)
 |_=>false
noncomputable def zG(v:AV):Bool:=match v with
 | .bool b=>b
 |_=>false
def Qp(f:Ks->Sg->Nat->IE->Expr->Bool)(ks:Ks)(sg:Sg)(k i:Nat)(a:WJ)(b:Expr)(sc:V1):Bool:=
 Mp (λp x=>sg.lookup x==some i&&((ks.lookup x).isNone&&(ks.lookup (dt k)==some .globalExplicit&&(decide (k<2)&&(match nu k with
  |some l=>l.pos==1&&f [(p,.local)] [(p,0),(x,1)] 2 l.body b
  |none=>false))))) a sc
def ar:Nat->Ks->Sg->Nat->IE->Expr->Bool
 |0,_,_,_,_,_=>false
 |n+1,ks,sg,nx,i,e=>match i with
  | .con v=>At (IR v) e||(zG v&&gR (λx _=>UK "__debug__"==x) e)
  | .var i=>gR (λx _=>sg.lookup x==some i&&(Ts ks x&&(x !=UK "__debug__"&&x !=UK "__classdict__"))) e
  | .glob x v=>gR (λy _=>UK x==y&&(ks.lookup (UK x)==some .globalImplicit&&(wv x v&&UK x !=UK "__debug__"))) e
  | .bin op a b=>Jk (λl o r=>op==o&&(ar n ks sg nx a l&&ar n ks sg nx b r)) e
  | .neg a=>Ia (λo x=>UnaryOp.USub==o&&ar n ks sg nx a x) e
  | .not a=>Ia (λo x=>UnaryOp.Not==o&&ar n ks sg nx a x) e
  | .cmp op a b=>Jm (λl o r=>one (λo=>one (λr=>op==o&&(ar n ks sg nx a l&&(ar n ks sg nx b r&&!behindInMarks op r))) r) o) e
  | .and l=>yb (λo vs=>BoolOp.And==o&&de (ar n ks sg nx) l vs) e
  | .or l=>yb (λo vs=>BoolOp.Or==o&&de (ar n ks sg nx) l vs) e
  | .ite c a b=>OX (λt x y=>ar n ks sg nx c t&&(ar n ks sg nx a x&&ar n ks sg nx b y)) e
  | .list _ l=>Ei (λes=>WL l.length 1000&&de (ar n ks sg nx) l es) e
  | .tup l=>Cr (λes=>WL l.length 1000&&de (ar n ks sg nx) l es) e
  | .slice _ a lo hi=>oi (λx y=>ar n ks sg nx a x&&tw (λl u=>vZ (ar n ks sg nx) lo l&&vZ (ar n ks sg nx) hi u) y) e
  | .sub a j=>oi (λx y=>ar n ks sg nx a x&&(ar n ks sg nx j y&&!kX y)) e
  | .comp _ elt gens=>Eg (λel cs sc=>tv ks sg sc&&Bs (ar n) ks (bO ks sc) sg (sg.filter λp=>sc.names.lookup p.1==some .free) nx gens cs λsg' nx'=>ar n (bO ks sc) sg' nx' elt el) e
  | .meth o m args kws=>rF (λfe as ks' p=>nI (λoe x ap=>!np oe&&(UK m.txt==x&&(ap.endLine==p.line&&(ar n ks sg nx o oe&&(de (ar n ks sg nx) args as&&(h9 (ar n ks sg nx) kws ks'&&decide (as.length+ks'.length<20))))))) fe) e
  | .callS f args st=>rF (λfe as ks' _=>one (λ(k:Xn)=>k.arg.isNone&&(!wJ fe&&(ar n ks sg nx f fe&&(de (ar n ks sg nx) args as&&ar n ks sg nx st k.value)))) ks') e
  | .call f args kws=>rF (λfe as ks' _=>!wJ fe&&(ar n ks sg nx f fe&&(de (ar n ks sg nx) args as&&(h9 (ar n ks sg nx) kws ks'&&decide (as.length+ks'.length<10))))) e
  | .attr o m=>nI (λoe x _=>!np oe&&(UK m.txt==x&&ar n ks sg nx o oe)) e
  | .lam k l=>one (λi=>Jq (λa b sc=>Qp (ar n) ks sg k i a b sc) e) l
structure qq where
 params:WJ
 body:Expr
 scope:V1
 names:List Str
inductive vf(k:Nat):qq->Prop
 |mk {f:Nat} {p x:Str} {ap:Pos} {more:List (Str×Const)} {l:vG} {body:Expr}:p≠x->nu k=some l->l.pos=1->ar f [(p,.local)] [(p,0),(x,1)] 2 l.body body=true->
   vf k ⟨⟨[],[⟨p,none,ap⟩],none,[],[],none,[]⟩,body,⟨.function,[(p,.local),(x,.free)],false,false,more⟩,[x]⟩
end
end
section
open PySem PySem.Calls PyProof.Rows PySem.W
section
abbrev PH:=Addr->Option Obj
noncomputable def qr(o:Obj)(m:Str->Option UF):Prop:=∃ es ep,o.data= .dict es ep/\StrKeys es/\∀ name,nsFind es name=m name
structure Cx where
 prog:Xm
 w:WC
 H0:Heap
 tabs:List Addr
structure Wd where
 G:PH
 α:List Addr
noncomputable def ii:Nat->Str
 |0=>"_law_lexer.<locals>.<lambda>"
 |_=>"_law_handed.<locals>.<lambda>"
noncomputable def lw(G:PH)(q:Str)(a:Addr):Prop:=∃ o vs t,G a=some o/\o.data= .fields vs/\vs[1]? =some (.str q t)
structure vH(G:PH)(la:qq)(o:Obj)(cl:List (Str×Addr))(fd:Xf)(cc:Addr):Prop where
 cls:o.cls= .type "function"
 dat:o.data= .func fd
 par:fd.params=la.params
 bod:fd.body= .expr la.body
 sc:fd.scope=la.scope
 gl:fd.globals=VZ
 bi:fd.builtins=Wy
 clo:fd.closure=cl
 df:fd.defaults= .none
 kdf:fd.kwdefaults= .none
 code:fd.code= .ref cc
 co:lw G fd.qualname cc
inductive f7(G:PH):List (Str×Addr)->List UF->Prop
 |nil:f7 G [] []
 |cons {x:Str} {a:Addr} {o:Obj} {cl:List (Str×Addr)} {v:UF} {vs:List UF}:G a=some o->o.data= .cell (some v)->f7 G cl vs->f7 G ((x,a)::cl) (v::vs)
mutual
inductive VR(c:Cx)(w:Wd):AV->UF->Prop
 |none:VR c w .none .none
 |bool {b:Bool}:VR c w (.bool b) (.bool b)
 |int {i:Int} {t:Tok}:VR c w (.int i) (.int i t)
 |str {s:Str} {t:Tok}:VR c w (.str s) (.str s t)
 |tup {a:Addr} {n:Nat} {l:List AV} {vs:List UF}:w.G a=some (U5 "tuple" vs.toArray n)->VRs c w l vs->VR c w (.tup l) (.ref a)
 |lst {a:Addr} {n:Nat} {l:List AV} {vs:List UF}:w.G a=some (U5 "list" vs.toArray n)->VRs c w l vs->VR c w (.lst l) (.ref a)
 |loc {a:Addr} {i:Nat}:w.α[i]? =some a->VR c w (.loc i) (.ref a)
 |g {v:UF}:VR c w (.g v) v
 |bm {q f:Addr} {self:AV} {sv:UF}:w.G q=some (methodObj (.ref f) sv)->VR c w self sv->VR c w (.bm f self) (.ref q)
 |clo {q:Addr} {o:Obj} {k:Nat} {la:qq} {caps:List AV} {cl:List (Str×Addr)} {vs:List UF} {fd:Xf} {cc:Addr}:vf k la->w.G q=some o->vH w.G la o cl fd cc->cl.map (·.1)=la.names.reverse->
   f7 w.G cl.reverse vs->VRs c w caps vs->VR c w (.clo k caps) (.ref q)
 |kwd {a:Addr} {n:Nat} {l:List (NM×AV)} {es:List Vx}:w.G a=some (Xl es n)->(a==ZC)=false->KRs c w l es->VR c w (.kwd l) (.ref a)
inductive VRs(c:Cx)(w:Wd):List AV->List UF->Prop
 |nil:VRs c w [] []
 |cons {d:AV} {v:UF} {l:List AV} {vs:List UF}:VR c w d v->VRs c w l vs->VRs c w (d::l) (v::vs)
inductive KRs(c:Cx)(w:Wd):List (NM×AV)->List Vx->Prop
 |nil:KRs c w [] []
 |cons {p:NM×AV} {l:List (NM×AV)} {h:Int} {t:Tok} {v:UF} {es:List Vx}:VR c w p.2 v->KRs c w l es->KRs c w (p::l) (⟨h,.str (UK p.1.txt) t,v⟩::es)
end
noncomputable def yZ(G G':PH):Prop:=∀ a o,G a=some o->G' a=some o
structure Wd.le(w w':Wd):Prop where
 g:yZ w.G w'.G
 a:w.α <+:w'.α
theorem yZ.refl(G:PH):yZ G G:=λ_ _ h=>h
theorem Wd.le.refl(w:Wd):w.le w:=⟨yZ.refl _,XE _⟩
theorem Wd.le.trans{a b c:Wd}(h:a.le b)(k:b.le c):a.le c:=⟨λx o e=>k.g x o (h.g x o e),h.a.trans k.a⟩
theorem tD{α α':List Addr}(h:α <+:α'){i:Nat}{a:Addr}(e:α[i]? =some a):α'[i]? =some a:=
 h.elim λt q=>q▸(List.getElem?_append_left (List.getElem?_eq_some_iff.mp e).1).trans e
theorem Wd.le.at{w w':Wd}(h:w.le w'){i:Nat}{a:Addr}(e:w.α[i]? =some a):w'.α[i]? =some a:=tD h.a e
section mono
variable {c:Cx}{w w':Wd}(h:w.le w')
include h
theorem lw.mono{q:Str}{a:Addr}(k:lw w.G q a):lw w'.G q a:=k.imp λo k=>k.imp λvs k=>k.imp λt k=>⟨h.g _ _ k.1,k.2⟩
theorem vH.mono{la:qq}{o:Obj}{cl:List (Str×Addr)}{fd:Xf}{cc:Addr}(k:vH w.G la o cl fd cc):vH w'.G la o cl fd cc:={k with co:=k.co.mono h}
theorem f7.mono{cl:List (Str×Addr)}{vs:List UF}(k:f7 w.G cl vs):f7 w'.G cl vs:=
 f7.rec (motive:=λcl vs _=>f7 w'.G cl vs) .nil (λa b _ i=>.cons (h.g _ _ a) b i) k
theorem VR.mono{d:AV}{v:UF}(k:VR c w d v):VR c w' d v:=
 VR.rec (motive_1:=λd v _=>VR c w' d v) (motive_2:=λd v _=>VRs c w' d v) (motive_3:=λd v _=>KRs c w' d v)
  .none .bool .int .str (λa _ i=>.tup (h.g _ _ a) i) (λa _ i=>.lst (h.g _ _ a) i) (λa=>.loc (h.at a)) .g (λa _ i=>.bm (h.g _ _ a) i)
  (λa b e f g _ i=>.clo a (h.g _ _ b) (e.mono h) f (g.mono h) i) (λa b _ i=>.kwd (h.g _ _ a) b i) .nil (λ_ _ i j=>.cons i j) .nil (λ_ _ i j=>.cons i j) k
end mono
section
variable {c:Cx}{w w':Wd}
noncomputable def IK(c:Cx)(w:Wd)(P:UF->Prop)(d:AV):Prop:=match d with
 | .none=>P .none
 | .bool b=>P (.bool b)
 | .int i=>∀ t,P (.int i t)
 | .str s=>∀ t,P (.str s t)
 | .tup l=>∀ a vs n,w.G a=some (U5 "tuple" vs.toArray n)->VRs c w l vs->P (.ref a)
 | .lst l=>∀ a vs n,w.G a=some (U5 "list" vs.toArray n)->VRs c w l vs->P (.ref a)
 | .loc i=>∀ a,w.α[i]? =some a->P (.ref a)
 | .g u=>P u
 | .bm f self=>∀ q sv,w.G q=some (methodObj (.ref f) sv)->VR c w self sv->P (.ref q)
 | .clo k caps=>∀ q o la cl vs fd cc,vf k la->w.G q=some o->vH w.G la o cl fd cc->cl.map (·.1)=la.names.reverse->f7 w.G cl.reverse vs->VRs c w caps vs->P (.ref q)
 | .kwd l=>∀ a n es,w.G a=some (Xl es n)->(a==ZC)=false->KRs c w l es->P (.ref a)
@[elab_as_elim] theorem VR.k{P:UF->Prop}{d:AV}{v:UF}(h:VR c w d v)(k:IK c w P d):P v:=
 VR.casesOn (motive_1:=λd v _=>IK c w P d->P v) h id id (λk=>k _) (λk=>k _) (λa b k=>k _ _ _ a b) (λa b k=>k _ _ _ a b) (λa k=>k _ a) id (λa b k=>k _ _ a b)
  (λa b e f g h k=>k _ _ _ _ _ _ _ a b e f g h) (λa b e k=>k _ _ _ a b e) k
noncomputable def Lp(c:Cx)(w:Wd)(P:List UF->Prop)(l:List AV):Prop:=match l with
 | []=>P []
 |d::l=>∀ v vs,VR c w d v->VRs c w l vs->P (v::vs)
@[elab_as_elim] theorem VRs.k{P:List UF->Prop}{l:List AV}{vs:List UF}(h:VRs c w l vs)(k:Lp c w P l):P vs:=
 VRs.casesOn (motive_2:=λl vs _=>Lp c w P l->P vs) h id (λa b k=>k _ _ a b) k
noncomputable def Ll(c:Cx)(w:Wd)(P:List Vx->Prop)(l:List (NM×AV)):Prop:=match l with
 | []=>P []
 |p::l=>∀ h t v es,VR c w p.2 v->KRs c w l es->P (⟨h,.str (UK p.1.txt) t,v⟩::es)
@[elab_as_elim] theorem KRs.k{P:List Vx->Prop}{l:List (NM×AV)}{vs:List Vx}(h:KRs c w l vs)(k:Ll c w P l):P vs:=
 KRs.casesOn (motive_3:=λl vs _=>Ll c w P l->P vs) h id (λa b k=>k _ _ _ _ a b) k
theorem VRs.ind{M:List AV->List UF->Prop}(n:M [] [])(s:∀ d v l vs,VR c w d v->VRs c w l vs->M l vs->M (d::l) (v::vs)){l:List AV}{vs:List UF}(h:VRs c w l vs):M l vs:=
 List.rec (motive:=λl=>∀ vs,VRs c w l vs->M l vs) (λvs h=>h.k n) (λd l i vs h=>h.k λv vs a b=>s d v l vs a b (i vs b)) l vs h
theorem KRs.ind{M:List (NM×AV)->List Vx->Prop}(n:M [] [])(s:∀ p l h t v es,VR c w p.2 v->KRs c w l es->M l es->M (p::l) (⟨h,.str (UK p.1.txt) t,v⟩::es)){l:List (NM×AV)}{vs:List Vx}(h:KRs c w l vs):M l vs:=
 List.rec (motive:=λl=>∀ vs,KRs c w l vs->M l vs) (λvs h=>h.k n) (λp l i vs h=>h.k λh t v es a b=>s p l h t v es a b (i es b)) l vs h
theorem VRs.mono(h:w.le w'){l:List AV}{vs:List UF}(k:VRs c w l vs):VRs c w' l vs:=k.ind .nil λ_ _ _ _ a _ b=>.cons (a.mono h) b
theorem KRs.mono(h:w.le w'){l:List (NM×AV)}{vs:List Vx}(k:KRs c w l vs):KRs c w' l vs:=k.ind .nil λ_ _ _ _ _ _ a _ b=>.cons (a.mono h) b
theorem VRs.length{l:List AV}{vs:List UF}(k:VRs c w l vs):vs.length=l.length:=k.ind (M:=λl vs=>vs.length=l.length) rfl λ_ _ _ _ _ _ i=>congrArg (· +1) i
theorem VRs.get{l:List AV}{vs:List UF}(k:VRs c w l vs):∀{i:Nat} {d:AV},l[i]? =some d->∃ v,vs[i]? =some v/\VR c w d v:=
 k.ind (M:=λl vs=>∀{i:Nat} {d:AV},l[i]? =some d->∃ v,vs[i]? =some v/\VR c w d v) (λe=>no e) λd v l vs a _ ih i d'=>
  XC (motive:=λi=>(d::l)[i]? =some d'->∃ u,(v::vs)[i]? =some u/\VR c w d' u) i (λe=>⟨v,rfl,sj e▸a⟩) λj e=>ih e
theorem VRs.append{l l':List AV}{vs vs':List UF}(a:VRs c w l vs)(b:VRs c w l' vs'):VRs c w (l++l') (vs++vs'):=a.ind (M:=λl vs=>VRs c w (l++l') (vs++vs')) b λ_ _ _ _ a _ i=>.cons a i
theorem VRs.take(n:Nat):∀{l:List AV} {vs:List UF},VRs c w l vs->VRs c w (l.take n) (vs.take n):=
 Nat.rec (motive:=λn=>∀{l:List AV} {vs:List UF},VRs c w l vs->VRs c w (l.take n) (vs.take n)) (λ{l vs} _=>(ZL (l:=l)).symm▸(ZL (l:=vs)).symm▸.nil)
  (λn ih {l vs} k=>Vk (motive:=λl=>VRs c w l vs->VRs c w (l.take (n+1)) (vs.take (n+1))) l (λk=>k.k .nil) (λd l k=>k.k λv vs a b=>.cons a (ih b)) k) n
theorem VRs.drop(n:Nat):∀{l:List AV} {vs:List UF},VRs c w l vs->VRs c w (l.drop n) (vs.drop n):=
 Nat.rec (motive:=λn=>∀{l:List AV} {vs:List UF},VRs c w l vs->VRs c w (l.drop n) (vs.drop n)) (λk=>k)
  (λn ih {l vs} k=>Vk (motive:=λl=>VRs c w l vs->VRs c w (l.drop (n+1)) (vs.drop (n+1))) l (λk=>k.k .nil) (λd l k=>k.k λv vs a b=>ih b) k) n
end
noncomputable def OR(c:Cx)(w:Wd)(x:AO)(o:Obj):Prop:=match x with
 | .list l=>∃ vs n,o=U5 "list" vs.toArray n/\VRs c w l vs
 | .inst k d=>∃ dx,o=instObj k dx/\(cD k).isSome=true/\w.α[d]? =some dx
 | .dict fs=>∃ es n,o=Xl es n/\KRs c w fs es/\fs.length<=100
 | .liter l k=>∃ b vs sl dc n,o=⟨.type "list_iterator",dc,.fields #[.ref b,.int k 0],sl⟩/\w.G b=some (U5 "list" vs.toArray n)/\VRs c w l vs
 | .citer f s=>∃ fv sv sl dc,o=⟨.type "callable_iterator",dc,.fields #[fv,sv,.bool false],sl⟩/\VR c w f fv/\VR c w s sv
 | .gone=>∃ sl dc,o=⟨.type "callable_iterator",dc,.fields #[.none,.none,.bool true],sl⟩
 | .tab k=>∃ ps:Array UF,o=tabObj ps/\TriplesOk ps.toList/\∀ pos cv,Zo pos ps.toList=some cv->∃ a,cv= .ref a/\lw w.G (ii k) a
theorem OR.mono{c:Cx}{w w':Wd}(h:w.le w'){x:AO}{o:Obj}:OR c w x o->OR c w' x o:=
 AO.casesOn (motive:=λx=>OR c w x o->OR c w' x o) x (λl=>.imp λ_=>.imp λ_=>.imp_right (·.mono h)) (λk d=>.imp λ_=>.imp_right (.imp_right h.at)) (λl=>.imp λ_=>.imp λ_=>.imp_right (.imp_left (·.mono h)))
  (λl k=>.imp λ_=>.imp λ_=>.imp λ_=>.imp λ_=>.imp λ_=>.imp_right (.imp (h.g _ _) (·.mono h))) (λf s=>.imp λ_=>.imp λ_=>.imp λ_=>.imp λ_=>.imp_right (.imp (·.mono h) (·.mono h))) id
  (λk=>.imp λ_=>.imp_right (.imp_right λb pos cv e=>(b pos cv e).imp λ_=>.imp_right (·.mono h)))
structure St(c:Cx)(w:Wd)(H:AH)(O:PH)(h:Heap):Prop where
 top:∀ a o,c.H0.get? a=some o->w.G a=some o
 tabs:c.tabs <+:w.α
 keep:∀ a o,w.G a=some o->h.get? a=some o
 own:∀ a o,O a=some o->h.get? a=some o/\w.G a=none
 len:w.α.length=H.length
 nodup:w.α.Nodup
 obj:∀(i:Nat) (o:AO),H[i]? =some o->∃(a:Addr) (r:Obj),w.α[i]? =some a/\h.get? a=some r/\OR c w o r/\w.G a=none/\O a=none
noncomputable def A9(G:PH)(a:Addr)(o:Obj):PH:=λb=>if b=a then some o else G b
def Wd.add(w:Wd)(a:Addr)(o:Obj):Wd:=⟨A9 w.G a o,w.α⟩
theorem jX(G:PH)(a:Addr)(o:Obj):A9 G a o a=some o:=if_pos rfl
theorem b9(G:PH){a b:Addr}(o:Obj)(h:b≠a):A9 G a o b=G b:=if_neg h
theorem gO{G:PH}{a b:Addr}{x:Obj}(h:G a=none)(k:G b=some x):b≠a:=λq=>no (h.symm.trans (q▸k))
theorem Wd.add_le{w:Wd}{a:Addr}{o:Obj}(h:w.G a=none):w.le (w.add a o):=⟨λb x e=>(b9 _ _ (gO h e)).trans e,XE _⟩
theorem Wd.add_at{w:Wd}{a:Addr}{o:Obj}:(w.add a o).G a=some o:=jX _ _ _
noncomputable def Wd.new(w:Wd)(a:Addr):Wd:=⟨w.G,w.α++[a]⟩
theorem Wd.new_le{w:Wd}{a:Addr}:w.le (w.new a):=⟨yZ.refl _,YJ _ _⟩
section
variable {c:Cx}{w:Wd}{H:AH}{O:PH}{h h':Heap}
theorem St.lt(S:St c w H O h){a:Addr}{o:Obj}(e:w.G a=some o):a<h.objs.size:=Vz (S.keep _ _ e)
theorem z9{G:PH}{h:Heap}(k:∀ a o,G a=some o->h.get? a=some o){a:Addr}(e:h.get? a=none):G a=none:=
 UQ.mpr λo q=>no (e.symm.trans (k _ _ q))
theorem St.g_none(S:St c w H O h){a:Addr}(e:h.get? a=none):w.G a=none:=z9 S.keep e
theorem St.o_none(S:St c w H O h){a:Addr}(e:h.get? a=none):O a=none:=z9 (λa o q=>(S.own a o q).1) e
theorem St.alpha(S:St c w H O h){i:Nat}{a:Addr}(e:w.α[i]? =some a):∃ o r,H[i]? =some o/\h.get? a=some r/\OR c w o r/\w.G a=none/\O a=none:=
 have hi:i<H.length:=S.len▸(List.getElem?_eq_some_iff.mp e).1
 have hH:=List.getElem?_eq_getElem hi
 (S.obj i _ hH).elim λb k=>k.elim λr k=>⟨_,r,hH,sj (k.1.symm.trans e)▸k.2⟩
theorem St.at(S:St c w H O h){i:Nat}{a:Addr}{o:AO}(e:w.α[i]? =some a)(q:H[i]? =some o):∃ r,h.get? a=some r/\OR c w o r:=
 (S.obj i _ q).elim λb k=>k.elim λr k=>⟨r,sj (k.1.symm.trans e)▸k.2.1,k.2.2.1⟩
theorem St.not_alpha(S:St c w H O h){a:Addr}(e:h.get? a=none):a∉w.α:=λm=>
 (List.getElem?_of_mem m).elim λi q=>(S.alpha q).elim λo k=>k.elim λr k=>no (e.symm.trans k.2.1)
theorem cy(h:Heap):h.get? h.objs.size=none:=UQ.mpr λo q=>Nat.lt_irrefl _ (Vz q)
theorem St.keeps(S:St c w H O h)(k:∀ b o,h.get? b=some o->h'.get? b=some o):St c w H O h':=
 {S with keep:=λa o e=>k _ _ (S.keep _ _ e),own:=λa o e=>⟨k _ _ (S.own _ _ e).1,(S.own _ _ e).2⟩,obj:=λi o e=>(S.obj i o e).imp λa=>.imp λr=>.imp_right (.imp_left (k _ _))}
theorem St.freeze(S:St c w H O h){a:Addr}{o:Obj}(ha:h.get? a=some o)(hg:w.G a=none)(ho:O a=none)(hn:a∉w.α):St c (w.add a o) H O h where
 top:=λb x e=>(Wd.add_le hg).g _ _ (S.top _ _ e)
 tabs:=S.tabs
 keep:=λb x e=>if q:b=a then q▸((if_pos q).symm.trans e)▸ha else S.keep _ _ ((b9 _ _ q).symm.trans e)
 own:=λb x e=>(S.own _ _ e).imp_right (b9 _ _ (gO ho e)).trans
 len:=S.len
 nodup:=S.nodup
 obj:=λi x e=>(S.obj i x e).imp λb=>.imp λr k=>⟨k.1,k.2.1,k.2.2.1.mono (Wd.add_le hg),(b9 w.G o (a:=a) (b:=b) λq=>hn (VM (i:=i) (q▸k.1))).trans k.2.2.2.1,k.2.2.2.2⟩
theorem PP{α:Type}{l:List α}{y x:α}{i:Nat}{P:Prop}(e:(l++[y])[i]? =some x)(k:l[i]? =some x->P)(k2:i=l.length->y=x->P):P:=
 (Nat.lt_or_ge i l.length).elim (λq=>k ((List.getElem?_append_left q).symm.trans e)) λq=>
  have e:=(List.getElem?_append_right q).symm.trans e
  (Nat.eq_or_lt_of_le q).elim (λq=>k2 q.symm (sj ((show[y][i-l.length]? =some y from q▸(Zc l.length).symm▸rfl).symm.trans e)))
   λq=>no ((List.getElem?_eq_none (Nat.le_sub_of_add_le (Zg _ _▸q))).symm.trans e)
theorem St.own_new(S:St c w H O h){a:Addr}{r:Obj}{o:AO}(ha:h.get? a=some r)(hg:w.G a=none)(ho:O a=none)(hn:a∉w.α)(hr:OR c (w.new a) o r):St c (w.new a) (H++[o]) O h where
 top:=S.top
 tabs:=S.tabs.trans (YJ _ _)
 keep:=S.keep
 own:=S.own
 len:=(UM (as:=w.α) (bs:=[a])).trans ((congrArg (· +[o].length) S.len).trans UM.symm)
 nodup:=List.nodup_append.mpr ⟨S.nodup,List.pairwise_singleton _ _,λx hx y hy q=>hn (US.mp hy▸q▸hx)⟩
 obj:=λi x e=>PP e (λe=>(S.obj i x e).imp λb=>.imp λr=>.imp (tD (YJ _ _)) (.imp_right (.imp_left (·.mono Wd.new_le))))
  λq z=>⟨a,r,q▸S.len▸List.getElem?_concat_length,ha,z▸hr,hg,ho⟩
theorem St.turn(S:St c w H O h){i:Nat}{a:Addr}{r:Obj}{o:AO}(hi:w.α[i]? =some a)(hs:∀ b o,b≠a->h.get? b=some o->h'.get? b=some o)(ha:h'.get? a=some r)(hr:OR c w o r):St c w (H.set i o) O h':=
 (S.alpha hi).elim λo₀ k=>k.elim λr₀ k=>{S with
  keep:=λb x e=>hs b x (gO k.2.2.2.1 e) (S.keep _ _ e)
  own:=λb x e=>(S.own _ _ e).imp_left (hs b x (gO k.2.2.2.2 e))
  len:=S.len.trans Wo.symm
  obj:=λj x e=>if q:i=j then
    have hj:j<H.length:=q▸S.len▸(List.getElem?_eq_some_iff.mp hi).1
    ⟨a,r,q▸hi,ha,sj ((List.getElem?_set_self hj).symm.trans ((congrArg (λi=>(H.set i o)[j]?) q).symm.trans e))▸hr,k.2.2.2⟩
   else(S.obj j x ((List.getElem?_set_ne q).symm.trans e)).imp λb=>.imp λr' m=>⟨m.1,hs b r' (λz=>q
    ((List.getElem_inj S.nodup).mp ((List.getElem?_eq_some_iff.mp hi).2.trans (z.symm.trans (List.getElem?_eq_some_iff.mp m.1).2.symm)))) m.2.1,m.2.2⟩}
end
noncomputable def aI(s:UJ)(h:Heap)(t:Nat):UJ:={s with heap:=h,toks:=t}
noncomputable def aT{β:Type}(c:Cx)(w:Wd)(H:AH)(O:PH)(R:Wd->β->Prop)(Q:β->UJ->Prop)(s:UJ):Prop:=∀ w' h t v,w.le w'->St c w' H O h->R w' v->Q v (aI s h t)
noncomputable def bw{β δ:Type}(c:Cx)(A:Vh)(O:PH)(w:Wd)(H:AH)(x:Option (δ×AH))(p:Sem β)(R:δ->Wd->β->Prop):Prop:=
 ∀ d H',x=some (d,H')->∀ s Q E,St c w H O s.heap->aT c w H' O (R d) Q s->UI (UN c.prog c.w) A p Q E s
noncomputable def Vd(c:Cx)(d:AV)(w:Wd)(v:UF):Prop:=VR c w d v
noncomputable def RC(c:Cx)(l:List AV)(w:Wd)(vs:List UF):Prop:=VRs c w l vs
noncomputable def Bd{β:Type}(b:β)(_:Wd)(v:β):Prop:=v=b
section
variable {β δ γ:Type}{c:Cx}{A:Vh}{O:PH}{w w':Wd}{H:AH}{x:Option (δ×AH)}{p:Sem β}{R:δ->Wd->β->Prop}{s:UJ}{Q:β->UJ->Prop}{E:UF->UJ->Prop}
theorem aT.after{R:Wd->β->Prop}(k:aT c w H O R Q s)(l:w.le w'){hp:Heap}{t:Nat}:aT c w' H O R Q (aI s hp t):=λw2 h2 t2 v a b c=>k w2 h2 t2 v (l.trans a) b c
theorem aT.here{R:Wd->β->Prop}(k:aT c w H O R Q s)(S:St c w H O s.heap){v:β}(r:R w v):Q v s:=k w s.heap s.toks v (.refl _) S r
theorem aT.tok{R:Wd->β->Prop}(k:aT c w H O R Q s)(S:St c w H O s.heap){v:β}(r:R w v)(t:Nat):Q v {s with toks:=t}:=k w s.heap t v (.refl _) S r
theorem aT.pr{R:δ->Wd->β->Prop}{d x:δ}{H':AH}(k:aT c w H' O (R d) Q s)(e:some (x,H)=some (d,H')):aT c w H O (R x) Q s:=
 have e:=UW (sj e);e.1▸e.2▸k
theorem bw.k(h:bw c A O w H x p R){f:δ->AH->Option γ}{y:γ}(e:ah x f=some y)(S:St c w H O s.heap)
 (k:∀ d H' w' h t v,f d H'=some y->w.le w'->St c w' H' O h->R d w' v->Q v (aI s h t)):UI (UN c.prog c.w) A p Q E s:=
 aP e λd H' q e=>h d H' q s Q E S λw' h t v a b c=>k d H' w' h t v e a b c
end
end
section
structure aG(n:Nat)(A:Vh):Prop where
 hd:A.handled=none
 dp:A.depth+2*n<=900
 un:A.units+60*n<=9800
theorem aG.u{n:Nat}{A:Vh}(h:aG n A):A.units<=9800:=UH (Vi _ _) h.un
theorem sz{n:Nat}(h:aW n=true):n<=Xc:=UH (UG h) (by decide)
section
variable {c:Cx}{w:Wd}{H:AH}{O:PH}{A:Vh}{E:UF->UJ->Prop}{s:UJ}{Q:UF->UJ->Prop}
theorem aT.frozen{d:AV}(hQ:aT c w H O (Vd c d) Q s)(S:St c w H O s.heap){o:Obj}(hf:o.isFreed=false)(tk:Nat)
  (hv:∀ w',w.le w'->w'.G s.heap.objs.size=some o->VR c w' d (.ref s.heap.objs.size)):Q (.ref s.heap.objs.size) {s with heap:=s.heap.push o,toks:=tk}:=
 have f:=cy s.heap
 have l:=Wd.add_le (S.g_none f)
 hQ _ (s.heap.push o) tk _ l ((S.keeps λb x e=>Heap.get?_push_of_some _ e).freeze (Heap.get?_push_size _ hf) (S.g_none f) (S.o_none f) (S.not_alpha f)) (hv _ l Wd.add_at)
theorem aT.owned{x:AO}(hQ:aT c w (H++[x]) O (Vd c (.loc H.length)) Q s)(S:St c w H O s.heap){o:Obj}(hf:o.isFreed=false)(tk:Nat)
  (hr:OR c (w.new s.heap.objs.size) x o):Q (.ref s.heap.objs.size) {s with heap:=s.heap.push o,toks:=tk}:=
 have f:=cy s.heap
 hQ (w.new s.heap.objs.size) (s.heap.push o) tk _ Wd.new_le ((S.keeps λb x e=>Heap.get?_push_of_some _ e).own_new (Heap.get?_push_size _ hf) (S.g_none f) (S.o_none f) (S.not_alpha f) hr) (.loc (S.len▸List.getElem?_concat_length))
noncomputable def DI(c:Cx)(w:Wd)(h:Heap)(P:UF->Prop)(d:AV):Prop:=match d with
 | .lst l=>∀ a vs n,h.get? a=some (U5 "list" vs.toArray n)->VRs c w l vs->P (.ref a)
 |d=>IK c w P d
noncomputable def DR(c:Cx)(w:Wd)(h:Heap)(d:AV)(v:UF):Prop:=∀ P,DI c w h P d->P v
theorem DR.of{d:AV}{v:UF}(hv:VR c w d v){h:Heap}(S:St c w H O h):DR c w h d v:=λP k=>
 hv.k (AV.casesOn (motive_1:=λd=>DI c w h P d->IK c w P d) d id (λ_=>id) (λ_=>id) (λ_=>id) (λ_=>id) (λl k a vs n e=>k a vs n (S.keep _ _ e)) (λ_=>id) (λ_=>id) (λ_ _=>id) (λ_ _=>id) (λ_=>id) k)
theorem VR.dr{d:AV}{v:UF}(hv:VR c w d v){h:Heap}(S:St c w H O h):DR c w h (au H d) v:=
 AV.casesOn (motive_1:=λd=>VR c w d v->DR c w h (au H d) v) d (.of · S) (λ_=>(.of · S)) (λ_=>(.of · S)) (λ_=>(.of · S)) (λ_=>(.of · S)) (λ_=>(.of · S))
  (λn hv=>hv.k λa e=>(S.alpha e).elim λo k=>k.elim λr k=>λP=>(show m9 n (some o)=au H (.loc n) from congrArg (m9 n) k.1.symm)▸
   AO.casesOn (motive:=λo=>OR c w o r->DI c w h P (m9 n (some o))->P (.ref a)) o (λl q k'=>q.elim λvs q=>q.elim λm q=>k' a vs m (q.1▸k.2.1) q.2) (λ_ _ _ k=>k a e) (λ_ _ k=>k a e) (λ_ _ _ k=>k a e) (λ_ _ _ k=>k a e) (λ_ k=>k a e) (λ_ _ k=>k a e) k.2.2.1)
  (λ_=>(.of · S)) (λ_ _=>(.of · S)) (λ_ _=>(.of · S)) (λ_=>(.of · S)) hv
@[elab_as_elim] theorem DR.k{d:AV}{v:UF}{h:Heap}{P:UF->Prop}(k:DR c w h d v)(q:DI c w h P d):P v:=k P q
theorem uY{x:Str}(h:(x.length==0)=true):x=⟨#[]⟩:=congrArg UO (Array.eq_empty_of_size_eq_zero (eq_of_beq h))
theorem tM(y:Str):(⟨#[]⟩:Str)++y=y:=congrArg UO Array.empty_append
theorem tJ(y:Str):y++(⟨#[]⟩:Str)=y:=congrArg UO Array.append_empty
theorem tL(x y:Str):(x++y).length=x.length+y.length:=Array.size_append
theorem JH{prog:Xm}{w:WC}{x y:Str}{t u:Tok}(hz:x.length+y.length<=Xc)(h:∀ tk t',Q (.str (x++y) t') {s with toks:=tk}):
  UI (UN prog w) A (Zp .Add (.str x t) (.str y u)) Q E s:=by
 refine PySem.P.add_str ?_
 split
 ·rename_i q
  have:=h s.toks u
  rw[uY q,tM] at this
  exact this
 ·split
  ·rename_i q
   have:=h s.toks t
   rw[uY q,tJ] at this
   exact this
  ·exact⟨(tL _ _).symm▸hz,h _ _⟩
theorem MY{x:Str}{n:Int}(h0: 0<=n)(h1:n<=1000)(h2:x.length<=1000):MulOk x n:=by
 have k:x.length*n.toNat<=1000000:=WU h2 (Int.toNat_le.mpr h1)
 refine⟨?_,?_,?_⟩
 ·simp;omega
 ·intro h1 _ h3
  have:(1000:Int)<=(2^63-1)/n:=Int.le_ediv_of_mul_le (by omega) (by omega)
  omega
 ·intro _ _
  simp[ZH,Xc];omega
theorem VRs.rep{l:List AV}{vs:List UF}(h:VRs c w l vs)(n:Nat):VRs c w (U2 n l).flatten (U2 n vs).flatten:=
 Nat.rec (motive:=λn=>VRs c w (U2 n l).flatten (U2 n vs).flatten) .nil (λ_ i=>h.append i) n
theorem uf(vs:List UF):∀(n:Nat) (a:Array UF),List.foldl (λx1 x2=>x1++x2) a (U2 n vs.toArray)=a++(U2 n vs).flatten.toArray
 |0,a=>by simp
 |n+1,a=>by
  rw[Yp,Zz,uf vs n,Yp,List.flatten_cons]
  simp[Array.append_assoc]
theorem E3{prog:Xm}{w:WC}{a:Addr}{vs:List UF}{n:Nat}{k:Int}{t:Tok}(h1:s.heap.get? a=some (U5 "list" vs.toArray n))(h0: 0<=k)(hk:k<=1000)(hl:vs.length<=1000)
  (h:Q (.ref s.heap.objs.size) {s with heap:=s.heap.push (U5 "list" (U2 k.toNat vs).flatten.toArray 0)}):
  UI (UN prog w) A (Zp .Mult (.ref a) (.int k t)) Q E s:=by
 have hm:vs.length*k.toNat<=1000*1000:=WU hl (by omega)
 have hm2:vs.toArray.size*k.toNat<=1000*1000:=hm
 refine wpAny_binaryOp_repeat_ref (T:="list") (U:="int") (by decide) ⟨_,h1,rfl⟩ (λs'=>typeIs_int s' _ t) noFill_list_mul F.fills_int_mul F.slot_int_rmul repeat_list F.slot_int_index.lookup
  (XY F.slot_int_rmul (typeIs_int s _ t) F.entry_int_rmul (F.args_int_rmul_2 _ _) (int___rmul___int_list _ t a vs.toArray n)
   ⟨h1,rfl,⟨_,h1,rfl⟩,XY F.slot_list_mul ⟨_,h1,rfl⟩ F.entry_list_mul (F.args_list_mul_2 _ _)
    (AutoListH.list___mul___list_int_3 a vs.toArray n _ t (by simp[Builtin.List.listFitsIndex];omega) (by omega) (by simp[W3,Xc];omega))
    ⟨h1,?_⟩⟩)
 have e:List.foldl (λx1 x2=>x1++x2) #[] (U2 (if vs.toArray.isEmpty=true then 0 else k.toNat) vs.toArray)=(U2 k.toNat vs).flatten.toArray:=by
  split
  ·rename_i q
   rw[show vs=[] by simpa using q]
   simp
  ·rw[uf];simp
 exact e▸h
theorem wI{op:VK}(h:vp op=true):op= .Add:=by cases op<;>first|rfl|exact ft h
theorem wK{op:VK}(h:BM op=true):op= .Mult:=by cases op<;>first|rfl|exact ft h
theorem aT.i{d:AV}(hQ:aT c w H O (Vd c d) Q s)(S:St c w H O s.heap){i:Int}(e:some (AV.int i)=some d){k:Tok}{t:Nat}:Q (.int i k) {s with toks:=t}:=hQ.tok S (se e .int) t
theorem aT.t{d:AV}(hQ:aT c w H O (Vd c d) Q s)(S:St c w H O s.heap){i:Str}(e:some (AV.str i)=some d){k:Tok}{t:Nat}:Q (.str i k) {s with toks:=t}:=hQ.tok S (se e .str) t
theorem yL{op:VK}{x y:Int}{t u:Tok}{d:AV}(e:I7 op x y=some d)(S:St c w H O s.heap)(hQ:aT c w H O (Vd c d) Q s):UI (UN c.prog c.w) A (Zp op (.int x t) (.int y u)) Q E s:=by
 revert e
 cases op
 case Add=>exact λe=>add_int (hQ.i S e)
 case Sub=>exact λe=>sub_int (hQ.i S e)
 case Mult=>exact λe=>bH e λh e=>mul_int (hQ.i S e) (IntMulOk.of_left (intBits_le (U7 h (by decide))))
 case FloorDiv=>exact λe=>bH e λh e=>floordiv_int h.1 (hQ.i S e) (.inl (PyProof.noPylong_small (U7 h.2 (by decide))))
 case Mod=>exact λe=>bH e λh e=>mod_int' h (hQ.i S e)
 case Pow=>exact λe=>bH e λh e=>pow_int_small h.1 (Int.le_trans (Int.le_of_lt h.2.1) (by decide)) (U7 h.2.2 (by decide)) (hQ.i S e)
 case LShift=>exact λe=>bH e λh e=>lshift_int_small h.1 (Int.le_trans h.2.1 (by decide)) h.2.2 (hQ.i S e)
 case RShift=>exact λe=>bH e λh e=>rshift_int h (hQ.i S e)
 case BitAnd=>exact λe=>and_int (hQ.i S e)
 case BitOr=>exact λe=>or_int (hQ.i S e)
 case BitXor=>exact λe=>xor_int (hQ.i S e)
 all_goals exact no
theorem Bm{op:VK}{x y d:AV}{vx vy:UF}(hu:A.handled=none)(e:bp H op x y=some d)(S:St c w H O s.heap)(hx:VR c w x vx)(hy:VR c w y vy)
  (hQ:aT c w H O (Vd c d) Q s):UI (UN c.prog c.w) A (Zp op vx vy) Q E s:=by
 have e:sf op (au H x) (au H y)=some d:=e
 revert e
 have hx:=hx.dr S
 have hy:=hy.dr S
 revert hx hy
 generalize au H x=x
 generalize au H y=y
 intro hx hy;revert hx
 refine AV.casesOn (motive_1:=λx=>DR c w s.heap x vx->sf op x y=some d->UI (UN c.prog c.w) A (Zp op vx vy) Q E s) x (λ_=>no) (λ_ _=>no) (λi hx e=>?_) (λp hx=>?_) (λ_ _=>no) (λl hx=>?_) (λ_ _=>no) (λ_ _=>no) (λ_ _ _=>no) (λ_ _ _=>no) (λ_ _=>no)
 ·exact dR (P:=λy=>DR c w s.heap y vy->_) e (λj e hy=>hx.k λt=>hy.k λu=>yL e S hQ) hy
 ·refine hx.k λt=>?_
  refine AV.casesOn (motive_1:=λy=>DR c w s.heap y vy->sf op (.str p) y=some d->UI (UN c.prog c.w) A (Zp op (.str p t) vy) Q E s) y (λ_=>no) (λ_ _=>no) (λj hy e=>hy.k λu=>?_) (λq hy e=>hy.k λu=>?_) (λ_ _=>no) (λ_ _=>no) (λ_ _=>no) (λ_ _=>no) (λ_ _ _=>no) (λ_ _ _=>no) (λ_ _=>no) hy
  ·exact aJ e λk e=>wK (a1 k)▸PySem.SB.mul (MY (of_decide_eq_true (a2 k)).1 (of_decide_eq_true (a2 k)).2.1 (of_decide_eq_true (a2 k)).2.2) λt' k=>hQ.t S e
  ·exact aJ e λk e=>wI (a1 k)▸JH (sz (a2 k)) λtk t=>hQ.t S e
 ·refine hx.k λa vs n h1 h2=>?_
  refine AV.casesOn (motive_1:=λy=>DR c w s.heap y vy->sf op (.lst l) y=some d->UI (UN c.prog c.w) A (Zp op (.ref a) vy) Q E s) y (λ_=>no) (λ_ _=>no) (λj hy e=>hy.k λu=>?_) (λ_ _=>no) (λ_ _=>no) (λr hy e=>hy.k λb us m h3 h4=>?_) (λ_ _=>no) (λ_ _=>no) (λ_ _ _=>no) (λ_ _ _=>no) (λ_ _=>no) hy
  ·exact aJ e λk e=>wK (a1 k)▸E3 h1 (of_decide_eq_true (a2 k)).1 (of_decide_eq_true (a2 k)).2.1 (h2.length▸(of_decide_eq_true (a2 k)).2.2) (hQ.frozen S rfl _ λw' l hn=>se e (.lst hn (VRs.rep (h2.mono l) _)))
  ·exact aJ e λk e=>wI (a1 k)▸PySem.P.add_list h1 h3 (hQ.frozen S rfl _ λw' l hn=>se e (.lst (hn.trans (congrArg (λx=>some (U5 "list" x 0)) (List.append_toArray ..))) ((h2.append h4).mono l))) (show vs.length+us.length<=_ from h2.length.symm▸h4.length.symm▸sz (a2 k))
end
end
end
section
open PySem PySem.Calls PyProof.Rows PySem.W PySem.SeqAt
section
section inv
variable {f:AV->AV->Option Bool}{b:Bool}
theorem Df{P:List AV->List AV->Bool->Prop}(nn:P [] [] true)(nc:∀ y r,P [] (y::r) false)(cn:∀ x l,P (x::l) [] false)(cc:∀ x l y r u v,f x y=some u->bY f l r=some v->P l r v->P (x::l) (y::r) (u&&v)){l r:List AV}(e:bY f l r=some b):P l r b:=
 List.rec (motive:=λl=>∀ r b,bY f l r=some b->P l r b)
  (λr b e=>Vk (motive:=λr=>bY f [] r=some b->P [] r b) r (λe=>se e nn) (λy r e=>se e (nc y r)) e)
  (λx l ih r b e=>Vk (motive:=λr=>bY f (x::l) r=some b->P (x::l) r b) r (λe=>se e (cn x l)) (λy r e=>az e λu h1 e=>az e λv h2 e=>se e (cc x l y r u v h1 h2 (ih r v h2))) e) l r b e
theorem BB{P:AV->AV->Bool->Prop}(n:P .none .none true)(i:∀ x y,P (.int x) (.int y) (decide (x=y)))(t:∀ x y,P (.str x) (.str y) (decide (x=y))){x y:AV}(e:wf x y=some b):P x y b:=
 AV.casesOn (motive_1:=λx=>wf x y=some b->P x y b) x (λe=>Bc (P:=λy=>P .none y b) e λe=>se e n) (λ_=>no) (λx e=>dR (P:=λy=>P (.int x) y b) e λy e=>se e (i x y)) (λx e=>gE (P:=λy=>P (.str x) y b) e λy e=>se e (t x y))
  (λ_=>no) (λ_=>no) (λ_=>no) (λ_=>no) (λ_ _=>no) (λ_ _=>no) (λ_=>no) e
theorem BC{P:AV->AV->Bool->Prop}(t:∀ x y,bY f x y=some b->P (.tup x) (.tup y) b)(l:∀ x y,bY f x y=some b->P (.lst x) (.lst y) b)(z:∀ x y,wf x y=some b->P x y b){x y:AV}(e:LQ f x y=some b):P x y b:=
 AV.casesOn (motive_1:=λx=>LQ f x y=some b->P x y b) x (z .none y) (λi=>z (.bool i) y) (λi=>z (.int i) y) (λi=>z (.str i) y) (λx e=>Be (P:=λy=>P (.tup x) y b) e λy e=>t x y e) (λx e=>qx (P:=λy=>P (.lst x) y b) e λy e=>l x y e)
  (λi=>z (.loc i) y) (λi=>z (.g i) y) (λi j=>z (.bm i j) y) (λi j=>z (.clo i j) y) (λi=>z (.kwd i) y) e
theorem t9{l r:List AV}(e:bY f l r=some b):
  b=((UD (min l.length r.length)).all (λj=>(f (l.getD j .none) (r.getD j .none)).getD false)&&l.length==r.length)/\
   ∀ j,j<l.length->j<r.length->∃ x,f (l.getD j .none) (r.getD j .none)=some x:=
 Df (P:=λl r b=>b=((UD (min l.length r.length)).all (λj=>(f (l.getD j .none) (r.getD j .none)).getD false)&&l.length==r.length)/\∀ j,j<l.length->j<r.length->∃ x,f (l.getD j .none) (r.getD j .none)=some x)
  ⟨by rfl,λ_ h=>absurd h (VU _)⟩ (λ_ _=>⟨by rw[Bool.and_comm];rfl,λ_ h=>absurd h (VU _)⟩) (λ_ _=>⟨by rw[Bool.and_comm];rfl,λ_ _ h=>absurd h (VU _)⟩)
  (λx l y r u v h1 h2 ih=>⟨by
   rw[ih.1,UU,UU,Nat.succ_min_succ,List.range_succ_eq_map,List.all_cons,List.all_map,List.getD_cons_zero,List.getD_cons_zero,h1,Bool.and_assoc,
    show(l.length+1==r.length+1)=(l.length==r.length) from X6.mpr (by rw[beq_iff_eq,beq_iff_eq,Nat.add_right_cancel_iff])]
   rfl,λj=>XC (motive:=λj=>j<(x::l).length->j<(y::r).length->∃ z,f ((x::l).getD j .none) ((y::r).getD j .none)=some z) j (λ_ _=>⟨u,h1⟩) λj hj hj'=>ih.2 j (Vw hj) (Vw hj')⟩) e
end inv
theorem tG{c:String}{vs us:List UF}{n m:Nat}(h:some (U5 c vs.toArray n)=some (U5 c us.toArray m)):vs=us:=
 congrArg Array.toList (Data.seq.inj (congrArg Obj.data (sj h))).1
section
variable {c:Cx}{w:Wd}
theorem VRs.same{f:AV->AV->Option Bool}(hf:∀ d e v b,VR c w d v->VR c w e v->f d e=some b->b=true){l r:List AV}{vs:List UF}{b:Bool}(h1:VRs c w l vs)(h2:VRs c w r vs)(e:bY f l r=some b):b=true:=
 Df (P:=λl r b=>∀ vs,VRs c w l vs->VRs c w r vs->b=true) (λ_ _ _=>rfl) (λy r vs h1 h2=>nomatch h1.length.symm.trans h2.length) (λx l vs h1 h2=>nomatch h1.length.symm.trans h2.length)
  (λx l y r u v e1 _ ih vs h1=>h1.k λv' us p1 p2 h2=>VRs.k (P:=λl=>l=v'::us->(u&&v)=true) h2 (λv2 us2 q1 q2 q=>Vu.mpr ⟨hf _ _ _ _ p1 ((WS q).1▸q1) e1,ih _ p2 ((WS q).2▸q2)⟩) rfl) e vs h1 h2
theorem wg:∀(n:Nat) (d e:AV) (v:UF) (b:Bool),VR c w d v->VR c w e v->dB n d e=some b->b=true:=
 have z:∀(d e:AV) (b:Bool),wf d e=some b->∀ v,VR c w d v->VR c w e v->b=true:=λd e b h=>BB (P:=λd e b=>∀ v,VR c w d v->VR c w e v->b=true) (λ_ _ _=>rfl)
  (λx y v h1=>h1.k λt h2=>VR.k (P:=λv=>v= .int x t->decide (x=y)=true) h2 (λt q=>decide_eq_true (UF.int.inj q).1.symm) rfl) (λx y v h1=>h1.k λt h2=>VR.k (P:=λv=>v= .str x t->decide (x=y)=true) h2 (λt q=>decide_eq_true (UF.str.inj q).1.symm) rfl) h
 Nat.rec (λd e v b h1 h2 h=>z d e b h v h1 h2) λn ih d e v b h1 h2 h=>
  BC (P:=λd e b=>∀ v,VR c w d v->VR c w e v->b=true)
   (λx y h v h1=>h1.k λa vs m g r h2=>VR.k (P:=λv=>v= .ref a->b=true) h2 (λa2 us m2 g2 r2 q=>VRs.same ih r (tG (g2.symm.trans (Xd q▸g))▸r2) h) rfl)
   (λx y h v h1=>h1.k λa vs m g r h2=>VR.k (P:=λv=>v= .ref a->b=true) h2 (λa2 us m2 g2 r2 q=>VRs.same ih r (tG (g2.symm.trans (Xd q▸g))▸r2) h) rfl)
   (λx y h v=>z x y b h v) h v h1 h2
theorem VRs.getD{l:List AV}{vs:List UF}(h:VRs c w l vs){j:Nat}(hj:j<l.length)(hv:j<vs.length):VR c w (l.getD j .none) vs[j]:=
 (h.get (List.getElem?_eq_getElem hj)).elim λv k=>sj (k.1.symm.trans (List.getElem?_eq_getElem hv))▸(show l.getD j .none=l[j] from(List.getD_eq_getElem?_getD ..).trans (congrArg (·.getD AV.none) (List.getElem?_eq_getElem hj)))▸k.2
end
section
variable {c:Cx}{w:Wd}{H:AH}{O:PH}{A:Vh}{E:UF->UJ->Prop}{s:UJ}{Q:UF->UJ->Prop}
theorem AR(x y:Str):(x==y)=decide (x=y):=by by_cases hxy:x=y<;>simp[hxy]
theorem Dd{d e:AV}{b:Bool}(h:wf d e=some b):∀ v u,VR c w d v->VR c w e u->EqAt A s v u b:=
 BB (P:=λd e b=>∀ v u,VR c w d v->VR c w e u->EqAt A s v u b) (λv u h1 h2=>h1.k (h2.k (EqAt.same _))) (λx y v u h1 h2=>h1.k λt=>h2.k λk=>(MeetsSeq.EqGives.int _ _ _ _).at _ _)
  (λx y v u h1 h2=>h1.k λt=>h2.k λk=>AR x y▸(eqGives_str x y t k).at A s) h
theorem pB{f:AV->AV->Option Bool}(hf:∀(d e:AV) (v u:UF) (b:Bool),VR c w d v->VR c w e u->f d e=some b->EqAt A s v u b){l r:List AV}{vs us:List UF}(hl:VRs c w l vs)(hr:VRs c w r us)
  (hx:∀ j,j<l.length->j<r.length->∃ x,f (l.getD j .none) (r.getD j .none)=some x) (j:Nat) (h1:j<vs.toArray.size) (h2:j<us.toArray.size):EqAt A s vs.toArray[j] us.toArray[j] ((f (l.getD j .none) (r.getD j .none)).getD false):=
 have p1:j<l.length:=hl.length▸(show j<vs.length from h1)
 have p2:j<r.length:=hr.length▸(show j<us.length from h2)
 (hx j p1 p2).elim λx ex=>ex.symm▸hf _ _ _ _ x (hl.getD p1 h1) (hr.getD p2 h2) ex
theorem AY(hu:A.units<cLine){f:AV->AV->Option Bool}(hf:∀(d e:AV) (v u:UF) (b:Bool),VR c w d v->VR c w e u->f d e=some b->EqAt A.in1 s v u b){a b:Addr}{l r:List AV}{vs us:List UF}{n m:Nat}{k:Bool}
  (ha:s.heap.get? a=some (U5 "tuple" vs.toArray n)) (hb:s.heap.get? b=some (U5 "tuple" us.toArray m)) (hl:VRs c w l vs) (hr:VRs c w r us) (h:bY f l r=some k):RcAt A s (.ref a) (.ref b) k/\RcNeAt A s (.ref a) (.ref b) (!k):=by
 have e:=t9 h
 have sub:=pB hf hl hr e.2
 have z:=RcAt.tuples ⟨_,ha,rfl,n,rfl⟩ ⟨_,hb,rfl,m,rfl⟩ hu sub
 have z':=RcNeAt.tuples ⟨_,ha,rfl,n,rfl⟩ ⟨_,hb,rfl,m,rfl⟩ hu sub
 rw[Wn,Wn,hl.length,hr.length,<-e.1] at z z'
 exact⟨z,z'⟩
theorem z4(hu:A.units<cLine){f:AV->AV->Option Bool}(hf:∀(d e:AV) (v u:UF) (b:Bool),VR c w d v->VR c w e u->f d e=some b->EqAt A.in1 s v u b){a b:Addr}{l r:List AV}{vs us:List UF}{n m:Nat}{k:Bool}
  (ha:s.heap.get? a=some (U5 "list" vs.toArray n)) (hb:s.heap.get? b=some (U5 "list" us.toArray m)) (hl:VRs c w l vs) (hr:VRs c w r us) (h:bY f l r=some k):RcAt A s (.ref a) (.ref b) k/\RcNeAt A s (.ref a) (.ref b) (!k):=by
 have e:=t9 h
 have t1:s.heap.IsList a vs.toArray:=⟨_,ha,rfl,n,rfl⟩
 have t2:s.heap.IsList b us.toArray:=⟨_,hb,rfl,m,rfl⟩
 have e1:=e.1
 rw[<-hl.length,<-hr.length] at e1
 rcases Decidable.em (vs.length=us.length) with hsz|hsz
 ·rw[hsz,Nat.min_self,beq_self_eq_true,Bool.and_true,<-hsz] at e1
  rw[e1]
  exact⟨RcAt.lists t1 t2 hsz hu (pB hf hl hr e.2),RcNeAt.lists t1 t2 hsz hu (pB hf hl hr e.2)⟩
 ·rw[beq_false_of_ne hsz,Yo] at e1
  rw[e1]
  exact⟨RcAt.lists_lengths t1 t2 (bne_iff_ne.mpr hsz) hu,RcNeAt.lists_lengths t1 t2 (bne_iff_ne.mpr hsz) hu⟩
theorem De(hk:∀ a o,w.G a=some o->s.heap.get? a=some o):∀(n:Nat) (A:Vh) (d e:AV) (v u:UF) (b:Bool),A.units+n<cLine->VR c w d v->VR c w e u->dB n d e=some b->EqAt A s v u b:=
 Nat.rec (λA d e v u b _ h1 h2 h=>Dd h v u h1 h2) λn ih A d e v u b hu h1 h2 h=>
  have ih:=λ(d e:AV) (v u:UF) (b:Bool)=>ih A.in1 d e v u b (show A.units+1+n<cLine from Vy _ _ _▸hu)
  have hu:A.units<cLine:=Va (Vi _ _) hu
  BC (P:=λd' e' b'=>dB (n+1) d' e'=some b'->∀ v u,VR c w d' v->VR c w e' u->EqAt A s v u b')
   (λx y h h' v u h1=>h1.k λa1 vs m1 g1 r1 h2=>h2.k λa2 us m2 g2 r2=>if q:a1=a2 then q▸wg (n+1) _ _ _ b (.tup g1 r1) (q▸.tup g2 r2) h'▸EqAt.same _ else EqAt.of_refs q (AY hu ih (hk _ _ g1) (hk _ _ g2) r1 r2 h).1)
   (λx y h h' v u h1=>h1.k λa1 vs m1 g1 r1 h2=>h2.k λa2 us m2 g2 r2=>if q:a1=a2 then q▸wg (n+1) _ _ _ b (.lst g1 r1) (q▸.lst g2 r2) h'▸EqAt.same _ else EqAt.of_refs q (z4 hu ih (hk _ _ g1) (hk _ _ g2) r1 r2 h).1)
   (λx y h _=>Dd h) h h v u h1 h2
end
end
section
theorem IX{n:Nat}(f:aW n=true):(n:Int)<2^63:=Wr.mpr (Va (sz f) (by decide:Xc<2^63))
structure mU(c:Cx):Prop where
 exact:StrTab c.prog c.w c.H0 126 (exactTab.map λp=>(.str p.1,.int p.2))
 flags:IntTab c.prog c.w c.H0 39 (flagTab.map λp=>(.int p.1,.str p.2))
theorem rk{κ ν:Type}[BEq κ]{f:κ->PyData}{g:ν->PyData}{x:κ}(hs:∀ y,YH (f y) (f x)=(x==y))(l:List (κ×ν)):WH (f x) (l.map λp=>(f p.1,g p.2))=(l.lookup x).map g:=
 List.rec (motive:=λl=>WH (f x) (l.map λp=>(f p.1,g p.2))=(l.lookup x).map g) rfl (λp l ih=>by
  rw[Vc,WH,ih,hs,show(p::l).lookup x=(match x==p.1 with|true=>some p.2|false=>l.lookup x) from rfl]
  cases(x==p.1)<;>rfl) l
theorem ny(x:Str)(l:List (Str×Int)):WH (.str x) (l.map λp=>(YI p.1,ZF p.2))=(l.lookup x).map .int:=rk (f:=.str) (λy=>by rw[YH,BEq.comm]) l
theorem w5(x:Int)(l:List (Int×Str)):WH (.int x) (l.map λp=>(ZF p.1,YI p.2))=(l.lookup x).map .str:=rk (f:=.int) (λy=>by rw[YH,BEq.comm]) l
section
variable {c:Cx}{w:Wd}{H:AH}{O:PH}{A:Vh}{E:UF->UJ->Prop}{s:UJ}
theorem gV{d:AV}{v:UF}{b:Bool}{Q:Bool->UJ->Prop}(e:truthy H d=some b)(S:St c w H O s.heap)(hv:VR c w d v)(hQ:aT c w H O (Bd b) Q s):UI (UN c.prog c.w) A (Vf v) Q E s:=by
 have e:rW (au H d)=some b:=e
 have hv:=hv.dr S
 have q:=λtk=>hQ.tok S (show Bd b w b from rfl) tk
 revert e hv
 generalize au H d=d
 refine AV.casesOn (motive_1:=λd=>rW d=some b->DR c w s.heap d v->UI (UN c.prog c.w) A (Vf v) Q E s) d (λe h=>h.k (UE (sj e▸q s.toks))) (λi e h=>h.k (wpAny_truthy_bool (sj e▸q s.toks))) (λi e h=>h.k λt=>PySem.P.truthy_int (sj e▸q s.toks))
  (λx e h=>aJ e λf e=>h.k λt=>PySem.P.truthy_str ?_ ?_) (λ_=>no) (λl e h=>aJ e λf e=>h.k λa vs n g r=>wpAny_truthy_list ⟨_,g,rfl,n,rfl⟩ ?_ ?_) (λ_=>no) (λ_=>no) (λ_ _=>no) (λ_ _=>no) (λ_=>no)
 ·exact Int.not_le.mpr (IX f)
 ·exact(show((x.length:Int)!=0)=b from(show((x.length:Int)!=0)=(x.length !=0) by rw[X6];simp).trans (sj e))▸q _
 ·exact(show(vs.length:Int)<_ from r.length▸IX f)
 ·exact(show(!vs.toArray.isEmpty)=b from(show(!vs.toArray.isEmpty)=(l.length !=0) by rw[<-r.length];cases vs<;>rfl).trans (sj e))▸q _
theorem VRs.ints{l:List AV}{vs:List UF}(h:VRs c w l vs){is:List Int}(e:bV l=some is):∃ xs:List (Int×Tok),vs=xs.map (λp=>.int p.1 p.2)/\xs.map (·.1)=is:=
 h.ind (M:=λl vs=>∀ is,bV l=some is->∃ xs:List (Int×Tok),vs=xs.map (λp=>.int p.1 p.2)/\xs.map (·.1)=is) (λis e=>⟨[],rfl,sj e⟩)
  (λd v l vs a _ ih is e=>dR (P:=λd=>VR c w d v->∃ xs:List (Int×Tok),v::vs=xs.map (λp=>.int p.1 p.2)/\xs.map (·.1)=is) e (λi e a=>a.k λt=>az e λjs e1 e=>(ih js e1).elim λxs k=>⟨(i,t)::xs,congrArg _ k.1,(congrArg _ k.2).trans (sj e)⟩) a) is e
noncomputable def gB(h:Heap)(y:UF)(is:List Int):Prop:=∃(a:Addr) (xs:List (Int×Tok)) (n:Nat),y= .ref a/\h.get? a=some (U5 "tuple" (xs.map λp=>UF.int p.1 p.2).toArray n)/\xs.map (·.1)=is
theorem gB.same{h:Heap}{y:UF}{is js:List Int}(a:gB h y is)(b:gB h y js):is=js:=by
 obtain⟨a1,xs,n,rfl,g1,rfl⟩:=a
 obtain⟨a2,ys,m,e,g2,rfl⟩:=b
 have q2:=congrArg (List.map λv=>match v with|UF.int i _=>i|_=>0) (tG (g1.symm.trans (Xd e▸g2)))
 rw[UX,UX] at q2
 exact q2
theorem zA(S:St c w H O s.heap){t:List AV}{v:UF}{is:List Int}(h:VR c w (.tup t) v)(e:bV t=some is):gB s.heap v is:=
 h.k λa vs n g r=>(r.ints e).elim λxs k=>⟨a,xs,n,rfl,k.1▸S.keep _ _ g,k.2⟩
theorem Kj(n:Nat){t:List AV}:∀{u:List AV} {is js:List Int},bV t=some is->bV u=some js->bY (dB n) t u=some (decide (is=js)):=
 List.rec (motive:=λt=>∀{u:List AV} {is js:List Int},bV t=some is->bV u=some js->bY (dB n) t u=some (decide (is=js)))
  (λ{u is js} e=>Vk (motive:=λu=>bV u=some js->bY (dB n) [] u=some (decide (is=js))) u (λe'=>sj e▸sj e'▸rfl) (λb u e'=>dR (P:=λb=>bY (dB n) [] (b::u)=some (decide (is=js))) e' λj e'=>az e' λjs' _ e'=>sj e▸sj e'▸rfl))
  (λa t ih {u is js} e=>dR (P:=λa=>bV u=some js->bY (dB n) (a::t) u=some (decide (is=js))) e λi e=>az e λis' e1 e=>
   Vk (motive:=λu=>bV u=some js->bY (dB n) (.int i::t) u=some (decide (is=js))) u (λe'=>sj e▸sj e'▸rfl) (λb u e'=>dR (P:=λb=>bY (dB n) (.int i::t) (b::u)=some (decide (is=js))) e' λj e'=>az e' λjs' e2 e'=>by
    rw[<-sj e,<-sj e']
    show ob (dB n (.int i) (.int j)) (λx=>ob (bY (dB n) t u) λy=>some (x&&y))=_
    rw[show dB n (.int i) (.int j)=some (decide (i=j)) by cases n<;>rfl,ih e1 e2]
    exact congrArg some ((Bool.decide_and ..).symm.trans (decide_eq_decide.mpr ⟨λh=>h.1▸h.2▸rfl,λh=>WS h⟩)))) t
open Classical in
theorem Kg(S:St c w H O s.heap)(hu:A.units+6<cLine-1){t:List AV}{is:List Int}(ht:bV t=some is){v:UF}(hv:VR c w (.tup t) v){l:List AV}{vs:List UF}(h:VRs c w l vs){r:List (List Int)}(e:jW l=some r):
  (∀ y∈vs,EqAt A.in1 s y v (decide (gB s.heap y is)))/\vs.any (λy=>decide (gB s.heap y is))=r.any λx=>decide (x=is):=
 h.ind (M:=λl vs=>∀ r,jW l=some r->(∀ y∈vs,EqAt A.in1 s y v (decide (gB s.heap y is)))/\vs.any (λy=>decide (gB s.heap y is))=r.any λx=>decide (x=is))
  (λr e=>⟨λy hy=>(nomatch hy),sj e▸rfl⟩)
  (λd y l us h1 _ ih r e=>Be (P:=λd=>VR c w d y->_) e (λu e h1=>az e λa e1 e=>az e λq e2 e=>
   have k:=ih q e2
   have key:decide (gB s.heap y is)=decide (a=is):=decide_eq_decide.mpr ⟨λz=>(zA S h1 e1).same z,λz=>z▸zA S h1 e1⟩
   ⟨λz hz=>(U0.mp hz).elim (λq=>q▸key▸De S.keep 1 A.in1 _ _ _ _ _ (Va (VA (by decide: 2<=6) _) (U7 hu (Nat.sub_le _ _))) h1 hv (Kj 0 e1 ht)) (k.1 z),
    sj e▸(show(decide _||us.any _)=(decide _||q.any _) from key▸k.2▸rfl)⟩) h1) r e
end
end
section
section
variable {c:Cx}{w:Wd}{H:AH}{O:PH}{A:Vh}{E:UF->UJ->Prop}{s:UJ}{Q:UF->UJ->Prop}
theorem oD{x y:AV}{vx vy:UF}{k:Bool}(hu:A.units+6<cLine)(S:St c w H O s.heap)(hx:VR c w x vx)(hy:VR c w y vy)(hk:ct (au H x) (au H y)=some k):
  (Q (.bool k) s->UI (UN c.prog c.w) A (VS .Eq vx vy) Q E s)/\(Q (.bool (!k)) s->UI (UN c.prog c.w) A (VS .NotEq vx vy) Q E s):=by
 have five:=λ(d e:AV) (v u:UF) (b:Bool)=>De (c:=c) (w:=w) S.keep 5 A.in1 d e v u b (show A.units+1+5<cLine from hu)
 have hu:A.units<cLine:=Va (Vi _ _) hu
 have hx:=hx.dr S
 have hy:=hy.dr S
 revert hk hx hy
 generalize au H x=x
 generalize au H y=y
 intro hk
 have hk':dB 6 x y=some k:=AV.casesOn (motive_1:=λx=>ct x y=some k->dB 6 x y=some k) x no (λ_=>id) (λ_=>id) (λ_=>id) (λ_=>id) (λ_=>id) (λ_=>id) (λ_=>id) (λ_ _=>id) (λ_ _=>id) (λ_=>id) hk
 refine BC (f:=dB 5) (P:=λx y k=>ct x y=some k->DR c w s.heap x vx->DR c w s.heap y vy->(Q (.bool k) s->UI (UN c.prog c.w) A (VS .Eq vx vy) Q E s)/\(Q (.bool (!k)) s->UI (UN c.prog c.w) A (VS .NotEq vx vy) Q E s))
  (λx y e _ hx hy=>hx.k λa vs n g r=>hy.k λb us m g' r'=>(AY hu five (S.keep _ _ g) (S.keep _ _ g') r r' e).imp (λz q=>z _ _ E Q q) λz q=>z _ _ E Q q)
  (λx y e _ hx hy=>hx.k λa vs n g r=>hy.k λb us m g' r'=>(z4 hu five g g' r r' e).imp (λz q=>z _ _ E Q q) λz q=>z _ _ E Q q)
  (λx y e=>BB (P:=λx y k=>ct x y=some k->DR c w s.heap x vx->DR c w s.heap y vy->(Q (.bool k) s->UI (UN c.prog c.w) A (VS .Eq vx vy) Q E s)/\(Q (.bool (!k)) s->UI (UN c.prog c.w) A (VS .NotEq vx vy) Q E s))
   no (λi j _ hx hy=>hx.k λt=>hy.k λu=>⟨λq=>PySem.P.eq_int q,λq=>PySem.P.ne_int q⟩)
   (λp r _ hx hy=>hx.k λt=>hy.k λu=>have h:decide (p=r)=(p.cps.toList==r.cps.toList):=(AR p r).symm.trans (toList_beq ..).symm;⟨λq=>PySem.P.eq_str (h▸q),λq=>PySem.P.ne_str (show Q (.bool (!(p.cps.toList==r.cps.toList))) s from h▸q)⟩) e) hk' hk
theorem qM{P:UF->UF->Prop}{f:Int->Int->Bool}{x y:AV}{vx vy:UF}{b:Bool}(e:v4 f (au H x) (au H y)=some b)(S:St c w H O s.heap)(hx:VR c w x vx)(hy:VR c w y vy)(k:∀ i t j u,f i j=b->P (.int i t) (.int j u)):P vx vy:=
 have hx:=hx.dr S
 have hy:=hy.dr S
 dR (P:=λx=>DR c w s.heap x vx->P vx vy) e (λi e hx=>dR (P:=λy=>DR c w s.heap y vy->P vx vy) e (λj e hy=>hx.k λt=>hy.k λu=>k i t j u (sj e)) hy) hx
theorem yx{P:UF->UF->Prop}{x y:UF}{b:Bool}(e:yw x y=some b)(k:plainIs x y=true->(x==y)=b->P x y):P x y:=
 have h:plainIs x y=true/\(x==y)=b:=vP (P:=λx=>plainIs x y=true/\(x==y)=b) e λp e=>vP (P:=λy=>plainIs (.type p) y=true/\(.type p==y)=b) e λq e=>⟨rfl,(X6.mpr (by rw[beq_iff_eq,beq_iff_eq];exact⟨λh=>UF.type.inj h,λh=>congrArg _ h⟩)).trans (sj e)⟩
 k h.1 h.2
theorem DC{x y:AV}{vx vy:UF}{b:Bool}(S:St c w H O s.heap)(e:Mi (au H x) (au H y)=some b)(hx:VR c w x vx)(hy:VR c w y vy)(q:Q (.bool b) s):UI (UN c.prog c.w) A (VS .Is vx vy) Q E s:=by
 have hx:=hx.dr S
 have hy:=hy.dr S
 revert e hx
 generalize au H x=x
 refine AV.casesOn (motive_1:=λx=>Mi x (au H y)=some b->DR c w s.heap x vx->UI (UN c.prog c.w) A (VS .Is vx vy) Q E s) x (λe hx=>Bc (P:=λy=>DR c w s.heap y vy->_) e (λe hy=>hx.k (hy.k (wpAny_is_self rfl (sj e▸q)))) hy)
  (λ_=>no) (λ_=>no) (λ_=>no) (λ_=>no) (λ_=>no) (λ_=>no) (λx e hx=>qw (P:=λy=>DR c w s.heap y vy->_) e (λy e hy=>hx.k (hy.k (yx (P:=λx y=>UI (UN c.prog c.w) A (VS .Is x y) Q E s) e λh h'=>wpAny_is_plain h (h'.symm▸q)))) hy) (λ_ _=>no) (λ_ _=>no) (λ_=>no)
theorem Gm{x:AV}{vx:UF}{b:Bool}{h:Heap}(hx:DR c w h x vx):s8 x=some b->(!(vx==.none))=b:=
 AV.casesOn (motive_1:=λx=>DR c w h x vx->s8 x=some b->(!(vx==.none))=b) x (λh=>h.k sj) (λ_ _=>no) (λ_ _=>no) (λ_ _=>no) (λ_ _=>no) (λl h=>h.k λ_ _ _ _ _=>sj) (λl h=>h.k λ_ _=>sj) (λ_ _=>no)
  (λ_ _ h=>h.k λ_ _ _ _=>sj) (λ_ _ h=>h.k λ_ _ _ _ _ _ _ _ _ _ _ _ _=>sj) (λ_ _=>no) hx
theorem wM{x y:AV}{vx vy:UF}{b:Bool}(S:St c w H O s.heap)(e:wL (au H x) (au H y)=some b)(hx:VR c w x vx)(hy:VR c w y vy)(q:Q (.bool b) s):UI (UN c.prog c.w) A (VS .IsNot vx vy) Q E s:=by
 have hx:=hx.dr S
 have hy:=hy.dr S
 revert e hy
 generalize au H y=y
 refine AV.casesOn (motive_1:=λy=>wL (au H x) y=some b->DR c w s.heap y vy->UI (UN c.prog c.w) A (VS .IsNot vx vy) Q E s) y (λe hy=>hy.k (isNot_none (Gm hx e▸q)))
  (λr e hy=>PQ (P:=λx=>DR c w s.heap x vx->_) e (λp e hx=>hx.k (hy.k (wpAny_isNot_plain rfl ((show b= !(UF.bool p==UF.bool r) from(sj e).symm.trans (by cases p<;>cases r<;>rfl))▸q)))) hx) (λ_=>no) (λ_=>no) (λ_=>no) (λ_=>no) (λ_=>no)
  (λy e hy=>qw (P:=λx=>DR c w s.heap x vx->_) e (λx e hx=>hx.k (hy.k (az e λk e1 e=>yx (P:=λx y=>UI (UN c.prog c.w) A (VS .IsNot x y) Q E s) e1 λh h'=>wpAny_isNot_plain h (h'.symm▸(sj e).symm▸q)))) hx) (λ_ _=>no) (λ_ _=>no) (λ_=>no)
theorem Dy{n:Nat}{x y:AV}{vx vy:UF}{b:Bool}(hT:mU c)(hA:aG n A)(S:St c w H O s.heap)(e:I4 TT x (au H x) (au H y)=some b)(hx:VR c w x vx)(hy:VR c w y vy)(q:∀ tk,Q (.bool b) {s with toks:=tk}):UI (UN c.prog c.w) A (VS .In vx vy) Q E s:=by
 have hu:A.units+6<cLine-1:=Va (Wm hA.u 6) (by decide)
 have hx':=hx.dr S
 have hy:=hy.dr S
 revert e hy
 generalize au H y=y
 refine AV.casesOn (motive_1:=λy=>I4 TT x (au H x) y=some b->DR c w s.heap y vy->UI (UN c.prog c.w) A (VS .In vx vy) Q E s) y no (λ_=>no) (λ_=>no)
  (λt e hy=>gE (P:=λx=>DR c w s.heap x vx->_) e (λp e hx=>hx.k λ_=>hy.k λ_=>PySem.SB.contains (sj e▸q s.toks)) hx') (λ_=>no)
  (λl e hy=>hy.k λa us m g r=>Be (P:=λx=>VR c w x vx->_) e (λt e hx=>az e λis ht e=>az e λrs hl e=>
   have f:=Kg (A:=A) S hu ht hx r hl
   in_listAt _ ⟨_,g,rfl,m,rfl⟩ (λy hy=>f.1 y (Zh.mp hy)) (List.any_toArray▸f.2▸sj e▸q s.toks)) hx) (λ_=>no)
  (λu e hy=>hy.k (sa (P:=λu=>UI (UN c.prog c.w) A (VS .In vx u) Q E s) e λd e=>gE (P:=λx=>DR c w s.heap x vx->_) e (λp e hx=>hx.k λ_=>bH e λhd e=>(show d=126 from hd)▸
   in_strTab (hT.exact.keep λb o eb=>S.keep _ _ (S.top _ _ eb)) ((show b=_ from(sj e).symm.trans ((ny p exactTab).symm▸(Option.isSome_map ..).symm))▸q _)) hx')) (λ_ _=>no) (λ_ _=>no) (λ_=>no)
theorem qK{n:Nat}{op:CmpOp}{x y:AV}{vx vy:UF}{b:Bool}(hT:mU c)(hA:aG n A)(e:ia TT H op x y=some b)(S:St c w H O s.heap)(hx:VR c w x vx)(hy:VR c w y vy)
  (hQ:aT c w H O (Vd c (.bool b)) Q s):UI (UN c.prog c.w) A (VS op vx vy) Q E s:=by
 have hu:A.units+6<cLine:=Va (Wm hA.u 6) (by decide)
 have q:Q (.bool b) s:=hQ.here S .bool
 revert e
 cases op
 case Eq=>exact λe=>(oD hu S hx hy e).1 q
 case NotEq=>exact λe=>az e λk hk e=>(oD hu S hx hy hk).2 (sj e▸q)
 case Lt=>exact λe=>qM (P:=λx y=>UI _ A (VS .Lt x y) Q E s) e S hx hy λ_ _ _ _ e=>PySem.P.lt_int (e▸q)
 case LtE=>exact λe=>qM (P:=λx y=>UI _ A (VS .LtE x y) Q E s) e S hx hy λ_ _ _ _ e=>PySem.P.le_int (e▸q)
 case Gt=>exact λe=>qM (P:=λx y=>UI _ A (VS .Gt x y) Q E s) e S hx hy λ_ _ _ _ e=>PySem.P.gt_int (e▸q)
 case GtE=>exact λe=>qM (P:=λx y=>UI _ A (VS .GtE x y) Q E s) e S hx hy λ_ _ _ _ e=>PySem.P.ge_int (e▸q)
 case Is=>exact λe=>DC S e hx hy q
 case IsNot=>exact λe=>wM S e hx hy q
 case In=>exact λe=>Dy hT hA S e hx hy λtk=>hQ.tok S .bool tk
 case NotIn=>exact no
end
end
end
section
open PySem PySem.Calls PyProof.Rows PySem.W PySem.SeqAt
open PySem.Builtin.Str (strSliceIndices)
section
theorem oz{slice:Expr}(h:kX slice=false)(o i:UF):subscripted slice false o i=operate [o,i] (getItem o i):=by
 cases slice<;>first|rfl|exact nomatch h
section
variable {c:Cx}{w:Wd}{H:AH}{O:PH}{A:Vh}{E:UF->UJ->Prop}{s:UJ}{Q:UF->UJ->Prop}
theorem nQ{k n:Nat}(h:k<n):seqIndex? (k:Int) n=some k:=by
 simp[seqIndex?,h,Int.not_lt.mpr (Wg k)]
@[elab_as_elim] theorem wt{β:Type}{l:List β}{i:Int}{x:β}{P:Int->Prop}(e:getL l i=some x)(k:∀ n:Nat,n<1000000->l[n]? =some x->P n):P i:=
 Int.casesOn (motive:=λi=>getL l i=some x->P i) i (λn e=>aJ e λh e=>k n (UG h) e) (λ_=>no) e
theorem CI{value slice:Expr}{x y d:AV}{vx vy:UF}(hT:mU c)(hs:kX slice=false)(e:c7 TT x y H=some d)(S:St c w H O s.heap)(hx:VR c w x vx)(hy:VR c w y vy)
  (hQ:aT c w H O (Vd c d) Q s):UI (UN c.prog c.w) A (WF value slice vx vy) Q E s:=by
 have pl:=oz hs
 have num:∀ k t,CH (au H x) k=some d->UI (UN c.prog c.w) A (WF value slice vx (.int k t)) Q E s:=λk t e=>by
  have hx:=hx.dr S
  revert e hx
  generalize au H x=x
  refine AV.casesOn (motive_1:=λx=>CH x k=some d->DR c w s.heap x vx->UI (UN c.prog c.w) A (WF value slice vx (.int k t)) Q E s) x no (λ_=>no) (λ_=>no)
   (λp e hx=>hx.k λu=>az e λch e1 e=>wt (P:=λk=>UI (UN c.prog c.w) A (WF value slice (.str p u) (.int k t)) Q E s) e1 λn h1 e1=>
    have q:seqIndex? (n:Int) p.length=some n:=nQ (List.getElem?_eq_some_iff.mp e1).1
    tail_any (XU _ _ _) F.slot_str_getitem.lookup (PySem.P.getItem_str (c:=ch) ?_ (by rw[q];simpa using e1) (hQ.t S e)) (pl _ _))
   (λl e hx=>hx.k λa vs m g r=>wt (P:=λk=>UI (UN c.prog c.w) A (WF value slice (.ref a) (.int k t)) Q E s) e λn h1 e1=>(r.get e1).elim λv q=>
    have ht:IsTup s.heap a vs.toArray:=⟨_,S.keep _ _ g,rfl,m,rfl⟩
    tail_any ht.typeIs slot_tuple_getitem.lookup (getItem_tuple (j:=n) ht ?_ ?_ (nQ (List.getElem?_eq_some_iff.mp q.1).1) ((List.getElem?_toArray ..).trans q.1) (hQ.here S q.2)) (pl _ _))
   (λl e hx=>hx.k λa vs m g r=>wt (P:=λk=>UI (UN c.prog c.w) A (WF value slice (.ref a) (.int k t)) Q E s) e λn h1 e1=>(r.get e1).elim λv q=>
    have hl:s.heap.IsList a vs.toArray:=⟨_,g,rfl,m,rfl⟩
    tail_any hl.typeIs slot_list_getitem.lookup (wpAny_getItem_list hl (Wg n) (Int.lt_trans (Wr.mpr h1) (by decide)) ((List.getElem?_toArray ..).trans q.1) (hQ.here S q.2)) (pl _ _))
   (λ_=>no) (λ_=>no) (λ_ _=>no) (λ_ _=>no) (λ_=>no)
  ·simp;omega
  ·omega
  ·omega
 refine AV.casesOn (motive_1:=λy=>c7 TT x y H=some d->VR c w y vy->UI (UN c.prog c.w) A (WF value slice vx vy) Q E s) y no (λ_=>no) (λk e hy=>hy.k λt=>num k t e)
  (λp e hy=>hy.k λt=>qw (P:=λx=>VR c w x vx->_) e (λu e hx=>hx.k (sa (P:=λu=>UI (UN c.prog c.w) A (WF value slice u (.str p t)) Q E s) e λdd e=>bH e λhd e=>hd▸az e λi e0 e=>?_)) hx)
  (λ_=>no) (λ_=>no) (λ_=>no) (λ_=>no) (λ_ _=>no) (λ_ _=>no) (λ_=>no) e hy
 obtain⟨lo,kvs,hd,hf⟩:=hT.exact.keep λb o eb=>S.keep _ _ (S.top _ _ eb)
 obtain⟨v,hv,hfl⟩:=ZO.of_lookup (k:=p) (d:=.int i) PyProof.V.same_str hf ((ny _ _).trans (congrArg (Option.map ZF) e0))
 obtain⟨t,rfl,_⟩:=reads_int_inv (hfl s.heap)
 exact tail_any hd.typeIs slot_dict_getitem.lookup (wpAny_getItem_of (strKind_is _ _ _ _) hd.mapOf hv (hQ.i S e)) (pl _ _)
theorem VRs.cutL{l:List AV}{vs:List UF}(h:VRs c w l vs)(lo hi:Option Int):VRs c w (cutL l lo hi) (kms_pick vs lo hi):=by
 unfold Mine.cutL kms_pick
 rw[h.length]
 exact(h.drop _).take _
theorem LD(v:Int)(n:Nat):max 0 (min (if v<0 then v+n else v) (n:Int))=((if v<0 then n-(-v).toNat else min v.toNat n:Nat):Int):=by
 cases v with
 |ofNat k=>exact(Int.max_eq_right (Int.le_min.mpr ⟨Wg k,Wg n⟩)).trans (Lean.Omega.Int.ofNat_min k n).symm
 |negSucc k=>
  rw[if_pos (YC k),if_pos (YC k),Int.min_eq_left (Int.add_le_of_le_sub_right ((Int.sub_self _).symm▸Int.le_of_lt (YC k))),Int.max_comm,<-Int.toNat_eq_max]
  exact congrArg Int.ofNat ((congrArg Int.toNat (Int.add_comm _ _)).trans (Int.toNat_sub n (k+1)))
theorem AS(x:Str)(lo hi:Option Int):strSliceIndices lo hi 1 x.length=sliceRange ((kms_lo lo x.length:Nat):Int) ((kms_hi hi x.length:Nat):Int) 1:=
 congr (congrArg (λa b=>sliceRange a b 1) (Vs (motive:=λlo=>(match lo with|none=>0|some i=>max 0 (min (if i<0 then i+x.length else i) (x.length:Int)))=((kms_lo lo x.length:Nat):Int)) lo rfl λv=>LD v _))
  (Vs (motive:=λlo=>(match lo with|none=>(x.length:Int)|some i=>max 0 (min (if i<0 then i+x.length else i) (x.length:Int)))=((kms_hi lo x.length:Nat):Int)) hi rfl λv=>LD v _)
theorem tK(x:Str)(lo hi:Option Int):(strSliceIndices lo hi 1 x.length).filterMap (x.cps[·]?)=cutL x.cps.toList lo hi:=by
 rw[AS,sliceRange_one,pick_run]
 rfl
theorem DK(o:Option Int)(n:Nat):kms_hi o n<=n:=
 Vs (motive:=λo=>kms_hi o n<=n) o (V4 _) λv=>iteInduction (motive:=(·<=n)) (λ_=>Nat.sub_le _ _) λ_=>Nat.min_le_right _ _
theorem EG(x:Str)(lo hi:Option Int)(h:(strSliceIndices lo hi 1 x.length).length=x.length):cutL x.cps.toList lo hi=x.cps.toList:=by
 rw[AS,sliceRange_one,UC,WA] at h
 unfold cutL
 have hb:=DK hi x.length
 by_cases h0:kms_lo lo x.length=0
 ·rw[h0] at h
  rw[show kms_lo lo x.cps.toList.length=0 from h0,show kms_hi hi x.cps.toList.length-0=x.cps.toList.length from h,Wh,List.take_length]
 ·rw[List.eq_nil_of_length_eq_zero (show x.length=0 from(Nat.eq_zero_or_pos (kms_hi hi x.length)).elim (λq=>(h.symm.trans (congrArg (· -kms_lo lo x.length) q)).trans (Nat.zero_sub _)) λq=>absurd h (V0 (U7 (Nat.sub_lt q (Nat.pos_of_ne_zero h0)) hb)))];simp
noncomputable def f8(c:Cx)(x:Option AV)(w:Wd)(v:UF):Prop:=match x with
 |some d=>VR c w d v
 |none=>v= .none
theorem f8.mono{x:Option AV}{v:UF}{w':Wd}(l:w.le w'):f8 c x w v->f8 c x w' v:=Vs (motive:=λx=>f8 c x w v->f8 c x w' v) x id λ_=>VR.mono l
theorem Ay{x:Option AV}{o:Option Int}(h:rH x=some o){v:UF}(hv:f8 c x w v):IsPart v o/\∃ p:Option (Int×Tok),v=partValue p/\p.map (·.1)=o:=
 Vs (motive:=λx=>rH x=some o->f8 c x w v->IsPart v o/\∃ p:Option (Int×Tok),v=partValue p/\p.map (·.1)=o) x (λh hv=>hv▸se h ⟨.none,none,rfl,rfl⟩)
  (λd h hv=>dR (P:=λd=>VR c w d v->_) h (λi h hv=>hv.k λt=>se h ⟨.int _ _,some (i,t),rfl,rfl⟩) hv) h hv
theorem yT{mu:Bool}{x:AV}{vx vl vu:UF}{l h:Option Int}{sl:Addr}{d:AV}{H':AH}(S:St c w H O s.heap)(hx:VR c w x vx)(hs:s.heap.get? sl=some {cls:=.type "slice",data:=.fields #[vl,vu,.none]})
  (pl:IsPart vl l/\∃ p:Option (Int×Tok),vl=partValue p/\p.map (·.1)=l) (pu:IsPart vu h/\∃ p:Option (Int×Tok),vu=partValue p/\p.map (·.1)=h) (e:eU mu (au H x) l h H=some (d,H'))
  (hQ:aT c w H' O (Vd c d) Q s):(∃ T id,typeLookup (.type T) "__getitem__" =pure (some (.builtin id))/\s.TypeIs vx T)/\UI (UN c.prog c.w) A (getItem vx (.ref sl)) Q E s:=by
 have hx:=hx.dr S
 revert e hx
 generalize au H x=x
 refine AV.casesOn (motive_1:=λx=>eU mu x l h H=some (d,H')->DR c w s.heap x vx->(∃ T id,typeLookup (.type T) "__getitem__" =pure (some (.builtin id))/\s.TypeIs vx T)/\UI (UN c.prog c.w) A (getItem vx (.ref sl)) Q E s) x no (λ_=>no) (λ_=>no)
  (λxs e hx=>hx.k λt=>aJ e λhb e=>⟨⟨_,_,F.slot_str_getitem.lookup,XU _ _ _⟩,?_⟩) (λ_=>no)
  (λxs e hx=>hx.k λa vs n g r=>aJ e λhb e=>
   have hl:s.heap.IsList a vs.toArray:=⟨_,g,rfl,n,rfl⟩
   ⟨⟨_,_,slot_list_getitem.lookup,hl.typeIs⟩,wpAny_getItem_list_slice hl ⟨_,hs,rfl,rfl⟩ pl.1 pu.1 .none (λh=>nomatch h) ?_ (show vs.length<=_ from r.length▸sz hb)⟩) (λ_=>no) (λ_=>no) (λ_ _=>no) (λ_ _=>no) (λ_=>no)
 ·obtain⟨p,rfl,hp⟩:=pl.2
  obtain⟨q,rfl,hq⟩:=pu.2
  refine wpAny_getItem_str_slice (l:=p) (u:=q) (st:=none) ⟨_,hs,rfl,rfl⟩ rfl ?_
  unfold sliceMade slicePicked
  rw[hp,hq]
  have e:=UW (sj e)
  have hQ:aT c w H O (Vd c (.str ⟨(Mine.cutL xs.cps.toList l h).toArray⟩)) Q s:=e.1▸e.2▸hQ
  rw[<-tK] at hQ
  simp only[Option.map_none,Option.getD_none]
  split
  ·rename_i hsame
   rw[tK,EG _ _ _ (show(strSliceIndices l h 1 xs.length).length=xs.length by simpa using hsame)] at hQ
   exact hQ.here S .str
  ·refine⟨?_,hQ.tok S .str _⟩
   rw[tK]
   exact UH (UH (List.length_take_le' _ _) ((XG ..).symm▸Nat.sub_le _ _)) (sz hb)
 ·rw[kms_pick_eq]
  have r:=r.cutL l h
  revert e
  exact WX (motive:=λmu=>some (kf mu (Mine.cutL xs l h) H)=some (d,H')->Q (.ref s.heap.objs.size) {s with heap:=s.heap.push (U5 "list" (kms_pick vs l h).toArray 0)}) mu
   (λe=>have e:=UW (sj e);(show aT c w H O (Vd c d) Q s from e.2▸hQ).frozen S rfl _ λw' l hn=>e.1▸.lst hn (r.mono l))
   (λe=>have e:=UW (sj e);(show aT c w (H++[.list _]) O (Vd c (.loc H.length)) Q s from e.1▸e.2▸hQ).owned S rfl _ ⟨_,0,rfl,r.mono Wd.new_le⟩)
end
end
end
section
open PySem PySem.Calls PyProof.Rows PySem.W PySem.SeqAt
section
theorem aG.down{n:Nat}{A:Vh}(h:aG (n+1) A):aG n A:=⟨h.hd,UH (VA (Wt 2 (XB n)) _) h.dp,UH (VA (Wt 60 (XB n)) _) h.un⟩
noncomputable def eR(G:PH)(env:Env)(x:Str)(v:Option UF):Prop:=∃ a o,env.cells.lookup x=some a/\G a=some o/\o.data= .cell v
noncomputable def Kc(env:Env)(x:Str):Prop:=env.kindOf x=some .cell∨env.kindOf x=some .free
noncomputable def vh(O:PH)(env:Env)(x:Str)(v:UF):Prop:=
 (env.kindOf x=some .local/\∃ o m,O env.locals=some o/\qr o m/\m x=some v)∨(Kc env x/\eR O env x (some v))
structure ER(c:Cx)(w:Wd)(O:PH)(ks:Ks)(sg:Sg)(ρ:ae)(env:Env):Prop where
 gl:env.globals=VZ
 bi:env.builtins=Wy
 fk:env.scope.kind= .function
 kd:∀ x k,ks.lookup x=some k->k≠.globalExplicit->env.kindOf x=some k∨(k= .free/\env.kindOf x=some .cell)
 rd:∀ x i d,sg.lookup x=some i->(ks.lookup x).isSome=true->ρ[i]? =some (some d)->∃ v,VR c w d v/\vh O env x v
 cl:∀ x i,sg.lookup x=some i->(ks.lookup x).isSome=true->Kc env x->∃ v,eR O env x v
 fz:∀ x i,sg.lookup x=some i->ks.lookup x=none->Kc env x/\∃ v,eR w.G env x (some v)/\∀ d,ρ[i]? =some (some d)->VR c w d v
 lam:∀ k,k<2->ks.lookup (dt k)=some .globalExplicit->∃ cc P,env.code= .ref cc/\CodeHd c.H0 cc P/\w.α[k]? =some P/\env.qual++"<lambda>" =ii k
 bnd:∀ x i,sg.lookup x=some i->i<ρ.length
theorem eR.imp{G G':PH}{env:Env}{x:Str}{v:Option UF}(h:∀ a o,env.cells.lookup x=some a->G a=some o->G' a=some o)(k:eR G env x v):eR G' env x v:=Wj (λa=>Wj λo q=>⟨q.1,h a o q.1 q.2.1,q.2.2⟩) k
section
variable {c:Cx}{w w':Wd}{O O':PH}{ks:Ks}{sg:Sg}{ρ:ae}{env:Env}
theorem ER.mono(h:ER c w O ks sg ρ env)(l:w.le w'):ER c w' O ks sg ρ env:=
 {h with
  rd:=λx i d a b e=>(h.rd x i d a b e).imp λv=>.imp_left (·.mono l)
  fz:=λx i a b=>(h.fz x i a b).imp_right λk=>k.imp λv q=>⟨q.1.imp λa o _=>l.g a o,λd e=>(q.2 d e).mono l⟩
  lam:=λk kl e=>(h.lam k kl e).imp λcc=>.imp λP q=>⟨q.1,q.2.1,l.at q.2.2.1,q.2.2.2⟩}
theorem ER.sub(h:ER c w O ks sg ρ env)(k:∀ a o,(a=env.locals∨∃ x,env.cells.lookup x=some a)->O a=some o->O' a=some o):ER c w O' ks sg ρ env:=
 {h with
  rd:=λx i d a b e=>(h.rd x i d a b e).imp λv=>.imp_right (.imp (.imp_right λq=>q.imp λo=>.imp λm q=>⟨k _ _ (.inl rfl) q.1,q.2⟩) (.imp_right (.imp λa o e=>k a o (.inr ⟨_,e⟩))))
  cl:=λx i a b e=>(h.cl x i a b e).imp λv=>.imp λa o e=>k a o (.inr ⟨_,e⟩)}
end
structure cM(c:Cx)(K:Frag):Prop where
 X:K.In c.H0
 tabs:mU c
 lim:c.H0.NoLimit
 gl:∃ mg mb,c.H0.Ns VZ mg/\c.H0.Ns Wy mb/\
  (∀ x v,wv x v=true->(∃ u,mg (UK x)=some u/\∀ w,VR c w v u)∨(mg (UK x)=none/\∃ u,mb (UK x)=some u/\∀ w,VR c w v u))/\
  ∃ bm o,mg "__builtins__" =some (.ref bm)/\bm≠Wy/\bm≠VZ/\c.H0.get? bm=some o/\o.cls= .type "module"/\o.dict=some Wy/\o.data= .plain
structure eA(c:Cx)(w:Wd)(l:List (NM×AV))(kvs:List (Str×UF)):Prop where
 v:VRs c w (l.map (·.2)) (kvs.map (·.2))
 n:kvs.map (·.1)=l.map λp=>UK p.1.txt
noncomputable def Rt(c:Cx)(ns:List Str)(ds:List (NM×AV))(w:Wd)(vs:List UF):Prop:=eA c w ds (ns.zip vs)
theorem eA.mono{c:Cx}{w w':Wd}(h:w.le w'){l:List (NM×AV)}{vs:List (Str×UF)}(k:eA c w l vs):eA c w' l vs:=⟨k.v.mono h,k.n⟩
section
variable (c:Cx)(n:Nat)(r:R)
noncomputable def aF:Prop:=∀{f:Nat} {ks:Ks} {sg:Sg} {ie:IE} {e:Expr} {ρ:ae} {H:AH} {env:Env} {A:Vh} {w:Wd} {O:PH},ar f ks sg ρ.length ie e=true->aG n A->ER c w O ks sg ρ env->bw c A O w H (r.e ie ρ H) (eval e env) (Vd c)
noncomputable def cS:Prop:=∀{f:Nat} {ks:Ks} {sg:Sg} {ie:IE} {e:Expr} {ρ:ae} {H:AH} {env:Env} {A:Vh} {w:Wd} {O:PH},ar f ks sg ρ.length ie e=true->aG n A->ER c w O ks sg ρ env->bw c A O w H (r.t ie ρ H) (VO e env (eval e env)) Bd
noncomputable def mS:Prop:=∀{a:Nat} {args:List AV} {kws:List (NM×AV)} {H:AH} {A:Vh} {w:Wd} {O:PH} {vs:List UF} {kvs:List (Str×UF)},aG n A->VRs c w args vs->eA c w kws kvs->bw c A O w H (r.c a args kws H) (call (.ref a) vs kvs) (Vd c)
end
section
variable {c:Cx}{K:Frag}{w:Wd}{H H':AH}{O:PH}{A:Vh}{E:UF->UJ->Prop}{s:UJ}{ks:Ks}{sg:Sg}{ρ:ae}{env:Env}{n:Nat}{r:R}{f:Nat}
theorem St.top'(S:St c w H O s.heap)(b:Addr)(o:Obj)(e:c.H0.get? b=some o):s.heap.get? b=some o:=S.keep _ _ (S.top _ _ e)
theorem rj{x:Str}{i:Nat}{d:AV}{Q:UF->UJ->Prop}(R:ER c w O ks sg ρ env)(hs:sg.lookup x=some i)(hρ:ρ[i]? =some (some d))(hc:(x==("__classdict__" :Str))=false)
  (S:St c w H O s.heap) (hQ:aT c w H O (Vd c d) Q s):UI (UN c.prog c.w) A (loadName env x) Q E s:=
 have cell:∀{G:PH} {v:UF},(∀ a o,G a=some o->s.heap.get? a=some o)->Kc env x->eR G env x (some v)->VR c w d v->UI (UN c.prog c.w) A (loadName env x) Q E s:=λ{G v} hG hk hc' hv=>
  hc'.elim λa q=>q.elim λo q=>hk.elim (λhk=>wpAny_loadName_cell R.fk hk q.1 ⟨o,hG _ _ q.2.1,q.2.2⟩ (hQ.here S hv)) λhk=>wpAny_loadName_free R.fk hk q.1 ⟨o,hG _ _ q.2.1,q.2.2⟩ (hQ.here S hv) hc
 if hk:ks.lookup x=none then(R.fz x i hs hk).elim λhk q=>q.elim λv q=>cell S.keep hk q.1 (q.2 d hρ)
 else(R.rd x i d hs (Xb.mpr hk) hρ).elim λv q=>q.2.elim
  (λr=>r.2.elim λo k=>k.elim λm k=>k.2.1.elim λes j=>j.elim λep j=>wpAny_loadName_local R.fk r.1 ⟨o,es,ep,(S.own _ _ k.1).1,j⟩ k.2.2 (hQ.here S q.1))
  λr=>cell (λa o e=>(S.own a o e).1) r.1 r.2 q.1
theorem B0{x:Str}{pos:Pos}{i:Nat}{d:AV}{Q:UF->UJ->Prop}(R:ER c w O ks sg ρ env)(hs:sg.lookup x=some i)(hρ:ρ[i]? =some (some d))(hd:(x==("__debug__" :Str))=false)(hc:(x==("__classdict__" :Str))=false)
  (S:St c w H O s.heap) (hQ:aT c w H O (Vd c d) Q s):UI (UN c.prog c.w) A (eval (.Name x pos) env) Q E s:=wpAny_Name (rj R hs hρ hc S hQ) hd
theorem qS(hT:cM c K){x:String}{pos:Pos}{d:AV}{Q:UF->UJ->Prop}(R:ER c w O ks sg ρ env)(hk:ks.lookup (UK x)=some .globalImplicit)(hg:wv x d=true)(hd:(UK x==("__debug__" :Str))=false)
  (S:St c w H O s.heap) (hQ:aT c w H O (Vd c d) Q s):UI (UN c.prog c.w) A (eval (.Name (UK x) pos) env) Q E s:=
 hT.gl.elim λmg k=>k.elim λmb k=>Name_function_global R.fk ((R.kd _ _ hk nofun).elim id λh=>nomatch h.1) ((k.2.2.1 x d hg).elim
  (λq=>q.elim λu q=>loadGlobal_global (R.gl▸k.1.keeps S.top') q.1 (hQ.here S (q.2 _)))
  λq=>q.2.elim λu j=>loadGlobal_builtin (R.gl▸k.1.keeps S.top') q.1 (R.bi▸k.2.1.keeps S.top') j.1 (hQ.here S (j.2 _))) hd
theorem i5{e:Expr}{rest:List Expr}(h:wO e=false):WQ (e::rest) env=(false,eval e env)::WQ rest env:=by
 cases e<;>first|rfl|exact nomatch h
theorem j0(hE:aF c n r)(hA:aG n A){pos:Pos}{l:List IE}{es:List Expr}(h:de (ar f ks sg ρ.length) l es=true):∀{w:Wd} {H:AH},ER c w O ks sg ρ env->bw c A O w H (cj r l ρ H) (spliced (Zq pos (WQ es env))) (RC c):=
 kI (f:=ar f ks sg ρ.length) (P:=λl es=>∀{w:Wd} {H:AH},ER c w O ks sg ρ env->bw c A O w H (cj r l ρ H) (spliced (Zq pos (WQ es env))) (RC c))
  (λR d H' e s Q E S hQ=>args_nil ((hQ.pr e).here S .nil))
  (λi l x es hs h1 _ ih {w H} R d H' e s Q E S hQ=>args_cons (he:=i5 hs) ((hE h1 hA R).k e S λd1 H1 w1 m1 t1 u e l1 S1 r1=>(ih (R.mono l1)).k e S1 λd2 H2 w2 m2 t2 us e l2 S2 r2=>
   hQ.pr e w2 m2 t2 _ (l1.trans l2) S2 (.cons (r1.mono l2) r2))) h
noncomputable def RL(pos:Pos)(es:List Xn)(env:Env):List Str:=(WR pos (Wa es env)).filterMap (·.1)
theorem ua(hE:aF c n r)(hA:aG n A){pos:Pos}{l:List (NM×IE)}{es:List Xn}(h:h9 (ar f ks sg ρ.length) l es=true):∀{w:Wd} {H:AH},ER c w O ks sg ρ env->
  bw c A O w H (jZ r l ρ H) (evalAll ((WR pos (Wa es env)).map (·.2))) (Rt c (RL pos es env)):=
 C6 (f:=ar f ks sg ρ.length) (P:=λl es=>∀{w:Wd} {H:AH},ER c w O ks sg ρ env->bw c A O w H (jZ r l ρ H) (evalAll ((WR pos (Wa es env)).map (·.2))) (Rt c (RL pos es env)))
  (λ{w H} R d H' e s Q E S hQ=>UE (hQ.pr e w s.heap s.toks [] (.refl _) S ⟨.nil,rfl⟩))
  (λp l x q es h1 _ ih {w H} R d H' e s Q E S hQ=>wpAny_evalAll_cons (show UI _ A (do let v <-eval x env;VY pos;pure v) _ E s from UA ((hE h1 hA R).k e S λd1 H1 w1 m1 t1 u e l1 S1 r1=>UA (Vp (UE ((ih (R.mono l1)).k (s:=aI s m1 t1) e S1 λd2 H2 w2 m2 t2 us e l2 S2 r2=>
   hQ.pr e w2 m2 t2 (u::us) (l1.trans l2) S2 ⟨.cons (r1.mono l2) r2.v,congrArg _ r2.n⟩)))))) h
end
end
section
theorem JV{r:R}{ρ:ae}{l:List IE}:∀{H:AH} {ds:List AV} {H':AH},cj r l ρ H=some (ds,H')->ds.length=l.length:=
 List.rec (motive:=λl=>∀{H:AH} {ds:List AV} {H':AH},cj r l ρ H=some (ds,H')->ds.length=l.length) (λe=>(UW (sj e)).1▸rfl)
  (λi l ih {H ds H'} e=>aP e λd H1 _ e=>aP e λds' H2 e2 e=>(UW (sj e)).1▸congrArg (· +1) (ih e2)) l
section
variable {c:Cx}{K:Frag}{w:Wd}{H H':AH}{O:PH}{A:Vh}{E:UF->UJ->Prop}{s:UJ}{ks:Ks}{sg:Sg}{ρ:ae}{env:Env}{n:Nat}{r:R}{f:Nat}{Q:UF->UJ->Prop}{e:Expr}
theorem P9{v:AV}(hc:ar (f+1) ks sg ρ.length (.con v) e=true):bw c A O w H (bW TT r (.con v) ρ H) (eval e env) (Vd c):=λd H' he s Q E S hQ=>
 have hQ:=hQ.pr he
 (Vr.mp hc).elim (λh=>uO (P:=λe=>UI (UN c.prog c.w) A (eval e env) Q E s) h λk a p=>by
  revert hQ
  refine AV.casesOn (motive_1:=λv=>aT c w H O (Vd c v) Q s->IR v k=true->UI (UN c.prog c.w) A (eval (.Constant k a p) env) Q E s) v (λhQ=>?_) (λb hQ=>?_) (λb hQ=>?_) (λb hQ=>?_) (λ_ _=>ft) (λ_ _=>ft) (λ_ _=>ft) (λ_ _=>ft) (λ_ _ _=>ft) (λ_ _ _=>ft) (λ_ _=>ft)
  ·cases k<;>first|exact λ_=>wpAny_Constant_none (hQ.here S .none)|exact ft
  ·cases k<;>first|exact λh=>bq (P:=λb=>UI _ A (eval (.Constant (.bool b) a p) env) Q E s) h (wpAny_Constant_bool (hQ.here S .bool))|exact ft
  ·cases k<;>first|exact λh=>bq (P:=λb=>UI _ A (eval (.Constant (.int b) a p) env) Q E s) h (wpAny_Constant_int (hQ.tok S .int _))|exact ft
  ·cases k<;>first|exact λh=>bq (P:=λb=>UI _ A (eval (.Constant (.str b) a p) env) Q E s) h (Constant_str (hQ.tok S .str _))|exact ft)
 λh=>c4 (P:=λe=>UI (UN c.prog c.w) A (eval e env) Q E s) (a2 h) λx p hx=>bq (P:=λx=>UI _ A (eval (.Name x p) env) Q E s) hx<|by
  have hv:v= .bool true:=AV.casesOn (motive_1:=λv=>zG v=true->v= .bool true) v ft (λb=>congrArg AV.bool) (λ_=>ft) (λ_=>ft) (λ_=>ft) (λ_=>ft) (λ_=>ft) (λ_=>ft) (λ_ _=>ft) (λ_ _=>ft) (λ_=>ft) (a1 h)
  rw[arm_eval_Name]
  exact UA (Vp (show UI _ _ (do rule "name.__debug__";pure (.bool true)) _ _ _ from UA (Xg (UE (hQ.here S (hv▸.bool))))))
theorem qF{x y:Str}(h:(x !=y)=true):(x==y)=false:=nt h
theorem yy{i:Nat}{v:AV}{P:Prop}(e:CQ ρ i=some v)(k:ρ[i]? =some (some v)->P):P:=az e λa h e=>k (h.trans (congrArg some e))
theorem Qi{i:Nat}(hc:ar (f+1) ks sg ρ.length (.var i) e=true)(R:ER c w O ks sg ρ env):bw c A O w H (bW TT r (.var i) ρ H) (eval e env) (Vd c):=λd H' he s Q E S hQ=>
 c4 (P:=λe=>UI (UN c.prog c.w) A (eval e env) Q E s) hc λx p h=>az he λv ev he=>yy ev λev=>B0 R (eq_of_beq (a1 h)) ev (qF (a1 (a2 (a2 h)))) (qF (a2 (a2 (a2 h)))) S (hQ.pr he)
theorem LK(hT:cM c K){x:String}{v:AV}(hc:ar (f+1) ks sg ρ.length (.glob x v) e=true)(R:ER c w O ks sg ρ env):bw c A O w H (bW TT r (.glob x v) ρ H) (eval e env) (Vd c):=λd H' he s Q E S hQ=>
 c4 (P:=λe=>UI (UN c.prog c.w) A (eval e env) Q E s) hc λx p h=>bq (P:=λx=>UI _ A (eval (.Name x p) env) Q E s) (a1 h) (qS hT R (eq_of_beq (a1 (a2 h))) (a1 (a2 (a2 h))) (qF (a2 (a2 (a2 h)))) S (hQ.pr he))
theorem P7(hE:aF c n r)(hA:aG n A){op:VK}{a b:IE}(hc:ar (f+1) ks sg ρ.length (.bin op a b) e=true)(R:ER c w O ks sg ρ env):bw c A O w H (bW TT r (.bin op a b) ρ H) (eval e env) (Vd c):=λd H' he s Q E S hQ=>
 Ar (P:=λe=>UI (UN c.prog c.w) A (eval e env) Q E s) hc λx o y p h=>bq (P:=λo=>UI _ A (eval (.BinOp x o y p) env) Q E s) (a1 h) (wpAny_BinOp ((hE (a1 (a2 h)) hA R).k he S λ_ _ _ _ _ _ he l1 S r1=>
  (hE (a2 (a2 h)) hA (R.mono l1)).k he S λ_ _ _ _ _ _ he l2 S r2=>az he λ_ e3 he=>Bm hA.hd e3 S (r1.mono l2) r2 ((hQ.pr he).after (l1.trans l2))))
theorem Qd(hE:aF c n r)(hA:aG n A){a:IE}(hc:ar (f+1) ks sg ρ.length (.neg a) e=true)(R:ER c w O ks sg ρ env):bw c A O w H (bW TT r (.neg a) ρ H) (eval e env) (Vd c):=λd H' he s Q E S hQ=>
 rG (P:=λe=>UI (UN c.prog c.w) A (eval e env) Q E s) hc λo x p h=>bq (P:=λo=>UI _ A (eval (.UnaryOp o x p) env) Q E s) (a1 h) (wpAny_UnaryOp ((hE (a2 h) hA R).k he S λv _ _ _ _ u he l1 S r1=>
  dR (P:=λv=>Vd c v _ u->_) he (λi he r1=>r1.k λt=>PyProof.Rows.neg_int (((hQ.pr he).after l1).tok S .int _)) r1))
theorem Qe(hE:aF c n r)(hA:aG n A){a:IE}(hc:ar (f+1) ks sg ρ.length (.not a) e=true)(R:ER c w O ks sg ρ env):bw c A O w H (bW TT r (.not a) ρ H) (eval e env) (Vd c):=λd H' he s Q E S hQ=>
 rG (P:=λe=>UI (UN c.prog c.w) A (eval e env) Q E s) hc λo x p h=>bq (P:=λo=>UI _ A (eval (.UnaryOp o x p) env) Q E s) (a1 h) (wpAny_UnaryOp ((hE (a2 h) hA R).k he S λv _ _ _ _ u he l1 S r1=>
  az he λb e2 he=>not_value (gV e2 S r1 λw2 h2 t2 v l2 S q=>q▸hQ.pr he w2 h2 t2 _ (l1.trans l2) S .bool)))
theorem P8(hT:mU c)(hE:aF c n r)(hA:aG n A){op:CmpOp}{a b:IE}(hc:ar (f+1) ks sg ρ.length (.cmp op a b) e=true)(R:ER c w O ks sg ρ env):bw c A O w H (bW TT r (.cmp op a b) ρ H) (eval e env) (Vd c):=λd H' he s Q E S hQ=>
 As (P:=λe=>UI (UN c.prog c.w) A (eval e env) Q E s) hc λx o y p h=>ff (P:=λo=>UI _ A (eval (.Compare x o y p) env) Q E s) h λo h=>ff (P:=λy=>UI _ A (eval (.Compare x [o] y p) env) Q E s) h λy h=>
  bq (P:=λo=>UI _ A (eval (.Compare x [o] [y] p) env) Q E s) (a1 h) (wpAny_Compare1 ((hE (a1 (a2 h)) hA R).k he S λ_ _ _ _ _ _ he l1 S r1=>(hE (a1 (a2 (a2 h))) hA (R.mono l1)).k he S λ_ _ _ _ _ _ he l2 S r2=>
   az he λ_ e3 he=>qK hT hA e3 S (r1.mono l2) r2 ((hQ.pr he).after (l1.trans l2))) (nt (a2 (a2 (a2 h)))))
theorem yD(hE:aF c n r)(hA:aG n A){pos:Pos}{l:List IE}{es:List Expr}(h:de (ar f ks sg ρ.length) l es=true):∀{w:Wd} {H:AH},ER c w O ks sg ρ env->bw c A O w H (jY r l ρ H) (boolOp pos .And (evalEach es env)) (Vd c):=
 kI (f:=ar f ks sg ρ.length) (P:=λl es=>∀{w:Wd} {H:AH},ER c w O ks sg ρ env->bw c A O w H (jY r l ρ H) (boolOp pos .And (evalEach es env)) (Vd c)) (λ_ _ _=>no)
  (λi l x es _ h1 hl ih {w H} R d H' e=>eg e (λb e=>by
    cases l with
    |cons _ _=>exact ft b
    |nil=>exact gJ (P:=λes=>∀ s Q E,St c w H O s.heap->aT c w H' O (Vd c d) Q s->UI (UN c.prog c.w) A (boolOp pos .And (evalEach (x::es) env)) Q E s) hl (hE h1 hA R d H' e))
   λb e s Q E S hQ=>by
    cases es with
    |nil=>cases l with
     |nil=>exact ft b.symm
     |cons _ _=>exact ft hl
    |cons y es=>exact
     (show UI _ _ (do
      let v <-eval x env
      VY pos
      let t <-VW [v] (Vf v)
      match BoolOp.And,t with
      | .And,false | .Or,true=>pure v
      |_,_=>boolOp pos .And (evalEach (y::es) env)) Q E s from UA ((hE h1 hA R).k e S λd1 H1 w1 m1 t1 u e l1 S1 r1=>az e λb eb e=>UA (Vp (UA (U9 (gV eb S1 r1 λw2 h2 t2 v l2 S2 q=>
       eg e (λhb e=>(show v=true from q.trans hb)▸ih (R.mono (l1.trans l2)) _ _ e _ _ _ S2 (hQ.after (l1.trans l2))) λhb e=>(show v=false from q.trans hb)▸UE (hQ.pr e w2 h2 t2 u (l1.trans l2) S2 (r1.mono l2))))))))) h
theorem P6(hE:aF c n r)(hA:aG n A){l:List IE}(hc:ar (f+1) ks sg ρ.length (.and l) e=true)(R:ER c w O ks sg ρ env):bw c A O w H (bW TT r (.and l) ρ H) (eval e env) (Vd c):=λd H' he s Q E S hQ=>
 qc (P:=λe=>UI (UN c.prog c.w) A (eval e env) Q E s) hc λo es p h=>bq (P:=λo=>UI _ A (eval (.BoolOp o es p) env) Q E s) (a1 h) (arm_eval_BoolOp ..▸yD hE hA (a2 h) R d H' he s Q E S hQ)
theorem Qa(hE:aF c n r)(hB:cS c n r)(hA:aG n A){t a b:IE}(hc:ar (f+1) ks sg ρ.length (.ite t a b) e=true)(R:ER c w O ks sg ρ env):bw c A O w H (bW TT r (.ite t a b) ρ H) (eval e env) (Vd c):=λd H' he s Q E S hQ=>
 Eh (P:=λe=>UI (UN c.prog c.w) A (eval e env) Q E s) hc λt x y p h=>wpAny_IfExp ((hB (a1 h) hA R).k he S λb H1 w1 m1 t1 v he l1 S1 q=>
  eg he (λhb he=>(if_pos (show v=true from q.trans hb)).symm▸hE (a1 (a2 h)) hA (R.mono l1) d H' he _ Q E S1 (hQ.after l1)) λhb he=>(if_neg (show ¬v=true from WB.mp (q.trans hb))).symm▸hE (a2 (a2 h)) hA (R.mono l1) d H' he _ Q E S1 (hQ.after l1))
theorem Gh{mu:Bool}{ds:List AV}{H1:AH}{d:AV}{H':AH}(e:some (kf mu ds H1)=some (d,H'))(S:St c w H1 O s.heap){vs:List UF}(hv:VRs c w ds vs)(tk:Nat)(hQ:aT c w H' O (Vd c d) Q s):
  Q (.ref s.heap.objs.size) {s with heap:=s.heap.push (U5 "list" vs.toArray 0),toks:=tk}:=
 WX (motive:=λmu=>some (kf mu ds H1)=some (d,H')->Q (.ref s.heap.objs.size) {s with heap:=s.heap.push (U5 "list" vs.toArray 0),toks:=tk}) mu
  (λe=>(hQ.pr e).frozen S rfl _ λw' l hn=>.lst hn (hv.mono l)) (λe=>(hQ.pr e).owned S rfl _ ⟨_,0,rfl,hv.mono Wd.new_le⟩) e
theorem DU{l:List IE}{ds:List AV}{vs:List UF}{H H':AH}(h:WL l.length 1000=true)(e:cj r l ρ H=some (ds,H'))(k:VRs c w ds vs):vs.length<=Xc:=k.length.trans (JV e)▸UH (UG h) (by decide)
theorem LL(hE:aF c n r)(hA:aG n A){mu:Bool}{l:List IE}(hc:ar (f+1) ks sg ρ.length (.list mu l) e=true)(R:ER c w O ks sg ρ env):bw c A O w H (bW TT r (.list mu l) ρ H) (eval e env) (Vd c):=λd H' he s Q E S hQ=>
 yc (P:=λe=>UI (UN c.prog c.w) A (eval e env) Q E s) hc λes p h=>aP he λds H1 e1 he=>wpAny_List (j0 hE hA (a2 h) R _ _ e1 s _ E S λw1 m1 t1 vs l1 S1 r1=>⟨DU (a1 h) e1 r1,Gh he S1 r1 _ (hQ.after l1)⟩)
theorem Qh(hE:aF c n r)(hA:aG n A){l:List IE}(hc:ar (f+1) ks sg ρ.length (.tup l) e=true)(R:ER c w O ks sg ρ env):bw c A O w H (bW TT r (.tup l) ρ H) (eval e env) (Vd c):=λd H' he s Q E S hQ=>
 tz (P:=λe=>UI (UN c.prog c.w) A (eval e env) Q E s) hc λes k p h=>aP he λds H1 e1 he=>wpAny_Tuple (j0 hE hA (a2 h) R _ _ e1 s _ E S λw1 m1 t1 vs l1 S1 r1=>⟨DU (a1 h) e1 r1,((hQ.pr he).after l1).frozen S1 rfl _ λw' l hn=>.tup hn (VRs.mono l r1)⟩)
theorem Qg(hT:mU c)(hE:aF c n r)(hA:aG n A){a j:IE}(hc:ar (f+1) ks sg ρ.length (.sub a j) e=true)(R:ER c w O ks sg ρ env):bw c A O w H (bW TT r (.sub a j) ρ H) (eval e env) (Vd c):=λd H' he s Q E S hQ=>
 io (P:=λe=>UI (UN c.prog c.w) A (eval e env) Q E s) hc λx y p h=>Subscript_ ((hE (a1 h) hA R).k he S λ_ _ _ _ _ _ he l1 S r1=>(hE (a1 (a2 h)) hA (R.mono l1)).k he S λ_ _ _ _ _ _ he l2 S r2=>
  az he λ_ e3 he=>CI hT (nt (a2 (a2 h))) e3 S (r1.mono l2) r2 ((hQ.pr he).after (l1.trans l2)))
theorem EI{value:Expr}{lower upper:Option Expr}{p pos:Pos}
  (h:UI (UN c.prog c.w) A (eval value env) (λo s₁=>UI (UN c.prog c.w) A (eval (.Slice lower upper none p) env) (λi s₂=>(∃ T id,typeLookup (.type T) "__getitem__" =pure (some (.builtin id))/\s₂.TypeIs o T)/\UI (UN c.prog c.w) A (getItem o i) Q E s₂) E s₁) E s):
  UI (UN c.prog c.w) A (eval (.Subscript value (.Slice lower upper none p) pos) env) Q E s:=by
 rw[eval_Subscript]
 refine UA (Vg h (λo s₁ h₁=>UA (U9 (Vg h₁ (λi s₂ h₂=>UA (Vp ?_)) λ_ _ x=>x))) λ_ _ x=>x)
 obtain⟨⟨T,id,hl,hT⟩,hg⟩:=h₂
 refine UA ?_
 rw[getitemInPython_of_ne hT.not_modules]
 refine UA (WO hT hl (UE (UA (wpAny_operating (Vg hg (λr s₃ h₃=>UA (wpAny_letTemporaryGo (UE h₃))) λ_ _ x=>x)))))
theorem ub(hE:aF c n r)(hA:aG n A){o:Option IE}{oe:Option Expr}(hc:vZ (ar f ks sg ρ.length) o oe=true)(R:ER c w O ks sg ρ env):bw c A O w H (zi r o ρ H) (evalPart oe env) (f8 c):=
 Vs (motive:=λo=>vZ (ar f ks sg ρ.length) o oe=true->bw c A O w H (zi r o ρ H) (evalPart oe env) (f8 c)) o
  (λh=>j9 (P:=λoe=>bw c A O w H (zi r none ρ H) (evalPart oe env) (f8 c)) h λd H' e s Q E S hQ=>UE ((hQ.pr e).here S rfl))
  (λi=>Vs (motive:=λoe=>vZ (ar f ks sg ρ.length) (some i) oe=true->bw c A O w H (zi r (some i) ρ H) (evalPart oe env) (f8 c)) oe ft λy h d H' e s Q E S hQ=>aP e λv H1 e1 e=>hE h hA R v H1 e1 s Q E S (hQ.pr e)) hc
theorem JP(hE:aF c n r)(hA:aG n A){mu:Bool}{a:IE}{lo hi:Option IE}(hc:ar (f+1) ks sg ρ.length (.slice mu a lo hi) e=true)(R:ER c w O ks sg ρ env):bw c A O w H (bW TT r (.slice mu a lo hi) ρ H) (eval e env) (Vd c):=λd H' he s Q E S hQ=>
 io (P:=λe=>UI (UN c.prog c.w) A (eval e env) Q E s) hc λx y q h=>uP (P:=λy=>UI _ A (eval (.Subscript x y q) env) Q E s) (a2 h) λl u p h'=>EI ((hE (a1 h) hA R).k he S λ_ _ _ _ _ o he l1 S r1=>
  wpAny_Slice ((ub hE hA (a1 h') (R.mono l1)).k he S λ_ _ _ _ _ _ he l2 S r2=>(ub hE hA (a2 h') (R.mono (l1.trans l2))).k he S λ_ H3 _ _ _ _ he l3 S r3=>az he λ_ e4 he=>az he λ_ e5 he=>
   UE (yT (S.keeps λb x e=>Heap.get?_push_of_some _ e) (VR.mono (l2.trans l3) r1) (Heap.get?_push_size _ rfl) (Ay e4 (f8.mono l3 r2)) (Ay e5 r3) he (hQ.after (l1.trans (l2.trans l3))))))
end
end
section
section
variable {c:Cx}{K:Frag}{w:Wd}{H H':AH}{O:PH}{A:Vh}{E:UF->UJ->Prop}{s:UJ}{ks:Ks}{sg:Sg}{ρ:ae}{env:Env}{n:Nat}{r:R}{f:Nat}{Q:Bool->UJ->Prop}{e:Expr}{whole:Sem UF}
theorem qj{b v:Bool}{x y:Prop}[Decidable (v=true)](q:v=b)(h:b=true->x)(k:b=false->y):if v=true then x else y:=iteInduction (motive:=id) (λz=>h (q.symm.trans z)) λz=>k (q.symm.trans (WB.mpr z))
theorem yC(hB:cS c n r)(hA:aG n A){l:List IE}{es:List Expr}(h:de (ar f ks sg ρ.length) l es=true):∀{w:Wd} {H:AH},ER c w O ks sg ρ env->bw c A O w H (bk r l ρ H) (allTrue .And es env) Bd:=
 kI (f:=ar f ks sg ρ.length) (P:=λl es=>∀{w:Wd} {H:AH},ER c w O ks sg ρ env->bw c A O w H (bk r l ρ H) (allTrue .And es env) Bd) (λ_ d H' e s Q E S hQ=>wpAny_allTrue_And_nil ((hQ.pr e).here S rfl))
  (λi l x es _ h1 hl ih {w H} R d H' e s Q E S hQ=>wpAny_allTrue_And_cons ((hB h1 hA R).k e S λb H1 w1 m1 t1 v e l1 S1 q=>
   qj q (λhb=>eg e (λ_ e=>ih (R.mono l1) _ _ e _ _ _ S1 (hQ.after l1)) λhb' _=>ft (hb'.symm.trans hb)) λhb=>eg e (λhb' _=>ft (hb.symm.trans hb')) λ_ e=>hQ.pr e w1 m1 t1 _ l1 S1 rfl)) h
theorem yF(hB:cS c n r)(hA:aG n A){l:List IE}{es:List Expr}(h:de (ar f ks sg ρ.length) l es=true):∀{w:Wd} {H:AH},ER c w O ks sg ρ env->bw c A O w H (ej r l ρ H) (allTrue .Or es env) Bd:=
 kI (f:=ar f ks sg ρ.length) (P:=λl es=>∀{w:Wd} {H:AH},ER c w O ks sg ρ env->bw c A O w H (ej r l ρ H) (allTrue .Or es env) Bd) (λ_ d H' e s Q E S hQ=>wpAny_allTrue_Or_nil ((hQ.pr e).here S rfl))
  (λi l x es _ h1 hl ih {w H} R d H' e s Q E S hQ=>wpAny_allTrue_Or_cons ((hB h1 hA R).k e S λb H1 w1 m1 t1 v e l1 S1 q=>
   qj q (λhb=>eg e (λ_ e=>hQ.pr e w1 m1 t1 _ l1 S1 rfl) λhb' _=>ft (hb'.symm.trans hb)) λhb=>eg e (λhb' _=>ft (hb.symm.trans hb')) λ_ e=>ih (R.mono l1) _ _ e _ _ _ S1 (hQ.after l1))) h
theorem Rh(hB:cS c n r)(hA:aG n A){t x y:IE}(hc:ar (f+1) ks sg ρ.length (.ite t x y) e=true)(R:ER c w O ks sg ρ env):bw c A O w H (lW r (.ite t x y) ρ H) (VO e env whole) Bd:=λd H' he s Q E S hQ=>
 Eh (P:=λe=>UI (UN c.prog c.w) A (VO e env whole) Q E s) hc λt x y p h=>arm_isTrue_IfExp ..▸UA ((hB (a1 h) hA R).k he S λb H1 w1 m1 t1 v he l1 S1 q=>
  eg he (λhb he=>(if_pos (show v=true from q.trans hb)).symm▸hB (a1 (a2 h)) hA (R.mono l1) d H' he _ Q E S1 (hQ.after l1)) λhb he=>(if_neg (show ¬v=true from WB.mp (q.trans hb))).symm▸hB (a2 (a2 h)) hA (R.mono l1) d H' he _ Q E S1 (hQ.after l1))
theorem Ri(hB:cS c n r)(hA:aG n A){a:IE}(hc:ar (f+1) ks sg ρ.length (.not a) e=true)(R:ER c w O ks sg ρ env):bw c A O w H (lW r (.not a) ρ H) (VO e env whole) Bd:=λd H' he s Q E S hQ=>
 rG (P:=λe=>UI (UN c.prog c.w) A (VO e env whole) Q E s) hc λo x p h=>bq (P:=λo=>UI _ A (VO (.UnaryOp o x p) env whole) Q E s) (a1 h) (wpAny_isTrue_Not ((hB (a2 h) hA R).k he S λv H1 w1 m1 t1 u he l1 S1 q=>hQ.pr he w1 m1 t1 _ l1 S1 (congrArg (!·) q)))
theorem Rf(hB:cS c n r)(hA:aG n A){l:List IE}(hc:ar (f+1) ks sg ρ.length (.and l) e=true)(R:ER c w O ks sg ρ env):bw c A O w H (lW r (.and l) ρ H) (VO e env whole) Bd:=λd H' he s Q E S hQ=>
 qc (P:=λe=>UI (UN c.prog c.w) A (VO e env whole) Q E s) hc λo es p h=>bq (P:=λo=>UI _ A (VO (.BoolOp o es p) env whole) Q E s) (a1 h) (wpAny_isTrue_BoolOp (yC hB hA (a2 h) R d H' he s Q E S hQ))
theorem TU(hB:cS c n r)(hA:aG n A){l:List IE}(hc:ar (f+1) ks sg ρ.length (.or l) e=true)(R:ER c w O ks sg ρ env):bw c A O w H (lW r (.or l) ρ H) (VO e env whole) Bd:=λd H' he s Q E S hQ=>
 qc (P:=λe=>UI (UN c.prog c.w) A (VO e env whole) Q E s) hc λo es p h=>bq (P:=λo=>UI _ A (VO (.BoolOp o es p) env whole) Q E s) (a1 h) (wpAny_isTrue_BoolOp (yF hB hA (a2 h) R d H' he s Q E S hQ))
theorem Rg(hT:mU c){r0:R}(hE:aF c n r0)(hA:aG n A){op:CmpOp}{x y:IE}(hc:ar (f+1) ks sg ρ.length (.cmp op x y) e=true)(hr:r.e (.cmp op x y) ρ H=bW TT r0 (.cmp op x y) ρ H)(R:ER c w O ks sg ρ env):bw c A O w H (tN r (.cmp op x y) ρ H) (VO e env whole) Bd:=λd H' he s Q E S hQ=>
 As (P:=λe=>UI (UN c.prog c.w) A (VO e env whole) Q E s) hc λx o y p h=>ff (P:=λo=>UI _ A (VO (.Compare x o y p) env whole) Q E s) h λo h=>ff (P:=λy=>UI _ A (VO (.Compare x [o] y p) env whole) Q E s) h λy h=>
  bq (P:=λo=>UI _ A (VO (.Compare x [o] [y] p) env whole) Q E s) (a1 h) (aP he λv H3 e0 he=>wpAny_isTrue_Compare1 ((hE (a1 (a2 h)) hA R).k (hr.symm.trans e0) S λ_ _ _ _ _ _ e0 l1 S r1=>(hE (a1 (a2 (a2 h))) hA (R.mono l1)).k e0 S λ_ _ _ _ _ _ e0 l2 S r2=>
   az e0 λ_ e3 e0=>az he λb e5 he=>qK hT hA e3 S (r1.mono l2) r2 λw3 h3 t3 v l3 S3 r3=>have z:=UW (sj e0);gV (H:=H3) e5 (z.2▸S3) (z.1▸r3) ((hQ.pr he).after (l1.trans (l2.trans l3)))) (nt (a2 (a2 (a2 h)))))
theorem Rj{ie:IE}(hs:bw c A O w H (r.e ie ρ H) (eval e env) (Vd c))(ht:VO e env (eval e env)=(do let v <-eval e env;VY e.pos;VW [v] (Vf v))):bw c A O w H (tN r ie ρ H) (VO e env (eval e env)) Bd:=λd H' he s Q E S hQ=>
 wpAny_isTrue_value (hs.k he S λv H1 w1 m1 t1 u he l1 S1 r1=>az he λb e5 he=>gV e5 S1 r1 ((hQ.pr he).after l1)) ht
end
end
section
structure Lj(K:Frag):Prop where
 get:∀ c,(cD c).isSome=true->plainGet K c ⟨#[]⟩=true/\hasDictIn K c=true
 meth:∀ c m f,jg c m=some f->XX K (.ref c) (UK m.txt)=some (some (.ref f))/\isFn K (.ref f)=true
 bnd:∀ c m f,jg c m=some f->specialIn K (.ref f) "__get__" =some (some (.builtin "function.__get__"))/\takesIn K (.ref f)=some false/\copiedNames.contains (UK m.txt)=false
 fld:∀ c m,(cD c).isSome=true->jg c m=none->XX K (.ref c) (UK m.txt)=some none
structure Rv(c:Cx):Prop where
 at_:∀ k:Bool,∃ o,c.H0.get? (if k then 154 else 159)=some o/\o.cls= .type "re.Pattern"/\o.dict=none
 call:∀(k:Bool) (A:Vh) (E:UF->UJ->Prop) (Q:UF->UJ->Prop) (s:UJ) (x:Str) (t:Tok),(∀ b o,c.H0.get? b=some o->s.heap.get? b=some o)->
  ym k x=true->Q .none s->UI (UN c.prog c.w) A (call (.builtin "re.Pattern.search") [.ref (if k then 154 else 159),.str x t]) Q E s
structure Rq(K:Frag):Prop where
 keep:∀ a,((cD a).isSome=true∨(gc a).isSome=true)->keepIn K (.ref a)=true
 fn:∀ a,(gc a).isSome=true->fnIn K a=true
structure TF(c:Cx)(K:Frag):Prop where
 top:cM c K
 fn:Rq K
 cls:Lj K
 rx:Rv c
theorem M1:(UD 23).all (λi=>(UD 23).all λj=>i==j||!(UK (NM.ofNat i).txt==UK (NM.ofNat j).txt))=true:=by decide +kernel
theorem NM.lt(x:NM):x.ctorIdx<23:=UG (NM.casesOn (motive:=λx=>WL (x.ctorIdx+1) 23=true) x rfl rfl rfl rfl rfl rfl rfl rfl rfl rfl rfl rfl rfl rfl rfl rfl rfl rfl rfl rfl rfl rfl rfl)
theorem NM.of_inj{x y:NM}(h:x.ctorIdx=y.ctorIdx):x=y:=(NM.ofNat_ctorIdx x).symm.trans ((congrArg NM.ofNat h).trans (NM.ofNat_ctorIdx y))
theorem wP{x y:NM}{t:Tok}:(UF.str (UK x.txt) t).isStr (UK y.txt)=decide (x=y):=
 if h:x=y then h▸(beq_self_eq_true (UK x.txt)).trans (decide_eq_true rfl).symm
 else(show(UK x.txt==UK y.txt)=false by
  have q:=UP.mp (UP.mp M1 x.ctorIdx (UR.mpr x.lt)) y.ctorIdx (UR.mpr y.lt)
  rw[NM.ofNat_ctorIdx,NM.ofNat_ctorIdx] at q
  exact(Vr.mp q).elim (λq=>absurd (NM.of_inj (eq_of_beq q)) h) nt).trans (decide_eq_false h).symm
section
variable {c:Cx}{K:Frag}{w:Wd}{H H':AH}{O:PH}{A:Vh}{E:UF->UJ->Prop}{s:UJ}{d:AV}
noncomputable def A7(c:Cx)(w:Wd)(x:Option AV)(o:Option UF):Prop:=match x with
 |none=>o=none
 |some v=>∃ u,o=some u/\VR c w v u
theorem Dn{x:NM}{h:Int}{t:Tok}{v:UF}{es:List Vx}(m:NM):Xz (UK m.txt) (⟨h,.str (UK x.txt) t,v⟩::es)=bif decide (x=m) then some (some v) else Xz (UK m.txt) es:=by
 unfold Xz
 rw[show(⟨h,.str (UK x.txt) t,v⟩::es).find? (·.key.isStr (UK m.txt))=(match(UF.str (UK x.txt) t).isStr (UK m.txt) with|true=>some ⟨h,.str (UK x.txt) t,v⟩|false=>es.find? (·.key.isStr (UK m.txt))) from rfl,wP]
 cases decide (x=m)<;>rfl
theorem KRs.getL{l:List (NM×AV)}{es:List Vx}(h:KRs c w l es)(m:NM):∃ o,Xz (UK m.txt) es=some o/\A7 c w (l.lookup m) o:=
 h.ind (M:=λl es=>∃ o,Xz (UK m.txt) es=some o/\A7 c w (l.lookup m) o) ⟨none,rfl,rfl⟩ λp l h t v es a _ ih=>by
  rw[Dn,show(p::l).lookup m=(match m==p.1 with|true=>some p.2|false=>l.lookup m) from rfl]
  by_cases e:p.1=m
  ·rw[decide_eq_true e,show(m==p.1)=true from beq_iff_eq.mpr e.symm]
   exact⟨_,rfl,_,rfl,a⟩
  ·rw[decide_eq_false e,show(m==p.1)=false from beq_false_of_ne λq=>e q.symm]
   exact ih
theorem jp(hT:cM c K)(S:St c w H O s.heap):K.In s.heap:=hT.X.keeps S.top'
theorem q5{P:Prop}(S:St c w H O s.heap){n:Nat}{a:Addr}(ha:w.α[n]? =some a){cl dd:Nat}(e:H[n]? =some (.inst cl dd)){fs:List (NM×AV)}(ed:H[dd]? =some (.dict fs))
  (k:∀ dx es m,w.α[dd]? =some dx->(cD cl).isSome=true->s.heap.get? a=some (instObj cl dx)->s.heap.get? dx=some (Xl es m)->KRs c w fs es->fs.length<=100->InstAt s.heap a (instObj cl dx) cl (some (Xl es m))->P):P:=
 (S.at ha e).elim λr q=>q.2.elim λdx j=>(S.at j.2.2 ed).elim λr2 q2=>q2.2.elim λes j2=>j2.elim λm j2=>
  have h2:=j.1▸q.1
  have g2:=j2.1▸q2.1
  k dx es m j.2.2 j.2.1 h2 g2 j2.2.1 j2.2.2 ⟨h2,rfl,rfl,g2⟩
theorem VR.handed{v:AV}{u:UF}(h:VR c w v u)(hv:Ef v=true):handedIn u=true:=
 VR.casesOn (motive_1:=λv u _=>Ef v=true->handedIn u=true) h (λ_=>rfl) (λ_=>rfl) (λ_=>rfl) (λ_=>rfl) (λ_ _ _=>rfl) (λ_ _ _=>rfl) (λ_ _=>rfl) ft (λ_ _ _=>rfl) (λ_ _ _ _ _ _ _=>rfl) (λ_ _ _ _=>rfl) hv
theorem Ax(hF:TF c K)(S:St c w H O s.heap){n:Nat}{a:Addr}(ha:w.α[n]? =some a){cl dd:Nat}(e:H[n]? =some (.inst cl dd)){fs:List (NM×AV)}(ed:H[dd]? =some (.dict fs)){m:NM}{v:AV}(el:fs.lookup m=some v)
  (em:jg cl m=none) (ho:Ef v=true) {expr:Bool} {Q:UF->UJ->Prop} (hQ:∀ u tk,VR c w v u->Q u {s with toks:=tk}):UI (UN c.prog c.w) A (getAttr (.ref a) (UK m.txt) expr) Q E s:=
 q5 S ha e ed λdx es k _ h2 _ _ h5 _ I=>(h5.getL m).elim λo q=>(show A7 c w (some v) o from el▸q.2).elim λu z=>
  get_value (jp hF.top S) I (plainGet_of (name:=⟨#[]⟩) (hF.cls.get cl h2).1).1 (findObj_own (hF.cls.get cl h2).2 (hF.cls.fld cl m h2 em) rfl (q.1.trans (congrArg some z.1))) (z.2.handed ho) (hQ u _ z.2)
theorem oU{m:NM}(h:rc m=true):Slot "str" (UK m.txt) ("str."++m.txt)/\typeOf (.builtin ("str."++m.txt))=pure (.type "method_descriptor"):=by
 revert h
 cases m
 case join=>exact λ_=>⟨F.slot_str_join,F.type_str_join⟩
 case split=>exact λ_=>⟨X3,F.type_str_split⟩
 case lower=>exact λ_=>⟨F.slot_str_lower,F.type_str_lower⟩
 case upper=>exact λ_=>⟨F.slot_str_upper,F.type_str_upper⟩
 case count=>exact λ_=>⟨F.slot_str_count,F.type_str_count⟩
 case index=>exact λ_=>⟨F.slot_str_index,F.type_str_index⟩
 all_goals exact ft
theorem lq:Slot "re.Pattern" "search" "re.Pattern.search":=
 .of (owner:="re.Pattern") (n:="search") (by rw[WP,Wl];kernel_rfl) (by decide +kernel) (by decide +kernel) (by decide +kernel)
  (by first|exact .inl (by decide +kernel)|exact .inr (by decide +kernel)) (by rw[isSubtype_type];kernel_rfl)
theorem tO:typeOf (.builtin "re.Pattern.search")=pure (.type "method_descriptor"):=by show builtinType _=_;rw[builtinType_eq_fast];kernel_rfl
theorem vd:PlainAttrs "re.Pattern":=
 ⟨⟨"object.__getattribute__",by rw[WP,Wl];kernel_rfl,by decide +kernel⟩,by rw[WP,Wl];kernel_rfl⟩
end
section
variable {c:Cx}{K:Frag}{w:Wd}{H H':AH}{O:PH}{A:Vh}{E:UF->UJ->Prop}{s:UJ}{d:AV}{Q:UF->UJ->Prop}
theorem VRs.of_q(q:List (Str×Tok)):VRs c w ((q.map Prod.fst).map .str) (Zm q):=List.rec (motive:=λ(q:List (Str×Tok))=>VRs c w ((q.map Prod.fst).map .str) (Zm q)) .nil (λ_ _ i=>.cons .str i) q
theorem CC{x y:Str}{t u:Tok}(hy:(y.length==0)=false)(hx:x.length<=Xc)(hn:(Y0 x (Wi x y 0 x.length (x.length+1)) y.length).length<=Xc)
  (hq:∀ l tk,l.map (·.1)=YQ x y->Q (.ref s.heap.objs.size) {s with heap:=s.heap.push (U5 "list" (Zm l).toArray 0),toks:=tk}):UI (UN c.prog c.w) A (call (.builtin "str.split") [.str x t,.str y u]) Q E s:=by
 cases h1:(decide (x.length<y.length)||decide (ZI x<ZI y))
 ·cases hf:(Wi x y 0 x.length (x.length+1)).isEmpty
  ·refine XY X3 (XU _ _ _) Zs (Y7 _ _) (meets_str_split_sep x y t u h1 hy hf hx hn) ?_
   show wants Q E _ {s with toks:=_,heap:=s.heap.push {cls:=.type "list",data:=.seq (strsFrom s.toks (Y0 x (Wi x y 0 x.length (x.length+1)) y.length)).toArray}}
   rw[strsFrom_eq]
   exact hq (numbered s.toks _) _ ((numbered_texts _ _).trans ((if_neg (ne_true_of_eq_false h1)).trans (if_neg (ne_true_of_eq_false hf))).symm)
  ·exact XY X3 (XU _ _ _) Zs (Y7 _ _) (meets_str_split_not_found x y t u h1 hy hf) (hq [(x,t)] s.toks ((if_neg (ne_true_of_eq_false h1)).trans (if_pos hf)).symm)
 ·exact XY X3 (XU _ _ _) Zs (Y7 _ _) (meets_str_split_cannot_occur x y t u h1) (hq [(x,t)] s.toks (if_pos h1).symm)
theorem VRs.strs{l:List AV}{vs:List UF}(h:VRs c w l vs){ts:List Str}(e:jU l=some ts):∃ q:List (Str×Tok),vs=Zm q/\q.map (·.1)=ts:=
 h.ind (M:=λl vs=>∀ ts,jU l=some ts->∃ q:List (Str×Tok),vs=Zm q/\q.map (·.1)=ts) (λts e=>⟨[],rfl,sj e⟩)
  (λd v l vs a _ ih ts e=>gE (P:=λd=>VR c w d v->∃ q:List (Str×Tok),v::vs=Zm q/\q.map (·.1)=ts) e (λp e a=>a.k λt=>az e λr e1 e=>(ih r e1).elim λq k=>⟨(p,t)::q,congrArg _ k.1,(congrArg _ k.2).trans (sj e)⟩) a) ts e
theorem nZ{β:Type}{f:AV->Option β}{y:β}{args:List AV}{vs:List UF}{P:List UF->Prop}(e:b6 f args=some y)(hv:VRs c w args vs)(k:∀ a v,f a=some y->VR c w a v->P [v]):P vs:=
 nJ (P:=λargs=>VRs c w args vs->P vs) e (λa e hv=>hv.k λv vs h1 h2=>h2.k (k a v e h1)) hv
theorem rU{β:Type}{f:Str->Option β}{y:β}{args:List AV}{vs:List UF}{P:List UF->Prop}(e:b6 (gD f) args=some y)(hv:VRs c w args vs)(k:∀ x t,f x=some y->P [.str x t]):P vs:=
 nZ e hv λa v e h=>gE (P:=λa=>VR c w a v->P [v]) e (λx e h=>h.k λt=>k x t e) h
theorem BL{β:Type}{f:Int->Option β}{y:β}{args:List AV}{vs:List UF}{P:List UF->Prop}(e:b6 (fo f) args=some y)(hv:VRs c w args vs)(k:∀ x t,f x=some y->P [.int x t]):P vs:=
 nZ e hv λa v e h=>dR (P:=λa=>VR c w a v->P [v]) e (λx e h=>h.k λt=>k x t e) h
theorem vt{β:Type}{f:List AV->Option β}{y:β}{args:List AV}{vs:List UF}{P:List UF->Prop}(e:b6 (λv=>iD f (au H v)) args=some y)(S:St c w H O s.heap)(hv:VRs c w args vs)(k:∀ l a us n,f l=some y->s.heap.get? a=some (U5 "list" us.toArray n)->VRs c w l us->P [.ref a]):P vs:=
 nZ e hv λa v e h=>qx (P:=λa=>DR c w s.heap a v->P [v]) e (λl e h=>h.k λa us n g r=>k l a us n e g r) (h.dr S)
theorem CG{x:Str}{t:Tok}{m:NM}{args:List AV}{vs:List UF}(hm:rc m=true)(e:i6 x m args H=some d)(S:St c w H O s.heap)(hv:VRs c w args vs)(hQ:aT c w H O (Vd c d) Q s):
  UI (UN c.prog c.w) A (call (.builtin ("str."++m.txt)) (.str x t::vs)) Q E s:=by
 revert hm e
 cases m
 case join=>
  refine λ_ e=>vt (P:=λvs=>UI _ A (call (.builtin "str.join") (.str x t::vs)) Q E s) e S hv λl a us k e g r=>az e λts et e=>aJ e λhb e=>(r.strs et).elim λq z=>SC.join (l:=q) (s:=s) ⟨_,g.trans (congrArg (λus=>some (U5 "list" (WV us) k)) z.1),rfl,k,rfl⟩ rfl ?_ λt' tk=>hQ.t S (z.2▸e)
  unfold JoinOk
  rw[StrLaws.joinTotal]
  have:=sz hb
  rw[<-z.2] at this
  unfold Xc at this
  simp[ZH,Xc]
  simpa[UX,Function.comp] using this
 case split=>
  refine λ_ e=>rU (P:=λvs=>UI _ A (call (.builtin "str.split") (.str x t::vs)) Q E s) e hv λy u e=>aJ e λhb e=>CC (nt (a1 hb)) (sz (a2 hb)) ?_ λl tk hl=>hQ.frozen S rfl tk λw' l' hn=>se e (.lst hn (hl▸VRs.of_q l))
  rw[length_partsBetween]
  exact UH (Wm (UH (StrLaws.occ_length_le x y 0 x.length (x.length+1)) (WG (UG (a2 hb)))) 1) (by decide)
 case lower=>exact λ_ e=>gg (P:=λargs=>VRs c w args vs->_) e (λe hv=>hv.k (aJ e λhb e=>SC.lower (fit_lower (UH (UG hb) (by decide))) (hQ.t S e))) hv
 case upper=>exact λ_ e=>gg (P:=λargs=>VRs c w args vs->_) e (λe hv=>hv.k (aJ e λhb e=>SC.upper (fit_upper (UH (UG hb) (by decide))) (hQ.t S e))) hv
 case count=>exact λ_ e=>rU (P:=λvs=>UI _ A (call (.builtin "str.count") (.str x t::vs)) Q E s) e hv λy u e=>SC.count (hQ.i S e)
 case index=>
  refine λ_ e=>rU (P:=λvs=>UI _ A (call (.builtin "str.index") (.str x t::vs)) Q E s) e hv λy u e=>az e λi ei e=>?_
  cases eo:Wi x y 0 x.length 1 with
  |nil=>rw[eo] at ei;exact no ei
  |cons j l=>rw[eo] at ei;exact SC.index eo (hQ.i S (sj ei▸e))
 all_goals exact ft
theorem vL{n:Nat}{a:Addr}(ha:w.α[n]? =some a){l args:List AV}(el:H[n]? =some (.list l))(e:b6 (λv=>aw (aW l.length) (some (AV.none,H.set n (.list (l++[v]))))) args=some (d,H'))(S:St c w H O s.heap){vs:List UF}(hv:VRs c w args vs)(hQ:aT c w H' O (Vd c d) Q s):
  UI (UN c.prog c.w) A (call (.builtin "list.append") (.ref a::vs)) Q E s:=
 nZ (P:=λvs=>UI _ A (call (.builtin "list.append") (.ref a::vs)) Q E s) e hv λv u e g=>aJ e λhb e=>(S.at ha el).elim λr q=>q.2.elim λws z=>z.elim λk z=>
  append_at (q.1.trans (congrArg some z.1)) (λh' hs hh=>hQ.pr e w h' s.toks _ (.refl _) (S.turn ha (λb o hb e=>hs.extBut b o hb e) hh ⟨ws++[u],k+1,congrArg (λx=>U5 "list" x (k+1)) (List.push_toArray ..),z.2.append (.cons g .nil)⟩) .none)
   (show ws.length<=_ from z.2.length▸sz hb)
theorem Ep{n:Nat}{a:Addr}(ha:w.α[n]? =some a){l args:List AV}(el:H[n]? =some (.list l))(e:b6 (fo (Pa n l H)) args=some (d,H'))(S:St c w H O s.heap){vs:List UF}(hv:VRs c w args vs)(hQ:aT c w H' O (Vd c d) Q s):
  UI (UN c.prog c.w) A (call (.builtin "list.pop") (.ref a::vs)) Q E s:=
 BL (P:=λvs=>UI _ A (call (.builtin "list.pop") (.ref a::vs)) Q E s) e hv λi t e=>by
  cases l with
  |nil=>exact no e
  |cons x q=>
   refine bH e λhz e'=>(S.at ha el).elim λr j=>j.2.elim λws z=>z.elim λk z=>?_
   have h2:=j.1.trans (congrArg some z.1)
   revert h2
   refine VRs.k (P:=λws=>s.heap.get? a=some (U5 "list" ws.toArray k)->_) z.2 λv ws w1 w2 h2=>?_
   cases hz.1
   refine XY F.slot_list_pop ⟨_,h2,rfl⟩ F.entry_list_pop (F.args_list_pop_2 _ _) (MeetsSeq.list_pop_at a (v::ws).toArray k 0 t 0 v (by decide) (by simp[seqIndex?]) (by simp)
    (UH (WG (show ws.length<=1000000 from w2.length▸UG hz.2)) (by decide))) ⟨h2,?_⟩
   have hu:(s.heap.update a (VC λxs=>xs.eraseIdxIfInBounds 0)).get? a=some (U5 "list" ws.toArray (k+1)):=by
    rw[Heap.get?_update_self _ h2 rfl]
    simp[VC,U5,Array.eraseIdxIfInBounds]
   exact hQ.pr e' w _ s.toks _ (.refl _) (S.turn ha (λb o hb e=>(VV s.heap a _).extBut b o hb e) hu ⟨ws,k+1,rfl,w2⟩) w1
theorem Fp{o:Option Str}{dv:Str}{v:UF}(hv:PyProof.V.Flat v ((o.map YI).getD (.str dv))):∃ t,v= .str (o.getD dv) t:=
 Vs (motive:=λo=>PyProof.V.Flat v ((o.map YI).getD (.str dv))->∃ t,v= .str (o.getD dv) t) o (λh=>(reads_str_inv (h {})).imp λ_ q=>q.1) (λz h=>(reads_str_inv (h {})).imp λ_ q=>q.1) hv
theorem yH(hT:cM c K){args:List AV}(e:nT (λa b=>fo (λi=>gD (λdv=>some (AV.str ((flagTab.lookup i).getD dv),H)) b) a) args=some (d,H'))(S:St c w H O s.heap){vs:List UF}(hv:VRs c w args vs)(hQ:aT c w H' O (Vd c d) Q s):
  UI (UN c.prog c.w) A (call (.builtin "dict.get") (.ref 39::vs)) Q E s:=
 nU (P:=λargs=>VRs c w args vs->_) e (λa b e hv=>hv.k λv vs g1 g2=>g2.k λu us g2 g3=>g3.k<|dR (P:=λa=>VR c w a v->_) e (λi e g1=>gE (P:=λb=>VR c w b u->_) e (λdv e g2=>g1.k λt=>g2.k λt2=>
  call_get2_intTab (hT.tabs.flags.keep S.top') (dd:=.str dv) (λh=>.str dv _) λv hv=>(Fp (dv:=dv) (o:=flagTab.lookup i) ((w5 i flagTab)▸hv)).elim λt' q=>(show v=_ from q)▸(hQ.pr e).tok S .str _) g2) g1) hv
theorem eA.nk{kvs:List (Str×UF)}{P:List (Str×UF)->Prop}(h:eA c w [] kvs)(k:P []):P kvs:=(List.map_eq_nil_iff.mp h.n:kvs=[])▸k
noncomputable def KO(c:Cx)(h:Heap)(v:UF):Prop:=∃ k,(k=Keeper.frame∨k=Keeper.machine∨k=Keeper.boundFrame)/\Looks (UN c.prog c.w) h (keeperOf v) k
noncomputable def iB(r:R):Prop:=∀{a args kws H x},r.c a args kws H=some x->(gc a).isSome=true
noncomputable def kC(c:Cx)(n:Nat)(r:R):Prop:=∀{fv:AV} {args:List AV} {kws:List (NM×AV)} {H:AH} {A:Vh} {w:Wd} {O:PH} {v:UF} {vs:List UF} {kvs:List (Str×UF)},
 aG (n+1) A->VR c w fv v->VRs c w args vs->eA c w kws kvs->bw c A O w H (bj TT r fv args kws H) (call v vs kvs) (Vd c)
theorem Kn{h:Heap}{q:Addr}{o:Obj}{fd:Xf}(e:h.get? q=some o)(hd:o.data= .func fd):KO c h (.ref q):=by
 obtain⟨cl,di,da,sl⟩:=o
 dsimp only at hd
 subst hd
 exact⟨.frame,.inl rfl,(Looks.ld (part:=none) e).andThen .now⟩
theorem DJ{h:Heap}{id:String}:KO c h (.builtin id):=⟨.machine,.inr (.inl rfl),.now⟩
theorem jG(hT:TF c K){r:R}(hO:iB r){fv:AV}{v:UF}{args:List AV}{kws:List (NM×AV)}{y:AV×AH}{H1:AH}(e:bj TT r fv args kws H=some y)(S:St c w H1 O s.heap)(hv:VR c w fv v):KO c s.heap v:=by
 have XK:=jp hT.top S
 refine AV.casesOn (motive_1:=λfv=>bj TT r fv args kws H=some y->VR c w fv v->KO c s.heap v) fv no (λ_=>no) (λ_=>no) (λ_=>no) (λ_=>no) (λ_=>no) (λ_=>no) (λu e hv=>hv.k ?_)
  (λf self e hv=>hv.k λq sv h1 h2=>keeps_M (hT.fn.fn f (hO e)) _ ⟨S.keep _ _ h1,XK⟩) (λk caps e hv=>hv.k λq o la cl vs fd cc _ h2 h3 _ _ _=>Kn (S.keep _ _ h2) h3.dat) (λ_=>no) e hv
 revert e
 cases u
 case ref a=>
  refine λe=>keeps_K (hT.fn.keep a ?_) _ XK
  have e:(match cD a with
    |some i=>ah (r.c i (.loc (H.length+1)::args) kws (H++[.dict [],.inst a H.length])) λd H'=>qy (some (AV.loc (H.length+1),H')) d
    |none=>r.c a args kws H)=some y:=e
  revert e
  cases cD a with
  |some i=>exact λ_=>.inl rfl
  |none=>exact λe=>.inr (hO e)
 case builtin id=>exact λ_=>DJ
 case type id=>exact λ_=>⟨.machine,.inr (.inl rfl),.now⟩
 all_goals exact no
end
end
section
section
variable {c:Cx}{K:Frag}{w:Wd}{H H':AH}{O:PH}{A:Vh}{E:UF->UJ->Prop}{s:UJ}{d:AV}{Q:UF->UJ->Prop}{n:Nat}{r:R}{ks:Ks}{sg:Sg}{ρ:ae}{env:Env}{f:Nat}{e:Expr}
theorem pD{l:List (NM×IE)}{es:List Xn}{pos:Pos}{g:IE->Expr->Bool}(h:h9 g l es=true):(WR pos (Wa es env)).all (·.1.isSome)=true/\(WR pos (Wa es env)).any (·.1.isNone)=false:=
 C6 (P:=λ_ es=>(WR pos (Wa es env)).all (·.1.isSome)=true/\(WR pos (Wa es env)).any (·.1.isNone)=false) ⟨rfl,rfl⟩ (λ_ _ _ _ _ _ _ ih=>ih) h
theorem lA{l:List IE}{es:List Expr}{pos:Pos}{g:IE->Expr->Bool}(h:de g l es=true):(Zq pos (WQ es env)).any (·.1)=false/\(Zq pos (WQ es env)).all (λx=>!x.1)=true:=
 kI (P:=λ_ es=>(Zq pos (WQ es env)).any (·.1)=false/\(Zq pos (WQ es env)).all (λx=>!x.1)=true) ⟨rfl,rfl⟩ (λ_ _ _ _ hs _ _ ih=>(i5 (env:=env) hs).symm▸ih) h
theorem ss(hE:aF c n r)(hA:aG n A){pos:Pos}{fv:UF}{args:List IE}{kws:List (NM×IE)}{as:List Expr}{kes:List Xn}{H1 H2:AH}{ds:List AV}{kds:List (NM×AV)}
  (h1:de (ar f ks sg ρ.length) args as=true) (h2:h9 (ar f ks sg ρ.length) kws kes=true) (e1:cj r args ρ H=some (ds,H1)) (e2:jZ r kws ρ H1=some (kds,H2)) (R:ER c w O ks sg ρ env) (S:St c w H O s.heap)
  {Q:Args->UJ->Prop} (hQ:∀ w' h' tk vs kvs,w.le w'->St c w' H2 O h'->VRs c w' ds vs->eA c w' kds kvs->Q ⟨vs,kvs⟩ (aI s h' tk)):
  UI (UN c.prog c.w) A (evalArgs fv true (Zq pos (WQ as env)) (WR pos (Wa kes env))) Q E s:=by
 have hall:=(pD (env:=env) (pos:=pos) h2).1
 have body:UI (UN c.prog c.w) A (spliced (Zq pos (WQ as env))) (λvs s₁=>UI (UN c.prog c.w) A (evalAll ((WR pos (Wa kes env)).map (·.2))) (λks s₂=>Q ⟨vs,((WR pos (Wa kes env)).filterMap (·.1)).zip ks⟩ s₂) E s₁) E s:=
  j0 hE hA h1 R _ _ e1 s _ E S λw1 m1 t1 vs l1 S1 r1=>ua hE hA h2 (R.mono l1) _ _ e2 _ _ E S1 λw2 m2 t2 us l2 S2 r2=>hQ w2 m2 t2 vs _ (l1.trans l2) S2 (VRs.mono l2 r1) r2
 cases as with
 |cons x es=>exact evalArgs_kw2 hall body (i5 (by cases args with|nil=>exact ft h1|cons i l=>exact nt (a1 (a1 h1))))
 |nil=>cases args with
  |cons _ _=>exact ft h1
  |nil=>exact evalArgs_kw2_nil hall (have z:=UW (sj e1);ua hE hA h2 R _ _ e2 s _ E (z.2▸S) λw2 m2 t2 us l2 S2 r2=>hQ w2 m2 t2 [] _ l2 S2 (z.1▸.nil) r2)
theorem hY(hE:aF c n r)(hA:aG n A){pos:Pos}{fv:UF}{first:List UF}{args:List IE}{kws:List (NM×IE)}{as:List Expr}{kes:List Xn}{H1 H2:AH}{ds:List AV}{kds:List (NM×AV)}
  (h1:de (ar f ks sg ρ.length) args as=true) (h2:h9 (ar f ks sg ρ.length) kws kes=true) (e1:cj r args ρ H=some (ds,H1)) (e2:jZ r kws ρ H1=some (kds,H2)) (R:ER c w O ks sg ρ env) (S:St c w H O s.heap)
  (hQ:∀ w' h' tk vs kvs,w.le w'->St c w' H2 O h'->VRs c w' ds vs->eA c w' kds kvs->KO c h' fv/\UI (UN c.prog c.w) A (call fv (first++vs) kvs) Q E (aI s h' tk)):
  UI (UN c.prog c.w) A (callWith pos fv first (Zq pos (WQ as env)) (WR pos (Wa kes env))) Q E s:=
 callWith_of (P:=λh=>KO c h fv) (by rw[(lA (env:=env) (pos:=pos) h1).1,(pD (env:=env) (pos:=pos) h2).2];rfl) (λh p=>p) (ss hE hA h1 h2 e1 e2 R S hQ)
theorem gX{x:Expr}{name:Str}{whole:Sem UF}(h:np x=false):attributeBase x name env whole=whole:=by
 cases x<;>first|rfl|exact nomatch h
theorem lv{x:Expr}{as:List Expr}{kes:List Xn}{p:Pos}(h:wJ x=false):eval (.Call x as kes p) env=(do callWith p (<-eval x env) [] (Zq p (WQ as env)) (WR p (Wa kes env))):=by
 cases x<;>first|rfl|exact nomatch h
theorem LI(hT:TF c K)(hO:iB r)(hE:aF c n r)(hV:kC c n r)(hA1:aG (n+1) A){fe:IE}{args:List IE}{kws:List (NM×IE)}(hc:ar (f+1) ks sg ρ.length (.call fe args kws) e=true)(R:ER c w O ks sg ρ env):
  bw c A O w H (bW TT r (.call fe args kws) ρ H) (eval e env) (Vd c):=λd H' he s Q E S hQ=>
 gr (P:=λe=>UI (UN c.prog c.w) A (eval e env) Q E s) hc λx as kes p h=>(lv (nt (a1 h))).symm▸UA ((hE (a1 (a2 h)) hA1.down R).k he S λfv H1 w1 m1 t1 v he l1 S1 r1=>aP he λds H2 e2 he=>aP he λkds H3 e3 he=>
  hY (first:=[]) hE hA1.down (a1 (a2 (a2 h))) (a1 (a2 (a2 (a2 h)))) e2 e3 (R.mono l1) S1 λw2 m2 t2 vs kvs l2 S2 r2 r3=>⟨jG (s:=aI s m2 t2) hT hO he S2 (r1.mono l2),hV hA1 (r1.mono l2) r2 r3 _ _ he _ Q E S2 (hQ.after (l1.trans l2))⟩)
noncomputable def MS(c:Cx)(r:R)(A:Vh)(E:UF->UJ->Prop)(O:PH)(w:Wd)(q:RM)(o:AV)(m:NM)(f:UF)(l:List UF):Prop:=∀ w' args kws H d H' s vs kvs Q,w.le w'->eN TT r q o m args kws H=some (d,H')->St c w' H O s.heap->VRs c w' args vs->eA c w' kws kvs->
 aT c w' H' O (Vd c d) Q s->KO c s.heap f/\UI (UN c.prog c.w) A (call f (l++vs) kvs) Q E s
theorem MS.nk{q:RM}{o:AV}{m:NM}{id:String}{l:List UF}{g:List AV->AH->Option (AV×AH)}(h:∀ args kws H,eN TT r q o m args kws H=d7 (g args H) kws)
  (k:∀ w' args H d H' s vs Q,w.le w'->g args H=some (d,H')->St c w' H O s.heap->VRs c w' args vs->aT c w' H' O (Vd c d) Q s->UI (UN c.prog c.w) A (call (.builtin id) (l++vs)) Q E s):MS c r A E O w q o m (.builtin id) l:=
 λw' args kws H d H' s vs kvs Q hw e S hv hk hQ=>⟨DJ,gg (P:=λkws=>eA c w' kws kvs->_) (((h args kws H).symm.trans e:d7 (g args H) kws=some (d,H'))) (λe hk=>hk.nk (P:=λkvs=>UI _ A (call (.builtin id) (l++vs) kvs) Q E s) (k w' args H d H' s vs Q hw e S hv hQ)) hk⟩
theorem BV(hT:TF c K)(hO:iB r)(hV:kC c n r)(hC:mS c n r)(hA:aG (n+1) A){o:AV}{m:NM}{q:RM}(e:fc TT o m H=some q)(S:St c w H O s.heap){vo:UF}(ho:VR c w o vo){pl:Sem Bool}{Q:UF×List UF->UJ->Prop}
  (hQ:∀ f l tk,MS c r A E O w q o m f l->Q (f,l) {s with toks:=tk}):UI (UN c.prog c.w) A (getMethod vo (UK m.txt) pl) Q E s:=by
 refine AV.casesOn (motive_1:=λo=>fc TT o m H=some q->VR c w o vo->(∀ f l tk,MS c r A E O w q o m f l->Q (f,l) {s with toks:=tk})->UI (UN c.prog c.w) A (getMethod vo (UK m.txt) pl) Q E s) o no (λ_=>no) (λ_=>no)
  (λx e ho hQ=>ho.k λt=>aJ e λhm e=>?_) (λ_=>no) (λ_=>no) (λi e ho hQ=>ho.k λa ha=>az e λx el e=>?_) (λu e ho hQ=>ho.k<|sa (P:=λu=>(∀ f l tk,MS c r A E O w q (.g u) m f l->Q (f,l) {s with toks:=tk})->UI (UN c.prog c.w) A (getMethod u (UK m.txt) pl) Q E s) e (λa e hQ=>?_) hQ) (λ_ _=>no) (λ_ _=>no) (λ_=>no) e ho hQ
 ·exact XW (XU _ _ _) F.plainAttrs_str (oU hm).1 (oU hm).2 (λ_ e=>nomatch e) (hQ _ _ s.toks (se (P:=λq=>MS c r A E O w q (.str x) m _ _) e
   (MS.nk (λ_ _ _=>rfl) λw' args H d H' s vs Q hw e S hv hQ=>az e λy e1 e=>CG hm e1 S hv (hQ.pr e))))
 ·revert el e
  refine AO.casesOn (motive:=λx=>H[i]? =some x->Cp TT m i H x=some q->UI (UN c.prog c.w) A (getMethod (.ref a) (UK m.txt) pl) Q E s) x (λl el e=>?_) (λcl dd el e=>az e λy ed e=>oZ (P:=λy=>H[dd]? =some y->_) e (λfs e ed=>?_) ed) (λ_ _=>no) (λ_ _ _=>no) (λ_ _ _=>no) (λ_=>no) (λ_ _=>no)
  ·obtain⟨r0,h2,vs,k,rfl,_⟩:=S.at ha el
   have hd:∀ b,Yx a= .ref b->∃ o,s.heap.get? b=some o/\o.dict=none:=λb q=>Xd q▸⟨_,h2,rfl⟩
   have ms:∀{id:String} {m':NM},(∀ w' args H d H' s vs l Q,w.le w'->H[i]? =some (.list l)->vr i m' args H l=some (d,H')->St c w' H O s.heap->VRs c w' args vs->aT c w' H' O (Vd c d) Q s->UI (UN c.prog c.w) A (call (.builtin id) (.ref a::vs)) Q E s)->MS c r A E O w (.list i) (.loc i) m' (.builtin id) [.ref a]:=
    λk=>MS.nk (λ_ _ _=>rfl) λw' args H d H' s vs Q hw e S hv hQ=>az e λo el e=>hJ (P:=λo=>H[i]? =some o->_) e (λl e el=>k w' args H d H' s vs l Q hw el e S hv hQ) el
   revert e hQ
   cases m
   case append=>exact λhQ e=>XW ⟨_,h2,rfl⟩ F.plainAttrs_list F.slot_list_append F.type_list_append hd (hQ _ _ s.toks (se (P:=λq=>MS c r A E O w q (.loc i) .append _ _) e (ms λw' args H d H' s vs l Q hw el e S hv hQ=>vL (hw.at ha) el e S hv hQ)))
   case pop=>exact λhQ e=>XW ⟨_,h2,rfl⟩ F.plainAttrs_list F.slot_list_pop F.type_list_pop hd (hQ _ _ s.toks (se (P:=λq=>MS c r A E O w q (.loc i) .pop _ _) e (ms λw' args H d H' s vs l Q hw el e S hv hQ=>Ep (hw.at ha) el e S hv hQ)))
   all_goals exact λ_=>no
  ·refine q5 S ha el ed λdx es k _ h2 _ _ h5 _ I=>?_
   have g:=hT.cls.get cl h2
   have g':=plainGet_of (name:=⟨#[]⟩) g.1
   unfold I6 at e
   obtain⟨o,o1,o2⟩:=h5.getL m
   revert e o2
   cases hl:fs.lookup m with
   |none=>
    exact λe o2=>az e λf' e2 e=>method_fn (jp hT.top S) I g'.1 g'.2 (hT.cls.meth cl m f' e2).1 (beq_iff_eq.mp (hT.cls.meth cl m f' e2).2) (by show(lookIn _ (Xl es k)).map _=_;rw[lookIn_dict,o1,(show o=none from o2)];rfl)
     (hQ _ _ s.toks (se (P:=λq=>MS c r A E O w q (.loc i) m _ _) e λw' args kws H d H' s vs kvs Q hw e S hv hk hQ=>
      ⟨keeps_K (hT.fn.keep _ (.inr (hO e))) _ (jp hT.top S),hC hA.down (.cons (.loc (hw.at ha)) hv) hk _ _ e s Q E S hQ⟩))
   |some v=>
    exact λe _=>aJ e λk' e=>method_usual (jp hT.top S) I g'.1 g'.2 (hT.cls.fld cl m h2 (Vm.mp (a2 k'))) rfl (Ax hT S ha el ed hl (Vm.mp (a2 k')) (a1 k') λu tk hu=>
     hQ u [] tk (se (P:=λq=>MS c r A E O w q (.loc i) m _ _) e λw' args kws H d H' s vs kvs Q hw e S hv hk hQ=>⟨jG hT hO e S (hu.mono hw),hV hA (hu.mono hw) hv hk _ _ e s Q E S hQ⟩))
 ·have rx:∀ k:Bool,a=(if k then 154 else 159)->(∀ f l tk,MS c r A E O w (.rx k) (.g (.ref a)) .search f l->Q (f,l) {s with toks:=tk})->UI (UN c.prog c.w) A (getMethod (.ref a) (UK NM.search.txt) pl) Q E s:=λk h hQ=>by
   cases h
   obtain⟨o,a1,a2,a3⟩:=hT.rx.at_ k
   have a4:=S.top' _ _ a1
   exact XW ⟨_,a4,a2⟩ vd lq tO (λ_ e=>Xd e▸⟨_,a4,a3⟩) (hQ _ _ s.toks (MS.nk (λ_ _ _=>rfl) λw' args H d H' s vs Q hw e S hv hQ=>
    rU (P:=λvs=>UI _ A (call (.builtin "re.Pattern.search") (.ref (if k then 154 else 159)::vs)) Q E s) e hv λx t e=>aJ e λhx e=>hT.rx.call _ A E Q s x _ S.top' hx ((hQ.pr e).here S .none)))
  revert e hQ
  cases m
  case get=>exact λe hQ=>bH e λh e=>h▸getMethod_intTab_get (hT.top.tabs.flags.keep (h':=s.heap) S.top') (hQ _ _ s.toks (se (P:=λq=>MS c r A E O w q _ _ _ _) e (MS.nk (λ_ _ _=>rfl) λw' args H d H' s vs Q hw e S hv hQ=>yH hT.top e S hv hQ)))
  case search=>exact λe hQ=>
   if h:a=154 then rx true h (sj ((if_pos h).symm.trans e)▸hQ) else bH ((if_neg h).symm.trans e) λh2 e=>rx false h2 (sj e▸hQ)
  all_goals exact λe _=>no e
theorem JX{as:List Expr}{kes:List Xn}{p:Pos}{args:List IE}{kws:List (NM×IE)}(h2:de (ar f ks sg ρ.length) args as=true)(h3:h9 (ar f ks sg ρ.length) kws kes=true)(h4:as.length+kes.length<20):
  methodCallForm (as.length+kes.length) (Zq p (WQ as env)) (WR p (Wa kes env))=true:=by
 unfold methodCallForm
 rw[(lA (env:=env) (pos:=p) h2).2,(pD (env:=env) (pos:=p) h3).1]
 simp only[Bool.true_and,decide_eq_true_eq]
 split<;>omega
theorem LM(hT:TF c K)(hO:iB r)(hE:aF c n r)(hV:kC c n r)(hC:mS c n r)(hA1:aG (n+1) A){o:IE}{m:NM}{args:List IE}{kws:List (NM×IE)}(hc:ar (f+1) ks sg ρ.length (.meth o m args kws) e=true)(R:ER c w O ks sg ρ env):
  bw c A O w H (bW TT r (.meth o m args kws) ρ H) (eval e env) (Vd c):=λd H' he s Q E S hQ=>
 gr (P:=λe=>UI (UN c.prog c.w) A (eval e env) Q E s) hc λfe as kes p h=>jM (P:=λfe=>UI (UN c.prog c.w) A (eval (.Call fe as kes p) env) Q E s) h λx y ap h=>bq (P:=λy=>UI _ A (eval (.Call (.Attribute x y ap) as kes p) env) Q E s) (a1 (a2 h))<|by
  have h3:=a2 (a2 h)
  have h5:=a2 (a2 (a2 h3))
  have hpos:methodCallPos true x env ap p=pure p:=if_pos (show(true&&(ap.endLine==p.line))=true from a1 h3)
  rw[arm_eval_Call,gX (nt (a1 h))]
  unfold methodCall
  rw[JX (p:=p) (env:=env) (a1 (a2 (a2 h3))) (a1 h5) (of_decide_eq_true (a2 h5))]
  exact UA ((hE (a1 (a2 h3)) hA1.down R).k he S λov H1 w1 m1 t1 v he l1 S1 r1=>az he λq eq he=>aP he λds H2 e2 he=>aP he λkds H3 e3 he=>UA (Vp (UA (U9
   (BV (s:=aI s m1 t1) hT hO hV hC hA1 eq S1 r1 λfv first tk hm=>UA (X7 hpos (hY hE hA1.down (a1 (a2 (a2 h3))) (a1 h5) e2 e3 (R.mono l1) S1 λw2 m2 t2 vs kvs l2 S2 r2 r3=>
    hm w2 ds kds H3 d H' (aI s m2 t2) vs kvs Q l2 he S2 r2 r3 (hQ.after (l1.trans l2)))))))))
theorem BE{cl:Addr}{od:Obj}{name:Str}{f:UF}{g:UF}(hh:hasDictIn K cl=true)(hf:XX K (.ref cl) name=some (some f))(hg:specialIn K f "__get__" =some (some g))(ht:takesIn K f=some false)(hc:copiedNames.contains name=false)
  (hl:lookIn name od=some none):findObj K cl (some od) name=some (.bind g f):=by
 obtain⟨cd,hc',hd⟩:=any_some hh
 unfold findObj
 have ho:W.ownOf cd (some od) name=some none:=by unfold W.ownOf;rw[if_pos hd];exact hl
 rw[hc',YX,hf,YX]
 simp only[hg,YX,ht,ho,hc,Bool.false_and,Vq,if_false]
theorem qA(hF:TF c K){o:AV}{m:NM}{expr:Bool}{vo:UF}(e:Bh TT o m H=some d)(S:St c w H O s.heap)(ho:VR c w o vo)(hQ:aT c w H O (Vd c d) Q s):
  UI (UN c.prog c.w) A (getAttr vo (UK m.txt) expr) Q E s:=
 jd (P:=λo=>VR c w o vo->_) e (λi e ho=>ho.k λa ha=>az e λx el e=>lB (P:=λx=>H[i]? =some x->_) e (λcl dd e el=>az e λy ed e=>oZ (P:=λy=>H[dd]? =some y->_) e (λfs e ed=>by
  have e:Bg TT (.loc i) m cl fs=some d:=e
  unfold Bg at e
  revert e
  cases hl:fs.lookup m with
  |some v=>exact λe=>aJ e λk e=>Ax hF S ha el ed hl (Vm.mp (a2 k)) (a1 k) λu tk hu=>hQ.tok S (sj e▸hu) tk
  |none=>
    refine λe=>az e λg e2 e=>q5 S ha el ed λdx es k _ h2 _ _ h5 _ I=>?_
    have g':=plainGet_of (name:=⟨#[]⟩) (hF.cls.get cl h2).1
    obtain⟨b1,b2,b3⟩:=hF.cls.bnd cl m g e2
    obtain⟨o,o1,o2⟩:=h5.getL m
    have X:=jp hF.top S
    exact get_bind X I g'.1 (BE (hF.cls.get cl h2).2 (hF.cls.meth cl m g e2).1 b1 b2 b3 ((lookIn_dict ..).trans (o1.trans (congrArg some (show A7 c w none o from hl▸o2))))) g'.2
     (wpAny_call (fn_get (s:={s with toks:=s.toks+1}) X (beq_iff_eq.mp (hF.cls.meth cl m g e2).2) (handed_on rfl (hQ.frozen S (o:=methodObj (.ref g) (.ref a)) rfl (s.toks+1) λw' l hn=>se e (.bm hn (.loc (l.at ha)))))))) ed) el) ho
theorem LH(hT:TF c K)(hE:aF c n r)(hA:aG n A){o:IE}{m:NM}(hc:ar (f+1) ks sg ρ.length (.attr o m) e=true)(R:ER c w O ks sg ρ env):bw c A O w H (bW TT r (.attr o m) ρ H) (eval e env) (Vd c):=λd H' he s Q E S hQ=>
 jM (P:=λe=>UI (UN c.prog c.w) A (eval e env) Q E s) hc λx y p h=>bq (P:=λy=>UI _ A (eval (.Attribute x y p) env) Q E s) (a1 (a2 h))<|by
  rw[arm_eval_Attribute,gX (nt (a1 h))]
  exact UA ((hE (a2 (a2 h)) hA R).k he S λov H1 w1 m1 t1 v he l1 S1 r1=>az he λy e2 he=>UA (Vp (UA (U9
   (Vg (Q:=Q) (qA (s:=aI s m1 t1) hT e2 S1 r1 ((hQ.pr he).after l1)) (λr s1 h=>UA (wpAny_letTemporaryGo (UE h))) λ_ _ z=>z)))))
end
end
section
noncomputable def un(O OF:PH):PH:=λa=>(OF a).or (O a)
theorem bc{O OF:PH}{a:Addr}{o:Obj}(h:OF a=some o):un O OF a=some o:=congrArg (·.or (O a)) h
theorem bU{O OF:PH}{a:Addr}(h:OF a=none):un O OF a=O a:=congrArg (·.or (O a)) h
theorem TV{O OF:PH}{a:Addr}{o:Obj}{P:Prop}(h:un O OF a=some o)(f:OF a=some o->P)(g:OF a=none->O a=some o->P):P:=
 if q:OF a=none then g q ((bU q).symm.trans h) else(Option.ne_none_iff_exists'.mp q).elim λx e=>f (e.trans ((bc e).symm.trans h))
structure FS(c:Cx)(w:Wd)(O OF:PH)(ks:Ks)(sg:Sg)(ρ:ae)(env:Env):Prop where
 er:ER c w (un O OF) ks sg ρ env
 dis:∀ a o,OF a=some o->O a=none
 loc:∃ o m,OF env.locals=some o/\qr o m
 own:∀ x,env.kindOf x=some .cell->ks.lookup x=some .cell->∃ v,eR OF env x v
 inj:∀ x y a o,env.cells.lookup x=some a->env.cells.lookup y=some a->OF a=some o->x=y
 six:∀ x y i,cZ ks x=true->sg.lookup x=some i->sg.lookup y=some i->x=y
 cel:∀ x a,env.cells.lookup x=some a->∃ o v,(un O OF a=some o∨w.G a=some o)/\o.data= .cell v
section
variable {c:Cx}{K:Frag}{w w':Wd}{H H':AH}{O OF OF':PH}{A:Vh}{E:UF->UJ->Prop}{s:UJ}{d:AV}{n:Nat}{r:R}{ks:Ks}{sg:Sg}{ρ ρ':ae}{env:Env}{f:Nat}{h h':Heap}
theorem FS.mono(F:FS c w O OF ks sg ρ env)(l:w.le w'):FS c w' O OF ks sg ρ env:=
 {F with er:=F.er.mono l,cel:=λx a e=>(F.cel x a e).imp λo=>.imp λv=>.imp_left (.imp_right (l.g _ _))}
theorem St.drop(S:St c w H (un O OF) h)(hd:∀ a o,OF a=some o->O a=none):St c w H O h:=
 {S with
  own:=λa o e=>S.own a o ((bU (UQ.mpr λx q=>no ((hd a x q).symm.trans e))).trans e)
  obj:=λi o e=>(S.obj i o e).imp λa=>.imp λr k=>⟨k.1,k.2.1,k.2.2.1,k.2.2.2.1,UQ.mpr λx q=>no (k.2.2.2.2.symm.trans ((bU (UQ.mpr λy z=>no ((hd a y z).symm.trans q))).trans q))⟩}
def AZ(OF:PH)(a:Addr)(o:Obj):PH:=A9 OF a o
theorem rY{a b:Addr}{o:Obj}(h:b≠a):un O (AZ OF a o) b=un O OF b:=congrArg (·.or (O b)) (b9 _ _ h)
theorem oy{a:Addr}{o:Obj}:un O (AZ OF a o) a=some o:=bc (jX _ _ _)
theorem St.reown(S:St c w H (un O OF) h){a:Addr}{o o':Obj}(ha:OF a=some o)(hs:∀ b x,b≠a->h.get? b=some x->h'.get? b=some x)(hn:h'.get? a=some o'):St c w H (un O (AZ OF a o')) h':=
 have g:=(S.own a o (bc ha)).2
 {S with
  keep:=λb x e=>hs b x (gO g e) (S.keep _ _ e)
  own:=λb x e=>if q:b=a then q▸⟨hn.trans (oy.symm.trans (q▸e)),g⟩ else(S.own _ _ ((rY q).symm.trans e)).imp_left (hs b x q)
  obj:=λi x e=>(S.obj i x e).imp λb=>.imp λr k=>
   have q:b≠a:=λq=>no (k.2.2.2.2.symm.trans (q▸bc ha))
   ⟨k.1,hs b r q k.2.1,k.2.2.1,k.2.2.2.1,(rY q).trans k.2.2.2.2⟩}
theorem sH(R:ER c w O ks sg ρ env){x:Str}(h:cZ ks x=true):(ks.lookup x=some .local/\env.kindOf x=some .local)∨(ks.lookup x=some .cell/\env.kindOf x=some .cell):=by
 have k:=R.kd x
 unfold cZ at h
 split at h
 ·rename_i e;exact .inl ⟨e,(k _ e nofun).elim id λq=>nomatch q.1⟩
 ·rename_i e;exact .inr ⟨e,(k _ e nofun).elim id λq=>q.2⟩
 ·exact ft h
theorem oG{i:Nat}{v:AV}(h:i<ρ.length):(c6 ρ i v)[i]? =some (some v):=List.getElem?_set_self h
theorem iI{i j:Nat}{v:AV}(h:i≠j):(c6 ρ i v)[j]? =ρ[j]? :=List.getElem?_set_ne h
theorem FS.put(F:FS c w O OF ks sg ρ env){x:Str}{i:Nat}(hs:sg.lookup x=some i)(hk:cZ ks x=true){v:UF}(hv:VR c w d v)(dom:∀ b o',OF' b=some o'->∃ o,OF b=some o)(rx:vh (un O OF') env x v)
  (ry:∀ y u,y≠x->vh (un O OF) env y u->vh (un O OF') env y u) (loc:∃ o m,OF' env.locals=some o/\qr o m) (cel:∀ y b o v,env.cells.lookup y=some b->OF b=some o->o.data= .cell v->∃ o' v',OF' b=some o'/\o'.data= .cell v'):FS c w O OF' ks sg (c6 ρ i d) env:=
 have hi:=F.er.bnd x i hs
 have cu:∀ y b o v,env.cells.lookup y=some b->un O OF b=some o->o.data= .cell v->∃ o' v',un O OF' b=some o'/\o'.data= .cell v':=λy b o v e h q=>
  TV h (λh=>(cel y b o v e h q).imp λo'=>.imp λv'=>.imp_left bc) λh k=>⟨o,v,(bU (UQ.mpr λz j=>(dom b z j).elim λ_ j=>no (h.symm.trans j))).trans k,q⟩
 {F with
  er:={F.er with
   rd:=λy j e hy hs1 hj=>if q:i=j then
     have q2:x=y:=F.six x y j hk (q▸hs) hy
     ⟨v,(show d=e from sj (sj ((oG hi).symm.trans (q.symm▸hj))))▸hv,q2▸rx⟩
    else(F.er.rd y j e hy hs1 ((iI q).symm.trans hj)).imp λu=>.imp_right (ry y u λz=>q (sj (hs.symm.trans (z▸hy))))
   fz:=λy j hy hk'=>(F.er.fz y j hy hk').imp_right λk=>k.imp λv q=>⟨q.1,λe he=>q.2 e ((iI λz=>by
    have z2:=F.six x y j hk (z▸hs) hy
    unfold cZ at hk
    rw[z2,hk'] at hk
    exact ft hk).symm.trans he)⟩
   cl:=λy j hy hs1 hk'=>(F.er.cl y j hy hs1 hk').elim λv k=>k.elim λb k=>k.elim λo k=>(cu y b o v k.1 k.2.1 k.2.2).elim λo' q=>q.elim λv' q=>⟨v',b,o',k.1,q⟩
   bnd:=λy j hy=>Nat.lt_of_lt_of_eq (F.er.bnd y j hy) Wo.symm}
  dis:=λa y e=>(dom a y e).elim λo k=>F.dis a o k
  loc:=loc
  own:=λy hy hy'=>(F.own y hy hy').elim λv k=>k.elim λb k=>k.elim λo k=>(cel y b o v k.1 k.2.1 k.2.2).elim λo' q=>q.elim λv' q=>⟨v',b,o',k.1,q⟩
  inj:=λx' y' b o e1 e2 e3=>(dom b o e3).elim λo' k=>F.inj x' y' b o' e1 e2 k
  cel:=λy b hy=>(F.cel y b hy).elim λo k=>k.elim λv k=>k.1.elim (λq=>(cu y b o v hy q k.2).imp λo'=>.imp λv'=>.imp_left .inl) λq=>⟨o,v,.inr q,k.2⟩}
theorem s9{o:Obj}{m:Str->Option UF}{v:Option UF}{P:Prop}(h:qr o m)(k:o.data= .cell v):P:=h.elim λes q=>q.elim λep q=>Data.noConfusion (q.1.symm.trans k)
theorem Qx{o:Obj}{m m':Str->Option UF}(h:qr o m)(k:qr o m')(y:Str):m y=m' y:=
 h.elim λes q=>q.elim λep q=>k.elim λes' j=>j.elim λep' j=>(q.2.2 y).symm.trans ((congrArg (nsFind · y) (Data.dict.inj (q.1.symm.trans j.1)).1).trans (j.2.2 y))
theorem EP{a:Addr}{o o':Obj}(ha:OF a=some o)(b:Addr)(x:Obj)(h:AZ OF a o' b=some x):∃ o,OF b=some o:=if q:b=a then⟨o,q▸ha⟩ else⟨x,(b9 _ _ q).symm.trans h⟩
theorem d8(F:FS c w O OF ks sg ρ env){x:Str}{i:Nat}(hs:sg.lookup x=some i)(hk:cZ ks x=true)(S:St c w H (un O OF) s.heap){v:UF}(hv:VR c w d v){Q:Unit->UJ->Prop}
  (hQ:∀ OF' h' tk,FS c w O OF' ks sg (c6 ρ i d) env->St c w H (un O OF') h'->Q () (aI s h' tk)):UI (UN c.prog c.w) A (storeName env x v) Q E s:=by
 obtain⟨oL,mL,hL,nL⟩:=F.loc
 rcases sH F.er hk with⟨k1,k2⟩|⟨k1,k2⟩
 ·obtain⟨es,ep,h1,h2,h3⟩:=id nL
  refine wpAny_storeName_local k2 ⟨oL,es,ep,(S.own _ _ (bc hL)).1,h1,h2,h3⟩ (λh' hn hsame=>?_) (by rw[F.er.fk];rfl)
  obtain⟨o',es',ep',g1,g2,g3,g4⟩:=hn
  have N:qr o' (λy=>if y=x then some v else mL y):=⟨es',ep',g2,g3,g4⟩
  have cl:∀{b o v0},un O OF b=some o->o.data= .cell v0->b≠env.locals:=λ{b o v0} e k q=>s9 (m:=mL) (sj ((bc hL).symm.trans (q▸e))▸nL) k
  exact hQ (AZ OF env.locals o') h' _ (F.put hs hk hv (EP hL) (.inl ⟨k2,o',_,oy,N,if_pos rfl⟩)
   (λy u q r=>r.elim (λr=>.inl ⟨r.1,r.2.elim λo1 k=>k.elim λm1 k=>⟨o',_,oy,N,(if_neg q).trans ((Qx nL (sj (k.1.symm.trans (bc hL))▸k.2.1) y).trans k.2.2)⟩⟩)
    λr=>.inr ⟨r.1,Wj (λb=>Wj λo k=>⟨k.1,(rY (cl k.2.1 k.2.2)).trans k.2.1,k.2.2⟩) r.2⟩)
   ⟨o',_,jX _ _ _,N⟩ λy b o v0 _ e k=>⟨o,v0,(b9 _ _ (cl (bc e) k)).trans e,k⟩) (S.reown hL (λb y q e=>hsame.extBut b y q e) g1)
 ·obtain⟨v0,a,o,r1,ho,r3⟩:=F.own x k2 k1
  refine wpAny_storeName_cell F.er.fk k2 r1 ⟨o,(S.own _ _ (bc ho)).1,r3⟩ (λh' hn hsame=>?_)
  obtain⟨o',g1,g2⟩:=hn
  have aL:env.locals≠a:=λz=>s9 (m:=mL) (sj (hL.symm.trans (z▸ho))▸nL) r3
  exact hQ (AZ OF a o') h' s.toks (F.put hs hk hv (EP ho) (.inr ⟨.inl k2,a,o',r1,oy,g2⟩)
   (λy u q r=>r.elim (λr=>.inl ⟨r.1,r.2.imp λo1=>.imp λm1 k=>⟨(rY aL).trans k.1,k.2⟩⟩)
    λr=>.inr ⟨r.1,Wj (λb=>Wj λo1 k=>⟨k.1,(rY (a:=a) (b:=b) λz=>q (F.inj y x b o k.1 (z▸r1) (z▸ho))).trans k.2.1,k.2.2⟩) r.2⟩)
   ⟨oL,mL,(b9 _ _ aL).trans hL,nL⟩ λy b o1 v1 hb e k=>if q:b=a then⟨o',_,q▸jX _ _ _,g2⟩ else⟨o1,v1,(b9 _ _ q).trans e,k⟩) (S.reown ho (λb y q e=>hsame.extBut b y q e) g1)
noncomputable def b8(h:Heap)(wr:List Addr):PH:=λa=>if a∈wr then h.get? a else none
structure gu(w:Wd)(O OF:PH)(h:Heap)(a:Addr):Prop where
 g:w.G a=none
 o:O a=none
 f:OF a=none
 m:a∉w.α
 i:∃ o,h.get? a=some o
noncomputable def aR(w:Wd)(O OF:PH)(wr:List Addr)(h:Heap):Prop:=∀ a∈wr,gu w O OF h a
variable {wr:List Addr}
theorem jj{a:Addr}(hm:a∈wr):b8 h wr a=h.get? a:=if_pos hm
theorem jS{a:Addr}(hm:a∉wr):b8 h wr a=none:=if_neg hm
theorem gp{a:Addr}(hm:a∉wr):un (un O (b8 h wr)) OF a=un O OF a:=congrArg (λ(x:Option Obj)=>(OF a).or (x.or (O a))) (jS (h:=h) hm)
theorem zr{a:Addr}(hm:a∈wr)(hf:OF a=none){o:Obj}(e:h.get? a=some o):un (un O (b8 h wr)) OF a=some o:=(bU hf).trans (bc ((jj hm).trans e))
theorem St.hold(S:St c w H (un O OF) h)(hA:aR w O OF wr h):St c w H (un (un O (b8 h wr)) OF) h:=
 {S with
  own:=λa o e=>if q:a∈wr then(hA a q).i.elim λo' k=>⟨k.trans ((zr q (hA a q).f k).symm.trans e),(hA a q).g⟩ else S.own a o ((gp q).symm.trans e)
  obj:=λi x e=>(S.obj i x e).imp λb=>.imp λr k=>⟨k.1,k.2.1,k.2.2.1,k.2.2.2.1,(gp λq=>(hA b q).m (VM k.1)).trans k.2.2.2.2⟩}
theorem FS.hold(F:FS c w O OF ks sg ρ env)(hA:aR w O OF wr h):FS c w (un O (b8 h wr)) OF ks sg ρ env:=
 have same:∀ a o,un O OF a=some o->un (un O (b8 h wr)) OF a=some o:=λa o e=>(gp λq=>no ((hA a q).o.symm.trans ((bU (hA a q).f).symm.trans e))).trans e
 {F with
  er:=F.er.sub λa o _=>same a o
  dis:=λa o e=>(bU (jS λq=>no ((hA a q).f.symm.trans e))).trans (F.dis a o e)
  cel:=λx a hx=>(F.cel x a hx).imp λo=>.imp λv=>.imp_left (.imp_left (same a o))}
theorem FS.unsnap(F:FS c w (un O (b8 h wr)) OF ks sg ρ env){a:Addr}{o:Obj}(e:OF a=some o):O a=none/\b8 h wr a=none:=
 have k:=F.dis a o e
 have z:b8 h wr a=none:=UQ.mpr λx q=>no (k.symm.trans (bc q))
 ⟨(bU z).symm.trans k,z⟩
theorem FS.unhold(F0:FS c w O OF ks sg ρ env)(hA:aR w O OF wr h)(F:FS c w' (un O (b8 h wr)) OF' ks sg ρ' env):FS c w' O OF' ks sg ρ' env:=
 have out:∀ x a,env.cells.lookup x=some a->a∉wr:=λx a hx q=>(F0.cel x a hx).elim λo k=>k.elim λv k=>k.1.elim (λe=>no ((hA a q).o.symm.trans ((bU (hA a q).f).symm.trans e))) λe=>no ((hA a q).g.symm.trans e)
 {F with
  er:=F.er.sub λa o z e=>z.elim (λz=>F.loc.elim λoL k=>k.elim λmL k=>z▸(bc k.1).trans ((bc k.1).symm.trans (z▸e))) λz=>z.elim λx z=>(gp (out x a z)).symm.trans e
  dis:=λa o e=>(F.unsnap e).1
  cel:=λx a hx=>(F.cel x a hx).imp λo=>.imp λv=>.imp_left (.imp_left (gp (out x a hx)).symm.trans)}
theorem St.unhold(S:St c w' H (un (un O (b8 h wr)) OF') h')(hA:aR w O OF wr h)(F:FS c w' (un O (b8 h wr)) OF' ks sg ρ' env):
  St c w' H (un O OF') h'/\aR w' O OF' wr h'/\(∀ a∈wr,h'.get? a=h.get? a):=
 have non:∀ a∈wr,OF' a=none:=λa q=>UQ.mpr λx e=>(hA a q).i.elim λo k=>no ((F.unsnap e).2.symm.trans ((jj q).trans k))
 have big:∀ a∈wr,∀ o,h.get? a=some o->un (un O (b8 h wr)) OF' a=some o:=λa q o e=>zr q (non a q) e
 ⟨{S with
   own:=λa o e=>S.own a o ((gp λq=>no ((hA a q).o.symm.trans ((bU (non a q)).symm.trans e))).trans e)
   obj:=λi x e=>(S.obj i x e).imp λb=>.imp λr k=>⟨k.1,k.2.1,k.2.2.1,k.2.2.2.1,(gp λq=>(hA b q).i.elim λo g=>no (k.2.2.2.2.symm.trans (big b q o g))).symm.trans k.2.2.2.2⟩},
  λa q=>(hA a q).i.elim λo k=>have b:=big a q o k;⟨(S.own a o b).2,(hA a q).o,non a q,λm=>(List.getElem?_of_mem m).elim λi hi=>(S.alpha hi).elim λ_ j=>j.elim λ_ j=>no (j.2.2.2.2.symm.trans b),o,(S.own a o b).1⟩,
  λa q=>(hA a q).i.elim λo k=>(S.own a o (big a q o k)).1.trans k.symm⟩
end
end
section
section
variable {c:Cx}{K:Frag}{w w':Wd}{H H':AH}{O OF OF':PH}{A:Vh}{E:UF->UJ->Prop}{s:UJ}{d:AV}{n:Nat}{r:R}{ks:Ks}{sg:Sg}{ρ ρ':ae}{env:Env}{f:Nat}{wr:List Addr}{h h':Heap}
theorem tY{it t:Addr}{items:Array UF}(hne:t≠it):∀(n i:Nat) (s:UJ) (Q:List UF->UJ->Prop),s.heap.IsListIter it t i->s.heap.IsList t items->i+n<=items.size->
  (∀ h',h'.IsListIter it t (i+n)->Heap.SameBut it s.heap h'->Q ((items.toList.drop i).take n) {s with heap:=h'})->UI (UN c.prog c.w) A (draw (.ref it) n) Q E s
 |0,i,s,Q,hit,_,_,hQ=>UE (ZL▸hQ s.heap hit (Heap.SameBut.refl ..))
 |n+1,i,s,Q,hit,ht,hle,hQ=>by
  have hlt:i<items.size:=U7 (XA (Zb n)) hle
  show UI _ _ (pyNext (.ref it)>>=_) Q E s
  refine UA (wpAny_pyNext_list_item hit ht (x:=items[i]) (Array.getElem?_eq_getElem hlt) λh₁ hit₁ hs₁=>?_)
  refine UA (U9 (tY hne n (i+1) _ _ hit₁ (ht.extBut hs₁.extBut hne) (Vy i n 1▸hle) λh₂ hit₂ hs₂=>UE ?_))
  have:=hQ h₂ (by rw[show i+(n+1)=i+1+n from(Vy i 1 n).symm▸rfl];exact hit₂) (hs₁.trans hs₂)
  rw[VQ (show i<items.toList.length from hlt),List.take_succ_cons] at this
  exact this
theorem qk{t:Addr}{items:Array UF}{Q:List UF->UJ->Prop}(hh:A.handled=none)(ht:s.heap.IsList t items)
  (hQ:∀ h',VL s.heap.objs.size s.heap h'->Q items.toList {s with heap:=h'}):UI (UN c.prog c.w) A (unpackItems (.ref t) items.size none) Q E s:=by
 have hlt:t≠s.heap.objs.size:=ht.elim λo k=>V0 (Vz k.1)
 unfold unpackItems notIterableAtAll
 refine UA (UA (WO ht.typeIs F.slot_list_iter.lookup (UE ?_)))
 simp only[Vq,if_false]
 refine UA (U9 (XS ht ?_))
 refine UA (U9 (tY hlt items.size 0 _ _ ⟨_,Heap.get?_push_size _ rfl,rfl,rfl⟩ (ht.push _) (Vv (Wf _)) λh₁ hit₁ hs₁=>?_))
 rw[show List.take items.size (List.drop 0 items.toList)=items.toList from List.take_length,if_neg (show ¬items.toList.length<items.size from Nat.lt_irrefl _)]
 refine UA (U9 (wpAny_pyNext_list_end hh hit₁ ((ht.push _).extBut hs₁.extBut hlt) (Array.getElem?_eq_none (Vv (Wf _).symm)) λh₂ he₂=>?_))
 simp only[W7,Vq,if_false]
 exact UE (hQ h₂ λb o hb e=>he₂ b o hb (hs₁.extBut b o hb (Heap.get?_push_of_some _ e)))
theorem Dh(S:St c w H O h)(e:VL h.objs.size h h'):St c w H O h':=S.keeps λb o q=>e b o (V0 (Vz q)) q
theorem qz(hh:A.handled=none)(F:FS c w O OF ks sg ρ env){x y:Str}{px py pt:Pos}{k:Nat}{i j:Nat}(h1:sg.lookup x=some i)(h2:sg.lookup y=some j)(k1:cZ ks x=true)(k2:cZ ks y=true)
  (S:St c w H (un O OF) s.heap) {t:Addr} {a b:UF} {da db:AV} (ht:s.heap.IsTuple t #[a,b]∨s.heap.IsList t #[a,b]) (ha:VR c w da a) (hb:VR c w db b) {Q:Unit->UJ->Prop}
  (hQ:∀ OF' h' tk,FS c w O OF' ks sg (c6 (c6 ρ i da) j db) env->St c w H (un O OF') h'->Q () (aI s h' tk)):UI (UN c.prog c.w) A (WM (.Tuple [.Name x px,.Name y py] k pt) env (.ref t)) Q E s:=
 have rest:∀ h',VL s.heap.objs.size s.heap h'->UI (UN c.prog c.w) A (Zr [λv=>WM (.Name x px) env v,λv=>WM (.Name y py) env v] [a,b]) Q E {s with heap:=h'}:=λh' he=>
  assignInOrder_cons (XT (d8 F h1 k1 (Dh S he) ha λOF1 h1' tk1 F1 S1=>assignInOrder_cons (XT (d8 F1 h2 k2 S1 hb λOF2 h2' tk2 F2 S2=>assignInOrder_nil (hQ OF2 h2' tk2 F2 S2)))))
 arm_assign_Tuple ..▸UA (Vp (show UI _ _ (VW [Yx t] (unpackItems (.ref t) 2 none)>>=λitems=>Zr [λv=>WM (.Name x px) env v,λv=>WM (.Name y py) env v] items) Q E s from UA (U9
  (ht.elim (λht=>wpAny_unpackItems_tuple (items:=#[a,b]) (Q:=λitems s'=>UI (UN c.prog c.w) A (Zr [λv=>WM (.Name x px) env v,λv=>WM (.Name y py) env v] items) Q E s') hh ht rest)
   λht=>qk (items:=#[a,b]) (Q:=λitems s'=>UI (UN c.prog c.w) A (Zr [λv=>WM (.Name x px) env v,λv=>WM (.Name y py) env v] items) Q E s') hh ht rest))))
theorem mX(hh:A.handled=none)(F:FS c w O OF ks sg ρ env){t:bD}{te:Expr}(hc:iW ks sg t te=true)(hb:be t d ρ=some ρ')(S:St c w H (un O OF) s.heap){v:UF}(hv:VR c w d v){Q:Unit->UJ->Prop}
  (hQ:∀ OF' h' tk,FS c w O OF' ks sg ρ' env->St c w H (un O OF') h'->Q () (aI s h' tk)):UI (UN c.prog c.w) A (WM te env v) Q E s:=
 qI (P:=λt te=>be t d ρ=some ρ'->UI (UN c.prog c.w) A (WM te env v) Q E s) hc (λi x p h1 hk hb=>XT (d8 F h1 hk S hv λOF' h' tk F'=>hQ OF' h' tk (sj hb▸F')))
  (λi j x y px py k p h1 h2 k1 k2 hb=>az hb λl el hb=>nU (P:=λl=>Cy d=some l->_) hb (λa b hb el=>by
   have go:∀{t:Addr} {vs:List UF},(s.heap.IsTuple t vs.toArray∨s.heap.IsList t vs.toArray)->VRs c w [a,b] vs->UI (UN c.prog c.w) A (WM (.Tuple [.Name x px,.Name y py] k p) env (.ref t)) Q E s:=λ{t vs} ht r=>by
    revert ht
    exact r.k (P:=λvs=>(s.heap.IsTuple t vs.toArray∨s.heap.IsList t vs.toArray)->_) λu us g1 r=>r.k (P:=λus=>(s.heap.IsTuple t (u::us).toArray∨s.heap.IsList t (u::us).toArray)->_) λu2 us g2 r=>r.k (P:=λus=>(s.heap.IsTuple t (u::u2::us).toArray∨s.heap.IsList t (u::u2::us).toArray)->_) λht=>
     qz hh F h1 h2 k1 k2 S ht g1 g2 λOF' h' tk F'=>hQ OF' h' tk (sj hb▸F')
   exact AV.casesOn (motive_1:=λd=>Cy d=some [a,b]->VR c w d v->UI (UN c.prog c.w) A (WM (.Tuple [.Name x px,.Name y py] k p) env v) Q E s) d no (λ_=>no) (λ_=>no) (λ_=>no)
    (λl el hv=>hv.k λt vs m g r=>go (.inl ⟨_,S.keep _ _ g,rfl,m,rfl⟩) (sj el▸r)) (λl el hv=>hv.k λt vs m g r=>go (.inr ⟨_,S.keep _ _ g,rfl,m,rfl⟩) (sj el▸r)) (λ_=>no) (λ_=>no) (λ_ _=>no) (λ_ _=>no) (λ_=>no) el hv) el) hb
noncomputable def rI:List String:=["enumerate","zip","dict_itemiterator","dict_reverseitemiterator","odict_iterator","itertools.zip_longest","itertools.pairwise"]
noncomputable def kB(h:Heap)(I:Addr):Prop:=∃ o n,h.get? I=some o/\o.cls= .type n/\rI.contains n=false
noncomputable def ZS(c:Cx)(w:Wd)(a:aB)(l:Addr)(k:Nat):Prop:=match a with
 | .items rem=>∃(vs:List UF) (m:Nat),w.G l=some (U5 "list" vs.toArray m)/\VRs c w rem (vs.drop k)
 | .locl n k'=>w.α[n]? =some l/\k'=k
 |_=>False
structure A8(c:Cx)(w:Wd)(I:Addr)(fp:List Addr)(n:Nat)(P:Nat->UF->Prop)(T:Nat->Heap->Prop)(i:Nat)(rem:List AV)(h:Heap):Prop where
 ws:∀ A:Vh,A.handled=none->Walks c.prog c.w A I fp [I] n P T
 st:T i h
 pl:∀ j h,T j h->kB h I
 fz:∀ b∈fp,b=I∨∃ o,w.G b=some o
 len:i+rem.length=n
 val:∀ j v d,P (i+j) v->rem[j]? =some d->VR c w d v
structure A5(c:Cx)(w:Wd)(e it:Addr)(fp:List Addr)(n:Nat)(P:Nat->UF->Prop)(T:Nat->Heap->Prop)(i:Nat)(old:UF)(rem:List AV)(h:Heap):Prop where
 dr:∀ A:Vh,A.handled=none->Draws c.prog c.w A it fp n P T
 ne:e≠it
 nf:e∉fp
 mf:it∈fp
 en:IsEnum h e it i old
 st:T i h
 fz:∀ b∈fp,b=it∨∃ o,w.G b=some o
 len:i+rem.length=n
 val:∀ j v d,P (i+j) v->rem[j]? =some d->∃ x,d= .tup [.int (i+j:Nat),x]/\VR c w x v
structure Lr(c:Cx)(w:Wd)(a b:aB)(z TI TO i1 i2 l1 l2:Addr)(k:Nat)(u v:UF)(h:Heap):Prop where
 ap:ZipApart z TI TO i1 i2 l1 l2
 z:IsZip h z TI TO .none
 ti:IsPair h TI (.ref i1) (.ref i2)
 to:IsPair h TO u v
 w1:h.IsListIter i1 l1 k
 w2:h.IsListIter i2 l2 k
 a:ZS c w a l1 k
 b:ZS c w b l2 k
noncomputable def eG(c:Cx)(w:Wd)(src:aB)(it:UF)(wr:List Addr)(h:Heap):Prop:=match src with
 | .items rem=>∃ I fp n P T i,(it= .ref I/\wr=[I])/\A8 c w I fp n P T i rem h
 | .locl n k=>∃ I a,(it= .ref I/\wr=[I])/\w.α[n]? =some a/\h.IsListIter I a k
 | .pairs rem=>∃ e j fp n P T i old,(it= .ref e/\wr=[e,j])/\A5 c w e j fp n P T i old rem h
 | .zip a b=>∃ z TI TO i1 i2 l1 l2 k u v,(it= .ref z/\wr=[z,TI,TO,i1,i2])/\Lr c w a b z TI TO i1 i2 l1 l2 k u v h
 | .cit n=>∃ a,(it= .ref a/\wr=[])/\w.α[n]? =some a
theorem ZS.mono(l:w.le w'){a:aB}{t:Addr}{k:Nat}:ZS c w a t k->ZS c w' a t k:=
 aB.casesOn (motive:=λa=>ZS c w a t k->ZS c w' a t k) a (λ_=>.imp λ_=>.imp λ_=>.imp (l.g _ _) (·.mono l)) (λ_=>X2) (λ_ _=>.imp_left l.at) (λ_ _=>X2) (λ_=>X2)
theorem eG.mono(l:w.le w'){src:aB}{it:UF}:eG c w src it wr h->eG c w' src it wr h:=
 aB.casesOn (motive:=λsrc=>eG c w src it wr h->eG c w' src it wr h) src
  (λ_=>.imp λ_=>.imp λ_=>.imp λ_=>.imp λ_=>.imp λ_=>.imp λ_=>.imp_right λI=>{I with fz:=λb hb=>(I.fz b hb).imp_right (.imp λ_=>l.g _ _),val:=λj v d p q=>(I.val j v d p q).mono l})
  (λ_=>.imp λ_=>.imp λ_=>.imp λ_=>.imp λ_=>.imp λ_=>.imp λ_=>.imp λ_=>.imp λ_=>.imp_right λI=>{I with fz:=λb hb=>(I.fz b hb).imp_right (.imp λ_=>l.g _ _),val:=λj v d p q=>(I.val j v d p q).imp λ_=>.imp_right (·.mono l)})
  (λ_ _=>.imp λ_=>.imp λ_=>.imp_right (.imp_left l.at))
  (λ_ _=>.imp λ_=>.imp λ_=>.imp λ_=>.imp λ_=>.imp λ_=>.imp λ_=>.imp λ_=>.imp λ_=>.imp λ_=>.imp λ_=>.imp_right λI=>{I with a:=I.a.mono l,b:=I.b.mono l})
  (λ_=>.imp λ_=>.imp_right l.at)
theorem m0{α:Type}{a:α}{l:List α}:a∈a::l:=.head _
theorem m1{α:Type}{a b:α}{l:List α}(h:a∈l):a∈b::l:=.tail _ h
theorem pA{I a:Addr}{k:Nat}(h1:h.IsListIter I a k)(e:h'.get? I=h.get? I):h'.IsListIter I a k:=h1.imp λo=>.imp_left e.trans
theorem eG.keep{src:aB}{it:UF}(I:eG c w src it wr h)(hw:∀ a∈wr,h'.get? a=h.get? a)(hg:∀ a o,w.G a=some o->h.get? a=some o/\h'.get? a=some o):eG c w src it wr h':=
 have fz:∀{fp:List Addr} {j:Addr},j∈wr->(∀ b∈fp,b=j∨∃ o,w.G b=some o)->∀ b∈fp,∀ o,h.get? b=some o->h'.get? b=some o:=λhj k b hb o e=>(k b hb).elim (λq=>(hw b (q▸hj)).trans e) λq=>q.elim λo' q=>(hg b o' q).2.trans ((hg b o' q).1.symm.trans e)
 aB.casesOn (motive:=λsrc=>eG c w src it wr h->eG c w src it wr h') src
  (λ_=>.imp λI=>.imp λfp=>.imp λ_=>.imp λ_=>.imp λ_=>.imp λi k=>⟨k.1,{k.2 with st:=(k.2.ws {} rfl).frame i _ _ k.2.st (fz (k.1.2▸m0) k.2.fz)}⟩)
  (λ_=>.imp λI=>.imp λj=>.imp λfp=>.imp λ_=>.imp λ_=>.imp λ_=>.imp λi=>.imp λ_ k=>⟨k.1,{k.2 with en:=(hw I (k.1.2▸m0)).trans k.2.en,st:=(k.2.dr {} rfl).frame i _ _ k.2.st (fz (k.1.2▸m1 m0) k.2.fz)}⟩)
  (λ_ _=>.imp λI=>.imp λ_ k=>⟨k.1,k.2.1,pA k.2.2 (hw _ (k.1.2▸m0))⟩)
  (λ_ _=>.imp λz=>.imp λTI=>.imp λTO=>.imp λi1=>.imp λi2=>.imp λ_=>.imp λ_=>.imp λ_=>.imp λ_=>.imp λ_ k=>⟨k.1,{k.2 with z:=(hw z (k.1.2▸m0)).trans k.2.z,ti:=(hw TI (k.1.2▸m1 m0)).trans k.2.ti,to:=(hw TO (k.1.2▸m1 (m1 m0))).trans k.2.to,w1:=pA k.2.w1 (hw i1 (k.1.2▸m1 (m1 (m1 m0)))),w2:=pA k.2.w2 (hw i2 (k.1.2▸m1 (m1 (m1 (m1 m0)))))}⟩)
  (λ_ k=>k) I
theorem St.keepsBut(S:St c w H (un O OF) h)(hA:aR w O OF wr h)(k:∀ b o,b∉wr->h.get? b=some o->h'.get? b=some o):St c w H (un O OF) h':=
 {S with
  keep:=λa o e=>k a o (λq=>no ((hA a q).g.symm.trans e)) (S.keep _ _ e)
  own:=λa o e=>(S.own _ _ e).imp_left (k a o λq=>no ((hA a q).o.symm.trans ((bU (hA a q).f).symm.trans e)))
  obj:=λi x e=>(S.obj i x e).imp λb=>.imp λr j=>⟨j.1,k b r (λq=>(hA b q).m (VM j.1)) j.2.1,j.2.2⟩}
theorem aR.to(hA:aR w O OF wr h)(hl:∀ a∈wr,∃ o,h'.get? a=some o):aR w O OF wr h':=λa q=>{hA a q with i:=hl a q}
theorem qX{p:Sem Unit}{Q:Unit->UJ->Prop}(F:FS c w O OF ks sg ρ env)(S:St c w H (un O OF) s.heap)(hA:aR w O OF wr s.heap)
  (hQ:∀ OF' h' tk,FS c w O OF' ks sg ρ' env->St c w H (un O OF') h'->aR w O OF' wr h'->(∀ a∈wr,h'.get? a=s.heap.get? a)->Q () (aI s h' tk))
  (k:FS c w (un O (b8 s.heap wr)) OF ks sg ρ env->St c w H (un (un O (b8 s.heap wr)) OF) s.heap->(∀ OF' h' tk,FS c w (un O (b8 s.heap wr)) OF' ks sg ρ' env->St c w H (un (un O (b8 s.heap wr)) OF') h'->Q () (aI s h' tk))->UI (UN c.prog c.w) A p Q E s):UI (UN c.prog c.w) A p Q E s:=
 k (F.hold hA) (S.hold hA) λOF' h' tk F' S'=>have z:=S'.unhold hA F';hQ OF' h' tk (F.unhold hA F') z.1 z.2.1 z.2.2
theorem oM{te:Expr}{I:Addr}{v:UF}{Q:Unit->UJ->Prop}(hp:kB s.heap I)(h:Q () s):UI (UN c.prog c.w) A (Yv te (.ref I) v) Q E s:=by
 have body:UI (UN c.prog c.w) A (do
   let(.ref r,.ref a):=((Yx I,v):UF×UF)|return
   let o <-load r
   match o.cls,o.data with
   | .type n,.fields vs=>
    if["enumerate","zip","dict_itemiterator","dict_reverseitemiterator","odict_iterator","itertools.zip_longest","itertools.pairwise"].contains n&&vs[0]? ==some (rawInt a) then
     rule "for.unpacks-the-owned-tuple"
     updateField r 0 .none
   |_,_=>pure ()) Q E s:=by
  cases v with
  |ref a=>
   obtain⟨o,n,h1,h2,h3⟩:=hp
   refine UA (wpAny_load h1 ?_)
   obtain⟨cl,di,da,sl⟩:=o
   dsimp only at h2
   subst h2
   cases da<;>try exact UE h
   show UI _ _ (if(rI.contains n&&_)=true then _ else pure ()) _ _ _
   rw[h3]
   exact UE h
  |_=>exact UE h
 cases te<;>first|exact UE h|exact body
end
end
section
noncomputable def g9(c:Cx)(A:Vh)(E:UF->UJ->Prop)(te:Expr)(env:Env)(it:UF)(N B:UJ->Prop)(s:UJ):Prop:=
 UI (UN c.prog c.w) A (pyNext it) (λr s₁=>match r with
  |none=>N s₁
  |some v=>UI (UN c.prog c.w) A (Yv te it v) (λ_ s₁'=>UI (UN c.prog c.w) A (WM te env v) (λ_ s₂=>B s₂) E s₁') E s₁) E s
noncomputable def Cd(c:Cx)(res:Option (AV×aB))(w:Wd)(v:Option UF):Prop:=match res with
 |none=>v=none
 |some p=>∃ u,v=some u/\VR c w p.1 u
noncomputable def cW(c:Cx)(n:Nat)(r:R):Prop:=∀{k:Nat} {H:AH} {A:Vh} {w:Wd} {O:PH} {a:Addr},aG (n+1) A->w.α[k]? =some a->bw c A O w H (aX TT r (.cit k) H) (pyNext (.ref a)) (Cd c)
section
variable {c:Cx}{K:Frag}{w w':Wd}{H H':AH}{O OF OF':PH}{A:Vh}{E:UF->UJ->Prop}{s:UJ}{d:AV}{n:Nat}{r:R}{ks:Ks}{sg:Sg}{ρ ρ':ae}{env:Env}{f:Nat}{wr:List Addr}{h h':Heap}
theorem k8{I a:Addr}{k:Nat}(h1:h.IsListIter I a k):kB h I:=h1.imp λo q=>⟨_,q.1,q.2.1,rfl⟩
theorem Le{x:AV}{l:List AV}{vs:List UF}{k:Nat}(hv:VRs c w (x::l) (vs.drop k)):∃ v,vs[k]? =some v/\VR c w x v/\VRs c w l (vs.drop (k+1)):=
 have e1:(vs.drop k)[0]? =vs[k]? :=(List.getElem?_drop ..).trans rfl
 have e2:(vs.drop k).drop 1=vs.drop (k+1):=Yl ..
 VRs.k (P:=λl'=>l'[0]? =vs[k]? ->l'.drop 1=vs.drop (k+1)->∃ v,vs[k]? =some v/\VR c w x v/\VRs c w l (vs.drop (k+1))) hv (λv us a b e1 e2=>⟨v,e1.symm,a,e2▸b⟩) e1 e2
theorem Pz{vs:List UF}{k:Nat}(hv:VRs c w [] (vs.drop k)):vs[k]? =none:=List.getElem?_eq_none (Nat.le_of_sub_eq_zero ((XG ..).symm.trans hv.length))
theorem z8{l:List AV}{vs:List UF}{k:Nat}(hv:VRs c w l vs)(e:l[k]? =none):vs[k]? =none:=List.getElem?_eq_none (hv.length.symm▸List.getElem?_eq_none_iff.mp e)
noncomputable def Zd(c:Cx)(w:Wd)(l:Addr)(k:Nat)(vs:List UF)(res:Option (AV×aB)):Prop:=match res with
 |none=>vs[k]? =none
 |some p=>(∃ v,vs[k]? =some v/\VR c w p.1 v)/\ZS c w p.2 l (k+1)
theorem ZS.now(S:St c w H O h){a:aB}{l:Addr}{k:Nat}(z:ZS c w a l k){res:Option (AV×aB)}(e:aX TT r a H=some (res,H')):H'=H/\∃ vs:List UF,h.IsList l vs.toArray/\Zd c w l k vs res:=
 aB.casesOn (motive:=λa=>ZS c w a l k->aX TT r a H=some (res,H')->H'=H/\∃ vs:List UF,h.IsList l vs.toArray/\Zd c w l k vs res) a
  (λrem z e=>have e:=UW (sj e);⟨e.2.symm,z.imp λvs z=>z.elim λm z=>⟨⟨_,S.keep _ _ z.1,rfl,m,rfl⟩,e.1▸Vk (motive:=λrem=>VRs c w rem (vs.drop k)->Zd c w l k vs ((fY rem).map λx=>(x.1,.items x.2))) rem Pz
   (λx rem q=>(Le q).elim λv q=>⟨⟨v,q.1,q.2.1⟩,vs,m,z.1,q.2.2⟩) z.2⟩⟩) (λ_=>X2)
  (λn k' z e=>az e λo el e=>hJ (P:=λo=>H[n]? =some o->_) e (λlst e el=>have e:=UW (sj e);⟨e.2.symm,(S.at z.1 el).elim λr q=>q.2.imp λws j=>j.elim λm j=>
   ⟨⟨_,q.1.trans (congrArg some j.1),rfl,m,rfl⟩,e.1▸z.2▸Vs (motive:=λx=>lst[k']? =x->Zd c w l k' ws (x.map λv=>(v,.locl n (k'+1)))) lst[k']? (z8 j.2) (λx ex=>⟨j.2.get ex,z.1,rfl⟩) rfl⟩⟩) el) (λ_ _=>X2) (λ_=>X2) z e
noncomputable def PN(c:Cx)(w:Wd)(H':AH)(O OF:PH)(ks:Ks)(sg:Sg)(ρ:ae)(env:Env)(s:UJ)(N:UJ->Prop):Prop:=∀ w' h' tk,w.le w'->FS c w' O OF ks sg ρ env->St c w' H' (un O OF) h'->N (aI s h' tk)
noncomputable def PB(c:Cx)(w:Wd)(H':AH)(O:PH)(ks:Ks)(sg:Sg)(ρ:ae)(env:Env)(wr:List Addr)(t:bD)(it:UF)(s:UJ)(B:UJ->Prop)(v:AV)(src':aB):Prop:=
 ∃ ρ',be t v ρ=some ρ'/\∀ w' OF' h' tk,w.le w'->FS c w' O OF' ks sg ρ' env->St c w' H' (un O OF') h'->eG c w' src' it wr h'->aR w' O OF' wr h'->B (aI s h' tk)
structure PR(c:Cx)(n:Nat)(A:Vh)(w:Wd)(H H':AH)(O OF:PH)(ks:Ks)(sg:Sg)(ρ:ae)(env:Env)(wr:List Addr)(t:bD)(te:Expr)(it:UF)(s:UJ)(N B:UJ->Prop)(res:Option (AV×aB)):Prop where
 hA:aG (n+1) A
 F:FS c w O OF ks sg ρ env
 S:St c w H (un O OF) s.heap
 hP:aR w O OF wr s.heap
 hc:iW ks sg t te=true
 hN:res=none->PN c w H' O OF ks sg ρ env s N
 hB:∀ v src',res=some (v,src')->PB c w H' O ks sg ρ env wr t it s B v src'
section turn
variable {t:bD}{te:Expr}{it:UF}{N B:UJ->Prop}{res:Option (AV×aB)}
theorem PR.over(p:PR c n A w H H O OF ks sg ρ env wr t te it s N B none){h':Heap}{tk:Nat}(k:∀ b o,b∉wr->s.heap.get? b=some o->h'.get? b=some o):N (aI s h' tk):=
 p.hN rfl w h' tk (.refl _) p.F (p.S.keepsBut p.hP k)
theorem PR.bind{v:AV}{src':aB}(p:PR c n A w H H O OF ks sg ρ env wr t te it s N B (some (v,src'))){h1:Heap}{tk:Nat}{u:UF}(k1:∀ b o,b∉wr->s.heap.get? b=some o->h1.get? b=some o)
  (k2:∀ a∈wr,∃ o,h1.get? a=some o) (hI:eG c w src' it wr h1) (hv:∀ w',w'.G=w.G->w'.α=w.α->VR c w' v u):UI (UN c.prog c.w) A (WM te env u) (λ_ s₂=>B s₂) E (aI s h1 tk):=
 have S1:=p.S.keepsBut p.hP k1
 (p.hB v src' rfl).elim λρ' k=>qX (s:=aI s h1 tk) p.F S1 (p.hP.to k2) (λOF' h' tk F' S' A' z=>k.2 w OF' h' tk (.refl _) F' S' (hI.keep z λa o e=>⟨S1.keep _ _ e,S'.keep _ _ e⟩) A')
  λF S hQ=>mX (Q:=λ_ s₂=>B s₂) p.hA.hd F p.hc k.1 S (hv w rfl rfl) hQ
theorem PR.take{I':Addr}{v:AV}{src':aB}(p:PR c n A w H H O OF ks sg ρ env wr t te (.ref I') s N B (some (v,src'))){h1:Heap}{tk:Nat}{u:UF}(k1:∀ b o,b∉wr->s.heap.get? b=some o->h1.get? b=some o)
  (k2:∀ a∈wr,∃ o,h1.get? a=some o) (k3:kB h1 I') (hI:eG c w src' (.ref I') wr h1) (hv:VR c w v u):
  UI (UN c.prog c.w) A (Yv te (.ref I') u) (λ_ s₁'=>UI (UN c.prog c.w) A (WM te env u) (λ_ s₂=>B s₂) E s₁') E (aI s h1 tk):=
 oM (s:=aI s h1 tk) k3 (p.bind k1 k2 hI λ_ a b=>hv.mono ⟨a▸yZ.refl _,b▸XE _⟩)
theorem PR.pair{da db:AV}{src':aB}(p:PR c n A w H H O OF ks sg ρ env wr t te it s N B (some (.tup [da,db],src')))(ht:gf t=false){h2:Heap}{tk:Nat}(k1:∀ b o,b∉wr->s.heap.get? b=some o->h2.get? b=some o)(k2:∀ a∈wr,∃ o,h2.get? a=some o)
  {T:Addr} {a b:UF} (hT:h2.IsTuple T #[a,b]) (ha:VR c w da a) (hb:VR c w db b) (hI:eG c w src' it wr h2):UI (UN c.prog c.w) A (WM te env (.ref T)) (λ_ s₂=>B s₂) E (aI s h2 tk):=
 have S1:=p.S.keepsBut p.hP k1
 (p.hB _ _ rfl).elim λρ' k=>qX (s:=aI s h2 tk) p.F S1 (p.hP.to k2) (λOF' h' tk F' S' A' z=>k.2 w OF' h' tk (.refl _) F' S' (hI.keep z λa o e=>⟨S1.keep _ _ e,S'.keep _ _ e⟩) A')
  λF S hQ=>qI (P:=λt te=>gf t=false->be t (.tup [da,db]) ρ=some ρ'->UI (UN c.prog c.w) A (WM te env (.ref T)) (λ_ s₂=>B s₂) E (aI s h2 tk)) p.hc (λ_ _ _ _ _ h=>ft h.symm)
   (λi j x y px py kk pt t1 t2 q1 q2 _ eb=>qz p.hA.hd F t1 t2 q1 q2 S (.inl hT) ha hb λOF' h' tk F'=>hQ OF' h' tk (sj eb▸F')) ht k.1
theorem fy{I a:Addr}{P:Prop}(h:a∈[I])(k:a=I->P):P:=k (US.mp h)
theorem Et{I:Addr}{fp:List Addr}{m:Nat}{P:Nat->UF->Prop}{T:Nat->Heap->Prop}{i:Nat}{rem:List AV}(I':A8 c w I fp m P T i rem s.heap)(p:PR c n A w H H O OF ks sg ρ env [I] t te (.ref I) s N B ((fY rem).map λx=>(x.1,.items x.2))):g9 c A E te env (.ref I) N B s:=
 have W:=I'.ws A p.hA.hd
 Vk (motive:=λrem=>A8 c w I fp m P T i rem s.heap->PR c n A w H H O OF ks sg ρ env [I] t te (.ref I) s N B ((fY rem).map λx=>(x.1,.items x.2))->g9 c A E te env (.ref I) N B s) rem (λI' p=>W.done s _ _ (I'.len▸I'.st) λh' tk k=>p.over k)
  (λx rem I' p=>have len:i+(rem.length+1)=m:=I'.len
   W.item i s _ _ (len▸XA (Zb _)) I'.st λv h' tk hPv hS k=>p.take k (λa q=>fy q λq=>q▸(I'.pl _ _ hS).imp λo q=>q.elim λ_ q=>q.1) (I'.pl _ _ hS)
    ⟨I,fp,m,P,T,i+1,⟨rfl,rfl⟩,{I' with st:=hS,len:=(Vy i 1 rem.length).trans len,val:=λj u e' p' q=>I'.val (j+1) u e' ((Vy i 1 j:i+1+j=i+(j+1))▸p') q}⟩ (I'.val 0 v x hPv rfl)) I' p
theorem Es{I a:Addr}{m k:Nat}{l:List AV}(el:H[m]? =some (.list l))(h1:w.α[m]? =some a)(h2:s.heap.IsListIter I a k)(p:PR c n A w H H O OF ks sg ρ env [I] t te (.ref I) s N B ((l[k]?).map λv=>(v,.locl m (k+1)))):g9 c A E te env (.ref I) N B s:=
 (p.S.at h1 el).elim λro q=>q.2.elim λvs j=>j.elim λmm j=>
  have hl:s.heap.IsList a vs.toArray:=⟨_,q.1.trans (congrArg some j.1),rfl,mm,rfl⟩
  have one:∀{b:Addr},b∉[I]->b≠I:=λhb q=>hb (q▸.head _)
  Vs (motive:=λx=>l[k]? =x->PR c n A w H H O OF ks sg ρ env [I] t te (.ref I) s N B (x.map λv=>(v,.locl m (k+1)))->g9 c A E te env (.ref I) N B s) l[k]?
   (λev p=>wpAny_pyNext_list_end p.hA.hd h2 hl ((List.getElem?_toArray ..).trans (z8 j.2 ev)) λh' hs=>p.over (tk:=s.toks) λb o hb e=>hs b o (one hb) e)
   (λv ev p=>(j.2.get ev).elim λu z=>wpAny_pyNext_list_item h2 hl (x:=u) ((List.getElem?_toArray ..).trans z.1) λh' hit hs=>p.take (tk:=s.toks) (λb o hb e=>hs.extBut b o (one hb) e) (λa q=>fy q λq=>q▸hit.imp λo q=>q.1) (k8 hit) ⟨I,a,⟨rfl,rfl⟩,h1,hit⟩ z.2) rfl p
theorem EO{P:bD->Expr->Prop}(hc:iW ks sg t te=true)(ht:gf t=false)(k:∀ i j x y px py n p,P (.many [i,j]) (.Tuple [.Name x px,.Name y py] n p)):P t te:=
 qI (P:=λt te=>gf t=false->P t te) hc (λ_ _ _ _ _ h=>ft h.symm) (λi j x y px py n p _ _ _ _ _=>k i j x y px py n p) ht
theorem Er{e' it':Addr}{fp:List Addr}{m:Nat}{P:Nat->UF->Prop}{T:Nat->Heap->Prop}{i:Nat}{rem:List AV}{old:UF}(ht:gf t=false)(I':A5 c w e' it' fp m P T i old rem s.heap)
  (p:PR c n A w H H O OF ks sg ρ env [e',it'] t te (.ref e') s N B ((fY rem).map λx=>(x.1,.pairs x.2))):g9 c A E te env (.ref e') N B s:=by
 refine EO (P:=λt te=>gf t=false->PR c n A w H H O OF ks sg ρ env [e',it'] t te (.ref e') s N B ((fY rem).map λx=>(x.1,.pairs x.2))->g9 c A E te env (.ref e') N B s) p.hc ht (λti tj x y px py nn pp ht p=>?_) ht p
 have W:=WalksT.enumerateD (I'.dr A.in1 p.hA.hd) e' I'.ne I'.nf I'.mf
 refine Vk (motive:=λrem=>A5 c w e' it' fp m P T i old rem s.heap->PR c n A w H H O OF ks sg ρ env [e',it'] (.many [ti,tj]) (.Tuple [.Name x px,.Name y py] nn pp) (.ref e') s N B ((fY rem).map λx=>(x.1,.pairs x.2))->g9 c A E (.Tuple [.Name x px,.Name y py] nn pp) env (.ref e') N B s) rem
  (λI' p=>W.done s _ _ ⟨⟨old,(show i=m from I'.len)▸I'.en⟩,(show i=m from I'.len)▸I'.st⟩ λh' tk k=>p.over k) (λz rem I' p=>?_) I' p
 have len:i+(rem.length+1)=m:=I'.len
 refine W.item i s _ _ (len▸XA (Zb _)) ⟨⟨old,I'.en⟩,I'.st⟩ λTp vals h' tk hPv hT hTup hM k=>?_
 obtain⟨tt,xv,hPx,rfl⟩:=hPv
 obtain⟨w1,q,w2⟩:=I'.val 0 xv z hPx rfl
 have hap:=W.apart _ _ _ hM
 refine W.go _ _ _ _ _ _ _ _ hM λh2' hS2 kb=>?_
 obtain⟨⟨old2,hS2a⟩,hS2b⟩:=hS2
 exact(show PR c n A w H H O OF ks sg ρ env [e',it'] (.many [ti,tj]) (.Tuple [.Name x px,.Name y py] nn pp) (.ref e') s N B (some (.tup [.int (i+0:Nat),w1],.pairs rem)) from q▸p).pair ht (λb o hb e=>kb b o hb (k b o hb e))
  (λa q=>(U0.mp q).elim (λq=>q▸⟨_,hS2a⟩) λq=>fy q λq=>q▸(I'.dr {} rfl).live _ _ hS2b) (hTup.imp λo=>.imp_left (kb _ _ hap)) .int w2
  ⟨e',it',fp,m,P,T,i+1,old2,⟨rfl,rfl⟩,{I' with en:=hS2a,st:=hS2b,len:=(Vy i 1 rem.length).trans len,val:=λj u e'' p' q=>(Vy i 1 j:i+1+j=i+(j+1))▸I'.val (j+1) u e'' ((Vy i 1 j:i+1+j=i+(j+1))▸p') q}⟩
theorem Ii{a b:aB}{z TI TO i1 i2 l1 l2:Addr}{k:Nat}{u v:UF}(ht:gf t=false)(e:aX TT r (.zip a b) H=some (res,H'))(I':Lr c w a b z TI TO i1 i2 l1 l2 k u v s.heap)(p:PR c n A w H H' O OF ks sg ρ env [z,TI,TO,i1,i2] t te (.ref z) s N B res):g9 c A E te env (.ref z) N B s:=by
 have keep4:∀{h':Heap},(∀ c o,c≠z->c≠TO->c≠i1->c≠i2->s.heap.get? c=some o->h'.get? c=some o)->∀ b o,b∉[z,TI,TO,i1,i2]->s.heap.get? b=some o->h'.get? b=some o:=λq b o hb e=>
  q b o (λw=>hb (w▸m0)) (λw=>hb (w▸m1 (m1 m0))) (λw=>hb (w▸m1 (m1 (m1 m0)))) (λw=>hb (w▸m1 (m1 (m1 (m1 m0))))) e
 refine EO (P:=λt te=>gf t=false->PR c n A w H H' O OF ks sg ρ env [z,TI,TO,i1,i2] t te (.ref z) s N B res->g9 c A E te env (.ref z) N B s) p.hc ht (λti tj x y px py nn pp ht p=>?_) ht p
 refine aP e λra Ha ea e'=>aP e' λrb Hb eb e'=>?_
 obtain⟨q,xs,hxs,qa⟩:=I'.a.now p.S ea
 obtain⟨q',ys,hys,qb⟩:=I'.b.now p.S (q▸eb)
 have e':=UW (sj e')
 have p:PR c n A w H H O OF ks sg ρ env [z,TI,TO,i1,i2] (.many [ti,tj]) (.Tuple [.Name x px,.Name y py] nn pp) (.ref z) s N B (CU ra rb):=e'.1▸(e'.2.symm.trans q')▸p
 have h1:=I'.ap
 revert p qa qb
 cases ra with
 |none=>exact λqa _ p=>wpAny_pyNext_zip_end p.hA.hd h1 I'.z I'.ti I'.to I'.w1 I'.w2 hxs hys (.inl ((List.getElem?_toArray ..).trans qa)) λh' hk4=>p.over (tk:=s.toks) (keep4 hk4)
 |some x1=>cases rb with
  |none=>exact λ_ qb p=>wpAny_pyNext_zip_end p.hA.hd h1 I'.z I'.ti I'.to I'.w1 I'.w2 hxs hys (.inr ((List.getElem?_toArray ..).trans qb)) λh' hk4=>p.over (tk:=s.toks) (keep4 hk4)
  |some y1=>
   refine λqa qb p=>qa.1.elim λv1 k1=>qb.1.elim λv2 k2=>wpAny_pyNext_zip_item h1 I'.z I'.ti I'.to I'.w1 I'.w2 hxs hys ((List.getElem?_toArray ..).trans k1.1) ((List.getElem?_toArray ..).trans k2.1) λh' a1 a2 a3 a4 a5 a6 hk4=>wpAny_letOwnedTupleGo_zip a1 λh2' hz' hs'=>?_
   have b1:IsPair h2' TO v1 v2:=hs'.extBut _ _ h1.TOz a2
   have b2:IsPair h2' TI (.ref i1) (.ref i2):=hs'.extBut _ _ h1.TIz (hk4 _ _ h1.TIz h1.TITO h1.TIi1 h1.TIi2 I'.ti)
   have b3:=a3.extBut hs'.extBut h1.i1z
   have b4:=a4.extBut hs'.extBut h1.i2z
   have b5:IsPair h2' s.heap.objs.size v1 v2:=hs'.extBut _ _ (Nat.ne_of_gt (Vz I'.z)) a5
   refine p.pair ht (λb o hb e=>hs'.extBut b o (λq=>hb (q▸.head _)) (keep4 hk4 b o hb e)) (λa q=>?_) ⟨_,b5,rfl,_,rfl⟩ k1.2 k2.2 ⟨z,TI,TO,i1,i2,l1,l2,k+1,v1,v2,⟨rfl,rfl⟩,⟨h1,hz',b2,b1,b3,b4,qa.2,qb.2⟩⟩
   exact(U0.mp q).elim (λq=>q▸⟨_,hz'⟩) λq=>(U0.mp q).elim (λq=>q▸⟨_,b2⟩) λq=>(U0.mp q).elim (λq=>q▸⟨_,b1⟩) λq=>(U0.mp q).elim (λq=>q▸b3.imp λ_ g=>g.1) λq=>fy q λq=>q▸b4.imp λ_ g=>g.1
theorem v3{m:Nat}{p:AV×aB}(e:aX TT r (.cit m) H=some (some p,H')):p.2= .cit m/\∃ f g,H'[m]? =some (.citer f g):=by
 refine az e λo _ e=>?_
 have en:∀{v:AV} {H:AH} {o:AO},H[m]? =some o->kK TT m v H o=some (some p,H')->p.2= .cit m/\∃ f g,H'[m]? =some (.citer f g):=λ{v H o} el e=>by
  revert el e
  refine AO.casesOn (motive:=λo=>H[m]? =some o->kK TT m v H o=some (some p,H')->p.2= .cit m/\∃ f g,H'[m]? =some (.citer f g)) o (λ_ _=>no) (λ_ _ _=>no) (λ_ _=>no) (λ_ _ _=>no) (λf g el e=>?_) (λ_=>no) (λ_ _=>no)
  exact mW (P:=λf=>H[m]? =some (.citer f g)->p.2= .cit m/\∃ f g,H'[m]? =some (.citer f g)) e (λ_ _ e el=>gE (P:=λg=>H[m]? =some (.citer _ g)->p.2= .cit m/\∃ f g,H'[m]? =some (.citer f g)) e (λx e el=>gE (P:=λ_=>_) e λy e=>eg e (λ_ e=>aJ e λ_ e=>nomatch (UW (sj e)).1) λ_ e=>
   have e:=UW (sj e);⟨(congrArg Prod.snd (sj e.1)).symm,_,_,e.2▸el⟩) el) el
 exact AO.casesOn (motive:=λo=>m6 TT r m H o=some (some p,H')->p.2= .cit m/\∃ f g,H'[m]? =some (.citer f g)) o (λ_=>no) (λ_ _=>no) (λ_=>no) (λ_ _=>no) (λf g e=>mW (P:=λ_=>_) e λ_ _ e=>aP e λv H1 _ e=>az e λo el e=>en el e) (λe=>nomatch (UW (sj e)).1) (λ_=>no) e
theorem Ih(hCit:cW c n r){m:Nat}{a:Addr}(e:aX TT r (.cit m) H=some (res,H'))(h1:w.α[m]? =some a)(p:PR c n A w H H' O OF ks sg ρ env [] t te (.ref a) s N B res):g9 c A E te env (.ref a) N B s:=by
 refine hCit p.hA h1 _ _ e s _ E p.S λw1 h' tk v l1 S1 r1=>?_
 revert p e r1
 cases res with
 |none=>exact λe p r1=>(show v=none from r1)▸p.hN rfl w1 h' tk l1 (p.F.mono l1) S1
 |some q=>
  refine λe p r1=>Exists.elim r1 λu r1=>r1.1▸?_
  obtain⟨e1,f1,g1,hm⟩:=v3 e
  obtain⟨ro,q2,fv,sv,sl,dc,rfl,_⟩:=S1.at (l1.at h1) hm
  obtain⟨ρ',eb,go⟩:=p.hB q.1 q.2 rfl
  exact oM (s:=aI s h' tk) ⟨_,_,q2,rfl,rfl⟩ (qX (s:=aI s h' tk) (wr:=[]) (p.F.mono l1) S1 (λa q=>nomatch q) (λOF' h3 tk3 F' S' A' z=>go w1 OF' h3 tk3 l1 F' S' (e1.symm▸⟨a,⟨rfl,rfl⟩,l1.at h1⟩) A') λF S hQ=>mX (Q:=λ_ s₂=>B s₂) p.hA.hd F p.hc eb S r1.2 hQ)
theorem Ig(hCit:cW c n r){src:aB}(e:aX TT r src H=some (res,H'))(I:eG c w src it wr s.heap)(ht:dj t src=true)(p:PR c n A w H H' O OF ks sg ρ env wr t te it s N B res):g9 c A E te env it N B s:=by
 have u0:ig src=true->gf t=false:=λh=>WB.mpr λq=>ft ((show false=dj t src by unfold dj;rw[h,q];rfl).trans ht)
 revert e I u0 p
 refine aB.casesOn (motive:=λsrc=>aX TT r src H=some (res,H')->eG c w src it wr s.heap->PR c n A w H H' O OF ks sg ρ env wr t te it s N B res->(ig src=true->gf t=false)->g9 c A E te env it N B s) src (λrem e I p _=>?_) (λrem e I p ht=>?_) (λm k e I p _=>?_) (λa b e I p ht=>?_) (λm e I p _=>?_)
 ·obtain⟨I',fp,n',P,T,i,⟨rfl,rfl⟩,W⟩:=I
  have e:=UW (sj e)
  exact Et W (e.1▸e.2▸p)
 ·obtain⟨I',j,fp,n',P,T,i,old,⟨rfl,rfl⟩,W⟩:=I
  have e:=UW (sj e)
  exact Er (ht rfl) W (e.1▸e.2▸p)
 ·obtain⟨I',a,⟨rfl,rfl⟩,h1,h2⟩:=I
  exact az e λo el e=>hJ (P:=λo=>H[m]? =some o->_) e (λl e el=>have e:=UW (sj e);Es el h1 h2 (show PR c n A w H H O OF ks sg ρ env [I'] t te (.ref I') s N B ((l[k]?).map λv=>(v,.locl m (k+1))) from e.1▸e.2▸p)) el
 ·obtain⟨z,TI,TO,i1,i2,l1,l2,k,u,v,⟨rfl,rfl⟩,W⟩:=I
  exact Ii (ht rfl) e W p
 ·obtain⟨a,⟨rfl,rfl⟩,h1⟩:=I
  exact Ih hCit e h1 p
end turn
end
end
section
theorem km:Slot "callable_iterator" "__iter__" "callable_iterator.__iter__":=
 .of (owner:="callable_iterator") (n:="__iter__") (by rw[WP,Wl];kernel_rfl) (by decide +kernel) (by decide +kernel) (by decide +kernel)
  (by first|exact .inl (by decide +kernel)|exact .inr (by decide +kernel)) (by rw[isSubtype_type];kernel_rfl)
theorem ph:entryFor table "callable_iterator.__iter__" =some Builtin.«dict_keyiterator.__iter__»:=
 entryFor_alias (id':="dict_keyiterator.__iter__") (by kernel_rfl) rfl (by decide +kernel) (by kernel_rfl)
theorem qu(a:UF):YV "callable_iterator.__iter__" ⟨[a],[]⟩:=by unfold YV;kernel_rfl
theorem gU:Slot "callable_iterator" "__next__" "callable_iterator.__next__":=
 .of (owner:="callable_iterator") (n:="__next__") (by rw[WP,Wl];kernel_rfl) (by decide +kernel) (by decide +kernel) (by decide +kernel)
  (by first|exact .inl (by decide +kernel)|exact .inr (by decide +kernel)) (by rw[isSubtype_type];kernel_rfl)
section
variable {c:Cx}{K:Frag}{w w':Wd}{H H':AH}{O OF OF':PH}{A:Vh}{E:UF->UJ->Prop}{s:UJ}{d:AV}{n:Nat}{r:R}{ks:Ks}{sg:Sg}{ρ ρ':ae}{env:Env}{f:Nat}{wr:List Addr}{h h':Heap}{Q:UF->UJ->Prop}
theorem yi{it:Addr}(hT:s.TypeIs (.ref it) "callable_iterator")(h:Q (.ref it) s):UI (UN c.prog c.w) A (XV (.ref it)) Q E s:=
 wpAny_pyIter_slot hT km (WK km hT ph (show UI _ _ (ret (.ref it)) _ _ s from UE ⟨_,rfl,"callable_iterator",_,hT,gU.lookup,h⟩) (qu _))
noncomputable def d9(c:Cx)(w:Wd)(H':AH)(O OF:PH)(s:UJ)(src:aB)(Q:UF->UJ->Prop):Prop:=
 ∀ w' h' tk itv wr,w.le w'->St c w' H' (un O OF) h'->eG c w' src itv wr h'->aR w' O OF wr h'->Q itv (aI s h' tk)
theorem d9.after{src:aB}(hQ:d9 c w H O OF s src Q)(l:w.le w'){h:Heap}{tk:Nat}:d9 c w' H O OF (aI s h tk) src Q:=λw2 h' tk' v wr a b e f=>hQ w2 h' tk' v wr (l.trans a) b e f
theorem d9.pr{src src':aB}(hQ:d9 c w H' O OF s src Q)(e:some (src',H)=some (src,H')):d9 c w H O OF s src' Q:=have e:=UW (sj e);e.1▸e.2▸hQ
theorem eL(S:St c w H (un O OF) h){a:Addr}(h1:h.get? a=none)(i:∃ o,h'.get? a=some o):gu w O OF h' a:=
 have u:=S.o_none h1
 have u2:OF a=none:=UQ.mpr λo e=>no (u.symm.trans (bc e))
 ⟨S.g_none h1,(bU u2).symm.trans u,u2,S.not_alpha h1,i⟩
theorem kT(h:Heap)(i:Nat):h.get? (h.objs.size+i)=none:=UQ.mpr λo q=>absurd (Vz q) (XN (Vi _ _))
theorem Cu(S:St c w H (un O OF) s.heap){o:Obj}(hf:o.isFreed=false):St c w H (un O OF) (s.heap.push o)/\aR w O OF [s.heap.objs.size] (s.heap.push o):=
 ⟨S.keeps λb x e=>Heap.get?_push_of_some _ e,λa q=>fy q λq=>q▸eL S (cy _) ⟨_,Heap.get?_push_size _ hf⟩⟩
theorem tH{x:Str}{j:Nat}{v:UF}{d:AV}(hv:SignAt x j v)(hd:(fH x)[j]? =some d):VR c w d v:=by
 obtain⟨cp,u,h1,rfl⟩:=hv
 rw[fH,List.getElem?_map,Array.getElem?_toList,h1] at hd
 exact sj hd▸.str
theorem ki(x:Str):(fH x).length=x.cps.size:=UC ..
theorem pE{a b x:Addr}{P:Prop}(h:x∈[a,b])(k:x=a->P)(l:x=b->P):P:=(U0.mp h).elim k λh=>l (US.mp h)
theorem jK(S:St c w H (un O OF) s.heap)(hQ:d9 c w H O OF s (.items l) Q){o:Obj}(hf:o.isFreed=false){fp:List Addr}{P:Nat->UF->Prop}{T:Nat->Heap->Prop}{m:Nat}
  (ws:∀ A:Vh,A.handled=none->Walks c.prog c.w A s.heap.objs.size fp [s.heap.objs.size] m P T) (st:T 0 (s.heap.push o)) (pl:∀ j h,T j h->kB h s.heap.objs.size) (fz:∀ b∈fp,b=s.heap.objs.size∨∃ o,w.G b=some o) (len:l.length=m)
  (val:∀ j v d,P j v->l[j]? =some d->VR c w d v):Q (.ref s.heap.objs.size) {s with heap:=s.heap.push o}:=
 have k:=Cu S hf
 hQ w (s.heap.push o) s.toks _ _ (.refl _) k.1 ⟨_,fp,m,P,T,0,⟨rfl,rfl⟩,ws,st,pl,fz,(Wf _).trans len,λj v d p q=>val j v d (Wf j▸p) q⟩ k.2
theorem BN{v:AV}{x:UF}{src:aB}(e:lV v H=some src)(S:St c w H (un O OF) s.heap)(hv:VR c w v x)(hQ:d9 c w H O OF s src Q):UI (UN c.prog c.w) A (XV x) Q E s:=by
 refine AV.casesOn (motive_1:=λv=>lV v H=some src->VR c w v x->UI (UN c.prog c.w) A (XV x) Q E s) v no (λ_=>no) (λ_=>no) (λy e hv=>hv.k λt=>?_) (λl e hv=>hv.k λa vs m g r=>?_) (λl e hv=>hv.k λa vs m g r=>?_) (λm e hv=>hv.k λa ha=>az e λo el e=>?_) (λ_=>no) (λ_ _=>no) (λ_ _=>no) (λ_=>no) e hv
 ·have hQ:d9 c w H O OF s (.items (fH y)) Q:=sj e▸hQ
  have val:∀ j v d,SignAt y j v->(fH y)[j]? =some d->VR c w d v:=λj v d p q=>tH p q
  cases hy:y.cps.all (· <128)
  ·exact wpAny_pyIter_wide hy (jK S hQ rfl (λA' hA'=>Walks.strWide hA' _ y t) ⟨_,Heap.get?_push_size _ rfl,rfl,rfl⟩ (λj h q=>q.imp λo q=>⟨_,q.1,q.2.1,rfl⟩) (λb hb=>.inl (US.mp hb)) (ki y) val)
  ·exact wpAny_pyIter_ascii hy (jK S hQ rfl (λA' hA'=>Walks.strAscii hA' _ y t) ⟨_,Heap.get?_push_size _ rfl,rfl,rfl⟩ (λj h q=>q.imp λo q=>⟨_,q.1,q.2.1,rfl⟩) (λb hb=>.inl (US.mp hb)) (ki y) val)
 ·have hg:=S.keep _ _ g
  exact wpAny_pyIter_tuple (items:=vs.toArray) ⟨_,hg,rfl,m,rfl⟩ (jK S (show d9 c w H O OF s (.items l) Q from sj e▸hQ) rfl (λA' hA'=>Walks.tuple hA' _ a (V0 (Vz hg)) vs.toArray) ⟨⟨_,Heap.get?_push_size _ rfl,rfl,rfl⟩,⟨_,Heap.get?_push_of_some _ hg,rfl,m,rfl⟩⟩
   (λj h q=>q.1.imp λo q=>⟨_,q.1,q.2.1,rfl⟩) (λb hb=>pE hb .inl λq=>.inr ⟨_,q▸g⟩) r.length.symm λj v d p q=>(r.get q).elim λu z=>sj (z.1.symm.trans ((List.getElem?_toArray ..).symm.trans p))▸z.2)
 ·have hg:=S.keep _ _ g
  exact XS (items:=vs.toArray) ⟨_,hg,rfl,m,rfl⟩ (jK S (show d9 c w H O OF s (.items l) Q from sj e▸hQ) rfl (λA' hA'=>Walks.list hA' _ a (V0 (Vz hg)) vs.toArray) ⟨⟨_,Heap.get?_push_size _ rfl,rfl,rfl⟩,⟨_,Heap.get?_push_of_some _ hg,rfl,m,rfl⟩⟩
   (λj h q=>k8 q.1) (λb hb=>pE hb .inl λq=>.inr ⟨_,q▸g⟩) r.length.symm λj v d p q=>(r.get q).elim λu z=>sj (z.1.symm.trans ((List.getElem?_toArray ..).symm.trans p))▸z.2)
 ·refine AO.casesOn (motive:=λo=>H[m]? =some o->yq m o=some src->UI (UN c.prog c.w) A (XV (.ref a)) Q E s) o (λl el e=>?_) (λ_ _ _=>no) (λ_ _=>no) (λ_ _ _=>no) (λf g el e=>?_) (λ_=>no) (λ_ _=>no) el e
  ·obtain⟨ro,g2,vs,k,rfl,_⟩:=S.at ha el
   have z:=Cu S (o:={cls:=.type "list_iterator",data:=.fields #[.ref a,.int 0 0]}) rfl
   exact XS (items:=vs.toArray) ⟨_,g2,rfl,k,rfl⟩ (hQ w _ s.toks _ _ (.refl _) z.1 (sj e▸⟨_,a,⟨rfl,rfl⟩,ha,_,Heap.get?_push_size _ rfl,rfl,rfl⟩) z.2)
  ·obtain⟨ro,g2,fv,sv,sl,dc,rfl,_⟩:=S.at ha el
   exact yi ⟨_,g2,rfl⟩ (hQ w _ s.toks _ [] (.refl _) S (sj e▸⟨a,⟨rfl,rfl⟩,ha⟩) λa q=>nomatch q)
theorem eG.again{src:aB}{itv:UF}(I:eG c w src itv wr s.heap)(hh:A.handled=none)(hc:lO src=true)(hQ:Q itv s):UI (UN c.prog c.w) A (XV itv) Q E s:=by
 revert I hc
 refine aB.casesOn (motive:=λsrc=>eG c w src itv wr s.heap->lO src=true->UI (UN c.prog c.w) A (XV itv) Q E s) src (λ_ I _=>?_) (λ_ I _=>?_) (λ_ _ I _=>?_) (λ_ _ I _=>?_) (λ_ _=>ft)
 ·obtain⟨I,fp,n,P,T,i,⟨rfl,rfl⟩,W⟩:=I
  exact(W.ws A hh).self _ _ _ _ W.st hQ
 ·obtain⟨I,j,fp,n',P,T,i,old,⟨rfl,rfl⟩,W⟩:=I
  exact wpAny_pyIter_enum W.en hQ
 ·obtain⟨I,a,⟨rfl,rfl⟩,h1,h2⟩:=I
  exact wpAny_pyIter_listiter h2 hQ
 ·obtain⟨z,TI,TO,i1,i2,l1,l2,k,u,v,⟨rfl,rfl⟩,W⟩:=I
  exact wpAny_pyIter_zip W.z hQ
theorem kn(hT:cM c K)(hE:aF c n r)(hA:aG n A){T:String}{it:IE}{args:List IE}{e:Expr}(hi:gH it=some (T,args))(hc:ar (f+1) ks sg ρ.length it e=true){ds:List AV}{H1:AH}(e1:cj r args ρ H=some (ds,H1))(R:ER c w O ks sg ρ env)(S:St c w H O s.heap)
  (hQ:∀ w' h' tk vs,w.le w'->St c w' H1 O h'->VRs c w' ds vs->UI (UN c.prog c.w) A (call (.type T) vs) Q E (aI s h' tk)):UI (UN c.prog c.w) A (eval e env) Q E s:=by
 have inv:∃ x,it= .call (.glob x (.g (.type T))) args []:=by
  revert hi
  cases it
  case call fe args' kws=>
   cases fe
   case glob x v=>exact λhi=>⟨x,qw (P:=λv=>IE.call (.glob x v) args' kws=_) hi λu hi=>vP (P:=λu=>IE.call (.glob x (.g u)) args' kws=_) hi λT' hi=>gg (P:=λkws=>IE.call (.glob x (.g (.type T'))) args' kws=_) hi λe=>have e:=UW (sj e);e.1▸e.2▸rfl⟩
   all_goals exact no
  all_goals exact no
 obtain⟨x,rfl⟩:=inv
 refine gr (P:=λe=>UI (UN c.prog c.w) A (eval e env) Q E s) hc λxe as kes p h=>(lv (nt (a1 h))).symm▸UA ?_
 cases f with
 |zero=>exact ft (a1 (a2 h))
 |succ f=>exact c4 (P:=λxe=>UI (UN c.prog c.w) A (eval xe env) _ E s) (a1 (a2 h)) λy q k=>bq (P:=λy=>UI _ A (eval (.Name y q) env) _ E s) (a1 k) (qS hT R (eq_of_beq (a1 (a2 k))) (a1 (a2 (a2 k))) (qF (a2 (a2 (a2 k)))) S λw1 m1 t1 v l1 S1 r1=>VR.k (P:=λv=>UI _ A (callWith p v [] _ _) Q E _) r1
   (hY (s:=aI s m1 t1) (first:=[]) hE hA (a1 (a2 (a2 h))) (a1 (a2 (a2 (a2 h)))) e1 (show jZ r [] ρ H1=some ([],H1) from rfl) (R.mono l1) S1 λw2 m2 t2 vs kvs l2 S2 r2 r3=>⟨⟨.machine,.inr (.inl rfl),.now⟩,r3.nk (P:=λkvs=>UI _ A (call (.type T) vs kvs) Q E _) (hQ w2 m2 t2 vs (l1.trans l2) S2 r2)⟩))
theorem uT(a b:Int):W4 a b 1=((b-a).toNat:Int):=by
 unfold W4
 simp only[show(1:Int)>0 by decide,if_true,Int.ediv_one]
 split<;>omega
theorem yP{a b:Int}(h0: 0<=a)(h1:a<=1000)(h2: 0<=b)(h3:b<=1000):Zt a b 1=true:=by
 unfold Zt
 rw[uT]
 simp[Builtin.Range.rangeFitsLong]
 omega
theorem rN(S:St c w H (un O OF) s.heap){a b:Int}{t u v:Tok}{tk:Nat}(h0: 0<=a)(h1:a<=1000)(h2: 0<=b)(h3:b<=1000)(hQ:d9 c w H O OF s (.items (gS a b)) Q):
  UI (UN c.prog c.w) A (XV (.ref s.heap.objs.size)) Q E {s with heap:=s.heap.push {cls:=.type "range",data:=.fields #[.int a t,.int b u,.int 1 v]},toks:=tk}:=by
 refine wpAny_pyIter_range (a:=a) (b:=b) (c:=1) (t:=t) (u:=u) (v:=v) (Heap.get?_push_size _ rfl) (yP h0 h1 h2 h3) ?_
 have S1:=(Cu S (o:={cls:=.type "range",data:=.fields #[.int a t,.int b u,.int 1 v]}) rfl).1
 refine jK (s:={s with heap:=s.heap.push {cls:=.type "range",data:=.fields #[.int a t,.int b u,.int 1 v]},toks:=tk}) S1 (λw' h' tk'=>hQ w' h' tk') (o:={cls:=.type "range_iterator",data:=.fields #[rawInt a,rawInt (W4 a b 1),rawInt 1]}) rfl
  (m:=(b-a).toNat) (λA' hA'=>Walks.range hA' _ a 1 (b-a).toNat) ?_ (λj h q=>⟨_,_,q,rfl,rfl⟩) (λb hb=>.inl (US.mp hb)) ((UC ..).trans (WA ..)) ?_
 ·show Heap.get? _ _=_
  rw[Heap.get?_push_size _ rfl,uT a b]
  simp
 ·intro j w d p q
  obtain⟨tt,rfl⟩:=p
  rw[gS,List.getElem?_map] at q
  obtain⟨k,hk,rfl⟩:=Wv.mp q
  have hk:=List.getElem?_eq_some_iff.mp hk
  rw[Int.mul_one,show(j:Int)=k from congrArg Int.ofNat ((List.getElem_range ..).symm.trans hk.2)]
  exact .int
theorem JQ{l:List AV}{j:Nat}{d:AV}(h:(eh l)[j]? =some d):∃ x,l[j]? =some x/\d= .tup [.int (j:Nat),x]:=by
 rw[eh,List.getElem?_map] at h
 obtain⟨⟨k,x⟩,hk,rfl⟩:=Wv.mp h
 have hk:=List.getElem?_zip_eq_some.mp hk
 exact⟨x,hk.2,by rw[show j=k from(List.getElem_range ..).symm.trans (List.getElem?_eq_some_iff.mp hk.1).2]⟩
theorem Fm(l:List AV):(eh l).length=l.length:=by simp[eh]
theorem A3{v:AV}{x:UF}{a:aB}(e:CV v H=some a)(S:St c w H O h)(hv:VR c w v x):∃ l vs,x= .ref l/\h.IsList l (WV vs)/\ZS c w a l 0:=
 AV.casesOn (motive_1:=λv=>CV v H=some a->VR c w v x->∃ l vs,x= .ref l/\h.IsList l (WV vs)/\ZS c w a l 0) v no (λ_=>no) (λ_=>no) (λ_=>no) (λ_=>no) (λl e hv=>hv.k λt vs m g r=>⟨t,vs,rfl,⟨_,S.keep _ _ g,rfl,m,rfl⟩,se (P:=λa=>ZS c w a t 0) e ⟨vs,m,g,r⟩⟩)
  (λi e hv=>hv.k λt ht=>az e λo el e=>hJ (P:=λo=>H[i]? =some o->_) e (λl e el=>(S.at ht el).elim λro q=>q.2.elim λvs j=>j.elim λm j=>⟨t,vs,rfl,⟨_,q.1.trans (congrArg some j.1),rfl,m,rfl⟩,se (P:=λa=>ZS c w a t 0) e ⟨ht,rfl⟩⟩) el) (λ_=>no) (λ_ _=>no) (λ_ _=>no) (λ_=>no) e hv
theorem Sw{N i j:Nat}(h:i≠j):N+i≠N+j:=λq=>h (Nat.add_left_cancel q)
theorem pI(S:St c w H (un O OF) s.heap)(hQ:d9 c w H O OF s (.pairs (eh l)) Q){h':Heap}(k1:IsEnum h' (s.heap.objs.size+1) s.heap.objs.size 0 .none)(k4:∀ b o,s.heap.get? b=some o->h'.get? b=some o){fp:List Addr}{P:Nat->UF->Prop}{T:Nat->Heap->Prop}{m:Nat}
  (dr:∀ A:Vh,A.handled=none->Draws c.prog c.w A s.heap.objs.size fp m P T) (st:T 0 h') (nf:s.heap.objs.size+1∉fp) (mf:s.heap.objs.size∈fp) (fz:∀ b∈fp,b=s.heap.objs.size∨∃ o,w.G b=some o) (len:l.length=m)
  (val:∀ j v d,P j v->l[j]? =some d->VR c w d v):UI (UN c.prog c.w) A (XV (.ref (s.heap.objs.size+1))) Q E {s with heap:=h'}:=
 wpAny_pyIter_enum k1 (hQ w h' s.toks _ [s.heap.objs.size+1,s.heap.objs.size] (.refl _) (S.keeps k4) ⟨_,_,fp,m,P,T,0,.none,⟨rfl,rfl⟩,dr,XM _,nf,mf,k1,st,fz,(Wf _).trans ((Fm l).trans len),λj u d p q=>(JQ q).imp λx z=>⟨(Wf j).symm▸z.2,val j u x (Wf j▸p) z.1⟩⟩
  λb q=>pE q (λq=>q▸eL S (kT _ 1) ⟨_,k1⟩) λq=>q▸eL S (cy _) ((dr {} rfl).live _ _ st))
theorem nR(hT:cM c K)(hE:aF c n r)(hA:aG n A){it:IE}{e:Expr}{src:aB}(hc:ar f ks sg ρ.length it e=true)(he:aO r it ρ H=some (src,H'))(R:ER c w (un O OF) ks sg ρ env)(S:St c w H (un O OF) s.heap)
  (hQ:d9 c w H' O OF s src Q):UI (UN c.prog c.w) A (eval e env) (λx s₁=>UI (UN c.prog c.w) A (XV x) Q E s₁) E s:=by
 cases f with
 |zero=>exact ft hc
 |succ f=>
 have dflt:Iv r it ρ H=some (src,H')->UI (UN c.prog c.w) A (eval e env) (λx s₁=>UI (UN c.prog c.w) A (XV x) Q E s₁) E s:=λhe=>(hE hc hA R).k he S λv H1 w1 m1 t1 u he l1 S1 r1=>az he λs' e2 he=>BN (s:=aI s m1 t1) e2 S1 r1 ((hQ.pr he).after l1)
 unfold aO at he
 revert he
 cases hi:gH it with
 |none=>exact dflt
 |some p=>
 obtain⟨T,args⟩:=p
 refine λhe=>eg he (λq he=>?_) λ_ he=>eg he (λq he=>?_) λ_ he=>eg he (λq he=>?_) λ_=>dflt
 ·have hi:gH it=some ("range",args):=hi.trans (congrArg (λT=>some (T,args)) (eq_of_beq q))
  cases args with
  |nil=>exact no he
  |cons x l=>cases l with
   |nil=>exact aP he λv H1 e1 he=>dR (P:=λv=>r.e x ρ H=some (v,H1)->_) he (λm he e1=>bH he λhb he=>kn (T:="range") (ds:=[.int m]) hT hE hA hi hc (congrArg (λy=>ah y λv H=>some ([v],H)) e1) R S λw1 m1 t1 vs l1 S1 r1=>r1.k λu us g r1=>r1.k (g.k λt=>
     call_range_1 (rN (s:=aI s m1 t1) S1 (Int.le_refl 0) (by decide) hb.1 hb.2 ((hQ.pr he).after l1)))) e1
   |cons y l=>exact gg (P:=λl=>gH it=some ("range",x::y::l)->_) he (λhe hi=>aP he λv H1 e1 he=>dR (P:=λv=>r.e x ρ H=some (v,H1)->_) he (λm he e1=>aP he λu H2 e2 he=>dR (P:=λu=>r.e y ρ H1=some (u,H2)->_) he (λk he e2=>bH he λhb he=>
     kn (T:="range") (ds:=[.int m,.int k]) hT hE hA hi hc (show cj r [x,y] ρ H=some ([.int m,.int k],H2) by simp only[cj,e1,e2,ah]) R S λw1 m1 t1 vs l1 S1 r1=>r1.k λu us g r1=>r1.k λu2 us g2 r1=>r1.k (g.k λt=>g2.k λt2=>
      call_range_2 (rN (s:=aI s m1 t1) S1 hb.1 hb.2.1 hb.2.2.1 hb.2.2.2 ((hQ.pr he).after l1)))) e2) e1) hi
 ·have hi:gH it=some ("enumerate",args):=hi.trans (congrArg (λT=>some (T,args)) (eq_of_beq q))
  refine nJ (P:=λl=>gH it=some ("enumerate",l)->_) he (λx he hi=>aP he λv H1 e1 he=>aJ he λhnt he=>az he λs' es he=>?_) hi
  refine kn (T:="enumerate") (ds:=[v]) hT hE hA hi hc (congrArg (λy=>ah y λv H=>some ([v],H)) e1) R S λw1 m1 t1 vs l1 S1 r1=>r1.k λu us g r1=>r1.k ?_
  cases s' with
  |items l=>
   refine aJ he λhfit he=>?_
   have hQ:=(hQ.pr he).after l1 (h:=m1) (tk:=t1)
   refine AV.casesOn (motive_1:=λv=>rp v=true->lV v H1=some (.items l)->VR c w1 v u->UI (UN c.prog c.w) A (call (.type "enumerate") [u]) (λx s₁=>UI (UN c.prog c.w) A (XV x) Q E s₁) E (aI s m1 t1)) v (λ_=>no) (λ_ _=>no) (λ_ _=>no) (λy _ e hv=>hv.k λt=>?_) (λ_=>ft) (λl' _ e hv=>hv.k λa vs m g r=>?_) (λi _ e _=>az e λo _ e=>by cases o<;>exact nomatch e) (λ_ _=>no) (λ_ _ _=>no) (λ_ _ _=>no) (λ_ _=>no) hnt es g
   ·refine call_enumerate_str λh' k1 k2 k3 k4=>?_
    have hQ:d9 c w1 H1 O OF (aI s m1 t1) (.pairs (eh (fH y))) Q:=aB.items.inj (sj e)▸hQ
    cases hy:y.cps.all (· <128)
    ·exact pI (s:=aI s m1 t1) S1 hQ k1 k4 (λA' hA'=>Draws.strWide hA' _ y t) (by simpa[strIterType,hy] using k2) (λq=>fy q (XM _)) m0 (λb hb=>.inl (US.mp hb)) (ki y) λj v d p q=>tH p q
    ·exact pI (s:=aI s m1 t1) S1 hQ k1 k4 (λA' hA'=>Draws.strAscii hA' _ y t) (by simpa[strIterType,hy] using k2) (λq=>fy q (XM _)) m0 (λb hb=>.inl (US.mp hb)) (ki y) λj v d p q=>tH p q
   ·have hg:=S1.keep _ _ g
    have hlt:a<m1.objs.size:=Vz hg
    exact call_enumerate_list (items:=vs.toArray) ⟨_,hg,rfl,m,rfl⟩ λh' k1 k2 k3 k4=>pI (s:=aI s m1 t1) S1 (show d9 c w1 H1 O OF (aI s m1 t1) (.pairs (eh l')) Q from aB.items.inj (sj e)▸hQ) k1 k4 (λA' hA'=>Draws.list hA' _ a (V0 hlt) vs.toArray) ⟨k2,_,k4 _ _ hg,rfl,m,rfl⟩
     (λq=>pE q (XM _) λq=>absurd q (Nat.ne_of_gt (Nat.lt_succ_of_lt hlt))) m0 (λb hb=>pE hb .inl λq=>.inr ⟨_,q▸g⟩) r.length.symm λj v d p q=>(r.get q).elim λu z=>sj (z.1.symm.trans ((List.getElem?_toArray ..).symm.trans p))▸z.2
  |_=>exact no he
 ·have hi:gH it=some ("zip",args):=hi.trans (congrArg (λT=>some (T,args)) (eq_of_beq q))
  refine nU (P:=λl=>gH it=some ("zip",l)->_) he (λx y he hi=>aP he λv H1 e1 he=>aP he λu H2 e2 he=>az he λa ea he=>az he λb eb he=>?_) hi
  refine kn (T:="zip") (ds:=[v,u]) hT hE hA hi hc (show cj r [x,y] ρ H=some ([v,u],H2) by simp only[cj,e1,e2,ah]) R S λw1 m1 t1 vs l1 S1 r1=>r1.k λu1 us g r1=>r1.k λu2 us g2 r1=>r1.k ?_
  obtain⟨l1',xs,rfl,q1,z1⟩:=A3 ea S1 g
  obtain⟨l2',ys,rfl,q2,z2⟩:=A3 eb S1 g2
  have p1:l1'<m1.objs.size:=q1.elim λo g=>Vz g.1
  have p2:l2'<m1.objs.size:=q2.elim λo g=>Vz g.1
  have far:∀{a i:Nat},a<m1.objs.size->a≠m1.objs.size+i:=λh=>V0 (U7 h (Vi _ _))
  have nd:∀{i j:Nat},(i==j)=false->m1.objs.size+i≠m1.objs.size+j:=λh=>Sw (ne_of_beq_false h)
  refine call_zip_2 q1 q2 λh' k1 k2 k3 k4 k5 k6 k7=>wpAny_pyIter_zip k1 ((hQ.pr he).after l1 w1 h' t1 _ [m1.objs.size+4,m1.objs.size+2,m1.objs.size+3,m1.objs.size,m1.objs.size+1] (.refl _) (S1.keeps k7)
   ⟨_,_,_,_,_,_,_,0,_,_,⟨rfl,rfl⟩,⟨nd rfl,nd rfl,nd (i:=0) rfl,nd rfl,nd rfl,nd (j:=0) rfl,nd rfl,nd (j:=0) rfl,nd rfl,nd (i:=0) rfl,far p1,far p1,far (i:=0) p1,far p1,far p2,far p2,far (i:=0) p2,far p2⟩,k1,k2,k3,k4,k5,z1,z2⟩ λb q=>?_)
  exact(U0.mp q).elim (λq=>q▸eL S1 (kT _ 4) ⟨_,k1⟩) λq=>(U0.mp q).elim (λq=>q▸eL S1 (kT _ 2) ⟨_,k2⟩) λq=>(U0.mp q).elim (λq=>q▸eL S1 (kT _ 3) ⟨_,k3⟩) λq=>pE q (λq=>q▸eL S1 (cy _) (k4.imp λ_ g=>g.1)) λq=>q▸eL S1 (kT _ 1) (k5.imp λ_ g=>g.1)
end
end
section
inductive ez(r:R)(f:AV->AH->Option (List AV×AH)):aB->AH->List AV->AH->Prop
 |over {src:aB} {H H':AH}:aX TT r src H=some (none,H')->ez r f src H [] H'
 |turn {src src':aB} {x:AV} {H H1 H2 H3:AH} {a b:List AV}:aX TT r src H=some (some (x,src'),H1)->f x H1=some (a,H2)->ez r f src' H2 b H3->ez r f src H (a++b) H3
section
variable {r:R}{f:AV->AH->Option (List AV×AH)}
theorem l6(mk:List AV->aB)(h0:∀ l H,aX TT r (mk l) H=some ((fY l).map λx=>(x.1,mk x.2),H)){l:List AV}:∀{H:AH} {ds:List AV} {H':AH},bI f l H=some (ds,H')->ez r f (mk l) H ds H':=
 List.rec (motive:=λl=>∀{H:AH} {ds:List AV} {H':AH},bI f l H=some (ds,H')->ez r f (mk l) H ds H') (λ{H ds H'} e=>have e:=UW (sj e);e.1▸e.2▸.over (h0 [] H))
  (λx l ih {H ds H'} e=>aP e λa H1 e1 e=>aP e λb H2 e2 e=>have e:=UW (sj e);e.1▸e.2▸.turn (h0 (x::l) H) e1 (ih e2)) l
theorem kt{k:Nat}:∀{s:aB} {H:AH} {ds:List AV} {H':AH},cC TT r f k s H=some (ds,H')->ez r f s H ds H':=
 Nat.rec (motive:=λk=>∀{s:aB} {H:AH} {ds:List AV} {H':AH},cC TT r f k s H=some (ds,H')->ez r f s H ds H') no
  (λk ih {s H ds H'} e=>aP e λp H1 e1 e=>Vs (motive:=λp=>aX TT r s H=some (p,H1)->(p.elim (some ([],H1)) λx=>ah (f x.1 H1) λa H=>ah (cC TT r f k x.2 H) λb H=>some (a++b,H))=some (ds,H')->ez r f s H ds H') p
   (λe1 e=>have e:=UW (sj e);e.1▸e.2▸.over e1) (λx e1 e=>aP e λa H2 e2 e=>aP e λb H3 e3 e=>have e:=UW (sj e);e.1▸e.2▸.turn e1 e2 (ih e3)) e1 e) k
theorem oB{s:aB}{H:AH}{ds:List AV}{H':AH}:sq TT r f s H=some (ds,H')->ez r f s H ds H':=
 aB.casesOn (motive:=λs=>sq TT r f s H=some (ds,H')->ez r f s H ds H') s (λl=>l6 .items λ_ _=>rfl) (λl=>l6 .pairs λ_ _=>rfl) (λ_ _=>kt) (λ_ _=>kt) λ_=>kt
end
theorem xg{ns:List Str}{nx:Nat}:∀{k:Nat} {x:Str} {i:Nat},((ns.zipIdx k).map λp=>(p.1,nx+p.2)).lookup x=some i->∃ j,ns[j]? =some x/\i=nx+(k+j):=
 List.rec (motive:=λns=>∀{k:Nat} {x:Str} {i:Nat},((ns.zipIdx k).map λp=>(p.1,nx+p.2)).lookup x=some i->∃ j,ns[j]? =some x/\i=nx+(k+j)) no
  (λy l ih {k x i} e=>by
   rw[List.zipIdx_cons,Vc,XF] at e
   cases q:x==y with
   |true=>rw[q] at e;exact⟨0,congrArg some (eq_of_beq q).symm,(sj e).symm⟩
   |false=>
    rw[q] at e
    exact(ih e).elim λj z=>⟨j+1,z.1,z.2.trans (congrArg (nx+ ·) (Vy k 1 j))⟩) ns
theorem gy{ns:List Str}{nx:Nat}{sg:Sg}{x:Str}{i:Nat}{P:Prop}(e:(cH ns nx++sg).lookup x=some i)(k:∀ j,ns[j]? =some x->i=nx+j->P)(l:(cH ns nx).lookup x=none->sg.lookup x=some i->P):P:=by
 rw[We] at e
 cases q:(cH ns nx).lookup x with
 |none=>rw[q] at e;exact l q e
 |some j=>
  rw[q] at e
  exact(xg (k:=0) q).elim λj' z=>k j' z.1 ((sj e).symm.trans (z.2.trans (congrArg (nx+ ·) (Wf _))))
theorem Ea{ns:List Str}{nx:Nat}{sg:Sg}{x:Str}{i:Nat}(h:∀ y∈ns,sg.lookup y=none)(e:sg.lookup x=some i):(cH ns nx++sg).lookup x=some i:=by
 rw[We]
 cases q:(cH ns nx).lookup x with
 |none=>exact e
 |some j=>exact(xg (k:=0) q).elim λj z=>no ((h x (VM z.1)).symm.trans e)
abbrev jJ(ρ:ae)(n:Nat):ae:=ρ++U2 n none
theorem k9{ρ:ae}{n:Nat}:(jJ ρ n).length=ρ.length+n:=(UM).trans (congrArg (ρ.length+ ·) List.length_replicate)
theorem xh{ρ:ae}{n i:Nat}{d:AV}(h:ρ.length<=i):(jJ ρ n)[i]? ≠some (some d):=λe=>by
 rw[List.getElem?_append_right h] at e
 exact nomatch (List.mem_replicate.mp (VM e)).2
theorem s6{ρ:ae}{n i:Nat}(h:i<ρ.length):(jJ ρ n)[i]? =ρ[i]? :=List.getElem?_append_left h
section
variable {c:Cx}{K:Frag}{w w' w0:Wd}{H H':AH}{O OF OF' OF0:PH}{A:Vh}{E:UF->UJ->Prop}{s:UJ}{d:AV}{n:Nat}{r:R}{ks:Ks}{sg sg1 sg2:Sg}{ρ ρ' ρ1 ρ2:ae}{env:Env}{f:Nat}{wr:List Addr}{h h':Heap}{D:Addr}{ds:List AV}
theorem FS.view(F2:FS c w O OF ks sg2 ρ2 env)(F1:FS c w0 O OF0 ks sg1 ρ1 env)(hs:∀ x i,sg1.lookup x=some i->sg2.lookup x=some i)(hv:∀ x i d,sg1.lookup x=some i->ρ1[i]? =some (some d)->ρ2[i]? =some (some d)):FS c w O OF ks sg1 ρ1 env:=
 {F2 with
  er:={F2.er with
   rd:=λx i d hx hs1 hi=>F2.er.rd x i d (hs x i hx) hs1 (hv x i d hx hi)
   cl:=λx i hx hs1 hk=>F2.er.cl x i (hs x i hx) hs1 hk
   fz:=λx i hx hs1=>(F2.er.fz x i (hs x i hx) hs1).imp_right (.imp λv=>.imp_right λq d hi=>q d (hv x i d hx hi))
   bnd:=F1.er.bnd}
  six:=F1.six}
theorem FS.grow(F:FS c w O OF ks sg ρ env){ns:List Str}(hk:ns.all (cZ ks)=true):FS c w O OF ks (cH ns ρ.length++sg) (jJ ρ ns.length) env:=
 have lc:∀{j x},ns[j]? =some x->cZ ks x=true:=λe=>UP.mp hk _ (VM e)
 have lt:∀{j x},ns[j]? =some x->j<ns.length:=λe=>(List.getElem?_eq_some_iff.mp e).1
 have old:∀{x i},sg.lookup x=some i->i<ρ.length:=λe=>F.er.bnd _ _ e
 {F with
  er:={F.er with
   rd:=λx i d hx hs1 hi=>gy hx (λj _ e=>absurd hi (xh (e▸Vi _ _))) λ_ q=>F.er.rd x i d q hs1 ((s6 (old q)).symm.trans hi)
   fz:=λx i hx hs1=>gy hx (λj e _=>(sH F.er (lc e)).elim (λk=>no (hs1.symm.trans k.1)) λk=>no (hs1.symm.trans k.1)) λ_ q=>(F.er.fz x i q hs1).imp_right (.imp λv=>.imp_right λz d hi=>z d ((s6 (old q)).symm.trans hi))
   cl:=λx i hx hs1 hkk=>gy hx (λj e _=>(sH F.er (lc e)).elim (λk=>hkk.elim (λz=>nomatch sj (z.symm.trans k.2)) λz=>nomatch sj (z.symm.trans k.2)) λk=>(F.own x k.2 k.1).imp λv=>.imp λa o _=>bc) λ_ q=>F.er.cl x i q hs1 hkk
   bnd:=λx i hx=>k9▸gy hx (λj e q=>q▸Nat.add_lt_add_left (lt e) _) λ_ q=>U7 (old q) (Vi _ _)}
  six:=λx y i hst hx hy=>gy hx (λj e q=>gy hy (λj' e' q'=>sj ((Nat.add_left_cancel (q.symm.trans q')▸e).symm.trans e')) λ_ q'=>absurd (old q') (q▸XN (Vi _ _)))
   λ_ q=>gy hy (λj' e' q'=>absurd (old q) (q'▸XN (Vi _ _))) λ_ q'=>F.six x y i hst q q'}
structure LS(c:Cx)(w:Wd)(H:AH)(O OF:PH)(ks:Ks)(sg:Sg)(ρ:ae)(env:Env)(D:Addr)(ds:List AV)(h:Heap):Prop where
 fs:FS c w O OF ks sg ρ env
 st:St c w H (un O OF) h
 ap:aR w O OF [D] h
 ls:∃ us m,h.get? D=some (U5 "list" (WV us) m)/\VRs c w ds us
noncomputable def iR(es:List Expr)(env:Env)(b:Bool):Sem Bool:=forIn es b λc r=>if r=true then do let ok <-VO c env (eval c env);pure (VI ok) else pure (VI r)
theorem yV(hB:cS c n r)(hA:aG n A){l:List IE}{es:List Expr}(h:de (ar f ks sg ρ.length) l es=true):∀{w:Wd} {H:AH},ER c w O ks sg ρ env->bw c A O w H (bk r l ρ H) (iR es env true) Bd:=
 have stay:∀(es:List Expr) {s1:UJ} {Q:Bool->UJ->Prop} {E:UF->UJ->Prop},Q false s1->UI (UN c.prog c.w) A (iR es env false) Q E s1:=λes=>List.rec (motive:=λes=>∀{s1:UJ} {Q:Bool->UJ->Prop} {E:UF->UJ->Prop},Q false s1->UI (UN c.prog c.w) A (iR es env false) Q E s1) (λq=>UE q)
  (λy es ih {s1 Q E} q=>by
   simp only[iR,VT,Vq,if_false]
   exact UA (UE (ih q))) es
 kI (f:=ar f ks sg ρ.length) (P:=λl es=>∀{w:Wd} {H:AH},ER c w O ks sg ρ env->bw c A O w H (bk r l ρ H) (iR es env true) Bd) (λ_ d H' e s Q E S hQ=>UE ((hQ.pr e).here S rfl))
  (λi l x es _ h1 _ ih {w H} R d H' e s Q E S hQ=>by
   simp only[iR,VT,if_true]
   exact UA (UA ((hB h1 hA R).k e S λb H1 w1 m1 t1 v e l1 S1 q=>UE (by
    cases(show v=b from q)
    exact eg e (λhb e=>by cases hb;exact ih (R.mono l1) _ _ e _ _ _ S1 (hQ.after l1)) λhb e=>by cases hb;exact stay es (hQ.pr e w1 m1 t1 _ l1 S1 rfl))))) h
theorem j8(F:FS c w O OF ks sg ρ env)(hP:aR w O OF wr h){w1:Wd}{h1:Heap}(l:w.le w1)(S1:St c w1 H (un (un O (b8 h wr)) OF) h1):St c w1 H (un O OF) h1/\aR w1 O OF wr h1/\∀ a∈wr,h1.get? a=h.get? a:=S1.unhold hP ((F.hold hP).mono l)
theorem aR.join{D:Addr}(h1:aR w O OF [D] h)(h2:aR w O OF wr h):aR w O OF (D::wr) h:=λa q=>(U0.mp q).elim (λq=>q▸h1 D m0) (h2 a)
theorem aR.up{w2:List Addr}(hP:aR w O OF wr h)(hd:∀ a∈wr,a∉w2):aR w (un O (b8 h' w2)) OF wr h:=λa q=>{hP a q with o:=(bU (jS (hd a q))).trans (hP a q).o}
theorem CP{O OF:PH}{a:Addr}(h:un O OF a=none):O a=none/\OF a=none:=
 have z:OF a=none:=UQ.mpr λx q=>no (h.symm.trans (bc q))
 ⟨(bU z).symm.trans h,z⟩
theorem aR.down{w2:List Addr}(hP:aR w (un O (b8 h' w2)) OF wr h):aR w O OF wr h:=λa q=>{hP a q with o:=(CP (hP a q).o).1}
noncomputable def mQ(t:bD)(ρ:ae):Prop:=match t with
 | .one i=>∀ d,ρ[i]? ≠some (some d)
 | .many l=>∀ i∈l,∀ d,ρ[i]? ≠some (some d)
theorem y8{t:bD}{v:AV}{P:bD->ae->Prop}(e:be t v ρ=some ρ1)(o:∀ i v,P (.one i) (c6 ρ i v))(m:∀ i j a b,P (.many [i,j]) (c6 (c6 ρ i a) j b)):P t ρ1:=
 bD.casesOn (motive:=λt=>be t v ρ=some ρ1->P t ρ1) t (λi e=>se (P:=λρ1=>P (.one i) ρ1) e (o i v)) (λl e=>nU (P:=λl=>P (.many l) ρ1) e λi j e=>az e λl' _ e=>nU (P:=λ_=>P (.many [i,j]) ρ1) e λa b e=>se (P:=λρ1=>P (.many [i,j]) ρ1) e (m i j a b)) e
theorem tR{t:bD}{v:AV}(e:be t v ρ=some ρ1):ρ1.length=ρ.length:=y8 (P:=λ_ ρ1=>ρ1.length=ρ.length) e (λ_ _=>Wo) λ_ _ _ _=>Wo.trans Wo
theorem CZ{t:bD}{v:AV}(e:be t v ρ=some ρ1)(hn:mQ t ρ){i:Nat}{d:AV}(h:ρ[i]? =some (some d)):ρ1[i]? =some (some d):=
 y8 (P:=λt ρ1=>mQ t ρ->ρ1[i]? =some (some d)) e (λj v hn=>(iI (i:=j) (j:=i) λq=>hn d (q▸h)).trans h) (λj k a b hn=>(iI (i:=k) (j:=i) λq=>hn k (m1 m0) d (q▸h)).trans ((iI (i:=j) (j:=i) λq=>hn j m0 d (q▸h)).trans h)) hn
theorem Ct{src src':aB}{x:AV}{H1:AH}:aX TT r src H=some (some (x,src'),H1)->ig src=ig src':=by
 refine aB.casesOn (motive:=λsrc=>aX TT r src H=some (some (x,src'),H1)->ig src=ig src') src (λl e=>?_) (λl e=>?_) (λn k e=>az e λo _ e=>hJ (P:=λ_=>_) e λl e=>?_) (λa b e=>aP e λp _ _ e=>aP e λq _ _ e=>?_) (λn e=>(v3 e).1▸rfl)
 ·exact(Wv.mp (UW (sj e)).1).elim λy z=>(UW z.2).2▸rfl
 ·exact(Wv.mp (UW (sj e)).1).elim λy z=>(UW z.2).2▸rfl
 ·exact(Wv.mp (UW (sj e)).1).elim λy z=>(UW z.2).2▸rfl
 ·exact aP (UW (sj e)).1 λ_ _ _ e=>aP e λ_ _ _ e=>(UW (sj e)).2▸rfl
theorem rC{t:bD}{src src':aB}{x:AV}{H1:AH}(e:aX TT r src H=some (some (x,src'),H1)):dj t src=dj t src':=congrArg (λb=>!(gf t&&b)) (Ct e)
theorem LS.keep(L:LS c w H O OF ks sg ρ env D ds h){ρ':ae}{w1:Wd}{h1:Heap}{H1:AH}(l:w.le w1)(F:FS c w1 O OF' ks sg ρ' env)(S:St c w1 H1 (un O OF') h1)(a:aR w1 O OF' [D] h1)(e:h1.get? D=h.get? D):LS c w1 H1 O OF' ks sg ρ' env D ds h1:=
 ⟨F,S,a,L.ls.imp λus=>.imp λm q=>⟨e.trans q.1,q.2.mono l⟩⟩
theorem LS.mono_post(L:LS c w H O OF ks sg ρ env D ds h)(hW:aR w O OF wr h){w1:Wd}{h1:Heap}{H1:AH}(l:w.le w1)(S1:St c w1 H1 (un (un O (b8 h (D::wr))) OF) h1):
  LS c w1 H1 O OF ks sg ρ env D ds h1/\aR w1 O OF wr h1/\∀ a∈wr,h1.get? a=h.get? a:=
 have z:=j8 L.fs (L.ap.join hW) l S1
 ⟨L.keep l (L.fs.mono l) z.1 (λa q=>z.2.1 a (fy q λq=>q▸m0)) (z.2.2 D m0),λa q=>z.2.1 a (m1 q),λa q=>z.2.2 a (m1 q)⟩
theorem LS.push(L:LS c w H O OF ks sg ρ env D ds s.heap){x:AV}{u:UF}(hx:VR c w x u)(hz:ds.length<=1000000){Q:UF->UJ->Prop}(hQ:∀ h',LS c w H O OF ks sg ρ env D (ds++[x]) h'->Q .none {s with heap:=h'}):UI (UN c.prog c.w) A (call (.builtin "list.append") [.ref D,u]) Q E s:=
 L.ls.elim λus k=>k.elim λm k=>append_at k.1 (λh' hs hh=>hQ h' ⟨L.fs,L.st.keepsBut L.ap (λb o hb e=>hs.extBut b o (λq=>hb (q▸m0)) e),L.ap.to λa q=>fy q λq=>q▸⟨_,hh⟩,us++[u],m+1,hh.trans (congrArg (λx=>some (U5 "list" x (m+1))) (List.push_toArray ..)),k.2.append (.cons hx .nil)⟩)
  (show us.length<=_ from k.2.length▸UH hz (by decide))
end
end
section
section
variable {c:Cx}{K:Frag}{w w' w0:Wd}{H H':AH}{O OF OF' OF0:PH}{A:Vh}{E:UF->UJ->Prop}{s:UJ}{d:AV}{n:Nat}{r:R}{ks:Ks}{sg sg1 sg2:Sg}{ρ ρ' ρ1 ρ2:ae}{env:Env}{f:Nat}{wr:List Addr}{h h':Heap}{D:Addr}{ds:List AV}
noncomputable def oX(c:Cx)(A:Vh)(elt:Expr)(gens:List Vo)(scope:V1)(pos:Pos)(k:Nat)(D:Addr)(env:Env)(te:Expr)(ifs:List Expr)(Em:(UJ->Prop)->(UF->UJ->Prop)->UJ->Prop):Prop:=
 ∀(itv:UF) (s:UJ) (Z N:UJ->Prop) (E:UF->UJ->Prop) (Qf:Yz->UJ->Prop),(∀ s',N s'->Qf (.done .next) s')->(∀ s',Z s'->Qf (.again (.compLoop (.ListComp elt gens scope pos) k itv (.ref D) env)) s')->
  g9 c A E te env itv N (λs₂=>UI (UN c.prog c.w) A (iR ifs env true) (λok s₃=>if ok=true then Em Z E s₃ else Z s₃) E s₂) s->UI (UN c.prog c.w) A (compTurn (.ListComp elt gens scope pos) k itv (.ref D) env) Qf E s
noncomputable def vF(c:Cx)(ks:Ks)(sg:Sg)(env:Env)(D:Addr)(len:Nat)(f2:ae->AH->Option (List AV×AH))(Em:(UJ->Prop)->(UF->UJ->Prop)->UJ->Prop):Prop:=
 ∀{w:Wd} {O OF:PH} {H1:AH} {a:List AV} {H2:AH} {ρ1:ae} {ds:List AV} {s:UJ} {Z:UJ->Prop} {E:UF->UJ->Prop},ρ1.length=len->f2 ρ1 H1=some (a,H2)->LS c w H1 O OF ks sg ρ1 env D ds s.heap->(ds++a).length<=1000000->
  (∀ w' OF' h' tk,w.le w'->LS c w' H2 O OF' ks sg ρ1 env D (ds++a) h'->Z (aI s h' tk))->Em Z E s
theorem tV(hB:cS c n r)(hA:aG (n+1) A)(hCit:cW c n r){elt:Expr}{gens:List Vo}{scope:V1}{pos:Pos}{k:Nat}{t:bD}{te:Expr}{ifs:List IE}{ifes:List Expr}
  {Em:(UJ->Prop)->(UF->UJ->Prop)->UJ->Prop} {f2:ae->AH->Option (List AV×AH)} (hR:oX c A elt gens scope pos k D env te ifes Em) (hEm:vF c ks sg env D ρ.length f2 Em)
  (hc:iW ks sg t te=true) (hi:de (ar f ks sg ρ.length) ifs ifes=true) (hna:mQ t ρ) {src:aB} {ds2:List AV} (run:ez r (λv H=>bJ r t ifs f2 v ρ H) src H ds2 H'):
  ∀{w:Wd} {O OF:PH} {ds:List AV} {s:UJ} {itv:UF} {wr:List Addr} {Rr:Result->UJ->Prop},dj t src=true->LS c w H O OF ks sg ρ env D ds s.heap->eG c w src itv wr s.heap->aR w O OF wr s.heap->D∉wr->(ds++ds2).length<=1000000->
   (∀ w' OF' h' tk,w.le w'->LS c w' H' O OF' ks sg ρ env D (ds++ds2) h'->Rr (.ok .next) (aI s h' tk))->Wp (UN c.prog c.w) A (.compLoop (.ListComp elt gens scope pos) k itv (.ref D) env) Rr s:=by
 induction run with
 | @over src H H' e=>
  intro w O OF ds s itv wr Rr hok L I hW hd hz hQ
  refine Yw (show UI _ A ((compTurn (.ListComp elt gens scope pos) k itv (.ref D) env).onRaise (λx=>do noteFrame x env;theTreesLotGoes x)) _ _ s from wpAny_noted (hR itv s (λ_=>False) (λs'=>Rr (.ok .next) s') _ _ (λ_ q=>q) (λ_ q=>q.elim)
   (Ig hCit e I hok ⟨hA,L.fs.hold L.ap,L.st.hold L.ap,hW.up λa q z=>fy z λz=>hd (z▸q),hc,λ_ w1 h1 tk l F1 S1=>?_,λv src' q=>nomatch q⟩)))
  have z:=j8 L.fs L.ap l S1
  exact hQ w1 OF h1 tk l ((U8 ds).symm▸L.keep l (L.fs.mono l) z.1 z.2.1 (z.2.2 D m0))
 | @turn src src' x H H1 H2 H3 a b e e2 _ ih=>
  intro w O OF ds s itv wr Rr hok L I hW hd hz hQ
  refine az e2 λρ1 eb e2=>aP e2 λok Ht et e2=>Yw (show UI _ A ((compTurn (.ListComp elt gens scope pos) k itv (.ref D) env).onRaise (λx=>do noteFrame x env;theTreesLotGoes x)) _ _ s from
   wpAny_noted (hR itv s (λs'=>Wp (UN c.prog c.w) A (.compLoop (.ListComp elt gens scope pos) k itv (.ref D) env) Rr s') (λ_=>False) _ _ (λ_ q=>q.elim) (λs' q=>⟨rfl,q⟩)
   (Ig hCit e I hok ⟨hA,L.fs.hold L.ap,L.st.hold L.ap,hW.up λa q z=>fy z λz=>hd (z▸q),hc,(λq=>nomatch q),λv src2 q=>have q:=UW (sj q);⟨ρ1,q.1▸eb,λw1 OF1 h1 tk1 l1 F1 S1 I1 W1=>?_⟩⟩)))
  have I1:eG c w1 src' itv wr h1:=q.2▸I1
  have z:=S1.unhold L.ap F1
  have W1':=W1.down
  have L1:LS c w1 H1 O OF1 ks sg ρ1 env D ds h1:=L.keep l1 (L.fs.unhold L.ap F1) z.1 z.2.1 (z.2.2 D m0)
  have hl1:ρ1.length=ρ.length:=tR eb
  have next:∀{w2:Wd} {OF2:PH} {h2:Heap} {tk2:Nat},w1.le w2->LS c w2 H2 O OF2 ks sg ρ1 env D (ds++a) h2->eG c w2 src' itv wr h2->aR w2 O OF2 wr h2->Wp (UN c.prog c.w) A (.compLoop (.ListComp elt gens scope pos) k itv (.ref D) env) Rr (aI s h2 tk2):=λ{w2 OF2 h2 tk2} l2 L2 I2 W2=>
   ih (s:=aI s h2 tk2) ((rC e).symm.trans hok) ⟨L2.fs.view L.fs (λx i hx=>hx) λx i d hx hi=>CZ eb hna hi,L2.st,L2.ap,L2.ls⟩ I2 W2 hd ((U3 ..).symm▸hz) λw3 OF3 h3 tk3 l3 L4=>hQ w3 OF3 h3 tk3 (l1.trans (l2.trans l3)) ((U3 ds a b)▸L4)
  refine yV (f:=f) hB hA.down (hl1.symm▸hi) (L1.fs.hold (L1.ap.join W1')).er _ _ et (aI s h1 tk1) _ _ (L1.st.hold (L1.ap.join W1')) λw2 h2 tk2 v l2 S2 q=>qj q (λhb=>?_) λhb=>?_
  all_goals
   obtain⟨L2,W2,z2⟩:=L1.mono_post W1' l2 S2
   have I2:=(I1.keep z2 λa o e=>⟨L1.st.keep _ _ e,L2.st.keep _ _ (l2.g _ _ e)⟩).mono l2
   rw[hb] at e2
  ·refine hEm (s:=aI s h2 tk2) (O:=un O (b8 h2 wr)) hl1 e2 ⟨L2.fs.hold W2,L2.st.hold W2,L2.ap.up λa q z=>fy q λq=>hd (q▸z),L2.ls⟩ (UH ?_ hz) λw3 OF3 h3 tk3 l3 L4=>?_
   ·rw[UM,UM,UM]
    exact VA (Vi _ _) _
   ·have z3:=L4.st.unhold W2 L4.fs
    exact next (l2.trans l3) ⟨L2.fs.unhold W2 L4.fs,z3.1,L4.ap.down,L4.ls⟩ ((I2.keep z3.2.2 λa o e=>⟨L2.st.keep _ _ e,z3.1.keep _ _ (l3.g _ _ e)⟩).mono l3) z3.2.1
  ·have e2:=UW (sj e2)
   exact next l2 (e2.1▸e2.2▸(U8 ds).symm▸L2) I2 W2
noncomputable def qp(c:Cx)(A:Vh)(elt:Expr)(env:Env)(D:Addr):(UJ->Prop)->(UF->UJ->Prop)->UJ->Prop:=λZ E s₃=>
 UI (UN c.prog c.w) A (eval elt env) (λx s₄=>UI (UN c.prog c.w) A (call (.builtin "list.append") [.ref D,x]) (λ_ s₅=>Z s₅) E s₄) E s₃
theorem tF{elt te:Expr}{gens:List Vo}{scope:V1}{pos p:Pos}{k:Nat}{ifes:List Expr}{Em:(UJ->Prop)->(UF->UJ->Prop)->UJ->Prop}{mid:Sem Yz->Sem Yz}(e:∀ itv:UF,compTurn (.ListComp elt gens scope pos) k itv (.ref D) env=(do
   VY p
   match <-pyNext itv with
   |none=>pure (.done .next)
   |some v=>
    Yv te itv v
    WM te env v
    let ok <-iR ifes env true
    if ok then mid (again (.compLoop (.ListComp elt gens scope pos) k itv (.ref D) env)) else again (.compLoop (.ListComp elt gens scope pos) k itv (.ref D) env)))
  (hm:∀ Z E s,Em Z E s->∀ k Qf,(∀ s',Z s'->UI (UN c.prog c.w) A k Qf E s')->UI (UN c.prog c.w) A (mid k) Qf E s):oX c A elt gens scope pos k D env te ifes Em:=by
 intro itv s Z N E Qf hN hZ hT
 rw[e]
 refine UA (Vp (UA (Vg hT (λv s₁ h₁=>?_) λ_ _ h'=>h')))
 cases v with
 |none=>exact UE (hN _ h₁)
 |some v=>
  refine UA (Vg h₁ (λ_ s₂ h₂=>UA (Vg h₂ (λ_ s₃ h₃=>UA (Vg h₃ (λok s₄ h₄=>?_) λ_ _ h'=>h')) λ_ _ h'=>h')) λ_ _ h'=>h')
  cases ok with
  |false=>exact UE (hZ _ h₄)
  |true=>exact hm _ _ _ h₄ _ _ λs' h=>UE (hZ _ h)
theorem LO{elt:Expr}(Z:UJ->Prop)(E:UF->UJ->Prop)(s:UJ)(h:qp c A elt env D Z E s)(k:Sem Yz)(Qf:Yz->UJ->Prop)(hk:∀ s',Z s'->UI (UN c.prog c.w) A k Qf E s'):
  UI (UN c.prog c.w) A ((do let _ <-call (.builtin "list.append") [.ref D,<-eval elt env])>>=λ_=>k) Qf E s:=
 UA (UA (Vg h (λx s₅ h₅=>UA (Vg h₅ (λ_ s₆ h₆=>UE (hk _ h₆)) λ_ _ h'=>h')) λ_ _ h'=>h'))
theorem QI{elt te iter:Expr}{ifes:List Expr}{scope:V1}{pos:Pos}:oX c A elt [⟨te,iter,ifes,0⟩] scope pos 0 D env te ifes (qp c A elt env D):=
 tF (p:=iter.pos) (mid:=λk=>(do let _ <-call (.builtin "list.append") [.ref D,<-eval elt env])>>=λ_=>k) (λitv=>by rfl) LO
theorem QJ{elt te1 iter1 te iter:Expr}{ifs1 ifes:List Expr}{scope:V1}{pos:Pos}:oX c A elt [⟨te1,iter1,ifs1,0⟩,⟨te,iter,ifes,0⟩] scope pos 1 D env te ifes (qp c A elt env D):=
 tF (p:=iter.pos) (mid:=λk=>(do let _ <-call (.builtin "list.append") [.ref D,<-eval elt env])>>=λ_=>k) (λitv=>by rfl) LO
noncomputable def IC(c:Cx)(A:Vh)(elt te1 iter1 te iter:Expr)(ifs1 ifes:List Expr)(scope:V1)(pos:Pos)(env:Env)(D:Addr):(UJ->Prop)->(UF->UJ->Prop)->UJ->Prop:=λZ E s₃=>
 UI (UN c.prog c.w) A (eval iter env) (λx s₄=>UI (UN c.prog c.w) A (XV x) (λit s₅=>
  Wp (UN c.prog c.w) A (.compStart (.ListComp elt [⟨te1,iter1,ifs1,0⟩,⟨te,iter,ifes,0⟩] scope pos) 1 it (.ref D) env) (λr s'=>match r with | .ok _=>Z s' | .error _=>False) s₅) E s₄) E s₃
theorem j7{e:Expr}{x:UF}(h:gK e=false):foldedSetIterable e env x=pure x:=by
 cases e<;>first|rfl|exact nomatch h
theorem QH{elt te1 iter1 te iter:Expr}{ifs1 ifes:List Expr}{scope:V1}{pos:Pos}(hs:gK iter=false):oX c A elt [⟨te1,iter1,ifs1,0⟩,⟨te,iter,ifes,0⟩] scope pos 0 D env te1 ifs1 (IC c A elt te1 iter1 te iter ifs1 ifes scope pos env D):=
 tF (p:=iter1.pos) (mid:=λk=>do
     let x <-eval iter env
     VY iter.pos
     let x <-foldedSetIterable iter env x
     let _ <-runOwn (.compStart (.ListComp elt [⟨te1,iter1,ifs1,0⟩,⟨te,iter,ifes,0⟩] scope pos) 1 (<-VW [x] (XV x)) (.ref D) env) env
     k) (λitv=>by rfl) λZ E s h k Qf hk=>UA (Vg h (λx s₅ h₅=>UA (Vp (UA (X7 (j7 hs) (UA (U9 (Vg h₅ (λit s₆ h₆=>UA (Vg (wpAny_runOwn (h:=none) (Q:=λ_ s'=>Z s') (E:=E) (codeAny_mono h₆ λr s' hr=>by
  cases r with
  |ok f=>exact hr
  |error e=>exact hr.elim)) (λ_ s₇ h₇=>hk _ h₇) λ_ _ h'=>h')) λ_ _ h'=>h'))))))) λ_ _ h'=>h')
theorem t8(hE:aF c n r)(hA:aG n A){elt:IE}{ee:Expr}{len:Nat}(hc:ar f ks sg len elt ee=true):vF c ks sg env D len (ao TT r elt []) (qp c A ee env D):=λ{w O OF H1 a H2 ρ1 ds s Z E} hl e L hz hQ=>
 (hE (hl.symm▸hc) hA (L.fs.hold L.ap).er).k e (L.st.hold L.ap) λv H3 w1 h1 t1 u e l1 S1 r1=>
  have z:=j8 L.fs L.ap l1 S1
  have e:=UW (sj e)
  LS.push (s:=aI s h1 t1) (L.keep l1 (L.fs.mono l1) z.1 z.2.1 (z.2.2 D m0)) r1 (UH (UM▸Vi _ _) hz) λh' L2=>hQ w1 OF h' t1 l1 (e.1▸e.2▸L2)
theorem Pp{elt te1 iter1 te iter:Expr}{ifs1 ifes:List Expr}{scope:V1}{pos:Pos}{it acc:UF}{R:Result->UJ->Prop}
  (h0:Wp (UN c.prog c.w) A (.compLoop (.ListComp elt [⟨te1,iter1,ifs1,0⟩,⟨te,iter,ifes,0⟩] scope pos) 1 it acc env) R s)
  (h:UI (UN c.prog c.w) A (XV it) (λit' s'=>Wp (UN c.prog c.w) A (.compLoop (.ListComp elt [⟨te1,iter1,ifs1,0⟩,⟨te,iter,ifes,0⟩] scope pos) 1 it' acc env) R s') (notedBy (UN c.prog c.w) A env λx s'=>R (.error x) s') s):
  Wp (UN c.prog c.w) A (.compStart (.ListComp elt [⟨te1,iter1,ifs1,0⟩,⟨te,iter,ifes,0⟩] scope pos) 1 it acc env) R s:=by
 refine Yw (show UI _ _ ((compStart (.ListComp elt [⟨te1,iter1,ifs1,0⟩,⟨te,iter,ifes,0⟩] scope pos) 1 it acc env).onRaise (λx=>do noteFrame x env;VY theWindowsPlace)) _ _ s from wpAny_notedAt ?_)
 unfold compStart
 show UI _ _ (ask>>=_) _ _ s
 refine UA (ZM (wpAny_ite ?_))
 split
 ·first
   |exact UA (UE (UE (And.intro rfl h0)))
   |exact UE (And.intro rfl h0)
 ·first
   |exact UA (Xg (UA (Vp (UA (Vg h (λit' s' h'=>UE (And.intro rfl h')) λ_ _ x=>x)))))
   |(refine UA (Xg ?_);show UI _ _ (VY iter.pos>>=_) _ _ s;exact UA (Vp (UA (Vg h (λit' s' h'=>UE (And.intro rfl h')) λ_ _ x=>x))))
theorem rn{ns:List Str}{sg:Sg}{te:Expr}{t:bD}(hc:iW ks (cH ns ρ.length++sg) t te=true)(hn:iw te=some ns)(hf:∀ y∈ns,sg.lookup y=none):mQ t (jJ ρ ns.length):=by
 have out:∀{x:Str} {i:Nat},x∈ns->(cH ns ρ.length++sg).lookup x=some i->∀ d:AV,(jJ ρ ns.length)[i]? ≠some (some d):=λ{x i} hx hl d=>gy hl (λj _ e=>xh (e▸Vi _ _)) λ_ q=>no ((hf x hx).symm.trans q)
 refine qI (P:=λt te=>iw te=some ns->mQ t (jJ ρ ns.length)) hc (λi x p h1 _ hn=>out (sj hn▸m0) h1) (λi j x y px py k p h1 h2 _ _ hn m hm=>pE hm (λq=>q▸out (sj hn▸m0) h1) λq=>q▸out (sj hn▸(m1 m0:y∈[x,y])) h2) hn
theorem Fl(hT:cM c K)(hE:aF c n r)(hB:cS c n r)(hA:aG (n+1) A)(hCit:cW c n r){elt it:IE}{ee te1 iter1 te iter:Expr}{ifs1 ifes:List Expr}{scope:V1}{pos:Pos}{t:bD}{ns:List Str}{ifs:List IE}{len:Nat}
  (g:ID (ar f) ks ks sg sg len t it ifs te iter ifes ns) (he:ar f ks (cH ns len++sg) (len+ns.length) elt ee=true):vF c ks sg env D len (ao TT r elt [.mk t it ifs]) (IC c A ee te1 iter1 te iter ifs1 ifes scope pos env D):=by
 intro w O OF H1 a H2 ρ1 ds s Z E hlen e L hz hQ
 subst hlen
 refine aP e λsrc H3 e1 e=>aJ e λhok e=>?_
 have run:=oB e
 rw[g.len] at run
 refine nR (O:=un O (b8 s.heap [D])) (OF:=OF) hT hE hA.down g.it e1 (L.fs.hold L.ap).er (L.st.hold L.ap) λw1 h1 tk1 itv wr l1 S1 I1 W1=>?_
 have z:=j8 L.fs L.ap l1 S1
 have L1:LS c w1 H3 O OF ks sg ρ1 env D ds h1:=L.keep l1 (L.fs.mono l1) z.1 z.2.1 (z.2.2 D m0)
 have hd:D∉wr:=λq=>L.ls.elim λus k=>k.elim λm k=>no ((CP (W1 D q).o).2.symm.trans ((jj m0).trans k.1))
 have loop:∀{Rr:Result->UJ->Prop},(∀ s',Z s'->Rr (.ok .next) s')->Wp (UN c.prog c.w) A (.compLoop (.ListComp ee [⟨te1,iter1,ifs1,0⟩,⟨te,iter,ifes,0⟩] scope pos) 1 itv (.ref D) env) Rr (aI s h1 tk1):=λ{Rr} hr=>
  tV (f:=f) (ρ:=jJ ρ1 ns.length) (s:=aI s h1 tk1) hB hA hCit QJ (t8 (f:=f) hE hA.down (k9.symm▸he)) g.tgt (k9.symm▸g.ifs) (rn g.tgt g.nm g.new) run (a1 hok) ⟨L1.fs.grow g.lc,L1.st,L1.ap,L1.ls⟩ I1 W1.down hd hz
   λw2 OF2 h2 tk2 l2 L3=>hr _ (hQ w2 OF2 h2 tk2 (l1.trans l2) ⟨L3.fs.view L1.fs (λx i hx=>Ea g.new hx) λx i d hx hi'=>(s6 (L1.fs.er.bnd x i hx)).trans hi',L3.st,L3.ap,L3.ls⟩)
 exact Pp (s:=aI s h1 tk1) (loop λ_ q=>q) (I1.again (s:=aI s h1 tk1) hA.hd (a2 hok) (loop λ_ q=>q))
end
end
section
section
variable {α:Type}{l:List (Str×α)}{x n:Str}{a b:α}
theorem cN:((x,a)::l).lookup x=some a:=by rw[XF,beq_self_eq_true]
theorem eZ(h:x≠n):((n,a)::l).lookup x=l.lookup x:=by rw[XF,show(x==n)=false from beq_false_of_ne h]
theorem ij{P:Prop}(e:((n,a)::l).lookup x=some b)(k:x=n->a=b->P)(q:x≠n->l.lookup x=some b->P):P:=
 if h:x=n then k h (sj ((show((n,a)::l).lookup x=some a from h▸cN).symm.trans e)) else q h ((eZ h).symm.trans e)
theorem iK(h:l.lookup x=some a):(x,a)∈l:=mem_of_lookup h
theorem Mw(h:(x,a)∈l):(l.lookup x).isSome=true:=
 List.rec (motive:=λl=>(x,a)∈l->(l.lookup x).isSome=true) (λh=>nomatch h) (λp l ih h=>if q:x=p.1 then(show((p.1,p.2)::l).lookup x=some p.2 from q▸cN)▸rfl else(eZ (a:=p.2) (l:=l) q).symm▸(U0.mp h).elim (λe=>absurd (congrArg Prod.fst e) q) ih) l h
end
noncomputable def dT(env:Env):List (Str×V6)->List (Str×Addr)->List (Str×Addr)
 | [],acc=>acc
 |p::r,acc=>dT env r (bif p.2==.free then(p.1,(env.cells.lookup p.1).getD 0)::acc else acc)
theorem lZ{scope:V1}{env:Env}(h:∀ x,(x,U4)∈scope.names->∃ a,env.cells.lookup x=some a):YE scope env=pure (dT env scope.names []):=by
 have go:∀(l:List (Str×V6)) (acc:List (Str×Addr)),(∀ x,(x,U4)∈l->∃ a,env.cells.lookup x=some a)->
   (forIn l acc λ(x:Str×V6) (r:List (Str×Addr))=>if(x.2==U4)=true then(do let a <-cellOf env x.1;pure (VI ((x.1,a)::r))) else(pure (VI r):Sem (ForInStep (List (Str×Addr)))))=pure (dT env l acc):=by
  intro l
  induction l with
  |nil=>intro acc _;rfl
  |cons p l ih=>
   intro acc hp
   obtain⟨n,k⟩:=p
   rw[VT]
   cases hk:k==U4 with
   |true=>
    cases beq_iff_eq.mp hk
    obtain⟨a,ha⟩:=hp n m0
    simp only[if_true,show cellOf env n=pure a by unfold cellOf;rw[ha],pure_bind,dT,ha,YW,hk,cond_true]
    exact ih _ λq hq=>hp q (m1 hq)
   |false=>
    simp only[hk,Vq,if_false,pure_bind,dT,cond_false]
    exact ih _ λq hq=>hp q (m1 hq)
 unfold YE
 simp only[bind_pure]
 rw[<-go scope.names [] h]
theorem JJ{env:Env}{x:Str}{a:Addr}{l:List (Str×V6)}:∀{acc:List (Str×Addr)},(dT env l acc).lookup x=some a->acc.lookup x=some a∨((x,U4)∈l/\a=(env.cells.lookup x).getD 0):=
 List.rec (motive:=λl=>∀{acc:List (Str×Addr)},(dT env l acc).lookup x=some a->acc.lookup x=some a∨((x,U4)∈l/\a=(env.cells.lookup x).getD 0)) .inl
  (λp l ih {acc} e=>(ih e).elim (λq=>by
    cases hk:p.2==U4 with
    |true=>rw[hk] at q;exact ij q (λe1 e2=>.inr ⟨e1.symm▸eq_of_beq hk▸m0,e1.symm▸e2.symm⟩) λ_=>.inl
    |false=>rw[hk] at q;exact .inl q) λq=>.inr ⟨m1 q.1,q.2⟩) l
theorem C8{env:Env}{x:Str}{l:List (Str×V6)}:∀{acc:List (Str×Addr)},((x,U4)∈l∨acc.lookup x=some ((env.cells.lookup x).getD 0))->(dT env l acc).lookup x=some ((env.cells.lookup x).getD 0):=
 List.rec (motive:=λl=>∀{acc:List (Str×Addr)},((x,U4)∈l∨acc.lookup x=some ((env.cells.lookup x).getD 0))->(dT env l acc).lookup x=some ((env.cells.lookup x).getD 0)) (λh=>h.elim (λh=>nomatch h) id)
  (λp l ih {acc} h=>ih (h.elim (λh=>(U0.mp h).elim (λe=>e▸.inr cN) .inl) λh=>.inr (by
    cases p.2==U4 with
    |true=>exact if q:x=p.1 then q▸cN else(eZ q).trans h
    |false=>exact h))) l
theorem iT:∀(l:List (Str×V6)) (n:Nat) (a b:List (Str×Addr)),VH n l (a++b)=VH n l a++b
 | [],_,_,_=>rfl
 |(x,k)::r,n,a,b=>by
  unfold VH
  split
  ·exact iT r (n+1) ((x,n)::a) b
  ·exact iT r n a b
theorem iV:∀{l:List (Str×V6)} {n:Nat} {acc:List (Str×Addr)} {x:Str} {a:Addr},(VH n l acc).lookup x=some a->(x,V8)∈l∨acc.lookup x=some a
 | [],n,acc,x,a,e=>.inr e
 |(y,k)::r,n,acc,x,a,e=>by
  unfold VH at e
  split at e
  ·rename_i hk
   exact(iV e).elim (λq=>.inl (m1 q)) λq=>ij q (λe _=>.inl (e▸(beq_iff_eq.mp hk)▸m0)) λ_=>.inr
  ·exact(iV e).imp m1 id
theorem iU:∀{l:List (Str×V6)} {n:Nat} {acc:List (Str×Addr)} {x:Str},((x,V8)∈l∨(acc.lookup x).isSome=true)->((VH n l acc).lookup x).isSome=true
 | [],n,acc,x,h=>h.elim (λh=>nomatch h) id
 |(y,k)::r,n,acc,x,h=>by
  unfold VH
  split
  ·exact iU (if q:x=y then .inr (q▸cN▸rfl) else h.elim (λh=>(U0.mp h).elim (λe=>absurd (congrArg Prod.fst e) q) .inl) λh=>.inr ((eZ q).symm▸h))
  ·rename_i hk
   exact iU (h.imp (λh=>(U0.mp h).elim (λe=>absurd (beq_iff_eq.mpr (congrArg Prod.snd e).symm) hk) id) id)
theorem lk{env:Env}:∀{l:List (Str×V6)} {x:Str} {k:V6},l.lookup x=some k->
  (l.map λ(n,k)=>if(k==U4&&env.scope.kind==.function&&env.kindOf n==some .cell)=true then(n,V8) else(n,k)).lookup x=some (if(k==U4&&env.scope.kind==.function&&env.kindOf x==some .cell)=true then .cell else k)
 |(n,k')::r,x,k,h=>by
  show W6 x ((if(k'==U4&&env.scope.kind==.function&&env.kindOf n==some .cell)=true then(n,V8) else(n,k'))::_)=_
  exact ij h (λe1 e2=>by
   rw[e1,<-e2]
   split<;>exact cN) λe1 h=>by
   split<;>exact(eZ e1).trans (lk h)
theorem ml{p:Str->Bool}{β:Type}{x:Str}{i:β}{sg:List (Str×β)}:(sg.filter λq=>p q.1).lookup x=some i->sg.lookup x=some i/\p x=true:=
 List.rec (motive:=λsg:List (Str×β)=>(sg.filter λq=>p q.1).lookup x=some i->sg.lookup x=some i/\p x=true) no (λq l ih e=>by
  rw[VE] at e
  obtain⟨y,j⟩:=q
  split at e
  ·rename_i hp
   exact ij e (λe1 e2=>⟨e1▸e2▸cN,e1▸hp⟩) λe1 e=>(ih e).imp_left (eZ e1).trans
  ·rename_i hp
   exact(ih e).elim λa b=>⟨(eZ (x:=x) (n:=y) λq=>hp (q▸b)).trans a,b⟩) sg
section
variable {c:Cx}{K:Frag}{w w' w0:Wd}{H H':AH}{O OF OF' OF0:PH}{A:Vh}{E:UF->UJ->Prop}{s:UJ}{d:AV}{n:Nat}{r:R}{ks:Ks}{sg sg1 sg2:Sg}{ρ ρ' ρ1 ρ2:ae}{env:Env}{f:Nat}{wr:List Addr}{h h':Heap}{D:Addr}{ds:List AV}
theorem yN{scope:V1}{globals:Addr}{cl:List (Str×Addr)}{qual:Str}{Q:Env->UJ->Prop}
  (hQ:Q (newEnv scope s.heap.objs.size globals (VH (s.heap.objs.size+1) scope.names cl) qual none .none (some env) Wy) {s with heap:=Yu (s.heap.push {cls:=.type "dict",data:=.dict #[]}) scope.names}):
  UI (UN c.prog c.w) A (Xw scope globals cl [] qual none .none (some env)) Q E s:=by
 simp only[Xw,Option.isSome_some,if_true]
 refine UA (Y1 (UA (wpAny_layCells _ (λname kind cells=>by cases hkc:kind==V8<;>simp[hkc]) _ _ _ _ ?_)))
 rw[show({s with heap:=s.heap.push {cls:=.type "dict",data:=.dict #[]}}:UJ).heap.objs.size=s.heap.objs.size+1 from Xi ..]
 exact UA (UE (UE hQ))
noncomputable def bX:PH:=λ_=>none
structure NF(c:Cx)(w:Wd)(H:AH)(O:PH)(h:Heap)(names:List (Str×V6))(hp:Heap)(OF:PH):Prop where
 st:St c w H (un O OF) hp
 keep:∀ b o,h.get? b=some o->hp.get? b=some o
 out:∀ a o,OF a=some o->h.get? a=none
 loc:∃ o,OF h.objs.size=some o/\qr o λ_=>none
 cell:∀ x,(x,V8)∈names->∃ a o,(VH (h.objs.size+1) names []).lookup x=some a/\OF a=some o/\o.data= .cell none
 mem:∀ x a,(VH (h.objs.size+1) names []).lookup x=some a->(x,V8)∈names
 inj:∀ x y a,(VH (h.objs.size+1) names []).lookup x=some a->(VH (h.objs.size+1) names []).lookup y=some a->x=y
theorem NF.of(T:String)(names:List (Str×V6))(S:St c w H O h):∃ OF,NF c w H O h names (Yu (h.push {cls:=.type T,data:=.dict #[]}) names) OF:=by
 have keep:∀ b o,h.get? b=some o->(Yu (h.push {cls:=.type T,data:=.dict #[]}) names).get? b=some o:=λb o e=>pushCells_keeps _ _ b o (Heap.get?_push_of_some _ e)
 have ok:=cellsFrom_ok names (h.push {cls:=.type T,data:=.dict #[]}) (h.objs.size+1) [] ⟨λ_ _ hm=>(nomatch hm),List.Pairwise.nil⟩ (Vv (Xi ..).symm)
 rw[Xi] at ok
 have hL:(Yu (h.push {cls:=.type T,data:=.dict #[]}) names).get? h.objs.size=some {cls:=.type T,data:=.dict #[]}:=pushCells_keeps _ _ _ _ (Heap.get?_push_size _ rfl)
 generalize hhp:Yu (h.push {cls:=.type T,data:=.dict #[]}) names=hp at *
 have fr:∀ a∈h.objs.size::(VH (h.objs.size+1) names []).map (·.2),h.get? a=none/\∃ o,hp.get? a=some o:=λa q=>(U0.mp q).elim (λq=>q▸⟨cy _,_,hL⟩) λq=>(UY.mp q).elim λp z=>z.2▸(ok.empty p.1 p.2 z.1).elim λi lo=>
  ⟨UQ.mpr λo' z=>absurd (Vz z) (XN (Nat.le_of_succ_le lo)),i.imp λo z=>z.1⟩
 have A1:aR w O bX (h.objs.size::(VH (h.objs.size+1) names []).map (·.2)) hp:=λa q=>eL (OF:=bX) S (fr a q).1 (fr a q).2
 have inn:∀ a o,b8 hp (h.objs.size::(VH (h.objs.size+1) names []).map (·.2)) a=some o->a∈h.objs.size::(VH (h.objs.size+1) names []).map (·.2):=λa o e=>V9 λnm=>no ((jS nm).symm.trans e)
 exact⟨b8 hp (h.objs.size::(VH (h.objs.size+1) names []).map (·.2)),(S.keeps keep).hold (OF:=bX) A1,keep,λa o e=>(fr a (inn a o e)).1,
  ⟨_,(jj m0).trans hL,(Heap.Ns.new h (.type T)).elim λo k=>(sj ((Heap.get?_push_size _ rfl).symm.trans k.choose_spec.choose_spec.1))▸⟨_,_,k.choose_spec.choose_spec.2⟩⟩,
  λx hx=>(VF.mp (iU (l:=names) (n:=h.objs.size+1) (acc:=[]) (.inl hx))).imp λa ha=>(ok.empty x a (iK ha)).1.imp λo z=>⟨ha,(jj (m1 (UY.mpr ⟨(x,a),iK ha,rfl⟩))).trans z.1,z.2⟩,
  λx a e=>(iV e).elim id no,λx y a hx hy=>name_of_addr ok.apart (iK hx) (iK hy)⟩
structure mR(ks:Ks)(sg:Sg)(sc:V1):Prop where
 kind:sc.kind= .function
 all:∀ x k,(x,k)∈sc.names->sc.names.lookup x=some k/\k≠.globalExplicit
 free:∀ x,(x,U4)∈sc.names->(ks.lookup x=some .cell∨ks.lookup x=some .free∨ks.lookup x=none)/\(sg.lookup x).isSome=true
theorem rA{sc:V1}(h:tv ks sg sc=true):mR ks sg sc:=
 have k:=λx kd (hx:(x,kd)∈sc.names)=>UP.mp (a2 h) (x,kd) hx
 ⟨eq_of_beq (a1 h),λx kd hx=>⟨eq_of_beq (a1 (k x kd hx)),bne_iff_ne.mp (a1 (a2 (k x kd hx)))⟩,λx hx=>(Vr.mp (a2 (a2 (k x _ hx)))).elim (λq=>absurd rfl (bne_iff_ne.mp q)) λq=>
  ⟨(Vr.mp (a1 q)).imp eq_of_beq λq=>(Vr.mp q).imp eq_of_beq Vm.mp,a2 q⟩⟩
theorem iE{sc:V1}{x:Str}{k:V6}(h:(bO ks sc).lookup x=some k):((x,k)∈sc.names/\(k= .free->(ks.lookup x).isSome=true))∨(k= .globalExplicit/\ks.lookup x=some .globalExplicit):=by
 have mark:∀{j:Nat},(x,k)∈(if ks.lookup (dt j)=some .globalExplicit then[(dt j,Zv)] else[])->k= .globalExplicit/\ks.lookup x=some .globalExplicit:=λ{j} q=>by
  split at q
  ·rename_i z
   have q:=UW (US.mp q)
   exact⟨q.2,q.1▸z⟩
  ·exact nomatch q
 exact(Ve.mp (iK h)).elim (λq=>.inl ⟨(UZ.mp q).1,λe=>(Vr.mp (UZ.mp q).2).elim (λz=>absurd e (bne_iff_ne.mp z)) id⟩) λq=>.inr ((Ve.mp q).elim mark mark)
theorem oA{sc:V1}(ho:mR ks sg sc){x:Str}(hx:(x,U4)∈sc.names)(h:((bO ks sc).lookup x).isSome=true):(ks.lookup x).isSome=true:=
 (VF.mp h).elim λk hk=>(iE hk).elim (λq=>q.2 (sj ((ho.all x _ q.1).1.symm.trans (ho.all x _ hx).1))) λq=>q.2▸rfl
theorem yB{sc:V1}{x:Str}(hx:(x,U4)∈sc.names)(h:(bO ks sc).lookup x=none):ks.lookup x=none:=
 UQ.mpr λk q=>absurd (h▸Mw (List.mem_append_left _ (UZ.mpr ⟨hx,Vr.mpr (.inr (q▸rfl))⟩):(x,U4)∈bO ks sc)) nofun
theorem ug{sc:V1}(R:ER c w O ks sg ρ env)(ho:mR ks sg sc){x:Str}(hx:(x,U4)∈sc.names):
  ∃ a o v,env.cells.lookup x=some a/\(O a=some o∨(ks.lookup x=none/\w.G a=some o))/\o.data= .cell v/\Kc env x:=
 (VF.mp (ho.free x hx).2).elim λi hi=>if q0:ks.lookup x=none then(R.fz x i hi q0).elim λz q=>q.elim λv q=>Wj (λa=>Wj λo k=>⟨_,k.1,.inr ⟨q0,k.2.1⟩,k.2.2,z⟩) q.1
  else have hk:Kc env x:=(ho.free x hx).1.elim (λq=>(R.kd _ _ q nofun).elim .inl λz=>nomatch z.1) λq=>q.elim (λq=>(R.kd _ _ q nofun).elim .inr λz=>.inl z.2) λq=>absurd q q0
   (R.cl x i hi (Xb.mpr q0) hk).elim λv q=>Wj (λa=>Wj λo k=>⟨v,k.1,.inl k.2.1,k.2.2,hk⟩) q
theorem qJ{sc:V1}(R:ER c w O ks sg ρ env)(ho:mR ks sg sc):YE sc env=pure (dT env sc.names []):=lZ λx hx=>(ug R ho hx).imp λa k=>k.elim λo k=>k.elim λv k=>k.1
def aM(sc:V1)(env:Env)(h:Heap):Env:={newEnv sc h.objs.size env.globals (VH (h.objs.size+1) sc.names (dT env sc.names [])) env.qual none .none (some env) Wy with scope:=relabel sc env}
noncomputable def cm(sc:V1)(h:Heap):Heap:=Yu (h.push {cls:=.type "dict",data:=.dict #[]}) sc.names
theorem Bu{sc:V1}(R:ER c w O ks sg ρ env)(ho:mR ks sg sc)(S:St c w H O h):
  ∃ OF,FS c w O OF (bO ks sc) (sg.filter λp=>sc.names.lookup p.1==some .free) ρ (aM sc env h)/\St c w H (un O OF) (cm sc h)/\(∀ b o,h.get? b=some o->(cm sc h).get? b=some o)/\(∀ a o,OF a=some o->h.get? a=none):=by
 obtain⟨OF,N⟩:=NF.of "dict" sc.names S
 have cellsEq:(aM sc env h).cells=VH (h.objs.size+1) sc.names []++dT env sc.names []:=iT sc.names (h.objs.size+1) [] (dT env sc.names [])
 have nO:∀{a o},O a=some o->OF a=none:=λe=>UQ.mpr λx q=>no ((N.out _ x q).symm.trans ((S.own _ _ e).1))
 have nG:∀{a o},w.G a=some o->OF a=none:=λe=>UQ.mpr λx q=>no ((N.out _ x q).symm.trans (S.keep _ _ e))
 have look:∀{x a},(aM sc env h).cells.lookup x=some a->(VH (h.objs.size+1) sc.names []).lookup x=some a∨((x,U4)∈sc.names/\a=(env.cells.lookup x).getD 0):=λ{x a} e=>by
  rw[cellsEq,We] at e
  cases q:(VH (h.objs.size+1) sc.names []).lookup x with
  |some b=>rw[q] at e;exact .inl e
  |none=>rw[q] at e;exact .inr ((JJ e).elim no id)
 have outer:∀{x},(x,U4)∈sc.names->∃ a o v,env.cells.lookup x=some a/\(O a=some o∨(ks.lookup x=none/\w.G a=some o))/\o.data= .cell v/\(aM sc env h).cells.lookup x=some a/\Kc env x:=λ{x} hx=>
  (ug R ho hx).imp λa=>.imp λo=>.imp λv k=>⟨k.1,k.2.1,k.2.2.1,by
   rw[cellsEq,We,show(VH (h.objs.size+1) sc.names []).lookup x=none from UQ.mpr λb q=>nomatch sj ((ho.all x _ (N.mem _ _ q)).1.symm.trans (ho.all x _ hx).1)]
   exact(C8 (.inl hx)).trans (congrArg (λo=>some (Option.getD o 0)) k.1),k.2.2.2⟩
 have ownAt:∀{x},(x,V8)∈sc.names->eR OF (aM sc env h) x none:=λ{x} hx=>(N.cell x hx).imp λa=>.imp λo k=>⟨by rw[cellsEq,We,k.1];rfl,k.2⟩
 have kindAt:∀{x k},sc.names.lookup x=some k->(aM sc env h).kindOf x=some k∨(k= .free/\(aM sc env h).kindOf x=some .cell):=λ{x k} e=>by
  have:=(show(aM sc env h).kindOf x=_ from lk e)
  split at this
  ·rename_i q;exact .inr ⟨eq_of_beq (a1 (a1 q)),this⟩
  ·exact .inl this
 have nm:∀{x i},(sg.filter λp=>sc.names.lookup p.1==some U4).lookup x=some i->sg.lookup x=some i/\(x,U4)∈sc.names:=λhx=>(ml (p:=λy=>sc.names.lookup y==some U4) hx).imp_right λq=>iK (eq_of_beq q)
 have kc:∀{x},(x,U4)∈sc.names->Kc (aM sc env h) x:=λhx=>(kindAt (ho.all _ _ hx).1).elim .inr λq=>.inl q.2
 refine⟨OF,{er:=?_,dis:=λa o e=>S.o_none (N.out a o e),loc:=N.loc.imp λo z=>⟨_,z⟩,own:=λx hx hx2=>⟨none,ownAt ((iE hx2).elim (λq=>q.1) λq=>nomatch q.1)⟩,inj:=λx y a o hx hy hz=>?_,six:=λx y i hst hx hy=>?_,cel:=λx a hx=>?_},N.st,N.keep,N.out⟩
 ·exact {R with
   fk:=ho.kind
   kd:=λx k e hke=>kindAt ((iE e).elim (λq=>(ho.all _ _ q.1).1) λq=>absurd q.1 hke)
   fz:=λx i hx hs1=>⟨kc (nm hx).2,(R.fz x i (nm hx).1 (yB (nm hx).2 hs1)).2.imp λv q=>⟨q.1.elim λa k=>(outer (nm hx).2).elim λa' j=>j.elim λo' j=>j.elim λv' j=>k.elim λo k=>⟨a,o,sj (j.1.symm.trans k.1)▸j.2.2.2.1,k.2⟩,q.2⟩⟩
   lam:=λk kl e=>(iE e).elim (λq=>absurd rfl (ho.all _ _ q.1).2) λq=>R.lam k kl q.2
   rd:=λx i d hx hs1 hi=>(R.rd x i d (nm hx).1 (oA ho (nm hx).2 hs1) hi).imp λv q=>⟨q.1,(outer (nm hx).2).elim λa j=>j.elim λo j=>j.elim λv' j=>q.2.elim (λr=>j.2.2.2.2.elim (λz=>nomatch sj (z.symm.trans r.1)) λz=>nomatch sj (z.symm.trans r.1))
    λr=>.inr ⟨kc (nm hx).2,r.2.elim λa1 k=>k.elim λo1 k=>⟨a1,o1,sj (j.1.symm.trans k.1)▸j.2.2.2.1,(bU (nO k.2.1)).trans k.2.1,k.2.2⟩⟩⟩
   cl:=λx i hx hs1 hk=>have hs2:=oA ho (nm hx).2 hs1
    (outer (nm hx).2).elim λa j=>j.elim λo j=>j.elim λv' j=>⟨v',a,o,j.2.2.2.1,j.2.1.elim (λt=>(bU (nO t)).trans t) λt=>absurd t.1 (Xb.mp hs2),j.2.2.1⟩
   bnd:=λx i hx=>R.bnd x i (nm hx).1}
 ·have nf:∀{z},(z,U4)∈sc.names->a=(env.cells.lookup z).getD 0->x=y:=λhz1 hz2=>(outer hz1).elim λa' j=>j.elim λo' j=>j.elim λv' j=>
   have e:a=a':=hz2.trans (j.1▸rfl)
   j.2.1.elim (λt=>no ((nO t).symm.trans (e▸hz))) λt=>no ((nG t.2).symm.trans (e▸hz))
  exact(look hx).elim (λp=>(look hy).elim (N.inj x y a p) λq=>nf q.1 q.2) λp=>nf p.1 p.2
 ·have bad:∀{k},(bO ks sc).lookup x=some k->k≠.free->k≠.globalExplicit->x=y:=λe h1 h2=>(iE e).elim (λq=>absurd (sj ((ho.all _ _ q.1).1.symm.trans (ho.all _ _ (nm hx).2).1)) h1) λq=>absurd q.1 h2
  unfold cZ at hst
  split at hst
  ·rename_i q;exact bad q nofun nofun
  ·rename_i q;exact bad q nofun nofun
  ·exact ft hst
 ·exact(look hx).elim (λp=>(ownAt (N.mem _ _ p)).elim λa' k=>k.elim λo k=>⟨o,none,.inl (bc (sj (k.1.symm.trans hx)▸k.2.1)),k.2.2⟩)
   λp=>(outer p.1).elim λa' j=>j.elim λo j=>j.elim λv' j=>⟨o,v',sj (j.2.2.2.1.symm.trans hx)▸j.2.1.imp (λt=>(bU (nO t)).trans t) λt=>t.2,j.2.2.1⟩
end
end
section
section
variable {c:Cx}{K:Frag}{w w' w0:Wd}{H H':AH}{O OF OF' OF0:PH}{A:Vh}{E:UF->UJ->Prop}{s:UJ}{d:AV}{n:Nat}{r:R}{ks:Ks}{sg sg1 sg2:Sg}{ρ ρ' ρ1 ρ2:ae}{env:Env}{f:Nat}{wr:List Addr}{h h':Heap}{D:Addr}{ds:List AV}
noncomputable def qo(c:Cx)(A:Vh)(E:UF->UJ->Prop)(el:Expr)(cs:List Vo)(sc:V1)(pos:Pos)(env:Env)(RR:UF->Addr->Result->UJ->Prop)(ie:Expr)(s:UJ):Prop:=
 UI (UN c.prog c.w) A (eval ie env) (λx s₁=>UI (UN c.prog c.w) A (XV x) (λit s₂=>UI (UN c.prog c.w) A (newList []) (λacc s₃=>
   UI (UN c.prog c.w) A (Xw sc env.globals (dT env sc.names []) [] env.qual none .none (some env)) (λcenv s₄=>
    Wp (UN c.prog c.w) A (.compStart (.ListComp el cs sc pos) 0 it acc {cenv with scope:=relabel sc env}) (RR acc cenv.locals) s₄) E s₃) E s₂) E s₁) E s
structure yY(c:Cx)(w:Wd)(H:AH)(O:PH)(vs:List AV)(h:Heap)(D C:Addr):Prop where
 st:St c w H O h
 ls:∃ us m,h.get? D=some (U5 "list" (WV us) m)/\VRs c w vs us
 d:gu w O bX h D
 cc:gu w O bX h C
 ns:∃ mm,h.Ns C mm
 ne:C≠D
theorem Bv{sc:V1}{ns:List Str}{src:aB}{itv:UF}{H3:AH}(R:ER c w O ks sg ρ env)(ho:mR ks sg sc)(hk:ns.all (cZ (bO ks sc))=true){h1:Heap}(S1:St c w H3 O h1)(I1:eG c w src itv wr h1)(W1:aR w O bX wr h1):
  ∃ OF,LS c w H3 O OF (bO ks sc) (cH ns ρ.length++sg.filter λp=>sc.names.lookup p.1==some .free) (jJ ρ ns.length) (aM sc env (h1.push (U5 "list" #[] 0))) h1.objs.size [] (cm sc (h1.push (U5 "list" #[] 0)))/\
   eG c w src itv wr (cm sc (h1.push (U5 "list" #[] 0)))/\aR w O OF wr (cm sc (h1.push (U5 "list" #[] 0)))/\h1.objs.size∉wr:=by
 have kp:∀ b o,h1.get? b=some o->(h1.push (U5 "list" #[] 0)).get? b=some o:=λb o e=>Heap.get?_push_of_some _ e
 have hDl:(h1.push (U5 "list" #[] 0)).get? h1.objs.size=some (U5 "list" #[] 0):=Heap.get?_push_size _ rfl
 obtain⟨OF,F,S3,keep,fresh⟩:=Bu R ho (S1.keeps kp)
 have noOF:∀{a o},(h1.push (U5 "list" #[] 0)).get? a=some o->OF a=none:=λq=>UQ.mpr λx z=>no ((fresh _ x z).symm.trans q)
 have hD0:=cy h1
 have old:∀ a∈wr,∃ o,h1.get? a=some o/\(cm sc (h1.push (U5 "list" #[] 0))).get? a=some o:=λa q=>(W1 a q).i.imp λo b=>⟨b,keep _ _ (kp _ _ b)⟩
 exact⟨OF,⟨F.grow hk,S3,λa q=>fy q λq=>q▸⟨S1.g_none hD0,S1.o_none hD0,noOF hDl,S1.not_alpha hD0,_,keep _ _ hDl⟩,[],0,keep _ _ hDl,.nil⟩,I1.keep (λa q=>(old a q).elim λo b=>b.2.trans b.1.symm) λa o q=>⟨S1.keep _ _ q,S3.keep _ _ q⟩,
  λa q=>(old a q).elim λo b=>{W1 a q with f:=noOF (kp _ _ b.1),i:=⟨o,b.2⟩},λq=>(old _ q).elim λo b=>no (hD0.symm.trans b.1)⟩
theorem Fa{sc:V1}{h2:Heap}{vs:List AV}{s2:Sg}(L:LS c w H' O OF (bO ks sc) s2 ρ2 (aM sc env h2) D vs h):yY c w H' O vs h D (aM sc env h2).locals:=
 L.fs.loc.elim λoC k=>k.elim λmC k=>
  have hC:=L.st.own _ _ (bc k.1)
  have hD:=L.ap D m0
  ⟨L.st.drop L.fs.dis,L.ls,{hD with f:=rfl},⟨hC.2,L.fs.dis _ _ k.1,rfl,λm=>(List.getElem?_of_mem m).elim λi hi=>(L.st.alpha hi).elim λ_ j=>j.elim λ_ j=>no (j.2.2.2.2.symm.trans (bc k.1)),_,hC.1⟩,
   k.2.elim λes q=>q.elim λep q=>⟨mC,oC,es,ep,hC.1,q⟩,λq=>no (hD.f.symm.trans (q▸k.1))⟩
theorem tU(hT:cM c K)(hE:aF c n r)(hB:cS c n r)(hA:aG (n+1) A)(hCit:cW c n r){elt:IE}{gens:List IG}{el:Expr}{cs:List Vo}{sc:V1}{pos:Pos}{vs:List AV}
  (ho:mR ks sg sc) (hg:Bs (ar f) ks (bO ks sc) sg (sg.filter λp=>sc.names.lookup p.1==some .free) ρ.length gens cs (λsg' nx'=>ar f (bO ks sc) sg' nx' elt el)=true)
  (e:ao TT r elt gens ρ H=some (vs,H')) (hfit:vs.length<=1000000) (R:ER c w O ks sg ρ env) (S:St c w H O s.heap) {RR:UF->Addr->Result->UJ->Prop}
  (hR:∀ w' h' tk D C,w.le w'->yY c w' H' O vs h' D C->RR (.ref D) C (.ok .next) (aI s h' tk)):∃ te ie ifes cs',cs=⟨te,ie,ifes,0⟩::cs'/\gK ie=false/\qo c A E el cs sc pos env RR ie s:=by
 cases gens with
 |nil=>exact ft hg
 |cons g gs=>
 obtain⟨t,it,ifs⟩:=g
 have hg:pe (ar f) ks (bO ks sc) sg (sg.filter λp=>sc.names.lookup p.1==some .free) ρ.length (.mk t it ifs) cs (C5 (ar f) (bO ks sc) gs λsg' nx'=>ar f (bO ks sc) sg' nx' elt el)=true:=hg
 refine C4 (P:=λcs=>∃ te ie ifes cs',cs=⟨te,ie,ifes,0⟩::cs'/\gK ie=false/\qo c A E el cs sc pos env RR ie s) hg λte ie ifes cs' ns g hg=>⟨te,ie,ifes,cs',rfl,g.set,?_⟩
 refine aP e λsrc H3 e1 e=>aJ e λhok e=>?_
 have run:=oB e
 rw[g.len] at run
 refine nR (O:=O) (OF:=bX) hT hE hA.down g.it e1 R S λw1 h1 tk1 itv wr l1 S1 I1 W1=>wpAny_newList (yN ?_)
 show Wp (UN c.prog c.w) A (.compStart (.ListComp el (⟨te,ie,ifes,0⟩::cs') sc pos) 0 itv (.ref h1.objs.size) (aM sc env (h1.push (U5 "list" #[] 0)))) (RR (.ref h1.objs.size) (aM sc env (h1.push (U5 "list" #[] 0))).locals) (aI s (cm sc (h1.push (U5 "list" #[] 0))) tk1)
 obtain⟨OF,L,I2,AW,hdw⟩:=Bv (R.mono l1) ho g.lc S1 I1 W1
 generalize h1.push (U5 "list" #[] 0)=h2 at *
 generalize hfree:(sg.filter λp=>sc.names.lookup p.1==some U4)=fr at *
 have hna:=rn g.tgt g.nm g.new
 have loop:∀{cs':List Vo} {Em:(UJ->Prop)->(UF->UJ->Prop)->UJ->Prop},oX c A el (⟨te,ie,ifes,0⟩::cs') sc pos 0 h1.objs.size (aM sc env h2) te ifes Em->vF c (bO ks sc) (cH ns ρ.length++fr) (aM sc env h2) h1.objs.size (ρ.length+ns.length) (λρ H=>ao TT r elt gs ρ H) Em->
   ∀{Rr:Result->UJ->Prop},(∀ s',RR (.ref h1.objs.size) (aM sc env h2).locals (.ok .next) s'->Rr (.ok .next) s')->
   Wp (UN c.prog c.w) A (.compLoop (.ListComp el (⟨te,ie,ifes,0⟩::cs') sc pos) 0 itv (.ref h1.objs.size) (aM sc env h2)) Rr (aI s (cm sc h2) tk1):=λ{cs' Em} hr he {Rr} q=>
  tV (f:=f) (ρ:=jJ ρ ns.length) (s:=aI s (cm sc h2) tk1) hB hA hCit hr (k9.symm▸he) g.tgt (k9.symm▸g.ifs) hna run (a1 hok) L I2 AW hdw hfit λw2 OF2 h3 tk l2 L2=>q _ (hR w2 h3 tk _ _ (l1.trans l2) (Fa L2))
 have fin:∀{cs':List Vo} {Em:(UJ->Prop)->(UF->UJ->Prop)->UJ->Prop},oX c A el (⟨te,ie,ifes,0⟩::cs') sc pos 0 h1.objs.size (aM sc env h2) te ifes Em->vF c (bO ks sc) (cH ns ρ.length++fr) (aM sc env h2) h1.objs.size (ρ.length+ns.length) (λρ H=>ao TT r elt gs ρ H) Em->
   Wp (UN c.prog c.w) A (.compStart (.ListComp el (⟨te,ie,ifes,0⟩::cs') sc pos) 0 itv (.ref h1.objs.size) (aM sc env h2)) (RR (.ref h1.objs.size) (aM sc env h2).locals) (aI s (cm sc h2) tk1):=λhr he=>
  codeAny_compStart_list (loop hr he λ_ q=>q) (I2.again (s:=aI s (cm sc h2) tk1) hA.hd (a2 hok) (loop hr he λ_ q=>q))
 cases gs with
 |nil=>exact gJ (P:=λcs'=>Wp (UN c.prog c.w) A (.compStart (.ListComp el (⟨te,ie,ifes,0⟩::cs') sc pos) 0 itv (.ref h1.objs.size) (aM sc env h2)) (RR (.ref h1.objs.size) (aM sc env h2).locals) (aI s (cm sc h2) tk1)) (a1 hg) (fin QI (t8 (f:=f) hE hA.down (a2 hg)))
 |cons g2 gs=>
  cases Zi.mp (a1 hg)
  obtain⟨t2,it2,ifs2⟩:=g2
  have hg:(true&&pe (ar f) (bO ks sc) (bO ks sc) (cH ns ρ.length++fr) (cH ns ρ.length++fr) (ρ.length+ns.length) (.mk t2 it2 ifs2) cs' λsg nx cs=>cs.isEmpty&&ar f (bO ks sc) sg nx elt el)=true:=hg
  exact C4 (P:=λcs'=>Wp (UN c.prog c.w) A (.compStart (.ListComp el (⟨te,ie,ifes,0⟩::cs') sc pos) 0 itv (.ref h1.objs.size) (aM sc env h2)) (RR (.ref h1.objs.size) (aM sc env h2).locals) (aI s (cm sc h2) tk1)) (a2 hg) λte2 ie2 ifes2 cs2 ns2 g2 hg2=>
   gJ (P:=λcs2=>Wp (UN c.prog c.w) A (.compStart (.ListComp el (⟨te,ie,ifes,0⟩::⟨te2,ie2,ifes2,0⟩::cs2) sc pos) 0 itv (.ref h1.objs.size) (aM sc env h2)) (RR (.ref h1.objs.size) (aM sc env h2).locals) (aI s (cm sc h2) tk1)) (a1 hg2) (fin (QH g2.set) (Fl (f:=f) hT hE hB hA hCit g2 (a2 hg2)))
theorem D3{mu:Bool}{ds:List AV}{H1:AH}(e:some (kf mu ds H1)=some (d,H'))(S:St c w H1 O h){us:List UF}{m:Nat}(hD:h.get? D=some (U5 "list" us.toArray m))(hv:VRs c w ds us)(a:gu w O bX h D):
  ∃ w',w.le w'/\St c w' H' O h/\VR c w' d (.ref D)/\(∀ a,a≠D->w.G a=none->w'.G a=none)/\(∀ a,a≠D->a∉w.α->a∉w'.α):=
 WX (motive:=λmu=>some (kf mu ds H1)=some (d,H')->∃ w',w.le w'/\St c w' H' O h/\VR c w' d (.ref D)/\(∀ a,a≠D->w.G a=none->w'.G a=none)/\(∀ a,a≠D->a∉w.α->a∉w'.α)) mu
  (λe=>have e:=UW (sj e);⟨w.add D _,Wd.add_le a.g,e.2▸S.freeze hD a.g a.o a.m,e.1▸.lst Wd.add_at (hv.mono (Wd.add_le a.g)),λb q e=>(b9 _ _ q).trans e,λb q e=>e⟩)
  (λe=>have e:=UW (sj e);⟨w.new D,Wd.new_le,e.2▸S.own_new hD a.g a.o a.m ⟨us,m,rfl,hv.mono Wd.new_le⟩,e.1▸.loc (S.len▸List.getElem?_concat_length),λb q e=>e,λb q e z=>(Ve.mp z).elim e λz=>q (US.mp z)⟩) e
theorem DY{sc:V1}(ho:mR ks sg sc)(x:Str×V6)(hx:x∈sc.names)(hk:x.2= .local):sc.names.lookup x.1=some .local:=(ho.all x.1 x.2 hx).1.trans (congrArg some hk)
noncomputable def vK(c:Cx)(n:Nat)(r:R):Prop:=∀{f:Nat} {ks:Ks} {sg:Sg} {mu:Bool} {elt:IE} {gens:List IG} {el:Expr} {cs:List Vo} {sc:V1} {pos:Pos} {ρ:ae} {H:AH} {d:AV} {H':AH} {env:Env} {A:Vh} {w:Wd} {O:PH} {s:UJ} {E:UF->UJ->Prop} {RR:UF->Addr->Result->UJ->Prop},
 ar f ks sg ρ.length (.comp mu elt gens) (.ListComp el cs sc pos)=true->r.e (.comp mu elt gens) ρ H=some (d,H')->aG n A->ER c w O ks sg ρ env->St c w H O s.heap->
 (∀ w' h' tk D C,w.le w'->St c w' H' O h'->VR c w' d (.ref D)->gu w' O bX h' C->(∃ mm,h'.Ns C mm)->RR (.ref D) C (.ok .next) (aI s h' tk))->
 YE sc env=pure (dT env sc.names [])/\sc.kind= .function/\(∀ x∈sc.names,x.2= .local->sc.names.lookup x.1=some .local)/\∃ te ie ifes cs',cs=⟨te,ie,ifes,0⟩::cs'/\gK ie=false/\qo c A E el cs sc pos env RR ie s
theorem LJ(hT:cM c K)(hE:aF c n r)(hB:cS c n r)(hA:aG (n+1) A)(hCit:cW c n r){mu:Bool}{elt:IE}{gens:List IG}{e:Expr}(hc:ar (f+1) ks sg ρ.length (.comp mu elt gens) e=true)(R:ER c w O ks sg ρ env):
  bw c A O w H (bW TT r (.comp mu elt gens) ρ H) (eval e env) (Vd c):=λd H' he s Q E S hQ=>
 qd (P:=λe=>UI (UN c.prog c.w) A (eval e env) Q E s) hc λel cs sc p h=>by
  have ho:=rA (a1 h)
  refine aP he λvs H1 e1 he=>aJ he λhf he=>?_
  obtain⟨te,ie,ifes,cs',rfl,hset,core⟩:=tU (E:=E) (pos:=p) (s:=s) (RR:=λacc C=>compPost (UN c.prog c.w) A E none Q acc C) hT hE hB hA hCit ho (a2 h) e1 (UG hf) R S λw1 h' tk D C l1 z=>z.ns.imp λmm hns=>⟨hns,λh'' hs=>by
   obtain⟨us,m,hD,hv⟩:=z.ls
   have S2:St c w1 H1 O h'':=St.keepsBut (OF:=bX) (wr:=[C]) z.st (λa q=>fy q λq=>q▸z.cc) λb o hb e=>hs.extBut b o (λq=>hb (q▸m0)) e
   obtain⟨w2,l2,S3,hv2,_⟩:=D3 he S2 (hs.extBut D _ z.ne.symm hD) hv ⟨z.d.g,z.d.o,rfl,z.d.m,_,hs.extBut D _ z.ne.symm hD⟩
   exact hQ w2 h'' tk _ (l1.trans l2) S3 hv2⟩
  rw[eval_ListComp]
  exact wpAny_comprehension_free (use:=none) rfl (λx=>j7 hset) (qJ R ho) ho.kind (DY ho) core
theorem Py(hT:cM c K)(hE:aF c n r)(hB:cS c n r)(hA:aG (n+1) A)(hCit:cW c n r){mu:Bool}{elt:IE}{gens:List IG}{el:Expr}{cs:List Vo}{sc:V1}{pos:Pos}(hc:ar f ks sg ρ.length (.comp mu elt gens) (.ListComp el cs sc pos)=true)
  (he:bW TT r (.comp mu elt gens) ρ H=some (d,H')) (R:ER c w O ks sg ρ env) (S:St c w H O s.heap) {RR:UF->Addr->Result->UJ->Prop}
  (hR:∀ w' h' tk D C,w.le w'->St c w' H' O h'->VR c w' d (.ref D)->gu w' O bX h' C->(∃ mm,h'.Ns C mm)->RR (.ref D) C (.ok .next) (aI s h' tk)):
  YE sc env=pure (dT env sc.names [])/\sc.kind= .function/\(∀ x∈sc.names,x.2= .local->sc.names.lookup x.1=some .local)/\∃ te ie ifes cs',cs=⟨te,ie,ifes,0⟩::cs'/\gK ie=false/\qo c A E el cs sc pos env RR ie s:=by
 cases f with
 |zero=>exact ft hc
 |succ f=>
 have h:(tv ks sg sc&&Bs (ar f) ks (bO ks sc) sg (sg.filter λp=>sc.names.lookup p.1==some .free) ρ.length gens cs λsg' nx'=>ar f (bO ks sc) sg' nx' elt el)=true:=hc
 have ho:=rA (a1 h)
 refine⟨qJ R ho,ho.kind,DY ho,aP he λvs H1 e1 he=>aJ he λhf he=>tU (s:=s) hT hE hB hA hCit ho (a2 h) e1 (UG hf) R S λw1 h' tk D C l1 z=>?_⟩
 obtain⟨us,m,hD,hv⟩:=z.ls
 obtain⟨w2,l2,S3,hv2,g1,g2⟩:=D3 he z.st hD hv z.d
 exact hR w2 h' tk D C (l1.trans l2) S3 hv2 {z.cc with g:=g1 C z.ne z.cc.g,m:=g2 C z.ne z.cc.m} z.ns
end
end
section
theorem qN{pos:Pos}{a b:Int}{v cv:UF}(l:List UF)(h:TriplesOk l)(e:Zo pos (l++[rawInt a,rawInt b,v])=some cv):Zo pos l=some cv∨cv=v:=by
 fun_induction TriplesOk l with
 |case1=>
  simp only[Zy,Zo,rawInt] at e
  split at e
  ·exact .inr (sj e).symm
  ·exact no e
 |case2 a' t b' u x rest ih=>
  simp only[List.cons_append,Zo] at e ⊢
  split at e
  ·rename_i q;rw[if_pos q];exact .inl e
  ·rename_i q;rw[if_neg q];exact ih h e
 |case3 l h1 h2=>exact h.elim
section
variable {c:Cx}{K:Frag}{w w':Wd}{H H':AH}{O:PH}{A:Vh}{E:UF->UJ->Prop}{s:UJ}{d:AV}{n:Nat}{r:R}{ks:Ks}{sg:Sg}{ρ:ae}{env:Env}{f:Nat}{h h':Heap}
theorem St.turnG(S:St c w H O h){i:Nat}{a c':Addr}{r oc:Obj}{o:AO}(hi:w.α[i]? =some a)(hH:H[i]? =some o)(hs:∀ b o,b≠a->h.get? b=some o->h'.get? b=some o)(ha:h'.get? a=some r)(hc:h.get? c'=none)(hc':h'.get? c'=some oc)
  (hr:OR c (w.add c' oc) o r):St c (w.add c' oc) H O h':=
 have l:=Wd.add_le (o:=oc) (S.g_none hc)
 have nc:∀{b o},h.get? b=some o->b≠c':=λe=>gO (G:=h.get?) hc e
 (S.alpha hi).elim λ_ k=>k.elim λ_ k=>{S with
  top:=λb x e=>l.g _ _ (S.top _ _ e)
  keep:=λb x e=>if q:b=c' then q▸((if_pos q).symm.trans e)▸hc' else have e:=(b9 _ _ q).symm.trans e;hs b x (gO k.2.2.2.1 e) (S.keep _ _ e)
  own:=λb x e=>(S.own _ _ e).elim λe1 e2=>⟨hs b x (gO k.2.2.2.2 e) e1,(b9 _ _ (nc e1)).trans e2⟩
  obj:=λj x e=>if q:i=j then⟨a,r,q▸hi,ha,sj (hH.symm.trans (q▸e))▸hr,(b9 _ _ (nc k.2.1)).trans k.2.2.2.1,k.2.2.2.2⟩
   else(S.obj j x e).imp λb=>.imp λr' m=>⟨m.1,hs b r' (λz=>q ((List.getElem_inj S.nodup).mp ((List.getElem?_eq_some_iff.mp hi).2.trans (z.symm.trans (List.getElem?_eq_some_iff.mp m.1).2.symm)))) m.2.1,m.2.2.1.mono l,(b9 _ _ (nc m.2.1)).trans m.2.2.2.1,m.2.2.2.2⟩}
theorem wx(S:St c w H O h)(k:∀ b o,h.get? b=some o->h'.get? b=some o){L:Addr}{o:Obj}(hf:h.get? L=none)(hL:h'.get? L=some o):
  aR w O bX [L] h'/\St c w H (un O (b8 h' [L])) h'/\(∀ a x,b8 h' [L] a=some x->O a=none)/\un O (b8 h' [L]) L=some o:=
 have AP:aR w O bX [L] h':=λa q=>fy q λq=>q▸⟨S.g_none hf,S.o_none hf,rfl,S.not_alpha hf,_,hL⟩
 ⟨AP,St.hold (OF:=bX) (S.keeps k) AP,λa o e=>if q:a∈[L] then(AP a q).o else no ((jS q).symm.trans e),bc ((jj m0).trans hL)⟩
theorem Qc(hT:cM c K){k:Nat}{caps:List Nat}{e:Expr}(hc:ar (f+1) ks sg ρ.length (.lam k caps) e=true)(R:ER c w O ks sg ρ env):bw c A O w H (bW TT r (.lam k caps) ρ H) (eval e env) (Vd c):=λd H' he s Q E S hQ=>
 ff (P:=λcaps=>bW TT r (.lam k caps) ρ H=some (d,H')->UI (UN c.prog c.w) A (eval e env) Q E s) hc (λi h he=>Au (P:=λe=>UI (UN c.prog c.w) A (eval e env) Q E s) h λa b sc pos h=>Mq (P:=λa sc=>UI (UN c.prog c.w) A (eval (.Lambda a b sc pos) env) Q E s) h λp x ap more hpx h=>by
  refine az he λv ev he=>yy ev λev=>az he λo eo he=>?_
  revert eo he
  refine AO.casesOn (motive:=λo=>H[k]? =some o->FH k v H o=some (d,H')->UI (UN c.prog c.w) A (eval _ env) Q E s) o (λ_ _=>no) (λ_ _ _=>no) (λ_ _=>no) (λ_ _ _=>no) (λ_ _ _=>no) (λ_=>no) (λj eo he=>bH he λhj he2=>?_)
  cases hj
  have h2:=a2 (a2 (a2 h))
  obtain⟨hk,u,⟨ca,co,a1',a2',a3'⟩,hv⟩:=R.fz x i (eq_of_beq (a1 h)) (Vm.mp (a1 (a2 h)))
  obtain⟨cc,P,r1,r2,r3,r4⟩:=R.lam k (of_decide_eq_true (a1 h2)) (eq_of_beq (a1 (a2 (a2 h))))
  obtain⟨mg,mb,g1,g2,g3,bm,ob,b1,b2,b3,b4,b5⟩:=hT.gl
  obtain⟨rr,p2,ps,rfl,ht,hcodes⟩:=S.at r3 eo
  have p4:w.G P=none:=(S.alpha r3).elim λ_ k=>k.elim λ_ k=>k.2.2.2.1
  have hP0:∀{b o},c.H0.get? b=some o->b≠P:=λe=>gO p4 (S.top _ _ e)
  have hok:vf k ⟨⟨[],[⟨p,none,ap⟩],none,[],[],none,[]⟩,b,⟨.function,[(p,.local),(x,.free)],false,false,more⟩,[x]⟩:=by
   have h3:=a2 h2
   revert h3
   cases hl:nu k with
   |none=>exact ft
   |some l=>exact λh3=>.mk hpx hl (eq_of_beq (a1 h3)) (a2 h3)
  have hclo:YE ⟨.function,[(p,.local),(x,.free)],false,false,more⟩ env=pure [(x,ca)]:=(lZ λy hy=>by
   cases hy with
   |tail _ hy=>cases hy with
    |head=>exact⟨ca,a1'⟩
    |tail _ hy=>cases hy).trans (by simp only[dT,a1',YW];rfl)
  have bat:s.heap.BuiltinsAt mg P:=⟨bm,ob,b1,b2,b3,hP0 b4,S.top' _ _ b4,b5⟩
  have fin:∀{w1:Wd} {h':Heap} {tk c' ctv},w.le w1->St c w1 H O h'->lw w1.G (ii k) c'->Q (.ref h'.objs.size) {s with heap:=h'.push (kla_obj "<lambda>" (ii k) ⟨[],[⟨p,none,ap⟩],none,[],[],none,[]⟩ b ⟨.function,[(p,.local),(x,.free)],false,false,more⟩ [(x,ca)] ((mg "__name__").getD .none) c' ctv),toks:=tk}:=
   λ{w1 h' tk c' ctv} l S1 hco=>aT.frozen (s:=aI s h' tk) ((hQ.pr he2).after l) S1 rfl tk λw' l' hn=>.clo (cl:=[(x,ca)]) (vs:=[u]) hok hn ⟨rfl,rfl,rfl,rfl,rfl,rfl,rfl,rfl,rfl,rfl,rfl,hco.mono l'⟩ rfl (.cons ((l.trans l').g _ _ a2') a3' .nil) (.cons ((hv v ev).mono (l.trans l')) .nil)
  refine kla_eval rfl ?_
  rw[r4]
  cases hf:Zo pos ps.toList with
  |some cv=>
   obtain⟨c',rfl,hco⟩:=hcodes pos cv hf
   exact kla_makeFunctionHit (mg:=mg) hclo R.gl (g1.keeps S.top') r1 (r2.keeps S.top') p2 ht hf bat λctv h' tk hk2 _=>fin (.refl _) (S.keeps hk2) hco
  |none=>
   refine kla_makeFunction (mg:=mg) hclo R.gl (g1.keeps S.top') r1 (r2.keeps S.top') p2 ht hf (g1.elim λo k=>k.elim λ_ k=>k.elim λ_ k=>hP0 k.1) bat λc' ctv h' tk hx hge _ hrec htb=>hrec.elim λc2 q=>q.elim λoc q=>q.elim λvs q=>q.elim λt q=>?_
   cases q.1
   have hc0:=Heap.get?_none_of_le hge
   have l:=Wd.add_le (o:=oc) (S.g_none hc0)
   have hco:lw (w.add c' oc).G (ii k) c':=⟨oc,vs,t,Wd.add_at,q.2.2⟩
   exact fin l (S.turnG r3 eo hx htb hc0 q.2.1 ⟨_,rfl,Array.toList_append ..▸TriplesOk_snoc _ _ _ _ ht,λpos' cv e=>(qN _ ht (Array.toList_append ..▸e)).elim (λq=>(hcodes pos' cv q).imp λ_=>.imp_right (·.mono l)) λq=>⟨c',q,hco⟩⟩) hco) he
end
end
section
section
variable {c:Cx}{K:Frag}{w w':Wd}{H H':AH}{O:PH}{A:Vh}{E:UF->UJ->Prop}{s:UJ}{d:AV}{n:Nat}{r:R}{ks:Ks}{sg:Sg}{ρ:ae}{env:Env}{f:Nat}{h h':Heap}
abbrev dQ:Obj:={cls:=.type "dict",data:=.dict #[]}
inductive Sm:List Vx->Prop
 |nil:Sm []
 |one {h:Int} {x:Str} {t:Tok} {v:UF}:Sm [⟨h,.str x t,v⟩]
inductive Kw:List Vx->List (Str×UF)->Prop
 |nil:Kw [] []
 |one {h:Int} {x:Str} {t:Tok} {v:UF}:Kw [⟨h,.str x t,v⟩] [(x,v)]
theorem Jy{l:List (NM×AV)}{es:List Vx}(hb:WL l.length 1=true)(q:KRs c w l es):Sm es/\∀ kw,Kw es kw->eA c w l kw:=
 Vk (motive:=λl=>WL l.length 1=true->KRs c w l es->Sm es/\∀ kw,Kw es kw->eA c w l kw) l (λ_ q=>q.k ⟨.nil,λkw k=>by cases k;exact⟨.nil,rfl⟩⟩)
  (λp l=>Vk (motive:=λl=>WL (p::l).length 1=true->KRs c w (p::l) es->Sm es/\∀ kw,Kw es kw->eA c w (p::l) kw) l (λ_ q=>q.k λh t v es a b=>b.k ⟨.one,λkw k=>by cases k;exact⟨.cons a .nil,rfl⟩⟩) λ_ _ h=>nomatch h) hb q
theorem uc{dd:Addr}{x:Str}{t:Tok}{hash:Int}{Q:Option Nat->UJ->Prop}(ho:s.heap.get? dd=some dQ)(hQ:Q none s):UI (UN c.prog c.w) A (dictFind dd (.str x t) hash) Q E s:=by
 unfold dictFind
 refine U9 (UA (Ws ho rfl ?_))
 dsimp only
 rw[if_pos (by simp)]
 unfold foundByValue
 rw[Array.findIdx?_empty]
 exact UE hQ
theorem yM{dd a:Addr}{k:Nat}{es:List Vx}{Q:Unit->UJ->Prop}(hne:a≠dd)(ha:(a==ZC)=false)(hd:s.heap.get? dd=some dQ)(h1:s.heap.get? a=some (Xl es k))(hes:Sm es)
  (hQ:∀ h' o' ep',VL dd s.heap h'->h'.get? dd=some o'->o'.data= .dict es.toArray ep'->Q () {s with heap:=h'}):UI (UN c.prog c.w) A (mergeMapping dd (.ref a) true) Q E s:=by
 have hT:s.TypeIs (.ref a) "dict":=⟨_,h1,rfl⟩
 unfold mergeMapping
 refine UA (wpAny_isInstance hT isSubtype_dict_dict ?_)
 refine(if_pos rfl).symm▸UA (WO hT F.slot_dict_iter.lookup (UA (UE ?_)))
 simp only[beq_self_eq_true,ha,Vq,if_false]
 refine UA (Ws hd rfl ?_)
 rw[if_pos (by rfl)]
 refine UA (Ws h1 rfl (UA ?_))
 rw[<-Array.forIn_toList]
 cases hes with
 |nil=>
  refine UE (UA (Ws h1 rfl (UA (wpAny_dictEpoch h1 rfl (UA ?_)))))
  exact UE (UE (hQ s.heap _ 0 (λ_ _ _ e=>e) hd rfl))
 | @one hash x t v=>
  rw[VT]
  refine UA (UE (UE ?_))
  refine UA (Ws h1 rfl (UA (wpAny_dictEpoch h1 rfl (UA ?_))))
  show UI _ A (forIn [0] Wu _) _ _ s
  rw[VT]
  refine UA (UA (Ws h1 rfl ?_))
  show UI _ A (do VW _ _;_) _ _ s
  refine UA (U9 (UA (uc hd ?_)))
  simp only[W7,Vq,if_false]
  unfold dictPut
  refine UA (uc hd (wpAny_updateDictKeys hd rfl ?_ (VX _) (V4 _)))
  have hk:VL dd s.heap (s.heap.update dd (Obj.mapDictKeys (·.push ⟨hash,.str x t,v⟩))):=λb o q e=>(Heap.get?_update_ne _ _ _ _ q).trans e
  refine UA (wpAny_dictEpoch (hk a _ hne h1) rfl ?_)
  rw[if_neg (by simp)]
  exact UE (UE (UE (hQ _ _ _ hk (Heap.get?_update_self _ hd rfl) rfl)))
theorem yG{fv:UF}{args:List (Bool×Sem UF)}{x:Sem UF}{Q:Args->UJ->Prop}(ha:args.any (·.1)=false)
  (hh:UI (UN c.prog c.w) A (spliced args) (λvs s₁=>UI (UN c.prog c.w) A (YU fv [(none,x)]) (λd s₂=>UI (UN c.prog c.w) A (ZD fv d) (λkw s₃=>Q ⟨vs,kw⟩ s₃) E s₂) E s₁) E s):
  UI (UN c.prog c.w) A (evalArgs fv true args [(none,x)]) Q E s:=by
 have key:evalArgs fv true args [(none,x)]=(do
   let pos <-spliced args
   VW (pos++[]) (do
    let d <-YU fv [(none,x)]
    let kw <-VW (.ref d::pos) (ZD fv d)
    pure ⟨pos,kw⟩)):=by
  unfold evalArgs
  cases args with
  |nil=>rfl
  |cons p l=>cases p with
   |mk b t=>cases b with
    |true=>exact nomatch ha
    |false=>rfl
 rw[key]
 exact UA (Vg hh (λvs s₁ h₁=>U9 (UA (Vg h₁ (λd s₂ h₂=>UA (U9 (Vg h₂ (λkw s₃ h₃=>UE h₃) λ_ _ e=>e))) λ_ _ e=>e))) λ_ _ e=>e)
noncomputable def CW(fv:UF)(D:Addr)(Q:List (Str×UF)->UJ->Prop)(v:UF)(s₁:UJ):Prop:=∃ a k es,v= .ref a/\a≠D/\(a==ZC)=false/\s₁.heap.get? D=some dQ/\s₁.heap.get? a=some (Xl es k)/\Sm es/\
 ∀ h' kw,VL D s₁.heap h'->Kw es kw->Q kw {s₁ with heap:=h'}
theorem BP{fv:UF}{dd:Addr}{o:Obj}{ep:Nat}{es:List Vx}{Q:List (Str×UF)->UJ->Prop}(ho:s.heap.get? dd=some o)(hd:o.data= .dict es.toArray ep)(hes:Sm es)
  (hQ:∀ kw,Kw es kw->Q kw s):UI (UN c.prog c.w) A (ZD fv dd) Q E s:=by
 unfold ZD
 refine UA (Ws ho hd (UA ?_))
 rw[<-Array.forIn_toList]
 cases hes with
 |nil=>exact UE (UE (hQ [] .nil))
 |one=>
  rw[VT]
  exact UA (UE (UE (UE (hQ _ .one))))
theorem w9{fv:UF}{x:Sem UF}{Q:List (Str×UF)->UJ->Prop}
  (hx:∀ E',UI (UN c.prog c.w) A x (CW fv s.heap.objs.size Q) E' {s with heap:=s.heap.push dQ}):
  UI (UN c.prog c.w) A (YU fv [(none,x)]) (λd s₂=>UI (UN c.prog c.w) A (ZD fv d) Q E s₂) E s:=by
 unfold YU
 refine UA (Y1 (UA (U9 (UA ?_))))
 rw[VT]
 refine UA (UA ?_)
 show UI _ A (pure ()) _ _ _
 refine UE (UA (Vg (hx _) (λv s₁ h₁=>?_) λ_ _ e=>e))
 obtain⟨a,k,es,rfl,h1,h2,h3,h4,h5,h6⟩:=h₁
 refine UA (wpAny_onRaise (U9 (wpAny_tryCatch (wpAny_onRaise (yM h1 h2 h3 h4 h5 λh' o' ep' q1 q2 q3=>UE (UE ?_))))))
 show UI _ A (pure ()) _ _ _
 exact UE (UE (BP q2 q3 h5 (h6 h' · q1)))
theorem u9{P:Heap->Prop}{fv:UF}{first:List UF}{pos:Pos}{args:List (Bool×Sem UF)}{keywords:List (Option Str×Sem UF)}{Q:UF->UJ->Prop}(hplain:(args.any (·.1)||keywords.any (·.1.isNone))=true)
  (hk:∀ h,P h->∃ k,(k=Keeper.frame∨k=Keeper.machine∨k=Keeper.boundFrame)/\Looks (UN c.prog c.w) h (keeperOf fv) k)
  (h:UI (UN c.prog c.w) A (evalArgs fv true args keywords) (λa s₁=>P s₁.heap/\UI (UN c.prog c.w) A (call fv (first++a.pos) a.kw) Q E s₁) E s):UI (UN c.prog c.w) A (callWith pos fv first args keywords) Q E s:=by
 unfold callWith
 refine UA (U9 (Vg h (λa s₁ h₁=>UA (Vp ?_)) λ_ _ x=>x))
 obtain⟨k,hk',L⟩:=hk _ h₁.1
 simp only[hplain]
 refine UA (L.here ?_)
 have marked (mk:UF):UI (UN c.prog c.w) A (callMarked mk fv (first++a.pos) a.kw) Q E s₁:=by unfold callMarked;exact Calls.wpAny_keep h₁.2
 have tail:∀{t:Sem UF},UI (UN c.prog c.w) A t Q E s₁->UI (UN c.prog c.w) A (t>>=λr=>VW [r] point>>=λ_=>pure r) Q E s₁:=
  λht=>UA (Vg ht (λr s₂ hr=>UA (U9 (wpAny_point (UE hr)))) λ_ _ x=>x)
 rcases hk' with rfl|rfl|rfl<;>dsimp only<;>first|exact tail (marked _)|exact tail (wpAny_operate' h₁.2)
theorem JO(hT:TF c K)(hO:iB r)(hE:aF c n r)(hV:kC c n r)(hA1:aG (n+1) A){fe st:IE}{args:List IE}{e:Expr}(hc:ar (f+1) ks sg ρ.length (.callS fe args st) e=true)(R:ER c w O ks sg ρ env):
  bw c A O w H (bW TT r (.callS fe args st) ρ H) (eval e env) (Vd c):=λd H' he s Q E S hQ=>
 gr (P:=λe=>UI (UN c.prog c.w) A (eval e env) Q E s) hc λx as kes p h=>ff (P:=λkes=>UI (UN c.prog c.w) A (eval (.Call x as kes p) env) Q E s) h λk h=>by
  obtain⟨ka,se,kp⟩:=k
  refine j9 (P:=λka=>UI (UN c.prog c.w) A (eval (.Call x as [⟨ka,se,kp⟩] p) env) Q E s) (a1 h) ?_
  have h2:=a2 (a2 (a2 h))
  refine(lv (nt (a1 (a2 h)))).symm▸UA ((hE (a1 (a2 (a2 h))) hA1.down R).k he S λfv H1 w1 m1 t1 v he l1 S1 r1=>?_)
  refine aP he λds H2 e2 he=>aP he λkv H3 e3 he=>?_
  have hplain:=(lA (env:=env) (pos:=p) (a1 h2)).1
  refine u9 (P:=λh=>KO c h v) (by rw[hplain];rfl) (λh p=>p) (yG hplain (j0 hE hA1.down (a1 h2) (R.mono l1) _ _ e2 _ _ E S1 λw2 m2 t2 vs l2 S2 r2=>w9 λE'=>?_))
  have fr:=cy m2
  have hD0:(m2.push dQ).get? m2.objs.size=some dQ:=Heap.get?_push_size _ rfl
  obtain⟨AP,S3,hX,hU⟩:=wx S2 (h':=m2.push dQ) (λb o e=>Heap.get?_push_of_some _ e) fr hD0
  have R2:=ER.sub (O':=un O (b8 (m2.push dQ) [m2.objs.size])) (R.mono (l1.trans l2)) λa o _ e=>(bU (UQ.mpr λx q=>no ((hX a x q).symm.trans e))).trans e
  refine UA (hE (a2 h2) hA1.down R2 _ _ e3 _ _ E' S3 λw3 m3 t3 u l3 S4 r4=>UA (Vp (UE ?_)))
  have z:=S4.own _ _ hU
  have AP3:aR w3 O bX [m2.objs.size] m3:=λa q=>fy q λq=>q▸⟨z.2,S2.o_none fr,rfl,λm=>(List.getElem?_of_mem m).elim λi hi=>(S4.alpha hi).elim λ_ k=>k.elim λ_ k=>no (k.2.2.2.2.symm.trans hU),_,z.1⟩
  exact Lv (P:=λkv=>VR c w3 kv u->CW v m2.objs.size _ u _) he (λl he r4=>r4.k λa n es g ns q=>aJ he λhb he=>⟨a,n,es,rfl,gO z.2 g,ns,z.1,S4.keep _ _ g,(Jy hb q).1,λh' kw q1 q2=>
   have S5:=St.keepsBut (OF:=bX) (S4.drop hX) AP3 λb o hb e=>q1 b o (λq=>hb (q▸m0)) e
   ⟨jG (s:=aI s h' t3) hT hO he S5 (r1.mono (l2.trans l3)),hV hA1 (r1.mono (l2.trans l3)) (VRs.mono l3 r2) ((Jy hb q).2 kw q2) _ _ he (aI s h' t3) Q E S5 (hQ.after (l1.trans (l2.trans l3)))⟩⟩) r4
end
end
section
noncomputable def vJ(c:Cx)(A:Vh)(O:PH)(w:Wd)(H:AH)(x:Option (AV×AH))(code:Code):Prop:=
 ∀ d H',x=some (d,H')->∀ s Rr,St c w H O s.heap->aT c w H' O (Vd c d) (λv=>Rr (.ok (.ret v))) s->Wp (UN c.prog c.w) A code Rr s
noncomputable def mT(c:Cx)(n:Nat)(r:R):Prop:=∀{a:Nat} {args:List AV} {kws:List (NM×AV)} {H:AH} {A:Vh} {w:Wd} {O:PH} {vs:List UF} {kvs:List (Str×UF)},
 aG n A->VRs c w args vs->eA c w kws kvs->vJ c A O w H (r.c a args kws H) (.call (.ref a) ⟨vs,kvs⟩)
structure II(K:Frag):Prop where
 made:∀ a i,cD a=some i->makesIn K a=true/\XX K (.ref a) "__init__" =some (some (.ref i))/\typeIn K (.ref i)=some (.type "function")
section
variable {c:Cx}{K:Frag}{w w':Wd}{H H':AH}{O:PH}{A A':Vh}{E:UF->UJ->Prop}{s:UJ}{d:AV}{n:Nat}{r:R}{ks:Ks}{sg:Sg}{ρ:ae}{env:Env}{f:Nat}{h h':Heap}{v:UF}{vs:List UF}{kvs:List (Str×UF)}{x:Option (AV×AH)}
theorem vJ.call(h:vJ c A O w H x (.call v ⟨vs,kvs⟩)):bw c A O w H x (call v vs kvs) (Vd c):=λd H' e s Q E S hQ=>wpAny_call (h d H' e s _ S hQ)
theorem aG.step(hA:aG (n+1) A)(hd:A'.handled=A.handled)(dp:A'.depth<=A.depth+2)(un:A'.units<=A.units+60):aG n A':=
 ⟨hd.trans hA.hd,UH (Wm dp _) (UH (Vv (by omega)) hA.dp),UH (Wm un _) (UH (Vv (by omega)) hA.un)⟩
theorem aG.room(hA:aG n A):A.depth<recursionLimit:=Va (UH (Vi _ _) hA.dp) (by decide)
theorem aG.deeper(hA:aG (n+1) A)(env:Env):aG n (A.deeper env):=hA.step rfl (VA (by decide) _) (VA (by decide) _)
theorem Iy(hA:aG (n+1) A){C:Addr}{rest:List UF}{kw:List (Str×UF)}:aG n (A.under (.builtin "type.__call__" ⟨.ref C::rest,kw⟩)):=
 hA.step rfl (show A.depth+1<=_ from VA (by decide) _) (show A.units+1<=_ from VA (by decide) _)
theorem St.push_new(S:St c w H O h){x:AO}{o:Obj}(hf:o.isFreed=false)(hr:OR c (w.new h.objs.size) x o):St c (w.new h.objs.size) (H++[x]) O (h.push o):=
 have f:=cy h
 (S.keeps λb x e=>Heap.get?_push_of_some _ e).own_new (Heap.get?_push_size _ hf) (S.g_none f) (S.o_none f) (S.not_alpha f) hr
theorem St.last(S:St c w H O h){a:Addr}:(w.new a).α[H.length]? =some a:=S.len▸List.getElem?_concat_length
theorem Lc(hT:cM c K)(hM:II K)(hK:mT c n r)(hA:aG (n+1) A){a i:Nat}{args:List AV}{kws:List (NM×AV)}(hi:cD a=some i)(hv:VRs c w args vs)(hk:eA c w kws kvs):
  vJ c A O w H (ah (r.c i (.loc (H.length+1)::args) kws (H++[.dict [],.inst a H.length])) λd H'=>qy (some (.loc (H.length+1),H')) d) (.call (.ref a) ⟨vs,kvs⟩):=λd H' e s Rr S hQ=>by
 obtain⟨m1,m2,m3⟩:=hM.made a i hi
 have X:=jp hT S
 obtain⟨hh,g,dr,t,os⟩:=s
 refine make_core (makes_of X m1) (looks_findIn X m2) (λself=>bind_fn X self m3) (.inl rfl) ?_
 have S1:St c (w.new hh.objs.size) (H++[.dict []]) O (hh.push emptyDict):=St.push_new S rfl ⟨[],0,rfl,.nil,VX _⟩
 have S2:=S1.push_new (x:=.inst a H.length) (o:=instObj a hh.objs.size) rfl ⟨_,rfl,hi▸rfl,Wd.new_le.at S.last⟩
 have hs:(w.new hh.objs.size |>.new (hh.push emptyDict).objs.size).α[H.length+1]? =some (hh.objs.size+1):=(congrArg (λi=>(w.new hh.objs.size |>.new (hh.push emptyDict).objs.size).α[i]?) (UM (as:=H) (bs:=[AO.dict []])).symm).trans ((S1.last).trans (congrArg some (Xi hh emptyDict)))
 rw[U3] at S2
 have l:=(Wd.new_le (w:=w) (a:=hh.objs.size)).trans (Wd.new_le (a:=(hh.push emptyDict).objs.size))
 exact aP e λdn H1 e1 e=>hK (Iy hA) (.cons (.loc hs) (hv.mono l)) (hk.mono l) dn H1 e1 _ _ S2 λw2 h2 t2 v l2 S3 r3=>
  Bc (P:=λdn=>VR c w2 dn v->InitBack (hh.objs.size+1) Rr (.ok (.ret v)) _) e (λe r3=>r3.k ⟨rfl,hQ.pr e w2 h2 t2 _ (l.trans l2) S3 (.loc (l2.at hs))⟩) r3
theorem E5{fd:Xf}{p:Str}{ap:Pos}{u:UF}(hp:fd.params=⟨[],[⟨p,none,ap⟩],none,[],[],none,[]⟩)(hd:fd.defaults= .none):Wb fd ⟨[u],[]⟩=pure [(p,u)]:=by
 simp[Wb,hp,hd,seqItems?]
 rfl
theorem Mr{p x:Str}{oL:Obj}{m:Str->Option UF}{d0 d1:AV}{v0 v1:UF}(hpx:p≠x)(gl:env.globals=VZ)(bi:env.builtins=Wy)(fk:env.scope.kind= .function)(kp:env.kindOf p=some .local)(kx:env.kindOf x=some .free)
  (hL:O env.locals=some oL) (N:qr oL m) (hm:m p=some v0) (r0:VR c w d0 v0) (hx:eR w.G env x (some v1)) (r1:VR c w d1 v1):ER c w O [(p,.local)] [(p,0),(x,1)] [some d0,some d1] env where
 gl:=gl
 bi:=bi
 fk:=fk
 kd:=λy k hy _=>ij hy (λq e=>.inl (q▸e▸kp)) λ_=>no
 rd:=λy i d hy hs hi=>ij hy (λq e=>by cases e;exact⟨v0,sj (sj hi)▸r0,.inl ⟨q▸kp,oL,m,hL,N,q▸hm⟩⟩) λq h=>ft ((congrArg Option.isSome (eZ q)).symm.trans hs)
 cl:=λy i hy hs hk=>ij hy (λq e=>(show Kc env p from q▸hk).elim (λz=>nomatch (show V8= .local from sj (z.symm.trans kp))) λz=>nomatch (show U4= .local from sj (z.symm.trans kp))) λq h=>ft ((congrArg Option.isSome (eZ q)).symm.trans hs)
 fz:=λy i hy hs=>ij hy (λq e=>no ((show W6 p [(p,V6.local)]=none from q▸hs).symm.trans cN)) λq h=>ij h (λq e=>by cases e;cases q;exact⟨.inr kx,v1,hx,λd hi=>sj (sj hi)▸r1⟩) λ_=>no
 lam:=λk _ e=>ij e (λ_ e=>nomatch e) λ_=>no
 bnd:=λy i hy=>ij hy (λ_ e=>e▸Nat.zero_lt_succ _) λ_ h=>ij h (λ_ e=>e▸XO _) λ_=>no
theorem f7.one{G:PH}{x:Str}{a:Addr}{us:List UF}(h:f7 G [(x,a)] us):∃ o v,G a=some o/\o.data= .cell (some v)/\us=[v]:=by
 cases h with
 |cons h1 h2 h3=>cases h3;exact⟨_,_,h1,h2,rfl⟩
theorem Rm(hT:cM c K)(hE:aF c n r)(hA:aG (n+1) A){k:Nat}{caps args:List AV}(hc:VR c w (.clo k caps) v)(hv:VRs c w args vs):
  vJ c A O w H (ob (nu k) λl=>bA (args.length=l.pos) (r.e l.body ((args++caps).map some) H)) (.call v ⟨vs,[]⟩):=λd H' e s Rr S hQ=>
 hc.k λq o la cl us fd cc h1 h2 h3 h4 h5 h6=>az e λl hl e=>bH e λhlen e=>by
  cases h1 with
  | @mk f p x ap more l' body hpx k2 k3 k4=>
  cases hl.symm.trans k2
  obtain⟨⟨x',ca⟩,rfl,rfl⟩:=List.map_eq_singleton_iff.mp h4
  obtain⟨co,cv,g1,g2,rfl⟩:=h5.one
  obtain⟨d1,rfl⟩:=V7.mp h6.length.symm
  obtain⟨d0,rfl⟩:=V7.mp (hlen.trans k3)
  revert h6
  refine λh6=>VRs.k (P:=λus=>us=[cv]->_) h6 (λu us r1 _ z=>?_) rfl
  cases(WS z).1
  clear z h6
  refine hv.k (P:=λvs=>Wp _ A (.call (.ref q) ⟨vs,[]⟩) Rr s) λv0 vs r0 r=>r.k (P:=λvs=>Wp _ A (.call (.ref q) ⟨v0::vs,[]⟩) Rr s) ?_
  refine kla_callFunE (body:=body) hA.room (S.keep _ _ h2) h3.dat (h3.sc▸rfl) (h3.sc▸rfl) h3.bod (h3.co.elim λoc j=>j.elim λws j=>j.elim λt j=>⟨cc,oc,ws,t,h3.code,S.keep _ _ j.1,j.2⟩) ?_
  rw[E5 h3.par h3.df,h3.sc,h3.gl,h3.bi,h3.clo]
  refine UE (wpAny_newFunctionEnv (λy hy=>?_) (λy hy=>?_) (λh1 hns hsb=>?_))
  ·cases hy with
   |head=>exact nofun
   |tail _ hy=>cases hy with
    |head=>exact nofun
    |tail _ hy=>cases hy
  ·cases hy with
   |head=>exact cN
   |tail _ hy=>cases hy
  have old:∀ b o,s.heap.get? b=some o->h1.get? b=some o:=λb o e=>hsb.extBut b o (V0 (Vz e)) (Heap.get?_push_of_some _ e)
  obtain⟨oL,es,ep,n1,n2⟩:=hns
  obtain⟨_,S1,D1,U1⟩:=wx S old (cy _) n1
  refine⟨hT.lim.keeps λb o e=>S1.keep _ _ (S1.top _ _ e),kla_codeExpr (hE k4 (hA.deeper _) (by exact Mr (v0:=v0) hpx rfl rfl rfl (show W6 p [(p,V6.local),(x',.free)]=_ from cN) (show W6 x' [(p,V6.local),(x',.free)]=_ from(eZ (Ne.symm hpx)).trans cN) U1 ⟨es,ep,n2⟩ cN r0 ⟨ca,co,cN,g1,g2⟩ r1) d H' e _ _ _ S1 λw2 h2 t2 u l2 S2 r2=>hQ w2 h2 t2 u l2 (S2.drop D1) r2)⟩
end
end
section
namespace F0
theorem kind_iter:builtinKind "iter" =none:=by decide +kernel
theorem plain_iter:plainId "iter" =true:=by decide +kernel
theorem entry_iter:entryFor table "iter" =some Builtin.«iter»:=Yg (by kernel_rfl)
theorem args_iter1(a:UF):YV "iter" ⟨[a],[]⟩:=by unfold YV;kernel_rfl
theorem args_iter2(a b:UF):YV "iter" ⟨[a,b],[]⟩:=by unfold YV;kernel_rfl
theorem kind_next:builtinKind "next" =none:=by decide +kernel
theorem plain_next:plainId "next" =true:=by decide +kernel
theorem entry_next:entryFor table "next" =some Builtin.«next»:=Yg (by kernel_rfl)
theorem args_next1(a:UF):YV "next" ⟨[a],[]⟩:=by unfold YV;kernel_rfl
theorem method_call:typeLookup (.type "method") (UK "__call__")=pure (some (.builtin "method.__call__")):=by rw[WP,Wl];kernel_rfl
end F0
noncomputable def qs(c:Cx):Prop:=∀{A:Vh} {w:Wd} {H:AH} {O:PH} {s:UJ} {a:Addr} {us:List UF} {n:Nat} {l:List AV} {rows:List (List Int)} {Q:UF->UJ->Prop} {E:UF->UJ->Prop},
 A.handled=none->A.units<=9850->St c w H O s.heap->s.heap.get? a=some (U5 "list" us.toArray n)->VRs c w l us->iP l=some rows->rows.length<6->rows.all (λx=>aW x.length)=true->aT c w H O (Vd c (.lst (ot l rows))) Q s->
 UI (UN c.prog c.w) A (call (.builtin "sorted") [.ref a]) Q E s
section
variable {c:Cx}{K:Frag}{w w':Wd}{H H':AH}{O:PH}{A A':Vh}{E:UF->UJ->Prop}{s:UJ}{d:AV}{n:Nat}{r:R}{v:UF}{vs:List UF}{kvs:List (Str×UF)}{args:List AV}{Q:UF->UJ->Prop}
theorem DF(e:I8 args H=some (d,H'))(S:St c w H O s.heap)(hv:VRs c w args vs)(hQ:aT c w H' O (Vd c d) Q s):UI (UN c.prog c.w) A (call (.builtin "iter") vs) Q E s:=by
 cases args with
 |nil=>exact no e
 |cons x r=>
  refine hv.k λv vs h1 h2=>?_
  cases r with
  |nil=>
   refine h2.k (P:=λvs=>UI _ A (call (.builtin "iter") (v::vs)) Q E s) (qx (P:=λx=>VR c w x v->UI _ A (call (.builtin "iter") [v]) Q E s) e (λl e h1=>h1.k λa us m g q=>?_) h1)
   refine Y3 F0.kind_iter F0.plain_iter F0.entry_iter (F0.args_iter1 _) ?_
   unfold Builtin.«iter»
   refine UA (m:=someArgs "iter" 1 2 _) (UE ?_)
   exact UA (XS (items:=us.toArray) ⟨_,S.keep _ _ g,rfl,m,rfl⟩ (UE ⟨_,rfl,(hQ.pr e).owned S rfl s.toks ⟨a,us,_,_,m,rfl,g,VRs.mono Wd.new_le q⟩⟩))
  |cons y r=>
   refine gg (P:=λr=>VRs c w (y::r) vs->UI _ A (call (.builtin "iter") (v::vs)) Q E s) e (λe h2=>h2.k λv2 vs h3 h4=>h4.k (P:=λvs=>UI _ A (call (.builtin "iter") (v::v2::vs)) Q E s) ?_) h2
   refine mW (P:=λx=>VR c w x v->UI _ A (call (.builtin "iter") [v,v2]) Q E s) e (λg self e h1=>h1.k λq sv g1 g2=>?_) h1
   refine Y3 F0.kind_iter F0.plain_iter F0.entry_iter (F0.args_iter2 _ _) ?_
   unfold Builtin.«iter»
   refine UA (m:=someArgs "iter" 1 2 _) (UE (UA (WO (T:="method") ⟨_,S.keep _ _ g1,rfl⟩ F0.method_call ?_)))
   refine(if_neg (show ¬(false=true) from nofun)).symm▸UA (Xg ?_)
   unfold newFields
   exact UA (ZB (UE ⟨_,rfl,(hQ.pr e).owned S rfl s.toks ⟨_,_,_,_,rfl,.bm g1 (g2.mono Wd.new_le),h3.mono Wd.new_le⟩⟩))
theorem Eb(e:b6 (λv=>Jh v H) args=some (d,H'))(S:St c w H O s.heap)(hv:VRs c w args vs)(hQ:aT c w H' O (Vd c d) Q s):UI (UN c.prog c.w) A (call (.builtin "next") vs) Q E s:=
 nZ (P:=λvs=>UI _ A (call (.builtin "next") vs) Q E s) e hv λx u e hx=>jd (P:=λx=>VR c w x u->_) e (λi e hx=>hx.k λa ha=>az e λo eo e=>by
  revert eo e
  refine AO.casesOn (motive:=λo=>H[i]? =some o->B3 i o H=some (d,H')->UI _ A (call (.builtin "next") [.ref a]) Q E s) o (λ_ _=>no) (λ_ _ _=>no) (λ_ _=>no) (λl k eo e=>az e λy ey e=>?_) (λ_ _ _=>no) (λ_=>no) (λ_ _=>no)
  obtain⟨ro,e2,b,us,sl,dc,m,rfl,h1,h3⟩:=S.at ha eo
  obtain⟨u,hx,hxv⟩:=h3.get ey
  have hT:s.TypeIs (.ref a) "list_iterator":=⟨_,e2,rfl⟩
  refine Y3 F0.kind_next F0.plain_next F0.entry_next (F0.args_next1 _) ?_
  unfold Builtin.«next»
  refine UA (m:=someArgs "next" 1 2 _) (UE (UA (WO hT Zn.lookup ?_)))
  refine(if_neg (show ¬(false=true) from nofun)).symm▸UA (wpAny_callSpecial?_slot (name:=UK "__next__") hT Zn (WK Zn hT entry_listiter_next ?_ (args_listiter_next _)))
  show UI _ _ (field (.ref a) 0>>=_) _ _ s
  refine UA (Wx e2 rfl (x:=.ref b) rfl ?_)
  show UI _ _ (if(Yx b==UF.none)=true then _ else _) _ _ s
  rw[if_neg (show ¬((Yx b==UF.none)=true) from Bool.false_ne_true)]
  refine UA (Wx e2 rfl (x:=.int k 0) rfl ?_)
  refine UA (wpAny_seqItems (S.keep _ _ h1) rfl ?_)
  have hx':(us.toArray)[k]? =some u:=List.getElem?_toArray.trans hx
  simp only[VP,hx']
  exact UA (YT e2 rfl (XO 1) (UE ⟨u,rfl,UE ⟨u,rfl,hQ.pr e w _ s.toks u (.refl _) (S.turn ha (λb o hb e=>(VV ..).extBut b o hb e) (Heap.get?_update_self _ e2 rfl) ⟨b,us,_,_,m,rfl,h1,h3⟩) hxv⟩⟩))) hx
theorem Ic(e:b6 (gD λs=>ob (O7 s) λi=>some (AV.int i,H)) args=some (d,H'))(S:St c w H O s.heap)(hv:VRs c w args vs)(hQ:aT c w H' O (Vd c d) Q s):UI (UN c.prog c.w) A (call (.builtin "ord") vs) Q E s:=
 rU (P:=λvs=>UI _ A (call (.builtin "ord") vs) Q E s) e hv λx t e=>az e λi e1 e2=>by
  have e1:b6 (λ(c:Nat)=>some (Int.ofNat c)) x.cps.toList=some i:=e1
  have h:∃ cp,x.cps.toList=[cp]/\(cp:Int)=i:=nJ (P:=λl=>∃ cp:Nat,l=[cp]/\(cp:Int)=i) e1 λa e=>⟨a,rfl,sj e⟩
  obtain⟨cp,hc,rfl⟩:=h
  have hx:x=⟨#[cp]⟩:=congrArg UO (Za.mp hc)
  rw[hx]
  exact P.ord_of_char ((hQ.pr e2).tok S .int _)
theorem Lw{a:AV}{k:String}(e:BO (au H a)=some k)(S:St c w H O s.heap)(hv:VR c w a v)(hQ:Q (.type k) s):UI (UN c.prog c.w) A (call (.type "type") [v]) Q E s:=by
 have D:=hv.dr S
 revert e D
 generalize au H a=b
 refine AV.casesOn (motive_1:=λb=>BO b=some k->DR c w s.heap b v->UI _ A (call (.type "type") [v]) Q E s) b no (λ_=>no) (λ_=>no) (λy e D=>D.k λt=>?_) (λ_=>no) (λl e D=>D.k λa us n g _=>?_) (λ_=>no) (λ_=>no) (λ_ _=>no) (λ_ _=>no) (λ_=>no)
 ·exact call_type_of (XU _ _ _) (by decide) (sj e▸hQ)
 ·exact call_type_of (Tx:="list") ⟨_,g,rfl⟩ (by decide) (sj e▸hQ)
theorem PY{id:String}{b:BI}(h:IN.lookup id=some b):id=b.txt:=by
 obtain⟨l1,l2,q,_⟩:=List.lookup_eq_some_iff.mp h
 exact eq_of_beq (UP.mp (show(IN.all λp=>p.1==p.2.txt)=true by decide) (id,b) (q▸List.mem_append_right _ m0))
theorem LC{i:Int}:Bt i=true->0<=i/\i<=1114111:=Int.casesOn (motive:=λi=>Bt i=true->0<=i/\i<=1114111) i (λn h=>⟨Wg n,Int.ofNat_le.mpr (UG h)⟩) λ_=>ft
theorem EQ(hSo:qs c)(hA:aG (n+1) A){id:String}(e:(ob (IN.lookup id) λb=>Lx b args H)=some (d,H'))(S:St c w H O s.heap)(hv:VRs c w args vs)(hQ:aT c w H' O (Vd c d) Q s):
  UI (UN c.prog c.w) A (call (.builtin id) vs) Q E s:=az e λb hb e=>by
 rw[PY hb]
 cases b with
 |iter=>exact DF e S hv hQ
 |next=>exact Eb e S hv hQ
 |len=>exact vt (P:=λvs=>UI _ A (call (.builtin "len") vs) Q E s) e S hv λl a us m e g q=>aJ e λhf e=>call_len_list (items:=us.toArray) ⟨_,g,rfl,m,rfl⟩ (show((us.length:Nat):Int)<2^63 from q.length▸Wr.mpr (Va (UG hf) (by decide))) ((hQ.pr e).tok S (show VR c w (.int l.length) (.int us.length _) from q.length▸.int) _)
 |sum=>
  refine vt (P:=λvs=>UI _ A (call (.builtin "sum") vs) Q E s) e S hv λl a us m e g q=>az e λis hi e=>?_
  obtain⟨xs,rfl,rfl⟩:=q.ints hi
  refine sum_intListG hA.hd (xs:=xs.toArray) ⟨_,g,rfl,m,by simp[intItems]⟩ λh' tk t' hk=>?_
  rw[show preSum (numAt xs.toArray) xs.toArray.size=(xs.map (·.1)).sum by rw[preSum_eq,List.take_of_length_le (by simp)]]
  exact hQ.pr e w h' tk _ (.refl _) (S.keeps hk) .int
 |hex=>exact BL (P:=λvs=>UI _ A (call (.builtin "hex") vs) Q E s) e hv λi t e=>aJ e λhf e=>P.hex_of_int ((hQ.pr e).tok S .str _) (sz hf)
 |chr=>exact BL (P:=λvs=>UI _ A (call (.builtin "chr") vs) Q E s) e hv λi t e=>aJ e λhb e=>have z:=LC hb;chr_of_range z.1 z.2 ((hQ.pr e).tok S .str _)
 |ord=>exact Ic e S hv hQ
 |sorted=>exact vt (P:=λvs=>UI _ A (call (.builtin "sorted") vs) Q E s) e S hv λl a us m e g q=>az e λrows hr e=>bH e λhb e=>hSo hA.hd (UH hA.u (by decide)) S g q hr hb.1 hb.2 (hQ.pr e)
theorem Ld(hT:cM c K)(hM:II K)(hE:aF c n r)(hK:mT c n r)(hSo:qs c):kC c n r:=λ{fv args kws H A w O v vs kvs} hA hv hvs hks=>by
 refine AV.casesOn (motive_1:=λfv=>VR c w fv v->bw c A O w H (bj TT r fv args kws H) (call v vs kvs) (Vd c)) fv (λ_ _ _=>no) (λ_ _ _ _=>no) (λ_ _ _ _=>no) (λ_ _ _ _=>no) (λ_ _ _ _=>no) (λ_ _ _ _=>no) (λ_ _ _ _=>no) (λu hv=>hv.k ?_)
  (λf self hv=>hv.k λq sv h1 h2 d H' e s Q E S hQ=>wpAny_call (method_call (S.keep _ _ h1) (hK hA.down (.cons h2 hvs) hks d H' e s _ S hQ))) (λk caps hv d H' e s Q E S hQ=>gg (P:=λkws=>eA c w kws kvs->_) e (λe hks=>hks.nk (P:=λkvs=>UI _ A (call v vs kvs) Q E s) ((Rm hT hE hA hv hvs).call d H' e s Q E S hQ)) hks) (λ_ _ _ _=>no) hv
 have hn:∀{u x},(∀ d H',x=some (d,H')->∀ s Q E,St c w H O s.heap->aT c w H' O (Vd c d) Q s->UI (UN c.prog c.w) A (call u vs) Q E s)->bw c A O w H (d7 x kws) (call u vs kvs) (Vd c):=λ{u x} k d H' e s Q E S hQ=>
  gg (P:=λkws=>eA c w kws kvs->UI _ A (call u vs kvs) Q E s) e (λe hks=>hks.nk (P:=λkvs=>UI _ A (call u vs kvs) Q E s) (k d H' e s Q E S hQ)) hks
 cases u with
 |ref a=>
  show bw c A O w H (match cD a with
    |some i=>ah (r.c i (.loc (H.length+1)::args) kws (H++[.dict [],.inst a H.length])) λd H'=>qy (some (AV.loc (H.length+1),H')) d
    |none=>r.c a args kws H) _ _
  cases hi:cD a with
  |some i=>exact(Lc hT hM hK hA hi hvs hks).call
  |none=>exact(hK hA.down hvs hks).call
 |builtin id=>exact hn λd H' e s Q E S hQ=>EQ hSo hA e S hvs hQ
 |type id=>exact hn λd H' e s Q E S hQ=>aJ e λhid e=>nZ (P:=λvs=>UI _ A (call (.type id) vs) Q E s) e hvs λa u e h=>az e λk hk e=>(eq_of_beq hid).symm▸Lw hk S h ((hQ.pr e).here S .g)
 |_=>exact λ_ _=>no
end
end
section
namespace F0
theorem entry_citer_next:entryFor table "callable_iterator.__next__" =some Builtin.«callable_iterator.__next__»:=Yg (by kernel_rfl)
theorem args_citer_next(a:UF):YV "callable_iterator.__next__" ⟨[a],[]⟩:=by unfold YV;kernel_rfl
end F0
section
variable {c:Cx}{K:Frag}{w w':Wd}{H H':AH}{O:PH}{A A':Vh}{E:UF->UJ->Prop}{s:UJ}{d:AV}{n:Nat}{r:R}{v:UF}{vs:List UF}{kvs:List (Str×UF)}{args:List AV}{Q:UF->UJ->Prop}{h:Heap}
theorem nX{M:Model}{v:UF}{pos:List UF}(hc:Wp M A (.call v ⟨pos,[]⟩) (λr s'=>match r with | .ok (.ret v)=>Q v s' | .ok _=>False | .error e=>E e s') s):UI M A (callBorrowed v pos) Q E s:=λΓ p hΓ=>by
 unfold callBorrowed
 rw[Sem.wp]
 refine wpCode_mono (λr s' h=>?_) (hc _ p rfl (hΓ.enter _ none p (by intro x;cases x)))
 cases r with
 |error e=>rw[Sem.wp];exact h
 |ok f=>
  cases f with
  |ret v=>rw[Sem.wp];exact h
  |_=>exact h.elim
theorem zm{g:Nat}(X:K.In h)(e:fnIn K g=true):∃ o fd,h.get? g=some o/\o.data= .func fd:=by
 unfold fnIn at e
 split at e
 ·rename_i hl;exact⟨_,_,X _ _ hl,rfl⟩
 ·exact ft e
theorem qG{M:Model}{q g:Addr}{sv:UF}{Q:Bool->UJ->Prop}(hq:s.heap.get? q=some (methodObj (.ref g) sv))(hg:∃ o fd,s.heap.get? g=some o/\o.data= .func fd)(h:Q true s):UI M A (borrowsExactly (.ref q)) Q E s:=by
 obtain⟨o,fd,hg,hd⟩:=hg
 unfold borrowsExactly
 refine UA (wpAny_load hq ?_)
 dsimp only
 rw[if_pos (by decide)]
 refine UA (wpAny_load hg ?_)
 rw[hd]
 exact UE h
theorem uW{β:Type}{Q':β->UJ->Prop}{Q:Option UF->UJ->Prop}(hh:A.handled=none)(hQ:∀ h',(∀ b o,s.heap.get? b=some o->h'.get? b=some o)->Q none {s with heap:=h'}):
  UI (UN c.prog c.w) A (Wz:Sem β) Q' (λe s'=>UI (UN c.prog c.w) A' (do if <-isInstance e (.type "StopIteration") then pure none else throw e) Q E s') s:=by
 unfold Wz
 refine UA ?_
 simp only[newExc,newTuple]
 refine UA (ZB ?_ (by size_fits))
 refine UA (m:=firstArgMember _ _) (X7 (a:=UF.none) (by first|rfl|(simp only[firstArgMember];rfl)) ?_)
 refine ZB ?_ (by size_fits)
 simp only[raiseNew]
 refine UA (wpAny_handled ?_)
 rw[hh]
 refine UA (UE (wpAny_throw ?_))
 refine UA (wpAny_isInstance (T:="StopIteration") (b:=true) ⟨_,Heap.get?_push_size _ rfl,rfl⟩ isSubtype_stop ?_)
 exact UE (hQ _ λb o e=>Heap.get?_push_of_some _ (Heap.get?_push_of_some _ e))
noncomputable def PG(c:Cx)(A:Vh)(Q:Option UF->UJ->Prop)(E:UF->UJ->Prop)(a:Addr)(s:UJ):Prop:=
 UI (UN c.prog c.w) A.in1 (Builtin.«callable_iterator.__next__» ⟨[.ref a],[]⟩) (λfin s'=>∃ v,fin= .done (.ret v)/\UI (UN c.prog c.w) A (pure (some v)) Q E s') (λe s'=>UI (UN c.prog c.w) A (do if <-isInstance e (.type "StopIteration") then pure none else throw e) Q E s') s
theorem tS{Q:Option UF->UJ->Prop}{a:Addr}{dc sl}{x y:UF}{b:Bool}(e:s.heap.get? a=some ⟨.type "callable_iterator",dc,.fields #[x,y,.bool b],sl⟩)(k:PG c A Q E a s):UI (UN c.prog c.w) A (pyNext (.ref a)) Q E s:=
 have hT:s.TypeIs (.ref a) "callable_iterator":=⟨_,e,rfl⟩
 UA (wpAny_attempt (wpAny_callSpecial?_slot (name:=UK "__next__") hT gU (WK gU hT F0.entry_citer_next k (F0.args_citer_next _))))
theorem JI{Q:Option UF->UJ->Prop}{a g q:Addr}{sv y:UF}{dc sl}(hh:A.handled=none)(e:s.heap.get? a=some ⟨.type "callable_iterator",dc,.fields #[.ref q,y,.bool false],sl⟩)(hq:s.heap.get? q=some (methodObj (.ref g) sv))(hg:∃ o fd,s.heap.get? g=some o/\o.data= .func fd)
  (hQ:∀ h',VL a s.heap h'->h'.get? a=some ⟨.type "callable_iterator",dc,.fields #[.none,.none,.bool true],sl⟩->Q none {s with heap:=h'}) {β:Type} {Q':β->UJ->Prop} {who:String} {bz:Code->Bool}:
  UI (UN c.prog c.w) A (do
   (do slotLetsGo who (<-field (.ref a) 0) bz;setField (.ref a) 0 .none;setField (.ref a) 1 .none;setField (.ref a) 2 (.bool true))
   (Wz:Sem β)) Q' (λe s'=>UI (UN c.prog c.w) A' (do if <-isInstance e (.type "StopIteration") then pure none else throw e) Q E s') s:=by
 refine UA (UA (m:=field (.ref a) 0) (Wx e rfl (x:=.ref q) rfl (UA ?_)))
 unfold slotLetsGo
 refine UA (qG hq hg ?_)
 rw[if_pos rfl]
 refine UE (UA (YT e rfl (show 0<3 by decide) ?_))
 have g1:=Heap.get?_update_self (Obj.mapFields (·.setIfInBounds 0 .none)) e rfl
 refine UA (YT g1 rfl (show 1<3 by decide) ?_)
 have g2:=Heap.get?_update_self (Obj.mapFields (·.setIfInBounds 1 .none)) g1 rfl
 refine YT g2 rfl (show 2<3 by decide) (uW hh λh' k=>hQ h' (λb o hb e=>k _ _ ?_) (k _ _ (Heap.get?_update_self (Obj.mapFields (·.setIfInBounds 2 (.bool true))) g2 rfl)))
 exact(VV _ a _).extBut b o hb ((VV _ a _).extBut b o hb ((VV _ a _).extBut b o hb e))
theorem C7(hT:TF c K)(hO:iB r)(hK:mT c n r):cW c n r:=λ{k H A w O a} hA ha res H' e s Q E S hQ=>az e λo eo e=>by
 revert eo e
 refine AO.casesOn (motive:=λo=>H[k]? =some o->m6 TT r k H o=some (res,H')->UI _ A (pyNext (.ref a)) Q E s) o (λ_ _=>no) (λ_ _ _=>no) (λ_ _=>no) (λ_ _ _=>no) (λfA sA eo e=>mW (P:=λfA=>H[k]? =some (.citer fA sA)->_) e (λg self e eo=>aP e λv H1 ev e=>az e λo1 eo1 e=>?_) eo) (λeo e=>?_) (λ_ _=>no)
 ·obtain⟨ro,e2,fv,sv,sl,dc,rfl,v1,v2⟩:=S.at ha eo
  refine v1.k (P:=λfv=>s.heap.get? a=some ⟨.type "callable_iterator",dc,.fields #[fv,sv,.bool false],sl⟩->_) (λq svv b1 b2 e2=>?_) e2
  have hr:r.c g [self] [] H=some (v,H1):=ev
  refine tS e2 ?_
  show UI _ _ (field (.ref a) 2>>=_) _ _ s
  refine UA (Wx e2 rfl (x:=.bool false) rfl ?_)
  rw[if_neg (by decide)]
  refine UA (Wx e2 rfl (x:=.ref q) rfl (UA (wpAny_attempt ?_)))
  unfold callOutOfASlot
  refine UA (qG (S.keep _ _ b1) (zm (jp hT.top S) (hT.fn.fn g (hO hr))) ?_)
  rw[if_pos rfl]
  refine nX (method_call (S.keep _ _ b1) (hK (A:=A.in1) (hA.step rfl (Vi _ _) (VA (by decide) _)) (.cons b2 .nil) ⟨.nil,rfl⟩ v H1 hr _ _ S λw1 h1 t1 u l1 S1 r1=>?_))
  have q0:=r1
  dsimp only
  revert eo1 e
  refine AO.casesOn (motive:=λo=>H1[k]? =some o->kK TT k v H1 o=some (res,H')->_) o1 (λ_ _=>no) (λ_ _ _=>no) (λ_ _=>no) (λ_ _ _=>no) (λfA2 sA2 eo e=>mW (P:=λfA=>H1[k]? =some (.citer fA sA2)->_) e (λg2 self2 e eo=>gE (P:=λsA=>H1[k]? =some (.citer (.bm g2 self2) sA)->_) e (λx e eo=>gE (P:=λv=>VR c w1 v u->_) e (λy e r1=>?_) r1) eo) eo) (λ_=>no) (λ_ _=>no)
  obtain⟨ro,f2,fv2,sv2,sl2,dc2,rfl,c1,c2⟩:=S1.at (l1.at ha) eo
  revert f2
  refine c2.k (P:=λsv2=>h1.get? a=some ⟨.type "callable_iterator",dc2,.fields #[fv2,sv2,.bool false],sl2⟩->_) λtx=>c1.k (P:=λfv2=>h1.get? a=some ⟨.type "callable_iterator",dc2,.fields #[fv2,.str x tx,.bool false],sl2⟩->_) λq2 sv3 b3 b4 f2=>?_
  have r0:=q0
  revert r0
  refine r1.k λty r0=>?_
  refine UA (Wx f2 rfl (x:=.bool false) rfl ?_)
  rw[if_neg (by decide)]
  refine UA (Wx f2 rfl (x:=.str x tx) rfl (UA (U9 (wpAny_eqBool_str ?_))))
  refine eg e (λhb e=>aJ e λhfn e=>?_) λhb e=>?_
  ·rw[hb]
   simp only[Bool.not_true,Vq,if_false]
   exact UA (Xg (JI (A:=A.in1) (A':=A) (E:=E) (Q:=Q) hA.hd f2 (S1.keep _ _ b3) (zm (jp (s:=aI s h1 t1) hT.top S1) (hT.fn.fn g2 hfn)) λh2 k2 k3=>hQ.pr e w1 h2 t1 none l1 (S1.turn (l1.at ha) k2 k3 ⟨_,_,rfl⟩) rfl))
  ·rw[hb]
   simp only[Bool.not_false,if_true]
   exact UE ⟨_,rfl,UE (hQ.pr e w1 _ t1 _ l1 S1 ⟨_,rfl,r0⟩)⟩
 ·obtain⟨ro,e2,sl,dc,rfl⟩:=S.at ha eo
  refine tS e2 ?_
  show UI _ _ (field (.ref a) 2>>=_) _ _ s
  refine UA (Wx e2 rfl (x:=.bool true) rfl ?_)
  rw[if_pos (by decide)]
  exact UA (Xg (UA (uW (A:=A.in1) hA.hd λh2 hk=>hQ.pr e w h2 _ none (.refl _) (S.keeps hk) rfl)))
end
end
section
noncomputable def eY(g:IS->Stmt->Bool):List IS->List Stmt->Bool
 | [],r=>r.isEmpty
 |i::l,r=>match r with
  | []=>false
  |s::r=>g i s&&eY g l r
def EF(ks:Ks)(sg:Sg)(i:Nat)(x:Str):Bool:=sg.lookup x==some i&&(cZ ks x&&(x !=UK "__debug__"&&x !=UK "__classdict__"))
noncomputable def O0(f:Expr->Bool)(e:Stmt):Bool:=if h:e.ctorIdx=24 then Y4 (motive_2:=λ_=>Bool) e h (λv _=>f v) else false
@[elab_as_elim] theorem O1{f:Expr->Bool}{e:Stmt}{P:Stmt->Prop}(h:O0 f e=true)(kk:∀ v p,f v=true->P (.Expr v p)):P e:=
 eT h λhi h=>Y4 (motive_2:=λe=>∀ hi,Y4 (motive_2:=λ_=>Bool) e hi (λv _=>f v)=true->P e) e hi (λv p _ h=>kk v p h) hi h
noncomputable def rE(f:List Expr->Expr->Bool)(e:Stmt):Bool:=if h:e.ctorIdx=5 then Yk (motive_2:=λ_=>Bool) e h (λl v _=>f l v) else false
@[elab_as_elim] theorem oh{f:List Expr->Expr->Bool}{e:Stmt}{P:Stmt->Prop}(h:rE f e=true)(kk:∀ l v p,f l v=true->P (.Assign l v p)):P e:=
 eT h λhi h=>Yk (motive_2:=λe=>∀ hi,Yk (motive_2:=λ_=>Bool) e hi (λl v _=>f l v)=true->P e) e hi (λl v p _ h=>kk l v p h) hi h
noncomputable def Cq(f:Expr->VK->Expr->Bool)(e:Stmt):Bool:=if h:e.ctorIdx=7 then Xo (motive_2:=λ_=>Bool) e h (λt o v _=>f t o v) else false
@[elab_as_elim] theorem Aq{f:Expr->VK->Expr->Bool}{e:Stmt}{P:Stmt->Prop}(h:Cq f e=true)(kk:∀ t o v p,f t o v=true->P (.AugAssign t o v p)):P e:=
 eT h λhi h=>Xo (motive_2:=λe=>∀ hi,Xo (motive_2:=λ_=>Bool) e hi (λt o v _=>f t o v)=true->P e) e hi (λt o v p _ h=>kk t o v p h) hi h
noncomputable def Jo(f:List Expr->Bool)(e:Stmt):Bool:=if h:e.ctorIdx=4 then Yj (motive_2:=λ_=>Bool) e h (λl _=>f l) else false
@[elab_as_elim] theorem KQ{f:List Expr->Bool}{e:Stmt}{P:Stmt->Prop}(h:Jo f e=true)(kk:∀ l p,f l=true->P (.Delete l p)):P e:=
 eT h λhi h=>Yj (motive_2:=λe=>∀ hi,Yj (motive_2:=λ_=>Bool) e hi (λl _=>f l)=true->P e) e hi (λl p _ h=>kk l p h) hi h
noncomputable def Jr(f:Option Expr->Bool)(e:Stmt):Bool:=if h:e.ctorIdx=3 then Yi (motive_2:=λ_=>Bool) e h (λv _=>f v) else false
@[elab_as_elim] theorem KS{f:Option Expr->Bool}{e:Stmt}{P:Stmt->Prop}(h:Jr f e=true)(kk:∀ v p,f v=true->P (.Return v p)):P e:=
 eT h λhi h=>Yi (motive_2:=λe=>∀ hi,Yi (motive_2:=λ_=>Bool) e hi (λv _=>f v)=true->P e) e hi (λv p _ h=>kk v p h) hi h
noncomputable def Js(f:Expr->List Stmt->List Stmt->Bool)(e:Stmt):Bool:=if h:e.ctorIdx=12 then ZN (motive_2:=λ_=>Bool) e h (λt x y _=>f t x y) else false
@[elab_as_elim] theorem KT{f:Expr->List Stmt->List Stmt->Bool}{e:Stmt}{P:Stmt->Prop}(h:Js f e=true)(kk:∀ t x y p,f t x y=true->P (.If t x y p)):P e:=
 eT h λhi h=>ZN (motive_2:=λe=>∀ hi,ZN (motive_2:=λ_=>Bool) e hi (λt x y _=>f t x y)=true->P e) e hi (λt x y p _ h=>kk t x y p h) hi h
noncomputable def O2(f:Expr->List Stmt->List Stmt->Bool)(e:Stmt):Bool:=if h:e.ctorIdx=11 then YF (motive_2:=λ_=>Bool) e h (λt x y _=>f t x y) else false
@[elab_as_elim] theorem O3{f:Expr->List Stmt->List Stmt->Bool}{e:Stmt}{P:Stmt->Prop}(h:O2 f e=true)(kk:∀ t x y p,f t x y=true->P (.While t x y p)):P e:=
 eT h λhi h=>YF (motive_2:=λe=>∀ hi,YF (motive_2:=λ_=>Bool) e hi (λt x y _=>f t x y)=true->P e) e hi (λt x y p _ h=>kk t x y p h) hi h
noncomputable def Jp(f:Expr->Expr->List Stmt->List Stmt->Bool)(e:Stmt):Bool:=if h:e.ctorIdx=9 then Zu (motive_2:=λ_=>Bool) e h (λt i x y _=>f t i x y) else false
@[elab_as_elim] theorem KR{f:Expr->Expr->List Stmt->List Stmt->Bool}{e:Stmt}{P:Stmt->Prop}(h:Jp f e=true)(kk:∀ t i x y p,f t i x y=true->P (.For t i x y p)):P e:=
 eT h λhi h=>Zu (motive_2:=λe=>∀ hi,Zu (motive_2:=λ_=>Bool) e hi (λt i x y _=>f t i x y)=true->P e) e hi (λt i x y p _ h=>kk t i x y p h) hi h
noncomputable def Jl(f:Bool)(e:Stmt):Bool:=if h:e.ctorIdx=26 then YG (motive_2:=λ_=>Bool) e h (λ_=>f) else false
@[elab_as_elim] theorem KN{f:Bool}{e:Stmt}{P:Stmt->Prop}(h:Jl f e=true)(kk:∀ p,f=true->P (.Break p)):P e:=
 eT h λhi h=>YG (motive_2:=λe=>∀ hi,YG (motive_2:=λ_=>Bool) e hi (λ_=>f)=true->P e) e hi (λp _ h=>kk p h) hi h
noncomputable def Jn(f:Bool)(e:Stmt):Bool:=if h:e.ctorIdx=27 then Xy (motive_2:=λ_=>Bool) e h (λ_=>f) else false
@[elab_as_elim] theorem KP{f:Bool}{e:Stmt}{P:Stmt->Prop}(h:Jn f e=true)(kk:∀ p,f=true->P (.Continue p)):P e:=
 eT h λhi h=>Xy (motive_2:=λe=>∀ hi,Xy (motive_2:=λ_=>Bool) e hi (λ_=>f)=true->P e) e hi (λp _ h=>kk p h) hi h
noncomputable def Mg(e:IE):Bool:=match e with
 | .con v=>(match v with
  | .none=>true
  |_=>false)
 |_=>false
noncomputable def zD(e:IE):Bool:=match e with
 | .comp _ _ _=>true
 |_=>false
noncomputable def rB(e:Expr):Bool:=!(e.ctorIdx==8||(e.ctorIdx==9||e.ctorIdx==10))
def cF:Nat->Ks->Sg->Nat->IS->Stmt->Bool
 |0,_,_,_,_,_=>false
 |f+1,ks,sg,nx,st,s=>match st with
  | .expr e=>O0 (λv=>np v&&ar f ks sg nx e v) s
  | .set i e=>rE (λl v=>one (gR λx _=>EF ks sg i x&&(ar f ks sg nx e v&&(zD e||rB v))) l) s
  | .aug i op e=>Cq (λt op' v=>gR (λx _=>op==op'&&(EF ks sg i x&&ar f ks sg nx e v)) t) s
  | .setA o m e=>rE (λl v=>one (nI λoe x _=>UK m.txt==x&&(ar f ks sg nx o oe&&(ar f ks sg nx e v&&rB v))) l) s
  | .augA o m op e=>Cq (λt op' v=>nI (λoe x _=>op==op'&&(UK m.txt==x&&(ar f ks sg nx o oe&&ar f ks sg nx e v))) t) s
  | .setAll o e=>rE (λl v=>one (oi λoe y=>tw (λl u=>l.isNone&&(u.isNone&&(ar f ks sg nx o oe&&ar f ks sg nx e v))) y) l) s
  | .setI o i e=>rE (λl v=>one (oi λoe ie=>!kX ie&&(ar f ks sg nx o oe&&(ar f ks sg nx i ie&&(ar f ks sg nx e v&&rB v)))) l) s
  | .delI o i=>Jo (one (oi λoe ie=>!kX ie&&(ar f ks sg nx o oe&&ar f ks sg nx i ie))) s
  | .ret e=>Jr (λv=>match v with
   |none=>Mg e
   |some v=>ar f ks sg nx e v) s
  | .ite c a b=>Js (λt x y=>ar f ks sg nx c t&&(eY (cF f ks sg nx) a x&&eY (cF f ks sg nx) b y)) s
  | .wh c b=>O2 (λt x y=>y.isEmpty&&(ar f ks sg nx c t&&eY (cF f ks sg nx) b x)) s
  | .fr t it b o=>Jp (λte ie x y=>ar f ks sg nx it ie&&(iW ks sg t te&&(!gK ie&&(eY (cF f ks sg nx) b x&&eY (cF f ks sg nx) o y)))) s
  | .brk=>Jl true s
  | .cont=>Jn true s
  | .stop=>true
noncomputable def mP(c:Cx)(w:Wd)(P:Flow->Prop)(fl:AF):Prop:=match fl with
 | .next=>P .next
 | .brk=>P .brk
 | .cont=>P .cont
 | .ret d=>∀ v,VR c w d v->P (.ret v)
theorem mP.imp{c:Cx}{w:Wd}{P P':Flow->Prop}{fl:AF}(k:∀ f,P f->P' f):mP c w P fl->mP c w P' fl:=AF.casesOn (motive:=λfl=>mP c w P fl->mP c w P' fl) fl (k _) (k _) (k _) λ_ h v q=>k _ (h v q)
noncomputable def ja(c:Cx)(w:Wd)(H':AH)(O:PH)(ks:Ks)(sg:Sg)(len:Nat)(ρ':ae)(env:Env)(s:UJ)(fl:AF)(Q:Flow->UJ->Prop):Prop:=
 ∀ w' OF' h' tk,w.le w'->FS c w' O OF' ks sg ρ' env->ρ'.length=len->St c w' H' (un O OF') h'->mP c w' (λf=>Q f (aI s h' tk)) fl
noncomputable def fO(c:Cx)(A:Vh)(O OF:PH)(ks:Ks)(sg:Sg)(len:Nat)(env:Env)(w:Wd)(H:AH)(x:Option (AF×ae×AH))(p:Sem Flow):Prop:=
 ∀ fl ρ' H',x=some (fl,ρ',H')->∀ s Q E,St c w H (un O OF) s.heap->ja c w H' O ks sg len ρ' env s fl Q->UI (UN c.prog c.w) A p Q E s
noncomputable def jq(c:Cx)(n:Nat)(r:R):Prop:=∀{f:Nat} {ks:Ks} {sg:Sg} {len:Nat} {b:List IS} {st:List Stmt} {ρ:ae} {H:AH} {env:Env} {A:Vh} {w:Wd} {O OF:PH},
 eY (cF f ks sg len) b st=true->ρ.length=len->aG n A->FS c w O OF ks sg ρ env->fO c A O OF ks sg len env w H (r.b b ρ H) (execs st env)
section
variable {c:Cx}{w w':Wd}{H H':AH}{O OF:PH}{ks:Ks}{sg:Sg}{len:Nat}{ρ ρ' ρ1:ae}{env:Env}{s:UJ}{fl fl1:AF}{Q:Flow->UJ->Prop}
theorem ja.after(hQ:ja c w H O ks sg len ρ' env s fl Q)(l:w.le w'){h:Heap}{tk:Nat}:ja c w' H O ks sg len ρ' env (aI s h tk) fl Q:=λw2 OF' h' tk' a b e=>hQ w2 OF' h' tk' (l.trans a) b e
theorem ja.pr(hQ:ja c w H' O ks sg len ρ' env s fl Q)(e:some (fl1,ρ1,H)=some (fl,ρ',H')):ja c w H O ks sg len ρ1 env s fl1 Q:=by
 have e:=UW (sj e)
 have e2:=UW e.2
 exact e.1▸e2.1▸e2.2▸hQ
end
end
end
section
open PySem PySem.Calls PyProof.Rows PySem.W PySem.SeqAt Builtin Builtin.ObjectAttr Builtin.Getset_descriptor
section
structure vI(K:Frag):Prop where
 set:∀ c,(cD c).isSome=true->XX K (.ref c) "__setattr__" =some (some (.builtin "object.__setattr__"))/\plainOver K c=true/\(clsIn K c).any (·.hasDict)=true
structure ve(K:Frag):Prop where
 set:∀ c f,AL c=some f->noSeq K c=true/\XX K (.ref c) "__setitem__" =some (some (.ref f))/\isFn K (.ref f)=true
 del:∀ c f,zf c=some f->noSeq K c=true/\XX K (.ref c) "__delitem__" =some (some (.ref f))/\isFn K (.ref f)=true
section
variable {c:Cx}{K:Frag}{w w':Wd}{H H':AH}{O:PH}{A:Vh}{E:UF->UJ->Prop}{s:UJ}{d:AV}{h h':Heap}
theorem yp{x dx C:Addr}{es:List Vx}{k:Nat}{name:Str}{v:UF}{Q:Unit->UJ->Prop}(X:K.In s.heap)(I:InstAt s.heap x (instObj C dx) C (some (Xl es k)))(hx:s.heap.get? x=some (instObj C dx))(D:s.heap.get? dx=some (Xl es k))
  (hs:XX K (.ref C) "__setattr__" =some (some (.builtin "object.__setattr__"))) (hp:plainOver K C=true) (ht:takerIn K C name=some none) (hh:(clsIn K C).any (·.hasDict)=true) (hl:(W.getL name es).isSome=true) (hz:(putL name (WE c.w.params name) (.str name (s.toks+1)) v es).length<=1000)
  (h:∀ h',VL dx s.heap h'->h'.get? dx=some (Xl (putL name (WE c.w.params name) (.str name (s.toks+1)) v es) (putN name es k))->Q () {s with heap:=h',toks:=s.toks+2}):
  UI (UN c.prog c.w) A (setAttr (.ref x) name v) Q E s:=by
 refine set_plain X I hs (osa_open X I hp ht λb=>?_)
 obtain⟨cd,hc,hd'⟩:=any_some hh
 have D':=Heap.get?_update_self (Obj.putName name (WE c.w.params name) (.str name (s.toks+1)) v) D (by rw[Yt];rfl)
 refine UA (UE (UA (UA (wpAny_loadPart hx (UA (looks_clsIn X hc _ _ _ _ (λ_ _ e=>e) ?_))))))
 rw[hd']
 refine UE (a:=some dx) (UA (UE (UA ?_)))
 unfold nsSet
 refine UA (UA (ZM (UE (UA (wpAny_mkText (UA (wpAny_loadPart D ?_)))))))
 dsimp only
 have cc:(!es.toArray.any (·.key.isStr name)&&es.toArray.any (·.refKey))=false:=by
  rw[<-Array.any_toList,<-Array.any_toList]
  unfold W.getL at hl
  split at hl
  ·rename_i en he
   rw[Zk.mpr ⟨en,List.mem_of_find?_eq_some he,List.find?_some he⟩];rfl
  ·split at hl
   ·exact ft hl
   ·rename_i z;rw[Bool.not_eq_true] at z;rw[z,Yo]
 rw[aRefKeyMayBeTheName_at,cc]
 refine wpAny_updatePart D (UA (wpAny_lookBehind D' (by rw[Yt];exact pastItsLine_dict (by rw[Wn,X8];omega)) ?_))
 refine UE (h _ (λb o q e=>(Heap.get?_update_ne _ _ _ _ q).trans e) ?_)
 rw[Yt] at D'
 exact D'
theorem KRs.put{m:NM}{v:AV}{u:UF}{hsh:Int}{t:Tok}(hv:VR c w v u){fs:List (NM×AV)}{es:List Vx}(k:KRs c w fs es):KRs c w (qg m v fs) (putL (UK m.txt) hsh (.str (UK m.txt) t) u es):=
 k.ind (M:=λfs es=>KRs c w (qg m v fs) (putL (UK m.txt) hsh (.str (UK m.txt) t) u es)) (.cons (p:=(m,v)) hv .nil) λp l h t' y es a b ih=>by
  obtain⟨x,d⟩:=p
  unfold qg putL
  rw[wP]
  by_cases q:x=m
  ·rw[if_pos q,decide_eq_true q]
   exact .cons (p:=(x,v)) hv b
  ·rw[if_neg q,decide_eq_false q]
   exact .cons a ih
theorem KRs.len{fs:List (NM×AV)}{es:List Vx}(k:KRs c w fs es):es.length=fs.length:=k.ind (M:=λfs es=>es.length=fs.length) rfl λ_ _ _ _ _ _ _ _ i=>congrArg (· +1) i
theorem Ik{m:NM}{v:AV}(fs:List (NM×AV)):(qg m v fs).length<=fs.length+1:=
 List.rec (motive:=λfs=>(qg m v fs).length<=fs.length+1) (V4 _) (λp l ih=>iteInduction (motive:=λx:List (NM×AV)=>x.length<=_) (λ_=>XB _) λ_=>WG ih) fs
theorem mN(hF:TF c K)(hSe:vI K){o v:AV}{m:NM}(e:setA TT o m v H=some H')(S:St c w H O s.heap){vo u:UF}(ho:VR c w o vo)(hv:VR c w v u){Q:Unit->UJ->Prop}
  (hQ:∀ h' tk,St c w H' O h'->Q () (aI s h' tk)):UI (UN c.prog c.w) A (setAttr vo (UK m.txt) u) Q E s:=
 jd (P:=λo=>VR c w o vo->_) e (λi e ho=>ho.k λa ha=>az e λx h1 e=>lB (P:=λx=>H[i]? =some x->_) e (λcl dd e h1=>az e λx h2 e=>oZ (P:=λx=>H[dd]? =some x->_) e (λfs e h2=>aJ e λhb e=>
  q5 S ha h1 h2 λdx es k g1 g2 g3 g4 g5 g6 I=>
   have hm:=Vm.mp (a1 hb)
   have hput:=g5.put (m:=m) (hsh:=WE c.w.params (UK m.txt)) (t:=s.toks+1) hv
   have hl:=UH (Ik (m:=m) (v:=v) fs) (WG (UG (a2 hb)))
   have hs:=hSe.set cl g2
   yp (jp hF.top S) I g3 g4 hs.1 hs.2.1 (by unfold takerIn;rw[hF.cls.fld cl m g2 hm];rfl) hs.2.2 ((g5.getL m).elim λo q=>q.1▸rfl) (hput.len▸UH hl (by decide)) λh' q1 q2=>
    hQ h' _ (sj e▸S.turn g1 q1 q2 ⟨_,_,rfl,hput,UH hl (by decide)⟩)) h2) h1) ho
theorem qB{op:VK}{a b y:AV}(e:iS op a b=some y)(S:St c w H O s.heap){va vb:UF}(ha:VR c w a va)(hb:VR c w b vb){Q:UF->UJ->Prop}(hQ:aT c w H O (Vd c y) Q s):
  UI (UN c.prog c.w) A (inplaceOp op va vb) Q E s:=by
 refine AV.casesOn (motive_1:=λa=>iS op a b=some y->VR c w a va->UI (UN c.prog c.w) A (inplaceOp op va vb) Q E s) a no (λ_=>no) (λx e ha=>ha.k λt=>dR (P:=λb=>VR c w b vb->UI (UN c.prog c.w) A (inplaceOp op (.int x t) vb) Q E s) e (λz e hb=>hb.k λt2=>?_) hb)
  (λx e ha=>ha.k λt=>gE (P:=λb=>VR c w b vb->UI (UN c.prog c.w) A (inplaceOp op (.str x t) vb) Q E s) e (λz e hb=>hb.k λt2=>aJ e λh e2=>?_) hb) (λ_=>no) (λ_=>no) (λ_=>no) (λ_=>no) (λ_ _=>no) (λ_ _=>no) (λ_=>no) e ha
 ·revert e
  cases op
  case Add=>exact λe=>iadd_int (hQ.i S e)
  case LShift=>exact λe=>bH e λh e=>ilshift_int_small h.1 (Int.le_trans h.2.1 (by decide)) h.2.2 (hQ.i S e)
  case BitOr=>exact λe=>ior_int (hQ.i S e)
  case BitXor=>exact λe=>ixor_int (hQ.i S e)
  all_goals exact no
 ·revert h
  cases op
  case Add=>exact λh=>iadd_str (λt' tk=>hQ.t S e2) (sz h)
  all_goals exact ft
theorem yo{x C f:Addr}{ox:Obj}{od:Option Obj}{i v:UF}{Q:Unit->UJ->Prop}(X:K.In s.heap)(I:InstAt s.heap x ox C od)(hq:noSeq K C=true/\XX K (.ref C) "__setitem__" =some (some (.ref f))/\isFn K (.ref f)=true)
  (h:UI (UN c.prog c.w) A (call (.ref f) [.ref x,i,v]) (λ_ s'=>Q () s') E s):UI (UN c.prog c.w) A (setItem (.ref x) i v) Q E s:=by
 unfold setItem sequenceKey
 refine U9 (UA (UA (I.type.here (UA ((anyM_none X hq.1).here ?_)))))
 rw[if_pos (show(!false)=true from rfl)]
 exact UE (UA (special_fn X I hq.2.1 (beq_iff_eq.mp hq.2.2) (Vg h (λ_ _ z=>UE z) λ_ _ z=>z)))
theorem v9{x C f:Addr}{ox:Obj}{od:Option Obj}{i:UF}{Q:Unit->UJ->Prop}(X:K.In s.heap)(I:InstAt s.heap x ox C od)(hq:noSeq K C=true/\XX K (.ref C) "__delitem__" =some (some (.ref f))/\isFn K (.ref f)=true)
  (h:UI (UN c.prog c.w) A (call (.ref f) [.ref x,i]) (λ_ s'=>Q () s') E s):UI (UN c.prog c.w) A (delItem (.ref x) i) Q E s:=by
 unfold delItem sequenceKey
 refine U9 (UA (UA (I.type.here (UA ((anyM_none X hq.1).here ?_)))))
 rw[if_pos (show(!false)=true from rfl)]
 exact UE (UA (special_fn X I hq.2.1 (beq_iff_eq.mp hq.2.2) (Vg h (λ_ _ z=>UE z) λ_ _ z=>z)))
end
end
end
section
open PySem PySem.Calls PyProof.Rows PySem.W PySem.SeqAt
section
section
variable {c:Cx}{K:Frag}{w w':Wd}{H H':AH}{O OF:PH}{A:Vh}{E:UF->UJ->Prop}{s:UJ}{d:AV}{h h':Heap}
section
variable {α:Type}{m:Model}{Q:α->UJ->Prop}{p:Prop}[Decidable p]{x y:Sem α}
theorem PC(h:p)(k:UI m A x Q E s):UI m A (if p then x else y) Q E s:=(if_pos h).symm▸k
theorem CR(h:¬p)(k:UI m A y Q E s):UI m A (if p then x else y) Q E s:=(if_neg h).symm▸k
theorem Uw(h:x=y)(k:UI m A y Q E s):UI m A x Q E s:=h.symm▸k
end
theorem yS{a b sl:Addr}{vs us:List UF}{k m:Nat}{Q:Unit->UJ->Prop}(ho:s.heap.get? a=some (U5 "list" vs.toArray k))(hs:s.heap.get? sl=some {cls:=.type "slice",data:=.fields #[.none,.none,.none]})(hb:s.heap.get? b=some (U5 "list" us.toArray m))(hne:b≠a)
  (hz1:vs.length<=1000000) (hz2:us.length<=1000000) (hQ:∀ h' k',VL a s.heap h'->h'.get? a=some (U5 "list" us.toArray k')->Q () {s with heap:=h'}):UI (UN c.prog c.w) A (setItem (.ref a) (.ref sl) (.ref b)) Q E s:=by
 have hT:s.TypeIs (.ref a) "list":=⟨_,ho,rfl⟩
 have hTs:s.TypeIs (.ref sl) "slice":=⟨_,hs,rfl⟩
 have hTb:s.TypeIs (.ref b) "list":=⟨_,hb,rfl⟩
 unfold setItem
 refine U9 (UA (wpAny_sequenceKey hT (by decide) (UA (wpAny_callSpecial?_slot (name:=UK "__setitem__") hT F.slot_list_setitem (WK F.slot_list_setitem hT F.entry_list_setitem ?_ (F.args_list_setitem_3 _ _ _))))))
 show UI _ _ (Ys (.ref sl)>>=_) _ _ s
 refine UA ?_
 unfold Ys
 refine UA (WO hTs slice_no_index ?_)
 simp only[Option.isNone_none,if_true]
 refine UE ?_
 show UI _ _ (typeOf (.ref sl)>>=_) _ _ s
 refine UA (wpAny_typeOf hTs ?_)
 refine CR (by decide) (UA (Uw (listSliceParts_eq _) ?_))
 refine UA (Wx hs rfl (x:=.none) rfl (UA (wpAny_listPart .none (CR (by decide) ?_))))
 refine UA (Wx hs rfl (x:=.none) rfl (UA (wpAny_listPart .none ?_)))
 refine UA (Wx hs rfl (x:=.none) rfl (UA (wpAny_listPart .none (UE ?_))))
 have en:vs.toArray.extract 0 (Int.toNat 0)++us.toArray++vs.toArray.extract (Int.toNat (max 0 (vs.toArray.size:Int))) vs.toArray.size=us.toArray:=by
  rw[show(max 0 (vs.toArray.size:Int)).toNat=vs.toArray.size by omega]
  simp
 refine CR (show ¬Builtin.List.listSameRef (.ref a) (.ref b)=true from λq=>hne (eq_of_beq q).symm) (UA ?_)
 unfold Builtin.List.listAllItems
 refine UA (wpAny_typeOf hTb (PC (by decide) ?_))
 refine listItems_at hb rfl (UA (listItems_at ho rfl (UA (X7 (sliceIndices_raw none none none vs.toArray.size (by decide)) ?_))))
 refine PC (p:=((1:Int)==1)=true) (by decide) (UA (Xg ?_))
 refine CR (show ¬W3 (vs.toArray.size+us.toArray.size)=true by unfold W3;simp[Xc];omega) ?_
 refine UA (listUpdate_at ho rfl ?_ (UH hz1 (by decide)) (UH (Vv (congrArg Array.size en)) (UH hz2 (by decide))))
 exact UA (wpAny_letGo (UE ⟨_,rfl,UE (hQ _ _ (λb o q e=>(Heap.get?_update_ne _ _ _ _ q).trans e) ((get?_update_seq ho _).trans (congrArg (λx=>some (U5 "list" x _)) en)))⟩))
end
end
section
theorem DA{e:IE}{P:IE->Prop}(h:zD e=true)(k:∀ mu elt gens,P (.comp mu elt gens)):P e:=by
 cases e<;>first|exact k _ _ _|exact ft h
theorem CJ{v:Expr}{t:Option Expr}{l:Nat}{env:Env}(h:np v=true):Zl v t l env=pure false:=by
 cases v<;>first|rfl|exact ft h
theorem qi{v:Expr}(h:rB v=true){t:Option Expr}{l:Nat}{env:Env}:Zl v t l env=pure false:=by
 cases v<;>first|rfl|exact ft h
theorem EJ{v o i:Expr}{p:Pos}{l:Nat}{env:Env}:Zl v (some (.Subscript o i p)) l env=pure false:=by
 cases v<;>rfl
section
variable {c:Cx}{K:Frag}{w w':Wd}{H H':AH}{O OF:PH}{A:Vh}{E:UF->UJ->Prop}{s:UJ}{d:AV}{h h':Heap}{n:Nat}{r:R}{ks:Ks}{sg:Sg}{ρ:ae}{env:Env}{f:Nat}{st:Stmt}
theorem CX{C:Addr}(a:gu w (un O OF) bX h C):aR w O OF [C] h:=λb q=>fy q λq=>q▸{a with o:=(CP a.o).1,f:=(CP a.o).2}
theorem Pj(hE:aF c n r)(hA:aG n A){e:IE}(hc:cF (f+1) ks sg ρ.length (.expr e) st=true)(F:FS c w O OF ks sg ρ env):fO c A O OF ks sg ρ.length env w H (am TT r (.expr e) ρ H) (exec st env):=λfl ρ' H' he s Q E S hQ=>
 O1 (P:=λst=>UI (UN c.prog c.w) A (exec st env) Q E s) hc λv p h=>wpAny_Expr_any ((hE (a2 h) hA F.er).k he S λd H1 w1 m1 t1 u he l1 S1 r1=>hQ.pr he w1 OF m1 t1 l1 (F.mono l1) rfl S1) (by unfold interactive;rw[F.er.fk];rfl) (CJ (a1 h))
theorem QO(hE:aF c n r)(hU:vK c n r)(hA:aG n A){i:Nat}{e:IE}(hc:cF (f+1) ks sg ρ.length (.set i e) st=true)(F:FS c w O OF ks sg ρ env):fO c A O OF ks sg ρ.length env w H (am TT r (.set i e) ρ H) (exec st env):=λfl ρ' H' he s Q E S hQ=>
 oh (P:=λst=>UI (UN c.prog c.w) A (exec st env) Q E s) hc λl v p h=>ff (P:=λl=>UI (UN c.prog c.w) A (exec (.Assign l v p) env) Q E s) h λt h=>c4 (P:=λt=>UI (UN c.prog c.w) A (exec (.Assign [t] v p) env) Q E s) h λx px h=>by
  have g1:=eq_of_beq (a1 (a1 h))
  have g2:=a1 (a2 (a1 h))
  have h2:=a1 (a2 h)
  have plain:Zl v (some (.Name x px)) p.line env=pure false->UI (UN c.prog c.w) A (exec (.Assign [.Name x px] v p) env) Q E s:=λhs=>
   wpAny_Assign_Name ((hE h2 hA F.er).k he S λd H1 w1 m1 t1 u he l1 S1 r1=>d8 (F.mono l1) g1 g2 S1 r1 λOF' h2' tk2 F' S'=>hQ.pr he w1 OF' h2' tk2 l1 F' Wo S') hs
  refine(Vr.mp (a2 (a2 h))).elim (λq=>?_) λq=>plain (qi q)
  cases f with
  |zero=>exact ft h2
  |succ f=>
  revert he h2
  refine DA (P:=λe=>am TT r (.set i e) ρ H=some (fl,ρ',H')->ar (f+1) ks sg ρ.length e v=true->_) q λmu elt gens he h2=>?_
  have h2':=h2
  revert plain h2'
  refine qd (P:=λv=>(Zl v (some (.Name x px)) p.line env=pure false->UI (UN c.prog c.w) A (exec (.Assign [.Name x px] v p) env) Q E s)->ar (f+1) ks sg ρ.length (.comp mu elt gens) v=true->UI (UN c.prog c.w) A (exec (.Assign [.Name x px] v p) env) Q E s) h2 λel cs sc cp _ plain h2'=>?_
  obtain⟨b,hsw⟩:∃ b,Zl (.ListComp el cs sc cp) (some (.Name x px)) p.line env=pure b:=⟨_,rfl⟩
  cases b with
  |false=>exact plain hsw
  |true=>
  refine aP he λd H1 e1 he=>?_
  obtain⟨hclos,hkind,hnames,te,ie,ifes,cs',rfl,hset,core⟩:=hU (E:=E) (RR:=λacc C=>compPost (UN c.prog c.w) A E (some (WM (.Name x px) env)) (λ_ s'=>Q .next s') acc C) h2' e1 hA F.er S (λw1 h1 tk1 D C l1 S1 hv ap hns=>
   qX (s:=aI s h1 tk1) (wr:=[C]) (ρ':=c6 ρ i d) (F.mono l1) S1 (CX ap) (λOF2 h2 tk2 F2 S2 A2 w2=>hns.imp λmm n1=>⟨n1.imp λo=>.imp λes=>.imp λep q=>⟨(w2 C m0).trans q.1,q.2⟩,
    λh3 hs3=>hQ.pr he w1 OF2 h3 tk2 l1 F2 Wo (S2.keepsBut A2 λb o hb e=>hs3.extBut b o (λq=>hb (q▸m0)) e)⟩) λFh Sh k=>XT (d8 Fh g1 g2 Sh hv k))
  rw[exec_Assign_Name_used _ _ _ _ hsw]
  refine UA (Vp (UA ?_))
  show UI _ A (do let _ <-comprehension (.ListComp el (⟨te,ie,ifes,0⟩::cs') sc cp) sc env _ (newList []) false (eval ie env) (some (WM (.Name x px) env))) _ _ s
  exact UA (Vg (wpAny_comprehension_free (use:=some (WM (.Name x px) env)) (Q:=λ_ s'=>Q .next s') rfl (λx=>j7 hset) hclos hkind hnames core) (λ_ s' hq=>UE (UE hq)) λ_ _ e=>e)
theorem QL(hE:aF c n r)(hA:aG n A){i:Nat}{op:VK}{e:IE}(hc:cF (f+1) ks sg ρ.length (.aug i op e) st=true)(F:FS c w O OF ks sg ρ env):fO c A O OF ks sg ρ.length env w H (am TT r (.aug i op e) ρ H) (exec st env):=λfl ρ' H' he s Q E S hQ=>
 Aq (P:=λst=>UI (UN c.prog c.w) A (exec st env) Q E s) hc λt o v p h=>c4 (P:=λt=>UI (UN c.prog c.w) A (exec (.AugAssign t o v p) env) Q E s) h λx px h=>bq (P:=λo=>UI (UN c.prog c.w) A (exec (.AugAssign (.Name x px) o v p) env) Q E s) (a1 h)<|
  have g:=a1 (a2 h)
  az he λdu hu he=>yy hu λhu=>wpAny_AugAssign_Name (rj F.er (eq_of_beq (a1 g)) hu (nt (a2 (a2 (a2 g)))) S λw0 h0 t0 old l0 S0 r0=>(hE (a2 (a2 h)) hA (F.mono l0).er).k he S0 λd H1 w1 m1 t1 u he l1 S1 r1=>az he λdy ey he=>
   qB ey S1 (VR.mono l1 r0) r1 λw2 m2 t2 y l2 S2 r2=>have l:=l0.trans (l1.trans l2);d8 (F.mono l) (eq_of_beq (a1 g)) (a1 (a2 g)) S2 r2 λOF' h3 tk3 F' S'=>hQ.pr he w2 OF' h3 tk3 l F' Wo S')
theorem Pk(hT:TF c K)(hSe:vI K)(hE:aF c n r)(hA:aG n A){o e:IE}{m:NM}(hc:cF (f+1) ks sg ρ.length (.setA o m e) st=true)(F:FS c w O OF ks sg ρ env):fO c A O OF ks sg ρ.length env w H (am TT r (.setA o m e) ρ H) (exec st env):=λfl ρ' H' he s Q E S hQ=>
 oh (P:=λst=>UI (UN c.prog c.w) A (exec st env) Q E s) hc λl v p h=>ff (P:=λl=>UI (UN c.prog c.w) A (exec (.Assign l v p) env) Q E s) h λt h=>jM (P:=λt=>UI (UN c.prog c.w) A (exec (.Assign [t] v p) env) Q E s) h λoe x ap h=>bq (P:=λx=>UI (UN c.prog c.w) A (exec (.Assign [.Attribute oe x ap] v p) env) Q E s) (a1 h)<|
  plainObj_wpAny_Assign_Attribute ((hE (a1 (a2 (a2 h))) hA F.er).k he S λd H1 w1 m1 t1 u he l1 S1 r1=>(hE (a1 (a2 h)) hA (F.mono l1).er).k he S1 λdov H2 w2 m2 t2 ov he l2 S2 r2=>az he λH3 e3 he=>
   mN hT hSe e3 S2 r2 (VR.mono l2 r1) λh3 tk3 S3=>hQ.pr he w2 OF h3 tk3 (l1.trans l2) (F.mono (l1.trans l2)) rfl S3) (qi (a2 (a2 (a2 h))))
theorem Ph(hT:TF c K)(hSe:vI K)(hE:aF c n r)(hA:aG n A){o e:IE}{m:NM}{op:VK}(hc:cF (f+1) ks sg ρ.length (.augA o m op e) st=true)(F:FS c w O OF ks sg ρ env):fO c A O OF ks sg ρ.length env w H (am TT r (.augA o m op e) ρ H) (exec st env):=λfl ρ' H' he s Q E S hQ=>
 Aq (P:=λst=>UI (UN c.prog c.w) A (exec st env) Q E s) hc λt op' v p h=>jM (P:=λt=>UI (UN c.prog c.w) A (exec (.AugAssign t op' v p) env) Q E s) h λoe x ap h=>bq (P:=λo=>UI (UN c.prog c.w) A (exec (.AugAssign (.Attribute oe x ap) o v p) env) Q E s) (a1 h)<|bq (P:=λx=>UI (UN c.prog c.w) A (exec (.AugAssign (.Attribute oe x ap) op v p) env) Q E s) (a1 (a2 h))<|
  have h:=a2 (a2 h)
  wpAny_AugAssign_AttributeAny ((hE (a1 h) hA F.er).k he S λdov H1 w1 m1 t1 ov he l1 S1 r1=>az he λdu eu he=>qA hT eu S1 r1 λw2 m2 t2 old l2 S2 r2=>(hE (a2 h) hA (F.mono (l1.trans l2)).er).k he S2 λdv H3 w3 m3 t3 u he l3 S3 r3=>az he λdy ey he=>
   qB ey S3 (VR.mono l3 r2) r3 λw4 m4 t4 y l4 S4 r4=>have l:=l1.trans (l2.trans (l3.trans l4));az he λH5 e5 he=>mN hT hSe e5 S4 (VR.mono (l2.trans (l3.trans l4)) r1) r4 λh5 tk5 S5=>hQ.pr he w4 OF h5 tk5 l (F.mono l) rfl S5)
theorem zz(S:St c w H O h){k:Nat}{a:Addr}(ha:w.α[k]? =some a){cl dd:Nat}(ek:H[k]? =some (.inst cl dd)):∃ ox od,InstAt h a ox cl od:=
 (S.at ha ek).elim λr q=>q.2.elim λdx q2=>(S.alpha q2.2.2).elim λx j=>j.elim λr2 j=>⟨_,some r2,q2.1▸q.1,rfl,rfl,j.2.1⟩
theorem Pl(hT:cM c K)(hI:ve K)(hE:aF c n r)(hC:mS c n r)(hA:aG n A){o i e:IE}(hc:cF (f+1) ks sg ρ.length (.setI o i e) st=true)(F:FS c w O OF ks sg ρ env):fO c A O OF ks sg ρ.length env w H (am TT r (.setI o i e) ρ H) (exec st env):=λfl ρ' H' he s Q E S hQ=>
 oh (P:=λst=>UI (UN c.prog c.w) A (exec st env) Q E s) hc λl v p h=>ff (P:=λl=>UI (UN c.prog c.w) A (exec (.Assign l v p) env) Q E s) h λt h=>io (P:=λt=>UI (UN c.prog c.w) A (exec (.Assign [t] v p) env) Q E s) h λoe ie ap h=>
  have h:=a2 h
  wpAny_Assign_Subscript ((hE (a1 (a2 (a2 h))) hA F.er).k he S λdv H1 w1 m1 t1 u he l1 S1 r1=>(hE (a1 h) hA (F.mono l1).er).k he S1 λdov H2 w2 m2 t2 ov he l2 S2 r2=>jd (P:=λdov=>VR c w2 dov ov->_) he (λk he r2=>(hE (a1 (a2 h)) hA (F.mono (l1.trans l2)).er).k he S2 λdk H3 w3 m3 t3 iv he l3 S3 r3=>
   VR.k (P:=λov=>UI (UN c.prog c.w) A (setItem ov iv u) _ E _) (r2.mono l3) λa ha=>az he λx ek he=>lB (P:=λx=>H3[k]? =some x->_) he (λcl dd he ek=>az he λg hg he=>(zz S3 ha ek).elim λox q=>q.elim λod I=>
    yo (jp (s:=aI s m3 t3) hT S3) I (hI.set cl g hg) ((hC hA (.cons (.loc ha) (.cons r3 (.cons (VR.mono (l2.trans l3) r1) .nil))) ⟨.nil,rfl⟩).k he S3 λ_ H4 w4 m4 t4 _ he l4 S4 _=>have l:=l1.trans (l2.trans (l3.trans l4));hQ.pr he w4 OF m4 t4 l (F.mono l) rfl S4)) ek) r2) (qi (a2 (a2 (a2 h))))
theorem Pi(hT:cM c K)(hI:ve K)(hE:aF c n r)(hC:mS c n r)(hA:aG n A){o i:IE}(hc:cF (f+1) ks sg ρ.length (.delI o i) st=true)(F:FS c w O OF ks sg ρ env):fO c A O OF ks sg ρ.length env w H (am TT r (.delI o i) ρ H) (exec st env):=λfl ρ' H' he s Q E S hQ=>
 KQ (P:=λst=>UI (UN c.prog c.w) A (exec st env) Q E s) hc λl p h=>ff (P:=λl=>UI (UN c.prog c.w) A (exec (.Delete l p) env) Q E s) h λt h=>io (P:=λt=>UI (UN c.prog c.w) A (exec (.Delete [t] p) env) Q E s) h λoe ie ap h=>
  have h:=a2 h
  wpAny_Delete (wpAny_deleteEach_cons (arm_delete_Subscript ..▸UA ((hE (a1 h) hA F.er).k he S λdov H2 w2 m2 t2 ov he l2 S2 r2=>jd (P:=λdov=>VR c w2 dov ov->_) he (λk he r2=>UA (U9 ((hE (a2 h) hA (F.mono l2).er).k he S2 λdk H3 w3 m3 t3 iv he l3 S3 r3=>
   VR.k (P:=λov=>UI (UN c.prog c.w) A (do VY _;VW [ov,iv] (delItem ov iv);_) _ E _) (r2.mono l3) λa ha=>az he λx ek he=>lB (P:=λx=>H3[k]? =some x->_) he (λcl dd he ek=>az he λg hg he=>(zz S3 ha ek).elim λox q=>q.elim λod I=>
    UA (Vp (UA (U9 (v9 (jp (s:=aI s m3 t3) hT S3) I (hI.del cl g hg) ((hC hA (.cons (.loc ha) (.cons r3 .nil)) ⟨.nil,rfl⟩).k he S3 λ_ H4 w4 m4 t4 _ he l4 S4 _=>have l:=l2.trans (l3.trans l4);wpAny_release' (wpAny_deleteEach_nil (hQ.pr he w4 OF m4 t4 l (F.mono l) rfl S4)))))))) ek))) r2)))
theorem Ir(hE:aF c n r)(hA:aG n A){o e:IE}(hc:cF (f+1) ks sg ρ.length (.setAll o e) st=true)(F:FS c w O OF ks sg ρ env):fO c A O OF ks sg ρ.length env w H (am TT r (.setAll o e) ρ H) (exec st env):=λfl ρ' H' he s Q E S hQ=>
 oh (P:=λst=>UI (UN c.prog c.w) A (exec st env) Q E s) hc λl v p h=>ff (P:=λl=>UI (UN c.prog c.w) A (exec (.Assign l v p) env) Q E s) h λt h=>io (P:=λt=>UI (UN c.prog c.w) A (exec (.Assign [t] v p) env) Q E s) h λoe y ap h=>uP (P:=λy=>UI (UN c.prog c.w) A (exec (.Assign [.Subscript oe y ap] v p) env) Q E s) h λl u sp h=>
  j9 (P:=λl=>UI (UN c.prog c.w) A (exec (.Assign [.Subscript oe (.Slice l u none sp) ap] v p) env) Q E s) (a1 h)<|j9 (P:=λu=>UI (UN c.prog c.w) A (exec (.Assign [.Subscript oe (.Slice none u none sp) ap] v p) env) Q E s) (a1 (a2 h))<|
  have h:=a2 (a2 h)
  wpAny_Assign_Subscript ((hE (a2 h) hA F.er).k he S λdv H1 w1 m1 t1 x he l1 S1 r1=>qx (P:=λdv=>VR c w1 dv x->_) he (λl he r1=>(hE (a1 h) hA (F.mono l1).er).k he S1 λdov H2 w2 m2 t2 ov he l2 S2 r2=>jd (P:=λdov=>VR c w2 dov ov->_) he (λk he r2=>r2.k λa ha=>az he λo ek he=>hJ (P:=λo=>H2[k]? =some o->_) he (λl0 he ek=>aJ he λhb he=>by
   refine wpAny_Slice (UE (UE (UE ?_)))
   have S3:St c w2 H2 (un O OF) (m2.push {cls:=.type "slice",data:=.fields #[.none,.none,.none]}):=S2.keeps λb x e=>Heap.get?_push_of_some _ e
   refine r1.k λb us m g q=>?_
   obtain⟨ro,h1,vs,k1,rfl,hv⟩:=S3.at ha ek
   have gb:=l2.g _ _ g
   exact yS h1 (Heap.get?_push_size _ rfl) (S3.keep _ _ gb) (gO ((S3.alpha ha).elim λ_ z=>z.elim λ_ z=>z.2.2.2.1) gb) (hv.length▸UG (a1 hb)) (q.length▸UG (a2 hb)) λh3 k3 w1 w2=>
    hQ.pr he _ OF h3 t2 (l1.trans l2) (F.mono (l1.trans l2)) rfl (S3.turn ha w1 w2 ⟨us,k3,rfl,VRs.mono l2 q⟩)) ek) r2) r1) EJ
theorem QN(hE:aF c n r)(hr:∀ d H1,r.e (.con .none) ρ H=some (d,H1)->d= .none/\H1=H)(hA:aG n A){e:IE}(hc:cF (f+1) ks sg ρ.length (.ret e) st=true)(F:FS c w O OF ks sg ρ env):fO c A O OF ks sg ρ.length env w H (am TT r (.ret e) ρ H) (exec st env):=λfl ρ' H' he s Q E S hQ=>
 KS (P:=λst=>UI (UN c.prog c.w) A (exec st env) Q E s) hc λv p h=>by
  cases v with
  |some v=>exact wpAny_Return_some ((hE h hA F.er).k he S λd H1 w1 m1 t1 u he l1 S1 r1=>hQ.pr he w1 OF m1 t1 l1 (F.mono l1) rfl S1 u r1)
  |none=>
   have he0:e= .con .none:=by
    revert h
    cases e<;>try exact ft
    rename_i v
    cases v<;>first|exact λ_=>rfl|exact ft
   cases he0
   exact aP he λd H1 e1 he=>have z:=hr d H1 e1;have he:some (AF.ret .none,ρ,H)=some (fl,ρ',H'):=z.1▸z.2▸he;wpAny_Return_none (hQ.pr he w OF s.heap s.toks (.refl _) F rfl S .none .none)
theorem QM(hB:cS c n r)(hS:jq c n r)(hA:aG n A){ci:IE}{a b:List IS}(hc:cF (f+1) ks sg ρ.length (.ite ci a b) st=true)(F:FS c w O OF ks sg ρ env):fO c A O OF ks sg ρ.length env w H (am TT r (.ite ci a b) ρ H) (exec st env):=λfl ρ' H' he s Q E S hQ=>
 KT (P:=λst=>UI (UN c.prog c.w) A (exec st env) Q E s) hc λt x y p h=>arm_exec_If ..▸UA (Vp (UA ((hB (a1 h) hA F.er).k he S λbb H1 w1 m1 t1 v he l1 S1 q=>
  eg he (λhb he=>(if_pos (show v=true from q.trans hb)).symm▸hS (a1 (a2 h)) rfl hA (F.mono l1) _ _ _ he _ Q E S1 (hQ.after l1)) λhb he=>(if_neg (show ¬v=true from WB.mp (q.trans hb))).symm▸hS (a2 (a2 h)) rfl hA (F.mono l1) _ _ _ he _ Q E S1 (hQ.after l1))))
end
end
section
section
variable {c:Cx}{K:Frag}{w w':Wd}{H H':AH}{O OF:PH}{A:Vh}{E:UF->UJ->Prop}{s:UJ}{d:AV}{h h':Heap}{n:Nat}{r:R}{ks:Ks}{sg:Sg}{ρ:ae}{env:Env}{f:Nat}{st:Stmt}{len:Nat}{t:bD}{te:Expr}{x y:List Stmt}{b o:List IS}
noncomputable def iA(c:Cx)(A:Vh)(ks:Ks)(sg:Sg)(len:Nat)(env:Env)(t:bD)(te:Expr)(x y:List Stmt)(src:aB)(X:ae->AH->Option (AF×ae×AH)):Prop:=
 ∀{ρ:ae} {H:AH} {fl:AF} {ρ':ae} {H':AH},X ρ H=some (fl,ρ',H')->∀{w:Wd} {O OF:PH} {s:UJ} {itv:UF} {wr:List Addr} {Rr:Result->UJ->Prop},ρ.length=len->dj t src=true->FS c w O OF ks sg ρ env->St c w H (un O OF) s.heap->eG c w src itv wr s.heap->aR w O OF wr s.heap->
  ja c w H' O ks sg len ρ' env s fl (λf s'=>Rr (.ok f) s')->Wp (UN c.prog c.w) A (.forLoop te itv x y env) Rr s
def rX(r:R)(t:bD)(b o:List IS)(src:aB)(G:AV->aB->ae->AH->Option (AF×ae×AH))(ρ:ae)(H:AH):Option (AF×ae×AH):=
 ah (aX TT r src H) λp H=>p.elim (r.b o ρ H) λx=>ob (be t x.1 ρ) λρ=>dX (r.b b ρ H) λf ρ H=>gW f ρ H (G x.1 x.2 ρ H)
theorem Fs(hA:aG (n+1) A)(hCit:cW c n r)(hS:jq c n r)(hc:iW ks sg t te=true)(hb:eY (cF f ks sg len) b x=true)(ho:eY (cF f ks sg len) o y=true){src:aB}{G:AV->aB->ae->AH->Option (AF×ae×AH)}
  (ih:∀ v src' H H1,aX TT r src H=some (some (v,src'),H1)->iA c A ks sg len env t te x y src' (G v src')):iA c A ks sg len env t te x y src (rX r t b o src G):=λ{ρ H fl ρ' H'} e {w O OF s itv wr Rr} hl hok F S I W hQ=>aP e λp H1 e1 e=>by
 refine Yw ?_
 show UI _ A ((forTurn te itv x y env).onRaise (λx=>do noteFrame x env;theTreesLotGoes x)) _ _ s
 refine wpAny_noted ?_
 simp only[forTurn]
 refine UA (Vp (UA (wpAny_onRaise (Vg (Ig (E:=notedBy (UN c.prog c.w) A env λe s'=>Rr (.error e) s') hCit e1 I hok (N:=λs'=>Wp (UN c.prog c.w) A (.block y env) Rr s')
   (B:=λs₂=>UI (UN c.prog c.w) A (execs x env) (λf' s₃=>match f' with | .next | .cont=>Wp (UN c.prog c.w) A (.forLoop te itv x y env) Rr s₃ | .brk=>Rr (.ok .next) s₃ | .ret v=>Rr (.ok (.ret v)) s₃) (notedBy (UN c.prog c.w) A env λe s'=>Rr (.error e) s') s₂)
   ⟨hA,F,S,W,hc,λz w1 h1 t1 l1 F1 S1=>?_,λv src' z=>?_⟩) (λrr s₁ h₁=>?_) λ_ _ q=>Vp q))))
 ·cases z
  exact codeAny_block (hS ho hl hA.down F1 fl ρ' H' e (aI s h1 t1) _ _ S1 (hQ.after l1))
 ·cases z
  refine az e λρ1 eb e=>⟨ρ1,eb,λw1 OF1 h1 t1 l1 F1 S1 I1 W1=>rv e λf1 ρ2 H2 e2 e=>?_⟩
  refine hS (O:=un O (b8 h1 wr)) hb ((tR eb).trans hl) hA.down (F1.hold W1) f1 ρ2 H2 e2 (aI s h1 t1) _ _ (S1.hold W1) λw2 OF2 h2 t2 l2 F2 hl2 S2=>?_
  have z:=S2.unhold W1 F2
  have F3:=F1.unhold W1 F2
  have l:=l1.trans l2
  have nxt:G v src' ρ2 H2=some (fl,ρ',H')->Wp (UN c.prog c.w) A (.forLoop te itv x y env) Rr (aI s h2 t2):=λe=>ih v src' H H1 e1 e hl2 ((rC e1).symm.trans hok) F3 z.1 ((I1.keep z.2.2 λa o e=>⟨S1.keep _ _ e,z.1.keep _ _ (l2.g _ _ e)⟩).mono l2) z.2.1 (hQ.after l)
  revert e
  exact AF.casesOn (motive:=λf1=>gW f1 ρ2 H2 (G v src' ρ2 H2)=some (fl,ρ',H')->mP c w2 _ f1) f1 nxt (λe=>hQ.pr e w2 OF2 h2 t2 l F3 hl2 z.1) nxt λd e=>hQ.pr e w2 OF2 h2 t2 l F3 hl2 z.1
 ·cases rr with
  |none=>exact UE ⟨rfl,h₁⟩
  |some v=>
   refine UA (Vg h₁ (λ_ s₁' h₁'=>?_) λ_ _ h'=>h')
   refine UA (Vg h₁' (λ_ s₂ h₂=>UA (Vg h₂ (λf' s₃ h₃=>?_) λ_ _ h'=>h')) λ_ _ h'=>h')
   cases f' with
   |next=>exact UE ⟨rfl,h₃⟩
   |cont=>exact UE ⟨rfl,h₃⟩
   |brk=>exact UE h₃
   |ret v=>exact UE h₃
theorem Fr(hA:aG (n+1) A)(hCit:cW c n r)(hS:jq c n r)(hc:iW ks sg t te=true)(hb:eY (cF f ks sg len) b x=true)(ho:eY (cF f ks sg len) o y=true)(src:aB):iA c A ks sg len env t te x y src (lJ TT r t (r.b b) (r.b o) src):=
 have st:=λ{src G}=>Fs (env:=env) (src:=src) (G:=G) hA hCit hS hc hb ho
 have it:∀(mk:List AV->aB),(∀ l H,aX TT r (mk l) H=some ((fY l).map λx=>(x.1,mk x.2),H))->∀ l,iA c A ks sg len env t te x y (mk l) (bM t (r.b b) (r.b o) l):=λmk hm l=>
  List.rec (motive:=λl=>iA c A ks sg len env t te x y (mk l) (bM t (r.b b) (r.b o) l)) (λ{ρ H fl ρ' H'} e=>st (G:=λ_ _ _ _=>none) (λv src' H H1 z=>nomatch (UW (sj ((hm [] H).symm.trans z))).1) (show rX r t b o (mk []) _ ρ H=_ by unfold rX;rw[hm];exact e))
   (λv l ih {ρ H fl ρ' H'} e=>st (G:=λ_ _=>bM t (r.b b) (r.b o) l) (λv src' H H1 z=>(UW (sj (UW (sj ((hm (_::l) H).symm.trans z))).1)).2▸ih) (show rX r t b o (mk (v::l)) _ ρ H=_ by unfold rX;rw[hm];exact e)) l
 have dy:∀ k src,iA c A ks sg len env t te x y src (bo TT r t (r.b b) (r.b o) k src):=λk=>Nat.rec (motive:=λk=>∀ src,iA c A ks sg len env t te x y src (bo TT r t (r.b b) (r.b o) k src)) (λ_ {_ _ _ _ _}=>no) (λk ih src=>st (G:=λ_=>bo TT r t (r.b b) (r.b o) k) λv src' _ _ _=>ih src') k
 aB.casesOn (motive:=λsrc=>iA c A ks sg len env t te x y src (lJ TT r t (r.b b) (r.b o) src)) src (it .items λ_ _=>rfl) (it .pairs λ_ _=>rfl) (λm k=>dy 1000 (.locl m k)) (λp q=>dy 1000 (.zip p q)) λm=>dy 1000 (.cit m)
theorem Tu(hT:cM c K)(hE:aF c n r)(hCit:cW c n r)(hS:jq c n r)(hA1:aG (n+1) A){it:IE}(hc:cF (f+1) ks sg ρ.length (.fr t it b o) st=true)(F:FS c w O OF ks sg ρ env):fO c A O OF ks sg ρ.length env w H (am TT r (.fr t it b o) ρ H) (exec st env):=λfl ρ' H' he s Q E S hQ=>
 KR (P:=λst=>UI (UN c.prog c.w) A (exec st env) Q E s) hc λte ie x y p h=>have h2:=a2 (a2 (a2 h));aP he λsrc H1 e1 he=>aJ he λhok he=>wpAny_For (nR (O:=O) (OF:=OF) hT hE hA1.down (a1 h) e1 F.er S λw1 h1' tk1 itv wr l1 S1 I1 W1=>
  Fr hA1 hCit hS (a1 (a2 h)) (a1 h2) (a2 h2) src he rfl hok (F.mono l1) S1 I1 W1 (hQ.after l1)) λx=>j7 (nt (a1 (a2 (a2 h))))
end
end
section
section
variable {c:Cx}{K:Frag}{w w':Wd}{H H':AH}{O OF:PH}{A:Vh}{E:UF->UJ->Prop}{s:UJ}{d:AV}{h h':Heap}{n:Nat}{r:R}{ks:Ks}{sg:Sg}{ρ:ae}{env:Env}{f:Nat}{st:Stmt}{len:Nat}{e:Expr}
structure RD(c:Cx)(O:PH)(ks:Ks)(sg:Sg)(len:Nat)(env:Env)(fl:AF)(ρ':ae)(H':AH)(Q:Flow->UJ->Prop)(X:ae->AH->Option (AF×ae×AH))(s:UJ)(w:Wd)(OF:PH)(ρ:ae)(H:AH):Prop where
 e:X ρ H=some (fl,ρ',H')
 l:ρ.length=len
 F:FS c w O OF ks sg ρ env
 S:St c w H (un O OF) s.heap
 Q:ja c w H' O ks sg len ρ' env s fl Q
theorem Tv(hB:cS c n r)(hS:jq c n r)(hA:aG n A){ci:IE}{b:List IS}(hc:cF (f+1) ks sg ρ.length (.wh ci b) st=true)(F:FS c w O OF ks sg ρ env):fO c A O OF ks sg ρ.length env w H (am TT r (.wh ci b) ρ H) (exec st env):=λfl ρ' H' he s Q E S hQ=>
 O3 (P:=λst=>UI (UN c.prog c.w) A (exec st env) Q E s) hc λt x y p h=>gJ (P:=λy=>UI (UN c.prog c.w) A (exec (.While t x y p) env) Q E s) (a1 h)<|wpAny_While<|
  codeAny_whileLoop (λk s'=>∃ w1 OF1 ρ1 H1,RD c O ks sg ρ.length env fl ρ' H' Q (cL (r.t ci) (r.b b) k) s' w1 OF1 ρ1 H1) (λk s1 q=>q.elim λw1 q=>q.elim λOF1 q=>q.elim λρ1 q=>q.elim λH1 I=>by
   cases k with
   |zero=>exact no I.e
   |succ k=>
    refine(hB (I.l.symm▸a1 (a2 h)) hA I.F.er).k I.e I.S λbb H2 w2 m2 t2 v e l2 S2 q=>eg e (λhb e=>?_) λhb e=>?_
    ·refine(if_pos (show v=true from q.trans hb)).symm▸rv e λf1 ρ3 H3 e3 e=>hS (a2 (a2 h)) I.l hA (I.F.mono l2) f1 ρ3 H3 e3 (aI s1 m2 t2) _ _ S2 λw3 OF3 h3 t3 l3 F3 hl3 S3=>?_
     have l:=l2.trans l3
     have nxt:cL (r.t ci) (r.b b) k ρ3 H3=some (fl,ρ',H')->∃ m,m<k+1/\∃ w1 OF1 ρ1 H1,RD c O ks sg ρ.length env fl ρ' H' Q (cL (r.t ci) (r.b b) m) (aI s1 h3 t3) w1 OF1 ρ1 H1:=λe=>⟨k,XO _,w3,OF3,ρ3,H3,e,hl3,F3,S3,I.Q.after l⟩
     revert e
     exact AF.casesOn (motive:=λf1=>gW f1 ρ3 H3 (cL (r.t ci) (r.b b) k ρ3 H3)=some (fl,ρ',H')->mP c w3 _ f1) f1 nxt (λe=>I.Q.pr e w3 OF3 h3 t3 l F3 hl3 S3) nxt λd e=>I.Q.pr e w3 OF3 h3 t3 l F3 hl3 S3
    ·exact(if_neg (show ¬v=true from WB.mp (q.trans hb))).symm▸wpAny_execs_nil (I.Q.pr e w2 OF1 m2 t2 l2 (I.F.mono l2) I.l S2)) 1000 ⟨w,OF,ρ,H,he,rfl,F,S,hQ⟩
structure fC(c:Cx)(K:Frag):Prop where
 t:TF c K
 made:II K
 setf:vI K
 item:ve K
 sort:qs c
structure All(c:Cx)(n:Nat)(r:R):Prop where
 e:aF c n r
 t:cS c n r
 u:vK c n r
 b:jq c n r
 k:mT c n r
theorem jh(n:Nat):iB (aa TT n):=λ{a args kws H x}=>XC (motive:=λn=>(aa TT n).c a args kws H=some x->(gc a).isSome=true) n no λn e=>az (x:=gc a) e λg hg _=>hg▸rfl
theorem Fb(n:Nat){d:AV}{H1:AH}:(aa TT n).e (.con .none) ρ H=some (d,H1)->d= .none/\H1=H:=XC (motive:=λn=>(aa TT n).e (.con .none) ρ H=some (d,H1)->d= .none/\H1=H) n no λn e=>have z:=UW (sj e);⟨z.1.symm,z.2.symm⟩
theorem EX(c:Cx):All c 0 (aa TT 0):=⟨λ_ _ _ _ _=>no,λ_ _ _ _ _=>no,λ_=>no,λ_ _ _ _ _ _ _=>no,λ_ _ _ _ _=>no⟩
theorem fC.v(P:fC c K)(I:All c n r):kC c n r:=Ld P.t.top P.made I.e I.k P.sort
theorem fC.cit(P:fC c K)(I:All c n r)(hO:iB r):cW c n r:=C7 P.t hO I.k
theorem All.call(I:All c n r):mS c n r:=λa b k=>(I.k a b k).call
theorem Lk(P:fC c K)(I:All c n (aa TT n)):aF c (n+1) (aa TT (n+1)):=λ{f ks sg ie e ρ H env A w O} hc hA1 R=>by
 have hA:=hA1.down
 cases f with
 |zero=>exact ft hc
 |succ f=>
 cases ie with
 |con v=>exact P9 (r:=aa TT n) hc
 |glob x v=>exact LK (r:=aa TT n) P.t.top hc R
 |var i=>exact Qi (r:=aa TT n) hc R
 |bin op a b=>exact P7 I.e hA hc R
 |neg a=>exact Qd I.e hA hc R
 |not a=>exact Qe I.e hA hc R
 |cmp op a b=>exact P8 P.t.top.tabs I.e hA hc R
 |and l=>exact P6 I.e hA hc R
 |or l=>exact λ_ _=>no
 |ite a b d=>exact Qa I.e I.t hA hc R
 |list mu l=>exact LL I.e hA hc R
 |tup l=>exact Qh I.e hA hc R
 |sub a i=>exact Qg P.t.top.tabs I.e hA hc R
 |slice mu a lo hi=>exact JP I.e hA hc R
 |comp mu elt gens=>exact LJ P.t.top I.e I.t hA1 (P.cit I (jh n)) hc R
 |call fe args kws=>exact LI P.t (jh n) I.e (P.v I) hA1 hc R
 |callS fe args st=>exact JO P.t (jh n) I.e (P.v I) hA1 hc R
 |meth o m args kws=>exact LM P.t (jh n) I.e (P.v I) I.call hA1 hc R
 |attr o m=>exact LH P.t I.e hA hc R
 |lam k l=>exact Qc (r:=aa TT n) P.t.top hc R
theorem CN{ie:IE}{nx:Nat}(h:ar f ks sg nx ie e=true)(ht:(match ie with | .not _ | .and _ | .or _ | .ite .. | .cmp ..=>false|_=>true)=true):VO e env (eval e env)=(do let v <-eval e env;VY e.pos;VW [v] (Vf v)):=by
 cases f with
 |zero=>exact ft h
 |succ f=>
 cases ie with
 |con v=>exact(Vr.mp h).elim (λh=>uO (P:=λe=>VO e env (eval e env)=(do let v <-eval e env;VY e.pos;VW [v] (Vf v))) h λ_ _ _ _=>rfl) λh=>c4 (P:=λe=>VO e env (eval e env)=(do let v <-eval e env;VY e.pos;VW [v] (Vf v))) (a2 h) λ_ _ _=>rfl
 |var i=>exact c4 (P:=λe=>VO e env (eval e env)=(do let v <-eval e env;VY e.pos;VW [v] (Vf v))) h λ_ _ _=>rfl
 |glob x v=>exact c4 (P:=λe=>VO e env (eval e env)=(do let v <-eval e env;VY e.pos;VW [v] (Vf v))) h λ_ _ _=>rfl
 |bin op a b=>exact Ar (P:=λe=>VO e env (eval e env)=(do let v <-eval e env;VY e.pos;VW [v] (Vf v))) h λ_ _ _ _ _=>rfl
 |neg a=>exact rG (P:=λe=>VO e env (eval e env)=(do let v <-eval e env;VY e.pos;VW [v] (Vf v))) h λo x p h=>bq (P:=λo=>VO (.UnaryOp o x p) env (eval (.UnaryOp o x p) env)=(do let v <-eval (.UnaryOp o x p) env;VY p;VW [v] (Vf v))) (a1 h) rfl
 |list mu l=>exact yc (P:=λe=>VO e env (eval e env)=(do let v <-eval e env;VY e.pos;VW [v] (Vf v))) h λ_ _ _=>rfl
 |tup l=>exact tz (P:=λe=>VO e env (eval e env)=(do let v <-eval e env;VY e.pos;VW [v] (Vf v))) h λ_ _ _ _=>rfl
 |sub a i=>exact io (P:=λe=>VO e env (eval e env)=(do let v <-eval e env;VY e.pos;VW [v] (Vf v))) h λ_ _ _ _=>rfl
 |slice mu a lo hi=>exact io (P:=λe=>VO e env (eval e env)=(do let v <-eval e env;VY e.pos;VW [v] (Vf v))) h λ_ _ _ _=>rfl
 |comp mu elt gens=>exact qd (P:=λe=>VO e env (eval e env)=(do let v <-eval e env;VY e.pos;VW [v] (Vf v))) h λ_ _ _ _ _=>rfl
 |call fe args kws=>exact gr (P:=λe=>VO e env (eval e env)=(do let v <-eval e env;VY e.pos;VW [v] (Vf v))) h λ_ _ _ _ _=>rfl
 |callS fe args st=>exact gr (P:=λe=>VO e env (eval e env)=(do let v <-eval e env;VY e.pos;VW [v] (Vf v))) h λ_ _ _ _ _=>rfl
 |meth o m args kws=>exact gr (P:=λe=>VO e env (eval e env)=(do let v <-eval e env;VY e.pos;VW [v] (Vf v))) h λ_ _ _ _ _=>rfl
 |attr o m=>exact jM (P:=λe=>VO e env (eval e env)=(do let v <-eval e env;VY e.pos;VW [v] (Vf v))) h λ_ _ _ _=>rfl
 |lam k l=>exact ff (P:=λ_=>VO e env (eval e env)=(do let v <-eval e env;VY e.pos;VW [v] (Vf v))) h λi h=>Au (P:=λe=>VO e env (eval e env)=(do let v <-eval e env;VY e.pos;VW [v] (Vf v))) h λ_ _ _ _ _=>rfl
 |_=>exact ft ht
theorem Ln(P:fC c K)(I:All c n (aa TT n))(I2:∀ m,n=m+1->All c m (aa TT m)):cS c (n+1) (aa TT (n+1)):=λ{f ks sg ie e ρ H env A w O} hc hA1 R=>by
 have hA:=hA1.down
 have val:=λht=>Rj (I.e hc hA R (H:=H)) (CN hc ht)
 cases f with
 |zero=>exact ft hc
 |succ f=>
 cases ie with
 |not a=>exact Ri I.t hA hc R
 |and l=>exact Rf I.t hA hc R
 |or l=>exact TU I.t hA hc R
 |ite a b d=>exact Rh I.t hA hc R
 |cmp op a b=>exact XC (motive:=λn'=>n=n'->bw c A O w H (tN (aa TT n') (.cmp op a b) ρ H) (VO e env (eval e env)) Bd) n (λ_ _ _=>no) (λm q=>Rg P.t.top.tabs (I2 m q).e (aG.down (Eq.mp (congrArg (aG · A) q) hA)) hc rfl R) rfl
 |_=>exact val rfl
theorem Lo(P:fC c K)(I:All c n (aa TT n)):vK c (n+1) (aa TT (n+1)):=λhc he hA R S hR=>Py P.t.top I.e I.t hA (P.cit I (jh n)) hc he R S hR
theorem uQ(P:fC c K)(I:All c n (aa TT n))(hA1:aG (n+1) A){i:IS}(hc:cF f ks sg ρ.length i st=true)(F:FS c w O OF ks sg ρ env):fO c A O OF ks sg ρ.length env w H (am TT (aa TT n) i ρ H) (exec st env):=by
 have hA:=hA1.down
 cases f with
 |zero=>exact ft hc
 |succ f=>
 cases i with
 |expr e=>exact Pj I.e hA hc F
 |set x e=>exact QO I.e I.u hA hc F
 |aug x op e=>exact QL I.e hA hc F
 |setA o m e=>exact Pk P.t P.setf I.e hA hc F
 |augA o m op e=>exact Ph P.t P.setf I.e hA hc F
 |setI o i e=>exact Pl P.t.top P.item I.e I.call hA hc F
 |setAll o e=>exact Ir I.e hA hc F
 |delI o i=>exact Pi P.t.top P.item I.e I.call hA hc F
 |ret e=>exact QN I.e (λd H1=>Fb n) hA hc F
 |ite ci a b=>exact QM I.t I.b hA hc F
 |wh ci b=>exact Tv I.t I.b hA hc F
 |fr t it b o=>exact Tu P.t.top I.e (P.cit I (jh n)) I.b hA1 hc F
 |brk=>exact λfl ρ' H' he s Q E S hQ=>KN (P:=λst=>UI (UN c.prog c.w) A (exec st env) Q E s) hc λp _=>wpAny_Break (hQ.pr he w OF s.heap s.toks (.refl _) F rfl S)
 |cont=>exact λfl ρ' H' he s Q E S hQ=>KP (P:=λst=>UI (UN c.prog c.w) A (exec st env) Q E s) hc λp _=>wpAny_Continue (hQ.pr he w OF s.heap s.toks (.refl _) F rfl S)
 |stop=>exact λ_ _ _=>no
theorem Li(P:fC c K)(I:All c n (aa TT n)):jq c (n+1) (aa TT (n+1)):=λ{f ks sg len b st ρ H env A w O OF} hc hl hA F=>by
 show fO c A O OF ks sg len env w H (ay TT (aa TT n) b ρ H) (execs st env)
 induction b generalizing st ρ H w OF with
 |nil=>exact gJ (P:=λst=>fO c A O OF ks sg len env w H (ay TT (aa TT n) [] ρ H) (execs st env)) hc λfl ρ' H' he s Q E S hQ=>wpAny_execs_nil (hQ.pr he w OF s.heap s.toks (.refl _) F hl S)
 |cons i l ih=>
  cases st with
  |nil=>exact ft hc
  |cons x st=>
   cases hl
   refine λfl ρ' H' he s Q E S hQ=>rv he λf1 ρ1 H1 e1 he=>wpAny_execs_cons (uQ P I hA (a1 hc) F f1 ρ1 H1 e1 s _ E S λw1 OF1 h1 t1 l1 F1 hl1 S1=>?_)
   revert he
   exact AF.casesOn (motive:=λf1=>jA f1 ρ1 H1 (ay TT (aa TT n) l ρ1 H1)=some (fl,ρ',H')->mP c w1 _ f1) f1 (λhe=>ih (a2 hc) hl1 F1 fl ρ' H' he _ Q E S1 (hQ.after l1)) (λhe=>hQ.pr he w1 OF1 h1 t1 l1 F1 hl1 S1) (λhe=>hQ.pr he w1 OF1 h1 t1 l1 F1 hl1 S1) λd he=>hQ.pr he w1 OF1 h1 t1 l1 F1 hl1 S1
end
end
section
structure EV(sc:V1):Prop where
 kind:sc.kind= .function
 all:∀ x k,(x,k)∈sc.names->sc.names.lookup x=some k/\k≠.free/\k≠.globalExplicit
noncomputable def H8(sc:V1):Bool:=sc.kind==.function&&sc.names.all λp=>sc.names.lookup p.1==some p.2&&(p.2!=.free&&p.2!=.globalExplicit)
theorem KM{sc:V1}(h:H8 sc=true):EV sc:=⟨eq_of_beq (a1 h),λx k hx=>have q:=UP.mp (a2 h) _ hx;⟨eq_of_beq (a1 q),bne_iff_ne.mp (a1 (a2 q)),bne_iff_ne.mp (a2 (a2 q))⟩⟩
noncomputable def fZ(sc:V1):List Str:=(sc.names.filter λp=>p.2==.local||p.2==.cell).map (·.1)
def BG(sc:V1):Sg:=cH (fZ sc) 0++[]
noncomputable def jf:Nat->Option Nat
 |320=>some 0
 |359=>some 1
 |_=>none
def lI(a:Nat)(sc:V1):Ks:=sc.names++match jf a with
 |some k=>[(dt k,.globalExplicit)]
 |none=>[]
theorem Ga:∀ k<2,∀ j<2,dt k=dt j->k=j:=by decide +kernel
section
variable {c:Cx}{K:Frag}{w w':Wd}{H H':AH}{O OF:PH}{A:Vh}{E:UF->UJ->Prop}{s:UJ}{d:AV}{h h':Heap}{n:Nat}{r:R}{ks:Ks}{sg:Sg}{ρ:ae}{env:Env}{f:Nat}{a:Nat}{sc:V1}{x:Str}
theorem zl{k:V6}(e:(lI a sc).lookup x=some k):sc.names.lookup x=some k∨(k= .globalExplicit/\∃ j,jf a=some j/\x=dt j):=by
 unfold lI at e
 rw[We] at e
 cases q:sc.names.lookup x with
 |some k'=>rw[q] at e;exact .inl e
 |none=>
  rw[q] at e
  cases hl:jf a with
  |none=>rw[hl] at e;exact no e
  |some j=>rw[hl] at e;exact ij (l:=[]) (show W6 x [(dt j,Zv)]=some k from e) (λq z=>.inr ⟨z.symm,j,rfl,q⟩) λ_=>no
theorem wk(ho:EV sc)(h:x∈fZ sc):cZ (lI a sc) x=true:=by
 obtain⟨⟨y,k⟩,h1,rfl⟩:=UY.mp h
 obtain⟨h2,h3⟩:=UZ.mp h1
 unfold cZ lI
 rw[We,(ho.all y k h2).1]
 exact(Vr.mp h3).elim (λq=>by cases(eq_of_beq q:k=_);rfl) λq=>by cases(eq_of_beq q:k=_);rfl
abbrev Ft:Obj:={cls:=.type "frame",data:=.dict #[]}
noncomputable def qQ(sc:V1)(h:Heap)(qual:Str)(func:Option Addr)(code:UF):Env:=newEnv sc h.objs.size VZ (VH (h.objs.size+1) sc.names []) qual func code none Wy
noncomputable def Dj(sc:V1)(h:Heap):Heap:=Yu (h.push Ft) sc.names
theorem Fq{qual:Str}{func:Option Addr}{code:UF}(ho:EV sc)(S:St c w H O h)
  (hlam:∀ k,jf a=some k->k<2/\∃ cc P,code= .ref cc/\CodeHd c.H0 cc P/\c.tabs[k]? =some P/\qual++"<lambda>" =ii k):
  ∃ OF,FS c w O OF (lI a sc) (BG sc) (jJ [] (fZ sc).length) (qQ sc h qual func code)/\St c w H (un O OF) (Dj sc h):=by
 obtain⟨OF,N⟩:=NF.of "frame" sc.names S
 have ks:∀{x k},(lI a sc).lookup x=some k->k≠.globalExplicit->sc.names.lookup x=some k:=λe hk=>(zl e).elim id λq=>absurd q.1 hk
 exact⟨OF,FS.grow (sg:=[]) (ρ:=[]) (env:=qQ sc h qual func code) {
  er:={
   gl:=rfl
   bi:=rfl
   fk:=ho.kind
   kd:=λx k e hk=>.inl (ks e hk)
   rd:=λ_ _ _=>no
   cl:=λ_ _=>no
   fz:=λ_ _=>no
   lam:=λk kl e=>(zl e).elim (λq=>absurd rfl (ho.all _ _ (iK q)).2.2) λq=>q.2.elim λj q=>(hlam j q.1).elim λhj z=>Ga j hj k kl q.2.symm▸z.imp λcc=>.imp λP z=>⟨z.1,z.2.1,tD S.tabs z.2.2.1,z.2.2.2⟩
   bnd:=λ_ _=>no}
  dis:=λa o e=>S.o_none (N.out a o e)
  loc:=N.loc.imp λo z=>⟨_,z⟩
  own:=λx hx hx2=>⟨none,N.cell x (iK (ks hx2 nofun))⟩
  inj:=λx y a o hx hy _=>N.inj x y a hx hy
  six:=λ_ _ _ _=>no
  cel:=λx a hx=>(N.cell x (N.mem x a hx)).elim λa' k=>k.elim λo k=>⟨o,none,.inl (bc (sj (k.1.symm.trans hx)▸k.2.1)),k.2.2⟩} (UP.mpr λx hx=>wk ho hx),N.st⟩
theorem wV{m:Nat}:∀{binds:List (Str×UF)} {ds:List AV} {pre:ae} {OF:PH} {s:UJ} {Q:PUnit->UJ->Prop},
  (∀ j x v,binds[j]? =some (x,v)->sg.lookup x=some (pre.length+j)/\cZ ks x=true)->VRs c w ds (binds.map (·.2))->FS c w O OF ks sg (pre++U2 (ds.length+m) none) env->St c w H (un O OF) s.heap->
  (∀ OF' h' tk,FS c w O OF' ks sg (pre++(ds.map some++U2 m none)) env->St c w H (un O OF') h'->Q ⟨⟩ (aI s h' tk))->
  UI (UN c.prog c.w) A (forIn binds Wu λ(x:Str×UF) (_:PUnit)=>do storeName env x.1 x.2;pure (VI Wu)) Q E s
 | [],ds,pre,OF,s,Q,hb,hv,F,S,hQ=>by
  cases ds with
  |cons _ _=>exact nomatch hv.length
  |nil=>exact UE (hQ OF s.heap s.toks (Wf m▸F) S)
 |(x,v)::binds,ds,pre,OF,s,Q,hb,hv,F,S,hQ=>by
  cases ds with
  |nil=>exact nomatch hv.length
  |cons d ds=>
  obtain⟨h1,h2⟩:=hb 0 x v rfl
  have hv':VR c w d v/\VRs c w ds (binds.map (·.2)):=by cases hv with|cons a b=>exact⟨a,b⟩
  rw[VT]
  refine UA (UA (d8 F h1 h2 S hv'.1 λOF' h' tk F' S'=>UE ?_))
  have e:c6 (pre++U2 ((d::ds).length+m) none) (pre.length+0) d=(pre++[some d])++U2 (ds.length+m) none:=by
   rw[UU,Vy,Yp]
   unfold c6
   rw[List.set_append_right _ _ (Vi _ _),Zf,Zc,U3]
   rfl
  rw[e] at F'
  refine wV (pre:=pre++[some d]) (λj y u hj=>?_) hv'.2 F' S' λOF2 h2 tk2 F2 S2=>hQ OF2 h2 tk2 (U3 pre [some d] _▸F2) S2
  rw[UM,Vl,XD,Zg 1 j]
  exact hb (j+1) y u hj
end
end
section
section
variable {c:Cx}{w w':Wd}{H H':AH}{O OF:PH}{h h':Heap}{ks:Ks}{sg:Sg}{ρ:ae}{env:Env}{x:Str}
noncomputable def n3(ks:Ks)(x:Str):Ks:=ks.filter λp=>p.1!=x
theorem eK{y:Str}{k:V6}(h:(n3 ks x).lookup y=some k):ks.lookup y=some k/\y≠x:=(ml (p:=λy=>y !=x) h).imp_right bne_iff_ne.mp
theorem Bz{y:Str}(q:y≠x):(n3 ks x).lookup y=none->ks.lookup y=none:=
 List.rec (motive:=λks:Ks=>(n3 ks x).lookup y=none->ks.lookup y=none) id (λp l ih e=>by
  obtain⟨z,k⟩:=p
  have e:W6 y (List.filter (λp:Str×V6=>p.1!=x) ((z,k)::l))=none:=e
  rw[VE] at e
  split at e
  ·by_cases q2:y=z
   ·exact no (e.symm.trans (by rw[q2];exact cN))
   ·exact(eZ q2).trans (ih ((eZ q2).symm.trans e))
  ·rename_i hz
   exact(eZ (x:=y) (n:=z) (λq2=>hz (q2▸bne_iff_ne.mpr q))).trans (ih e)) ks
noncomputable def AE(OF:PH)(a:Addr):PH:=λb=>if b=a then none else OF b
theorem AG{a b:Addr}{o:Obj}(e:AE OF a b=some o):b≠a/\OF b=some o:=if q:b=a then no ((if_pos q).symm.trans e) else⟨q,(if_neg q).symm.trans e⟩
theorem RY(F:FS c w O OF ks sg ρ env)(S:St c w H (un O OF) h){i:Nat}{d:AV}(hk:ks.lookup x=some .cell)(hs:sg.lookup x=some i)(hρ:ρ[i]? =some (some d)):
  ∃ w' OF',w.le w'/\FS c w' O OF' (n3 ks x) sg ρ env/\St c w' H (un O OF') h:=by
 have hkx:env.kindOf x=some .cell:=(F.er.kd _ _ hk nofun).elim id λq=>nomatch q.1
 obtain⟨v0,a,o,c1,c2,c3⟩:=F.own x hkx hk
 obtain⟨v,hv,hr⟩:=F.er.rd x i d hs (hk▸rfl) hρ
 have hd:o.data= .cell (some v):=hr.elim (λr=>nomatch sj (hkx.symm.trans r.1)) λr=>r.2.elim λa1 r=>r.elim λo1 r=>by
  cases sj (c1.symm.trans r.1)
  cases sj ((bc c2).symm.trans r.2.1)
  exact r.2.2
 have hown:=S.own a o (bc c2)
 have l:=Wd.add_le (o:=o) hown.2
 have oa:O a=none:=F.dis a o c2
 have same:∀{b},b≠a->un O (AE OF a) b=un O OF b:=λ{b} q=>congrArg (λz:Option Obj=>z.or (O b)) (if_neg q:AE OF a b=_)
 have at_a:∀{z},un O (AE OF a) a=some z->False:=λe=>no (((bU (if_pos rfl)).trans oa).symm.trans e)
 have loc_ne:env.locals≠a:=λq=>F.loc.elim λoL z=>z.elim λmL z=>s9 (m:=mL) (sj ((q▸z.1:OF a=some oL).symm.trans c2)▸z.2) c3
 have cell_ne:∀{y b},y≠x->env.cells.lookup y=some b->b≠a:=λhy hb q=>hy (F.inj _ x a o (q▸hb) c1 c2)
 have mv:∀{y v},y≠x->eR (un O OF) env y v->eR (un O (AE OF a)) env y v:=λhy=>Wj λb=>.imp λo1 z=>⟨z.1,(same (cell_ne hy z.1)).trans z.2.1,z.2.2⟩
 have F1:=F.mono l
 exact⟨w.add a o,AE OF a,l,{
  er:={F1.er with
   kd:=λy k e hke=>F1.er.kd y k (eK e).1 hke
   rd:=λy j e hy hs1 hj=>(VF.mp hs1).elim λk z=>have z:=eK z
    (F1.er.rd y j e hy (z.1▸rfl) hj).imp λu=>.imp_right (.imp (.imp_right (.imp λo1=>.imp λm1 r=>⟨(same loc_ne).trans r.1,r.2⟩)) (.imp_right (mv z.2)))
   cl:=λy j hy hs1 hkk=>(VF.mp hs1).elim λk z=>have z:=eK z;(F1.er.cl y j hy (z.1▸rfl) hkk).imp λu=>mv z.2
   fz:=λy j hy hs1=>if q:y=x then by
     cases q
     cases sj (hs.symm.trans hy)
     exact⟨.inl hkx,v,⟨a,o,c1,Wd.add_at,hd⟩,λe he=>sj (sj (hρ.symm.trans he))▸hv.mono l⟩
    else F1.er.fz y j hy (Bz q hs1)
   lam:=λk kl e=>F1.er.lam k kl (eK e).1}
  dis:=λb y e=>F.dis b y (AG e).2
  loc:=F.loc.imp λoL=>.imp λmL=>.imp_left (if_neg loc_ne).trans
  own:=λy hy hy'=>have z:=eK hy';(F.own y hy z.1).imp λv1=>Wj λb=>Wj λo1 r=>⟨r.1,(if_neg (cell_ne z.2 r.1)).trans r.2.1,r.2.2⟩
  inj:=λx' y' b o1 e1 e2 e3=>F.inj x' y' b o1 e1 e2 (AG e3).2
  six:=λx' y' j hst=>F.six x' y' j (by
   unfold cZ at hst ⊢
   split at hst
   ·rename_i q;rw[(eK q).1]
   ·rename_i q;rw[(eK q).1]
   ·exact ft hst)
  cel:=λy b hy=>if q:b=a then⟨o,some v,.inr (q▸Wd.add_at),hd⟩ else(F1.cel y b hy).imp λo1=>.imp λv1=>.imp_left (.imp_left (same q).trans)},{S with
  top:=λb x e=>l.g _ _ (S.top _ _ e)
  keep:=λb y e=>if q:b=a then q▸((if_pos q).symm.trans e)▸hown.1 else S.keep _ _ ((b9 _ _ q).symm.trans e)
  own:=λb y e=>if q:b=a then(at_a (q▸e)).elim else(S.own _ _ ((same q).symm.trans e)).imp_right (b9 _ _ q).trans
  obj:=λj y e=>(S.obj j y e).imp λb=>.imp λr k=>
   have q:b≠a:=λq=>no (k.2.2.2.2.symm.trans (q▸bc c2))
   ⟨k.1,k.2.1,k.2.2.1.mono l,(b9 _ _ q).trans k.2.2.2.1,(same q).trans k.2.2.2.2⟩}⟩
end
end
section
noncomputable def fB(p:WJ):List Str:=p.args.map (·.arg)++(p.kwonlyargs.map (·.arg)++(match p.kwarg with|some q=>[q.arg]|none=>[]))
noncomputable def RH:Nat->Option (Bool×Str)
 |359=>some (false,"lexer")
 |320=>some (true,"signs")
 |_=>none
noncomputable def zF(sg:Sg)(x:Str)(i:IS):Bool:=match i with
 | .set j _=>sg.lookup x==some j
 |_=>false
theorem DB{sg:Sg}{x:Str}{i:IS}{P:IS->Prop}(h:zF sg x i=true)(k:∀ j e,sg.lookup x=some j->P (.set j e)):P i:=by
 cases i<;>first|exact k _ _ (eq_of_beq h)|exact ft h
def kH(a:Nat)(g:bN)(ks:Ks)(sg:Sg)(n:Nat)(body:List Stmt):Bool:=match RH a with
 |none=>eY (cF 60 ks sg n) g.body body
 |some (b,x)=>ks.lookup x==some .cell&&match b with
  |false=>(match sg.lookup x with|some i=>decide (i<g.pos)|none=>false)&&eY (cF 60 (n3 ks x) sg n) g.body body
  |true=>match g.body with
   | []=>false
   |i::l=>match body with
    | []=>false
    |s::r=>cF 60 ks sg n i s&&(zF sg x i&&eY (cF 60 (n3 ks x) sg n) l r)
noncomputable def qO(K:Frag)(fd:Xf):Bool:=match fd.code with
 | .ref cc=>(match K.lookup cc with
  |some ⟨_,_,.fields vs,_⟩=>(match vs[1]? with|some (UF.str q _)=>q==fd.qualname|_=>false)
  |_=>false)
 |_=>false
structure Rs(K:Frag)(a:Nat)(g:bN)(fd:Xf)(body:List Stmt):Prop where
 sc:H8 fd.scope=true
 gen:fd.scope.isGenerator=false
 co:fd.scope.isCoroutine=false
 gl:fd.globals=VZ
 bi:fd.builtins=Wy
 cl:fd.closure=[]
 par:(fZ fd.scope).take g.pos=fB fd.params
 nd:(fZ fd.scope).Nodup
 len:(fZ fd.scope).length=g.pos+g.extra
 code:qO K fd=true
 bd:fd.body= .stmts body
 chk:kH a g (lI a fd.scope) (BG fd.scope) (g.pos+g.extra) body=true
noncomputable def jn(c:Cx)(g:bN)(fd:Xf):Prop:=∀{args:List AV} {kws:List (NM×AV)} {full:List AV} {vs:List UF} {kvs:List (Str×UF)} {w:Wd} {O:PH} {H:AH} {A:Vh} {s:UJ} {E:UF->UJ->Prop} {Qb:List (Str×UF)->UJ->Prop},
 Bn g.kind args kws=some full->full.length=g.pos->VRs c w args vs->eA c w kws kvs->St c w H O s.heap->
 (∀ w' h' tk us,w.le w'->St c w' H O h'->VRs c w' full us->Qb ((fB fd.params).zip us) (aI s h' tk))->UI (UN c.prog c.w) A (Wb fd ⟨vs,kvs⟩) Qb E s
structure EU(c:Cx)(K:Frag):Prop where
 ok:∀ a g,gc a=some g->∃ cl di fd sl body,K.lookup a=some ⟨cl,di,.func fd,sl⟩/\Rs K a g fd body/\jn c g fd/\
  ∀ k,jf a=some k->k<2/\∃ cc P,fd.code= .ref cc/\CodeHd c.H0 cc P/\c.tabs[k]? =some P/\fd.qualname++".<locals>."++"<lambda>" =ii k
section
variable {c:Cx}{K:Frag}{w w':Wd}{H H':AH}{O OF:PH}{A:Vh}{E:UF->UJ->Prop}{s:UJ}{d:AV}{h h':Heap}{n:Nat}{r:R}{ks:Ks}{sg:Sg}{ρ:ae}{env:Env}{f:Nat}{a:Nat}{sc:V1}{x:Str}{len:Nat}
theorem ux{nx:Nat}:∀{ns:List Str} {k j:Nat} {x:Str},ns.Nodup->ns[j]? =some x->((ns.zipIdx k).map λp=>(p.1,nx+p.2)).lookup x=some (nx+(k+j))
 | [],_,_,_,_,e=>no e
 |y::l,k,0,x,_,e=>sj e▸cN
 |y::l,k,j+1,x,hn,e=>have hn:=W5.mp hn
  (eZ (x:=x) (n:=y) λq=>hn.1 (q▸VM (show l[j]? =some x from e))).trans ((ux (k:=k+1) hn.2 e).trans (congrArg (λz=>some (nx+z)) (Vy k 1 j)))
theorem Bp(P:fC c K)(I:All c n (aa TT n))(I2:∀ m,n=m+1->All c m (aa TT m)){g:bN}{body:List Stmt}(hc:kH a g ks sg len body=true)(hA:aG n A)(hl:ρ.length=len)(F:FS c w O OF ks sg ρ env)(hpar:∀ i,i<g.pos->∃ d,ρ[i]? =some (some d))
  {fl:AF} {ρ':ae} (he:(aa TT n).b g.body ρ H=some (fl,ρ',H')) (S:St c w H (un O OF) s.heap) {Q:Flow->UJ->Prop} (hQ:∀ w' OF' h' tk,w.le w'->(∀ b o,OF' b=some o->O b=none)->St c w' H' (un O OF') h'->mP c w' (λf=>Q f (aI s h' tk)) fl):
  UI (UN c.prog c.w) A (execs body env) Q E s:=by
 unfold kH at hc
 cases hf:RH a with
 |none=>rw[hf] at hc;exact I.b hc hl hA F fl ρ' H' he s Q E S λw' OF' h' tk l F' _ S'=>hQ w' OF' h' tk l F'.dis S'
 |some p=>
  obtain⟨b,x⟩:=p
  rw[hf] at hc
  have hk:=eq_of_beq (a1 hc)
  have hc:=a2 hc
  cases b with
  |false=>
   have h1:=a1 hc
   revert h1
   cases hs:sg.lookup x with
   |none=>exact ft
   |some i=>
    refine λh1=>(hpar i (of_decide_eq_true h1)).elim λd hd=>?_
    obtain⟨w1,OF1,l1,F1,S1⟩:=RY F S hk hs hd
    exact I.b (a2 hc) hl hA F1 fl ρ' H' he s Q E S1 λw' OF' h' tk l F' _ S'=>hQ w' OF' h' tk (l1.trans l) F'.dis S'
  |true=>
   revert hc he
   cases g.body with
   |nil=>exact λ_=>ft
   |cons i l=>
    cases body with
    |nil=>exact λ_=>ft
    |cons t r=>
     cases n with
     |zero=>exact no
     |succ m=>
      refine λhe hc=>rv (f:=λf ρ H=>jA f ρ H (ay TT (aa TT m) l ρ H)) he λf1 ρ1 H1 e1 he=>?_
      have h1:=a1 hc
      revert e1 h1
      refine DB (P:=λi=>am TT (aa TT m) i ρ H=some (f1,ρ1,H1)->cF 60 ks sg len i t=true->_) (a1 (a2 hc)) λj e hj e1 h1=>aP e1 λv H2 e2 e3=>?_
      have z:=UW (sj e3)
      have z2:=UW z.2
      cases z.1
      cases z2.1
      cases z2.2
      refine wpAny_execs_cons (uQ P (I2 m rfl) hA (hl.symm▸h1) F .next _ _ e1 s _ E S λw1 OF1 h1' t1 l1 F1 hl1 S1=>?_)
      obtain⟨w2,OF2,l2,F2,S2⟩:=RY F1 S1 hk hj (oG (F.er.bnd x j hj))
      exact I.b (a2 (a2 hc)) (hl1.trans hl) hA F2 fl ρ' H' he _ Q E S2 λw' OF' h' tk l F' _ S'=>hQ w' OF' h' tk (l1.trans (l2.trans l)) F'.dis S'
theorem E9{fd:Xf}(X:K.In h)(e:qO K fd=true):h.CodeRec fd.code fd.qualname:=by
 unfold qO at e
 split at e
 case h_2=>exact ft e
 rename_i cc hcc
 split at e
 case h_2=>exact ft e
 rename_i c1 c2 ws c3 hl
 split at e
 case h_2=>exact ft e
 rename_i q t hq
 exact⟨cc,_,ws,t,hcc,X _ _ hl,rfl,eq_of_beq e▸hq⟩
theorem D9{scope:V1}{binds:List (Str×UF)}{qual:Str}{func:Option Addr}{code:UF}{Q:Env->UJ->Prop}
  (h:UI (UN c.prog c.w) A (forIn binds Wu λ(x:Str×UF) (_:PUnit)=>do storeName (qQ scope s.heap qual func code) x.1 x.2;pure (VI Wu)) (λ_ s'=>Q (qQ scope s.heap qual func code) s') E {s with heap:=Dj scope s.heap}):
  UI (UN c.prog c.w) A (Xw scope VZ [] binds qual func code none Wy) Q E s:=by
 simp only[Xw,W7,Vq,if_false]
 refine UA (Y1 (UA (wpAny_layCells _ (λname kind cells=>by cases hkc:kind==V8<;>simp[hkc]) _ _ _ _ ?_)))
 rw[show({s with heap:=s.heap.push {cls:=.type "frame",data:=.dict #[]}}:UJ).heap.objs.size=s.heap.objs.size+1 from Xi ..]
 exact UA (Vg h (λ_ _ z=>UE z) λ_ _ z=>z)
theorem Lm(P:fC c K)(hF:EU c K)(I:All c n (aa TT n))(I2:∀ m,n=m+1->All c m (aa TT m)):mT c (n+1) (aa TT (n+1)):=λ{a args kws H A w O vs kvs} hA hv hk d H' e s Rr S hQ=>
 az (x:=gc a) e λg hg e=>az e λρ eρ e=>az eρ λfull ef eρ=>bH eρ λhlen eρ=>by
  obtain⟨cl,di,fd,sl,body,hKa,C,hb,hlam⟩:=hF.ok a g hg
  have X:=jp P.t.top S
  have ho:=KM C.sc
  refine codeAny_call_function hA.room (X _ _ hKa) rfl C.co C.gen C.bd (E9 X C.code) (hb ef hlen hv hk S λw1 h1 t1 us l1 S1 r1=>?_)
  rw[C.gl,C.bi,C.cl]
  obtain⟨OF,F0,S0⟩:=Fq (a:=a) (qual:=fd.qualname++".<locals>.") (func:=some a) (code:=fd.code) ho S1 hlam
  rw[C.len,<-hlen] at F0
  have hpl:(fB fd.params).length=g.pos:=C.par▸List.length_take.trans (Yd (C.len▸Vi _ _))
  refine D9 (wV (pre:=[]) (ds:=full) (env:=qQ fd.scope h1 (fd.qualname++".<locals>.") (some a) fd.code) (λj x v hj=>?_) ?_ F0 S0 λOF' h' tk F1 S2=>⟨P.t.top.lim.keeps λb o e=>S2.keep _ _ (S2.top _ _ e),codeAny_func ?_⟩)
  ·have hx:=(List.getElem?_zip_eq_some.mp hj).1
   have hvx:(fZ fd.scope)[j]? =some x:=(List.getElem?_take_of_lt (hpl▸(List.getElem?_eq_some_iff.mp hx).1)).symm.trans (C.par.symm▸hx)
   exact⟨(congrArg (W6 x) (U8 _)).trans ((ux (k:=0) C.nd hvx).trans (congrArg (λz=>some (0+z)) (Wf j))),wk ho (VM hvx)⟩
  ·rw[List.map_snd_zip (Vv ((r1.length.trans hlen).trans hpl.symm))]
   exact r1
  ·have eρ:=sj eρ
   cases eρ
   refine rv e λfl ρ' H2 eb e=>Bp P I I2 C.chk (hA.deeper _) (show(full.map some++U2 g.extra none).length=_ by rw[UM,UC,List.length_replicate,hlen]) F1 (λi hi=>⟨full[i]'(hlen▸hi),?_⟩) eb S2 λw3 OF3 h3 t3 l3 dis S3=>?_
   ·show(full.map some++U2 g.extra none)[i]? =_
    rw[List.getElem?_append_left (by rw[UC,hlen];exact hi),List.getElem?_map,List.getElem?_eq_getElem (hlen▸hi)]
    rfl
   ·have S3:=S3.drop dis
    have l:=l1.trans l3
    revert e
    exact AF.casesOn (motive:=λfl=>pg fl H2=some (d,H')->mP c w3 _ fl) fl (λe=>hQ.pr e w3 h3 t3 .none l S3 .none) no no λv e u r=>hQ.pr e w3 h3 t3 u l S3 r
theorem PO(P:fC c K)(hF:EU c K)(n:Nat):All c n (aa TT n)/\∀ m,n=m+1->All c m (aa TT m):=
 Nat.rec (motive:=λn=>All c n (aa TT n)/\∀ m,n=m+1->All c m (aa TT m)) ⟨EX c,λm h=>nomatch h⟩ (λn i=>⟨⟨Lk P i.1,Ln P i.1 i.2,Lo P i.1,Li P i.1,Lm P hF i.1 i.2⟩,λm h=>ZJ h▸i.1⟩) n
end
end
end
section
open PySem PySem.W PySem.Calls PyProof.Rows
section
abbrev pw:Xm:=PySem.Challenge.pw_uc0049_01
noncomputable def sE(P:UB)(x:Str)(t:Nat)(v:UF):Vx:=⟨WE P x,.str x t,v⟩
noncomputable def RX:Stmt:=.Pass ⟨0,0,0,0⟩
def aj(i:Nat):Stmt:=(pw.main.body[i]?).getD RX
def al(i j:Nat):Stmt:=match aj i with | .ClassDef _ _ _ b _ _ _ _ _ _ _=>(b[j]?).getD RX|s=>s
noncomputable def aC(s:Stmt):WJ:=match s with | .FunctionDef _ a _ _ _ _ _ _ _ _=>a|_=>⟨[],[],none,[],[],none,[]⟩
noncomputable def aD(s:Stmt):FuncBody:=match s with | .FunctionDef _ _ b _ _ _ _ _ _ _=>.stmts b|_=>.stmts []
noncomputable def aE(s:Stmt):V1:=match s with | .FunctionDef _ _ _ _ _ _ sc _ _ _=>sc|_=>pw.main.scope
noncomputable def o0(P:UB):Obj:=.mk (.type "dict") none (.dict #[sE P "__name__" 1 (.str "builtins" 160),sE P "__doc__" 2 (.builtin "builtins.__doc__:str#opaque"),sE P "__package__" 3 (.builtin "builtins.__package__:str#opaque"),sE P "__loader__" 4 (.builtin "builtins.__loader__:shared#opaque"),sE P "__spec__" 5 (.builtin "builtins.__spec__#opaque"),sE P "__build_class__" 6 (.builtin "__build_class__"),sE P "__import__" 7 (.builtin "__import__"),sE P "abs" 8 (.builtin "abs"),sE P "all" 9 (.builtin "all"),sE P "any" 10 (.builtin "any"),sE P "ascii" 11 (.builtin "ascii"),sE P "bin" 12 (.builtin "bin"),sE P "breakpoint" 13 (.builtin "breakpoint"),sE P "callable" 14 (.builtin "callable"),sE P "chr" 15 (.builtin "chr"),sE P "compile" 16 (.builtin "compile"),sE P "delattr" 17 (.builtin "delattr"),sE P "dir" 18 (.builtin "dir"),sE P "divmod" 19 (.builtin "divmod"),sE P "eval" 20 (.builtin "eval"),sE P "exec" 21 (.builtin "exec"),sE P "format" 22 (.builtin "format"),sE P "getattr" 23 (.builtin "getattr"),sE P "globals" 24 (.builtin "globals"),sE P "hasattr" 25 (.builtin "hasattr"),sE P "hash" 26 (.builtin "hash"),sE P "hex" 27 (.builtin "hex"),sE P "id" 28 (.builtin "id"),sE P "input" 29 (.builtin "input"),sE P "isinstance" 30 (.builtin "isinstance"),sE P "issubclass" 31 (.builtin "issubclass"),sE P "iter" 32 (.builtin "iter"),sE P "aiter" 33 (.builtin "aiter"),sE P "len" 34 (.builtin "len"),sE P "locals" 35 (.builtin "locals"),sE P "max" 36 (.builtin "max"),sE P "min" 37 (.builtin "min"),sE P "next" 38 (.builtin "next"),sE P "anext" 39 (.builtin "anext"),sE P "oct" 40 (.builtin "oct"),sE P "ord" 41 (.builtin "ord"),sE P "pow" 42 (.builtin "pow"),sE P "print" 43 (.builtin "print"),sE P "repr" 44 (.builtin "repr"),sE P "round" 45 (.builtin "round"),sE P "setattr" 46 (.builtin "setattr"),sE P "sorted" 47 (.builtin "sorted"),sE P "sum" 48 (.builtin "sum"),sE P "vars" 49 (.builtin "vars"),sE P "None" 50 .none,sE P "Ellipsis" 51 .ellipsis,sE P "NotImplemented" 52 .notImplemented,sE P "False" 53 (.bool false),sE P "True" 54 (.bool true),sE P "bool" 55 (.type "bool"),sE P "memoryview" 56 (.type "memoryview"),sE P "bytearray" 57 (.type "bytearray"),sE P "bytes" 58 (.type "bytes"),sE P "classmethod" 59 (.type "classmethod"),sE P "complex" 60 (.type "complex"),sE P "dict" 61 (.type "dict"),sE P "enumerate" 62 (.type "enumerate"),sE P "filter" 63 (.type "filter"),sE P "float" 64 (.type "float"),sE P "frozenset" 65 (.type "frozenset"),sE P "property" 66 (.type "property"),sE P "int" 67 (.type "int"),sE P "list" 68 (.type "list"),sE P "map" 69 (.type "map"),sE P "object" 70 (.type "object"),sE P "range" 71 (.type "range"),sE P "reversed" 72 (.type "reversed"),sE P "set" 73 (.type "set"),sE P "slice" 74 (.type "slice"),sE P "staticmethod" 75 (.type "staticmethod"),sE P "str" 76 (.type "str"),sE P "super" 77 (.type "super"),sE P "tuple" 78 (.type "tuple"),sE P "type" 79 (.type "type"),sE P "zip" 80 (.type "zip"),sE P "__debug__" 81 (.bool true),sE P "BaseException" 82 (.type "BaseException"),sE P "BaseExceptionGroup" 83 (.type "BaseExceptionGroup"),sE P "Exception" 84 (.type "Exception"),sE P "GeneratorExit" 85 (.type "GeneratorExit"),sE P "KeyboardInterrupt" 86 (.type "KeyboardInterrupt"),sE P "SystemExit" 87 (.type "SystemExit"),sE P "ArithmeticError" 88 (.type "ArithmeticError"),sE P "AssertionError" 89 (.type "AssertionError"),sE P "AttributeError" 90 (.type "AttributeError"),sE P "BufferError" 91 (.type "BufferError"),sE P "EOFError" 92 (.type "EOFError"),sE P "ImportError" 93 (.type "ImportError"),sE P "LookupError" 94 (.type "LookupError"),sE P "MemoryError" 95 (.type "MemoryError"),sE P "NameError" 96 (.type "NameError"),sE P "OSError" 97 (.type "OSError"),sE P "ReferenceError" 98 (.type "ReferenceError"),sE P "RuntimeError" 99 (.type "RuntimeError"),sE P "StopAsyncIteration" 100 (.type "StopAsyncIteration"),sE P "StopIteration" 101 (.type "StopIteration"),sE P "SyntaxError" 102 (.type "SyntaxError"),sE P "SystemError" 103 (.type "SystemError"),sE P "TypeError" 104 (.type "TypeError"),sE P "ValueError" 105 (.type "ValueError"),sE P "Warning" 106 (.type "Warning"),sE P "FloatingPointError" 107 (.type "FloatingPointError"),sE P "OverflowError" 108 (.type "OverflowError"),sE P "ZeroDivisionError" 109 (.type "ZeroDivisionError"),sE P "BytesWarning" 110 (.type "BytesWarning"),sE P "DeprecationWarning" 111 (.type "DeprecationWarning"),sE P "EncodingWarning" 112 (.type "EncodingWarning"),sE P "FutureWarning" 113 (.type "FutureWarning"),sE P "ImportWarning" 114 (.type "ImportWarning"),sE P "PendingDeprecationWarning" 115 (.type "PendingDeprecationWarning"),sE P "ResourceWarning" 116 (.type "ResourceWarning"),sE P "RuntimeWarning" 117 (.type "RuntimeWarning"),sE P "SyntaxWarning" 118 (.type "SyntaxWarning"),sE P "UnicodeWarning" 119 (.type "UnicodeWarning"),sE P "UserWarning" 120 (.type "UserWarning"),sE P "BlockingIOError" 121 (.type "BlockingIOError"),sE P "ChildProcessError" 122 (.type "ChildProcessError"),sE P "ConnectionError" 123 (.type "ConnectionError"),sE P "FileExistsError" 124 (.type "FileExistsError"),sE P "FileNotFoundError" 125 (.type "FileNotFoundError"),sE P "InterruptedError" 126 (.type "InterruptedError"),sE P "IsADirectoryError" 127 (.type "IsADirectoryError"),sE P "NotADirectoryError" 128 (.type "NotADirectoryError"),sE P "PermissionError" 129 (.type "PermissionError"),sE P "ProcessLookupError" 130 (.type "ProcessLookupError"),sE P "TimeoutError" 131 (.type "TimeoutError"),sE P "IndentationError" 132 (.type "IndentationError"),sE P "_IncompleteInputError" 133 (.type "_IncompleteInputError"),sE P "IndexError" 134 (.type "IndexError"),sE P "KeyError" 135 (.type "KeyError"),sE P "ModuleNotFoundError" 136 (.type "ModuleNotFoundError"),sE P "NotImplementedError" 137 (.type "NotImplementedError"),sE P "PythonFinalizationError" 138 (.type "PythonFinalizationError"),sE P "RecursionError" 139 (.type "RecursionError"),sE P "UnboundLocalError" 140 (.type "UnboundLocalError"),sE P "UnicodeError" 141 (.type "UnicodeError"),sE P "BrokenPipeError" 142 (.type "BrokenPipeError"),sE P "ConnectionAbortedError" 143 (.type "ConnectionAbortedError"),sE P "ConnectionRefusedError" 144 (.type "ConnectionRefusedError"),sE P "ConnectionResetError" 145 (.type "ConnectionResetError"),sE P "TabError" 146 (.type "TabError"),sE P "UnicodeDecodeError" 147 (.type "UnicodeDecodeError"),sE P "UnicodeEncodeError" 148 (.type "UnicodeEncodeError"),sE P "UnicodeTranslateError" 149 (.type "UnicodeTranslateError"),sE P "ExceptionGroup" 150 (.type "ExceptionGroup"),sE P "EnvironmentError" 151 (.type "OSError"),sE P "IOError" 152 (.type "OSError"),sE P "open" 153 (.builtin "open"),sE P "quit" 154 (.builtin "builtins.quit#opaque"),sE P "exit" 155 (.builtin "builtins.exit#opaque"),sE P "copyright" 156 (.builtin "builtins.copyright#opaque"),sE P "credits" 157 (.builtin "builtins.credits#opaque"),sE P "license" 158 (.builtin "builtins.license#opaque"),sE P "help" 159 (.builtin "builtins.help#opaque")] 159) #[]
noncomputable def o1(P:UB):Obj:=.mk (.type "dict") none (.dict #[sE P "builtins" 162 (.ref 4),sE P "__main__" 163 (.ref 5),sE P "_sre" 244 (.ref 12)] 3) #[]
noncomputable def o2(P:UB):Obj:=.mk .none none (.dict #[sE P "\x69mport.loaded._sre" 183 (.bool true),sE P "class._frozen_importlib.BuiltinImporter" 185 (.ref 14),sE P "watched.\x69mport" 206 (.ref 18),sE P "class._frozen_importlib.ModuleSpec" 216 (.ref 22),sE P "sys.modules.booked-epoch" 245 (.int 3 0),sE P "\x69mport.later-laid._sre" 270 (.bool true),sE P "watched.library" 272 (.ref 27),sE P "watched.library-objects" 0 (.str "\x0c" 0),sE P "watched.library-deep._sre" 273 (.str "\x04\x00\x00\x0b\x04\x00\x00\x0b\x04\x00\x00\x03\x04\x00\x00\x0b\x08\x04dict\x02" 0)] 9) #[]
noncomputable def o3(P:UB):Obj:=.mk (.type "dict") none (.dict #[sE P "__name__" 165 (.str "__main__" 164),sE P "__doc__" 166 .none,sE P "__package__" 167 .none,sE P "__loader__" 168 (.builtin "__main__.__loader__#opaque"),sE P "__spec__" 169 .none,sE P "__annotations__" 170 (.ref 6),sE P "__builtins__" 171 (.ref 4),sE P "__file__" 173 (.str "/claim/cut.py" 172),sE P "__cached__" 174 .none,sE P "_sre" 275 (.ref 12)] 10) #[]
noncomputable def o4(P:UB):Obj:=.mk (.type "module") (some 0) .plain #[]
noncomputable def o5(P:UB):Obj:=.mk (.type "module") (some 3) .plain #[]
noncomputable def o6(P:UB):Obj:=.mk (.type "dict") none (.dict #[] 0) #[]
noncomputable def o7(P:UB):Obj:=.mk (.type "tuple") none (.seq #[] 0) #[]
noncomputable def o8(P:UB):Obj:=.mk .none none (.fields #[]) #[]
noncomputable def o9(P:UB):Obj:=.mk (.type "code") none (.fields #[.str "<module>" 176,.str "<module>" 177,.str "/claim/cut.py" 178,.int 1 0,.int 0 0,.int 0 0,.int 0 0,.int 0 0,.ref 7,.bool false,.int 175 0,.ref 8,.none,.none,.none,.none,.int 179 0,.int 1 0,.str "/claim/cut.py" 180]) #[]
noncomputable def mo(P:UB):Obj:=.mk (.type "frame") none .plain #[(some (.ref 9)),(some (.ref 3)),(some (.ref 3)),none,(some (.str "__main__" 164)),none,(some (.ref 0))]
noncomputable def mq(P:UB):Obj:=.mk (.type "dict") none (.dict #[sE P "__name__" 247 (.str "_sre" 246),sE P "__doc__" 248 .none,sE P "__package__" 250 (.str "" 249),sE P "__loader__" 251 (.builtin "off-the-table:_sre.__loader__:shared#opaque"),sE P "__spec__" 252 (.builtin "off-the-table:_sre.__spec__:shared#opaque"),sE P "compile" 253 (.builtin "_sre.compile"),sE P "template" 254 (.builtin "off-the-table:_sre.template:shared#opaque"),sE P "getcodesize" 255 (.builtin "off-the-table:_sre.getcodesize:shared#opaque"),sE P "ascii_iscased" 256 (.builtin "off-the-table:_sre.ascii_iscased:shared#opaque"),sE P "unicode_iscased" 257 (.builtin "off-the-table:_sre.unicode_iscased:shared#opaque"),sE P "ascii_tolower" 258 (.builtin "off-the-table:_sre.ascii_tolower:shared#opaque"),sE P "unicode_tolower" 259 (.builtin "off-the-table:_sre.unicode_tolower:shared#opaque"),sE P "MAGIC" 261 (.int 20230612 260),sE P "CODESIZE" 263 (.int 4 262),sE P "MAXREPEAT" 265 (.int 4294967295 264),sE P "MAXGROUPS" 267 (.int 1073741823 266),(sE P "copyright" 269 (.str " SRE 2.2.2 Copyright (c) 1997-2002 by Secret Labs AB " 268))] 17) #[]
noncomputable def mr(P:UB):Obj:=.mk (.type "module") (some 11) .plain #[]
noncomputable def mt(P:UB):Obj:=.mk (.type "dict") none (.dict #[sE P "__module__" 189 (.str "_frozen_importlib" 186),sE P "__firstlineno__" 190 (.int 971 187),sE P "__doc__" 191 (.builtin "_frozen_importlib.BuiltinImporter.__doc__:str#opaque"),sE P "_ORIGIN" 192 (.str "built-in" 188),sE P "find_spec" 193 (.builtin "_frozen_importlib.BuiltinImporter.find_spec#opaque"),sE P "create_module" 194 (.builtin "_frozen_importlib.BuiltinImporter.create_module#opaque"),sE P "exec_module" 195 (.builtin "_frozen_importlib.BuiltinImporter.exec_module#opaque"),sE P "get_code" 196 (.builtin "_frozen_importlib.BuiltinImporter.get_code#opaque"),sE P "get_source" 197 (.builtin "_frozen_importlib.BuiltinImporter.get_source#opaque"),sE P "is_package" 198 (.builtin "_frozen_importlib.BuiltinImporter.is_package#opaque"),sE P "load_module" 199 (.builtin "_frozen_importlib.BuiltinImporter.load_module#opaque"),sE P "__static_attributes__" 200 (.ref 15),sE P "__dict__" 202 (.ref 16),sE P "__weakref__" 204 (.ref 17)] 14) #[]
noncomputable def mw(P:UB):Obj:=.mk (.type "type") none (.cls (.mk "BuiltinImporter" [.type "object"] [.ref 14,.type "object"] 13 "BuiltinImporter" true [] [] false none false)) #[]
noncomputable def mx(P:UB):Obj:=.mk (.type "tuple") none (.seq #[] 0) #[]
noncomputable def my(P:UB):Obj:=.mk (.type "getset_descriptor") none (.fields #[.str "__dict__" 201,.ref 14,.builtin "function.__dict__",.builtin "function.__dict__#set"]) #[]
noncomputable def mz(P:UB):Obj:=.mk (.type "getset_descriptor") none (.fields #[.str "__weakref__" 203,.ref 14,.builtin "ExceptionGroup.__weakref__",.none]) #[]
noncomputable def mA(P:UB):Obj:=.mk .none none (.seq #[.int 13 0,.str "\x06½\n__module__\x06º\x11_frozen_importlib\x06¾\x0f__firstlineno__\x04»\x00ϋ\x06¿\x07__doc__\t4_frozen_importlib.BuiltinImporter.__doc__:str#opaque\x06À\x07_ORIGIN\x06¼\x08built-in\x06Á\tfind_spec\t2_frozen_importlib.BuiltinImporter.find_spec#opaque\x06Â\x0dcreate_module\t6_frozen_importlib.BuiltinImporter.create_module#opaque\x06Ã\x0bexec_module\t4_frozen_importlib.BuiltinImporter.exec_module#opaque\x06Ä\x08get_code\t1_frozen_importlib.BuiltinImporter.get_code#opaque\x06Å\nget_source\t3_frozen_importlib.BuiltinImporter.get_source#opaque\x06Æ\nis_package\t3_frozen_importlib.BuiltinImporter.is_package#opaque\x06Ç\x0bload_module\t4_frozen_importlib.BuiltinImporter.load_module#opaque\x06È\x15__static_attributes__\x04\x00\x00\x0f\x06Ê\x08__dict__\x04\x00\x00\x10\x06Ì\x0b__weakref__\x04\x00\x00\x11" 0,.bool true,.bool true,.str "" 205,.int 21 0,.str "\x06ã\n__module__\x06Ù\x11_frozen_importlib\x06ä\x0f__firstlineno__\x04Ú\x00Ȳ\x06å\x07__doc__\t/_frozen_importlib.ModuleSpec.__doc__:str#opaque\x06æ\x08__init__\t,_frozen_importlib.ModuleSpec.__init__#opaque\x06ç\x08__repr__\t,_frozen_importlib.ModuleSpec.__repr__#opaque\x06è\x06__eq__\t*_frozen_importlib.ModuleSpec.__eq__#opaque\x06é\x06cached\t*_frozen_importlib.ModuleSpec.cached#opaque\x06ê\x06parent\t*_frozen_importlib.ModuleSpec.parent#opaque\x06ë\x0chas_location\t0_frozen_importlib.ModuleSpec.has_location#opaque\x06ì\x15__static_attributes__\x04\x00\x00\x17\x06î\x08__dict__\x04\x00\x00\x18\x06ð\x0b__weakref__\x04\x00\x00\x19\x06ñ\x08__hash__\x00" 0,.bool true,.bool true,.str "" 242] 1) #[]
noncomputable def mB(P:UB):Obj:=.mk (.type "list") none (.seq #[] 0) #[]
noncomputable def mD(P:UB):Obj:=.mk (.type "dict") none (.dict #[sE P "name" 208 (.str "_sre" 207),sE P "loader" 209 (.ref 14),sE P "origin" 210 (.str "built-in" 184),sE P "loader_state" 211 .none,sE P "submodule_search_locations" 212 .none,sE P "_uninitialized_submodules" 213 (.ref 19),sE P "_set_fileattr" 214 (.bool false),sE P "_cached" 215 .none,sE P "_initializing" 243 (.bool false)] 9) #[]
noncomputable def mE(P:UB):Obj:=.mk (.type "dict") none (.dict #[sE P "__module__" 227 (.str "_frozen_importlib" 217),sE P "__firstlineno__" 228 (.int 562 218),sE P "__doc__" 229 (.builtin "_frozen_importlib.ModuleSpec.__doc__:str#opaque"),sE P "__init__" 230 (.builtin "_frozen_importlib.ModuleSpec.__init__#opaque"),sE P "__repr__" 231 (.builtin "_frozen_importlib.ModuleSpec.__repr__#opaque"),sE P "__eq__" 232 (.builtin "_frozen_importlib.ModuleSpec.__eq__#opaque"),sE P "cached" 233 (.builtin "_frozen_importlib.ModuleSpec.cached#opaque"),sE P "parent" 234 (.builtin "_frozen_importlib.ModuleSpec.parent#opaque"),sE P "has_location" 235 (.builtin "_frozen_importlib.ModuleSpec.has_location#opaque"),sE P "__static_attributes__" 236 (.ref 23),sE P "__dict__" 238 (.ref 24),sE P "__weakref__" 240 (.ref 25),sE P "__hash__" 241 .none] 13) #[]
noncomputable def mF(P:UB):Obj:=.mk (.type "type") none (.cls (.mk "ModuleSpec" [.type "object"] [.ref 22,.type "object"] 21 "ModuleSpec" true [] [] false none false)) #[]
noncomputable def mG(P:UB):Obj:=.mk (.type "tuple") none (.seq #[.str "_cached" 219,.str "_set_fileattr" 220,.str "_uninitialized_submodules" 221,.str "loader" 222,.str "loader_state" 223,.str "name" 224,.str "origin" 225,.str "submodule_search_locations" 226] 0) #[]
noncomputable def mI(P:UB):Obj:=.mk (.type "getset_descriptor") none (.fields #[.str "__dict__" 237,.ref 22,.builtin "function.__dict__",.builtin "function.__dict__#set"]) #[]
noncomputable def mJ(P:UB):Obj:=.mk (.type "getset_descriptor") none (.fields #[.str "__weakref__" 239,.ref 22,.builtin "ExceptionGroup.__weakref__",.none]) #[]
noncomputable def mK(P:UB):Obj:=.mk (.ref 22) (some 20) .plain #[]
noncomputable def mM(P:UB):Obj:=.mk .none none (.seq #[.int 11 0,(.str (UO #[6,247,8,95,95,110,97,109,101,95,95,6,246,4,95,115,114,101,6,248,7,95,95,100,111,99,95,95,0,6,250,11,95,95,112,97,99,107,97,103,101,95,95,6,249,0,6,251,10,95,95,108,111,97,100,101,114,95,95,4,0,0,14,6,252,8,95,95,115,112,101,99,95,95,4,0,0,26,6,253,7,99,111,109,112,105,108,101,9,12,95,115,114,101,46,99,111,109,112,105,108,101,6,254,8,116,101,109,112,108,97,116,101,9,13,95,115,114,101,46,116,101,109,112,108,97,116,101,6,255,11,103,101,116,99,111,100,101,115,105,122,101,9,16,95,115,114,101,46,103,101,116,99,111,100,101,115,105,122,101,6,256,13,97,115,99,105,105,95,105,115,99,97,115,101,100,9,18,95,115,114,101,46,97,115,99,105,105,95,105,115,99,97,115,101,100,6,257,15,117,110,105,99,111,100,101,95,105,115,99,97,115,101,100,9,20,95,115,114,101,46,117,110,105,99,111,100,101,95,105,115,99,97,115,101,100,6,258,13,97,115,99,105,105,95,116,111,108,111,119,101,114,9,18,95,115,114,101,46,97,115,99,105,105,95,116,111,108,111,119,101,114,6,259,15,117,110,105,99,111,100,101,95,116,111,108,111,119,101,114,9,20,95,115,114,101,46,117,110,105,99,111,100,101,95,116,111,108,111,119,101,114,6,261,5,77,65,71,73,67,4,260,0,20230612,6,263,8,67,79,68,69,83,73,90,69,4,262,0,4,6,265,9,77,65,88,82,69,80,69,65,84,4,264,0,4294967295,6,267,9,77,65,88,71,82,79,85,80,83,4,266,0,1073741823,6,269,9,99,111,112,121,114,105,103,104,116,6,268,53,32,83,82,69,32,50,46,50,46,50,32,67,111,112,121,114,105,103,104,116,32,40,99,41,32,49,57,57,55,45,50,48,48,50,32,98,121,32,83,101,99,114,101,116,32,76,97,98,115,32,65,66,32]) 0),.bool true,.bool false,.str "_sre" 271] 0) #[]
noncomputable def nE(P:UB):Obj:=.mk (.type "tuple") none (.seq #[] 0) #[]
noncomputable def RP(P:UB):Obj:=.mk .none none (.fields #[]) #[]
noncomputable def nF(P:UB):Obj:=.mk (.type "code") none (.fields #[.str "<module>" 277,.str "<module>" 278,.str "/claim/cut.py" 279,.int 1 0,.int 0 0,.int 0 0,.int 0 0,.int 0 0,.ref 28,.bool false,.int 276 0,.ref 29,.none,.none,.none,.none,.int 280 0,.int 1 0,.str "/claim/cut.py" 281]) #[]
noncomputable def nH(P:UB):Obj:=.mk (.type "frame") none .plain #[(some (.ref 30)),(some (.ref 3)),(some (.ref 3)),none,(some (.str "__main__" 164)),none,(some (.ref 0))]
noncomputable def Td(P:UB):Obj:=.mk (.type "dict") none (.dict #[sE P "__name__" 165 (.str "cpy313.dis" 289),sE P "__doc__" 166 .none,sE P "__package__" 167 .none,sE P "__loader__" 168 (.builtin "__main__.__loader__#opaque"),sE P "__spec__" 169 .none,sE P "__annotations__" 170 (.ref 6),sE P "__builtins__" 171 (.ref 4),sE P "__file__" 173 (.str "/claim/cut.py" 172),sE P "__cached__" 174 .none,sE P "_sre" 275 (.ref 12),sE P "_wall" 288 (.ref 38)] 11) #[]
noncomputable def Jj(P:UB):Obj:=.mk .none none (.fields #[.int 2 0,.int 0 0,.ref 37]) #[]
noncomputable def oN(P:UB):Obj:=.mk (.type "tuple") none (.seq #[] 0) #[]
noncomputable def rq(P:UB):Obj:=.mk .none none (.fields #[]) #[]
noncomputable def oO(P:UB):Obj:=.mk (.type "tuple") none (.seq #[.str "k" 285] 0) #[]
noncomputable def oP(P:UB):Obj:=.mk (.type "tuple") none (.seq #[] 0) #[]
def rt(P:UB):Obj:=.mk .none none (.func (.mk "_wall" "_wall" (aC (aj 1)) (aD (aj 1)) (aE (aj 1)) 0 [] .none .none .none .none none .none .none 0)) #[]
noncomputable def oQ(P:UB):Obj:=.mk (.type "code") none (.fields #[.str "_wall" 282,.str "_wall" 283,.str "/claim/cut.py" 284,.int 2 0,.int 1 0,.int 0 0,.int 0 0,.int 3 0,.ref 32,.bool true,.int 276 0,.ref 33,.none,.ref 34,.ref 35,.ref 36,.int 286 0,.int 2 0,.str "/claim/cut.py" 287]) #[]
def oR(P:UB):Obj:=.mk (.type "function") none (.func (.mk "_wall" "_wall" (aC (aj 1)) (aD (aj 1)) (aE (aj 1)) 3 [] .none .none .none (.str "__main__" 164) none (.ref 37) .none 0)) #[]
noncomputable def Te(P:UB):Obj:=.mk (.type "dict") none (.dict #[sE P "__name__" 165 (.str "cpy313.dis" 289),sE P "__doc__" 166 .none,sE P "__package__" 167 .none,sE P "__loader__" 168 (.builtin "__main__.__loader__#opaque"),sE P "__spec__" 169 .none,sE P "__annotations__" 170 (.ref 6),sE P "__builtins__" 171 (.ref 4),sE P "__file__" 173 (.str "/claim/cut.py" 172),sE P "__cached__" 174 .none,sE P "_sre" 275 (.ref 12),sE P "_wall" 288 (.ref 38),sE P "COMPILER_FLAG_NAMES" 321 (.ref 39)] 12) #[]
noncomputable def ru(P:UB):Obj:=.mk (.type "dict") none (.dict #[(Wk 1 (.int 1 291) (.str "OPTIMIZED" 292)),(Wk 2 (.int 2 293) (.str "NEWLOCALS" 294)),(Wk 4 (.int 4 295) (.str "VARARGS" 296)),(Wk 8 (.int 8 297) (.str "VARKEYWORDS" 298)),(Wk 16 (.int 16 299) (.str "NESTED" 300)),(Wk 32 (.int 32 301) (.str "GENERATOR" 302)),(Wk 64 (.int 64 303) (.str "NOFREE" 304)),(Wk 128 (.int 128 305) (.str "COROUTINE" 306)),(Wk 256 (.int 256 307) (.str "ITERABLE_COROUTINE" 308)),(Wk 512 (.int 512 309) (.str "ASYNC_GENERATOR" 310))] 10) #[]
noncomputable def Tf(P:UB):Obj:=.mk (.type "dict") none (.dict #[sE P "__name__" 165 (.str "cpy313.dis" 289),sE P "__doc__" 166 .none,sE P "__package__" 167 .none,sE P "__loader__" 168 (.builtin "__main__.__loader__#opaque"),sE P "__spec__" 169 .none,sE P "__annotations__" 170 (.ref 6),sE P "__builtins__" 171 (.ref 4),sE P "__file__" 173 (.str "/claim/cut.py" 172),sE P "__cached__" 174 .none,sE P "_sre" 275 (.ref 12),sE P "_wall" 288 (.ref 38),sE P "COMPILER_FLAG_NAMES" 321 (.ref 39),sE P "pretty_flags" 331 (.ref 46),sE P "_Unknown" 358 (.ref 63)] 14) #[]
noncomputable def Qy(P:UB):Obj:=.mk .none none (.fields #[.int 2 0,.int 0 0,.ref 37,.int 7 0,.int 0 0,.ref 45,.int 19 0,.int 0 0,.ref 52]) #[]
noncomputable def uz(P:UB):Obj:=.mk (.type "tuple") none (.seq #[] 0) #[]
noncomputable def xn(P:UB):Obj:=.mk .none none (.fields #[]) #[]
noncomputable def uA(P:UB):Obj:=.mk (.type "tuple") none (.seq #[.str "flags" 325,.str "names" 326,.str "i" 327,.str "flag" 328] 0) #[]
noncomputable def uB(P:UB):Obj:=.mk (.type "tuple") none (.seq #[] 0) #[]
def xp(P:UB):Obj:=.mk .none none (.func (.mk "pretty_flags" "pretty_flags" (aC (aj 4)) (aD (aj 4)) (aE (aj 4)) 0 [] .none .none .none .none none .none .none 0)) #[]
noncomputable def uC(P:UB):Obj:=.mk (.type "code") none (.fields #[.str "pretty_flags" 322,.str "pretty_flags" 323,.str "/claim/cut.py" 324,.int 7 0,.int 1 0,.int 0 0,.int 0 0,.int 3 0,.ref 40,.bool true,.int 276 0,.ref 41,.none,.ref 42,.ref 43,.ref 44,.int 329 0,.int 7 0,.str "/claim/cut.py" 330]) #[]
def uD(P:UB):Obj:=.mk (.type "function") none (.func (.mk "pretty_flags" "pretty_flags" (aC (aj 4)) (aD (aj 4)) (aE (aj 4)) 3 [] .none .none .none (.str "cpy313.dis" 289) none (.ref 45) .none 0)) #[]
noncomputable def xq(P:UB):Obj:=.mk (.type "tuple") none (.seq #[] 0) #[]
noncomputable def xr(P:UB):Obj:=.mk (.type "builtin_function_or_method") none (.fields #[.builtin "type.__prepare__",.type "type"]) #[]
noncomputable def xt(P:UB):Obj:=.mk (.type "dict") none (.dict #[sE P "__module__" 339 (.str "cpy313.dis" 289),sE P "__qualname__" 341 (.str "_Unknown" 340),sE P "__firstlineno__" 343 (.int 19 342),sE P "__repr__" 350 (.ref 60),sE P "__static_attributes__" 351 (.ref 61)] 5) #[]
noncomputable def xu(P:UB):Obj:=.mk (.type "tuple") none (.seq #[] 0) #[]
noncomputable def xw(P:UB):Obj:=.mk .none none (.fields #[.int 21 0,.int 4 0,.ref 59]) #[]
noncomputable def xx(P:UB):Obj:=.mk (.type "code") none (.fields #[.str "_Unknown" 334,.str "_Unknown" 335,.str "/claim/cut.py" 336,.int 19 0,.int 0 0,.int 0 0,.int 0 0,.int 0 0,.ref 50,.bool false,.int 276 0,.ref 51,.none,.none,.none,.none,.int 337 0,.int 19 0,.str "/claim/cut.py" 338]) #[]
noncomputable def xy(P:UB):Obj:=.mk (.type "frame") none .plain #[(some (.ref 52)),(some (.ref 3)),(some (.ref 49)),none,(some (.str "cpy313.dis" 289)),none,(some (.ref 0))]
noncomputable def uE(P:UB):Obj:=.mk (.type "tuple") none (.seq #[] 0) #[]
noncomputable def xz(P:UB):Obj:=.mk .none none (.fields #[]) #[]
noncomputable def uF(P:UB):Obj:=.mk (.type "tuple") none (.seq #[.str "self" 347] 0) #[]
noncomputable def uG(P:UB):Obj:=.mk (.type "tuple") none (.seq #[] 0) #[]
def xA(P:UB):Obj:=.mk .none none (.func (.mk "__repr__" "_Unknown.__repr__" (aC (al 5 0)) (aD (al 5 0)) (aE (al 69 12)) 0 [] .none .none .none .none none .none .none 0)) #[]
noncomputable def uH(P:UB):Obj:=.mk (.type "code") none (.fields #[.str "__repr__" 344,.str "_Unknown.__repr__" 345,.str "/claim/cut.py" 346,.int 21 0,.int 1 0,.int 0 0,.int 0 0,.int 3 0,.ref 54,.bool true,.int 276 0,.ref 55,.none,.ref 56,.ref 57,.ref 58,.int 348 0,.int 21 0,.str "/claim/cut.py" 349]) #[]
def uI(P:UB):Obj:=.mk (.type "function") none (.func (.mk "__repr__" "_Unknown.__repr__" (aC (al 5 0)) (aD (al 5 0)) (aE (al 69 12)) 3 [] .none .none .none (.str "cpy313.dis" 289) none (.ref 59) .none 0)) #[]
noncomputable def uJ(P:UB):Obj:=.mk (.type "tuple") none (.seq #[] 0) #[]
noncomputable def uK(P:UB):Obj:=.mk (.type "dict") none (.dict #[sE P "__module__" 339 (.str "cpy313.dis" 289),sE P "__firstlineno__" 343 (.int 19 342),sE P "__repr__" 350 (.ref 60),sE P "__static_attributes__" 351 (.ref 61),sE P "__dict__" 353 (.ref 64),sE P "__weakref__" 355 (.ref 65),sE P "__doc__" 356 .none] 4) #[]
noncomputable def uL(P:UB):Obj:=.mk (.type "type") none (.cls (.mk "_Unknown" [.type "object"] [.ref 63,.type "object"] 62 "_Unknown" true [] [] false none false)) #[none,none,(some (.str "_Unknown" 332)),(some (.str "_Unknown" 340)),(some (.builtin "object.__new__")),(some (.bool true))]
noncomputable def uM(P:UB):Obj:=.mk (.type "getset_descriptor") none (.fields #[.str "__dict__" 352,.ref 63,.builtin "function.__dict__",.builtin "function.__dict__#set"]) #[]
noncomputable def uN(P:UB):Obj:=.mk (.type "getset_descriptor") none (.fields #[.str "__weakref__" 354,.ref 63,.builtin "ExceptionGroup.__weakref__",.none]) #[]
noncomputable def xD(P:UB):Obj:=.mk (.type "super") none (.fields #[.ref 63,.ref 63,.ref 63]) #[]
noncomputable def xE(P:UB):Obj:=.mk (.type "builtin_function_or_method") none (.fields #[.builtin "object.__init_subclass__",.ref 63]) #[]
noncomputable def Tg(P:UB):Obj:=.mk (.type "dict") none (.dict #[sE P "__name__" 165 (.str "cpy313.netrc" 379),sE P "__doc__" 166 .none,sE P "__package__" 167 .none,sE P "__loader__" 168 (.builtin "__main__.__loader__#opaque"),sE P "__spec__" 169 .none,sE P "__annotations__" 170 (.ref 6),sE P "__builtins__" 171 (.ref 4),sE P "__file__" 173 (.str "/claim/cut.py" 172),sE P "__cached__" 174 .none,sE P "_sre" 275 (.ref 12),sE P "_wall" 288 (.ref 38),sE P "COMPILER_FLAG_NAMES" 321 (.ref 39),sE P "pretty_flags" 331 (.ref 46),sE P "_Unknown" 358 (.ref 63),sE P "UNKNOWN" 359 (.ref 69),sE P "_get_name_info" 369 (.ref 76),sE P "_parse_varint" 378 (.ref 83),sE P "_netrclex" 438 (.ref 121)] 18) #[]
noncomputable def Cn(P:UB):Obj:=.mk .none none (.fields #[.int 2 0,.int 0 0,.ref 37,.int 7 0,.int 0 0,.ref 45,.int 19 0,.int 0 0,.ref 52,.int 24 0,.int 0 0,.ref 75,.int 30 0,.int 0 0,.ref 82,.int 39 0,.int 0 0,.ref 89]) #[]
noncomputable def xG(P:UB):Obj:=.mk (.type "dict") none (.dict #[] 0) #[]
noncomputable def xH(P:UB):Obj:=.mk (.ref 63) (some 68) .plain #[]
noncomputable def xI(P:UB):Obj:=.mk (.type "tuple") none (.seq #[] 0) #[]
noncomputable def Aa(P:UB):Obj:=.mk .none none (.fields #[]) #[]
noncomputable def xJ(P:UB):Obj:=.mk (.type "tuple") none (.seq #[.str "name_index" 363,.str "get_name" 364,.str "extrainfo" 365,.str "argval" 366] 0) #[]
noncomputable def xL(P:UB):Obj:=.mk (.type "tuple") none (.seq #[] 0) #[]
def Ab(P:UB):Obj:=.mk .none none (.func (.mk "_get_name_info" "_get_name_info" (aC (aj 7)) (aD (aj 7)) (aE (aj 7)) 0 [] .none .none .none .none none .none .none 0)) #[]
noncomputable def xN(P:UB):Obj:=.mk (.type "code") none (.fields #[.str "_get_name_info" 360,.str "_get_name_info" 361,.str "/claim/cut.py" 362,.int 24 0,.int 2 0,.int 0 0,.int 0 0,.int 11 0,.ref 70,.bool true,.int 276 0,.ref 71,.none,.ref 72,.ref 73,.ref 74,.int 367 0,.int 24 0,.str "/claim/cut.py" 368]) #[]
def xO(P:UB):Obj:=.mk (.type "function") none (.func (.mk "_get_name_info" "_get_name_info" (aC (aj 7)) (aD (aj 7)) (aE (aj 7)) 3 [] .none .none .none (.str "cpy313.dis" 289) none (.ref 75) .none 0)) #[]
noncomputable def xP(P:UB):Obj:=.mk (.type "tuple") none (.seq #[] 0) #[]
noncomputable def Ac(P:UB):Obj:=.mk .none none (.fields #[]) #[]
noncomputable def xQ(P:UB):Obj:=.mk (.type "tuple") none (.seq #[.str "iterator" 373,.str "b" 374,.str "val" 375] 0) #[]
noncomputable def xR(P:UB):Obj:=.mk (.type "tuple") none (.seq #[] 0) #[]
def Ad(P:UB):Obj:=.mk .none none (.func (.mk "_parse_varint" "_parse_varint" (aC (aj 8)) (aD (aj 8)) (aE (aj 8)) 0 [] .none .none .none .none none .none .none 0)) #[]
noncomputable def xS(P:UB):Obj:=.mk (.type "code") none (.fields #[.str "_parse_varint" 370,.str "_parse_varint" 371,.str "/claim/cut.py" 372,.int 30 0,.int 1 0,.int 0 0,.int 0 0,.int 3 0,.ref 77,.bool true,.int 276 0,.ref 78,.none,.ref 79,.ref 80,.ref 81,.int 376 0,.int 30 0,.str "/claim/cut.py" 377]) #[]
def xT(P:UB):Obj:=.mk (.type "function") none (.func (.mk "_parse_varint" "_parse_varint" (aC (aj 8)) (aD (aj 8)) (aE (aj 8)) 3 [] .none .none .none (.str "cpy313.dis" 289) none (.ref 82) .none 0)) #[]
noncomputable def Ae(P:UB):Obj:=.mk (.type "tuple") none (.seq #[] 0) #[]
noncomputable def Af(P:UB):Obj:=.mk (.type "builtin_function_or_method") none (.fields #[.builtin "type.__prepare__",.type "type"]) #[]
noncomputable def Ag(P:UB):Obj:=.mk (.type "dict") none (.dict #[sE P "__module__" 388 (.str "cpy313.netrc" 379),sE P "__qualname__" 390 (.str "_netrclex" 389),sE P "__firstlineno__" 392 (.int 39 391),sE P "__init__" 400 (.ref 97),sE P "_read_char" 408 (.ref 104),sE P "get_token" 418 (.ref 111),sE P "push_token" 426 (.ref 118),sE P "__static_attributes__" 431 (.ref 119)] 8) #[]
noncomputable def Ah(P:UB):Obj:=.mk (.type "tuple") none (.seq #[] 0) #[]
noncomputable def Ai(P:UB):Obj:=.mk .none none (.fields #[.int 41 0,.int 4 0,.ref 96,.int 47 0,.int 4 0,.ref 103,.int 53 0,.int 4 0,.ref 110,.int 80 0,.int 4 0,.ref 117]) #[]
noncomputable def Aj(P:UB):Obj:=.mk (.type "code") none (.fields #[.str "_netrclex" 383,.str "_netrclex" 384,.str "/claim/cut.py" 385,.int 39 0,.int 0 0,.int 0 0,.int 0 0,.int 0 0,.ref 87,.bool false,.int 276 0,.ref 88,.none,.none,.none,.none,.int 386 0,.int 39 0,.str "/claim/cut.py" 387]) #[]
noncomputable def Ak(P:UB):Obj:=.mk (.type "frame") none .plain #[(some (.ref 89)),(some (.ref 3)),(some (.ref 86)),none,(some (.str "cpy313.netrc" 379)),none,(some (.ref 0))]
noncomputable def xU(P:UB):Obj:=.mk (.type "tuple") none (.seq #[] 0) #[]
noncomputable def Al(P:UB):Obj:=.mk .none none (.fields #[]) #[]
noncomputable def xV(P:UB):Obj:=.mk (.type "tuple") none (.seq #[.str "self" 396,.str "fp" 397] 0) #[]
noncomputable def xW(P:UB):Obj:=.mk (.type "tuple") none (.seq #[] 0) #[]
def Am(P:UB):Obj:=.mk .none none (.func (.mk "__init__" "_netrclex.__init__" (aC (al 10 0)) (aD (al 10 0)) (aE (al 10 0)) 0 [] .none .none .none .none none .none .none 0)) #[]
noncomputable def xX(P:UB):Obj:=.mk (.type "code") none (.fields #[.str "__init__" 393,.str "_netrclex.__init__" 394,.str "/claim/cut.py" 395,.int 41 0,.int 2 0,.int 0 0,.int 0 0,.int 3 0,.ref 91,.bool true,.int 276 0,.ref 92,.none,.ref 93,.ref 94,.ref 95,.int 398 0,.int 41 0,.str "/claim/cut.py" 399]) #[]
def xY(P:UB):Obj:=.mk (.type "function") none (.func (.mk "__init__" "_netrclex.__init__" (aC (al 10 0)) (aD (al 10 0)) (aE (al 10 0)) 3 [] .none .none .none (.str "cpy313.netrc" 379) none (.ref 96) .none 0)) #[]
noncomputable def xZ(P:UB):Obj:=.mk (.type "tuple") none (.seq #[] 0) #[]
noncomputable def An(P:UB):Obj:=.mk .none none (.fields #[]) #[]
noncomputable def pJ(P:UB):Obj:=.mk (.type "tuple") none (.seq #[.str "self" 404,.str "ch" 405] 0) #[]
noncomputable def pK(P:UB):Obj:=.mk (.type "tuple") none (.seq #[] 0) #[]
def ta(P:UB):Obj:=.mk .none none (.func (.mk "_read_char" "_netrclex._read_char" (aC (al 10 1)) (aD (al 10 1)) (aE (al 10 1)) 0 [] .none .none .none .none none .none .none 0)) #[]
noncomputable def pL(P:UB):Obj:=.mk (.type "code") none (.fields #[.str "_read_char" 401,.str "_netrclex._read_char" 402,.str "/claim/cut.py" 403,.int 47 0,.int 1 0,.int 0 0,.int 0 0,.int 3 0,.ref 98,.bool true,.int 276 0,.ref 99,.none,.ref 100,.ref 101,.ref 102,.int 406 0,.int 47 0,.str "/claim/cut.py" 407]) #[]
def pM(P:UB):Obj:=.mk (.type "function") none (.func (.mk "_read_char" "_netrclex._read_char" (aC (al 10 1)) (aD (al 10 1)) (aE (al 10 1)) 3 [] .none .none .none (.str "cpy313.netrc" 379) none (.ref 103) .none 0)) #[]
noncomputable def pN(P:UB):Obj:=.mk (.type "tuple") none (.seq #[] 0) #[]
noncomputable def tc(P:UB):Obj:=.mk .none none (.fields #[]) #[]
noncomputable def pO(P:UB):Obj:=.mk (.type "tuple") none (.seq #[.str "self" 412,.str "token" 413,.str "fiter" 414,.str "ch" 415] 0) #[]
noncomputable def pP(P:UB):Obj:=.mk (.type "tuple") none (.seq #[] 0) #[]
def td(P:UB):Obj:=.mk .none none (.func (.mk "get_token" "_netrclex.get_token" (aC (al 10 2)) (aD (al 10 2)) (aE (al 10 2)) 0 [] .none .none .none .none none .none .none 0)) #[]
noncomputable def pQ(P:UB):Obj:=.mk (.type "code") none (.fields #[.str "get_token" 409,.str "_netrclex.get_token" 410,.str "/claim/cut.py" 411,.int 53 0,.int 1 0,.int 0 0,.int 0 0,.int 3 0,.ref 105,.bool true,.int 276 0,.ref 106,.none,.ref 107,.ref 108,.ref 109,.int 416 0,.int 53 0,.str "/claim/cut.py" 417]) #[]
def pR(P:UB):Obj:=.mk (.type "function") none (.func (.mk "get_token" "_netrclex.get_token" (aC (al 10 2)) (aD (al 10 2)) (aE (al 10 2)) 3 [] .none .none .none (.str "cpy313.netrc" 379) none (.ref 110) .none 0)) #[]
noncomputable def pS(P:UB):Obj:=.mk (.type "tuple") none (.seq #[] 0) #[]
noncomputable def th(P:UB):Obj:=.mk .none none (.fields #[]) #[]
noncomputable def pT(P:UB):Obj:=.mk (.type "tuple") none (.seq #[.str "self" 422,.str "token" 423] 0) #[]
noncomputable def pU(P:UB):Obj:=.mk (.type "tuple") none (.seq #[] 0) #[]
def tl(P:UB):Obj:=.mk .none none (.func (.mk "push_token" "_netrclex.push_token" (aC (al 10 3)) (aD (al 10 3)) (aE (al 10 3)) 0 [] .none .none .none .none none .none .none 0)) #[]
noncomputable def pV(P:UB):Obj:=.mk (.type "code") none (.fields #[.str "push_token" 419,.str "_netrclex.push_token" 420,.str "/claim/cut.py" 421,.int 80 0,.int 2 0,.int 0 0,.int 0 0,.int 3 0,.ref 112,.bool true,.int 276 0,.ref 113,.none,.ref 114,.ref 115,.ref 116,.int 424 0,.int 80 0,.str "/claim/cut.py" 425]) #[]
def pW(P:UB):Obj:=.mk (.type "function") none (.func (.mk "push_token" "_netrclex.push_token" (aC (al 10 3)) (aD (al 10 3)) (aE (al 10 3)) 3 [] .none .none .none (.str "cpy313.netrc" 379) none (.ref 117) .none 0)) #[]
noncomputable def pX(P:UB):Obj:=.mk (.type "tuple") none (.seq #[.str "instream" 427,.str "lineno" 428,.str "pushback" 429,.str "whitespace" 430] 0) #[]
noncomputable def pY(P:UB):Obj:=.mk (.type "dict") none (.dict #[sE P "__module__" 388 (.str "cpy313.netrc" 379),sE P "__firstlineno__" 392 (.int 39 391),sE P "__init__" 400 (.ref 97),sE P "_read_char" 408 (.ref 104),sE P "get_token" 418 (.ref 111),sE P "push_token" 426 (.ref 118),sE P "__static_attributes__" 431 (.ref 119),sE P "__dict__" 433 (.ref 122),sE P "__weakref__" 435 (.ref 123),sE P "__doc__" 436 .none] 4) #[]
noncomputable def pZ(P:UB):Obj:=.mk (.type "type") none (.cls (.mk "_netrclex" [.type "object"] [.ref 121,.type "object"] 120 "_netrclex" true [] [] false none false)) #[none,none,(some (.str "_netrclex" 381)),(some (.str "_netrclex" 389)),(some (.builtin "object.__new__")),(some (.bool true))]
noncomputable def p6(P:UB):Obj:=.mk (.type "getset_descriptor") none (.fields #[.str "__dict__" 432,.ref 121,.builtin "function.__dict__",.builtin "function.__dict__#set"]) #[]
noncomputable def p7(P:UB):Obj:=.mk (.type "getset_descriptor") none (.fields #[.str "__weakref__" 434,.ref 121,.builtin "ExceptionGroup.__weakref__",.none]) #[]
noncomputable def tm(P:UB):Obj:=.mk (.type "super") none (.fields #[.ref 121,.ref 121,.ref 121]) #[]
noncomputable def tn(P:UB):Obj:=.mk (.type "builtin_function_or_method") none (.fields #[.builtin "object.__init_subclass__",.ref 121]) #[]
noncomputable def Th(P:UB):Obj:=.mk (.type "dict") none (.dict #[sE P "__name__" 165 (.str "cpy313.token" 439),sE P "__doc__" 166 .none,sE P "__package__" 167 .none,sE P "__loader__" 168 (.builtin "__main__.__loader__#opaque"),sE P "__spec__" 169 .none,sE P "__annotations__" 170 (.ref 6),sE P "__builtins__" 171 (.ref 4),sE P "__file__" 173 (.str "/claim/cut.py" 172),sE P "__cached__" 174 .none,sE P "_sre" 275 (.ref 12),sE P "_wall" 288 (.ref 38),sE P "COMPILER_FLAG_NAMES" 321 (.ref 39),sE P "pretty_flags" 331 (.ref 46),sE P "_Unknown" 358 (.ref 63),sE P "UNKNOWN" 359 (.ref 69),sE P "_get_name_info" 369 (.ref 76),sE P "_parse_varint" 378 (.ref 83),sE P "_netrclex" 438 (.ref 121),sE P "ENDMARKER" 442 (.int 0 441),sE P "LPAR" 444 (.int 7 443),sE P "RPAR" 446 (.int 8 445),sE P "LSQB" 448 (.int 9 447),sE P "RSQB" 450 (.int 10 449),sE P "COLON" 452 (.int 11 451),sE P "COMMA" 454 (.int 12 453),sE P "SEMI" 456 (.int 13 455),sE P "PLUS" 458 (.int 14 457),sE P "MINUS" 460 (.int 15 459),sE P "STAR" 462 (.int 16 461),sE P "SLASH" 464 (.int 17 463),sE P "VBAR" 466 (.int 18 465),sE P "AMPER" 468 (.int 19 467),sE P "LESS" 470 (.int 20 469),sE P "GREATER" 472 (.int 21 471),sE P "EQUAL" 474 (.int 22 473),sE P "DOT" 476 (.int 23 475),sE P "PERCENT" 478 (.int 24 477),sE P "LBRACE" 480 (.int 25 479),sE P "RBRACE" 482 (.int 26 481),sE P "EQEQUAL" 484 (.int 27 483),sE P "NOTEQUAL" 486 (.int 28 485),sE P "LESSEQUAL" 488 (.int 29 487),sE P "GREATEREQUAL" 490 (.int 30 489),sE P "TILDE" 492 (.int 31 491),sE P "CIRCUMFLEX" 494 (.int 32 493),sE P "LEFTSHIFT" 496 (.int 33 495),sE P "RIGHTSHIFT" 498 (.int 34 497),sE P "DOUBLESTAR" 500 (.int 35 499),sE P "PLUSEQUAL" 502 (.int 36 501),sE P "MINEQUAL" 504 (.int 37 503),sE P "STAREQUAL" 506 (.int 38 505),sE P "SLASHEQUAL" 508 (.int 39 507),sE P "PERCENTEQUAL" 510 (.int 40 509),sE P "AMPEREQUAL" 512 (.int 41 511),sE P "VBAREQUAL" 514 (.int 42 513),sE P "CIRCUMFLEXEQUAL" 516 (.int 43 515),sE P "LEFTSHIFTEQUAL" 518 (.int 44 517),sE P "RIGHTSHIFTEQUAL" 520 (.int 45 519),sE P "DOUBLESTAREQUAL" 522 (.int 46 521),sE P "DOUBLESLASH" 524 (.int 47 523),sE P "DOUBLESLASHEQUAL" 526 (.int 48 525),sE P "AT" 528 (.int 49 527),sE P "ATEQUAL" 530 (.int 50 529),sE P "RARROW" 532 (.int 51 531),sE P "ELLIPSIS" 534 (.int 52 533),sE P "COLONEQUAL" 536 (.int 53 535),sE P "EXCLAMATION" 538 (.int 54 537),sE P "NT_OFFSET" 540 (.int 256 539)] 68) #[]
noncomputable def Ti(P:UB):Obj:=.mk (.type "dict") none (.dict #[sE P "__name__" 165 (.str "cpy313.token" 439),sE P "__doc__" 166 .none,sE P "__package__" 167 .none,sE P "__loader__" 168 (.builtin "__main__.__loader__#opaque"),sE P "__spec__" 169 .none,sE P "__annotations__" 170 (.ref 6),sE P "__builtins__" 171 (.ref 4),sE P "__file__" 173 (.str "/claim/cut.py" 172),sE P "__cached__" 174 .none,sE P "_sre" 275 (.ref 12),sE P "_wall" 288 (.ref 38),sE P "COMPILER_FLAG_NAMES" 321 (.ref 39),sE P "pretty_flags" 331 (.ref 46),sE P "_Unknown" 358 (.ref 63),sE P "UNKNOWN" 359 (.ref 69),sE P "_get_name_info" 369 (.ref 76),sE P "_parse_varint" 378 (.ref 83),sE P "_netrclex" 438 (.ref 121),sE P "ENDMARKER" 442 (.int 0 441),sE P "LPAR" 444 (.int 7 443),sE P "RPAR" 446 (.int 8 445),sE P "LSQB" 448 (.int 9 447),sE P "RSQB" 450 (.int 10 449),sE P "COLON" 452 (.int 11 451),sE P "COMMA" 454 (.int 12 453),sE P "SEMI" 456 (.int 13 455),sE P "PLUS" 458 (.int 14 457),sE P "MINUS" 460 (.int 15 459),sE P "STAR" 462 (.int 16 461),sE P "SLASH" 464 (.int 17 463),sE P "VBAR" 466 (.int 18 465),sE P "AMPER" 468 (.int 19 467),sE P "LESS" 470 (.int 20 469),sE P "GREATER" 472 (.int 21 471),sE P "EQUAL" 474 (.int 22 473),sE P "DOT" 476 (.int 23 475),sE P "PERCENT" 478 (.int 24 477),sE P "LBRACE" 480 (.int 25 479),sE P "RBRACE" 482 (.int 26 481),sE P "EQEQUAL" 484 (.int 27 483),sE P "NOTEQUAL" 486 (.int 28 485),sE P "LESSEQUAL" 488 (.int 29 487),sE P "GREATEREQUAL" 490 (.int 30 489),sE P "TILDE" 492 (.int 31 491),sE P "CIRCUMFLEX" 494 (.int 32 493),sE P "LEFTSHIFT" 496 (.int 33 495),sE P "RIGHTSHIFT" 498 (.int 34 497),sE P "DOUBLESTAR" 500 (.int 35 499),sE P "PLUSEQUAL" 502 (.int 36 501),sE P "MINEQUAL" 504 (.int 37 503),sE P "STAREQUAL" 506 (.int 38 505),sE P "SLASHEQUAL" 508 (.int 39 507),sE P "PERCENTEQUAL" 510 (.int 40 509),sE P "AMPEREQUAL" 512 (.int 41 511),sE P "VBAREQUAL" 514 (.int 42 513),sE P "CIRCUMFLEXEQUAL" 516 (.int 43 515),sE P "LEFTSHIFTEQUAL" 518 (.int 44 517),sE P "RIGHTSHIFTEQUAL" 520 (.int 45 519),sE P "DOUBLESTAREQUAL" 522 (.int 46 521),sE P "DOUBLESLASH" 524 (.int 47 523),sE P "DOUBLESLASHEQUAL" 526 (.int 48 525),sE P "AT" 528 (.int 49 527),sE P "ATEQUAL" 530 (.int 50 529),sE P "RARROW" 532 (.int 51 531),sE P "ELLIPSIS" 534 (.int 52 533),sE P "COLONEQUAL" 536 (.int 53 535),sE P "EXCLAMATION" 538 (.int 54 537),sE P "NT_OFFSET" 540 (.int 256 539),sE P "EXACT_TOKEN_TYPES" 637 (.ref 126)] 69) #[]
noncomputable def xk(P:UB):Obj:=.mk (.type "dict") none (.dict #[sE P "!" 541 (.int 54 537),sE P "!=" 543 (.int 28 485),sE P "%" 545 (.int 24 477),sE P "%=" 547 (.int 40 509),sE P "&" 549 (.int 19 467),sE P "&=" 551 (.int 41 511),sE P "(" 553 (.int 7 443),sE P ")" 555 (.int 8 445),sE P "*" 557 (.int 16 461),sE P "**" 559 (.int 35 499),sE P "**=" 561 (.int 46 521),sE P "*=" 563 (.int 38 505),sE P "+" 565 (.int 14 457),sE P "+=" 567 (.int 36 501),sE P "," 569 (.int 12 453),sE P "-" 571 (.int 15 459),sE P "-=" 573 (.int 37 503),sE P "->" 575 (.int 51 531),sE P "." 577 (.int 23 475),sE P "..." 579 (.int 52 533),sE P "/" 581 (.int 17 463),sE P "//" 583 (.int 47 523),sE P "//=" 585 (.int 48 525),sE P "/=" 587 (.int 39 507),sE P ":" 589 (.int 11 451),sE P ":=" 591 (.int 53 535),sE P ";" 593 (.int 13 455),sE P "<" 595 (.int 20 469),sE P "<<" 597 (.int 33 495),sE P "<<=" 599 (.int 44 517),sE P "<=" 601 (.int 29 487),sE P "=" 603 (.int 22 473),sE P "==" 605 (.int 27 483),sE P ">" 607 (.int 21 471),sE P ">=" 609 (.int 30 489),sE P ">>" 610 (.int 34 497),sE P ">>=" 611 (.int 45 519),sE P "@" 612 (.int 49 527),sE P "@=" 613 (.int 50 529),sE P "[" 614 (.int 9 447),sE P "]" 615 (.int 10 449),sE P "^" 616 (.int 32 493),sE P "^=" 617 (.int 43 515),sE P "{" 618 (.int 25 479),sE P "|" 619 (.int 18 465),sE P "|=" 620 (.int 42 513),sE P "}" 621 (.int 26 481),sE P "~" 622 (.int 31 491)] 48) #[]
noncomputable def B4(P:UB):Obj:=.mk (.type "dict") none (.dict #[sE P "->" 575 (.int 51 531),sE P "." 577 (.int 23 475),sE P "..." 579 (.int 52 533),sE P "/" 581 (.int 17 463),sE P "//" 583 (.int 47 523),sE P "//=" 585 (.int 48 525),sE P "/=" 587 (.int 39 507),sE P ":" 589 (.int 11 451),sE P ":=" 591 (.int 53 535),sE P ";" 593 (.int 13 455),sE P "<" 595 (.int 20 469),sE P "<<" 597 (.int 33 495),sE P "<<=" 599 (.int 44 517),sE P "<=" 601 (.int 29 487),sE P "=" 603 (.int 22 473),sE P "==" 605 (.int 27 483),sE P ">" 607 (.int 21 471)] 17) #[]
noncomputable def B5(P:UB):Obj:=.mk (.type "dict") none (.dict #[sE P ">=" 609 (.int 30 489),sE P ">>" 610 (.int 34 497),sE P ">>=" 611 (.int 45 519),sE P "@" 612 (.int 49 527),sE P "@=" 613 (.int 50 529),sE P "[" 614 (.int 9 447),sE P "]" 615 (.int 10 449),sE P "^" 616 (.int 32 493),sE P "^=" 617 (.int 43 515),sE P "{" 618 (.int 25 479),sE P "|" 619 (.int 18 465),sE P "|=" 620 (.int 42 513),sE P "}" 621 (.int 26 481),sE P "~" 622 (.int 31 491)] 14) #[]
noncomputable def Tj(P:UB):Obj:=.mk (.type "dict") none (.dict #[sE P "__name__" 165 (.str "cpy313.wsgiref.headers" 659),sE P "__doc__" 166 .none,sE P "__package__" 167 .none,sE P "__loader__" 168 (.builtin "__main__.__loader__#opaque"),sE P "__spec__" 169 .none,sE P "__annotations__" 170 (.ref 6),sE P "__builtins__" 171 (.ref 4),sE P "__file__" 173 (.str "/claim/cut.py" 172),sE P "__cached__" 174 .none,sE P "_sre" 275 (.ref 12),sE P "_wall" 288 (.ref 38),sE P "COMPILER_FLAG_NAMES" 321 (.ref 39),sE P "pretty_flags" 331 (.ref 46),sE P "_Unknown" 358 (.ref 63),sE P "UNKNOWN" 359 (.ref 69),sE P "_get_name_info" 369 (.ref 76),sE P "_parse_varint" 378 (.ref 83),sE P "_netrclex" 438 (.ref 121),sE P "ENDMARKER" 442 (.int 0 441),sE P "LPAR" 444 (.int 7 443),sE P "RPAR" 446 (.int 8 445),sE P "LSQB" 448 (.int 9 447),sE P "RSQB" 450 (.int 10 449),sE P "COLON" 452 (.int 11 451),sE P "COMMA" 454 (.int 12 453),sE P "SEMI" 456 (.int 13 455),sE P "PLUS" 458 (.int 14 457),sE P "MINUS" 460 (.int 15 459),sE P "STAR" 462 (.int 16 461),sE P "SLASH" 464 (.int 17 463),sE P "VBAR" 466 (.int 18 465),sE P "AMPER" 468 (.int 19 467),sE P "LESS" 470 (.int 20 469),sE P "GREATER" 472 (.int 21 471),sE P "EQUAL" 474 (.int 22 473),sE P "DOT" 476 (.int 23 475),sE P "PERCENT" 478 (.int 24 477),sE P "LBRACE" 480 (.int 25 479),sE P "RBRACE" 482 (.int 26 481),sE P "EQEQUAL" 484 (.int 27 483),sE P "NOTEQUAL" 486 (.int 28 485),sE P "LESSEQUAL" 488 (.int 29 487),sE P "GREATEREQUAL" 490 (.int 30 489),sE P "TILDE" 492 (.int 31 491),sE P "CIRCUMFLEX" 494 (.int 32 493),sE P "LEFTSHIFT" 496 (.int 33 495),sE P "RIGHTSHIFT" 498 (.int 34 497),sE P "DOUBLESTAR" 500 (.int 35 499),sE P "PLUSEQUAL" 502 (.int 36 501),sE P "MINEQUAL" 504 (.int 37 503),sE P "STAREQUAL" 506 (.int 38 505),sE P "SLASHEQUAL" 508 (.int 39 507),sE P "PERCENTEQUAL" 510 (.int 40 509),sE P "AMPEREQUAL" 512 (.int 41 511),sE P "VBAREQUAL" 514 (.int 42 513),sE P "CIRCUMFLEXEQUAL" 516 (.int 43 515),sE P "LEFTSHIFTEQUAL" 518 (.int 44 517),sE P "RIGHTSHIFTEQUAL" 520 (.int 45 519),sE P "DOUBLESTAREQUAL" 522 (.int 46 521),sE P "DOUBLESLASH" 524 (.int 47 523),sE P "DOUBLESLASHEQUAL" 526 (.int 48 525),sE P "AT" 528 (.int 49 527),sE P "ATEQUAL" 530 (.int 50 529),sE P "RARROW" 532 (.int 51 531),sE P "ELLIPSIS" 534 (.int 52 533),sE P "COLONEQUAL" 536 (.int 53 535),sE P "EXCLAMATION" 538 (.int 54 537),sE P "NT_OFFSET" 540 (.int 256 539),sE P "EXACT_TOKEN_TYPES" 637 (.ref 126),sE P "ISTERMINAL" 644 (.ref 135),sE P "ISNONTERMINAL" 651 (.ref 142),sE P "ISEOF" 658 (.ref 149),sE P "_name_disallowed_re" 686 (.ref 154),sE P "_value_disallowed_re" 720 (.ref 159)] 74) #[]
noncomputable def Qz(P:UB):Obj:=.mk .none none (.fields #[.int 2 0,.int 0 0,.ref 37,.int 7 0,.int 0 0,.ref 45,.int 19 0,.int 0 0,.ref 52,.int 24 0,.int 0 0,.ref 75,.int 30 0,.int 0 0,.ref 82,.int 39 0,.int 0 0,.ref 89,.int 134 0,.int 0 0,.ref 134,.int 136 0,.int 0 0,.ref 141,.int 138 0,.int 0 0,.ref 148]) #[]
noncomputable def B6(P:UB):Obj:=.mk (.type "tuple") none (.seq #[] 0) #[]
noncomputable def Gn(P:UB):Obj:=.mk .none none (.fields #[]) #[]
noncomputable def B7(P:UB):Obj:=.mk (.type "tuple") none (.seq #[.str "x" 641] 0) #[]
noncomputable def B8(P:UB):Obj:=.mk (.type "tuple") none (.seq #[] 0) #[]
def Go(P:UB):Obj:=.mk .none none (.func (.mk "ISTERMINAL" "ISTERMINAL" (aC (aj 63)) (aD (aj 63)) (aE (aj 64)) 0 [] .none .none .none .none none .none .none 0)) #[]
noncomputable def B9(P:UB):Obj:=.mk (.type "code") none (.fields #[.str "ISTERMINAL" 638,.str "ISTERMINAL" 639,.str "/claim/cut.py" 640,.int 134 0,.int 1 0,.int 0 0,.int 0 0,.int 3 0,.ref 129,.bool true,.int 276 0,.ref 130,.none,.ref 131,.ref 132,.ref 133,.int 642 0,.int 134 0,.str "/claim/cut.py" 643]) #[]
def Ca(P:UB):Obj:=.mk (.type "function") none (.func (.mk "ISTERMINAL" "ISTERMINAL" (aC (aj 63)) (aD (aj 63)) (aE (aj 64)) 3 [] .none .none .none (.str "cpy313.token" 439) none (.ref 134) .none 0)) #[]
noncomputable def Cb(P:UB):Obj:=.mk (.type "tuple") none (.seq #[] 0) #[]
noncomputable def Gp(P:UB):Obj:=.mk .none none (.fields #[]) #[]
noncomputable def Cc(P:UB):Obj:=.mk (.type "tuple") none (.seq #[.str "x" 648] 0) #[]
noncomputable def Ce(P:UB):Obj:=.mk (.type "tuple") none (.seq #[] 0) #[]
def Gq(P:UB):Obj:=.mk .none none (.func (.mk "ISNONTERMINAL" "ISNONTERMINAL" (aC (aj 64)) (aD (aj 64)) (aE (aj 64)) 0 [] .none .none .none .none none .none .none 0)) #[]
noncomputable def Cf(P:UB):Obj:=.mk (.type "code") none (.fields #[.str "ISNONTERMINAL" 645,.str "ISNONTERMINAL" 646,.str "/claim/cut.py" 647,.int 136 0,.int 1 0,.int 0 0,.int 0 0,.int 3 0,.ref 136,.bool true,.int 276 0,.ref 137,.none,.ref 138,.ref 139,.ref 140,.int 649 0,.int 136 0,.str "/claim/cut.py" 650]) #[]
def Cg(P:UB):Obj:=.mk (.type "function") none (.func (.mk "ISNONTERMINAL" "ISNONTERMINAL" (aC (aj 64)) (aD (aj 64)) (aE (aj 64)) 3 [] .none .none .none (.str "cpy313.token" 439) none (.ref 141) .none 0)) #[]
noncomputable def Ch(P:UB):Obj:=.mk (.type "tuple") none (.seq #[] 0) #[]
noncomputable def Gr(P:UB):Obj:=.mk .none none (.fields #[]) #[]
noncomputable def Ci(P:UB):Obj:=.mk (.type "tuple") none (.seq #[.str "x" 655] 0) #[]
noncomputable def Cj(P:UB):Obj:=.mk (.type "tuple") none (.seq #[] 0) #[]
def Gs(P:UB):Obj:=.mk .none none (.func (.mk "ISEOF" "ISEOF" (aC (aj 65)) (aD (aj 65)) (aE (aj 65)) 0 [] .none .none .none .none none .none .none 0)) #[]
noncomputable def Ck(P:UB):Obj:=.mk (.type "code") none (.fields #[.str "ISEOF" 652,.str "ISEOF" 653,.str "/claim/cut.py" 654,.int 138 0,.int 1 0,.int 0 0,.int 0 0,.int 3 0,.ref 143,.bool true,.int 276 0,.ref 144,.none,.ref 145,.ref 146,.ref 147,.int 656 0,.int 138 0,.str "/claim/cut.py" 657]) #[]
def Cl(P:UB):Obj:=.mk (.type "function") none (.func (.mk "ISEOF" "ISEOF" (aC (aj 65)) (aD (aj 65)) (aE (aj 65)) 3 [] .none .none .none (.str "cpy313.token" 439) none (.ref 148) .none 0)) #[]
noncomputable def Gu(P:UB):Obj:=.mk (.type "list") none (.seq #[.int 14 664,.int 10 665,.int 4 666,.int 1 667,.int 1 668,.int 22 669,.int 0 670,.int 31 671,.int 16 672,.int 127 673,.int 0 674,.int 13 675,.int 7 676,.int 22 677,.int 0 678,.int 31 679,.int 16 680,.int 127 681,.int 0 682,.int 1 683] 0) #[]
noncomputable def Gv(P:UB):Obj:=.mk (.type "dict") none (.dict #[] 0) #[]
noncomputable def Gw(P:UB):Obj:=.mk (.type "tuple") none (.seq #[.none] 0) #[]
noncomputable def xl(P:UB):Obj:=.mk (.type "tuple") none (.seq #[.int 14 0,.int 10 0,.int 4 0,.int 1 0,.int 1 0,.int 22 0,.int 0 0,.int 31 0,.int 16 0,.int 127 0,.int 0 0,.int 13 0,.int 7 0,.int 22 0,.int 0 0,.int 31 0,.int 16 0,.int 127 0,.int 0 0,.int 1 0] 0) #[]
noncomputable def tp(P:UB):Obj:=.mk (.type "re.Pattern") none (.fields #[(.str "[\\x00-\\x1F\\x7F]" 662),.int 32 685,.int 0 0,.none,.none,.ref 153,.int 0 0]) #[]
noncomputable def Gx(P:UB):Obj:=.mk (.type "list") none (.seq #[.int 14 690,.int 14 691,.int 4 692,.int 1 693,.int 1 694,.int 9 695,.int 4294966783 696,.int 0 697,.int 0 698,.int 2147483648 699,.int 0 700,.int 0 701,.int 0 702,.int 0 703,.int 0 704,.int 13 705,.int 11 706,.int 9 707,.int 4294966783 708,.int 0 709,.int 0 710,.int 2147483648 711,.int 0 712,.int 0 713,.int 0 714,.int 0 715,.int 0 716,.int 1 717] 0) #[]
noncomputable def Gy(P:UB):Obj:=.mk (.type "dict") none (.dict #[] 0) #[]
noncomputable def Gz(P:UB):Obj:=.mk (.type "tuple") none (.seq #[.none] 0) #[]
noncomputable def xm(P:UB):Obj:=.mk (.type "tuple") none (.seq #[.int 14 0,.int 14 0,.int 4 0,.int 1 0,.int 1 0,.int 9 0,.int 4294966783 0,.int 0 0,.int 0 0,.int 2147483648 0,.int 0 0,.int 0 0,.int 0 0,.int 0 0,.int 0 0,.int 13 0,.int 11 0,.int 9 0,.int 4294966783 0,.int 0 0,.int 0 0,.int 2147483648 0,.int 0 0,.int 0 0,.int 0 0,.int 0 0,.int 0 0,.int 1 0] 0) #[]
noncomputable def tq(P:UB):Obj:=.mk (.type "re.Pattern") none (.fields #[(.str "[\\x00-\\x08\\x0A-\\x1F\\x7F]" 688),.int 32 719,.int 0 0,.none,.none,.ref 158,.int 0 0]) #[]
noncomputable def Tk(P:UB):Obj:=.mk (.type "dict") none (.dict #[sE P "__name__" 165 (.str "cpy313.wsgiref.headers" 659),sE P "__doc__" 166 .none,sE P "__package__" 167 .none,sE P "__loader__" 168 (.builtin "__main__.__loader__#opaque"),sE P "__spec__" 169 .none,sE P "__annotations__" 170 (.ref 6),sE P "__builtins__" 171 (.ref 4),sE P "__file__" 173 (.str "/claim/cut.py" 172),sE P "__cached__" 174 .none,sE P "_sre" 275 (.ref 12),sE P "_wall" 288 (.ref 38),sE P "COMPILER_FLAG_NAMES" 321 (.ref 39),sE P "pretty_flags" 331 (.ref 46),sE P "_Unknown" 358 (.ref 63),sE P "UNKNOWN" 359 (.ref 69),sE P "_get_name_info" 369 (.ref 76),sE P "_parse_varint" 378 (.ref 83),sE P "_netrclex" 438 (.ref 121),sE P "ENDMARKER" 442 (.int 0 441),sE P "LPAR" 444 (.int 7 443),sE P "RPAR" 446 (.int 8 445),sE P "LSQB" 448 (.int 9 447),sE P "RSQB" 450 (.int 10 449),sE P "COLON" 452 (.int 11 451),sE P "COMMA" 454 (.int 12 453),sE P "SEMI" 456 (.int 13 455),sE P "PLUS" 458 (.int 14 457),sE P "MINUS" 460 (.int 15 459),sE P "STAR" 462 (.int 16 461),sE P "SLASH" 464 (.int 17 463),sE P "VBAR" 466 (.int 18 465),sE P "AMPER" 468 (.int 19 467),sE P "LESS" 470 (.int 20 469),sE P "GREATER" 472 (.int 21 471),sE P "EQUAL" 474 (.int 22 473),sE P "DOT" 476 (.int 23 475),sE P "PERCENT" 478 (.int 24 477),sE P "LBRACE" 480 (.int 25 479),sE P "RBRACE" 482 (.int 26 481),sE P "EQEQUAL" 484 (.int 27 483),sE P "NOTEQUAL" 486 (.int 28 485),sE P "LESSEQUAL" 488 (.int 29 487),sE P "GREATEREQUAL" 490 (.int 30 489),sE P "TILDE" 492 (.int 31 491),sE P "CIRCUMFLEX" 494 (.int 32 493),sE P "LEFTSHIFT" 496 (.int 33 495),sE P "RIGHTSHIFT" 498 (.int 34 497),sE P "DOUBLESTAR" 500 (.int 35 499),sE P "PLUSEQUAL" 502 (.int 36 501),sE P "MINEQUAL" 504 (.int 37 503),sE P "STAREQUAL" 506 (.int 38 505),sE P "SLASHEQUAL" 508 (.int 39 507),sE P "PERCENTEQUAL" 510 (.int 40 509),sE P "AMPEREQUAL" 512 (.int 41 511),sE P "VBAREQUAL" 514 (.int 42 513),sE P "CIRCUMFLEXEQUAL" 516 (.int 43 515),sE P "LEFTSHIFTEQUAL" 518 (.int 44 517),sE P "RIGHTSHIFTEQUAL" 520 (.int 45 519),sE P "DOUBLESTAREQUAL" 522 (.int 46 521),sE P "DOUBLESLASH" 524 (.int 47 523),sE P "DOUBLESLASHEQUAL" 526 (.int 48 525),sE P "AT" 528 (.int 49 527),sE P "ATEQUAL" 530 (.int 50 529),sE P "RARROW" 532 (.int 51 531),sE P "ELLIPSIS" 534 (.int 52 533),sE P "COLONEQUAL" 536 (.int 53 535),sE P "EXCLAMATION" 538 (.int 54 537),sE P "NT_OFFSET" 540 (.int 256 539),sE P "EXACT_TOKEN_TYPES" 637 (.ref 126),sE P "ISTERMINAL" 644 (.ref 135),sE P "ISNONTERMINAL" 651 (.ref 142),sE P "ISEOF" 658 (.ref 149),sE P "_name_disallowed_re" 686 (.ref 154),sE P "_value_disallowed_re" 720 (.ref 159),sE P "Headers" 876 (.ref 282)] 75) #[]
noncomputable def QA(P:UB):Obj:=.mk .none none (.fields #[.int 2 0,.int 0 0,.ref 37,.int 7 0,.int 0 0,.ref 45,.int 19 0,.int 0 0,.ref 52,.int 24 0,.int 0 0,.ref 75,.int 30 0,.int 0 0,.ref 82,.int 39 0,.int 0 0,.ref 89,.int 134 0,.int 0 0,.ref 134,.int 136 0,.int 0 0,.ref 141,.int 138 0,.int 0 0,.ref 148,.int 143 0,.int 0 0,.ref 165]) #[]
noncomputable def M4(P:UB):Obj:=.mk (.type "tuple") none (.seq #[] 0) #[]
noncomputable def M5(P:UB):Obj:=.mk (.type "builtin_function_or_method") none (.fields #[.builtin "type.__prepare__",.type "type"]) #[]
noncomputable def M6(P:UB):Obj:=.mk (.type "dict") none (.dict #[sE P "__module__" 728 (.str "cpy313.wsgiref.headers" 659),sE P "__qualname__" 730 (.str "Headers" 729),sE P "__firstlineno__" 732 (.int 143 731),sE P "__init__" 742 (.ref 174),sE P "_convert_string_type" 752 (.ref 181),sE P "__len__" 759 (.ref 188),sE P "__setitem__" 768 (.ref 195),sE P "__delitem__" 774 (.ref 200),sE P "__getitem__" 782 (.ref 207),sE P "__contains__" 790 (.ref 214),sE P "get_all" 798 (.ref 221),sE P "get" 809 (.ref 229),sE P "keys" 815 (.ref 234),sE P "values" 821 (.ref 239),sE P "items" 828 (.ref 246),sE P "__repr__" 835 (.ref 253),sE P "__str__" 841 (.ref 258),sE P "__bytes__" 848 (.ref 265),sE P "setdefault" 857 (.ref 272),sE P "add_header" 867 (.ref 279),sE P "__static_attributes__" 869 (.ref 280)] 21) #[]
noncomputable def M7(P:UB):Obj:=.mk (.type "tuple") none (.seq #[] 0) #[]
noncomputable def M8(P:UB):Obj:=.mk .none none (.fields #[.int 145 0,.int 4 0,.ref 173,.int 155 0,.int 4 0,.ref 180,.int 163 0,.int 4 0,.ref 187,.int 166 0,.int 4 0,.ref 194,.int 170 0,.int 4 0,.ref 199,.int 174 0,.int 4 0,.ref 206,.int 177 0,.int 4 0,.ref 213,.int 180 0,.int 4 0,.ref 220,.int 183 0,.int 4 0,.ref 228,.int 190 0,.int 4 0,.ref 233,.int 193 0,.int 4 0,.ref 238,.int 196 0,.int 4 0,.ref 245,.int 199 0,.int 4 0,.ref 252,.int 202 0,.int 4 0,.ref 257,.int 205 0,.int 4 0,.ref 264,.int 208 0,.int 4 0,.ref 271,.int 211 0,.int 4 0,.ref 278]) #[]
noncomputable def M9(P:UB):Obj:=.mk (.type "code") none (.fields #[.str "Headers" 723,.str "Headers" 724,.str "/claim/cut.py" 725,.int 143 0,.int 0 0,.int 0 0,.int 0 0,.int 0 0,.ref 163,.bool false,.int 276 0,.ref 164,.none,.none,.none,.none,.int 726 0,.int 143 0,.str "/claim/cut.py" 727]) #[]
noncomputable def Na(P:UB):Obj:=.mk (.type "frame") none .plain #[(some (.ref 165)),(some (.ref 3)),(some (.ref 162)),none,(some (.str "cpy313.wsgiref.headers" 659)),none,(some (.ref 0))]
noncomputable def Cm(P:UB):Obj:=.mk (.type "tuple") none (.seq #[.none] 0) #[]
noncomputable def GA(P:UB):Obj:=.mk (.type "tuple") none (.seq #[] 0) #[]
noncomputable def Nb(P:UB):Obj:=.mk .none none (.fields #[]) #[]
noncomputable def GB(P:UB):Obj:=.mk (.type "tuple") none (.seq #[.str "self" 736,.str "headers" 737,.str "k" 738,.str "v" 739] 0) #[]
noncomputable def GC(P:UB):Obj:=.mk (.type "tuple") none (.seq #[] 0) #[]
def Nc(P:UB):Obj:=.mk .none none (.func (.mk "__init__" "Headers.__init__" (aC (al 69 0)) (aD (al 69 0)) (aE (al 69 0)) 0 [] .none .none .none .none none .none .none 0)) #[]
noncomputable def GD(P:UB):Obj:=.mk (.type "code") none (.fields #[.str "__init__" 733,.str "Headers.__init__" 734,.str "/claim/cut.py" 735,.int 145 0,.int 2 0,.int 0 0,.int 0 0,.int 3 0,.ref 168,.bool true,.int 276 0,.ref 169,.none,.ref 170,.ref 171,.ref 172,.int 740 0,.int 145 0,.str "/claim/cut.py" 741]) #[]
def GE(P:UB):Obj:=.mk (.type "function") none (.func (.mk "__init__" "Headers.__init__" (aC (al 69 0)) (aD (al 69 0)) (aE (al 69 0)) 3 [] (.ref 167) .none .none (.str "cpy313.wsgiref.headers" 659) none (.ref 173) .none 0)) #[]
noncomputable def GF(P:UB):Obj:=.mk (.type "tuple") none (.seq #[] 0) #[]
noncomputable def Nd(P:UB):Obj:=.mk .none none (.fields #[]) #[]
noncomputable def GG(P:UB):Obj:=.mk (.type "tuple") none (.seq #[.str "self" 746,.str "value" 747,.str "name" 748,.str "regex" 749] 0) #[]
noncomputable def GH(P:UB):Obj:=.mk (.type "tuple") none (.seq #[] 0) #[]
def Nf(P:UB):Obj:=.mk .none none (.func (.mk "_convert_string_type" "Headers._convert_string_type" (aC (al 69 1)) (aD (al 69 1)) (aE (al 69 1)) 0 [] .none .none .none .none none .none .none 0)) #[]
noncomputable def GI(P:UB):Obj:=.mk (.type "code") none (.fields #[.str "_convert_string_type" 743,.str "Headers._convert_string_type" 744,.str "/claim/cut.py" 745,.int 155 0,.int 2 0,.int 0 0,.int 1 0,.int 3 0,.ref 175,.bool true,.int 276 0,.ref 176,.none,.ref 177,.ref 178,.ref 179,.int 750 0,.int 155 0,.str "/claim/cut.py" 751]) #[]
def GJ(P:UB):Obj:=.mk (.type "function") none (.func (.mk "_convert_string_type" "Headers._convert_string_type" (aC (al 69 1)) (aD (al 69 1)) (aE (al 69 1)) 3 [] .none .none .none (.str "cpy313.wsgiref.headers" 659) none (.ref 180) .none 0)) #[]
noncomputable def GK(P:UB):Obj:=.mk (.type "tuple") none (.seq #[] 0) #[]
noncomputable def Ng(P:UB):Obj:=.mk .none none (.fields #[]) #[]
noncomputable def GL(P:UB):Obj:=.mk (.type "tuple") none (.seq #[.str "self" 756] 0) #[]
noncomputable def GM(P:UB):Obj:=.mk (.type "tuple") none (.seq #[] 0) #[]
def Nh(P:UB):Obj:=.mk .none none (.func (.mk "__len__" "Headers.__len__" (aC (al 69 2)) (aD (al 69 2)) (aE (al 69 2)) 0 [] .none .none .none .none none .none .none 0)) #[]
noncomputable def GN(P:UB):Obj:=.mk (.type "code") none (.fields #[.str "__len__" 753,.str "Headers.__len__" 754,.str "/claim/cut.py" 755,.int 163 0,.int 1 0,.int 0 0,.int 0 0,.int 3 0,.ref 182,.bool true,.int 276 0,.ref 183,.none,.ref 184,.ref 185,.ref 186,.int 757 0,.int 163 0,.str "/claim/cut.py" 758]) #[]
def GO(P:UB):Obj:=.mk (.type "function") none (.func (.mk "__len__" "Headers.__len__" (aC (al 69 2)) (aD (al 69 2)) (aE (al 69 2)) 3 [] .none .none .none (.str "cpy313.wsgiref.headers" 659) none (.ref 187) .none 0)) #[]
noncomputable def GP(P:UB):Obj:=.mk (.type "tuple") none (.seq #[] 0) #[]
noncomputable def Ni(P:UB):Obj:=.mk .none none (.fields #[]) #[]
noncomputable def GQ(P:UB):Obj:=.mk (.type "tuple") none (.seq #[.str "self" 763,.str "name" 764,.str "val" 765] 0) #[]
noncomputable def GR(P:UB):Obj:=.mk (.type "tuple") none (.seq #[] 0) #[]
def Nj(P:UB):Obj:=.mk .none none (.func (.mk "__setitem__" "Headers.__setitem__" (aC (al 69 3)) (aD (al 69 3)) (aE (al 69 3)) 0 [] .none .none .none .none none .none .none 0)) #[]
noncomputable def GS(P:UB):Obj:=.mk (.type "code") none (.fields #[.str "__setitem__" 760,.str "Headers.__setitem__" 761,.str "/claim/cut.py" 762,.int 166 0,.int 3 0,.int 0 0,.int 0 0,.int 3 0,.ref 189,.bool true,.int 276 0,.ref 190,.none,.ref 191,.ref 192,.ref 193,.int 766 0,.int 166 0,.str "/claim/cut.py" 767]) #[]
def GT(P:UB):Obj:=.mk (.type "function") none (.func (.mk "__setitem__" "Headers.__setitem__" (aC (al 69 3)) (aD (al 69 3)) (aE (al 69 3)) 3 [] .none .none .none (.str "cpy313.wsgiref.headers" 659) none (.ref 194) .none 0)) #[]
noncomputable def GU(P:UB):Obj:=.mk (.type "tuple") none (.seq #[] 0) #[]
noncomputable def Nk(P:UB):Obj:=.mk .none none (.fields #[]) #[]
def Nl(P:UB):Obj:=.mk .none none (.func (.mk "__delitem__" "Headers.__delitem__" (aC (al 69 4)) (aD (al 69 4)) (aE (al 69 4)) 0 [] .none .none .none .none none .none .none 0)) #[]
noncomputable def GV(P:UB):Obj:=.mk (.type "code") none (.fields #[.str "__delitem__" 769,.str "Headers.__delitem__" 770,.str "/claim/cut.py" 771,.int 170 0,.int 2 0,.int 0 0,.int 0 0,.int 3 0,.ref 196,.bool true,.int 276 0,.ref 197,.none,.none,.none,.ref 198,.int 772 0,.int 170 0,.str "/claim/cut.py" 773]) #[]
def GW(P:UB):Obj:=.mk (.type "function") none (.func (.mk "__delitem__" "Headers.__delitem__" (aC (al 69 4)) (aD (al 69 4)) (aE (al 69 4)) 3 [] .none .none .none (.str "cpy313.wsgiref.headers" 659) none (.ref 199) .none 0)) #[]
noncomputable def GX(P:UB):Obj:=.mk (.type "tuple") none (.seq #[] 0) #[]
noncomputable def Nn(P:UB):Obj:=.mk .none none (.fields #[]) #[]
noncomputable def GY(P:UB):Obj:=.mk (.type "tuple") none (.seq #[.str "self" 778,.str "name" 779] 0) #[]
noncomputable def GZ(P:UB):Obj:=.mk (.type "tuple") none (.seq #[] 0) #[]
def No(P:UB):Obj:=.mk .none none (.func (.mk "__getitem__" "Headers.__getitem__" (aC (al 69 5)) (aD (al 69 5)) (aE (al 69 6)) 0 [] .none .none .none .none none .none .none 0)) #[]
noncomputable def G0(P:UB):Obj:=.mk (.type "code") none (.fields #[.str "__getitem__" 775,.str "Headers.__getitem__" 776,.str "/claim/cut.py" 777,.int 174 0,.int 2 0,.int 0 0,.int 0 0,.int 3 0,.ref 201,.bool true,.int 276 0,.ref 202,.none,.ref 203,.ref 204,.ref 205,.int 780 0,.int 174 0,.str "/claim/cut.py" 781]) #[]
def G1(P:UB):Obj:=.mk (.type "function") none (.func (.mk "__getitem__" "Headers.__getitem__" (aC (al 69 5)) (aD (al 69 5)) (aE (al 69 6)) 3 [] .none .none .none (.str "cpy313.wsgiref.headers" 659) none (.ref 206) .none 0)) #[]
noncomputable def G2(P:UB):Obj:=.mk (.type "tuple") none (.seq #[] 0) #[]
noncomputable def Np(P:UB):Obj:=.mk .none none (.fields #[]) #[]
noncomputable def G3(P:UB):Obj:=.mk (.type "tuple") none (.seq #[.str "self" 786,.str "name" 787] 0) #[]
noncomputable def G4(P:UB):Obj:=.mk (.type "tuple") none (.seq #[] 0) #[]
def Nq(P:UB):Obj:=.mk .none none (.func (.mk "__contains__" "Headers.__contains__" (aC (al 69 6)) (aD (al 69 6)) (aE (al 69 6)) 0 [] .none .none .none .none none .none .none 0)) #[]
noncomputable def G5(P:UB):Obj:=.mk (.type "code") none (.fields #[.str "__contains__" 783,.str "Headers.__contains__" 784,.str "/claim/cut.py" 785,.int 177 0,.int 2 0,.int 0 0,.int 0 0,.int 3 0,.ref 208,.bool true,.int 276 0,.ref 209,.none,.ref 210,.ref 211,.ref 212,.int 788 0,.int 177 0,.str "/claim/cut.py" 789]) #[]
def G6(P:UB):Obj:=.mk (.type "function") none (.func (.mk "__contains__" "Headers.__contains__" (aC (al 69 6)) (aD (al 69 6)) (aE (al 69 6)) 3 [] .none .none .none (.str "cpy313.wsgiref.headers" 659) none (.ref 213) .none 0)) #[]
noncomputable def G7(P:UB):Obj:=.mk (.type "tuple") none (.seq #[] 0) #[]
noncomputable def Nr(P:UB):Obj:=.mk .none none (.fields #[]) #[]
noncomputable def G8(P:UB):Obj:=.mk (.type "tuple") none (.seq #[.str "self" 794,.str "name" 795] 0) #[]
noncomputable def G9(P:UB):Obj:=.mk (.type "tuple") none (.seq #[] 0) #[]
def Nt(P:UB):Obj:=.mk .none none (.func (.mk "get_all" "Headers.get_all" (aC (al 69 7)) (aD (al 69 7)) (aE (al 69 7)) 0 [] .none .none .none .none none .none .none 0)) #[]
noncomputable def Hc(P:UB):Obj:=.mk (.type "code") none (.fields #[.str "get_all" 791,.str "Headers.get_all" 792,.str "/claim/cut.py" 793,.int 180 0,.int 2 0,.int 0 0,.int 0 0,.int 3 0,.ref 215,.bool true,.int 276 0,.ref 216,.none,.ref 217,.ref 218,.ref 219,.int 796 0,.int 180 0,.str "/claim/cut.py" 797]) #[]
def Hd(P:UB):Obj:=.mk (.type "function") none (.func (.mk "get_all" "Headers.get_all" (aC (al 69 7)) (aD (al 69 7)) (aE (al 69 7)) 3 [] .none .none .none (.str "cpy313.wsgiref.headers" 659) none (.ref 220) .none 0)) #[]
noncomputable def tr(P:UB):Obj:=.mk (.type "tuple") none (.seq #[.none] 0) #[]
noncomputable def He(P:UB):Obj:=.mk (.type "tuple") none (.seq #[] 0) #[]
noncomputable def Nu(P:UB):Obj:=.mk .none none (.fields #[]) #[]
noncomputable def Hf(P:UB):Obj:=.mk (.type "tuple") none (.seq #[.str "self" 802,.str "name" 803,.str "default" 804,.str "k" 805,.str "v" 806] 0) #[]
noncomputable def Hg(P:UB):Obj:=.mk (.type "tuple") none (.seq #[] 0) #[]
def Nv(P:UB):Obj:=.mk .none none (.func (.mk "get" "Headers.get" (aC (al 69 8)) (aD (al 69 8)) (aE (al 69 8)) 0 [] .none .none .none .none none .none .none 0)) #[]
noncomputable def Hh(P:UB):Obj:=.mk (.type "code") none (.fields #[.str "get" 799,.str "Headers.get" 800,.str "/claim/cut.py" 801,.int 183 0,.int 3 0,.int 0 0,.int 0 0,.int 3 0,.ref 223,.bool true,.int 276 0,.ref 224,.none,.ref 225,.ref 226,.ref 227,.int 807 0,.int 183 0,.str "/claim/cut.py" 808]) #[]
def Hi(P:UB):Obj:=.mk (.type "function") none (.func (.mk "get" "Headers.get" (aC (al 69 8)) (aD (al 69 8)) (aE (al 69 8)) 3 [] (.ref 222) .none .none (.str "cpy313.wsgiref.headers" 659) none (.ref 228) .none 0)) #[]
noncomputable def Hj(P:UB):Obj:=.mk (.type "tuple") none (.seq #[] 0) #[]
noncomputable def Nw(P:UB):Obj:=.mk .none none (.fields #[]) #[]
def Nx(P:UB):Obj:=.mk .none none (.func (.mk "keys" "Headers.keys" (aC (al 69 9)) (aD (al 69 9)) (aE (al 69 10)) 0 [] .none .none .none .none none .none .none 0)) #[]
noncomputable def Hl(P:UB):Obj:=.mk (.type "code") none (.fields #[.str "keys" 810,.str "Headers.keys" 811,.str "/claim/cut.py" 812,.int 190 0,.int 1 0,.int 0 0,.int 0 0,.int 3 0,.ref 230,.bool true,.int 276 0,.ref 231,.none,.none,.none,.ref 232,.int 813 0,.int 190 0,.str "/claim/cut.py" 814]) #[]
def Hm(P:UB):Obj:=.mk (.type "function") none (.func (.mk "keys" "Headers.keys" (aC (al 69 9)) (aD (al 69 9)) (aE (al 69 10)) 3 [] .none .none .none (.str "cpy313.wsgiref.headers" 659) none (.ref 233) .none 0)) #[]
noncomputable def Hn(P:UB):Obj:=.mk (.type "tuple") none (.seq #[] 0) #[]
noncomputable def Ny(P:UB):Obj:=.mk .none none (.fields #[]) #[]
def Nz(P:UB):Obj:=.mk .none none (.func (.mk "values" "Headers.values" (aC (al 69 10)) (aD (al 69 10)) (aE (al 69 10)) 0 [] .none .none .none .none none .none .none 0)) #[]
noncomputable def Ho(P:UB):Obj:=.mk (.type "code") none (.fields #[.str "values" 816,.str "Headers.values" 817,.str "/claim/cut.py" 818,.int 193 0,.int 1 0,.int 0 0,.int 0 0,.int 3 0,.ref 235,.bool true,.int 276 0,.ref 236,.none,.none,.none,.ref 237,.int 819 0,.int 193 0,.str "/claim/cut.py" 820]) #[]
def Hp(P:UB):Obj:=.mk (.type "function") none (.func (.mk "values" "Headers.values" (aC (al 69 10)) (aD (al 69 10)) (aE (al 69 10)) 3 [] .none .none .none (.str "cpy313.wsgiref.headers" 659) none (.ref 238) .none 0)) #[]
noncomputable def Hq(P:UB):Obj:=.mk (.type "tuple") none (.seq #[] 0) #[]
noncomputable def NA(P:UB):Obj:=.mk .none none (.fields #[]) #[]
noncomputable def Hr(P:UB):Obj:=.mk (.type "tuple") none (.seq #[.str "self" 825] 0) #[]
noncomputable def Hs(P:UB):Obj:=.mk (.type "tuple") none (.seq #[] 0) #[]
def NB(P:UB):Obj:=.mk .none none (.func (.mk "items" "Headers.items" (aC (al 69 11)) (aD (al 69 11)) (aE (al 69 12)) 0 [] .none .none .none .none none .none .none 0)) #[]
noncomputable def Hu(P:UB):Obj:=.mk (.type "code") none (.fields #[.str "items" 822,.str "Headers.items" 823,.str "/claim/cut.py" 824,.int 196 0,.int 1 0,.int 0 0,.int 0 0,.int 3 0,.ref 240,.bool true,.int 276 0,.ref 241,.none,.ref 242,.ref 243,.ref 244,.int 826 0,.int 196 0,.str "/claim/cut.py" 827]) #[]
def Hv(P:UB):Obj:=.mk (.type "function") none (.func (.mk "items" "Headers.items" (aC (al 69 11)) (aD (al 69 11)) (aE (al 69 12)) 3 [] .none .none .none (.str "cpy313.wsgiref.headers" 659) none (.ref 245) .none 0)) #[]
noncomputable def Hw(P:UB):Obj:=.mk (.type "tuple") none (.seq #[] 0) #[]
noncomputable def NC(P:UB):Obj:=.mk .none none (.fields #[]) #[]
noncomputable def Hx(P:UB):Obj:=.mk (.type "tuple") none (.seq #[.str "self" 832] 0) #[]
noncomputable def Hy(P:UB):Obj:=.mk (.type "tuple") none (.seq #[] 0) #[]
def ND(P:UB):Obj:=.mk .none none (.func (.mk "__repr__" "Headers.__repr__" (aC (al 69 12)) (aD (al 69 12)) (aE (al 69 12)) 0 [] .none .none .none .none none .none .none 0)) #[]
noncomputable def Hz(P:UB):Obj:=.mk (.type "code") none (.fields #[.str "__repr__" 829,.str "Headers.__repr__" 830,.str "/claim/cut.py" 831,.int 199 0,.int 1 0,.int 0 0,.int 0 0,.int 3 0,.ref 247,.bool true,.int 276 0,.ref 248,.none,.ref 249,.ref 250,.ref 251,.int 833 0,.int 199 0,.str "/claim/cut.py" 834]) #[]
def HA(P:UB):Obj:=.mk (.type "function") none (.func (.mk "__repr__" "Headers.__repr__" (aC (al 69 12)) (aD (al 69 12)) (aE (al 69 12)) 3 [] .none .none .none (.str "cpy313.wsgiref.headers" 659) none (.ref 252) .none 0)) #[]
noncomputable def HB(P:UB):Obj:=.mk (.type "tuple") none (.seq #[] 0) #[]
noncomputable def NE(P:UB):Obj:=.mk .none none (.fields #[]) #[]
def NG(P:UB):Obj:=.mk .none none (.func (.mk "__str__" "Headers.__str__" (aC (al 69 13)) (aD (al 69 13)) (aE (al 69 13)) 0 [] .none .none .none .none none .none .none 0)) #[]
noncomputable def HC(P:UB):Obj:=.mk (.type "code") none (.fields #[.str "__str__" 836,.str "Headers.__str__" 837,.str "/claim/cut.py" 838,.int 202 0,.int 1 0,.int 0 0,.int 0 0,.int 3 0,.ref 254,.bool true,.int 276 0,.ref 255,.none,.none,.none,.ref 256,.int 839 0,.int 202 0,.str "/claim/cut.py" 840]) #[]
def HD(P:UB):Obj:=.mk (.type "function") none (.func (.mk "__str__" "Headers.__str__" (aC (al 69 13)) (aD (al 69 13)) (aE (al 69 13)) 3 [] .none .none .none (.str "cpy313.wsgiref.headers" 659) none (.ref 257) .none 0)) #[]
noncomputable def HE(P:UB):Obj:=.mk (.type "tuple") none (.seq #[] 0) #[]
noncomputable def NH(P:UB):Obj:=.mk .none none (.fields #[]) #[]
noncomputable def HF(P:UB):Obj:=.mk (.type "tuple") none (.seq #[.str "self" 845] 0) #[]
noncomputable def HG(P:UB):Obj:=.mk (.type "tuple") none (.seq #[] 0) #[]
def NI(P:UB):Obj:=.mk .none none (.func (.mk "__bytes__" "Headers.__bytes__" (aC (al 69 14)) (aD (al 69 14)) (aE (al 69 14)) 0 [] .none .none .none .none none .none .none 0)) #[]
noncomputable def HH(P:UB):Obj:=.mk (.type "code") none (.fields #[.str "__bytes__" 842,.str "Headers.__bytes__" 843,.str "/claim/cut.py" 844,.int 205 0,.int 1 0,.int 0 0,.int 0 0,.int 3 0,.ref 259,.bool true,.int 276 0,.ref 260,.none,.ref 261,.ref 262,.ref 263,.int 846 0,.int 205 0,.str "/claim/cut.py" 847]) #[]
def HI(P:UB):Obj:=.mk (.type "function") none (.func (.mk "__bytes__" "Headers.__bytes__" (aC (al 69 14)) (aD (al 69 14)) (aE (al 69 14)) 3 [] .none .none .none (.str "cpy313.wsgiref.headers" 659) none (.ref 264) .none 0)) #[]
noncomputable def HJ(P:UB):Obj:=.mk (.type "tuple") none (.seq #[] 0) #[]
noncomputable def NJ(P:UB):Obj:=.mk .none none (.fields #[]) #[]
noncomputable def HK(P:UB):Obj:=.mk (.type "tuple") none (.seq #[.str "self" 852,.str "name" 853,.str "value" 854] 0) #[]
noncomputable def HL(P:UB):Obj:=.mk (.type "tuple") none (.seq #[] 0) #[]
def NK(P:UB):Obj:=.mk .none none (.func (.mk "setdefault" "Headers.setdefault" (aC (al 69 15)) (aD (al 69 15)) (aE (al 69 15)) 0 [] .none .none .none .none none .none .none 0)) #[]
noncomputable def HM(P:UB):Obj:=.mk (.type "code") none (.fields #[.str "setdefault" 849,.str "Headers.setdefault" 850,.str "/claim/cut.py" 851,.int 208 0,.int 3 0,.int 0 0,.int 0 0,.int 3 0,.ref 266,.bool true,.int 276 0,.ref 267,.none,.ref 268,.ref 269,.ref 270,.int 855 0,.int 208 0,.str "/claim/cut.py" 856]) #[]
def HN(P:UB):Obj:=.mk (.type "function") none (.func (.mk "setdefault" "Headers.setdefault" (aC (al 69 15)) (aD (al 69 15)) (aE (al 69 15)) 3 [] .none .none .none (.str "cpy313.wsgiref.headers" 659) none (.ref 271) .none 0)) #[]
noncomputable def HQ(P:UB):Obj:=.mk (.type "tuple") none (.seq #[] 0) #[]
noncomputable def NL(P:UB):Obj:=.mk .none none (.fields #[]) #[]
noncomputable def HR(P:UB):Obj:=.mk (.type "tuple") none (.seq #[.str "self" 861,.str "_name" 862,.str "_value" 863,.str "_params" 864] 0) #[]
noncomputable def HT(P:UB):Obj:=.mk (.type "tuple") none (.seq #[] 0) #[]
def NN(P:UB):Obj:=.mk .none none (.func (.mk "add_header" "Headers.add_header" (aC (al 69 16)) (aD (al 69 16)) (aE (al 69 16)) 0 [] .none .none .none .none none .none .none 0)) #[]
noncomputable def HU(P:UB):Obj:=.mk (.type "code") none (.fields #[.str "add_header" 858,.str "Headers.add_header" 859,.str "/claim/cut.py" 860,.int 211 0,.int 3 0,.int 0 0,.int 0 0,.int 11 0,.ref 273,.bool true,.int 276 0,.ref 274,.none,.ref 275,.ref 276,.ref 277,.int 865 0,.int 211 0,.str "/claim/cut.py" 866]) #[]
def HV(P:UB):Obj:=.mk (.type "function") none (.func (.mk "add_header" "Headers.add_header" (aC (al 69 16)) (aD (al 69 16)) (aE (al 69 16)) 3 [] .none .none .none (.str "cpy313.wsgiref.headers" 659) none (.ref 278) .none 0)) #[]
noncomputable def HW(P:UB):Obj:=.mk (.type "tuple") none (.seq #[.str "_headers" 868] 0) #[]
noncomputable def HX(P:UB):Obj:=.mk (.type "dict") none (.dict #[sE P "__module__" 728 (.str "cpy313.wsgiref.headers" 659),sE P "__firstlineno__" 732 (.int 143 731),sE P "__init__" 742 (.ref 174),sE P "_convert_string_type" 752 (.ref 181),sE P "__len__" 759 (.ref 188),sE P "__setitem__" 768 (.ref 195),sE P "__delitem__" 774 (.ref 200),sE P "__getitem__" 782 (.ref 207),sE P "__contains__" 790 (.ref 214),sE P "get_all" 798 (.ref 221),sE P "get" 809 (.ref 229),sE P "keys" 815 (.ref 234),sE P "values" 821 (.ref 239),sE P "items" 828 (.ref 246),sE P "__repr__" 835 (.ref 253),sE P "__str__" 841 (.ref 258),sE P "__bytes__" 848 (.ref 265),sE P "setdefault" 857 (.ref 272),sE P "add_header" 867 (.ref 279),sE P "__static_attributes__" 869 (.ref 280),sE P "__dict__" 871 (.ref 283),sE P "__weakref__" 873 (.ref 284),sE P "__doc__" 874 .none] 4) #[]
noncomputable def HY(P:UB):Obj:=.mk (.type "type") none (.cls (.mk "Headers" [.type "object"] [.ref 282,.type "object"] 281 "Headers" true [] [] false none false)) #[none,none,(some (.str "Headers" 721)),(some (.str "Headers" 729)),(some (.builtin "object.__new__")),(some (.bool true))]
noncomputable def HZ(P:UB):Obj:=.mk (.type "getset_descriptor") none (.fields #[.str "__dict__" 870,.ref 282,.builtin "function.__dict__",.builtin "function.__dict__#set"]) #[]
noncomputable def H6(P:UB):Obj:=.mk (.type "getset_descriptor") none (.fields #[.str "__weakref__" 872,.ref 282,.builtin "ExceptionGroup.__weakref__",.none]) #[]
noncomputable def NO(P:UB):Obj:=.mk (.type "super") none (.fields #[.ref 282,.ref 282,.ref 282]) #[]
noncomputable def NP(P:UB):Obj:=.mk (.type "builtin_function_or_method") none (.fields #[.builtin "object.__init_subclass__",.ref 282]) #[]
noncomputable def Co(P:UB):Obj:=.mk (.type "dict") none (.dict #[sE P "__name__" 165 (.str "law_uc0049_01" 877),sE P "__doc__" 166 .none,sE P "__package__" 167 .none,sE P "__loader__" 168 (.builtin "__main__.__loader__#opaque"),sE P "__spec__" 169 .none,sE P "__annotations__" 170 (.ref 6),sE P "__builtins__" 171 (.ref 4),sE P "__file__" 173 (.str "/claim/cut.py" 172),sE P "__cached__" 174 .none,sE P "_sre" 275 (.ref 12),sE P "_wall" 288 (.ref 38),sE P "COMPILER_FLAG_NAMES" 321 (.ref 39),sE P "pretty_flags" 331 (.ref 46),sE P "_Unknown" 358 (.ref 63),sE P "UNKNOWN" 359 (.ref 69),sE P "_get_name_info" 369 (.ref 76),sE P "_parse_varint" 378 (.ref 83),sE P "_netrclex" 438 (.ref 121),sE P "ENDMARKER" 442 (.int 0 441),sE P "LPAR" 444 (.int 7 443),sE P "RPAR" 446 (.int 8 445),sE P "LSQB" 448 (.int 9 447),sE P "RSQB" 450 (.int 10 449),sE P "COLON" 452 (.int 11 451),sE P "COMMA" 454 (.int 12 453),sE P "SEMI" 456 (.int 13 455),sE P "PLUS" 458 (.int 14 457),sE P "MINUS" 460 (.int 15 459),sE P "STAR" 462 (.int 16 461),sE P "SLASH" 464 (.int 17 463),sE P "VBAR" 466 (.int 18 465),sE P "AMPER" 468 (.int 19 467),sE P "LESS" 470 (.int 20 469),sE P "GREATER" 472 (.int 21 471),sE P "EQUAL" 474 (.int 22 473),sE P "DOT" 476 (.int 23 475),sE P "PERCENT" 478 (.int 24 477),sE P "LBRACE" 480 (.int 25 479),sE P "RBRACE" 482 (.int 26 481),sE P "EQEQUAL" 484 (.int 27 483),sE P "NOTEQUAL" 486 (.int 28 485),sE P "LESSEQUAL" 488 (.int 29 487),sE P "GREATEREQUAL" 490 (.int 30 489),sE P "TILDE" 492 (.int 31 491),sE P "CIRCUMFLEX" 494 (.int 32 493),sE P "LEFTSHIFT" 496 (.int 33 495),sE P "RIGHTSHIFT" 498 (.int 34 497),sE P "DOUBLESTAR" 500 (.int 35 499),sE P "PLUSEQUAL" 502 (.int 36 501),sE P "MINEQUAL" 504 (.int 37 503),sE P "STAREQUAL" 506 (.int 38 505),sE P "SLASHEQUAL" 508 (.int 39 507),sE P "PERCENTEQUAL" 510 (.int 40 509),sE P "AMPEREQUAL" 512 (.int 41 511),sE P "VBAREQUAL" 514 (.int 42 513),sE P "CIRCUMFLEXEQUAL" 516 (.int 43 515),sE P "LEFTSHIFTEQUAL" 518 (.int 44 517),sE P "RIGHTSHIFTEQUAL" 520 (.int 45 519),sE P "DOUBLESTAREQUAL" 522 (.int 46 521),sE P "DOUBLESLASH" 524 (.int 47 523),sE P "DOUBLESLASHEQUAL" 526 (.int 48 525),sE P "AT" 528 (.int 49 527),sE P "ATEQUAL" 530 (.int 50 529),sE P "RARROW" 532 (.int 51 531),sE P "ELLIPSIS" 534 (.int 52 533),sE P "COLONEQUAL" 536 (.int 53 535),sE P "EXCLAMATION" 538 (.int 54 537),sE P "NT_OFFSET" 540 (.int 256 539),sE P "EXACT_TOKEN_TYPES" 637 (.ref 126),sE P "ISTERMINAL" 644 (.ref 135),sE P "ISNONTERMINAL" 651 (.ref 142),sE P "ISEOF" 658 (.ref 149),sE P "_name_disallowed_re" 686 (.ref 154),sE P "_value_disallowed_re" 720 (.ref 159),sE P "Headers" 876 (.ref 282),sE P "_law_operators" 884 (.ref 293),sE P "_law_octets" 892 (.ref 300),sE P "_law_block" 898 (.ref 305),sE P "_law_words" 904 (.ref 310),sE P "_law_written" 910 (.ref 315),sE P "_law_lexer" 916 (.ref 320),sE P "_law_cut" 922 (.ref 325),sE P "_law_jumps" 931 (.ref 332),sE P "_law_names" 937 (.ref 337),sE P "_law_table" 950 (.ref 344),sE P "_law_melted" 956 (.ref 349),sE P "_law_known" 962 (.ref 354),sE P "_law_handed" 968 (.ref 359),sE P "_law_reached" 979 (.ref 366),sE P "_law_left" 985 (.ref 371),sE P "law" 991 (.ref 376)] 91) #[]
noncomputable def QB(P:UB):Obj:=.mk .none none (.fields #[.int 2 0,.int 0 0,.ref 37,.int 7 0,.int 0 0,.ref 45,.int 19 0,.int 0 0,.ref 52,.int 24 0,.int 0 0,.ref 75,.int 30 0,.int 0 0,.ref 82,.int 39 0,.int 0 0,.ref 89,.int 134 0,.int 0 0,.ref 134,.int 136 0,.int 0 0,.ref 141,.int 138 0,.int 0 0,.ref 148,.int 143 0,.int 0 0,.ref 165,.int 214 0,.int 0 0,.ref 292,.int 216 0,.int 0 0,.ref 299,.int 222 0,.int 0 0,.ref 304,.int 225 0,.int 0 0,.ref 309,.int 229 0,.int 0 0,.ref 314,.int 233 0,.int 0 0,.ref 319,.int 239 0,.int 0 0,.ref 324,.int 249 0,.int 0 0,.ref 331,.int 255 0,.int 0 0,.ref 336,.int 258 0,.int 0 0,.ref 343,.int 263 0,.int 0 0,.ref 348,.int 287 0,.int 0 0,.ref 353,.int 290 0,.int 0 0,.ref 358,.int 292 0,.int 0 0,.ref 365,.int 300 0,.int 0 0,.ref 370,.int 312 0,.int 0 0,.ref 375]) #[]
noncomputable def NQ(P:UB):Obj:=.mk (.type "tuple") none (.seq #[] 0) #[]
noncomputable def Sy(P:UB):Obj:=.mk .none none (.fields #[]) #[]
noncomputable def NR(P:UB):Obj:=.mk (.type "tuple") none (.seq #[] 0) #[]
noncomputable def NS(P:UB):Obj:=.mk (.type "tuple") none (.seq #[] 0) #[]
def Sz(P:UB):Obj:=.mk .none none (.func (.mk "_law_operators" "_law_operators" (aC (aj 71)) (aD (aj 71)) (aE (aj 71)) 0 [] .none .none .none .none none .none .none 0)) #[]
noncomputable def NT(P:UB):Obj:=.mk (.type "code") none (.fields #[.str "_law_operators" 879,.str "_law_operators" 880,.str "/claim/cut.py" 881,.int 214 0,.int 0 0,.int 0 0,.int 0 0,.int 3 0,.ref 287,.bool true,.int 276 0,.ref 288,.none,.ref 289,.ref 290,.ref 291,.int 882 0,.int 214 0,.str "/claim/cut.py" 883]) #[]
def NU(P:UB):Obj:=.mk (.type "function") none (.func (.mk "_law_operators" "_law_operators" (aC (aj 71)) (aD (aj 71)) (aE (aj 71)) 3 [] .none .none .none (.str "law_uc0049_01" 877) none (.ref 292) .none 0)) #[]
noncomputable def NV(P:UB):Obj:=.mk (.type "tuple") none (.seq #[] 0) #[]
noncomputable def SA(P:UB):Obj:=.mk .none none (.fields #[]) #[]
noncomputable def NW(P:UB):Obj:=.mk (.type "tuple") none (.seq #[.str "number" 888,.str "signs" 889] 0) #[]
noncomputable def NX(P:UB):Obj:=.mk (.type "tuple") none (.seq #[] 0) #[]
def SD(P:UB):Obj:=.mk .none none (.func (.mk "_law_octets" "_law_octets" (aC (aj 72)) (aD (aj 72)) (aE (aj 72)) 0 [] .none .none .none .none none .none .none 0)) #[]
noncomputable def NY(P:UB):Obj:=.mk (.type "code") none (.fields #[.str "_law_octets" 885,.str "_law_octets" 886,.str "/claim/cut.py" 887,.int 216 0,.int 1 0,.int 0 0,.int 0 0,.int 3 0,.ref 294,.bool true,.int 276 0,.ref 295,.none,.ref 296,.ref 297,.ref 298,.int 890 0,.int 216 0,.str "/claim/cut.py" 891]) #[]
def NZ(P:UB):Obj:=.mk (.type "function") none (.func (.mk "_law_octets" "_law_octets" (aC (aj 72)) (aD (aj 72)) (aE (aj 72)) 3 [] .none .none .none (.str "law_uc0049_01" 877) none (.ref 299) .none 0)) #[]
noncomputable def N0(P:UB):Obj:=.mk (.type "tuple") none (.seq #[] 0) #[]
noncomputable def SE(P:UB):Obj:=.mk .none none (.fields #[]) #[]
def SF(P:UB):Obj:=.mk .none none (.func (.mk "_law_block" "_law_block" (aC (aj 73)) (aD (aj 73)) (aE (aj 73)) 0 [] .none .none .none .none none .none .none 0)) #[]
noncomputable def N1(P:UB):Obj:=.mk (.type "code") none (.fields #[.str "_law_block" 893,.str "_law_block" 894,.str "/claim/cut.py" 895,.int 222 0,.int 1 0,.int 0 0,.int 0 0,.int 3 0,.ref 301,.bool true,.int 276 0,.ref 302,.none,.none,.none,.ref 303,.int 896 0,.int 222 0,.str "/claim/cut.py" 897]) #[]
def N2(P:UB):Obj:=.mk (.type "function") none (.func (.mk "_law_block" "_law_block" (aC (aj 73)) (aD (aj 73)) (aE (aj 73)) 3 [] .none .none .none (.str "law_uc0049_01" 877) none (.ref 304) .none 0)) #[]
noncomputable def N3(P:UB):Obj:=.mk (.type "tuple") none (.seq #[] 0) #[]
noncomputable def SG(P:UB):Obj:=.mk .none none (.fields #[]) #[]
def SH(P:UB):Obj:=.mk .none none (.func (.mk "_law_words" "_law_words" (aC (aj 74)) (aD (aj 74)) (aE (aj 74)) 0 [] .none .none .none .none none .none .none 0)) #[]
noncomputable def N4(P:UB):Obj:=.mk (.type "code") none (.fields #[.str "_law_words" 899,.str "_law_words" 900,.str "/claim/cut.py" 901,.int 225 0,.int 2 0,.int 0 0,.int 0 0,.int 3 0,.ref 306,.bool true,.int 276 0,.ref 307,.none,.none,.none,.ref 308,.int 902 0,.int 225 0,.str "/claim/cut.py" 903]) #[]
def N5(P:UB):Obj:=.mk (.type "function") none (.func (.mk "_law_words" "_law_words" (aC (aj 74)) (aD (aj 74)) (aE (aj 74)) 3 [] .none .none .none (.str "law_uc0049_01" 877) none (.ref 309) .none 0)) #[]
noncomputable def N6(P:UB):Obj:=.mk (.type "tuple") none (.seq #[] 0) #[]
noncomputable def SI(P:UB):Obj:=.mk .none none (.fields #[]) #[]
def SJ(P:UB):Obj:=.mk .none none (.func (.mk "_law_written" "_law_written" (aC (aj 75)) (aD (aj 75)) (aE (aj 75)) 0 [] .none .none .none .none none .none .none 0)) #[]
noncomputable def N7(P:UB):Obj:=.mk (.type "code") none (.fields #[.str "_law_written" 905,.str "_law_written" 906,.str "/claim/cut.py" 907,.int 229 0,.int 2 0,.int 0 0,.int 0 0,.int 3 0,.ref 311,.bool true,.int 276 0,.ref 312,.none,.none,.none,.ref 313,.int 908 0,.int 229 0,.str "/claim/cut.py" 909]) #[]
def N8(P:UB):Obj:=.mk (.type "function") none (.func (.mk "_law_written" "_law_written" (aC (aj 75)) (aD (aj 75)) (aE (aj 75)) 3 [] .none .none .none (.str "law_uc0049_01" 877) none (.ref 314) .none 0)) #[]
noncomputable def N9(P:UB):Obj:=.mk (.type "tuple") none (.seq #[] 0) #[]
noncomputable def SK(P:UB):Obj:=.mk .none none (.fields #[]) #[]
def SL(P:UB):Obj:=.mk .none none (.func (.mk "_law_lexer" "_law_lexer" (aC (aj 76)) (aD (aj 76)) (aE (aj 76)) 0 [] .none .none .none .none none .none .none 0)) #[]
noncomputable def Oa(P:UB):Obj:=.mk (.type "code") none (.fields #[.str "_law_lexer" 911,.str "_law_lexer" 912,.str "/claim/cut.py" 913,.int 233 0,.int 1 0,.int 0 0,.int 0 0,.int 3 0,.ref 316,.bool true,.int 276 0,.ref 317,.none,.none,.none,.ref 318,.int 914 0,.int 233 0,.str "/claim/cut.py" 915]) #[]
def Ob(P:UB):Obj:=.mk (.type "function") none (.func (.mk "_law_lexer" "_law_lexer" (aC (aj 76)) (aD (aj 76)) (aE (aj 76)) 3 [] .none .none .none (.str "law_uc0049_01" 877) none (.ref 319) .none 0)) #[]
noncomputable def Oc(P:UB):Obj:=.mk (.type "tuple") none (.seq #[] 0) #[]
noncomputable def SM(P:UB):Obj:=.mk .none none (.fields #[]) #[]
def SN(P:UB):Obj:=.mk .none none (.func (.mk "_law_cut" "_law_cut" (aC (aj 77)) (aD (aj 77)) (aE (aj 77)) 0 [] .none .none .none .none none .none .none 0)) #[]
noncomputable def Od(P:UB):Obj:=.mk (.type "code") none (.fields #[.str "_law_cut" 917,.str "_law_cut" 918,.str "/claim/cut.py" 919,.int 239 0,.int 2 0,.int 0 0,.int 0 0,.int 3 0,.ref 321,.bool true,.int 276 0,.ref 322,.none,.none,.none,.ref 323,.int 920 0,.int 239 0,.str "/claim/cut.py" 921]) #[]
def Oe(P:UB):Obj:=.mk (.type "function") none (.func (.mk "_law_cut" "_law_cut" (aC (aj 77)) (aD (aj 77)) (aE (aj 77)) 3 [] .none .none .none (.str "law_uc0049_01" 877) none (.ref 324) .none 0)) #[]
noncomputable def Of(P:UB):Obj:=.mk (.type "tuple") none (.seq #[] 0) #[]
noncomputable def SO(P:UB):Obj:=.mk .none none (.fields #[]) #[]
noncomputable def Og(P:UB):Obj:=.mk (.type "tuple") none (.seq #[.str "row" 926,.str "kinds" 927,.str "jumps" 928] 0) #[]
noncomputable def Oh(P:UB):Obj:=.mk (.type "tuple") none (.seq #[] 0) #[]
def SP(P:UB):Obj:=.mk .none none (.func (.mk "_law_jumps" "_law_jumps" (aC (aj 78)) (aD (aj 78)) (aE (aj 78)) 0 [] .none .none .none .none none .none .none 0)) #[]
noncomputable def Oi(P:UB):Obj:=.mk (.type "code") none (.fields #[.str "_law_jumps" 923,.str "_law_jumps" 924,.str "/claim/cut.py" 925,.int 249 0,.int 2 0,.int 0 0,.int 0 0,.int 3 0,.ref 326,.bool true,.int 276 0,.ref 327,.none,.ref 328,.ref 329,.ref 330,.int 929 0,.int 249 0,.str "/claim/cut.py" 930]) #[]
def Oj(P:UB):Obj:=.mk (.type "function") none (.func (.mk "_law_jumps" "_law_jumps" (aC (aj 78)) (aD (aj 78)) (aE (aj 78)) 3 [] .none .none .none (.str "law_uc0049_01" 877) none (.ref 331) .none 0)) #[]
noncomputable def Ol(P:UB):Obj:=.mk (.type "tuple") none (.seq #[] 0) #[]
noncomputable def SQ(P:UB):Obj:=.mk .none none (.fields #[]) #[]
def SR(P:UB):Obj:=.mk .none none (.func (.mk "_law_names" "_law_names" (aC (aj 79)) (aD (aj 79)) (aE (aj 79)) 0 [] .none .none .none .none none .none .none 0)) #[]
noncomputable def Om(P:UB):Obj:=.mk (.type "code") none (.fields #[.str "_law_names" 932,.str "_law_names" 933,.str "/claim/cut.py" 934,.int 255 0,.int 2 0,.int 0 0,.int 0 0,.int 3 0,.ref 333,.bool true,.int 276 0,.ref 334,.none,.none,.none,.ref 335,.int 935 0,.int 255 0,.str "/claim/cut.py" 936]) #[]
def On(P:UB):Obj:=.mk (.type "function") none (.func (.mk "_law_names" "_law_names" (aC (aj 79)) (aD (aj 79)) (aE (aj 79)) 3 [] .none .none .none (.str "law_uc0049_01" 877) none (.ref 336) .none 0)) #[]
noncomputable def Oo(P:UB):Obj:=.mk (.type "tuple") none (.seq #[] 0) #[]
noncomputable def SS(P:UB):Obj:=.mk .none none (.fields #[]) #[]
noncomputable def Op(P:UB):Obj:=.mk (.type "tuple") none (.seq #[.str "pairs" 941,.str "names" 942,.str "goals" 943,.str "first" 944,.str "table" 945,.str "block" 946,.str "name" 947] 0) #[]
noncomputable def Oq(P:UB):Obj:=.mk (.type "tuple") none (.seq #[] 0) #[]
def SU(P:UB):Obj:=.mk .none none (.func (.mk "_law_table" "_law_table" (aC (aj 80)) (aD (aj 80)) (aE (aj 80)) 0 [] .none .none .none .none none .none .none 0)) #[]
noncomputable def Os(P:UB):Obj:=.mk (.type "code") none (.fields #[.str "_law_table" 938,.str "_law_table" 939,.str "/claim/cut.py" 940,.int 258 0,.int 4 0,.int 0 0,.int 0 0,.int 3 0,.ref 338,.bool true,.int 276 0,.ref 339,.none,.ref 340,.ref 341,.ref 342,.int 948 0,.int 258 0,.str "/claim/cut.py" 949]) #[]
def Ot(P:UB):Obj:=.mk (.type "function") none (.func (.mk "_law_table" "_law_table" (aC (aj 80)) (aD (aj 80)) (aE (aj 80)) 3 [] .none .none .none (.str "law_uc0049_01" 877) none (.ref 343) .none 0)) #[]
noncomputable def Ou(P:UB):Obj:=.mk (.type "tuple") none (.seq #[] 0) #[]
noncomputable def SV(P:UB):Obj:=.mk .none none (.fields #[]) #[]
def SW(P:UB):Obj:=.mk .none none (.func (.mk "_law_melted" "_law_melted" (aC (aj 81)) (aD (aj 81)) (aE (aj 81)) 0 [] .none .none .none .none none .none .none 0)) #[]
noncomputable def Ov(P:UB):Obj:=.mk (.type "code") none (.fields #[.str "_law_melted" 951,.str "_law_melted" 952,.str "/claim/cut.py" 953,.int 263 0,.int 4 0,.int 0 0,.int 0 0,.int 3 0,.ref 345,.bool true,.int 276 0,.ref 346,.none,.none,.none,.ref 347,.int 954 0,.int 263 0,.str "/claim/cut.py" 955]) #[]
def Ow(P:UB):Obj:=.mk (.type "function") none (.func (.mk "_law_melted" "_law_melted" (aC (aj 81)) (aD (aj 81)) (aE (aj 81)) 3 [] .none .none .none (.str "law_uc0049_01" 877) none (.ref 348) .none 0)) #[]
noncomputable def Ox(P:UB):Obj:=.mk (.type "tuple") none (.seq #[] 0) #[]
noncomputable def SX(P:UB):Obj:=.mk .none none (.fields #[]) #[]
def SY(P:UB):Obj:=.mk .none none (.func (.mk "_law_known" "_law_known" (aC (aj 82)) (aD (aj 82)) (aE (aj 82)) 0 [] .none .none .none .none none .none .none 0)) #[]
noncomputable def Oy(P:UB):Obj:=.mk (.type "code") none (.fields #[.str "_law_known" 957,.str "_law_known" 958,.str "/claim/cut.py" 959,.int 287 0,.int 3 0,.int 0 0,.int 0 0,.int 3 0,.ref 350,.bool true,.int 276 0,.ref 351,.none,.none,.none,.ref 352,.int 960 0,.int 287 0,.str "/claim/cut.py" 961]) #[]
def Oz(P:UB):Obj:=.mk (.type "function") none (.func (.mk "_law_known" "_law_known" (aC (aj 82)) (aD (aj 82)) (aE (aj 82)) 3 [] .none .none .none (.str "law_uc0049_01" 877) none (.ref 353) .none 0)) #[]
noncomputable def OA(P:UB):Obj:=.mk (.type "tuple") none (.seq #[] 0) #[]
noncomputable def SZ(P:UB):Obj:=.mk .none none (.fields #[]) #[]
def S6(P:UB):Obj:=.mk .none none (.func (.mk "_law_handed" "_law_handed" (aC (aj 83)) (aD (aj 83)) (aE (aj 83)) 0 [] .none .none .none .none none .none .none 0)) #[]
noncomputable def OB(P:UB):Obj:=.mk (.type "code") none (.fields #[.str "_law_handed" 963,.str "_law_handed" 964,.str "/claim/cut.py" 965,.int 290 0,.int 2 0,.int 0 0,.int 0 0,.int 3 0,.ref 355,.bool true,.int 276 0,.ref 356,.none,.none,.none,.ref 357,.int 966 0,.int 290 0,.str "/claim/cut.py" 967]) #[]
def OC(P:UB):Obj:=.mk (.type "function") none (.func (.mk "_law_handed" "_law_handed" (aC (aj 83)) (aD (aj 83)) (aE (aj 83)) 3 [] .none .none .none (.str "law_uc0049_01" 877) none (.ref 358) .none 0)) #[]
noncomputable def OD(P:UB):Obj:=.mk (.type "tuple") none (.seq #[] 0) #[]
noncomputable def S7(P:UB):Obj:=.mk .none none (.fields #[]) #[]
noncomputable def OE(P:UB):Obj:=.mk (.type "tuple") none (.seq #[.str "goals" 972,.str "shut" 973,.str "met" 974,.str "turn" 975,.str "block" 976] 0) #[]
noncomputable def OG(P:UB):Obj:=.mk (.type "tuple") none (.seq #[] 0) #[]
def S8(P:UB):Obj:=.mk .none none (.func (.mk "_law_reached" "_law_reached" (aC (aj 84)) (aD (aj 84)) (aE (aj 84)) 0 [] .none .none .none .none none .none .none 0)) #[]
noncomputable def OH(P:UB):Obj:=.mk (.type "code") none (.fields #[.str "_law_reached" 969,.str "_law_reached" 970,.str "/claim/cut.py" 971,.int 292 0,.int 2 0,.int 0 0,.int 0 0,.int 3 0,.ref 360,.bool true,.int 276 0,.ref 361,.none,.ref 362,.ref 363,.ref 364,.int 977 0,.int 292 0,.str "/claim/cut.py" 978]) #[]
def OI(P:UB):Obj:=.mk (.type "function") none (.func (.mk "_law_reached" "_law_reached" (aC (aj 84)) (aD (aj 84)) (aE (aj 84)) 3 [] .none .none .none (.str "law_uc0049_01" 877) none (.ref 365) .none 0)) #[]
noncomputable def OJ(P:UB):Obj:=.mk (.type "tuple") none (.seq #[] 0) #[]
noncomputable def S9(P:UB):Obj:=.mk .none none (.fields #[]) #[]
def Ta(P:UB):Obj:=.mk .none none (.func (.mk "_law_left" "_law_left" (aC (aj 85)) (aD (aj 85)) (aE (aj 85)) 0 [] .none .none .none .none none .none .none 0)) #[]
noncomputable def OK(P:UB):Obj:=.mk (.type "code") none (.fields #[.str "_law_left" 980,.str "_law_left" 981,.str "/claim/cut.py" 982,.int 300 0,.int 1 0,.int 0 0,.int 0 0,.int 3 0,.ref 367,.bool true,.int 276 0,.ref 368,.none,.none,.none,.ref 369,.int 983 0,.int 300 0,.str "/claim/cut.py" 984]) #[]
def OL(P:UB):Obj:=.mk (.type "function") none (.func (.mk "_law_left" "_law_left" (aC (aj 85)) (aD (aj 85)) (aE (aj 85)) 3 [] .none .none .none (.str "law_uc0049_01" 877) none (.ref 370) .none 0)) #[]
noncomputable def OM(P:UB):Obj:=.mk (.type "tuple") none (.seq #[] 0) #[]
noncomputable def Tb(P:UB):Obj:=.mk .none none (.fields #[]) #[]
def Tc(P:UB):Obj:=.mk .none none (.func (.mk "law" "law" (aC (aj 86)) (aD (aj 86)) (aE (aj 86)) 0 [] .none .none .none .none none .none .none 0)) #[]
noncomputable def ON(P:UB):Obj:=.mk (.type "code") none (.fields #[.str "law" 986,.str "law" 987,.str "/claim/cut.py" 988,.int 312 0,.int 1 0,.int 0 0,.int 0 0,.int 3 0,.ref 372,.bool true,.int 276 0,.ref 373,.none,.none,.none,.ref 374,.int 989 0,.int 312 0,.str "/claim/cut.py" 990]) #[]
def OO(P:UB):Obj:=.mk (.type "function") none (.func (.mk "law" "law" (aC (aj 86)) (aD (aj 86)) (aE (aj 86)) 3 [] .none .none .none (.str "law_uc0049_01" 877) none (.ref 375) .none 0)) #[]
noncomputable def lf:Life:=(Life.mk [] [] [] 0 [] [] false #[] [] 0 false false false 0 [2000,10,10] false 0 true [] [] 0 false)
noncomputable def mn(l:List Obj):Nat->Nat->Nat->BT
 |0,_,_=>.nil
 |f+1,a,b=>match l[b]? with
  |some o=>.node o (mn l f (2*a) (a+b)) (mn l f (2*a) (2*a+b))
  |none=>.nil
def PI(P:UB):List Obj:=[o0,o1,o2,o3,o4,o5,o6,o7,o8,o9,mo,mq,mr,mt,mw,mx,my,mz,mA,mB,mD,mE,mF,mG,mI,mJ,mK,mM].map (· P)
def PJ(P:UB):List Obj:=[o0,o1,o2,o3,o4,o5,o6,o7,o8,o9,mo,mq,mr,mt,mw,mx,my,mz,mA,mB,mD,mE,mF,mG,mI,mJ,mK,mM,nE,RP,nF,nH].map (· P)
noncomputable def Jt:Pos:=⟨0,0,0,0⟩
def L0(P:UB):List Obj:=[o0,o1,o2,o3,o4,o5,o6,o7,o8,o9,mo,mq,mr,mt,mw,mx,my,mz,mA,mB,mD,mE,mF,mG,mI,mJ,mK,mM,nE,RP,nF,nH].map (· P)
def T0(w:WC)(os:V3):Yy:=⟨mn (L0 w.params) 12 1 0,32,lf,#[],⟨0,0,0,0⟩,282,os⟩
noncomputable def p0:Pos:=⟨0,0,0,0⟩
def L2(P:UB):List Obj:=[o0,o1,o2,Td,o4,o5,o6,o7,o8,o9,mo,mq,mr,mt,mw,mx,my,mz,mA,mB,mD,mE,mF,mG,mI,mJ,mK,mM,nE,Jj,nF,nH,oN,rq,oO,oP,rt,oQ,oR].map (· P)
def T2(w:WC)(os:V3):Yy:=⟨mn (L2 w.params) 12 1 0,39,lf,#[],⟨0,0,0,0⟩,291,os⟩
noncomputable def p2:Pos:=⟨5,0,5,8⟩
def L3(P:UB):List Obj:=[o0,o1,o2,Te,o4,o5,o6,o7,o8,o9,mo,mq,mr,mt,mw,mx,my,mz,mA,mB,mD,mE,mF,mG,mI,mJ,mK,mM,nE,Jj,nF,nH,oN,rq,oO,oP,rt,oQ,oR,ru].map (· P)
def T3(w:WC)(os:V3):Yy:=⟨mn (L3 w.params) 12 1 0,40,lf,#[],⟨0,0,0,0⟩,322,os⟩
noncomputable def p3:Pos:=⟨6,0,6,19⟩
def L5(P:UB):List Obj:=[o0,o1,o2,Tf,o4,o5,o6,o7,o8,o9,mo,mq,mr,mt,mw,mx,my,mz,mA,mB,mD,mE,mF,mG,mI,mJ,mK,mM,nE,Qy,nF,nH,oN,rq,oO,oP,rt,oQ,oR,ru,uz,xn,uA,uB,xp,uC,uD,xq,xr,xt,xu,xw,xx,xy,uE,xz,uF,uG,xA,uH,uI,uJ,uK,uL,uM,uN,xD,xE].map (· P)
def T5(w:WC)(os:V3):Yy:=⟨mn (L5 w.params) 12 1 0,68,lf,#[],⟨0,0,0,0⟩,359,os⟩
noncomputable def p5:Pos:=⟨19,0,22,26⟩
def TZ(P:UB):List Obj:=[o0,o1,o2,Tg,o4,o5,o6,o7,o8,o9,mo,mq,mr,mt,mw,mx,my,mz,mA,mB,mD,mE,mF,mG,mI,mJ,mK,mM,nE,Cn,nF,nH,oN,rq,oO,oP,rt,oQ,oR,ru,uz,xn,uA,uB,xp,uC,uD,xq,xr,xt,xu,xw,xx,xy,uE,xz,uF,uG,xA,uH,uI,uJ,uK,uL,uM,uN,xD,xE,xG,xH,xI,Aa,xJ,xL,Ab,xN,xO,xP,Ac,xQ,xR,Ad,xS,xT,Ae,Af,Ag,Ah,Ai,Aj,Ak,xU,Al,xV,xW,Am,xX,xY,xZ,An,pJ,pK,ta,pL,pM,pN,tc,pO,pP,td,pQ,pR,pS,th,pT,pU,tl,pV,pW,pX,pY,pZ,p6,p7,tm,tn].map (· P)
def Rw(w:WC)(os:V3):Yy:=⟨mn (TZ w.params) 12 1 0,126,lf,#[],⟨0,0,0,0⟩,439,os⟩
noncomputable def RQ:Pos:=⟨39,0,81,35⟩
def T1(P:UB):List Obj:=[o0,o1,o2,Th,o4,o5,o6,o7,o8,o9,mo,mq,mr,mt,mw,mx,my,mz,mA,mB,mD,mE,mF,mG,mI,mJ,mK,mM,nE,Cn,nF,nH,oN,rq,oO,oP,rt,oQ,oR,ru,uz,xn,uA,uB,xp,uC,uD,xq,xr,xt,xu,xw,xx,xy,uE,xz,uF,uG,xA,uH,uI,uJ,uK,uL,uM,uN,xD,xE,xG,xH,xI,Aa,xJ,xL,Ab,xN,xO,xP,Ac,xQ,xR,Ad,xS,xT,Ae,Af,Ag,Ah,Ai,Aj,Ak,xU,Al,xV,xW,Am,xX,xY,xZ,An,pJ,pK,ta,pL,pM,pN,tc,pO,pP,td,pQ,pR,pS,th,pT,pU,tl,pV,pW,pX,pY,pZ,p6,p7,tm,tn].map (· P)
def Rx(w:WC)(os:V3):Yy:=⟨mn (T1 w.params) 12 1 0,126,lf,#[],⟨0,0,0,0⟩,541,os⟩
noncomputable def RS:Pos:=⟨132,0,132,9⟩
def T4(P:UB):List Obj:=[o0,o1,o2,Ti,o4,o5,o6,o7,o8,o9,mo,mq,mr,mt,mw,mx,my,mz,mA,mB,mD,mE,mF,mG,mI,mJ,mK,mM,nE,Cn,nF,nH,oN,rq,oO,oP,rt,oQ,oR,ru,uz,xn,uA,uB,xp,uC,uD,xq,xr,xt,xu,xw,xx,xy,uE,xz,uF,uG,xA,uH,uI,uJ,uK,uL,uM,uN,xD,xE,xG,xH,xI,Aa,xJ,xL,Ab,xN,xO,xP,Ac,xQ,xR,Ad,xS,xT,Ae,Af,Ag,Ah,Ai,Aj,Ak,xU,Al,xV,xW,Am,xX,xY,xZ,An,pJ,pK,ta,pL,pM,pN,tc,pO,pP,td,pQ,pR,pS,th,pT,pU,tl,pV,pW,pX,pY,pZ,p6,p7,tm,tn,xk,B4,B5].map (· P)
def Ry(w:WC)(os:V3):Yy:=⟨mn (T4 w.params) 12 1 0,129,lf,#[],⟨0,0,0,0⟩,638,os⟩
noncomputable def RT:Pos:=⟨133,0,133,17⟩
def T6(P:UB):List Obj:=[o0,o1,o2,Tj,o4,o5,o6,o7,o8,o9,mo,mq,mr,mt,mw,mx,my,mz,mA,mB,mD,mE,mF,mG,mI,mJ,mK,mM,nE,Qz,nF,nH,oN,rq,oO,oP,rt,oQ,oR,ru,uz,xn,uA,uB,xp,uC,uD,xq,xr,xt,xu,xw,xx,xy,uE,xz,uF,uG,xA,uH,uI,uJ,uK,uL,uM,uN,xD,xE,xG,xH,xI,Aa,xJ,xL,Ab,xN,xO,xP,Ac,xQ,xR,Ad,xS,xT,Ae,Af,Ag,Ah,Ai,Aj,Ak,xU,Al,xV,xW,Am,xX,xY,xZ,An,pJ,pK,ta,pL,pM,pN,tc,pO,pP,td,pQ,pR,pS,th,pT,pU,tl,pV,pW,pX,pY,pZ,p6,p7,tm,tn,xk,B4,B5,B6,Gn,B7,B8,Go,B9,Ca,Cb,Gp,Cc,Ce,Gq,Cf,Cg,Ch,Gr,Ci,Cj,Gs,Ck,Cl,Gu,Gv,Gw,xl,tp,Gx,Gy,Gz,xm,tq].map (· P)
def Rz(w:WC)(os:V3):Yy:=⟨mn (T6 w.params) 12 1 0,160,lf,#[],⟨0,0,0,0⟩,721,os⟩
noncomputable def RU:Pos:=⟨142,0,142,20⟩
def T7(P:UB):List Obj:=[o0,o1,o2,Tk,o4,o5,o6,o7,o8,o9,mo,mq,mr,mt,mw,mx,my,mz,mA,mB,mD,mE,mF,mG,mI,mJ,mK,mM,nE,QA,nF,nH,oN,rq,oO,oP,rt,oQ,oR,ru,uz,xn,uA,uB,xp,uC,uD,xq,xr,xt,xu,xw,xx,xy,uE,xz,uF,uG,xA,uH,uI,uJ,uK,uL,uM,uN,xD,xE,xG,xH,xI,Aa,xJ,xL,Ab,xN,xO,xP,Ac,xQ,xR,Ad,xS,xT,Ae,Af,Ag,Ah,Ai,Aj,Ak,xU,Al,xV,xW,Am,xX,xY,xZ,An,pJ,pK,ta,pL,pM,pN,tc,pO,pP,td,pQ,pR,pS,th,pT,pU,tl,pV,pW,pX,pY,pZ,p6,p7,tm,tn,xk,B4,B5,B6,Gn,B7,B8,Go,B9,Ca,Cb,Gp,Cc,Ce,Gq,Cf,Cg,Ch,Gr,Ci,Cj,Gs,Ck,Cl,Gu,Gv,Gw,xl,tp,Gx,Gy,Gz,xm,tq,M4,M5,M6,M7,M8,M9,Na,Cm,GA,Nb,GB,GC,Nc,GD,GE,GF,Nd,GG,GH,Nf,GI,GJ,GK,Ng,GL,GM,Nh,GN,GO,GP,Ni,GQ,GR,Nj,GS,GT,GU,Nk,Nl,GV,GW,GX,Nn,GY,GZ,No,G0,G1,G2,Np,G3,G4,Nq,G5,G6,G7,Nr,G8,G9,Nt,Hc,Hd,tr,He,Nu,Hf,Hg,Nv,Hh,Hi,Hj,Nw,Nx,Hl,Hm,Hn,Ny,Nz,Ho,Hp,Hq,NA,Hr,Hs,NB,Hu,Hv,Hw,NC,Hx,Hy,ND,Hz,HA,HB,NE,NG,HC,HD,HE,NH,HF,HG,NI,HH,HI,HJ,NJ,HK,HL,NK,HM,HN,HQ,NL,HR,HT,NN,HU,HV,HW,HX,HY,HZ,H6,NO,NP].map (· P)
def RA(w:WC)(os:V3):Yy:=⟨mn (T7 w.params) 12 1 0,287,lf,#[],⟨0,0,0,0⟩,877,os⟩
noncomputable def RV:Pos:=⟨143,0,212,16⟩
def Ru(P:UB):List Obj:=[o0,o1,o2,Co,o4,o5,o6,o7,o8,o9,mo,mq,mr,mt,mw,mx,my,mz,mA,mB,mD,mE,mF,mG,mI,mJ,mK,mM,nE,QB,nF,nH,oN,rq,oO,oP,rt,oQ,oR,ru,uz,xn,uA,uB,xp,uC,uD,xq,xr,xt,xu,xw,xx,xy,uE,xz,uF,uG,xA,uH,uI,uJ,uK,uL,uM,uN,xD,xE,xG,xH,xI,Aa,xJ,xL,Ab,xN,xO,xP,Ac,xQ,xR,Ad,xS,xT,Ae,Af,Ag,Ah,Ai,Aj,Ak,xU,Al,xV,xW,Am,xX,xY,xZ,An,pJ,pK,ta,pL,pM,pN,tc,pO,pP,td,pQ,pR,pS,th,pT,pU,tl,pV,pW,pX,pY,pZ,p6,p7,tm,tn,xk,B4,B5,B6,Gn,B7,B8,Go,B9,Ca,Cb,Gp,Cc,Ce,Gq,Cf,Cg,Ch,Gr,Ci,Cj,Gs,Ck,Cl,Gu,Gv,Gw,xl,tp,Gx,Gy,Gz,xm,tq,M4,M5,M6,M7,M8,M9,Na,Cm,GA,Nb,GB,GC,Nc,GD,GE,GF,Nd,GG,GH,Nf,GI,GJ,GK,Ng,GL,GM,Nh,GN,GO,GP,Ni,GQ,GR,Nj,GS,GT,GU,Nk,Nl,GV,GW,GX,Nn,GY,GZ,No,G0,G1,G2,Np,G3,G4,Nq,G5,G6,G7,Nr,G8,G9,Nt,Hc,Hd,tr,He,Nu,Hf,Hg,Nv,Hh,Hi,Hj,Nw,Nx,Hl,Hm,Hn,Ny,Nz,Ho,Hp,Hq,NA,Hr,Hs,NB,Hu,Hv,Hw,NC,Hx,Hy,ND,Hz,HA,HB,NE,NG,HC,HD,HE,NH,HF,HG,NI,HH,HI,HJ,NJ,HK,HL,NK,HM,HN,HQ,NL,HR,HT,NN,HU,HV,HW,HX,HY,HZ,H6,NO,NP,NQ,Sy,NR,NS,Sz,NT,NU,NV,SA,NW,NX,SD,NY,NZ,N0,SE,SF,N1,N2,N3,SG,SH,N4,N5,N6,SI,SJ,N7,N8,N9,SK,SL,Oa,Ob,Oc,SM,SN,Od,Oe,Of,SO,Og,Oh,SP,Oi,Oj,Ol,SQ,SR,Om,On,Oo,SS,Op,Oq,SU,Os,Ot,Ou,SV,SW,Ov,Ow,Ox,SX,SY,Oy,Oz,OA,SZ,S6,OB,OC,OD,S7,OE,OG,S8,OH,OI,OJ,S9,Ta,OK,OL,OM,Tb,Tc,ON,OO].map (· P)
def RB(w:WC)(os:V3):Yy:=⟨mn (Ru w.params) 12 1 0,377,lf,#[],⟨0,0,0,0⟩,992,os⟩
noncomputable def RW:Pos:=⟨312,0,355,141⟩
noncomputable def bE:List Stmt:=behindTheImports pw
noncomputable def iY:Env:={scope:=pw.main.scope,locals:=mainNs,globals:=mainNs,cells:=[],code:=.ref 30,frame:=some 31}
def cE:Code:=.body bE iY
noncomputable def fP:Pos:=⟨0,0,0,0⟩
noncomputable def g8(i n:Nat):List Stmt:=(bE.drop i).take n
abbrev i9:String->Option Builtin:=PySem.W.Fast.tw14364793385576792824
abbrev gi:Option UF:=some (.ref 6)
end
section
abbrev oS:=PySem.Challenge.rw_uc0049_01
def H0(P:UB):Heap:=⟨⟨PI P⟩,lf⟩
def Ha(P:UB):Heap:=⟨⟨PJ P⟩,lf⟩
def H1(P:UB):Heap:=⟨⟨Ru P⟩,lf⟩
noncomputable def qV:Xm:=view pw [0,86]
noncomputable def nB:List Str:=(["_wall","COMPILER_FLAG_NAMES","pretty_flags","_Unknown","UNKNOWN","_get_name_info","_parse_varint","_netrclex","ENDMARKER","LPAR","RPAR","LSQB","RSQB","COLON","COMMA","SEMI","PLUS","MINUS","STAR","SLASH","VBAR","AMPER","LESS","GREATER","EQUAL","DOT","PERCENT","LBRACE","RBRACE","EQEQUAL","NOTEQUAL","LESSEQUAL","GREATEREQUAL","TILDE","CIRCUMFLEX","LEFTSHIFT","RIGHTSHIFT","DOUBLESTAR","PLUSEQUAL","MINEQUAL","STAREQUAL","SLASHEQUAL","PERCENTEQUAL","AMPEREQUAL","VBAREQUAL","CIRCUMFLEXEQUAL","LEFTSHIFTEQUAL","RIGHTSHIFTEQUAL","DOUBLESTAREQUAL","DOUBLESLASH","DOUBLESLASHEQUAL","AT","ATEQUAL","RARROW","ELLIPSIS","COLONEQUAL","EXCLAMATION","NT_OFFSET","EXACT_TOKEN_TYPES","ISTERMINAL","ISNONTERMINAL","ISEOF","_name_disallowed_re","_value_disallowed_re","Headers","_law_operators","_law_octets","_law_block","_law_words","_law_written","_law_lexer","_law_cut","_law_jumps","_law_names","_law_table","_law_melted","_law_known","_law_handed","_law_reached","_law_left"]:List String).map UK
noncomputable def RE:List Addr:=[2,3,32,34,35,37,38,39,40,42,43,45,46,54,56,57,59,60,61,62,63,64,65,68,69,70,72,73,75,76,77,79,80,82,83,91,93,94,96,97,98,100,101,103,104,105,107,108,110,111,112,114,115,117,118,119,120,121,122,123,126,129,131,132,134,135,136,138,139,141,142,143,145,146,148,149,153,154,158,159,167,168,170,171,173,174,175,177,178,180,181,182,184,185,187,188,189,191,192,194,195,196,199,200,201,203,204,206,207,208,210,211,213,214,215,217,218,220,221,222,223,225,226,228,229,230,233,234,235,238,239,240,242,243,245,246,247,249,250,252,253,254,257,258,259,261,262,264,265,266,268,269,271,272,273,275,276,278,279,280,281,282,283,284,287,289,290,292,293,294,296,297,299,300,301,304,305,306,309,310,311,314,315,316,319,320,321,324,325,326,328,329,331,332,333,336,337,338,340,341,343,344,345,348,349,350,353,354,355,358,359,360,362,363,365,366,367,370,371,372,375,376]
def KK(P:UB):Frag:=[(2,o2 P),(3,Co P),(32,oN P),(34,oO P),(35,oP P),(37,oQ P),(38,oR P),(39,ru P),(40,uz P),(42,uA P),(43,uB P),(45,uC P),(46,uD P),(54,uE P),(56,uF P),(57,uG P),(59,uH P),(60,uI P),(61,uJ P),(62,uK P),(63,uL P),(64,uM P),(65,uN P),(68,xG P),(69,xH P),(70,xI P),(72,xJ P),(73,xL P),(75,xN P),(76,xO P),(77,xP P),(79,xQ P),(80,xR P),(82,xS P),(83,xT P),(91,xU P),(93,xV P),(94,xW P),(96,xX P),(97,xY P),(98,xZ P),(100,pJ P),(101,pK P),(103,pL P),(104,pM P),(105,pN P),(107,pO P),(108,pP P),(110,pQ P),(111,pR P),(112,pS P),(114,pT P),(115,pU P),(117,pV P),(118,pW P),(119,pX P),(120,pY P),(121,pZ P),(122,p6 P),(123,p7 P),(126,xk P),(129,B6 P),(131,B7 P),(132,B8 P),(134,B9 P),(135,Ca P),(136,Cb P),(138,Cc P),(139,Ce P),(141,Cf P),(142,Cg P),(143,Ch P),(145,Ci P),(146,Cj P),(148,Ck P),(149,Cl P),(153,xl P),(154,tp P),(158,xm P),(159,tq P),(167,Cm P),(168,GA P),(170,GB P),(171,GC P),(173,GD P),(174,GE P),(175,GF P),(177,GG P),(178,GH P),(180,GI P),(181,GJ P),(182,GK P),(184,GL P),(185,GM P),(187,GN P),(188,GO P),(189,GP P),(191,GQ P),(192,GR P),(194,GS P),(195,GT P),(196,GU P),(199,GV P),(200,GW P),(201,GX P),(203,GY P),(204,GZ P),(206,G0 P),(207,G1 P),(208,G2 P),(210,G3 P),(211,G4 P),(213,G5 P),(214,G6 P),(215,G7 P),(217,G8 P),(218,G9 P),(220,Hc P),(221,Hd P),(222,tr P),(223,He P),(225,Hf P),(226,Hg P),(228,Hh P),(229,Hi P),(230,Hj P),(233,Hl P),(234,Hm P),(235,Hn P),(238,Ho P),(239,Hp P),(240,Hq P),(242,Hr P),(243,Hs P),(245,Hu P),(246,Hv P),(247,Hw P),(249,Hx P),(250,Hy P),(252,Hz P),(253,HA P),(254,HB P),(257,HC P),(258,HD P),(259,HE P),(261,HF P),(262,HG P),(264,HH P),(265,HI P),(266,HJ P),(268,HK P),(269,HL P),(271,HM P),(272,HN P),(273,HQ P),(275,HR P),(276,HT P),(278,HU P),(279,HV P),(280,HW P),(281,HX P),(282,HY P),(283,HZ P),(284,H6 P),(287,NQ P),(289,NR P),(290,NS P),(292,NT P),(293,NU P),(294,NV P),(296,NW P),(297,NX P),(299,NY P),(300,NZ P),(301,N0 P),(304,N1 P),(305,N2 P),(306,N3 P),(309,N4 P),(310,N5 P),(311,N6 P),(314,N7 P),(315,N8 P),(316,N9 P),(319,Oa P),(320,Ob P),(321,Oc P),(324,Od P),(325,Oe P),(326,Of P),(328,Og P),(329,Oh P),(331,Oi P),(332,Oj P),(333,Ol P),(336,Om P),(337,On P),(338,Oo P),(340,Op P),(341,Oq P),(343,Os P),(344,Ot P),(345,Ou P),(348,Ov P),(349,Ow P),(350,Ox P),(353,Oy P),(354,Oz P),(355,OA P),(358,OB P),(359,OC P),(360,OD P),(362,OE P),(363,OG P),(365,OH P),(366,OI P),(367,OJ P),(370,OK P),(371,OL P),(372,OM P),(375,ON P),(376,OO P)]
theorem Lu:∀ P,RE=(KK P).map (·.1):=λ_=>by kernel_rfl
noncomputable abbrev Hk:Hook:=kmHook KK RE Lu [356,317]
abbrev Lq:UJ->Bool:=λs=>xlAt qV [] s&&recOk (RowW.records oS.row.toRowW) s
end
section
theorem OS:∀ w:WC,(fencedOpening i9 pw w 7602).map (λs=>(s.heap,s.gens,s.drawn,s.toks))=some (H0 w.params,#[],⟨0,0,0,0⟩,276):=by intro w;kernel_rfl
end
section
theorem QD:∀(w:WC) (os:V3),topGo i9 pw w 28 gi 12 ⟨H0 w.params,#[],⟨0,0,0,0⟩,276,os⟩ (topStub pw)=some (⟨Ha w.params,#[],⟨0,0,0,0⟩,282,os⟩,⟨denote i9 cE,cE,Jt,[WZ fP]⟩):=by intro w os;kernel_rfl
theorem KJ:∀(w:WC) (os:V3),segRun i9 pw w 28 gi 1 1 ⟨Ha w.params,#[],⟨0,0,0,0⟩,282,os⟩ (PySem.W.blockOf bE iY cE Jt [WZ fP])=some (WW,((T0 w os).abs,(cE,p0))):=by intro w os;kernel_rfl
theorem QC:∀(w:WC) (os:V3),topRun i9 pw w 28 gi 2 (RB w os).abs ⟨doneF .next,cE,RW,[WZ fP]⟩=some ⟨H1 w.params,#[],⟨0,0,0,0⟩,992,os⟩:=by intro w os;kernel_rfl
theorem OV:∀ w:WC,((H0 w.params).isNs VZ&&(#[]:Array GenState).size==0,(H0 w.params).objs.size,(H0 w.params).nsMap VZ "__annotations__")=(true,28,gi):=by intro w;kernel_rfl
end
section
theorem KL:PySem.W.Fast.tw9446332074065402090 oS=true:=by kernel_rfl
theorem OU:oS.wellSaid=true:=(congrFun PySem.W.Fast.te9446332074065402090 oS).trans KL
end
section
theorem To(q:Xm)(h:chainsOk q=true):(chainsOk q&&opensWell pw&&(frees oS.row.toRowW&&oS.row.within.isEmpty))=true:=by
 rw[h]
 kernel_rfl
theorem OP:pw.bare:=⟨rfl,rfl,rfl,rfl,rfl,by decide +kernel⟩
theorem OT:oS.row.toRowW.promised:=⟨[.list []],by decide +kernel,by decide +kernel⟩
end
section
theorem Tm:∀(w:WC) (os:V3),openSeen qV nB (importedModules pw.main.body) Lq true ⟨H1 w.params,#[],⟨0,0,0,0⟩,992,os⟩=openGood qV nB:=by intro w os;kernel_rfl
end
section
theorem Tl:∀(w:WC) (os:V3),(staticsOk (importedModules pw.main.body) (H0 w.params) (H1 w.params)&&namesBound pw (H1 w.params)&&gensDone ⟨H1 w.params,#[],⟨0,0,0,0⟩,992,os⟩&&laidKept (H0 w.params) (H1 w.params))=true:=by intro w os;kernel_rfl
theorem Tn:∀(w:WC) (os:V3),Hk.obs ⟨H1 w.params,#[],⟨0,0,0,0⟩,992,os⟩=Hk.val w:=by intro w os;kernel_rfl
end
section
theorem g0:∀(w:WC) (os:V3),Y2 i9 pw w 28 gi 1 39 (T0 w os) (X9 (g8 0 2) iY cE p0 [WZ fP])=some (WW,(T2 w os,(cE,p2))):=by intro w os;kernel_rfl
end
section
theorem g2:∀(w:WC),(λw:WC=>∀ os:V3,Y2 i9 pw w 28 gi 1 141 (T2 w os) (X9 (g8 2 1) iY cE p2 [WZ fP])=some (WW,(T3 w os,(cE,p3)))) w:=byRow2 "special-get-raises" (by intro w os;kernel_rfl) (by intro w os;kernel_rfl)
end
section
theorem g3:∀(w:WC) (os:V3),Y2 i9 pw w 28 gi 1 253 (T3 w os) (X9 (g8 3 2) iY cE p3 [WZ fP])=some (WW,(T5 w os,(cE,p5))):=by intro w os;kernel_rfl
end
section
theorem g5:∀(w:WC) (os:V3),Y2 i9 pw w 28 gi 1 451 (T5 w os) (X9 (g8 5 5) iY cE p5 [WZ fP])=some (WW,(Rw w os,(cE,RQ))):=by intro w os;kernel_rfl
end
section
theorem Ue:∀(w:WC) (os:V3),Y2 i9 pw w 28 gi 1 460 (Rw w os) (X9 (g8 10 51) iY cE RQ [WZ fP])=some (WW,(Rx w os,(cE,RS))):=by intro w os;kernel_rfl
end
section
theorem Uf:∀(w:WC),(λw:WC=>∀ os:V3,Y2 i9 pw w 28 gi 1 979 (Rx w os) (X9 (g8 61 1) iY cE RS [WZ fP])=some (WW,(Ry w os,(cE,RT)))) w:=byRow2 "special-get-raises" (by intro w os;kernel_rfl) (by intro w os;kernel_rfl)
end
section
theorem Ug:∀(w:WC) (os:V3),Y2 i9 pw w 28 gi 1 243 (Ry w os) (X9 (g8 62 6) iY cE RT [WZ fP])=some (WW,(Rz w os,(cE,RU))):=by intro w os;kernel_rfl
end
section
theorem Uh:∀(w:WC) (os:V3),Y2 i9 pw w 28 gi 1 728 (Rz w os) (X9 (g8 68 1) iY cE RU [WZ fP])=some (WW,(RA w os,(cE,RV))):=by intro w os;kernel_rfl
end
section
theorem Ui:∀(w:WC) (os:V3),Y2 i9 pw w 28 gi 1 453 (RA w os) (X9 (g8 69 17) iY cE RV [WZ fP])=some (WW,(RB w os,(cE,RW))):=by intro w os;kernel_rfl
end
section
theorem E0:bE=(g8 0 2++(g8 2 1++(g8 3 2++(g8 5 5++(g8 10 51++(g8 61 1++(g8 62 6++(g8 68 1++(g8 69 17++[]))))))))):=by kernel_rfl
theorem QE:∀(w:WC) (os:V3),topRun i9 pw w 28 gi (12+(1+(39+(141+(253+(451+(460+(979+(243+(728+(453+2))))))))))) ⟨H0 w.params,#[],⟨0,0,0,0⟩,276,os⟩ (topStub pw)=some ⟨H1 w.params,#[],⟨0,0,0,0⟩,992,os⟩:=by
 intro w os
 have k:=piece_nil (env:=iY) (QC w os)
 have k:=Xk (Xj (Ui w os)) k
 have k:=Xk (Xj (Uh w os)) k
 have k:=Xk (Xj (Ug w os)) k
 have k:=Xk (Xj (Uf w os)) k
 have k:=Xk (Xj (Ue w os)) k
 have k:=Xk (Xj (g5 w os)) k
 have k:=Xk (Xj (g3 w os)) k
 have k:=Xk (Xj (g2 w os)) k
 have k:=Xk (Xj (g0 w os)) k
 rw[<-E0] at k
 have k:=piece_block (KJ w os) k
 exact go_top (QD w os) k
theorem EM:treeTable=i9:=PySem.W.Fast.te14364793385576792824
theorem OQ:LeftO pw qV nB Lq Hk.obs Hk.val 7602 true:=
 LeftO.of_pieces (H₀:=H0) (H₁:=H1) (gs₀:=#[]) (gs₁:=#[]) (d₀:=⟨0,0,0,0⟩) (d₁:=⟨0,0,0,0⟩) (k₀:=276) (k₁:=992) (m₀:=28) (ann:=gi) (M:=(12+(1+(39+(141+(253+(451+(460+(979+(243+(728+(453+2))))))))))))
  (λw=>by rw[EM];exact OS w) OV (λw os=>by rw[EM];exact QE w os) (by rfl)
  (λw=>funext λos=>Prod.ext (Tl w os) (Prod.ext (Tm w os) (Tn w os)))
def Ms:DefRec:={name:="law",params:=aC (aj 86),body:=(match aD (aj 86) with | .stmts b=>b|_=>[]),scope:=aE (aj 86),pos:=(match aj 86 with | .FunctionDef _ _ _ _ _ _ _ _ _ q=>q|_=>⟨0,0,0,0⟩)}
theorem head(walk:WalkO qV nB (XL qV []) Hk.says oS.row.toRowW Ms [] λf vs=>PySem.call f vs):oS.Holds:=
 holds_law OU λsaid=>holds_open (r:=oS.row) (q:=qV) (loose:=nB) (Xt:=Lq) (XP:=XL qV []) (Yf:=Hk.obs) (Ya:=Hk.val) (YP:=Hk.says) (N:=7602) (d:=Ms) (kwd:=[]) OQ Hk.of Hk.keeps (λs e=>xl_of s (Vu.mp e).1) XL.keeps (by kernel_rfl) (by kernel_rfl) (by kernel_rfl) (λs e=>recFacts_of (Vu.mp e).2) (by rfl) said (To _ (by kernel_rfl)) OP OT walk
end
end
section
open PySem PySem.Calls PyProof.Rows PySem.W PySem.SeqAt
section
noncomputable def cf(K:Frag)(a:Nat):Xf:=match K.lookup a with
 |some o=>(match o.data with | .func fd=>fd|_=>default)
 |none=>default
noncomputable def Mu{α:Type}(p:Sem α):Obj->Sem α:=match p with
 | .load _ _ k=>k
 |p=>λ_=>p
theorem CT{M:Model}{A:Vh}{E:UF->UJ->Prop}{s:UJ}{α:Type}{p:Sem α}{a:Addr}{o:Obj}{x:α}{Q:α->UJ->Prop}(e:p= .load a none (Mu p))(ho:s.heap.get? a=some o)(h:Mu p o=pure x)(hq:Q x s):UI M A p Q E s:=
 e.symm▸UA (m:=load a) (f:=Mu p) (wpAny_load ho (X7 h hq))
theorem ri{α β:Type}[BEq α][LawfulBEq α]{l:List (α×β)}{x:α}{y:β}(h:l.lookup x=some y):(x,y)∈l:=by
 obtain⟨l1,l2,q,_⟩:=List.lookup_eq_some_iff.mp h
 exact q▸List.mem_append_right _ m0
theorem mV{α β:Type}[BEq α][LawfulBEq α]{l:List (α×β)}{f:α×β->Bool}(k:l.all f=true){x:α}{y:β}(h:l.lookup x=some y):f (x,y)=true:=UP.mp k _ (ri h)
theorem jk{α β:Type}[BEq α][LawfulBEq α]{l:List (α×β)}{f:α×β->Bool}(k:l.all f=true){x:α}(h:(l.lookup x).isSome=true):∃ y,f (x,y)=true:=(VF.mp h).imp λy e=>mV k e
theorem jF(p:UB):I5.all (λq=>plainGet (KK p) q.1 ⟨#[]⟩&&(hasDictIn (KK p) q.1&&(makesIn (KK p) q.1&&(XX (KK p) (.ref q.1) "__init__"==some (some (.ref q.2))&&(typeIn (KK p) (.ref q.2)==some (.type "function")&&
  (XX (KK p) (.ref q.1) "__setattr__"==some (some (.builtin "object.__setattr__"))&&(plainOver (KK p) q.1&&((clsIn (KK p) q.1).any (·.hasDict)&&(keepIn (KK p) (.ref q.1)&&(UD 23).all λi=>(jg q.1 (NM.ofNat i)).isSome||XX (KK p) (.ref q.1) (UK (NM.ofNat i).txt)==some none)))))))))=true:=by kernel_rfl
theorem xa(p:UB):Jc.all (λq=>XX (KK p) (.ref q.1.1) (UK q.1.2.txt)==some (some (.ref q.2))&&(isFn (KK p) (.ref q.2)&&(specialIn (KK p) (.ref q.2) "__get__"==some (some (.builtin "function.__get__"))&&(takesIn (KK p) (.ref q.2)==some false&&!copiedNames.contains (UK q.1.2.txt)))))=true:=by kernel_rfl
noncomputable def DE(K:Frag)(n:Str)(q:Nat×Nat):Bool:=noSeq K q.1&&(XX K (.ref q.1) n==some (some (.ref q.2))&&isFn K (.ref q.2))
theorem wQ(p:UB):(DE (KK p) "__setitem__" (282,195)&&DE (KK p) "__delitem__" (282,200))=true:=by kernel_rfl
def LZ(K:Frag)(q:Nat×bN):Bool:=keepIn K (.ref q.1)&&(fnIn K q.1&&((K.lookup q.1).any (λo=>match o.data with | .func _=>true|_=>false)&&
 (H8 (cf K q.1).scope&&(!(cf K q.1).scope.isGenerator&&(!(cf K q.1).scope.isCoroutine&&((cf K q.1).globals==VZ&&((cf K q.1).builtins==Wy&&((cf K q.1).closure.isEmpty&&((fZ (cf K q.1).scope).take q.2.pos==fB (cf K q.1).params&&
 (decide (fZ (cf K q.1).scope).Nodup&&((fZ (cf K q.1).scope).length==q.2.pos+q.2.extra&&(qO K (cf K q.1)&&match(cf K q.1).body with
  | .stmts body=>kH q.1 q.2 (lI q.1 (cf K q.1).scope) (BG (cf K q.1).scope) (q.2.pos+q.2.extra) body
  |_=>false))))))))))))
theorem wm(p:UB):L6.all (LZ (KK p))=true:=by kernel_rfl
section
variable {p:UB}
theorem Ee{f:Nat->Bool}(h:(UD 23).all f=true)(m:NM):f m.ctorIdx=true:=UP.mp h _ (UR.mpr m.lt)
theorem Sd(p:UB):Lj (KK p) where
 get:=λc h=>(jk (jF p) h).elim λy q=>⟨a1 q,a1 (a2 q)⟩
 meth:=λc m f h=>have q:=mV (xa p) h;⟨eq_of_beq (a1 q),a1 (a2 q)⟩
 bnd:=λc m f h=>have q:=a2 (a2 (mV (xa p) h));⟨eq_of_beq (a1 q),eq_of_beq (a1 (a2 q)),nt (a2 (a2 q))⟩
 fld:=λc m h hm=>(jk (jF p) h).elim λy q=>(Vr.mp (Ee (a2 (a2 (a2 (a2 (a2 (a2 (a2 (a2 (a2 q))))))))) m)).elim (λz=>by rw[NM.ofNat_ctorIdx,hm] at z;exact ft z) λz=>by rw[NM.ofNat_ctorIdx] at z;exact eq_of_beq z
theorem Uo(p:UB):II (KK p) where
 made:=λa i h=>have q:=a2 (a2 (mV (jF p) h));⟨a1 q,eq_of_beq (a1 (a2 q)),eq_of_beq (a1 (a2 (a2 q)))⟩
theorem Ty(p:UB):vI (KK p) where
 set:=λc h=>(jk (jF p) h).elim λy q=>have q:=a2 (a2 (a2 (a2 (a2 q))));⟨eq_of_beq (a1 q),a1 (a2 q),a1 (a2 (a2 q))⟩
theorem Qm(p:UB):ve (KK p) where
 set:=λc f h=>by
  have q:=a1 (wQ p)
  cases(US.mp (ri h))
  exact⟨a1 q,eq_of_beq (a1 (a2 q)),a2 (a2 q)⟩
 del:=λc f h=>by
  have q:=a2 (wQ p)
  cases(US.mp (ri h))
  exact⟨a1 q,eq_of_beq (a1 (a2 q)),a2 (a2 q)⟩
theorem Uc(p:UB):Rq (KK p) where
 keep:=λa h=>h.elim (λh=>(jk (jF p) h).elim λy q=>a1 (a2 (a2 (a2 (a2 (a2 (a2 (a2 (a2 q))))))))) λh=>(jk (wm p) h).elim λy q=>a1 q
 fn:=λa h=>(jk (wm p) h).elim λy q=>a1 (a2 q)
theorem Ud{K:Frag}{a:Nat}{g:bN}(q:LZ K (a,g)=true):∃ cl di sl body,K.lookup a=some ⟨cl,di,.func (cf K a),sl⟩/\Rs K a g (cf K a) body:=by
 have q:=a2 (a2 q)
 have hl:∃ cl di sl,K.lookup a=some ⟨cl,di,.func (cf K a),sl⟩:=by
  have h:=a1 q
  unfold cf
  revert h
  cases K.lookup a with
  |none=>exact ft
  |some o=>
   obtain⟨cl,di,d,sl⟩:=o
   cases d<;>first|exact ft|exact λ_=>⟨cl,di,sl,rfl⟩
 have q:=a2 q
 generalize cf K a=fd at *
 have q1:=a2 (a2 (a2 q))
 have q2:=a2 (a2 (a2 q1))
 have q3:=a2 (a2 (a2 q2))
 have q4:=a2 q3
 have hb:∃ body,fd.body= .stmts body/\kH a g (lI a fd.scope) (BG fd.scope) (g.pos+g.extra) body=true:=by
  revert q4
  cases fd.body<;>first|exact λh=>⟨_,rfl,h⟩|exact ft
 obtain⟨body,hb,hc⟩:=hb
 obtain⟨cl,di,sl,hl⟩:=hl
 exact⟨cl,di,sl,body,hl,a1 q,nt (a1 (a2 q)),nt (a1 (a2 (a2 q))),eq_of_beq (a1 q1),eq_of_beq (a1 (a2 q1)),Zi.mp (a1 (a2 (a2 q1))),eq_of_beq (a1 q2),of_decide_eq_true (a1 (a2 q2)),eq_of_beq (a1 (a2 (a2 q2))),a1 q3,hb,hc⟩
end
end
section
section
variable {c:Cx}{g:bN}{fd:Xf}{w:Wd}{H:AH}{O:PH}
theorem gM{P:List UF->Prop}(k:∀ a,P [a])(vs:List UF)(h:vs.length=1):P vs:=(V7.mp h).elim λa e=>e▸k a
theorem FN{P:List UF->Prop}{n:Nat}(k:∀ a l,l.length=n->P (a::l))(vs:List UF)(h:vs.length=n+1):P vs:=Vk (motive:=λvs=>vs.length=n+1->P vs) vs (λh=>nomatch h) (λa l h=>k a l (ZJ h)) h
theorem fw{P:List UF->Prop}(k:∀ a b,P [a,b])(vs:List UF)(h:vs.length=2):P vs:=FN (λa l h=>gM (P:=λl=>P (a::l)) (k a) l h) vs h
theorem So{P:List UF->Prop}(k:P [])(vs:List UF)(h:vs.length=0):P vs:=List.length_eq_zero_iff.mp h▸k
theorem FM{P:List UF->Prop}(k:∀ a b d,P [a,b,d])(vs:List UF)(h:vs.length=3):P vs:=FN (λa l h=>fw (P:=λl=>P (a::l)) (k a) l h) vs h
theorem Mv{P:List UF->Prop}(k:∀ a b d e,P [a,b,d,e])(vs:List UF)(h:vs.length=4):P vs:=FN (λa l h=>FM (P:=λl=>P (a::l)) (k a) l h) vs h
theorem aK(hk:g.kind= .std)(hb:∀ vs:List UF,vs.length=g.pos->Wb fd ⟨vs,[]⟩=pure ((fB fd.params).zip vs)):jn c g fd:=λ{args kws full vs kvs w O H A s E Qb} e hl hv hks S hQ=>
 gg (x:=some args) (P:=λkws=>eA c w kws kvs->_) ((congrArg (λk=>Bn k args kws) hk).symm.trans e) (λe hks=>hks.nk (P:=λkvs=>UI _ A (Wb fd ⟨vs,kvs⟩) Qb E s) (X7 (hb vs (hv.length.trans ((congrArg Yq (sj e)).trans hl))) (hQ w s.heap s.toks vs (.refl _) S (sj e▸hv)))) hks
theorem VRs.snoc{l:List AV}{vs:List UF}{d:AV}{v:UF}(h:VRs c w l vs)(hv:VR c w d v):VRs c w (l++[d]) (vs++[v]):=h.append (.cons hv .nil)
theorem eA.one{kws:NM×AV}{kvs:List (Str×UF)}{P:List (Str×UF)->Prop}(h:eA c w [kws] kvs)(k:∀ v,VR c w kws.2 v->P [(UK kws.1.txt,v)]):P kvs:=by
 obtain⟨p,rfl⟩:=V7.mp (show kvs.length=1 from(UC (f:=(·.1)) ..).symm.trans (congrArg Yq h.n))
 exact(show(UK kws.1.txt,p.2)=p from Prod.ext (WS h.n).1.symm rfl)▸(h.v.get (i:=0) rfl).elim λu e=>k p.2 ((show u=p.2 from(YB e.1).symm)▸e.2)
theorem nv{vs:List UF}{args:List AV}{d:AV}{n:Nat}(hv:VRs c w args vs)(hl:(args++[d]).length=n+1):vs.length=n:=hv.length.trans (ZJ ((UM (as:=args) (bs:=[d])).symm.trans hl))
end
section
variable {c:Cx}
theorem PW:jn c ce (cf (KK c.w.params) 181):=λ{args kws full vs kvs w O H A s E Qb} e hl hv hks S hQ=>
 nJ (P:=λkws=>eA c w kws kvs->_) e (λq e hks=>bH e λhm e=>hks.one (P:=λkvs=>UI _ A (Wb _ ⟨vs,kvs⟩) Qb E s) λv r=>by
  obtain⟨m,d⟩:=q
  cases(show m= .kName from hm)
  cases sj e
  have hn:=nv hv hl
  revert hv
  refine fw (P:=λvs=>VRs c w args vs->UI _ A (Wb _ ⟨vs,_⟩) Qb E s) (λa b hv=>?_) vs hn
  rw[show Wb (cf (KK c.w.params) 181) ⟨[a,b],[(UK NM.kName.txt,v)]⟩=pure ((fB (cf (KK c.w.params) 181).params).zip [a,b,v]) by kernel_rfl]
  exact UE (hQ w s.heap s.toks [a,b,v] (.refl _) S (hv.snoc r))) hks
theorem PV(hX:cM c (KK c.w.params)):jn c eW (cf (KK c.w.params) 174):=λ{args kws full vs kvs w O H A s E Qb} e hl hv hks S hQ=>
 gg (x:=some args) (P:=λkws=>eA c w kws kvs->_) e (λe hks=>hks.nk (P:=λkvs=>UI _ A (Wb _ ⟨vs,kvs⟩) Qb E s) (by
  cases sj e
  have hn:=hv.length.trans hl
  revert hv
  refine fw (P:=λvs=>VRs c w args vs->UI _ A (Wb _ ⟨vs,_⟩) Qb E s) (λa b hv=>?_) vs hn
  exact CT (a:=167) (o:=Cm c.w.params) (by kernel_rfl) (jp hX S _ _ (by kernel_rfl)) (by kernel_rfl) (hQ w s.heap s.toks _ (.refl _) S hv))) hks
theorem PX(hX:cM c (KK c.w.params)):jn c fD (cf (KK c.w.params) 229):=λ{args kws full vs kvs w O H A s E Qb} e hl hv hks S hQ=>by
 have X:=jp hX S _ _ (show(KK c.w.params).lookup 222=some (tr c.w.params) by kernel_rfl)
 cases kws with
 |nil=>
  cases sj e
  refine hks.nk (P:=λkvs=>UI _ A (Wb _ ⟨vs,kvs⟩) Qb E s) ?_
  have hn:=nv hv hl
  revert hv
  refine fw (P:=λvs=>VRs c w args vs->UI _ A (Wb _ ⟨vs,_⟩) Qb E s) (λa b hv=>?_) vs hn
  exact CT (a:=222) (o:=tr c.w.params) (by kernel_rfl) X (by kernel_rfl) (hQ w s.heap s.toks _ (.refl _) S (hv.snoc .none))
 |cons q l=>
  refine gg (P:=λl=>eA c w (q::l) kvs->_) e (λe hks=>bH e λhm e=>hks.one (P:=λkvs=>UI _ A (Wb _ ⟨vs,kvs⟩) Qb E s) λv r=>?_) hks
  obtain⟨m,d⟩:=q
  cases(show m= .kDefault from hm)
  cases sj e
  have hn:=nv hv hl
  revert hv
  refine fw (P:=λvs=>VRs c w args vs->UI _ A (Wb _ ⟨vs,_⟩) Qb E s) (λa b hv=>?_) vs hn
  exact CT (a:=222) (o:=tr c.w.params) (by kernel_rfl) X (by kernel_rfl) (hQ w s.heap s.toks _ (.refl _) S (hv.snoc r))
theorem yO{A:Vh}{s:UJ}{E:UF->UJ->Prop}{dd:Addr}{name:Str}{v:UF}{Q:Unit->UJ->Prop}(D:s.heap.get? dd=some dQ)
  (hQ:∀ h' tk hsh t,VL dd s.heap h'->h'.get? dd=some (Xl [⟨hsh,.str name t,v⟩] 1)->Q () {s with heap:=h',toks:=tk}):UI (UN c.prog c.w) A (nsSet dd name v) Q E s:=by
 have D0:s.heap.get? dd=some (Xl [] 0):=D
 have D':=Heap.get?_update_self (Obj.putName name (WE c.w.params name) (.str name s.toks) v) D0 (by rw[Yt];rfl)
 unfold nsSet
 refine UA (UA (ZM (UE (UA (wpAny_mkText (UA (wpAny_loadPart D0 ?_)))))))
 dsimp only
 rw[aRefKeyMayBeTheName_at,show(!(#[]:Array Vx).any (λx=>x.key.isStr name)&&(#[]:Array Vx).any (λx=>x.refKey))=false by simp]
 refine wpAny_updatePart D0 ?_
 rw[Yt] at D'
 exact hQ _ _ _ _ (λb o q e=>(Heap.get?_update_ne _ _ _ _ q).trans e) D'
theorem St.kwd{w:Wd}{H:AH}{O:PH}{h h':Heap}(hX:cM c (KK c.w.params))(S:St c w H O h)(k:VL h.objs.size (h.push dQ) h'){es:List Vx}{n:Nat}(hd:h'.get? h.objs.size=some (Xl es n)){l:List (NM×AV)}(hk:KRs c w l es):
  ∃ w',w.le w'/\St c w' H O h'/\VR c w' (.kwd l) (.ref h.objs.size):=by
 have f:=cy h
 have le:=Wd.add_le (o:=Xl es n) (S.g_none f)
 have ns:(h.objs.size==ZC)=false:=beq_false_of_ne λq=>hX.gl.elim λmg z=>z.elim λmb z=>z.1.elim λo z=>z.elim λes z=>z.elim λep z=>absurd (q▸Vz (S.keep _ _ (S.top _ _ z.1))) (by decide)
 exact⟨_,le,(S.keeps λb o e=>k b o (V0 (Vz e)) (Heap.get?_push_of_some _ e)).freeze hd (S.g_none f) (S.o_none f) (S.not_alpha f),.kwd Wd.add_at ns (hk.mono le)⟩
theorem Sb(hX:cM c (KK c.w.params)):jn c fQ (cf (KK c.w.params) 76):=λ{args kws full vs kvs w O H A s E Qb} e hl hv hks S hQ=>by
 cases kws with
 |nil=>
  cases sj e
  refine hks.nk (P:=λkvs=>UI _ A (Wb _ ⟨vs,kvs⟩) Qb E s) ?_
  have hn:=nv hv hl
  revert hv
  refine fw (P:=λvs=>VRs c w args vs->UI _ A (Wb _ ⟨vs,_⟩) Qb E s) (λa b hv=>?_) vs hn
  obtain⟨w1,l1,S1,r1⟩:=S.kwd hX (λb o _ e=>e) (Heap.get?_push_size _ rfl) (n:=0) .nil
  rw[show Wb (cf (KK c.w.params) 76) ⟨[a,b],[]⟩=(alloc dQ>>=λd=>pure ((fB (cf (KK c.w.params) 76).params).zip [a,b,.ref d])) by kernel_rfl]
  exact UA (Y1 (UE (hQ w1 _ s.toks _ l1 S1 (VRs.snoc (hv.mono l1) r1))))
 |cons q l=>
  refine gg (P:=λl=>eA c w (q::l) kvs->_) e (λe hks=>bH e λhm e=>hks.one (P:=λkvs=>UI _ A (Wb _ ⟨vs,kvs⟩) Qb E s) λv r=>?_) hks
  obtain⟨m,d⟩:=q
  cases(show m= .kDefault from hm)
  cases sj e
  have hn:=nv hv hl
  revert hv
  refine fw (P:=λvs=>VRs c w args vs->UI _ A (Wb _ ⟨vs,_⟩) Qb E s) (λa b hv=>?_) vs hn
  rw[show Wb (cf (KK c.w.params) 76) ⟨[a,b],[(UK NM.kDefault.txt,v)]⟩=(alloc dQ>>=λd=>(((nsSet d "default" v>>=λ_=>pure (VI Wu))>>=λ(r:ForInStep PUnit)=>match r with | .done b=>pure b | .yield b=>pure b)>>=λ_=>pure ((fB (cf (KK c.w.params) 76).params).zip [a,b,.ref d]))) by kernel_rfl]
  refine UA (Y1 (UA (UA (UA (yO (Heap.get?_push_size _ rfl) λh' tk hsh t k1 k2=>UE (UE (UE ?_)))))))
  obtain⟨w1,l1,S1,r1⟩:=S.kwd hX k1 k2 (.cons (p:=(.kDefault,d)) r .nil)
  exact hQ w1 h' tk _ l1 S1 (VRs.snoc (hv.mono l1) r1)
end
theorem E4{c:Cx}(hX:cM c (KK c.w.params)):∀ q∈L6,jn c q.2 (cf (KK c.w.params) q.1):=
 UL.mpr ⟨aK rfl (gM (λa=>by kernel_rfl)),
 UL.mpr ⟨Sb hX,
 UL.mpr ⟨aK rfl (gM (λa=>by kernel_rfl)),
 UL.mpr ⟨aK rfl (fw (λa b=>by kernel_rfl)),
 UL.mpr ⟨aK rfl (gM (λa=>by kernel_rfl)),
 UL.mpr ⟨aK rfl (gM (λa=>by kernel_rfl)),
 UL.mpr ⟨aK rfl (fw (λa b=>by kernel_rfl)),
 UL.mpr ⟨aK rfl (gM (λa=>by kernel_rfl)),
 UL.mpr ⟨aK rfl (gM (λa=>by kernel_rfl)),
 UL.mpr ⟨aK rfl (gM (λa=>by kernel_rfl)),
 UL.mpr ⟨PV hX,
 UL.mpr ⟨PW,
 UL.mpr ⟨aK rfl (FM (λa b d=>by kernel_rfl)),
 UL.mpr ⟨aK rfl (fw (λa b=>by kernel_rfl)),
 UL.mpr ⟨PX hX,
 UL.mpr ⟨aK rfl (gM (λa=>by kernel_rfl)),
 UL.mpr ⟨aK rfl (So (by kernel_rfl)),
 UL.mpr ⟨aK rfl (gM (λa=>by kernel_rfl)),
 UL.mpr ⟨aK rfl (gM (λa=>by kernel_rfl)),
 UL.mpr ⟨aK rfl (fw (λa b=>by kernel_rfl)),
 UL.mpr ⟨aK rfl (fw (λa b=>by kernel_rfl)),
 UL.mpr ⟨aK rfl (gM (λa=>by kernel_rfl)),
 UL.mpr ⟨aK rfl (fw (λa b=>by kernel_rfl)),
 UL.mpr ⟨aK rfl (fw (λa b=>by kernel_rfl)),
 UL.mpr ⟨aK rfl (fw (λa b=>by kernel_rfl)),
 UL.mpr ⟨aK rfl (Mv (λa b d e=>by kernel_rfl)),
 UL.mpr ⟨aK rfl (Mv (λa b d e=>by kernel_rfl)),
 UL.mpr ⟨aK rfl (FM (λa b d=>by kernel_rfl)),
 UL.mpr ⟨aK rfl (fw (λa b=>by kernel_rfl)),
 UL.mpr ⟨aK rfl (fw (λa b=>by kernel_rfl)),
 UL.mpr ⟨aK rfl (gM (λa=>by kernel_rfl)),
 UL.mpr ⟨aK rfl (gM (λa=>by kernel_rfl)),
 λ_ h=>nomatch h⟩⟩⟩⟩⟩⟩⟩⟩⟩⟩⟩⟩⟩⟩⟩⟩⟩⟩⟩⟩⟩⟩⟩⟩⟩⟩⟩⟩⟩⟩⟩⟩
end
end
section
open PySem PySem.Calls PyProof.Rows PySem.W PySem.SeqAt PySem.Builtin PySem.Builtin.Re
section
theorem qP:entryFor table "re.Pattern.search" =some Builtin.«re.Pattern.search»:=Yg (by kernel_rfl)
theorem r7(a b:UF):YV "re.Pattern.search" ⟨[a,b],[]⟩:=by unfold YV;kernel_rfl
noncomputable def vg(code:Array Nat)(x:Str):Prop:=∀ ch∈x.cps.toList,∀ seen,∃ seen',ZE code ch code.size 5 true seen= .ok (false,seen')
theorem lY{m:Sre.M}(h:∀ s,s<m.lim->∀ seen,∃ seen',ZE m.code (m.text.getD s 0) m.code.size 5 true seen= .ok (false,seen')):∀(f s:Nat) (seen:Sre.Seen),∃ seen',Sre.M.admitted m f s seen= .ok (none,seen')
 |0,s,seen=>⟨seen,rfl⟩
 |f+1,s,seen=>by
  unfold Sre.M.admitted
  by_cases hs:s≥m.lim
  ·rw[if_pos hs];exact⟨_,rfl⟩
  ·rw[if_neg hs]
   obtain⟨seen',e⟩:=h s (by omega) seen
   rw[e]
   exact lY h f (s+1) seen'
theorem Dk{m:Sre.M}{s:Nat}{first:Bool}(hf:m.hasFirstSet=true)(h:∀ s,s<m.lim->∀ seen,∃ seen',ZE m.code (m.text.getD s 0) m.code.size 5 true seen= .ok (false,seen')):
  ∃ seen',m.attemptFrom s first= {m with seen:=seen',answer:=some false}:=by
 unfold Sre.M.attemptFrom
 rw[hf]
 obtain⟨seen',e⟩:=lY h (m.lim+1-s) s m.seen
 refine⟨seen',?_⟩
 simp only[Bool.not_true,Vq,if_false]
 rw[e]
 rfl
theorem BH{m:Sre.M}{s:Nat}{first:Bool}(hf:m.hasFirstSet=true)(h:∀ s,s<m.lim->∀ seen,∃ seen',ZE m.code (m.text.getD s 0) m.code.size 5 true seen= .ok (false,seen'))
  (ho:m.outcome=none) (hfr:m.frames=[]):(m.attemptFrom s first).outcome=none/\(m.attemptFrom s first).answer=some false/\(m.attemptFrom s first).frames=[]:=by
 obtain⟨seen',e⟩:=Dk (s:=s) (first:=first) hf h
 rw[e]
 exact⟨ho,rfl,hfr⟩
noncomputable def zy(code:Array Nat):Bool:=(match Sre.ops[code.getD 0 0]? with|some .INFO=>true|_=>false)&&code.getD 2 0==4
theorem yR{code:Array Nat}{x:Str}{lim:Nat}(hl:lim<=x.cps.size)(hn:vg code x)(h1:zy code=true):
  (YR code x.cps 0 0 lim false).outcome=none/\(YR code x.cps 0 0 lim false).answer=some false/\(YR code x.cps 0 0 lim false).frames=[]:=by
 have hin:∀ s,s<lim->∀ seen,∃ seen',ZE code (x.cps.getD s 0) code.size 5 true seen= .ok (false,seen'):=by
  intro s hs seen
  refine hn _ ?_ seen
  have:s<x.cps.size:=by omega
  rw[Array.getD_eq_getD_getElem?,Array.getElem?_eq_getElem this]
  exact Array.mem_toList_iff.mpr (Array.getElem_mem this)
 unfold YR
 dsimp only
 split
 ·exact⟨rfl,rfl,rfl⟩
 ·exact BH h1 hin rfl rfl
theorem Iq{m:Sre.M}(ho:m.outcome=none)(ha:m.answer=some false)(hf:m.frames=[]):m.runFor 4= {m with outcome:=some .failed}:=by
 have hs:m.step= {m with outcome:=some .failed}:=by
  unfold Sre.M.step
  rw[ho,ha,hf]
  rfl
 show Sre.M.runFor (3+1) m=_
 rw[Sre.M.runFor,ho]
 simp only[W7,Vq,if_false]
 rw[hs]
 rfl
section
variable {prog:Xm}{w:WC}{A:Vh}{E:UF->UJ->Prop}{s:UJ}
theorem yl{β:Type}{f:β->Bool}{g:β->String}:∀(l:List β) {Q:PUnit->UJ->Prop},Q ⟨⟩ s->UI (UN prog w) A (forIn l Wu λi _=>if f i=true then(do rule (g i);pure (VI Wu)) else pure (VI Wu)) Q E s
 | [],Q,h=>by rw[List.forIn_nil];exact UE h
 |i::l,Q,h=>by
  rw[VT]
  refine UA ?_
  have go:UI (UN prog w) A (forIn l Wu λi _=>if f i=true then(do rule (g i);pure (VI Wu)) else pure (VI Wu)) Q E s:=yl l h
  by_cases hb:f i=true
  ·simp only[hb,if_true]
   exact UA (Xg (UE go))
  ·rw[if_neg hb]
   exact UE go
theorem By{m:Sre.M}(ho:m.outcome=none)(ha:m.answer=some false)(hf:m.frames=[]){Q:Option Sre.M->UJ->Prop}(h:Q none s):UI (UN prog w) A (reRunToEnd m) Q E s:=by
 unfold reRunToEnd
 have e64:(2:Nat)^64=18446744073709551615+1:=by decide
 refine UA ?_
 rw[e64,reDrive]
 rw[show reTurnSteps=4 from rfl,Iq ho ha hf]
 refine UE ?_
 refine UA (yl _ ?_)
 exact UE h
theorem D7{x:UF}{Q:List (Option UF)->UJ->Prop}(h:Q [some x,none,none] s):UI (UN prog w) A (reNamed "re.Pattern.search" "search" ["string","pos","endpos"] 1 [x] []) Q E s:=UE h
theorem AK{a cr:Addr}{o oc:Obj}{fs items:Array UF}{n:Nat}{x:Str}{t:Tok}{Q:UF->UJ->Prop}(ho:s.heap.get? a=some o)(hcl:o.cls= .type "re.Pattern")(hd:o.data= .fields fs)
  (h2:reRawNat (fs.getD 2 .none)=0) (h5:fs.getD 5 .none= .ref cr) (h6:reRawNat (fs.getD 6 .none)=0) (hc:s.heap.get? cr=some oc) (hcd:oc.data= .seq items n)
  {code:Array Nat} (hco:(items.map reRawOf).map (·.toNat)=code) (h1:zy code=true) (hn:vg code x) (h:Q .none s):
  UI (UN prog w) A (call (.builtin "re.Pattern.search") [.ref a,.str x t]) Q E s:=by
 cases hco
 refine WK lq ⟨o,ho,hcl⟩ qP ?_ (r7 _ _)
 unfold Builtin.«re.Pattern.search»
 refine UA ?_
 unfold reTarget
 refine UA (D7 ?_)
 refine UA (UE ?_)
 refine UA (UE ?_)
 refine UA (wpAny_fieldsOf ho hd ?_)
 refine UA (UE (a:=(x.cps,0)) ?_)
 dsimp only
 rw[h6,h5]
 refine UA (UE ?_)
 refine UA (UA (wpAny_seqItems hc hcd (UE ?_)))
 refine UE ?_
 unfold reAnswer
 refine UA ?_
 dsimp only
 rw[h2]
 obtain⟨g1,g2,g3⟩:=yR (lim:=min ((2^63-1:Int)).toNat x.cps.size) (Nat.min_le_right _ _) hn h1
 exact By g1 g2 g3 (UE ⟨_,rfl,h⟩)
end
noncomputable def lp(k:Bool):Array Nat:=match k with
 |true=>#[14,10,4,1,1,22,0,31,16,127,0,13,7,22,0,31,16,127,0,1]
 |false=>#[14,14,4,1,1,9,4294966783,0,0,2147483648,0,0,0,0,0,13,11,9,4294966783,0,0,2147483648,0,0,0,0,0,1]
noncomputable def A6(r:Except String (Bool×Sre.Seen)):Prop:=∃ seen',r= .ok (false,seen')
theorem s7{b:Bool}{x y:Except String (Bool×Sre.Seen)}(h:b=false)(k:A6 y):A6 (if b=true then x else y):=h▸k
theorem M2{x:Str}(h:x.cps.toList.any dP=false):vg (lp true) x:=by
 intro ch hm seen
 have hc:dP ch=false:=by
  rw[YZ] at h
  simpa using h ch hm
 unfold dP at hc
 simp only[Bool.or_eq_false_iff,decide_eq_false_iff_not,beq_eq_false_iff_ne] at hc
 obtain⟨c1,c2⟩:=hc
 show A6 (if(decide (0<=ch)&&decide (ch<=31))=true then _ else if(ch==127)=true then _ else Except.ok (false,_))
 exact s7 (by rw[decide_eq_false c1,Yo]) (s7 (beq_false_of_ne c2) ⟨_,rfl⟩)
theorem Br:∀ c,c<256->bP c=false->((lp false).getD (5+(1+c/32)) 0).testBit (c%32)=false:=by decide +kernel
theorem M3{x:Str}(h:x.cps.toList.any bP=false):vg (lp false) x:=by
 intro ch hm seen
 have hc:bP ch=false:=by
  rw[YZ] at h
  simpa using h ch hm
 show A6 (if(decide (ch<256)&&((lp false).getD (5+(1+ch/32)) 0).testBit (ch%32))=true then _ else Except.ok (false,_))
 exact s7 (Decidable.byCases (λhl=>by rw[Br ch hl hc,Yo]) λhl=>by rw[decide_eq_false hl,Bool.false_and]) ⟨_,rfl⟩
theorem Ut{c:Cx}{p:UB}(X:(KK p).In c.H0):Rv c where
 at_:=λk=>⟨if k then tp p else tq p,by cases k<;>exact X _ _ (by kernel_rfl),by cases k<;>rfl,by cases k<;>rfl⟩
 call:=λk A E Q s x t hH hx hQ=>by
  cases k
  ·exact AK (hH _ _ (X 159 (tq p) (by kernel_rfl))) rfl rfl (by rfl) (by rfl) (by rfl) (hH _ _ (X 158 (xm p) (by kernel_rfl))) rfl (code:=lp false) (by kernel_rfl) (by kernel_rfl) (M3 (nt hx)) hQ
  ·exact AK (hH _ _ (X 154 (tp p) (by kernel_rfl))) rfl rfl (by rfl) (by rfl) (by rfl) (hH _ _ (X 153 (xl p) (by kernel_rfl))) rfl (code:=lp true) (by kernel_rfl) (by kernel_rfl) (M2 (nt hx)) hQ
end
end
section
open PySem PySem.Calls PyProof.Rows PySem.W PySem.SeqAt PySem.Builtin AutoSeq1 MeetsSeq MeetsSeq2 MeetsSeq3
section
structure fg(items:Array UF)(xs:List Int):Prop where
 len:items.size=xs.length
 at_:∀ j (h:j<xs.length),∃ t,items[j]? =some (.int xs[j] t)
theorem Ew{prog:Xm}{w:WC}{A:Vh}{E:UF->UJ->Prop}{s:UJ}{a b:Int}{t u:Tok}{Q:UF->UJ->Prop}(h:Q (.bool (decide (a<b))) s):UI (UN prog w) A (richCompare .Lt (.int a t) (.int b u)) Q E s:=
 wpAny_richCompare_same (typeIs_int s a t) (typeIs_int s b u) slot_int_lt (call_int_lt ⟨by simp,h⟩)
theorem DZ(l b:Addr)(items items2:Array UF)(n n2:Nat)(dd dd2:Option Addr)(sl sl2:Array (Option UF))(xs ys:List Int)(hx:fg items xs)(hy:fg items2 ys)(k:Nat):
  ∀ i:Nat,i<=xs.length->i<=ys.length->xs.length-i=k->Meets (Builtin.«list.__eq__.loop» ⟨[.ref l,.ref b,rawInt i,rawInt 0],[]⟩)
   (λA R s=>s.heap.get? l=some {cls:=.type "list",dict:=dd,data:=.seq items n,slots:=sl}/\s.heap.get? b=some {cls:=.type "list",dict:=dd2,data:=.seq items2 n2,slots:=sl2}/\
    R (.ok (.ret (.bool (fL (xs.drop i) (ys.drop i))))) s):=by
 induction k with
 |zero=>
  intro i h1 h2 hk prog w A R s h
  obtain⟨hp,g,d,tk,os⟩:=s;obtain⟨hl,hb,h⟩:=h
  have hi1:items[((i:Nat):Int).toNat]? =none:=by simp;have:=hx.len;lia
  have hd:xs.drop i=[]:=by simp;lia
  rw[hd] at h
  wp_walk using VG hl,VG hb
  rw[hi1]
  wp_walk using VG hl,VG hb
  show R (.ok (.ret (.bool (decide (items.size<items2.size))))) _
  rw[hx.len,hy.len]
  by_cases hlt:i<ys.length
  ·obtain⟨y,r,e⟩:∃ y r,ys.drop i=y::r:=⟨_,_,VQ hlt⟩
   rw[e] at h
   have:decide (xs.length<ys.length)=true:=by simp;lia
   rw[this];exact h
  ·have e:ys.drop i=[]:=by simp;lia
   rw[e] at h
   have:decide (xs.length<ys.length)=false:=by simp;lia
   rw[this];exact h
 |succ k ih=>
  intro i h1 h2 hk prog w A R s h
  obtain⟨hp,g,d,tk,os⟩:=s;obtain⟨hl,hb,h⟩:=h
  have hlt:i<xs.length:=by lia
  obtain⟨t,ht⟩:=hx.at_ i hlt
  have hi1:items[((i:Nat):Int).toNat]? =some (.int xs[i] t):=by simpa using ht
  have hd:xs.drop i=xs[i]::xs.drop (i+1):=VQ hlt
  rw[hd] at h
  have hc:((i:Int)+1)=((i+1:Nat):Int):=by push_cast;rfl
  wp_walk using VG hl,VG hb
  by_cases hlt2:i<ys.length
  ·obtain⟨u,hu⟩:=hy.at_ i hlt2
   have hi2:items2[((i:Nat):Int).toNat]? =some (.int ys[i] u):=by simpa using hu
   have hd2:ys.drop i=ys[i]::ys.drop (i+1):=VQ hlt2
   rw[hd2] at h
   simp only[fL] at h
   rw[hi1,hi2]
   refine UA (wpAny_eqBool_int ?_)
   by_cases he:xs[i]=ys[i]
   ·rw[if_pos he] at h
    have:(xs[i]==ys[i])=true:=by simpa using he
    rw[this]
    wp_walk
    rw[hc]
    exact⟨plainId_quiet plain_eq_loop _,codeAny_builtin entry_eq_loop (by
     rw[Vh.under_plainId plain_eq_loop _]
     exact ih (i+1) (by lia) (by lia) (by lia) prog w A R _ ⟨hl,hb,h⟩)⟩
   ·rw[if_neg he] at h
    have:(xs[i]==ys[i])=false:=by simpa using he
    rw[this]
    wp_walk using VG hl,VG hb
    rw[hi1,hi2]
    refine UA (Ew ?_)
    wp_walk
    exact h
  ·have hi2:items2[((i:Nat):Int).toNat]? =none:=by simp;have:=hy.len;lia
   have hd2:ys.drop i=[]:=by simp;lia
   rw[hd2] at h
   rw[hi1,hi2]
   wp_walk using VG hl,VG hb
   show R (.ok (.ret (.bool (decide (items.size<items2.size))))) _
   rw[hx.len,hy.len]
   have:decide (xs.length<ys.length)=false:=by simp;lia
   rw[this];exact h
noncomputable def zv{α:Type}(n:Nat)(ok:α->Bool):KasT α->Bool
 | .ret a=>ok a
 | .ask i j k=>decide (i<n)&&decide (j<n)&&zv n ok (k true)&&zv n ok (k false)
noncomputable def OW(n:Nat)(p:Array Nat):Bool:=p.size==n&&p.toList.all λi=>decide (i<n)
theorem zw:∀ n,n<6->2<=n->zv n (OW n) (Xu n)=true:=by decide +kernel
theorem yv{α:Type}{n:Nat}{ok:α->Bool}{cmp:Nat->Nat->Bool}{ask:Nat->Nat->(Bool->UJ->Prop)->UJ->Prop}{s:UJ}{G:α->UJ->Prop}
  (hask:∀ i j C,i<n->j<n->C (cmp i j) s->ask i j C s):∀(t:KasT α),zv n ok t=true->(ok (dE cmp t)=true->G (dE cmp t) s)->t.kasWp ask G s
 | .ret a,hb,hG=>hG hb
 | .ask i j k,hb,hG=>by
  simp only[zv,U6,decide_eq_true_eq] at hb
  refine hask i j _ hb.1.1.1 hb.1.1.2 ?_
  refine yv hask (k (cmp i j)) ?_ hG
  cases cmp i j
  ·exact hb.2
  ·exact hb.1.2
section
variable {prog:Xm}{w:WC}{A:Vh}{E:UF->UJ->Prop}{s:UJ}
theorem DW(l b:Addr)(items items2:Array UF)(n n2:Nat)(dd dd2:Option Addr)(sl sl2:Array (Option UF))(xs ys:List Int)(hx:fg items xs)(hy:fg items2 ys):
  Meets (Builtin.«list.__lt__» ⟨[.ref l,.ref b],[]⟩)
   (λA R s=>s.heap.get? l=some {cls:=.type "list",dict:=dd,data:=.seq items n,slots:=sl}/\s.heap.get? b=some {cls:=.type "list",dict:=dd2,data:=.seq items2 n2,slots:=sl2}/\
    R (.ok (.ret (.bool (fL xs ys)))) s):=by
 intro prog w A R s h
 obtain⟨hp,g,d,tk,os⟩:=s;obtain⟨hl,hb,h⟩:=h
 have f3:=AutoSeq1.sub_list_list
 wp_walk using VG hl,VG hb
 exact⟨plainId_quiet plain_eq_loop _,codeAny_builtin entry_eq_loop (by
  rw[Vh.under_plainId plain_eq_loop _]
  exact DZ l b items items2 n n2 dd dd2 sl sl2 xs ys hx hy _ 0 (VX _) (VX _) rfl prog w A R _ ⟨hl,hb,by simpa using h⟩)⟩
theorem Pc{a b:Addr}{items items2:Array UF}{n m:Nat}{xs ys:List Int}{Q:Bool->UJ->Prop}(hu:A.units<cLine)(ha:s.heap.get? a=some (U5 "list" items n))(hb:s.heap.get? b=some (U5 "list" items2 m))
  (hx:fg items xs) (hy:fg items2 ys) (h:Q (fL xs ys) s):UI (UN prog w) A (keyLt' YD (.ref a) (.ref b)) Q E s:=by
 rw[keyLt'_oneType,oneLt'_eq]
 simp only[if_true]
 refine UA (wpAny_cRoomFor hu ?_)
 refine UA (wpAny_callSpecialIfBound?_slot ⟨_,ha,rfl⟩ F.slot_list_lt (XY F.slot_list_lt ⟨_,ha,rfl⟩ F.entry_list_lt (F.args_list_lt_2 _ _) (DW a b items items2 n m none none _ _ xs ys hx hy) ⟨ha,hb,?_⟩))
 exact wpAny_truthy_bool h
theorem sZ{a:Addr}{vs:List UF}{n:Nat}{P:Yz->UJ->Prop}{cmp:Nat->Nat->Bool}(ho:s.heap.get? a=some (U5 "list" vs.toArray n))(h6:vs.length<6)
  (hT:∀ h,VL a s.heap h->∀ v∈vs,Looks (UN prog w) h (typeOf v) (.type "list"))
  (hask:∀ h,VL a s.heap h->∀ i j C,i<vs.length->j<vs.length->C (cmp i j) {s with heap:=h}->kas_ask prog w A YD vs i j C {s with heap:=h})
  (h:∀ h' c,VL a s.heap h'->h'.get? a=some (U5 "list" (if vs.length<2 then vs else(dE cmp (Xu vs.length)).toList.map λi=>vs.getD i UF.none).toArray c)->P (.done (.ret .none)) {s with heap:=h'}):
  UI (UN prog w) A (Builtin.«list.sort» ⟨[.ref a],[]⟩) P E s:=by
 have ha:a<s.heap.objs.size:=Vz ho
 have s1:=VV s.heap a (VC λ_=>(#[]:Array UF))
 obtain⟨e1,ho1⟩:∃ e1,(s.heap.update a (VC λ_=>(#[]:Array UF))).get? a=some (U5 "list" #[] e1):=⟨_,get?_update_seq ho λ_=>#[]⟩
 have K3:VL a s.heap (((s.heap.update a (VC λ_=>(#[]:Array UF))).push (U5 "tuple" vs.toArray 0)).push (U5 "list" #[] 0)):=λb o hb e=>
  Heap.get?_push_of_some _ (Heap.get?_push_of_some _ ((s1.2 b hb).trans e))
 have ho3:(((s.heap.update a (VC λ_=>(#[]:Array UF))).push (U5 "tuple" vs.toArray 0)).push (U5 "list" #[] 0)).get? a=some (U5 "list" #[] e1):=Heap.get?_push_of_some _ (Heap.get?_push_of_some _ ho1)
 rw[list_sort_plain]
 refine UA (listItems_at ho rfl ?_)
 refine UA (listUpdate_at ho rfl ?_ (by rw[Wn,X8];lia) (VX _))
 refine UA (seqEpoch_at ho1 rfl ?_)
 refine UA (wpAny_newTuple ?_ (by show vs.length<=_;rw[X8];lia))
 refine UA (wpAny_newList ?_ (VX _))
 refine U9 ?_
 show UI (UN prog w) A _ P E {s with heap:=((s.heap.update a (VC λ_=>(#[]:Array UF))).push (U5 "tuple" vs.toArray 0)).push (U5 "list" #[] 0)}
 dsimp only
 have hz:vs.toArray.size=vs.length:=Wn
 have fin:∀ st':SortSt,∀ out:List UF,(arrOf st').map (·.2)=out.toArray->failedOf st'=none->out.length<=6->out=(if vs.length<2 then vs else(dE cmp (Xu vs.length)).toList.map λi=>vs.getD i UF.none)->
   UI (UN prog w) A (do
    let sorted:=(arrOf st').map (·.2)
    let touched:=(<-seqEpoch a)!=e1
    Builtin.List.listUpdate (.ref a) λ_=>sorted
    if let some e:=failedOf st' then rule "list.sort.comparison-raised";throw e
    if touched then rule "list.sort.modified";raiseError "ValueError" "list modified during sort"
    ret .none) P E {s with heap:=((s.heap.update a (VC λ_=>(#[]:Array UF))).push (U5 "tuple" vs.toArray 0)).push (U5 "list" #[] 0)}:=by
  intro st' out e2 hf hl hout
  have s2:=VV (((s.heap.update a (VC λ_=>(#[]:Array UF))).push (U5 "tuple" vs.toArray 0)).push (U5 "list" #[] 0)) a (VC λ_=>out.toArray)
  obtain⟨c2,hc2⟩:∃ c2,((((s.heap.update a (VC λ_=>(#[]:Array UF))).push (U5 "tuple" vs.toArray 0)).push (U5 "list" #[] 0)).update a (VC λ_=>out.toArray)).get? a=some (U5 "list" out.toArray c2):=⟨_,get?_update_seq ho3 λ_=>out.toArray⟩
  rw[e2]
  refine UA (seqEpoch_at ho3 rfl ?_)
  refine UA (listUpdate_at ho3 rfl ?_ (VX _) (by rw[Wn,X8];lia))
  rw[hf]
  simp only[bne_self_eq_false,Vq,if_false]
  refine UE (h _ c2 (λb o hb e=>(s2.2 b hb).trans (K3 b o hb e)) ?_)
  rw[<-hout];exact hc2
 by_cases h2:vs.length<2
 ·rw[if_pos (by rw[hz];exact h2),if_pos (by rw[hz];exact h2)]
  refine UA (UE ?_)
  refine UA (UE ?_)
  refine fin _ vs ?_ rfl (by lia) (by rw[if_pos h2])
  show(vs.toArray.zip vs.toArray).map (·.2)=_
  apply Za.mp
  simp
  rw[List.map_snd_zip (V4 _)]
 ·have hn2:¬vs.toArray.size<2:=by rw[hz];exact h2
  rw[if_neg hn2,if_neg hn2]
  refine UA (kas_kind (by lia) (hT _ K3) (by decide) (by decide) ?_)
  have est:SortSt.mk' YD (vs.toArray.zip vs.toArray) #[] 7 none=kas_st YD (pairsOf vs) (WV (UD vs.length)):=by
   have e:=kas_range (pairsOf vs)
   rw[pairsOf_size] at e
   show SortSt.mk' YD (pairsOf vs) #[] 7 none=SortSt.mk' YD ((WV (UD vs.length)).map (kas_item (pairsOf vs))) #[] 7 none
   rw[e]
  have run:=kas_runs (E:=E) (prog:=prog) (w:=w) (A:=A) (κ:=YD) (it:=pairsOf vs) (s:={s with heap:=((s.heap.update a (VC λ_=>(#[]:Array UF))).push (U5 "tuple" vs.toArray 0)).push (U5 "list" #[] 0)})
   (Q:=λ_ st' s'=>s'= {s with heap:=((s.heap.update a (VC λ_=>(#[]:Array UF))).push (U5 "tuple" vs.toArray 0)).push (U5 "list" #[] 0)}/\arrOf st'=(dE cmp (Xu vs.length)).map (kas_item (pairsOf vs))/\failedOf st'=none/\(dE cmp (Xu vs.length)).size=vs.length)
   (G:=λp s'=>s'= {s with heap:=((s.heap.update a (VC λ_=>(#[]:Array UF))).push (U5 "tuple" vs.toArray 0)).push (U5 "list" #[] 0)}/\p=dE cmp (Xu vs.length))
   (by lia: 2<=vs.length) (by lia) (λp' st' s' a1 a2 a3 a4=>by obtain⟨b1,b2⟩:=a4;rw[b2] at a1 a2;exact⟨b1,a2,a3,a1⟩)
   (by
    rw[<-kas_ask_eq]
    exact yv (cmp:=cmp) (λi j C hi hj hC=>hask _ K3 i j C hi hj hC) _ (zw _ h6 (by lia)) λ_=>⟨rfl,rfl⟩)
  rw[<-est] at run
  refine UA (Vg run ?_ λ_ _ e=>e)
  rintro⟨⟨⟩,st'⟩ s' ⟨rfl,har,hf,hsz⟩
  refine fin st' _ ?_ hf ?_ (by rw[if_neg h2])
  ·apply Za.mp
   rw[har,Array.map_map,Array.toList_map]
   exact Vn λi _=>by show(kas_item (pairsOf vs) i).2=_;rw[kas_item_eq]
  ·rw[UC,Array.length_toList,hsz];lia
theorem yU{l:Addr}{vs:List UF}{n:Nat}{Q:UF->UJ->Prop}{cmp:Nat->Nat->Bool}(hl:s.heap.get? l=some (U5 "list" vs.toArray n))(h6:vs.length<6)
  (hT:∀ h,(∀ b o,s.heap.get? b=some o->h.get? b=some o)->∀ v∈vs,Looks (UN prog w) h (typeOf v) (.type "list"))
  (hask:∀ h,(∀ b o,s.heap.get? b=some o->h.get? b=some o)->∀ i j C,i<vs.length->j<vs.length->C (cmp i j) {s with heap:=h}->kas_ask prog w A.in1.in1 YD vs i j C {s with heap:=h})
  (h:∀ D h' c,s.heap.get? D=none->(∀ b o,s.heap.get? b=some o->h'.get? b=some o)->h'.get? D=some (U5 "list" (if vs.length<2 then vs else(dE cmp (Xu vs.length)).toList.map λi=>vs.getD i UF.none).toArray c)->Q (.ref D) {s with heap:=h'}):
  UI (UN prog w) A (call (.builtin "sorted") [.ref l]) Q E s:=by
 refine Calls.call_function_entry kind_sorted plain_sorted entry_sorted (args_sorted1 _) ?_
 unfold Builtin.«sorted»
 refine UA (m:=checkCount "sorted" 1 1 _) (UE ?_)
 refine UA (collect_list ⟨_,hl,rfl,n,rfl⟩ ?_ (by rw[X8];lia))
 refine UA (wpAny_newList ?_ (by rw[X8];lia))
 have hsz:((s.heap.push (U5 "list" #[] 0)).update s.heap.objs.size (VC (·++vs.toArray))).objs.size=s.heap.objs.size+1:=by
  rw[Heap.size_update,size_push']
 have hoL:(((s.heap.push (U5 "list" #[] 0)).update s.heap.objs.size (VC (·++vs.toArray))).push (U5 "list" vs.toArray 0)).get? (s.heap.objs.size+1)=some (U5 "list" vs.toArray 0):=by
  rw[<-hsz];exact Heap.get?_push_size _ rfl
 have keep:∀ b o,s.heap.get? b=some o->(((s.heap.push (U5 "list" #[] 0)).update s.heap.objs.size (VC (·++vs.toArray))).push (U5 "list" vs.toArray 0)).get? b=some o:=λb o q=>by
  have hlt:b<s.heap.objs.size:=Vz q
  rw[Heap.get?_push_ne _ _ _ (by rw[hsz];exact V0 (Nat.lt_succ_of_lt hlt)),Heap.get?_update_ne _ _ _ _ (V0 hlt),Heap.get?_push_ne _ _ _ (V0 hlt)]
  exact q
 have fr:s.heap.get? (s.heap.objs.size+1)=none:=Heap.get?_none_of_le (XB _)
 have keepB:∀ h,VL (s.heap.objs.size+1) (((s.heap.push (U5 "list" #[] 0)).update s.heap.objs.size (VC (·++vs.toArray))).push (U5 "list" vs.toArray 0)) h->∀ b o,s.heap.get? b=some o->h.get? b=some o:=
  λh k b o q=>k b o (λz=>by rw[z,fr] at q;cases q) (keep b o q)
 show UI _ _ _ _ _ {s with heap:=((s.heap.push (U5 "list" #[] 0)).update s.heap.objs.size (VC (·++vs.toArray))).push (U5 "list" vs.toArray 0)}
 rw[hsz]
 refine UA (U9 (WK slot_list_sort ⟨_,hoL,rfl⟩ entry_list_sort ?body (args_list_sort _)))
 case body=>
  refine sZ (cmp:=cmp) (s:={s with heap:=((s.heap.push (U5 "list" #[] 0)).update s.heap.objs.size (VC (·++vs.toArray))).push (U5 "list" vs.toArray 0)}) hoL h6
   (λh' k=>hT h' (keepB h' k)) (λh' k=>hask h' (keepB h' k)) λh' c k hc=>⟨_,rfl,UE ⟨_,rfl,h _ h' c fr (keepB h' k) hc⟩⟩
end
section
variable {c:Cx}{w:Wd}{H:AH}{O:PH}{s:UJ}
theorem Ki{l:List AV}{xs:List Int}{ws:List UF}(e:bV l=some xs)(h:VRs c w l ws):fg ws.toArray xs:=
 (h.ints e).elim λq z=>z.1▸z.2▸⟨(Wn ..).trans (UC ..|>.trans (UC ..).symm),λj hj=>⟨_,by rw[List.getElem?_toArray,List.getElem?_map,List.getElem?_eq_getElem (UC (as:=q) (·.1)▸hj),Option.map_some,List.getElem_map]⟩⟩
theorem Ez{l:List AV}{vs:List UF}(h:VRs c w l vs):∀{rows:List (List Int)},iP l=some rows->rows.length=vs.length/\∀ i,i<vs.length->∃ a its n,vs.getD i .none= .ref a/\w.G a=some (U5 "list" its n)/\fg its (rows.getD i []):=
 h.ind (M:=λl vs=>∀{rows:List (List Int)},iP l=some rows->rows.length=vs.length/\∀ i,i<vs.length->∃ a its n,vs.getD i .none= .ref a/\w.G a=some (U5 "list" its n)/\fg its (rows.getD i []))
  (λe=>sj e▸⟨rfl,λi hi=>absurd hi (VU i)⟩) λd v l vs h1 h2 ih rows e=>qx (P:=λd=>VR c w d v->_) e (λsl e h1=>az e λa e1 e=>az e λb e2 e=>sj e▸⟨congrArg (· +1) (ih e2).1,λi=>XC (motive:=λi=>i<(v::vs).length->∃ ad its n,(v::vs).getD i .none= .ref ad/\w.G ad=some (U5 "list" its n)/\fg its ((a::b).getD i [])) i
   (λ_=>h1.k (P:=λv=>∃ ad its n,(v::vs).getD 0 .none= .ref ad/\w.G ad=some (U5 "list" its n)/\fg its ((a::b).getD 0 [])) λad ws m g q=>⟨ad,ws.toArray,m,rfl,g,Ki e1 q⟩) λi hi=>(ih e2).2 i (Vw hi)⟩) h1
theorem zx{α:Type}{n:Nat}{ok:α->Bool}{cmp:Nat->Nat->Bool}:∀{t:KasT α},zv n ok t=true->ok (dE cmp t)=true
 | .ret a,h=>h
 | .ask i j k,h=>zx (n:=n) (t:=k (cmp i j)) (by
   cases cmp i j
   ·exact a2 h
   ·exact a2 (a1 h))
theorem K9(c:Cx):qs c:=λ{A w H O s a vs n l rows Q E} hA hu S ha hvs hr h6 hf hQ=>by
 obtain⟨q1,q2⟩:=Ez hvs hr
 have hcl:A.in1.in1.units<cLine:=Va (Vv (by simp):A.in1.in1.units<=A.units+2) (Va (Wm hu 2) (by decide))
 refine yU (cmp:=λi j=>fL (rows.getD i []) (rows.getD j [])) ha (q1▸h6) (λh k v hv=>?_) (λh k i j C hi hj hC=>?_) λD h' c' hD k hc=>?_
 ·obtain⟨i,hi,rfl⟩:=List.getElem_of_mem hv
  obtain⟨ad,its,m,p1,p2,p3⟩:=q2 i hi
  have p1:vs[i]= .ref ad:=by rw[<-p1];simp[hi]
  rw[p1]
  exact λA Q E s k' q=>wpAny_typeOf (T:="list") ⟨_,k' _ _ (k _ _ (S.keep _ _ p2)),rfl⟩ q
 ·obtain⟨ad,its,m,p1,p2,p3⟩:=q2 i hi
  obtain⟨ad',its',m',p1',p2',p3'⟩:=q2 j hj
  unfold kas_ask
  rw[p1,p1']
  exact Pc hcl (k _ _ (S.keep _ _ p2)) (k _ _ (S.keep _ _ p2')) p3 p3' hC
 ·have le:=Wd.add_le (o:=U5 "list" (if vs.length<2 then vs else(dE (λi j=>fL (rows.getD i []) (rows.getD j [])) (Xu vs.length)).toList.map λi=>vs.getD i UF.none).toArray c') (S.g_none hD)
  refine hQ _ h' s.toks _ le ((S.keeps k).freeze hc (S.g_none hD) (S.o_none hD) (S.not_alpha hD)) (.lst Wd.add_at ?_)
  have hv:=VRs.mono le hvs
  generalize w.add D _=w1 at hv
  unfold ot
  have hlen:=hvs.length
  rw[q1]
  by_cases h2:vs.length<2
  ·rw[if_pos h2,if_pos h2];exact hv
  ·rw[if_neg h2,if_neg h2]
   have hall:∀ i∈(dE (λi j=>fL (rows.getD i []) (rows.getD j [])) (Xu vs.length)).toList,i<vs.length:=λi hi=>of_decide_eq_true (UP.mp (a2 (zx (cmp:=λi j=>fL (rows.getD i []) (rows.getD j [])) (zw vs.length (q1▸h6) (Nat.le_of_not_lt h2)))) i hi)
   generalize (dE (λi j=>fL (rows.getD i []) (rows.getD j [])) (Xu vs.length)).toList=is at hall
   induction is with
   |nil=>exact .nil
   |cons i is ih=>
    have hi:=hall i (.head _)
    rw[Vc,Vc]
    refine .cons ?_ (ih λj hj=>hall j (.tail _ hj))
    obtain⟨u,hu,r⟩:=hv.get (List.getElem?_eq_getElem (hlen▸hi:i<l.length))
    rw[List.getD_eq_getElem?_getD,List.getD_eq_getElem?_getD,hu,List.getElem?_eq_getElem (hlen▸hi:i<l.length)]
    exact r
end
end
end
section
open PySem PySem.Calls PyProof.Rows PySem.W PySem.SeqAt
section
noncomputable def q6:List (Int×Str)->List (Tok×Tok)->List Vx
 | [],_=>[]
 |p::l,ts=>⟨hashInt p.1,.int p.1 (ts.headD (0,0)).1,.str p.2 (ts.headD (0,0)).2⟩::q6 l ts.tail
noncomputable def rP(P:UB):List (Str×Int)->List (Tok×Tok)->List Vx
 | [],_=>[]
 |p::l,ts=>⟨WE P p.1,.str p.1 (ts.headD (0,0)).1,.int p.2 (ts.headD (0,0)).2⟩::rP P l ts.tail
noncomputable def JD:UF->Tok
 | .int _ t=>t
 | .str _ t=>t
 |_=>0
def rV(K:Frag)(a:Nat):List (Tok×Tok):=match K.lookup a with
 |some ⟨_,_,.dict es _,_⟩=>es.toList.map λe=>(JD e.key,JD e.val)
 |_=>[]
noncomputable def Ji(K:Frag)(a:Nat):Nat:=match K.lookup a with
 |some ⟨_,_,.dict _ n,_⟩=>n
 |_=>0
theorem Rk(p:UB):(KK p).lookup 39=some (Xl (q6 flagTab (rV (KK p) 39)) (Ji (KK p) 39)):=by kernel_rfl
theorem Pv(p:UB):(KK p).lookup 126=some (Xl (rP p exactTab (rV (KK p) 126)) (Ji (KK p) 126)):=by kernel_rfl
section
variable {prog:Xm}{w:WC}
noncomputable def q7:List (Int×Str)->List (Tok×Tok)->List (Int×UF)
 | [],_=>[]
 |p::l,ts=>(p.1,.str p.2 (ts.headD (0,0)).2)::q7 l ts.tail
noncomputable def rQ:List (Str×Int)->List (Tok×Tok)->List (Str×UF)
 | [],_=>[]
 |p::l,ts=>(p.1,.int p.2 (ts.headD (0,0)).2)::rQ l ts.tail
theorem q9:∀(l:List (Int×Str)) (ts:List (Tok×Tok)),(q7 l ts).map (·.1)=l.map (·.1)
 | [],_=>rfl
 |p::l,ts=>congrArg (p.1::·) (q9 l ts.tail)
theorem rT:∀(l:List (Str×Int)) (ts:List (Tok×Tok)),(rQ l ts).map (·.1)=l.map (·.1)
 | [],_=>rfl
 |p::l,ts=>congrArg (p.1::·) (rT l ts.tail)
theorem uo:∀(l:List (Int×Str)) (ts:List (Tok×Tok)) (e:Vx),e∈q6 l ts->∃ k,(intKind prog w).is k e.key=true/\e.hash=(intKind prog w).hash k
 | [],_,_,h=>nomatch h
 |p::l,ts,e,h=>(U0.mp (show e∈_::q6 l ts.tail from h)).elim (λq=>⟨p.1,q▸intKind_is prog w p.1 _,q▸rfl⟩) (uo l ts.tail e)
theorem uX:∀(l:List (Str×Int)) (ts:List (Tok×Tok)) (e:Vx),e∈rP w.params l ts->∃ k,(strKind prog w).is k e.key=true/\e.hash=(strKind prog w).hash k
 | [],_,_,h=>nomatch h
 |p::l,ts,e,h=>(U0.mp (show e∈_::rP w.params l ts.tail from h)).elim (λq=>⟨p.1,q▸strKind_is prog w p.1 _,q▸rfl⟩) (uX l ts.tail e)
theorem oJ:∀(l:List (Int×Str)) (ts:List (Tok×Tok)),Pairs (intKind prog w) (q6 l ts) (q7 l ts)
 | [],_=>.nil
 |p::l,ts=>.cons (intKind_is prog w p.1 _) rfl (oJ l ts.tail)
theorem oV:∀(l:List (Str×Int)) (ts:List (Tok×Tok)),Pairs (strKind prog w) (rP w.params l ts) (rQ l ts)
 | [],_=>.nil
 |p::l,ts=>.cons (strKind_is prog w p.1 _) rfl (oV l ts.tail)
theorem q8:∀(l:List (Int×Str)) (ts:List (Tok×Tok)),ZO ZF (q7 l ts) (l.map λp=>(.int p.1,.str p.2))
 | [],_=>.nil
 |p::l,ts=>.cons (.str _ _) (q8 l ts.tail)
theorem rR:∀(l:List (Str×Int)) (ts:List (Tok×Tok)),ZO YI (rQ l ts) (l.map λp=>(.str p.1,.int p.2))
 | [],_=>.nil
 |p::l,ts=>.cons (.int _ _) (rR l ts.tail)
end
theorem Rl{c:Cx}(X:(KK c.w.params).In c.H0):mU c where
 exact:=TabAt.ofObj (kvs:=rQ exactTab (rV (KK c.w.params) 126)) (by decide) (X _ _ (Pv c.w.params))
  ⟨_,_,⟨rfl,rfl,rfl⟩,rfl,λe he=>uX _ _ e (Zh.mp he),oV _ _,by rw[rT];decide +kernel⟩ (rR _ _)
 flags:=TabAt.ofObj (kvs:=q7 flagTab (rV (KK c.w.params) 39)) (by decide) (X _ _ (Rk c.w.params))
  ⟨_,_,⟨rfl,rfl,rfl⟩,rfl,λe he=>uo _ _ e (Zh.mp he),oJ _ _,by rw[q9];decide +kernel⟩ (q8 _ _)
noncomputable def IW(v:AV)(u:UF):Bool:=match v with
 | .g a=>u==a
 | .int i=>(match u with
  | .int j _=>j==i
  |_=>false)
 |_=>false
theorem Dg{c:Cx}{w:Wd}{v:AV}{u:UF}:IW v u=true->VR c w v u:=
 AV.casesOn (motive_1:=λv=>IW v u=true->VR c w v u) v ft (λ_=>ft) (λi=>by
  cases u<;>first|exact ft|exact λh=>eq_of_beq h▸.int) (λ_=>ft) (λ_=>ft) (λ_=>ft) (λ_=>ft) (λa h=>eq_of_beq h▸.g) (λ_ _=>ft) (λ_ _=>ft) (λ_=>ft)
noncomputable def Ej{α:Type}(o:Option α)(f:α->Bool):Bool:=match o with
 |some x=>f x
 |none=>false
theorem vA{α:Type}{o:Option α}{f:α->Bool}{P:Prop}(h:Ej o f=true)(k:∀ x,o=some x->f x=true->P):P:=by
 cases o with
 |none=>exact ft h
 |some x=>exact k x rfl h
def L8(K:Frag)(p:String×AV):Bool:=Ej (nsIn K VZ (UK p.1)) λo=>Ej o (IW p.2)
def Sc(K:Frag)(p:String×AV):Bool:=Ej (nsIn K VZ (UK p.1)) (·.isNone)&&(Ej (bootBuiltins (UK p.1)) (IW p.2)&&UK p.1!="__name__")
theorem Fz(p:UB):I0.all (L8 (KK p))=true:=by kernel_rfl
theorem Ly(p:UB):RF.all (Sc (KK p))=true:=by kernel_rfl
theorem yu(p:UB):(KK p).lookup VZ=some (Co p)/\(Co p).cls= .type "dict":=⟨by kernel_rfl,rfl⟩
theorem top'{c:Cx}{p:Xm}{loose:List Str}{mean:ExcName->Option UF}{mg mb:Str->Option UF}(X:(KK c.w.params).In c.H0)(T:Top p loose mean mg mb c.H0):cM c (KK c.w.params) where
 X:=X
 tabs:=Rl X
 lim:=T.nolimit
 gl:=⟨mg,mb,T.g,T.b,λx v h=>by
  obtain⟨q,hq,h⟩:=Zk.mp h
  cases eq_of_beq (a1 h)
  cases LT (a2 h)
  exact(Ve.mp hq).elim (λhq=>vA (UP.mp (Fz c.w.params) q hq) λo e z=>vA z λu e2 z=>.inl ⟨u,mg_of X T.g (e.trans (congrArg some e2)),λ_=>Dg z⟩)
   λhq=>have g:=UP.mp (Ly c.w.params) q hq;vA (a1 g) λo e z=>vA (a1 (a2 g)) λu e2 z2=>.inr ⟨mg_none_of X T.g (e.trans (congrArg some (Vm.mp z))),u,(T.builtins _ (bne_iff_ne.mp (a2 (a2 g)))).trans e2,λ_=>Dg z2⟩,
  T.bmain.imp λbm=>.imp λob a=>⟨a.1,a.2.1,λq=>(nomatch (show UF.type "dict" = .type "module" from(yu c.w.params).2.symm.trans ((congrArg Obj.cls (sj ((X _ _ (yu c.w.params).1).symm.trans (q▸a.2.2.1)))).trans a.2.2.2.1))),a.2.2⟩⟩
theorem Sj{c:Cx}(hX:cM c (KK c.w.params))(h1:CodeHd c.H0 319 317)(h2:CodeHd c.H0 358 356)(ht:c.tabs=[317,356]):EU c (KK c.w.params) where
 ok:=λa g e=>(Ud (mV (wm c.w.params) e)).elim λcl q=>q.elim λdi q=>q.elim λsl q=>q.elim λbody q=>⟨cl,di,_,sl,body,q.1,q.2,E4 hX _ (ri e),λk hk=>by
  unfold jf at hk
  split at hk
  ·cases hk
   exact⟨by decide,319,317,by kernel_rfl,h1,ht▸rfl,by kernel_rfl⟩
  ·cases hk
   exact⟨by decide,358,356,by kernel_rfl,h2,ht▸rfl,by kernel_rfl⟩
  ·exact no hk⟩
theorem LV{c:Cx}(hX:cM c (KK c.w.params)):fC c (KK c.w.params):=⟨⟨hX,Uc _,Sd _,Ut hX.X⟩,Uo _,Ty _,Qm _,K9 c⟩
end
end
section
section
set_option maxHeartbeats 0
open PySem PySem.Calls PyProof.Rows PySem.W PySem.SeqAt
theorem zC{c:Cx}{w:Wd}:∀{vs:List UF} {is:List Int},IntsAre vs is->VRs c w (is.map .int) vs
 |_,_,.nil=>.nil
 |_,_,.cons _ _ h=>.cons .int (zC h)
abbrev sI:List (Addr×Addr):=[(358,356),(319,317)]
noncomputable def IJ:Prop:=∀ is:List Int,is.length<=63->∃ H',(aa TT 40).c 376 [.lst (is.map .int)] [] [.tab 0,.tab 1]=some (.bool true,H')/\H'[0]? =some (.tab 0)/\H'[1]? =some (.tab 1)
theorem FJ{w:WC}{s:UJ}{loose:List Str}{p:Xm}{mean:ExcName->Option UF}{mg mb:Str->Option UF}{prog:Xm}{is:List Int}{vs:List UF}{a:Addr}{Q:UF->UJ->Prop}{E:UF->UJ->Prop}
  (KX:(KK w.params).In s.heap) (hT:TabsAt sI s.heap) (T:Top p loose mean mg mb s.heap) (hg:s.gens= #[]) (hl:s.heap.get? a=some (U5 "list" vs.toArray 0)) (hI:IntsAre vs is)
  (hp:∃ H',(aa TT 40).c 376 [.lst (is.map .int)] [] [.tab 0,.tab 1]=some (.bool true,H')/\H'[0]? =some (.tab 0)/\H'[1]? =some (.tab 1))
  (hQ:∀ h' tk,OldK s.heap h'->Q (.bool true) {s with heap:=h',toks:=tk}):
  UI (UN prog w) callerA (call (.ref 376) [.ref a]) Q E s:=by
 obtain⟨H',hp,hp0,hp1⟩:=hp
 let c:Cx:=⟨prog,w,ghostOf s.heap sI,[317,356]⟩
 have X0:(KK w.params).In c.H0:=ghost_K hT KX (by kernel_rfl)
 have hX:cM c (KK c.w.params):=top' (c:=c) X0 (ghost_top hT T)
 have hcode:=ghost_code hT
 have hA:=(PO (LV hX) (Sj hX hcode.2.1 hcode.1 rfl) 40).1
 have keepN:∀ b o,b∉[356,317]->s.heap.get? b=some o->c.H0.get? b=some o:=λb o hb e=>ghost_ne e hb
 have h317:s.heap.get? 317=some (tabObj #[]):=(hT _ (.tail _ (.head _))).2
 have h356:s.heap.get? 356=some (tabObj #[]):=(hT _ (.head _)).2
 have n317:c.H0.get? 317=none:=hideAll_none _ (by decide)
 have n356:c.H0.get? 356=none:=hideAll_none _ (by decide)
 have tabOk:∀ k,OR c ⟨c.H0.get?,[317,356]⟩ (.tab k) (tabObj #[]):=λk=>⟨#[],rfl,⟨⟩,λpos cv=>no⟩
 have S:St c ⟨c.H0.get?,[317,356]⟩ [.tab 0,.tab 1] bX s.heap:={
  top:=λa o e=>e
  tabs:=XE _
  keep:=λa o e=>of_hideAll _ e
  own:=λa o=>no
  len:=rfl
  nodup:=show([317,356]:List Addr).Nodup by decide
  obj:=λi o e=>match i,e with
   |0,e=>⟨317,_,rfl,h317,sj e▸tabOk 0,n317,rfl⟩
   |1,e=>⟨356,_,rfl,h356,sj e▸tabOk 1,n356,rfl⟩
   |n+2,e=>no e}
 have m2:∀{b:Addr} {R:Prop},b∈[356,317]->(b=356->R)->(b=317->R)->R:=λm k1 k2=>(U0.mp m).elim k1 λm=>k2 (US.mp m)
 have ha:a∉[356,317]:=λm=>m2 m (λq=>by rw[q,h356] at hl;cases hl) λq=>by rw[q,h317] at hl;cases hl
 refine wpAny_call (hA.k (A:=callerA) ⟨rfl,by decide +kernel,by decide +kernel⟩ (.cons (.lst (keepN a _ ha hl) (zC hI)) .nil) ⟨.nil,rfl⟩ _ _ hp s _ S λw' h' tk v l S' hv=>hv.k ?_)
 have grown:∀ b o,b∈[356,317]->s.heap.get? b=some o->isCodeTable s.heap b/\o=tabObj #[]/\∃ ps,h'.get? b=some (tabObj ps):=λb o hb e=>m2 hb
  (λq=>by
   cases q
   obtain⟨r,g,ps,rfl,_⟩:=S'.at (l.at (i:=1) rfl) hp1
   exact⟨((hT _ (.head _)).1.tab h356).isCodeTable,sj (e.symm.trans h356),ps,g⟩)
  λq=>by
   cases q
   obtain⟨r,g,ps,rfl,_⟩:=S'.at (l.at (i:=0) rfl) hp0
   exact⟨((hT _ (.tail _ (.head _))).1.tab h317).isCodeTable,sj (e.symm.trans h317),ps,g⟩
 refine hQ h' tk ⟨λb o e=>if hb:b∈[356,317] then ?_ else .inl (S'.keep _ _ (l.g _ _ (keepN b o hb e))),λb o e=>if hb:b∈[356,317] then(grown b o hb e).2.2.imp' tabObj λps q=>q else⟨o,S'.keep _ _ (l.g _ _ (keepN b o hb e))⟩⟩
 obtain⟨ht,rfl,ps,hP⟩:=grown b o hb e
 exact .inr (.inl ⟨ht,rfl,#[],ps,rfl,Array.empty_append▸hP⟩)
theorem joined(hP:IJ):PySem.Challenge.rw_uc0049_01.Holds:=head (by
 intro w s₀ s₁ mg mb G Y fa o pm cd doc dV kV ho hd hcd hD hmg hg args vals as hpre hlay hrd hwl hlo
 have KX:=km_in_of Y
 have hT8:=km_tabs_of Y
 refine Ground.open G ?_
 intro T B D TE TW
 try (refine guard_noD D (by decide +kernel) ?_;clear D)
 have e376:some (Yx fa)=some (.ref 376):=hmg.symm.trans (show mg (UK "law")=some (.ref 376) from mg_of KX T.g (by kernel_rfl))
 cases e376
 have hT9:TabsAt sI s₁.heap:=UL.mpr ⟨⟨codeHd_of_K (c:=358) (P:=356) KX (by kernel_rfl),hT8 356 (.head _)⟩,UL.mpr ⟨⟨codeHd_of_K (c:=319) (P:=317) KX (by kernel_rfl),hT8 317 (.tail _ (.head _))⟩,λ_ h=>nomatch h⟩⟩
 clear hmg
 wrow_args hpre hlay hrd hwl hlo
 clear TE TW hD hcd hd ho G Y B
 rename_i is _ _ _ _ _ _ _ a vs _ hL ra w1 r0 hI _ hc _
 refine FJ KX hT9 T hg (vs:=vs) (is:=is) ?_ hI (hP is (by omega)) ?_
 ·obtain⟨o,e1,e2,n,e3⟩:=hL
  cases w1
  rename_i vs' e4 _
  rw[e1] at e4
  cases e4
  cases e3
  exact e1
 ·intro h' tk ok
  refine⟨.inl ⟨_,_,_,rfl,λ_=>rfl,.bool _,by first|kernel_rfl|decide|(simp;done),λ_=>⟨List.nodup_nil,λ_ h=>by cases h⟩⟩,ok,rfl,.of_eq hg⟩)
end
end
section
open PySem PySem.W
section
section mk
variable {T:c8}{n:Nat}
theorem Un(ie:IE)(ρ:ae)(H:AH):(aa T (n+1)).e ie ρ H=bW T (aa T n) ie ρ H:=rfl
theorem Um(l:List IS)(ρ:ae)(H:AH):(aa T (n+1)).b l ρ H=ay T (aa T n) l ρ H:=rfl
end mk
noncomputable def af(l:List Nat):Str:=⟨l.toArray⟩
theorem fE(a b:List Nat):af a++af b=af (a++b):=by
 show UO (a.toArray++b.toArray)=UO (a++b).toArray
 simp
theorem bS(a:List Nat):(af a).length=a.length:=by
 show a.toArray.size=_
 simp
theorem pH(a:List Nat):(af a).cps.toList=a:=rfl
theorem ic{n:Nat}(h:n<=1000000):aW n=true:=Ye h
theorem lH(a b:Nat):(a:Int).fmod (b:Int)=((a%b:Nat):Int):=by
 rw[Xe _ (by lia)];rfl
theorem pj(a b:Nat):(a:Int).fdiv (b:Int)=((a/b:Nat):Int):=(Int.ofNat_fdiv a b).symm
theorem LY(a:Nat):(a:Int).fmod 64=((a%64:Nat):Int):=lH a 64
theorem LX(a:Nat):(a:Int).fdiv 64=((a/64:Nat):Int):=pj a 64
theorem IY(a:Nat):(a:Int).fmod 2=((a%2:Nat):Int):=lH a 2
theorem bK(a b:Nat):VJ (a:Int) (b:Int)=((a&&&b:Nat):Int):=by
 unfold VJ
 simp
theorem gw(a b:Nat):WY (a:Int) (b:Int)=((a|||b:Nat):Int):=by
 unfold WY VJ
 have h1:∀ a:Nat,decide (0<=Xa (a:Int))=false:=by
  intro a;unfold Xa;simp;lia
 have h2:∀ a:Int,Xa (Xa a)=a:=by
  intro a;unfold Xa;lia
 rw[h1,h1]
 simp only[h2]
 simp
theorem dU(H l:AH):(H++l)[H.length]? =l[0]? :=by rw[List.getElem?_append_right (V4 _),Zc]
theorem gT(H l:AH)(x:AO):(H++l).set H.length x=H++l.set 0 x:=by
 rw[List.set_append_right _ _ (V4 _),Zc]
end
section
section eqns
variable {α β γ δ:Type}{a:α}{b:β}{c:γ}
theorem kz{f:α->Option β}:ob (some a) f=f a:=rfl
theorem gQ{f:α->β->Option γ}:ah (some (a,b)) f=f a b:=rfl
theorem M0{x:Option β}:d7 x ([]:List α)=x:=rfl
theorem gd{p:Prop}[Decidable p]{x:Option α}(h:p):bA p x=x:=congrArg (aw · x) (decide_eq_true h)
theorem ol{n:Nat}{x:Option α}(h:n<=1000000):aw (aW n) x=x:=congrArg (aw · x) (ic h)
variable {T:c8}{r:R}{ρ:ae}{H:AH}{i:Int}{s:Str}{l:List AV}{v:UF}{u:AV}
theorem PS{f:Int->Option β}:fo f (.int i)=f i:=rfl
theorem PT{f:List AV->Option β}:iD f (.lst l)=f l:=rfl
theorem r9{n:Nat}{f:Nat->Option β}:f9 f (.loc n)=f n:=rfl
theorem EZ{f:List AV->Option β}:eS f (.list l)=f l:=rfl
theorem vO{n m:Nat}{f:Nat->Nat->Option β}:iC f (.inst n m)=f n m:=rfl
theorem Pg(l:List IE):lW r (.and l) ρ H=bk r l ρ H:=rfl
theorem Pf(x:Nat)(e:IE):am T r (.set x e) ρ H=ah (r.e e ρ H) λv H=>some (.next,ρ.set x (some v),H):=rfl
theorem Pd(x:Nat)(op:VK)(e:IE):am T r (.aug x op e) ρ H=ob (ob ρ[x]? id) λu=>ah (r.e e ρ H) λv H=>ob (iS op u v) λy=>some (.next,ρ.set x (some y),H):=rfl
theorem K6(o i e:IE):am T r (.setI o i e) ρ H=ah (r.e e ρ H) λv H=>ah (r.e o ρ H) λov H=>f9 (λn=>ah (r.e i ρ H) λk H=>ob H[n]? (iC λc _=>ob (T.setI c) λf=>ah (r.c f [.loc n,k,v] [] H) λ_ H=>some (.next,ρ,H))) ov:=rfl
theorem EB(o e:IE):am T r (.setAll o e) ρ H=ah (r.e e ρ H) λv H=>iD (λl=>ah (r.e o ρ H) λov H=>f9 (λn=>ob H[n]? (eS λl0=>aw (aW l0.length&&aW l.length) (some (.next,ρ,H.set n (.list l))))) ov) v:=rfl
theorem K5(o i:IE):am T r (.delI o i) ρ H=ah (r.e o ρ H) λov H=>f9 (λn=>ah (r.e i ρ H) λk H=>ob H[n]? (iC λc _=>ob (T.delI c) λf=>ah (r.c f [.loc n,k] [] H) λ_ H=>some (.next,ρ,H))) ov:=rfl
theorem vX{st:IS}{b:List IS}:ay T r (st::b) ρ H=dX (am T r st ρ H) λf ρ H=>jA f ρ H (ay T r b ρ H):=rfl
variable {x:Option (AF×ae×AH)}{d:AV}
end eqns
section leaves
variable {T:c8}{r:R}{ρ:ae}{H:AH}{x y:Int}{s t:Str}{l k:List AV}
theorem dI:au H (.int x)= .int x:=rfl
theorem dS:au H (.str s)= .str s:=rfl
theorem dL:au H (.lst l)= .lst l:=rfl
theorem Bx{n:Nat}(h:H[n]? =some (.list l)):au H (.loc n)= .lst l:=congrArg (m9 n) h
theorem Sa:bp H .Sub (.int x) (.int y)=some (.int (x-y)):=rfl
theorem E1(h:x.natAbs<2^60):bp H .Mult (.int x) (.int y)=some (.int (x*y)):=gd h
theorem R7(h: 0<y)(h2:y<1000000000):bp H .FloorDiv (.int x) (.int y)=some (.int (x.fdiv y)):=gd ⟨by lia,by lia⟩
theorem Bi(h: 0<y):bp H .Mod (.int x) (.int y)=some (.int (x.fmod y)):=gd (show y≠0 by lia)
theorem R8(h: 0<=y/\y<20/\x.natAbs<100):bp H .Pow (.int x) (.int y)=some (.int (x^y.toNat)):=gd h
theorem E2(h: 0<=y/\y<=1000/\x.natAbs<2^64):bp H .LShift (.int x) (.int y)=some (.int (x*2^y.toNat)):=gd h
theorem R9(h: 0<=y):bp H .RShift (.int x) (.int y)=some (.int (x.fdiv (2^y.toNat))):=gd h
theorem gF:bp H .BitAnd (.int x) (.int y)=some (.int (VJ x y)):=rfl
theorem IM:bp H .BitOr (.int x) (.int y)=some (.int (WY x y)):=rfl
theorem n0(h:s.length+t.length<=1000000):bp H .Add (.str s) (.str t)=some (.str (s++t)):=ol h
theorem PU(h: 0<=x/\x<=1000/\s.length<=1000):bp H .Mult (.str s) (.int x)=some (.str (Txt.mul s x)):=gd h
theorem ga{a b:AV}(ha:au H a= .lst l)(hb:au H b= .lst k)(h:l.length+k.length<=1000000):bp H .Add a b=some (.lst (l++k)):=(congr (congrArg (sf .Add) ha) hb).trans (ol h)
theorem T8:iS .BitOr (.int x) (.int y)=some (.int (WY x y)):=rfl
theorem R3:iS .BitXor (.int x) (.int y)=some (.int (W9 x y)):=rfl
theorem R1(h: 0<=y/\y<=1000/\x.natAbs<2^64):iS .LShift (.int x) (.int y)=some (.int (x*2^y.toNat)):=gd h
theorem PM(h:s.length+t.length<=1000000):iS .Add (.str s) (.str t)=some (.str (s++t)):=ol h
theorem T9(a b:AV):ia T H .Eq a b=ct (au H a) (au H b):=rfl
theorem qH(a b:AV):ia T H .NotEq a b=ob (ct (au H a) (au H b)) λb=>some !b:=rfl
theorem Ub:ct (.int x) (.int y)=some (decide (x=y)):=rfl
theorem RG:ct (.str s) (.str t)=some (decide (s=t)):=rfl
theorem TQ{n:Nat}(h:H[n]? =some (.list l))(h2:l.length<=1000000):truthy H (.loc n)=some (l.length !=0):=(congrArg rW (Bx h)).trans (ol h2)
theorem RJ{a:Nat}{args:List AV}{kws:List (NM×AV)}(h:cD a=none):bj TT r (.g (.ref a)) args kws H=r.c a args kws H:=by
 show(match cD a with|some i=>_|none=>_)=_
 rw[h]
theorem Qo:bj T r (.g (.builtin "iter")) [.lst l] [] H=some (.loc H.length,H++[.liter l 0]):=rfl
theorem Ml{g:Nat}{v w:AV}:bj T r (.g (.builtin "iter")) [.bm g v,w] [] H=some (.loc H.length,H++[.citer (.bm g v) w]):=rfl
theorem Jb{n i:Nat}{v:AV}(h:H[n]? =some (.liter l i))(h2:l[i]? =some v):bj T r (.g (.builtin "next")) [.loc n] [] H=some (v,H.set n (.liter l (i+1))):=
 (congrArg (ob · λo=>B3 n o H) h).trans (congrArg (ob · λv=>some (v,H.set n (.liter l (i+1)))) h2)
theorem Mm{v:AV}(h:au H v= .lst l)(h2:l.length<=1000000):bj T r (.g (.builtin "len")) [v] [] H=some (.int l.length,H):=(congrArg (iD λl=>aw (aW l.length) (some (AV.int l.length,H))) h).trans (ol h2)
theorem Mo{v:AV}{is:List Int}(h:au H v= .lst l)(h2:bV l=some is):bj T r (.g (.builtin "sum")) [v] [] H=some (.int is.sum,H):=(congrArg (iD λl=>ob (bV l) λis=>some (AV.int is.sum,H)) h).trans (congrArg (ob · λ(is:List Int)=>some (AV.int is.sum,H)) h2)
theorem FG(h:(baseText "0x" 16 x).length<=1000000):bj T r (.g (.builtin "hex")) [.int x] [] H=some (.str (baseText "0x" 16 x),H):=ol h
theorem Mk{n:Nat}(h:n<=1114111):bj T r (.g (.builtin "chr")) [.int n] [] H=some (.str (af [n]),H):=congrArg (aw · (some (AV.str (af [n]),H))) (Ye h)
theorem Sl{n:Nat}:bj T r (.g (.builtin "ord")) [.str (af [n])] [] H=some (.int n,H):=rfl
theorem iM(h:s.length<=1000000):i6 s .lower [] H=some (.str (UT s)):=ol h
theorem nC(h:s.length<=1000000):i6 s .upper [] H=some (.str (Vj s)):=ol h
theorem vv{v:AV}{ts:List Str}(h:au H v= .lst l)(h2:jU l=some ts)(h3:(ts.map WD).sum+ts.length*s.length<=1000000):i6 s .join [v] H=some (.str (WT s ts)):=
 (congrArg (iD (Ja s)) h).trans ((congrArg (ob · λ(ts:List Str)=>aw (aW ((ts.map WD).sum+ts.length*s.length)) (some (AV.str (WT s ts)))) h2).trans (ol h3))
theorem D2(h:t.length≠0)(h2:s.length<=1000000):i6 s .split [.str t] H=some (.lst ((YQ s t).map .str)):=congrArg (aw · (some (AV.lst ((YQ s t).map .str)))) (Vu.mpr ⟨bne_iff_ne.mpr h,ic h2⟩)
theorem lS{n:Nat}(h:H[n]? =some (.list l)):fc T (.loc n) .append H=some (.list n):=congrArg (ob · (Cp T .append n H)) h
theorem Tr{n:Nat}(h:H[n]? =some (.list l)):fc T (.loc n) .pop H=some (.list n):=congrArg (ob · (Cp T .pop n H)) h
theorem lD{n:Nat}{o v:AV}(h:H[n]? =some (.list l))(h2:l.length<=1000000):eN T r (.list n) o .append [v] [] H=some (.none,H.set n (.list (l++[v]))):=(congrArg (ob · (eS (vr n .append [v] H))) h).trans (ol h2)
theorem LB{n:Nat}{o v:AV}(h:H[n]? =some (.list (v::l)))(h2:l.length<=1000000):eN T r (.list n) o .pop [.int 0] [] H=some (v,H.set n (.list l)):=(congrArg (ob · (eS (vr n .pop [.int 0] H))) h).trans (gd ⟨rfl,ic h2⟩)
theorem si{n a:Nat}{g:bN}{args:List AV}{kws:List (NM×AV)}(hf:gc a=some g)(hb:fq g args kws=some ρ):(aa TT (n+1)).c a args kws H=dX ((aa TT n).b g.body ρ H) λf _ H=>pg f H:=
 (congrArg (ob · λf=>ob (fq f args kws) λρ=>dX ((aa TT n).b f.body ρ H) λf _ H=>pg f H) hf).trans (congrArg (ob · λρ=>dX ((aa TT n).b g.body ρ H) λf _ H=>pg f H) hb)
noncomputable def ky(x:Option (AF×ae×AH)):Option (AF×AH):=x.map λx=>(x.1,x.2.2)
theorem pd{n a:Nat}{g:bN}{args:List AV}{kws:List (NM×AV)}{v:AV}{H':AH}(hf:gc a=some g)(hb:fq g args kws=some ρ)(h:ky ((aa TT n).b g.body ρ H)=some (.ret v,H')):(aa TT (n+1)).c a args kws H=some (v,H'):=by
 rw[si hf hb]
 cases e:(aa TT n).b g.body ρ H with
 |none=>rw[e] at h;cases h
 |some x=>rw[e] at h;obtain⟨x1,x2,x3⟩:=x;cases h;rfl
theorem bn{st:IS}{b:List IS}{ρ':ae}{H':AH}{x:Option (AF×ae×AH)}(h:am T r st ρ H=some (.next,ρ',H'))(k:ay T r b ρ' H'=x):ay T r (st::b) ρ H=x:=(congrArg (dX · λf ρ H=>jA f ρ H (ay T r b ρ H)) h).trans k
theorem dz{st:IS}{x:Option (AF×ae×AH)}(h:am T r st ρ H=x):ay T r [st] ρ H=x:=by
 refine(congrArg (dX · λf ρ H=>jA f ρ H (ay T r [] ρ H)) h).trans ?_
 cases x with
 |none=>rfl
 |some x=>obtain⟨f,ρ,H⟩:=x;cases f<;>rfl
theorem br{st:IS}{b:List IS}{ρ':ae}{H':AH}{v:AV}(h:am T r st ρ H=some (.ret v,ρ',H')):ay T r (st::b) ρ H=some (.ret v,ρ',H'):=congrArg (dX · λf ρ H=>jA f ρ H (ay T r b ρ H)) h
theorem fr{n a:Nat}{g:bN}{args:List AV}{kws:List (NM×AV)}{v:AV}{ρ':ae}{H':AH}(hf:gc a=some g)(hb:fq g args kws=some ρ)(h:ay TT (aa TT n) g.body ρ H=some (.ret v,ρ',H')):(aa TT (n+2)).c a args kws H=some (v,H'):=(si hf hb).trans (congrArg (dX · λf _ H=>pg f H) h)
theorem fe{n a:Nat}{g:bN}{args:List AV}{kws:List (NM×AV)}{ρ':ae}{H':AH}(hf:gc a=some g)(hb:fq g args kws=some ρ)(h:ay TT (aa TT n) g.body ρ H=some (.next,ρ',H')):(aa TT (n+2)).c a args kws H=some (.none,H'):=(si hf hb).trans (congrArg (dX · λf _ H=>pg f H) h)
theorem aA{i:Nat}{e:IE}{v:AV}{H':AH}(h:r.e e ρ H=some (v,H')):am T r (.set i e) ρ H=some (.next,ρ.set i (some v),H'):=congrArg (ah · λ(v:AV) (H:AH)=>some (AF.next,c6 ρ i v,H)) h
theorem cB{e:IE}{v:AV}{H':AH}(h:r.e e ρ H=some (v,H')):am T r (.ret e) ρ H=some (.ret v,ρ,H'):=congrArg (ah · λ(v:AV) (H:AH)=>some (AF.ret v,ρ,H)) h
theorem iq{e:IE}{v:AV}{H':AH}(h:r.e e ρ H=some (v,H')):am T r (.expr e) ρ H=some (.next,ρ,H'):=congrArg (ah · λ(_:AV) (H:AH)=>some (AF.next,ρ,H)) h
theorem sM{n:Nat}{o:IE}{m:NM}{args:List IE}{s:Str}{vs:List AV}{v:AV}{H1 H2:AH}(ho:(aa TT n).e o ρ H=some (.str s,H1))(ha:cj (aa TT n) args ρ H1=some (vs,H2))(hm:i6 s m vs H2=some v)(hi:rc m=true):(aa TT (n+1)).e (.meth o m args []) ρ H=some (v,H2):=by
 show ah ((aa TT n).e o ρ H) (λov H=>ob (fc TT ov m H) λq=>ah (cj (aa TT n) args ρ H) λvs H=>eN TT (aa TT n) q ov m vs [] H)=_
 rw[ho,gQ]
 refine(congrArg (ob · λq=>ah (cj (aa TT n) args ρ H1) λvs H=>eN TT (aa TT n) q (.str s) m vs [] H) (congrArg (aw · (some (RM.str s))) hi)).trans ?_
 show ah (cj (aa TT n) args ρ H1) (λvs H=>eN TT (aa TT n) (.str s) (.str s) m vs [] H)=_
 rw[ha]
 exact congrArg (ob · λv=>some (v,H2)) hm
theorem ba{r:R}{e:IE}{v:AV}{H1:AH}(h:r.e e ρ H=some (v,H1)):cj r [e] ρ H=some ([v],H1):=congrArg (ah · λv H=>ah (cj r [] ρ H) λl H=>some (v::l,H)) h
theorem xB{n:Nat}{op:VK}{a b:IE}{u w v:AV}{H1 H2:AH}(h1:(aa TT n).e a ρ H=some (u,H1))(h2:(aa TT n).e b ρ H1=some (w,H2))(h3:bp H2 op u w=some v):(aa TT (n+1)).e (.bin op a b) ρ H=some (v,H2):=
 (congrArg (ah · λx H=>ah ((aa TT n).e b ρ H) λy H=>ob (bp H op x y) λv=>some (v,H)) h1).trans ((congrArg (ah · λy H=>ob (bp H op u y) λv=>some (v,H)) h2).trans (congrArg (ob · λv=>some (v,H2)) h3))
theorem BD{t:bD}{b o:ae->AH->Option (AF×ae×AH)}{x:AV}{l:List AV}{ρ1 ρ2:ae}{H2:AH}(h1:be t x ρ=some ρ1)(h2:b ρ1 H=some (.next,ρ2,H2)):bM t b o (x::l) ρ H=bM t b o l ρ2 H2:=
 (congrArg (ob · λρ=>dX (b ρ H) λf ρ H=>gW f ρ H (bM t b o l ρ H)) h1).trans (congrArg (dX · λf ρ H=>gW f ρ H (bM t b o l ρ H)) h2)
theorem Si{t:bD}{b o:ae->AH->Option (AF×ae×AH)}{x:AV}{l:List AV}{ρ1 ρ2:ae}{H2:AH}(h1:be t x ρ=some ρ1)(h2:b ρ1 H=some (.brk,ρ2,H2)):bM t b o (x::l) ρ H=some (.next,ρ2,H2):=
 (congrArg (ob · λρ=>dX (b ρ H) λf ρ H=>gW f ρ H (bM t b o l ρ H)) h1).trans (congrArg (dX · λf ρ H=>gW f ρ H (bM t b o l ρ H)) h2)
theorem eB{r:R}{a b:IE}{u v:AV}{H1 H2:AH}(h:r.e a ρ H=some (u,H1))(h2:r.e b ρ H1=some (v,H2)):cj r [a,b] ρ H=some ([u,v],H2):=(congrArg (ah · λv H=>ah (cj r [b] ρ H) λl H=>some (v::l,H)) h).trans (congrArg (ah · λl H=>some (u::l,H)) (ba h2))
theorem qn{n:Nat}{l:List IE}{vs:List AV}{H1:AH}(h:cj (aa TT n) l ρ H=some (vs,H1)):(aa TT (n+1)).e (.tup l) ρ H=some (.tup vs,H1):=congrArg (ah · λvs H=>some (AV.tup vs,H)) h
theorem tP{n:Nat}{l:List IE}{vs:List AV}{H1:AH}(h:cj (aa TT n) l ρ H=some (vs,H1)):(aa TT (n+1)).e (.list false l) ρ H=some (.lst vs,H1):=congrArg (ah · λvs H=>some (kf false vs H)) h
theorem dF{n x:Nat}{v:AV}(h:ρ[x]? =some (some v)):(aa TT (n+1)).e (.var x) ρ H=some (v,H):=congrArg (λo=>ob (ob o id) λv=>some (v,H)) h
theorem bF{n:Nat}{a i:IE}{u w v:AV}{H1 H2:AH}(h1:(aa TT n).e a ρ H=some (u,H1))(h2:(aa TT n).e i ρ H1=some (w,H2))(h3:c7 TT u w H2=some v):(aa TT (n+1)).e (.sub a i) ρ H=some (v,H2):=
 (congrArg (ah · λx H=>ah ((aa TT n).e i ρ H) λy H=>ob (c7 TT x y H) λv=>some (v,H)) h1).trans ((congrArg (ah · λy H=>ob (c7 TT u y H) λv=>some (v,H)) h2).trans (congrArg (ob · λv=>some (v,H2)) h3))
theorem fJ{r:R}{e:IE}{b:Bool}{H1:AH}(h:r.t e ρ H=some (b,H1)):bk r [e] ρ H=some (b,H1):=by
 unfold bk
 rw[h]
 cases b<;>rfl
theorem IU{r:R}{a b c:IE}{u v w:AV}{H1 H2 H3:AH}(h:r.e a ρ H=some (u,H1))(h2:r.e b ρ H1=some (v,H2))(h3:r.e c ρ H2=some (w,H3)):cj r [a,b,c] ρ H=some ([u,v,w],H3):=(congrArg (ah · λv H=>ah (cj r [b,c] ρ H) λl H=>some (v::l,H)) h).trans (congrArg (ah · λl H=>some (u::l,H)) (eB h2 h3))
theorem Ua{r:R}{a b c d:IE}{u v w z:AV}{H1 H2 H3 H4:AH}(h:r.e a ρ H=some (u,H1))(h2:r.e b ρ H1=some (v,H2))(h3:r.e c ρ H2=some (w,H3))(h4:r.e d ρ H3=some (z,H4)):cj r [a,b,c,d] ρ H=some ([u,v,w,z],H4):=(congrArg (ah · λv H=>ah (cj r [b,c,d] ρ H) λl H=>some (v::l,H)) h).trans (congrArg (ah · λl H=>some (u::l,H)) (IU h2 h3 h4))
theorem r6{r:R}{a:IE}{l:List IE}{x:Option (Bool×AH)}{H1:AH}(h:r.t a ρ H=some (false,H1))(k:ej r l ρ H1=x):ej r (a::l) ρ H=x:=(congrArg (ah · λb H=>bif b then some (true,H) else ej r l ρ H) h).trans k
theorem r5{r:R}{a:IE}{l:List IE}{x:Option (Bool×AH)}{H1:AH}(h:r.t a ρ H=some (true,H1))(k:bk r l ρ H1=x):bk r (a::l) ρ H=x:=(congrArg (ah · λb H=>bif b then bk r l ρ H else some (false,H)) h).trans k
theorem Ba{r:R}{a:IE}{l:List IE}{H1:AH}(h:r.t a ρ H=some (false,H1)):bk r (a::l) ρ H=some (false,H1):=congrArg (ah · λb H=>bif b then bk r l ρ H else some (false,H)) h
theorem LN{r:R}{a b:IE}{l:List IE}{x:Option (AV×AH)}{H1:AH}(h:r.e a ρ H=some (.bool true,H1))(k:jY r (b::l) ρ H1=x):jY r (a::b::l) ρ H=x:=(congrArg (ah · λv H=>ob (truthy H v) λt=>bif t then jY r (b::l) ρ H else some (v,H)) h).trans k
theorem nY{r:R}{a b:IE}{x y:Bool}{H1 H2:AH}(h1:r.t a ρ H=some (x,H1))(h2:x=true->r.t b ρ H1=some (y,H2))(h3:x=false->y=false/\H1=H2):bk r [a,b] ρ H=some (y,H2):=
 WX (motive:=λx=>r.t a ρ H=some (x,H1)->(x=true->r.t b ρ H1=some (y,H2))->(x=false->y=false/\H1=H2)->bk r [a,b] ρ H=some (y,H2)) x (λh1 _ h3=>(Ba h1).trans ((h3 rfl).1▸(h3 rfl).2▸rfl)) (λh1 h2 _=>r5 h1 (fJ (h2 rfl))) h1 h2 h3
theorem xK{n:Nat}{x:String}{f:AV}{args:List IE}{vs:List AV}{v:AV}{H1 H2:AH}(ha:cj (aa TT (n+1)) args ρ H=some (vs,H1))(h:bj TT (aa TT (n+1)) f vs [] H1=some (v,H2)):(aa TT (n+2)).e (.call (.glob x f) args []) ρ H=some (v,H2):=
 (congrArg (ah · λvs H=>bj TT (aa TT (n+1)) f vs [] H) ha).trans h
theorem xF{n a:Nat}{x:String}{args:List IE}{vs:List AV}{v:AV}{H1 H2:AH}(hi:cD a=none)(ha:cj (aa TT (n+1)) args ρ H=some (vs,H1))(h:(aa TT (n+1)).c a vs [] H1=some (v,H2)):(aa TT (n+2)).e (.call (.glob x (.g (.ref a))) args []) ρ H=some (v,H2):=xK ha ((RJ hi).trans h)
theorem tT{r:R}{e:IE}{v:AV}{b:Bool}{H1:AH}(h:r.e e ρ H=some (v,H1))(ht:truthy H1 v=some b):tN r e ρ H=some (b,H1):=(congrArg (ah · λv H=>ob (truthy H v) λb=>some (b,H)) h).trans (congrArg (ob · λb=>some (b,H1)) ht)
theorem xC{n:Nat}{op:CmpOp}{a b:IE}{u w:AV}{t:Bool}{H1 H2:AH}(h1:(aa TT n).e a ρ H=some (u,H1))(h2:(aa TT n).e b ρ H1=some (w,H2))(h3:ia TT H2 op u w=some t):(aa TT (n+1)).e (.cmp op a b) ρ H=some (.bool t,H2):=
 (congrArg (ah · λx H=>ah ((aa TT n).e b ρ H) λy H=>ob (ia TT H op x y) λv=>some (AV.bool v,H)) h1).trans ((congrArg (ah · λy H=>ob (ia TT H op u y) λv=>some (AV.bool v,H)) h2).trans (congrArg (ob · λv=>some (AV.bool v,H2)) h3))
theorem tC{n:Nat}{op:CmpOp}{a b:IE}{u w:AV}{t:Bool}{H1 H2:AH}(h1:(aa TT n).e a ρ H=some (u,H1))(h2:(aa TT n).e b ρ H1=some (w,H2))(h3:ia TT H2 op u w=some t):(aa TT (n+2)).t (.cmp op a b) ρ H=some (t,H2):=tT (r:=aa TT (n+1)) (xC h1 h2 h3) rfl
theorem EK{n:Nat}{op:VK}{a b:IE}{u w v:AV}{t:Bool}{H1 H2:AH}(h1:(aa TT n).e a ρ H=some (u,H1))(h2:(aa TT n).e b ρ H1=some (w,H2))(h3:bp H2 op u w=some v)(h4:truthy H2 v=some t):(aa TT (n+2)).t (.bin op a b) ρ H=some (t,H2):=tT (r:=aa TT (n+1)) (xB h1 h2 h3) h4
theorem aZ{r:R}{c:IE}{a e:List IS}{b:Bool}{H1:AH}{x:Option (AF×ae×AH)}(h:r.t c ρ H=some (b,H1))(k:(bif b then r.b a ρ H1 else r.b e ρ H1)=x):am TT r (.ite c a e) ρ H=x:=(congrArg (ah · λt H=>bif t then r.b a ρ H else r.b e ρ H) h).trans k
section
variable {t:bD}{b o:ae->AH->Option (AF×ae×AH)}{x:AV}{s s':aB}{ρ1 ρ2:ae}{H1 H2:AH}{k:Nat}
theorem fd(hn:aX T r s H=some (some (x,s'),H1))(h1:be t x ρ=some ρ1){f:AF}(h2:b ρ1 H1=some (f,ρ2,H2)):bo T r t b o (k+1) s ρ H=gW f ρ2 H2 (bo T r t b o k s' ρ2 H2):=
 (congrArg (ah · λ(p:Option (AV×aB)) (H:AH)=>p.elim (o ρ H) λx=>ob (be t x.1 ρ) λρ=>dX (b ρ H) λf ρ H=>gW f ρ H (bo T r t b o k x.2 ρ H)) hn).trans
  ((congrArg (ob · λρ=>dX (b ρ H1) λf ρ H=>gW f ρ H (bo T r t b o k s' ρ H)) h1).trans (congrArg (dX · λf ρ H=>gW f ρ H (bo T r t b o k s' ρ H)) h2))
theorem LW(hn:aX T r s H=some (none,H1)):bo T r t b o (k+1) s ρ H=o ρ H1:=congrArg (ah · λ(p:Option (AV×aB)) (H:AH)=>p.elim (o ρ H) λx=>ob (be t x.1 ρ) λρ=>dX (b ρ H) λf ρ H=>gW f ρ H (bo T r t b o k x.2 ρ H)) hn
end
theorem xM{n:Nat}{o:IE}{m:NM}{args:List IE}{kws:List (NM×IE)}{ov:AV}{q:RM}{vs:List AV}{ks:List (NM×AV)}{v:AV}{H1 H2 H3 H4:AH}(ho:(aa TT n).e o ρ H=some (ov,H1))(hr:fc TT ov m H1=some q)(ha:cj (aa TT n) args ρ H1=some (vs,H2))(hk:jZ (aa TT n) kws ρ H2=some (ks,H3))(hc:eN TT (aa TT n) q ov m vs ks H3=some (v,H4)):(aa TT (n+1)).e (.meth o m args kws) ρ H=some (v,H4):=
 (congrArg (ah · λov H=>ob (fc TT ov m H) λq=>ah (cj (aa TT n) args ρ H) λvs H=>ah (jZ (aa TT n) kws ρ H) λks H=>eN TT (aa TT n) q ov m vs ks H) ho).trans
  ((congrArg (ob · λq=>ah (cj (aa TT n) args ρ H1) λvs H=>ah (jZ (aa TT n) kws ρ H) λks H=>eN TT (aa TT n) q ov m vs ks H) hr).trans
   ((congrArg (ah · λvs H=>ah (jZ (aa TT n) kws ρ H) λks H=>eN TT (aa TT n) q ov m vs ks H) ha).trans ((congrArg (ah · λks H=>eN TT (aa TT n) q ov m vs ks H) hk).trans hc)))
theorem sD{r:R}{it:IE}{v:AV}{s:aB}{H1:AH}(hc:gH it=none)(h:r.e it ρ H=some (v,H1))(hs:lV v H1=some s):aO r it ρ H=some (s,H1):=by
 unfold aO
 rw[hc]
 exact(congrArg (ah · λv H=>ob (lV v H) λs=>some (s,H)) h).trans (congrArg (ob · λs=>some (s,H1)) hs)
theorem Pn{H1 H2 H3:AH}{o i:IE}{n c d f:Nat}{k v:AV}(ho:r.e o ρ H=some (.loc n,H1))(hi:r.e i ρ H1=some (k,H2))(hg:H2[n]? =some (.inst c d))(hf:T.delI c=some f)(hc:r.c f [.loc n,k] [] H2=some (v,H3)):am T r (.delI o i) ρ H=some (.next,ρ,H3):=by
 rw[K5,ho,gQ,r9,hi,gQ,hg,kz,vO,hf,kz,hc]
 rfl
theorem JA{H1 H2 H3 H4:AH}{o i e:IE}{n c d f:Nat}{k v u:AV}(he:r.e e ρ H=some (v,H1))(ho:r.e o ρ H1=some (.loc n,H2))(hi:r.e i ρ H2=some (k,H3))(hg:H3[n]? =some (.inst c d))(hf:T.setI c=some f)(hc:r.c f [.loc n,k,v] [] H3=some (u,H4)):am T r (.setI o i e) ρ H=some (.next,ρ,H4):=by
 rw[K6,he,gQ,ho,gQ,r9,hi,gQ,hg,kz,vO,hf,kz,hc]
 rfl
theorem ix{n:Nat}{c a b:IE}{t:Bool}{H1:AH}{x:Option (AV×AH)}(h:(aa TT n).t c ρ H=some (t,H1))(k:(bif t then(aa TT n).e a ρ H1 else(aa TT n).e b ρ H1)=x):(aa TT (n+1)).e (.ite c a b) ρ H=x:=(congrArg (ah · λt H=>bif t then(aa TT n).e a ρ H else(aa TT n).e b ρ H) h).trans k
theorem CF{c:IE}{b:List IS}:am T r (.wh c b) ρ H=cL (r.t c) (r.b b) 1000 ρ H:=rfl
theorem lX{c:ae->AH->Option (Bool×AH)}{b:ae->AH->Option (AF×ae×AH)}{k:Nat}{H':AH}(h:c ρ H=some (false,H')):cL c b (k+1) ρ H=some (.next,ρ,H'):=congrArg (ah · λt H=>bif t then dX (b ρ H) λf ρ H=>gW f ρ H (cL c b k ρ H) else some (.next,ρ,H)) h
theorem lr{c:ae->AH->Option (Bool×AH)}{b:ae->AH->Option (AF×ae×AH)}{k:Nat}{H' H2:AH}{ρ2:ae}(h:c ρ H=some (true,H'))(h2:b ρ H'=some (.next,ρ2,H2)):cL c b (k+1) ρ H=cL c b k ρ2 H2:=
 (congrArg (ah · λt H=>bif t then dX (b ρ H) λf ρ H=>gW f ρ H (cL c b k ρ H) else some (.next,ρ,H)) h).trans (congrArg (dX · λf ρ H=>gW f ρ H (cL c b k ρ H)) h2)
end leaves
theorem ib{H:AH}{f:AV->AH->Option (List AV×AH)}{g:AV->List AV}:∀{l:List AV},(∀ x∈l,f x H=some (g x,H))->bI f l H=some (l.flatMap g,H)
 | [],_=>rfl
 |x::l,h=>(congrArg (ah · λa H=>ah (bI f l H) λb H=>some (a++b,H)) (h x (.head _))).trans (congrArg (ah · λb H=>some (g x++b,H)) (ib λy hy=>h y (.tail _ hy)))
theorem lG{α β:Type}(f:α->β)(l:List α):l.flatMap (λx=>[f x])=l.map f:=List.rec (motive:=λl:List α=>l.flatMap (λx=>[f x])=l.map f) rfl (λx l ih=>congrArg (f x::·) ih) l
section comps
variable {T:c8}{r:R}{ρ:ae}{H H1:AH}
theorem gI{elt it:IE}{t:bD}{ifs:List IE}{l:List AV}{g:AV->List AV}(hs:aO r it ρ H=some (.items l,H1))(h:∀ x∈l,bJ r t ifs (λρ H=>ao T r elt [] ρ H) x (ρ++U2 (i7 t) none) H1=some (g x,H1)):
  ao T r elt [.mk t it ifs] ρ H=some (l.flatMap g,H1):=by
 rw[ao,hs]
 refine(congrArg (aw · _) (show(dj t (.items l)&&lO (.items l))=true by cases t<;>rfl)).trans (ib h)
theorem qR{elt it:IE}{a b:Nat}{ifs:List IE}{l:List AV}{g:AV->List AV}(hs:aO r it ρ H=some (.pairs l,H1))(h:∀ x∈l,bJ r (.many [a,b]) ifs (λρ H=>ao T r elt [] ρ H) x (ρ++[none,none]) H1=some (g x,H1)):
  ao T r elt [.mk (.many [a,b]) it ifs] ρ H=some (l.flatMap g,H1):=by
 rw[ao,hs]
 exact ib h
theorem gY{t:bD}{ifs:List IE}{elt:IE}{x v:AV}{ρ1:ae}{H2:AH}(hb:be t x ρ=some ρ1)(ht:bk r ifs ρ1 H=some (true,H1))(he:r.e elt ρ1 H1=some (v,H2)):bJ r t ifs (λρ H=>ao T r elt [] ρ H) x ρ H=some ([v],H2):=by
 unfold bJ
 rw[hb,kz,ht,gQ,cond_true]
 show ah (r.e elt ρ1 H1) (λv H=>some ([v],H))=_
 rw[he]
 rfl
theorem v5{t:bD}{ifs:List IE}{x:AV}{ρ1:ae}{go:ae->AH->Option (List AV×AH)}(hb:be t x ρ=some ρ1)(ht:bk r ifs ρ1 H=some (false,H1)):bJ r t ifs go x ρ H=some ([],H1):=by
 unfold bJ
 rw[hb,kz,ht]
 rfl
theorem aN{elt:IE}{gens:List IG}{vs:List AV}(h:ao T r elt gens ρ H=some (vs,H1))(hf:vs.length<=1000000):bW T r (.comp false elt gens) ρ H=some (.lst vs,H1):=(congrArg (ah · λ(vs:List AV) (H:AH)=>aw (aW vs.length) (some (kf false vs H))) h).trans (ol hf)
theorem rO{t:bD}{it:IE}{b o:List IS}{l:List AV}(h:aO r it ρ H=some (.items l,H1)):am T r (.fr t it b o) ρ H=bM t (r.b b) (r.b o) l ρ H1:=
 (congrArg (ah · λs H=>aw (dj t s) (lJ T r t (r.b b) (r.b o) s ρ H)) h).trans (congrArg (aw · _) (show dj t (.items l)=true by cases t<;>rfl))
theorem Pe{x y:Nat}{it:IE}{b o:List IS}{l:List AV}(h:aO r it ρ H=some (.pairs l,H1)):am T r (.fr (.many [x,y]) it b o) ρ H=bM (.many [x,y]) (r.b b) (r.b o) l ρ H1:=congrArg (ah · λs H=>aw (dj (.many [x,y]) s) (lJ T r (.many [x,y]) (r.b b) (r.b o) s ρ H)) h
end comps
end
end
section
section
structure BA(α:Type) where
 t:α
 f:α
 a:α->α->α
 o:α->α->α
 n:α->α
noncomputable def ab:BA Bool:=⟨true,false,(·&&·),(·||·),(!·)⟩
noncomputable def B1(N:Nat):BA Nat:=⟨2^N-1,0,(·&&&·),(·|||·),λx=>(2^N-1) ^^^x⟩
structure IF{α β:Type}(B:BA α)(C:BA β)(h:α->β):Prop where
 t:h B.t=C.t
 f:h B.f=C.f
 a:∀ x y,h (B.a x y)=C.a (h x) (h y)
 o:∀ x y,h (B.o x y)=C.o (h x) (h y)
 n:∀ x,h (B.n x)=C.n (h x)
theorem z7{N i:Nat}(h:i<N):IF (B1 N) ab (λx=>x.testBit i) where
 t:=by show(2^N-1).testBit i=true;rw[W8];simpa using h
 f:=Nat.zero_testBit i
 a:=λx y=>Nat.testBit_and x y i
 o:=λx y=>Nat.testBit_or x y i
 n:=λx=>by
  show((2^N-1) ^^^x).testBit i= !x.testBit i
  rw[Nat.testBit_xor,W8]
  simp[h]
structure V5(α:Type) where
 x0:α
 x1:α
 x2:α
 x3:α
 x4:α
 deriving DecidableEq
namespace V5
variable {α β:Type}
noncomputable def get(v:V5 α):Nat->α
 |0=>v.x0|1=>v.x1|2=>v.x2|3=>v.x3|_=>v.x4
noncomputable def of(f:Nat->α):V5 α:=⟨f 0,f 1,f 2,f 3,f 4⟩
noncomputable def map(h:α->β)(v:V5 α):V5 β:=⟨h v.x0,h v.x1,h v.x2,h v.x3,h v.x4⟩
theorem map_of(h:α->β)(f:Nat->α):(of f).map h=of λi=>h (f i):=rfl
theorem get_map(h:α->β)(v:V5 α)(i:Nat):(v.map h).get i=h (v.get i):=by
 unfold get
 split<;>rfl
theorem get_of(f:Nat->α){i:Nat}(hi:i<5):(of f).get i=f i:=by
 match i,hi with
 |0,_=>rfl
 |1,_=>rfl
 |2,_=>rfl
 |3,_=>rfl
 |4,_=>rfl
theorem of_get(v:V5 α):of v.get=v:=rfl
theorem ext'{u v:V5 α}(h:∀ i,i<5->u.get i=v.get i):u=v:=by
 rw[<-of_get u,<-of_get v]
 unfold of
 rw[h 0 (by decide),h 1 (by decide),h 2 (by decide),h 3 (by decide),h 4 (by decide)]
theorem of_congr{f g:Nat->α}(h:∀ i,i<5->f i=g i):of f=of g:=by
 unfold of
 rw[h 0 (by decide),h 1 (by decide),h 2 (by decide),h 3 (by decide),h 4 (by decide)]
end V5
section ops
variable {α:Type}(B:BA α)
noncomputable def dw(l:List Nat)(f:Nat->α):α:=l.foldr (λi x=>B.a (f i) x) B.t
noncomputable def fj(l:List Nat)(f:Nat->α):α:=l.foldr (λi x=>B.o (f i) x) B.f
noncomputable def BZ(c x y:α):α:=B.o (B.a c x) (B.a (B.n c) y)
noncomputable def i0(c x:α):α:=B.o (B.n c) x
noncomputable def sF(x y:α):α:=B.o (B.a x y) (B.a (B.n x) (B.n y))
noncomputable def five:List Nat:=[0,1,2,3,4]
noncomputable def iO(u v:V5 α):V5 α:=.of λi=>B.o (u.get i) (v.get i)
noncomputable def bC(u v:V5 α):V5 α:=.of λi=>B.a (u.get i) (B.n (v.get i))
noncomputable def dO(u:V5 α)(k:Nat):V5 α:=.of λi=>if i=k then B.f else u.get i
def jI(c:α)(u v:V5 α):V5 α:=.of λi=>BZ B c (u.get i) (v.get i)
noncomputable def dY:V5 α:=.of λ_=>B.f
noncomputable def fI(k:Nat):V5 α:=.of λi=>if i=k then B.t else B.f
def iJ(u:V5 α):α:=B.n (fj B five u.get)
def dm(g:V5 (V5 α))(shut:Nat)(met:V5 α)(b:Nat):V5 α:=jI B (met.get b) (dO B (iO B met (g.get b)) shut) met
def cK(g:V5 (V5 α))(shut:Nat):V5 α:=(five++five++five++five++five).foldl (dm B g shut) (if shut=0 then dY B else fI B 0)
def aQ(g:V5 (V5 α)):V5 (V5 α):=.of λb=>.of λs=>B.n ((cK B g s).get b)
def cX(g over:V5 (V5 α))(gone:V5 α)(b:Nat):α:=dw B five λlow=>i0 B ((g.get low).get b) (iJ B (bC B (bC B (over.get low) (over.get b)) gone))
def dD(g over:V5 (V5 α))(gone:V5 α)(b:Nat):V5 α:=.of λi=>if i=b then B.o (gone.get i) (cX B g over gone b) else gone.get i
noncomputable def dZ:List Nat:=[1,2,3,4]
def cR(g over:V5 (V5 α)):V5 α:=(dZ++dZ++dZ++dZ).foldl (dD B g over) (dY B)
def dg(over:V5 (V5 α))(stay:V5 α)(b:Nat):α:=B.a (stay.get b) (iJ B (bC B stay (over.get b)))
def n6(over:V5 (V5 α))(stay:V5 α)(b:Nat):α:=B.a (dg B over stay b) (dw B (UD b) λb'=>B.n (dg B over stay b'))
def c5(g over:V5 (V5 α))(gone:V5 α)(b:Nat):V5 α:=.of λhi=>if hi=b then B.f else B.a (B.n (gone.get hi)) (fj B five λlow=>B.a (n6 B over (bC B (over.get low) gone) b) ((g.get low).get hi))
def jO(w:Nat):List Nat:=five.filter (·!=w)
def jN(rows:V5 (V5 α))(w:Nat):α:=B.a (fj B (jO w) λd=>(rows.get d).get w) (dw B (jO w) λd=>dw B ((jO w).filter (·!=d)) λe=>B.n (B.a ((rows.get d).get w) ((rows.get e).get w)))
def iz(rows:V5 (V5 α))(w:Nat):V5 (V5 α):=.of λd=>if d=w then dY B else jI B ((rows.get d).get w) (dO B (dO B (iO B (rows.get d) (rows.get w)) d) w) (rows.get d)
def pi(u v:V5 α):α:=dw B five λi=>sF B (u.get i) (v.get i)
def pk(g over:V5 (V5 α))(gone:V5 α)(rest:List Nat)(rows:V5 (V5 α)):α:=dw B five λb=>if b=0∨b∈rest then B.a (B.n (gone.get b)) (pi B (rows.get b) (c5 B g over gone b)) else gone.get b
def jt(g over:V5 (V5 α))(gone:V5 α):Nat->List Nat->V5 (V5 α)->α
 |0,_,_=>B.t
 |n+1,rest,rows=>B.a (i0 B (dw B rest λw=>B.n (jN B rows w)) (pk B g over gone rest rows)) (dw B rest λw=>i0 B (jN B rows w) (jt g over gone n (rest.erase w) (iz B rows w)))
def jH(g:V5 (V5 α)):α:=B.a (dw B five λlow=>fj B five λb=>dg B (aQ B g) (bC B ((aQ B g).get low) (cR B g (aQ B g))) b) (jt B g (aQ B g) (cR B g (aQ B g)) 5 dZ g)
end ops
section hom
variable {α β:Type}{B:BA α}{C:BA β}{h:α->β}(H:IF B C h)
include H
theorem d5(f:Nat->α):∀ l:List Nat,h (dw B l f)=dw C l λi=>h (f i)
 | []=>H.t
 |x::l=>by
  show h (B.a (f x) (dw B l f))=C.a (h (f x)) (dw C l λi=>h (f i))
  rw[H.a,d5 f l]
theorem jD(f:Nat->α):∀ l:List Nat,h (fj B l f)=fj C l λi=>h (f i)
 | []=>H.f
 |x::l=>by
  show h (B.o (f x) (fj B l f))=C.o (h (f x)) (fj C l λi=>h (f i))
  rw[H.o,jD f l]
theorem Ke(c x y:α):h (BZ B c x y)=BZ C (h c) (h x) (h y):=by unfold BZ;rw[H.o,H.a,H.a,H.n]
theorem sB(c x:α):h (i0 B c x)=i0 C (h c) (h x):=by unfold i0;rw[H.o,H.n]
theorem Kb(x y:α):h (sF B x y)=sF C (h x) (h y):=by unfold sF;rw[H.o,H.a,H.a,H.n,H.n]
theorem Du(u v:V5 α):(iO B u v).map h=iO C (u.map h) (v.map h):=by
 unfold iO;rw[V5.map_of];refine V5.of_congr λi _=>?_;rw[H.o,V5.get_map,V5.get_map]
theorem jE(u v:V5 α):(bC B u v).map h=bC C (u.map h) (v.map h):=by
 unfold bC;rw[V5.map_of];refine V5.of_congr λi _=>?_;rw[H.a,H.n,V5.get_map,V5.get_map]
theorem sw(u:V5 α)(k:Nat):(dO B u k).map h=dO C (u.map h) k:=by
 unfold dO;rw[V5.map_of];refine V5.of_congr λi _=>?_;rw[V5.get_map];split
 ·exact H.f
 ·rfl
theorem wB(c:α)(u v:V5 α):(jI B c u v).map h=jI C (h c) (u.map h) (v.map h):=by
 unfold jI;rw[V5.map_of];refine V5.of_congr λi _=>?_;rw[Ke H,V5.get_map,V5.get_map]
theorem pv:(dY B).map h=dY C:=by
 unfold dY;rw[V5.map_of];exact V5.of_congr λi _=>H.f
theorem FD(k:Nat):(fI B k).map h=fI C k:=by
 unfold fI;rw[V5.map_of];refine V5.of_congr λi _=>?_;split
 ·exact H.t
 ·exact H.f
theorem qZ(u:V5 α):h (iJ B u)=iJ C (u.map h):=by
 unfold iJ;rw[H.n,jD H]
 congr 2
 funext i;rw[V5.get_map]
theorem kW(g:V5 (V5 α))(i j:Nat):((g.map (V5.map h)).get i).get j=h ((g.get i).get j):=by rw[V5.get_map,V5.get_map]
theorem vc(g:V5 (V5 α))(shut:Nat)(met:V5 α)(b:Nat):(dm B g shut met b).map h=dm C (g.map (V5.map h)) shut (met.map h) b:=by
 unfold dm;rw[wB H,sw H,Du H,V5.get_map,V5.get_map]
theorem ni{f:V5 α->Nat->V5 α}{f':V5 β->Nat->V5 β}(hf:∀ v b,(f v b).map h=f' (v.map h) b):∀(l:List Nat) (v:V5 α),(l.foldl f v).map h=l.foldl f' (v.map h)
 | [],_=>rfl
 |x::l,v=>by rw[Zz,Zz,ni hf l,hf]
theorem Dv(g:V5 (V5 α))(shut:Nat):(cK B g shut).map h=cK C (g.map (V5.map h)) shut:=by
 unfold cK
 rw[ni H (vc H g shut)]
 congr 1
 split
 ·exact pv H
 ·exact FD H 0
theorem wC(g:V5 (V5 α)):(aQ B g).map (V5.map h)=aQ C (g.map (V5.map h)):=by
 unfold aQ
 rw[V5.map_of]
 refine V5.of_congr λi _=>?_
 rw[V5.map_of]
 refine V5.of_congr λj _=>?_
 rw[H.n,<-Dv H,V5.get_map]
theorem wz(g over:V5 (V5 α))(gone:V5 α)(b:Nat):h (cX B g over gone b)=cX C (g.map (V5.map h)) (over.map (V5.map h)) (gone.map h) b:=by
 unfold cX
 rw[d5 H]
 congr 1
 funext low
 rw[sB H,qZ H,jE H,jE H,kW H,V5.get_map,V5.get_map]
theorem wA(g over:V5 (V5 α))(gone:V5 α)(b:Nat):(dD B g over gone b).map h=dD C (g.map (V5.map h)) (over.map (V5.map h)) (gone.map h) b:=by
 unfold dD
 rw[V5.map_of]
 refine V5.of_congr λi _=>?_
 rw[V5.get_map]
 split
 ·rw[H.o,wz H]
 ·rfl
theorem wy(g over:V5 (V5 α)):(cR B g over).map h=cR C (g.map (V5.map h)) (over.map (V5.map h)):=by
 unfold cR
 rw[ni H (wA H g over),pv H]
theorem nj(over:V5 (V5 α))(stay:V5 α)(b:Nat):h (dg B over stay b)=dg C (over.map (V5.map h)) (stay.map h) b:=by
 unfold dg
 rw[H.a,qZ H,jE H,V5.get_map,V5.get_map]
theorem Dt(over:V5 (V5 α))(stay:V5 α)(b:Nat):h (n6 B over stay b)=n6 C (over.map (V5.map h)) (stay.map h) b:=by
 unfold n6
 rw[H.a,nj H,d5 H]
 congr 2
 funext i
 rw[H.n,nj H]
theorem Kf(g over:V5 (V5 α))(gone:V5 α)(b:Nat):(c5 B g over gone b).map h=c5 C (g.map (V5.map h)) (over.map (V5.map h)) (gone.map h) b:=by
 unfold c5
 rw[V5.map_of]
 refine V5.of_congr λi _=>?_
 split
 ·exact H.f
 ·rw[H.a,H.n,jD H,V5.get_map]
  congr 2
  funext low
  rw[H.a,Dt H,jE H,kW H,V5.get_map]
theorem zt(rows:V5 (V5 α))(w:Nat):h (jN B rows w)=jN C (rows.map (V5.map h)) w:=by
 unfold jN
 rw[H.a,jD H,d5 H]
 congr 1
 ·congr 1;funext d;rw[kW H]
 ·congr 1;funext d;rw[d5 H];congr 1;funext e;rw[H.n,H.a,kW H,kW H]
theorem FC(rows:V5 (V5 α))(w:Nat):(iz B rows w).map (V5.map h)=iz C (rows.map (V5.map h)) w:=by
 unfold iz
 rw[V5.map_of]
 refine V5.of_congr λd _=>?_
 split
 ·exact pv H
 ·rw[wB H,sw H,sw H,Du H,kW H,V5.get_map,V5.get_map]
theorem J9(u v:V5 α):h (pi B u v)=pi C (u.map h) (v.map h):=by
 unfold pi
 rw[d5 H]
 congr 1
 funext i
 rw[Kb H,V5.get_map,V5.get_map]
theorem Ka(g over:V5 (V5 α))(gone:V5 α)(rest:List Nat)(rows:V5 (V5 α)):h (pk B g over gone rest rows)=pk C (g.map (V5.map h)) (over.map (V5.map h)) (gone.map h) rest (rows.map (V5.map h)):=by
 unfold pk
 rw[d5 H]
 congr 1
 funext b
 split
 ·rw[H.a,H.n,J9 H,Kf H,V5.get_map,V5.get_map]
 ·rw[V5.get_map]
theorem zs(g over:V5 (V5 α))(gone:V5 α):∀(n:Nat) (rest:List Nat) (rows:V5 (V5 α)),h (jt B g over gone n rest rows)=jt C (g.map (V5.map h)) (over.map (V5.map h)) (gone.map h) n rest (rows.map (V5.map h))
 |0,_,_=>H.t
 |n+1,rest,rows=>by
  unfold jt
  rw[H.a,sB H,d5 H,d5 H,Ka H]
  congr 2
  ·congr 1;funext w;rw[H.n,zt H]
  ·funext w;rw[sB H,zt H,zs g over gone n,FC H]
theorem Kd(g:V5 (V5 α)):h (jH B g)=jH C (g.map (V5.map h)):=by
 unfold jH
 rw[H.a,d5 H,zs H,wy H,wC H]
 congr 2
 funext low
 rw[jD H]
 congr 1
 funext b
 rw[nj H,jE H,<-wC H,<-wy H,V5.get_map]
end hom
end
section
noncomputable def rep(N c:Nat):Nat->Nat
 |0=>0
 |r+1=>rep N c r|||(c <<<(N*r))
noncomputable def cb:List Nat->Nat
 | []=>1
 |r::l=>cb l*r
def sC:List Nat->List (List Nat)
 | []=>[]
 |r::l=>((UD r).map λv=>(2^cb l-1) <<<(cb l*v))::(sC l).map λcs=>cs.map λc=>rep (cb l) c r
def nb:List Nat->Nat->List Nat
 | [],_=>[]
 |r::l,D=>D/cb l::nb l (D%cb l)
theorem uU:∀{l:List Nat},(∀ r∈l,0<r)->0<cb l
 | [],_=>Nat.one_pos
 |r::l,h=>Nat.mul_pos (uU λx hx=>h x (.tail _ hx)) (h r (.head _))
theorem Ex{N c:Nat}(hc:c<2^N):∀ r,rep N c r<2^(N*r)
 |0=>by simp[rep]
 |r+1=>by
  unfold rep
  have h1:=Ex hc r
  refine Nat.or_lt_two_pow (U7 h1 (VD (by decide) (Wt _ (XB r)))) ?_
  rw[Wc,Ze,Nat.pow_add,Nat.mul_comm]
  exact Nat.mul_lt_mul_of_pos_left hc (Yc _)
theorem AC{N c:Nat}(hN: 0<N)(hc:c<2^N):∀(r i:Nat),(rep N c r).testBit i=(decide (i<N*r)&&c.testBit (i%N))
 |0,i=>by simp[rep]
 |r+1,i=>by
  unfold rep
  rw[Nat.testBit_or,AC hN hc r i,Nat.testBit_shiftLeft]
  by_cases h1:i<N*r
  ·have h2:i<N*(r+1):=U7 h1 (Wt _ (XB r))
   have h3:¬N*r<=i:=by omega
   simp[h1,h2,h3]
  ·have h3:N*r<=i:=by omega
   by_cases h2:i<N*(r+1)
   ·have h4:i-N*r<N:=by rw[Ze] at h2;omega
    have h5:i%N=i-N*r:=by
     have:i=i-N*r+N*r:=by omega
     rw[this,Nat.add_mul_mod_self_left,Nat.mod_eq_of_lt (by omega)]
     omega
    simp[h1,h2,h3,h5]
   ·have h4:N<=i-N*r:=by rw[Ze] at h2;omega
    have h6:c.testBit (i-N*r)=false:=Nat.testBit_lt_two_pow (U7 hc (VD (by decide) h4))
    simp[h1,h2,h3,h6]
theorem C1{N v i:Nat}(hN: 0<N):((2^N-1) <<<(N*v)).testBit i=decide (v=i/N):=by
 rw[Nat.testBit_shiftLeft,W8]
 by_cases h:v=i/N
 ·subst h
  have h1:N*(i/N)<=i:=Nat.mul_div_le i N
  have h2:i-N*(i/N)<N:=by have:=Nat.div_add_mod i N;have:=Y5 i hN;omega
  simp[h1,h2]
 ·have:¬(N*v<=i/\i-N*v<N):=λ⟨h1,h2⟩=>h (by
   have:i/N=v:=by
    have e:i=N*v+(i-N*v):=by omega
    rw[e,Nat.mul_add_div hN,Nat.div_eq_of_lt h2,Zf]
   exact this.symm)
  rw[decide_eq_false h]
  by_cases h1:N*v<=i
  ·have h2:¬i-N*v<N:=λq=>this ⟨h1,q⟩
   simp[h2]
  ·simp[h1]
theorem zu:∀(l:List Nat),(∀ r∈l,0<r)->∀ cs∈sC l,∀ c∈cs,c<2^cb l
 | [],_,cs,h,_,_=>by cases h
 |r::l,hp,cs,h,c,hc=>by
  rcases U0.mp h with rfl|h
  ·obtain⟨v,hv,rfl⟩:=UY.mp hc
   have hv:=UR.mp hv
   rw[Wc]
   show _<2^(cb l*r)
   have h1:(2^cb l-1)<2^cb l:=by have:=Yc (cb l);omega
   refine U7 (Nat.mul_lt_mul_of_pos_right h1 (Yc _)) ?_
   rw[<-Nat.pow_add]
   refine VD (by decide) ?_
   rw[Zg,<-Ze]
   exact Wt _ hv
  ·obtain⟨cs',h1,rfl⟩:=UY.mp h
   obtain⟨c',h2,rfl⟩:=UY.mp hc
   exact Ex (zu l (λx hx=>hp x (.tail _ hx)) cs' h1 c' h2) r
noncomputable def wD(l ds:List Nat):List (List Bool):=List.zipWith (λr d=>(UD r).map λv=>decide (v=d)) l ds
theorem wE:∀(l:List Nat),(∀ r∈l,0<r)->∀ D,D<cb l->(sC l).map (λcs=>cs.map λc=>c.testBit D)=wD l (nb l D)
 | [],_,_,_=>rfl
 |r::l,hp,D,hD=>by
  have hp':∀ r∈l,0<r:=λx hx=>hp x (.tail _ hx)
  have hN:=uU hp'
  unfold sC nb wD
  rw[Vc,List.zipWith_cons_cons]
  congr 1
  ·rw[UX]
   exact Vn λv _=>C1 hN
  ·rw[UX]
   rw[<-show wD l (nb l (D%cb l))=List.zipWith (λr d=>(UD r).map λv=>decide (v=d)) l (nb l (D%cb l)) from rfl,<-wE l hp' (D%cb l) (Y5 _ hN)]
   refine Vn λcs hcs=>?_
   show(cs.map λc=>rep (cb l) c r).map (λc=>c.testBit D)=_
   rw[UX]
   refine Vn λc hc=>?_
   show(rep (cb l) c r).testBit D=_
   rw[AC hN (zu l hp' cs hcs c hc)]
   have:D<cb l*r:=hD
   simp[this]
section rows
variable {α:Type}
noncomputable def eX(B:BA α)(X:List (List α))(k v:Nat):α:=(X.getD k []).getD v B.f
noncomputable def JE(B:BA α)(X:List (List α))(i j:Nat):α:=match j with
 |1=>if i=0 then B.t else B.f
 |2=>if i<2 then eX B X 7 i else B.f
 |3=>if i<3 then eX B X 6 i else B.f
 |4=>if i<4 then eX B X 5 i else B.f
 |_=>B.f
def lU(B:BA α)(X:List (List α)):V5 (V5 α):=.of λi=>.of λj=>if i=j then B.f else B.o (JE B X i j) (eX B X (4-i) j)
end rows
theorem qY{α β:Type}{B:BA α}{C:BA β}{h:α->β}(H:IF B C h)(X:List (List α))(k v:Nat):h (eX B X k v)=eX C (X.map λl=>l.map h) k v:=by
 unfold eX
 simp only[List.getD_eq_getElem?_getD,List.getElem?_map]
 cases X[k]? with
 |none=>simp[H.f]
 |some l=>
  simp only[Option.map_some,YW,List.getElem?_map]
  cases l[v]? with
  |none=>simp[H.f]
  |some x=>simp
theorem Dw{α β:Type}{B:BA α}{C:BA β}{h:α->β}(H:IF B C h)(X:List (List α)):(lU B X).map (V5.map h)=lU C (X.map λl=>l.map h):=by
 unfold lU
 rw[V5.map_of]
 refine V5.of_congr λi _=>?_
 rw[V5.map_of]
 refine V5.of_congr λj _=>?_
 split
 ·exact H.f
 ·rw[H.o,qY H]
  congr 1
  unfold JE
  split
  ·split
   ·exact H.t
   ·exact H.f
  ·split
   ·exact qY H _ _ _
   ·exact H.f
  ·split
   ·exact qY H _ _ _
   ·exact H.f
  ·split
   ·exact qY H _ _ _
   ·exact H.f
  ·exact H.f
noncomputable def fu:List Nat:=[5,5,5,5,5,4,3,2]
end
section
theorem DM:Nat.beq (jH (B1 75000) (lU (B1 75000) (sC fu))) (2^75000-1)=true:=by decide +kernel
theorem It:cb fu=75000:=by decide
theorem Mt(D:Nat)(hD:D<75000):jH ab (lU ab (wD fu (nb fu D)))=true:=by
 have e:=Nat.eq_of_beq_eq_true DM
 have H:=z7 hD
 have h1:=Kd H (lU (B1 75000) (sC fu))
 rw[e,Dw H,wE fu (by decide) D (by rw[It];exact hD)] at h1
 rw[<-h1]
 exact(z7 hD).t
structure tQ where
 a1:Nat
 a2:Nat
 a3:Nat
 t:V5 Nat
structure tQ.Ok(d:tQ):Prop where
 a1:d.a1<2
 a2:d.a2<3
 a3:d.a3<4
 t0:d.t.x0<5
 t1:d.t.x1<5
 t2:d.t.x2<5
 t3:d.t.x3<5
 t4:d.t.x4<5
noncomputable def LG(d:tQ):List Nat:=[d.t.x4,d.t.x3,d.t.x2,d.t.x1,d.t.x0,d.a3,d.a2,d.a1]
def jC(d:tQ):V5 (V5 Bool):=lU ab (wD fu (LG d))
theorem Db{N q x:Nat}(hN: 0<N)(hx:x<N):(N*q+x)/N=q/\(N*q+x)%N=x:=by
 constructor
 ·rw[Nat.mul_add_div hN,Nat.div_eq_of_lt hx,Zf]
 ·rw[Nat.mul_add_mod,Nat.mod_eq_of_lt hx]
inductive IH:List Nat->List Nat->Prop
 |nil:IH [] []
 |cons {x r:Nat} {l xs:List Nat}:x<r->IH l xs->IH (r::l) (x::xs)
theorem JN{l xs:List Nat}(h:IH l xs):∃ D,D<cb l/\nb l D=xs:=h.rec ⟨0,Nat.one_pos,rfl⟩ λ{x _ l _} hx _ ih=>ih.elim λD k=>
 have c:=Db (N:=cb l) (q:=x) (x:=D) (Va (VX _) k.1) k.1
 ⟨cb l*x+D,U7 (Nat.add_lt_add_left k.1 _) (Wt (cb l) hx),by
  show _/_::nb l (_%_)=_
  rw[c.1,c.2,k.2]⟩
theorem FK(d:tQ)(h:d.Ok):jH ab (jC d)=true:=(JN (l:=fu) (xs:=LG d) (.cons h.t4 (.cons h.t3 (.cons h.t2 (.cons h.t1 (.cons h.t0 (.cons h.a3 (.cons h.a2 (.cons h.a1 .nil))))))))).elim λD k=>by
 have:=Mt D (Nat.lt_of_lt_of_eq k.1 (by decide))
 rw[k.2] at this
 exact this
section use
theorem eJ{l:List Nat}{f:Nat->Bool}:dw ab l f=true↔∀ x∈l,f x=true:=by
 induction l with
 |nil=>exact Iff.intro (λ_ x h=>nomatch h) (λ_=>rfl)
 |cons x l ih=>
  show(f x&&dw ab l f)=true↔_
  rw[U6,ih,UL]
theorem oY{l:List Nat}{f:Nat->Bool}:fj ab l f=true↔∃ x∈l,f x=true:=by
 induction l with
 |nil=>exact Iff.intro (λh=>by cases h) (λh=>by obtain⟨x,h,_⟩:=h;cases h)
 |cons x l ih=>
  show(f x||fj ab l f)=true↔_
  rw[ZA,ih]
  constructor
  ·rintro(h|⟨y,h1,h2⟩)
   ·exact⟨x,.head _,h⟩
   ·exact⟨y,.tail _ h1,h2⟩
  ·rintro⟨y,h1,h2⟩
   rcases U0.mp h1 with rfl|h1
   ·exact .inl h2
   ·exact .inr ⟨y,h1,h2⟩
theorem lM{x y:Bool}:i0 ab x y=true↔(x=true->y=true):=by
 cases x<;>cases y<;>simp[i0,ab]
theorem wH{x y:Bool}:sF ab x y=true↔x=y:=by
 cases x<;>cases y<;>simp[sF,ab]
theorem JR{u v:V5 Bool}:pi ab u v=true↔u=v:=by
 unfold pi
 rw[eJ]
 constructor
 ·intro h
  refine V5.ext' λi hi=>wH.mp (h i ?_)
  match i,hi with
  |0,_=>decide
  |1,_=>decide
  |2,_=>decide
  |3,_=>decide
  |4,_=>decide
 ·rintro rfl i _
  exact wH.mpr rfl
end use
end
end
section
open PySem PySem.W
section
theorem cI{a b:Int}(h:a=b):some (AV.int a)=some (AV.int b):=h▸rfl
theorem tE{n:Nat}{e:IE}{ρ:ae}{H H1:AH}{v:AV}{b:Bool}(h:(aa TT n).e e ρ H=some (v,H1))(ht:truthy H1 v=some b)(hs:lW (aa TT n) e=tN (aa TT n) e):(aa TT (n+1)).t e ρ H=some (b,H1):=(congrFun (congrFun hs ρ) H).trans (tT h ht)
theorem TR{n:Nat}{e:IE}{ρ:ae}{H H1:AH}{b:Bool}(h:(aa TT n).t e ρ H=some (b,H1)):(aa TT (n+1)).t (.not e) ρ H=some (!b,H1):=congrArg (ah · λb H=>some (!b,H)) h
theorem nP{T:c8}{r:R}{ρ:ae}{H H1:AH}{x:Nat}{op:VK}{e:IE}{u v y:AV}(hu:ob ρ[x]? id=some u)(h:r.e e ρ H=some (v,H1))(ha:iS op u v=some y):am T r (.aug x op e) ρ H=some (.next,ρ.set x (some y),H1):=by
 rw[Pd,hu,kz,h,gQ,ha]
 rfl
noncomputable def dG:Nat->Nat->List Nat
 |0,_=>[]
 |f+1,y=>if y=0 then[] else dG f (y/64)++[64+y%64+y%2*128]
noncomputable def fG(x:Nat):Nat:=x%64+if x%64<32 then 128 else 0
def bg(x:Nat):List Nat:=dG 8 (x/64)++[fG x]
def bZ(x:Nat):Str:=af (bg x)
theorem Gc(n x:Nat)(ρ:ae)(H:AH):(aa TT (n+2)).e (.bin .Mod (.var 0) (ac 64)) (some (.int x)::ρ) H=some (.int (x%64:Nat),H):=xB (n:=n+1) (u:=.int x) (w:=.int 64) rfl rfl (cI (LY x))
theorem H7(m:Nat)(x:Nat)(l:List Nat)(H:AH)(hl:l.length<=1000):
  (aa TT (m+8)).b n9 [some (.int x),some (.str (af l))] H=some (.next,[some (.int ((x/64:Nat):Int)),some (.str (af ((64+(x/64)%64+(x/64)%2*128)::l)))],H):=by
 have h3:((x/64%2:Nat):Int).natAbs<2^60:=WI (Y5 _ (by decide)) (by decide)
 show ay TT (aa TT (m+7)) n9 [some (.int x),some (.str (af l))] H=_
 refine bn (aA (xB (n:=m+6) (u:=.int x) (w:=.int 64) (v:=.int ((x/64:Nat):Int)) rfl rfl (cI (LX x)))) (bn (aA (xB (n:=m+6) (v:=.str (af ((64+x/64%64+x/64%2*128)::l))) (xK (ba (xB (n:=m+4) (u:=.int (64+(x/64%64:Nat))) (w:=.int ((x/64%2:Nat)*128)) (v:=.int ((64+x/64%64+x/64%2*128:Nat):Int)) (xB (n:=m+3) (u:=.int 64) rfl (Gc (m+1) _ _ _) rfl) (xB (n:=m+3) (xB (n:=m+2) (u:=.int (x/64:Nat)) (w:=.int 2) rfl rfl (cI (IY (x/64)))) rfl (E1 h3)) rfl)) (Mk (by lia))) rfl ((n0 (by rw[bS,bS,Vl];lia)).trans (congrArg (λs=>some (AV.str s)) (fE ..))))) rfl)
theorem p9(m:Nat)(x:Nat)(s:Str)(H:AH):(aa TT (m+8)).t tu [some (.int x),some (.str s)] H=some (decide (63<x),H):=by
 exact tC (n:=m+6) rfl rfl (congrArg some (decide_eq_decide.mpr (Wr (n:=63) (m:=x))))
theorem ya(m:Nat)(H:AH):∀(f k x:Nat) (l:List Nat),x<64^(f+1)->f<k->l.length+f<=1000->
  ∃ y,cL ((aa TT (m+8)).t tu) ((aa TT (m+8)).b n9) k [some (.int x),some (.str (af l))] H=some (.next,[some (.int y),some (.str (af (dG f (x/64)++l)))],H)
 |0,k,x,l,hx,hk,hl=>by
  obtain⟨k,rfl⟩:∃ j,k=j+1:=⟨k-1,by lia⟩
  exact⟨x,lX (by rw[p9,decide_eq_false (by lia)])⟩
 |f+1,k,x,l,hx,hk,hl=>by
  obtain⟨k,rfl⟩:∃ j,k=j+1:=⟨k-1,by lia⟩
  by_cases h: 63<x
  ·rw[lr (by rw[p9,decide_eq_true h]) (H7 m x l H (by lia))]
   obtain⟨y,e⟩:=ya m H f k (x/64) ((64+(x/64)%64+(x/64)%2*128)::l) (by rw[Nat.pow_succ] at hx;lia) (by lia) (by simp only[UU];lia)
   refine⟨y,e.trans ?_⟩
   rw[dG,if_neg (by lia)]
   simp
  ·refine⟨x,(lX (by rw[p9,decide_eq_false h])).trans ?_⟩
   rw[dG,if_pos (by lia)]
   rfl
theorem jc(m:Nat)(H:AH)(x:Nat)(hx:x<64^9):(aa TT (m+10)).c 300 [.int x] [] H=some (.str (bZ x),H):=by
 obtain⟨y,e2⟩:=ya m H 8 1000 x [fG x] hx (by lia) (by simp)
 have hI (n:Nat):(aa TT (n+5)).e (.ite (.cmp .Lt (.bin .Mod (.var 0) (ac 64)) (ac 32)) (ac 128) (ac 0)) [some (.int x),none] H=some (.int ((if x%64<32 then 128 else 0:Nat):Int),H):=ix (n:=n+4) (t:=decide (x%64<32)) (H1:=H) (tC (n:=n+2) (Gc n x _ H) rfl (congrArg some (decide_eq_decide.mpr (Wr (n:=x%64) (m:=32))))) (by
  by_cases h:x%64<32
  ·rw[decide_eq_true h,if_pos h];rfl
  ·rw[decide_eq_false h,if_neg h];rfl)
 exact fr (g:=kQ) rfl rfl (bn (aA (xK (ba (xB (n:=m+6) (v:=.int (fG x:Nat)) (Gc (m+4) _ _ _) (hI (m+1)) rfl)) (Mk (by unfold fG;split<;>lia)))) (bn e2 (br rfl)))
end
section
theorem kj(l:List Nat):fH (af l)=l.map λc=>AV.str (af [c]):=rfl
noncomputable def d6(l:List Nat):List AV:=l.map λ(c:Nat)=>AV.int (c:Int)
noncomputable def eC(c:Nat):Bool:=(c&&&64)!=0
noncomputable def ge(v:Nat)(l:List Nat):Nat:=l.foldl (λv d=>v*64+d%64) v
theorem IL(d:Nat):d&&&63=d%64:=Nat.and_two_pow_sub_one_eq_mod d 6
theorem Us(v d:Nat):(v*64|||d%64)=v*64+d%64:=by
 have:=Nat.two_pow_add_eq_or_of_lt (i:=6) (b:=d%64) (by lia) v
 rw[Nat.mul_comm v 64]
 exact this.symm
theorem oo(m n c v:Nat)(H:AH):(aa TT (m+4)).t yh [some (.loc n),some (.int c),some (.int v)] H=some (eC c,H):=by
 have h2:(((c&&&64:Nat):Int)!=0)=eC c:=by
  unfold eC
  by_cases h:c&&&64=0
  ·rw[h];rfl
  ·have h2:((c&&&64:Nat):Int)≠0:=by lia
   exact(bne_iff_ne.mpr h2).trans (bne_iff_ne.mpr h).symm
 exact EK (n:=m+2) (u:=.int c) (w:=.int (64:Nat)) rfl rfl (gF.trans (cI (bK c 64))) (congrArg some h2)
theorem AB(m n v i:Nat)(c d:Nat)(l:List AV)(H:AH)(hn:H[n]? =some (.liter l i))(hd:l[i]? =some (.int d))(hv:v<2^60):
  (aa TT (m+6)).b rM [some (.loc n),some (.int c),some (.int v)] H=some (.next,[some (.loc n),some (.int d),some (.int ((v*64+d%64:Nat):Int))],H.set n (.liter l (i+1))):=by
 have h2:((v:Int)*2^(6:Int).toNat)=((v*64:Nat):Int):=by
  show(v:Int)*64=_
  lia
 have h3:iS .LShift (.int (v:Int)) (.int 6)=some (.int ((v*64:Nat):Int)):=by
  rw[R1 ⟨by decide,by decide,by lia⟩,h2]
 show ay TT (aa TT (m+5)) rM [some (.loc n),some (.int c),some (.int v)] H=_
 exact bn (nP rfl rfl h3) (bn (aA (v:=.int d) (xK (ba rfl) (Jb hn hd))) (bn (nP (u:=.int (v*64:Nat)) (v:=.int (d&&&63:Nat)) (y:=.int (v*64+d%64:Nat)) rfl (xB (n:=m+4) (u:=.int d) (w:=.int (63:Nat)) rfl rfl (gF.trans (cI (bK d 63)))) (T8.trans (cI (by rw[gw,IL,Us])))) rfl))
theorem AA(m n c0:Nat)(post:List Nat)(hc0:eC c0=false)(l:List Nat):∀(ds:List Nat) (k i c v j:Nat) (H:AH),ds.length+1<k->l.drop i=ds++c0::post->(∀ d∈ds,eC d=true)->eC c=true->H[n]? =some (.liter (d6 l) i)->v<64^j->j+ds.length<=9->
  cL ((aa TT (m+6)).t yh) ((aa TT (m+6)).b rM) k [some (.loc n),some (.int c),some (.int v)] H=some (.next,[some (.loc n),some (.int c0),some (.int (ge v (ds++[c0]):Nat))],H.set n (.liter (d6 l) (i+ds.length+1)))
 | [],k,i,c,v,j,H,hk,hl,hds,hc,hn,hv,hj=>by
  obtain⟨k,rfl⟩:∃ j,k=j+2:=⟨k-2,by simp at hk;lia⟩
  have hi:l[i]? =some c0:=by
   have:(l.drop i)[0]? =some c0:=by rw[hl];rfl
   simpa using this
  have hv2:v<2^60:=U7 hv (UH (VD (by lia) (show j<=9 by simp at hj;lia)) (by decide))
  rw[lr (by rw[show m+6=m+2+4 from rfl,oo,hc]) (AB m n v i c c0 (d6 l) H hn (by simp[d6,hi]) hv2)]
  rw[lX (by rw[show m+6=m+2+4 from rfl,oo,hc0])]
  rfl
 |d::ds,k,i,c,v,j,H,hk,hl,hds,hc,hn,hv,hj=>by
  obtain⟨k,rfl⟩:∃ j,k=j+1:=⟨k-1,by simp at hk;lia⟩
  have hi:l[i]? =some d:=by
   have:(l.drop i)[0]? =some d:=by rw[hl];rfl
   simpa using this
  have hv2:v<2^60:=U7 hv (UH (VD (by lia) (show j<=9 by simp at hj;lia)) (by decide))
  have hnlt:n<H.length:=(List.getElem?_eq_some_iff.mp hn).1
  rw[lr (by rw[show m+6=m+2+4 from rfl,oo,hc]) (AB m n v i c d (d6 l) H hn (by simp[d6,hi]) hv2)]
  rw[AA m n c0 post hc0 l ds k (i+1) d _ (j+1) _ (by simp at hk;lia) (by
    have:(l.drop i).drop 1=ds++c0::post:=by rw[hl];rfl
    rw[Yl] at this;exact this) (λx hx=>hds x (.tail _ hx)) (hds d (.head _)) (by rw[List.getElem?_set_self hnlt]) (by rw[Nat.pow_succ];lia) (by simp at hj;lia)]
  rw[Y6]
  have:i+1+ds.length+1=i+(d::ds).length+1:=by simp;lia
  rw[this]
  rfl
theorem uS(m n c0:Nat)(hi post:List Nat)(hc0:eC c0=false)(l:List Nat)(i:Nat)(H:AH)(hl:l.drop i=hi++c0::post)(hf:∀ d∈hi,eC d=true)(hn:H[n]? =some (.liter (d6 l) i))(hlen:hi.length<=8):
  (aa TT (m+9)).c 83 [.loc n] [] H=some (.int (ge 0 (hi++[c0]):Nat),H.set n (.liter (d6 l) (i+hi.length+1))):=by
 have hnlt:n<H.length:=(List.getElem?_eq_some_iff.mp hn).1
 have first:∀(c:Nat) (r:List Nat),l.drop i=c::r->∀{b x},ay TT (aa TT (m+7)) b [some (.loc n),some (.int c),some (.int ((c%64:Nat):Int))] (H.set n (.liter (d6 l) (i+1)))=x->
   ay TT (aa TT (m+7)) (.set 1 (.call (dK "next") [(.var 0)] [])::.set 2 (.bin .BitAnd (.var 1) (ac 63))::b) [some (.loc n),none,none] H=x:=λc r e b x k=>by
  have hi:l[i]? =some c:=by
   have:(l.drop i)[0]? =some c:=by rw[e];rfl
   simpa using this
  refine bn (aA (v:=.int c) (Jb (T:=TT) (r:=aa TT 0) hn (by simp[d6,hi]))) (bn (aA (v:=.int ((c%64:Nat):Int)) ?_) k)
  show some (AV.int (VJ (c:Int) ((63:Nat):Int)),_)=_
  rw[bK,IL]
 cases hi with
 |nil=>
  rw[show ge 0 ([]++[c0])=c0%64 by simp[ge]]
  exact fr (g:=gk) (ρ:=[some (.loc n),none,none]) rfl rfl (first c0 post hl (bn (lX (k:=999) (H':=H.set n (.liter (d6 l) (i+1))) ((oo (m+3) n c0 (c0%64) (H.set n (.liter (d6 l) (i+1)))).trans (by rw[hc0]))) (br rfl)))
 |cons c ds=>
  have e:=AA (m+1) n c0 post hc0 l ds 1000 (i+1) c (c%64) 1 (H.set n (.liter (d6 l) (i+1))) (by simp at hlen;lia) (by
    have:(l.drop i).drop 1=ds++c0::post:=by rw[hl];rfl
    rw[Yl] at this;exact this) (λx hx=>hf x (.tail _ hx)) (hf c (.head _)) (by rw[List.getElem?_set_self hnlt]) (by lia) (by simp at hlen;lia)
  rw[Y6,show i+1+ds.length+1=i+(c::ds).length+1 by simp;lia] at e
  rw[show ge 0 (c::ds++[c0])=ge (c%64) (ds++[c0]) by simp[ge]]
  exact fr (g:=gk) (ρ:=[some (.loc n),none,none]) rfl rfl (first c (ds++c0::post) hl (bn e (br rfl)))
end
section
theorem JW:∀ a<64,∀ b<2,eC (64+a+b*128)=true:=by decide +kernel
theorem ud:∀ a<64,eC (a+if a<32 then 128 else 0)=false:=by decide +kernel
theorem lP:∀(f y:Nat),∀ d∈dG f y,eC d=true
 |0,_,d,h=>by cases h
 |f+1,y,d,h=>by
  unfold dG at h
  split at h
  ·cases h
  ·rcases Ve.mp h with h|h
   ·exact lP f _ d h
   ·rw[US] at h;subst h
    exact JW _ (by lia) _ (by lia)
theorem kh:∀(f y:Nat),(dG f y).length<=f
 |0,_=>V4 0
 |f+1,y=>by
  unfold dG
  split
  ·simp
  ·have:=kh f (y/64);simp;exact this
theorem ue(v:Nat)(a b:List Nat):ge v (a++b)=ge (ge v a) b:=YY
theorem rz:∀(f y:Nat),y<64^f->ge 0 (dG f y)=y
 |0,y,h=>by simp at h;subst h;rfl
 |f+1,y,h=>by
  unfold dG
  split
  ·rename_i e;subst e;rfl
  ·rw[ue,rz f _ (by rw[Nat.pow_succ] at h;lia)]
   show y/64*64+(64+y%64+y%2*128)%64=y
   lia
theorem x9(x:Nat)(h:x<64^9):ge 0 (bg x)=x:=by
 unfold bg
 rw[ue,rz 8 _ (by lia)]
 show x/64*64+fG x%64=x
 unfold fG
 split<;>lia
theorem im(x:Nat):(bg x).length<=9:=by
 unfold bg
 have:=kh 8 (x/64)
 simp;lia
theorem Ed{a:Nat}{l post:List Nat}(h:l=bg a++post):l.drop 0=dG 8 (a/64)++fG a::post:=by
 rw[h,Wh];unfold bg;simp
def FO(a b:Nat):AO:=.liter (d6 (bg a++bg b)) ((bg a).length+(bg b).length)
theorem mZ(m:Nat)(H:AH)(a b:Nat)(ha:a<64^9)(hb:b<64^9):(aa TT (m+13)).c 305 [.str (bZ a++bZ b)] [] H=some (.lst [.int a,.int b],H++[FO a b]):=by
 have la:=im a
 have lb:=im b
 have e1:ao TT (aa TT (m+9)) (.call (dK "ord") [(.var 2)] []) [(.mk (.one 2) (.var 0) [])] [some (.str (bZ a++bZ b)),none] H=some (d6 (bg a++bg b),H):=by
  have e2:fH (bZ a++bZ b)=(bg a++bg b).map λc=>AV.str (af [c]):=by
   unfold bZ;rw[fE,kj]
  refine(gI (g:=λx=>match x with | .str s=>[.int (s.cps.getD 0 0:Nat)]|_=>[]) (l:=fH (bZ a++bZ b)) rfl λx hx=>?_).trans ?_
  ·rw[e2] at hx
   obtain⟨c,_,rfl⟩:=UY.mp hx
   exact gY rfl rfl (xK (ba rfl) Sl)
  ·rw[e2,Zj]
   exact congrArg (λl=>some (l,H)) (lG (λ(c:Nat)=>AV.int c) _)
 have hf:(d6 (bg a++bg b)).length<=1000000:=by unfold d6;simp;lia
 have hA:(aa TT (m+9)).c 83 [.loc H.length] [] (H++[.liter (d6 (bg a++bg b)) 0])=some (.int a,H++[.liter (d6 (bg a++bg b)) (bg a).length]):=by
  rw[uS m H.length (fG a) (dG 8 (a/64)) (bg b) (ud _ (by lia)) (bg a++bg b) 0 _ (Ed rfl) (lP 8 _) (by rw[dU];rfl) (kh 8 _)]
  have:=x9 a ha
  unfold bg at this
  rw[this,gT]
  have: 0+(dG 8 (a/64)).length+1=(bg a).length:=by unfold bg;simp
  rw[this];rfl
 have hB:(aa TT (m+9)).c 83 [.loc H.length] [] (H++[.liter (d6 (bg a++bg b)) (bg a).length])=some (.int b,H++[FO a b]):=by
  rw[uS m H.length (fG b) (dG 8 (b/64)) [] (ud _ (by lia)) (bg a++bg b) (bg a).length _ (by
   rw[List.drop_left];unfold bg;simp) (lP 8 _) (by rw[dU];rfl) (kh 8 _)]
  have:=x9 b hb
  unfold bg at this
  rw[this,gT]
  have:(bg a).length+(dG 8 (b/64)).length+1=(bg a).length+(bg b).length:=by unfold bg;simp;lia
  rw[this];rfl
 refine fr (g:=l8) (ρ:=[some (.str (bZ a++bZ b)),none]) rfl rfl (bn (aA (v:=.loc H.length) (H':=H++[.liter (d6 (bg a++bg b)) 0]) ?_) (br (cB ?_)))
 ·exact xK (ba (aN e1 hf)) Qo
 ·exact tP (n:=m+10) (eB (xF rfl (ba rfl) hA) (xF rfl (ba rfl) hB))
end
section
section
variable {T:c8}{r:R}{ρ:ae}{H:AH}
theorem dC{α:Type}(l:List α){p:Nat}(h:p<1000000):Mine.getL l (p:Int)=l[p]? :=congrArg (aw · l[p]?) (Ye h)
theorem Dm{α:Type}(l:List α):Mine.getL l (0:Int)=l[0]? :=rfl
theorem iQ{v:AV}{l:List AV}{i:Int}(h:au H v= .lst l):c7 T v (.int i) H=Mine.getL l i:=congrArg (CH · i) h
theorem yr{s:Str}{i:Int}:c7 T (.str s) (.int i) H=ob (Mine.getL s.cps.toList i) λc=>some (.str (af [c])):=rfl
noncomputable def aU(l:List Nat):List AV:=l.map λ(i:Nat)=>AV.int (i:Int)
theorem Il(n:Nat):gS 0 (n:Int)=aU (UD n):=by
 unfold gS aU
 rw[show(((n:Int)-0).toNat)=n by lia]
 exact Vn λi _=>by rw[Int.zero_add]
theorem Ev(a n:Nat):gS (a:Int) ((a+n:Nat):Int)=aU ((UD n).map λi=>a+i):=by
 unfold gS aU
 rw[show(((a+n:Nat):Int)-(a:Int)).toNat=n by lia,UX]
 exact Vn λi _=>rfl
theorem dq{x:IE}{n:Nat}{H':AH}(h:r.e x ρ H=some (.int n,H'))(hn:n<=1000):aO r (.call (cz "range") [x] []) ρ H=some (.items (aU (UD n)),H'):=by
 show CD r [x] ρ H=_
 rw[<-Il]
 exact(congrArg (ah · λv H=>fo (λn=>bA (0<=n/\n<=1000) (some (aB.items (gS 0 n),H))) v) h).trans (gd (p:=0<=(n:Int)/\(n:Int)<=1000) (by lia))
theorem CE{x y:IE}{a n:Nat}{H' H2:AH}(h:r.e x ρ H=some (.int a,H'))(h2:r.e y ρ H'=some (.int ((a+n:Nat):Int),H2))(hn:a+n<=1000):aO r (.call (cz "range") [x,y] []) ρ H=some (.items (aU ((UD n).map λi=>a+i)),H2):=by
 show CD r [x,y] ρ H=_
 unfold CD
 simp only[h,h2,gQ,PS,M0]
 rw[gd (by lia),Ev]
theorem jT{x:IE}{l:List AV}{H':AH}(h:r.e x ρ H=some (.lst l,H'))(hn:l.length<=1000000):aO r (.call (cz "enumerate") [x] []) ρ H=some (.pairs (eh l),H'):=
 (congrArg (ah · λv H=>aw (rp v) (ob (lV v H) (r8 λl=>aw (aW l.length) (some (aB.pairs (eh l),H))))) h).trans (ol hn)
theorem EE{x:IE}{s:Str}{H':AH}(h:r.e x ρ H=some (.str s,H'))(hn:(fH s).length<=1000000):aO r (.call (cz "enumerate") [x] []) ρ H=some (.pairs (eh (fH s)),H'):=
 (congrArg (ah · λv H=>aw (rp v) (ob (lV v H) (r8 λl=>aw (aW l.length) (some (aB.pairs (eh l),H))))) h).trans (ol hn)
theorem jw(l:List AV):eh l=l.zipIdx.map λp=>AV.tup [.int (p.2:Nat),p.1]:=by
 have:∀(l:List AV) (k:Nat),((List.range' k l.length).zip l).map (λp=>AV.tup [.int (p.1:Nat),p.2])=(l.zipIdx k).map λp=>AV.tup [.int (p.2:Nat),p.1]:=by
  intro l
  induction l with
  |nil=>intro k;rfl
  |cons x l ih=>
   intro k
   rw[UU,List.range'_succ,List.zip_cons_cons,Vc,List.zipIdx_cons,Vc,ih]
 unfold eh
 rw[List.range_eq_range']
 exact this l 0
theorem Az(p:Nat):(2:Int)^(p:Int).toNat=((2^p:Nat):Int):=by rw[VP];push_cast;rfl
theorem K8(x p:Nat):(x:Int).fdiv (2^(p:Int).toNat)=((x/2^p:Nat):Int):=by rw[Az,pj]
theorem vm(x p:Nat):bp H .RShift (.int (x:Int)) (.int (p:Int))=some (.int ((x/2^p:Nat):Int)):=by
 rw[R9 (by lia),K8]
theorem vk(x p:Nat)(hx:x<2^64)(hp:p<=1000):bp H .LShift (.int (x:Int)) (.int (p:Int))=some (.int ((x*2^p:Nat):Int)):=by
 rw[E2 ⟨by lia,by lia,by lia⟩,Az]
 push_cast;rfl
theorem iy(p:Nat)(hp:p<=1000):bp H .LShift (.int 1) (.int (p:Int))=some (.int ((2^p:Nat):Int)):=by
 have:=vk (H:=H) 1 p (by decide) hp
 rw[Nat.one_mul] at this
 exact this
theorem sh(x p:Nat):(VJ ((x/2^p:Nat):Int) 1!=0)=x.testBit p:=by
 have h1:(1:Int)=((1:Nat):Int):=rfl
 rw[h1,bK,Nat.testBit,Nat.shiftRight_eq_div_pow,Nat.and_comm]
 by_cases h:(1&&&x/2^p)=0
 ·rw[h];rfl
 ·exact(bne_iff_ne.mpr (by lia)).trans (bne_iff_ne.mpr h).symm
end
def eI:List Str:=flagTab.map (·.2)
def fF(p:Nat):Str:=if p<10 then eI.getD p Str.empty else(af [48,120]++af [[49,50,52,56].getD (p%4) 0])++Txt.mul (af [48]) ((p/4:Nat):Int)
noncomputable def cY(x:Nat):Str:=baseText "0x" 16 (x:Int)
def f0(x F:Nat):List Str:=((UD 5).filter λi=>decide (F+i<32)&&x.testBit (F+i)).map (λi=>fF (F+i))++if x/2^32>0 then[cY (x/2^32*2^32)] else[]
def nV(x F:Nat):Str:=WT (af [44,32]) (f0 x F)
theorem Qk(a:Nat):(a:Int).fmod 4=((a%4:Nat):Int):=lH a 4
theorem Qj(a:Nat):(a:Int).fdiv 4=((a/4:Nat):Int):=pj a 4
theorem Ro(m x p:Nat)(a c:Option AV)(H:AH)(hp:p<32):(aa TT (m+8)).e Iz [some (.int x),a,some (.lst (eI.map .str)),c,some (.int p)] H=some (.str (fF p),H):=by
 refine ix (n:=m+7) (t:=decide (p<10)) (H1:=H) (tC (n:=m+5) rfl rfl (congrArg some (decide_eq_decide.mpr (Wr (n:=p) (m:=10))))) ?_
 unfold fF
 by_cases h:p<10
 ·rw[decide_eq_true h,if_pos h]
  exact bF (n:=m+6) rfl rfl ((iQ dL).trans ((dC _ (WI h (by decide))).trans (by
   have:eI.length=10:=rfl
   simp[List.getD,h,this])))
 ·rw[decide_eq_false h,if_neg h]
  have h8:p/4<8:=by lia
  have l3:∀ q<8,(Txt.mul (af [48]) ((q:Nat):Int)).length<=8:=by decide +kernel
  exact xB (n:=m+6) (xB (n:=m+5) (u:=.str (af [48,120])) (w:=.str (af [[49,50,52,56].getD (p%4) 0])) rfl (bF (n:=m+4) rfl (xB (n:=m+3) rfl rfl (cI (Qk p))) (by
    have:p%4<4:=by lia
    rw[yr,show(UO #[49,50,52,56]).cps.toList=[49,50,52,56] from rfl,dC _ (by lia),List.getElem?_eq_getElem (by rw[UU];exact this),List.getD,List.getElem?_eq_getElem (by rw[UU];exact this)]
    rfl)) (n0 (by rw[bS,bS];exact UG rfl))) (xB (n:=m+5) rfl (xB (n:=m+4) (u:=.int p) rfl rfl (cI (Qj p))) (PU (s:=af [48]) ⟨Wg _,Int.ofNat_le.mpr (UH (Wq h8) (by decide)),by decide⟩)) (n0 (by
    rw[fE,bS]
    exact UH (VA (l3 _ h8) _) (UG rfl)))
theorem TX(m x p:Nat)(a b c:Option AV)(H:AH):(aa TT (m+8)).t PA [some (.int x),a,b,c,some (.int p)] H=some (decide (p<32)&&x.testBit p,H):=by
 exact show bk (aa TT (m+7)) _ _ _=_ from nY (x:=decide (p<32)) (H1:=H) (tC (n:=m+5) rfl rfl (congrArg some (decide_eq_decide.mpr (Wr (n:=p) (m:=32))))) (λh=>EK (n:=m+5) (u:=.int (x/2^p:Nat)) (w:=.int 1) (xB (n:=m+4) rfl rfl (vm x p)) rfl gF ((congrArg some (sh x p)).trans (by rw[h];rfl))) λh=>⟨by rw[h];rfl,rfl⟩
end
section
noncomputable def ag(l:List Str):List AV:=l.map AV.str
theorem fX:∀(l:List Str),jU (ag l)=some l
 | []=>rfl
 |x::l=>by
  have:=fX l
  unfold ag at this
  simp[ag,jU,this,gD,ob]
def wG(x:Nat):AV->List AV
 | .int p=>if decide (p.toNat<32)&&x.testBit p.toNat then[.str (fF p.toNat)] else[]
 |_=>[]
theorem A0(x:Nat):∀(l:List Nat),(aU l).flatMap (wG x)=ag ((l.filter λp=>decide (p<32)&&x.testBit p).map fF)
 | []=>rfl
 |p::l=>by
  have ih:=A0 x l
  unfold aU at ih ⊢
  rw[Vc,WN,ih,VE]
  show(if decide ((p:Int).toNat<32)&&x.testBit (p:Int).toNat then _ else _)++_=_
  rw[VP]
  cases decide (p<32)&&x.testBit p<;>rfl
theorem BF:YQ (UO #[79,80,84,73,77,73,90,69,68,32,78,69,87,76,79,67,65,76,83,32,86,65,82,65,82,71,83,32,86,65,82,75,69,89,87,79,82,68,83,32,78,69,83,84,69,68,32,71,69,78,69,82,65,84,79,82,32,78,79,70,82,69,69,32,67,79,82,79,85,84,73,78,69,32,73,84,69,82,65,66,76,69,95,67,79,82,79,85,84,73,78,69,32,65,83,89,78,67,95,71,69,78,69,82,65,84,79,82]) (UO #[32])=eI:=by decide +kernel
theorem D6:∀ p<32,(fF p).length<=20:=by decide +kernel
theorem nS{α:Type}(f:α->Nat)(k:Nat):∀(l:List α),(∀ x∈l,f x<=k)->(l.map f).sum<=l.length*k
 | [],_=>by simp
 |x::l,h=>by
  have:=nS f k l λy hy=>h y (.tail _ hy)
  have:=h x (.head _)
  rw[Vc,Xv,UU,Nat.add_mul]
  lia
noncomputable def JF:IE:=.ite (.cmp .Gt (.bin .RShift (.var 0) (ac 32)) (ac 0)) (.list false [.call (dK "hex") [.bin .LShift (.bin .RShift (.var 0) (ac 32)) (ac 32)] []]) (.list false [])
theorem PE{m:Nat}{H:AH}{a b c:Option AV}{x:Int}{y z:Nat}(h1:bp H .RShift (.int x) (.int 32)=some (.int y))(h2:bp H .LShift (.int y) (.int 32)=some (.int z))(h3:(baseText "0x" 16 (z:Int)).length<=1000000):(aa TT (m+9)).e JF [some (.int x),a,b,c] H=some (.lst (ag (if y>0 then[cY z] else[])),H):=by
 refine ix (n:=m+8) (t:=decide (y>0)) (H1:=H) (tC (n:=m+6) (xB (n:=m+5) rfl rfl h1) rfl (congrArg some (decide_eq_decide.mpr (Wr (n:=0) (m:=y))))) ?_
 by_cases h:y>0
 ·rw[decide_eq_true h,if_pos h]
  exact tP (n:=m+7) (ba (xK (ba (xB (n:=m+5) (xB (n:=m+4) rfl rfl h1) rfl h2)) (FG h3)))
 ·rw[decide_eq_false h,if_neg h];rfl
theorem nW(m:Nat)(H:AH)(x F:Nat)(hF:F<32)(hx:x/2^32<2^64)(hh:(cY (x/2^32*2^32)).length<=1000):(aa TT (m+13)).c 310 [.int x,.int F] [] H=some (.str (nV x F),H):=by
 have e1:ao TT (aa TT (m+10)) Iz [.mk (.one 4) (.call (cz "range") [(.var 1),(.bin .Add (.var 1) (ac 5))] []) [PA]] [some (.int x),some (.int F),some (.lst (ag eI)),none] H =
   some (ag (((UD 5).filter λi=>decide (F+i<32)&&x.testBit (F+i)).map λi=>fF (F+i)),H):=by
  refine(gI (g:=wG x) (CE (a:=F) (n:=5) (H':=H) (H2:=H) rfl rfl (by lia)) λv hv=>?_).trans ?_
  ·unfold aU at hv
   obtain⟨p,hp,rfl⟩:=UY.mp hv
   have i1:=TX (m+2) x p (some (.int F)) (some (.lst (ag eI))) none H
   have i2:=Ro (m+2) x p (some (.int F)) none H
   have ht:=fJ i1
   show _=some ((if decide ((p:Int).toNat<32)&&x.testBit (p:Int).toNat then[AV.str (fF (p:Int).toNat)] else[]),H)
   rw[VP]
   cases hb:(decide (p<32)&&x.testBit p)
   ·exact v5 rfl (hb▸ht)
   ·exact gY rfl (hb▸ht) (i2 (of_decide_eq_true (Vu.mp hb).1))
  ·rw[A0,List.filter_map,UX]
   rfl
 have hlen:∀ l:List Nat,(ag (((l.filter λi=>decide (F+i<32)&&x.testBit (F+i)).map λi=>fF (F+i)))).length<=l.length:=by
  intro l;unfold ag;rw[UC,UC];exact Vb _ _
 have hl5:=hlen (UD 5)
 rw[WA] at hl5
 have hsum:∀ ts:List Str,ts.length<=6->(∀ t∈ts,t.length<=1000)->(ts.map WD).sum+ts.length*(UO #[44,32]).length<=1000000:=by
  intro ts h1 h2
  have h3:=nS WD 1000 ts h2
  have h4:ts.length*(UO #[44,32]).length<=6*2:=WU h1 (show(UO #[44,32]).length<=2 by decide)
  have h5:ts.length*1000<=6*1000:=Nat.mul_le_mul_right _ h1
  lia
 have hW:∀ t∈f0 x F,t.length<=1000:=λt ht=>(Ve.mp ht).elim (λht=>by
  obtain⟨i,hi,rfl⟩:=UY.mp ht
  exact UH (D6 _ (of_decide_eq_true (Vu.mp (UZ.mp hi).2).1)) (by decide)) λht=>by
  split at ht
  ·rw[US] at ht;subst ht;exact hh
  ·cases ht
 have hT:(ag (if x/2^32>0 then[cY (x/2^32*2^32)] else[])).length<=1:=by split<;>simp[ag]
 have e2:∀ a:Option AV,(aa TT (m+9)).e JF [some (.int x),some (.int F),some (.lst (ag eI)),a] H=some (.lst (ag (if x/2^32>0 then[cY (x/2^32*2^32)] else[])),H):=λa=>PE (vm x 32) (vk _ 32 hx (by decide)) (UH hh (by decide))
 have hn:(f0 x F).length<=6:=by
  have:(f0 x F).length=(ag (((UD 5).filter λi=>decide (F+i<32)&&x.testBit (F+i)).map λi=>fF (F+i))).length+(ag (if x/2^32>0 then[cY (x/2^32*2^32)] else[])).length:=by unfold f0 ag;rw[UM,UC (f:=AV.str),UC (f:=AV.str)]
  lia
 have hA:ag (((UD 5).filter λi=>decide (F+i<32)&&x.testBit (F+i)).map λi=>fF (F+i))++ag (if x/2^32>0 then[cY (x/2^32*2^32)] else[])=ag (f0 x F):=Vt.symm
 refine fr (g:=mj) (ρ:=[some (.int x),some (.int F),none,none]) rfl rfl (bn (aA (v:=.lst (ag eI)) (H':=H) (sM rfl rfl ((D2 (by decide) (by decide)).trans (congrArg (λl=>some (AV.lst (ag l))) BF)) rfl)) (bn (aA (aN e1 (by lia))) (br (cB (sM rfl (ba (xB rfl (e2 _) ((ga rfl rfl (by lia)).trans (congrArg (λl=>some (AV.lst l)) hA)))) (vv (v:=.lst (ag (f0 x F))) rfl (fX _) (hsum _ hn hW)) rfl)))))
end
section
def pn(i:Nat):Str:=(flagTab.lookup ((2^i:Nat):Int)).getD (cY (2^i))
def ip:List Nat->Nat->List Str->List Str
 | [],x,acc=>acc++[cY x]
 |i::l,x,acc=>if x&&&2^i=0 then ip l x acc else if(x|||2^i)-(x&&&2^i)=0 then acc++[pn i] else ip l ((x|||2^i)-(x&&&2^i)) (acc++[pn i])
def jQ:List Nat->Nat->Bool
 | [],x=>decide ((cY x).length<=1000)
 |i::l,x=>if x&&&2^i=0 then jQ l x else if(x|||2^i)-(x&&&2^i)=0 then true else jQ l ((x|||2^i)-(x&&&2^i))
def bu(x:Nat):List Str:=ip (UD 32) x []
def ji(x:Nat):Str:=WT (af [44,32]) (bu x)
theorem Bo(a b:Nat):W9 (a:Int) (b:Int)=(((a|||b)-(a&&&b):Nat):Int):=by
 unfold W9
 rw[gw,bK]
 have:a&&&b<=a|||b:=UH Nat.and_le_left Nat.left_le_or
 lia
theorem nz(a:Nat):((a:Int)!=0)=(a !=0):=by
 by_cases h:a=0
 ·subst h;rfl
 ·exact(bne_iff_ne.mpr (by lia)).trans (bne_iff_ne.mpr h).symm
theorem Gf:fc TT (.g (.ref 39)) .get H=some .tab:=rfl
theorem Ge{r:R}{i:Int}{s:Str}{o:AV}{H:AH}:eN TT r .tab o .get [.int i,.str s] [] H=some (.str ((flagTab.lookup i).getD s),H):=rfl
theorem J5:∀ i<40,(cY (2^i)).length<=20:=by decide +kernel
theorem Id(m x i n:Nat)(b:Option AV)(H:AH)(hi:i<40)(h:x&&&2^i=0):(aa TT (m+10)).b jP [some (.int x),some (.loc n),some (.int i),b] H=some (.next,[some (.int x),some (.loc n),some (.int i),some (.int (2^i:Nat))],H):=by
 show ay TT (aa TT (m+9)) jP [some (.int x),some (.loc n),some (.int i),b] H=_
 exact bn (aA (xB (n:=m+8) (u:=.int 1) (w:=.int i) rfl rfl (iy i (UH (Wq hi) (by decide))))) (dz (aZ (b:=false) (EK (n:=m+7) (u:=.int x) (w:=.int (2^i:Nat)) rfl rfl (gF.trans (cI (bK x (2^i)))) (congrArg some ((nz _).trans (by rw[h];rfl)))) rfl))
theorem KW(m x i:Nat)(acc:List Str)(H:AH)(hi:i<40)(hacc:acc.length<=100):ay TT (aa TT (m+8)) En [some (.int x),some (.loc H.length),some (.int i),some (.int (2^i:Nat))] (H++[.list (ag acc)]) =
  some (if(x|||2^i)-(x&&&2^i)=0 then .brk else .next,[some (.int ((x|||2^i)-(x&&&2^i):Nat)),some (.loc H.length),some (.int i),some (.int (2^i:Nat))],H++[.list (ag (acc++[pn i]))]):=by
 have hk:∀ r H,bj TT r (.g (.builtin "hex")) [.int ((2^i:Nat):Int)] [] H=some (.str (cY (2^i)),H):=λr H=>FG (UH (J5 i hi) (by decide))
 have g0:(H++[AO.list (ag acc)])[H.length]? =some (.list (ag acc)):=dU _ _
 have hl:(ag acc).length<=1000000:=by unfold ag;rw[UC];lia
 have ha:ag acc++[AV.str (pn i)]=ag (acc++[pn i]):=by unfold ag;simp
 refine bn (iq (v:=.none) (H':=H++[AO.list (ag (acc++[pn i]))]) (xM (n:=m+7) (vs:=[.str (pn i)]) rfl (lS g0) (ba (xM (n:=m+6) rfl Gf (eB rfl (xK (ba rfl) (hk _ _))) rfl Ge)) rfl ((lD g0 hl).trans (by rw[gT,ha];rfl)))) (bn (nP (u:=.int x) (v:=.int (2^i:Nat)) (y:=.int ((x|||2^i)-(x&&&2^i):Nat)) rfl rfl (R3.trans (cI (Bo x (2^i))))) (dz (aZ (b:=!((x|||2^i)-(x&&&2^i)!=0)) (TR (tE (n:=m+6) (v:=.int ((x|||2^i)-(x&&&2^i):Nat)) rfl (congrArg some (nz _)) rfl)) ?_)))
 by_cases h:(x|||2^i)-(x&&&2^i)=0
 ·rw[if_pos h,h];rfl
 ·rw[if_neg h,bne_iff_ne.mpr h];rfl
theorem Ie(m x i:Nat)(b:Option AV)(acc:List Str)(H:AH)(hi:i<40)(h:x&&&2^i≠0)(hacc:acc.length<=100):(aa TT (m+10)).b jP [some (.int x),some (.loc H.length),some (.int i),b] (H++[.list (ag acc)]) =
  some (if(x|||2^i)-(x&&&2^i)=0 then .brk else .next,[some (.int ((x|||2^i)-(x&&&2^i):Nat)),some (.loc H.length),some (.int i),some (.int (2^i:Nat))],H++[.list (ag (acc++[pn i]))]):=by
 show ay TT (aa TT (m+9)) jP [some (.int x),some (.loc H.length),some (.int i),b] _=_
 exact bn (aA (xB (n:=m+8) (u:=.int 1) (w:=.int i) rfl rfl (iy i (UH (Wq hi) (by decide))))) (dz (aZ (b:=true) (EK (n:=m+7) (u:=.int x) (w:=.int (2^i:Nat)) rfl rfl (gF.trans (cI (bK x (2^i)))) (congrArg some ((nz _).trans (bne_iff_ne.mpr h)))) (KW m x i acc H hi hacc)))
theorem O9:∀ i<40,(pn i).length<=30:=by decide +kernel
theorem tA(m:Nat)(H:AH):∀(l:List Nat) (x:Nat) (a b:Option AV) (acc:List Str),(∀ i∈l,i<40)->acc.length+l.length<=100->jQ l x=true->
  ∃ y c d,bM (.one 2) ((aa TT (m+10)).b jP) ((aa TT (m+10)).b rJ) (aU l) [some (.int x),some (.loc H.length),a,b] (H++[.list (ag acc)])=some (.next,[some (.int (y:Nat)),some (.loc H.length),c,d],H++[.list (ag (ip l x acc))])
 | [],x,a,b,acc,hl,hn,hx=>by
  refine⟨x,a,b,?_⟩
  have g0:(H++[AO.list (ag acc)])[H.length]? =some (.list (ag acc)):=dU _ _
  have hl:(ag acc).length<=1000000:=by unfold ag;rw[UC];simp at hn;lia
  have hk:∀ r H,bj TT r (.g (.builtin "hex")) [.int (x:Int)] [] H=some (.str (cY x),H):=λr H=>FG (UH (of_decide_eq_true hx) (by decide))
  have ha:ag acc++[AV.str (cY x)]=ag (acc++[cY x]):=by unfold ag;simp
  show ay TT (aa TT (m+9)) rJ [some (.int x),some (.loc H.length),a,b] _=_
  exact dz (iq (v:=.none) (H':=H++[AO.list (ag (acc++[cY x]))]) (xM (n:=m+8) (vs:=[.str (cY x)]) rfl (lS g0) (ba (xK (ba rfl) (hk _ _))) rfl ((lD g0 hl).trans (by rw[gT,ha];rfl))))
 |i::l,x,a,b,acc,hl,hn,hx=>by
  have hi:=hl i (.head _)
  unfold jQ at hx
  unfold ip
  by_cases h:x&&&2^i=0
  ·rw[if_pos h] at hx ⊢
   obtain⟨y,c,d,e⟩:=tA m H l x (some (.int i)) (some (.int (2^i:Nat))) acc (λj hj=>hl j (.tail _ hj)) (by simp at hn;lia) hx
   exact⟨y,c,d,(BD rfl (Id m x i _ b _ hi h)).trans e⟩
  ·have t:=Ie m x i b acc H hi h (by simp at hn;lia)
   rw[if_neg h] at hx ⊢
   by_cases h2:(x|||2^i)-(x&&&2^i)=0
   ·rw[if_pos h2] at t ⊢
    exact⟨_,some (.int i),some (.int (2^i:Nat)),Si rfl t⟩
   ·rw[if_neg h2] at hx t ⊢
    obtain⟨y,c,d,e⟩:=tA m H l ((x|||2^i)-(x&&&2^i)) (some (.int i)) (some (.int (2^i:Nat))) (acc++[pn i]) (λj hj=>hl j (.tail _ hj)) (by simp at hn ⊢;lia) hx
    exact⟨y,c,d,(BD rfl t).trans e⟩
theorem qe:∀(l:List Nat) (x:Nat) (acc:List Str),(ip l x acc).length<=acc.length+l.length+1
 | [],x,acc=>by simp[ip]
 |i::l,x,acc=>by
  unfold ip
  split
  ·have:=qe l x acc;simp;lia
  ·split
   ·simp
   ·have:=qe l ((x|||2^i)-(x&&&2^i)) (acc++[pn i]);simp at this ⊢;lia
theorem nM:∀(l:List Nat) (x:Nat) (acc:List Str),(∀ i∈l,i<40)->jQ l x=true->(∀ t∈acc,t.length<=1000)->∀ t∈ip l x acc,t.length<=1000
 | [],x,acc,hl,hx,ha,t,ht=>by
  rcases Ve.mp ht with ht|ht
  ·exact ha t ht
  ·rw[US] at ht;subst ht;exact of_decide_eq_true hx
 |i::l,x,acc,hl,hx,ha,t,ht=>by
  unfold ip at ht
  unfold jQ at hx
  have hp:=O9 i (hl i (.head _))
  have ha':∀ t∈acc++[pn i],t.length<=1000:=λt ht=>by
   rcases Ve.mp ht with ht|ht
   ·exact ha t ht
   ·rw[US] at ht;subst ht;lia
  split at ht
  ·rename_i h
   rw[if_pos h] at hx
   exact nM l x acc (λj hj=>hl j (.tail _ hj)) hx ha t ht
  ·rename_i h
   rw[if_neg h] at hx
   split at ht
   ·exact ha' t ht
   ·rename_i h2
    rw[if_neg h2] at hx
    exact nM l _ _ (λj hj=>hl j (.tail _ hj)) hx ha' t ht
theorem rL(m:Nat)(H:AH)(x:Nat)(hx:jQ (UD 32) x=true):(aa TT (m+13)).c 46 [.int x] [] H=some (.str (ji x),H++[.list (ag (bu x))]):=by
 have hr:∀ i∈UD 32,i<40:=λi hi=>WI (UR.mp hi) (by decide)
 have hL:ip (UD 32) x []=bu x:=rfl
 obtain⟨y,c,d,e⟩:=tA (m+1) H (UD 32) x none none [] hr (by simp) hx
 rw[hL] at e
 clear hL
 have hP:ji x=WT (UO #[44,32]) (bu x):=rfl
 rw[hP]
 have e1:aO (aa TT (m+11)) (.call (cz "range") [(ac 32)] []) [some (.int x),some (.loc H.length),none,none] (H++[.list []])=some (.items (aU (UD 32)),H++[.list []]):=dq (n:=32) rfl (by decide)
 have hlen:(bu x).length<=33:=by have:=qe (UD 32) x [];simp at this;exact this
 have h3:=nS WD 1000 (bu x) (nM _ _ _ hr hx λt h=>by cases h)
 have h4:(bu x).length*(UO #[44,32]).length<=33*2:=WU hlen (show(UO #[44,32]).length<=2 by decide)
 have h5:(bu x).length*1000<=33*1000:=Nat.mul_le_mul_right _ hlen
 have hd:au (H++[.list (ag (bu x))]) (.loc H.length)= .lst (ag (bu x)):=Bx (dU _ _)
 generalize bu x=P at *
 have h6:(P.map WD).sum+P.length*(UO #[44,32]).length<=1000000:=by lia
 rw[show m+1+10=m+11 from rfl] at e
 have s1:=(rO (T:=TT) (r:=aa TT (m+11)) (t:=.one 2) (b:=jP) (o:=rJ) e1).trans e
 have s2:(aa TT (m+11)).e (.meth (.con (.str (UO #[44,32]))) .join [.var 1] []) [some (.int y),some (.loc H.length),c,d] (H++[.list (ag P)])=some (.str (WT (UO #[44,32]) P),H++[.list (ag P)]):=sM rfl (ba (v:=.loc H.length) rfl) (vv hd (fX _) h6) rfl
 have s0:(aa TT (m+11)).e (.list true []) [some (.int x),none,none,none] H=some (.loc H.length,H++[.list []]):=rfl
 have s3:ay TT (aa TT (m+11)) kG [some (.int x),none,none,none] H=some (.ret (.str (WT (UO #[44,32]) P)),[some (.int y),some (.loc H.length),c,d],H++[.list (ag P)]):=bn (aA s0) (bn s1 (br (cB s2)))
 exact fr (g:=j6) (ρ:=[some (.int x),none,none,none]) rfl rfl s3
end
section
noncomputable def ai(v:V5 Bool):Nat:=v.x0.toNat+(2*v.x1.toNat+(4*v.x2.toNat+(8*v.x3.toNat+16*v.x4.toNat)))
theorem xb(u v:V5 Bool):ai u|||ai v=ai (iO ab u v):=by
 obtain⟨a0,a1,a2,a3,a4⟩:=u
 obtain⟨b0,b1,b2,b3,b4⟩:=v
 revert a0 a1 a2 a3 a4 b0 b1 b2 b3 b4
 decide +kernel
theorem pG(u v:V5 Bool):ai u-(ai u&&&ai v)=ai (bC ab u v):=by
 obtain⟨a0,a1,a2,a3,a4⟩:=u
 obtain⟨b0,b1,b2,b3,b4⟩:=v
 revert a0 a1 a2 a3 a4 b0 b1 b2 b3 b4
 decide +kernel
theorem KD(u:V5 Bool):∀ k<5,ai u-(ai u&&&2^k)=ai (dO ab u k):=by
 obtain⟨a0,a1,a2,a3,a4⟩:=u
 revert a0 a1 a2 a3 a4
 decide +kernel
theorem ik(u:V5 Bool):∀ k<5,(ai u).testBit k=u.get k:=by
 obtain⟨a0,a1,a2,a3,a4⟩:=u
 revert a0 a1 a2 a3 a4
 decide +kernel
theorem Gg:∀ k<5,ai (fI ab k)=2^k:=by decide
theorem rl(u:V5 Bool):ai u<32:=by
 obtain⟨a0,a1,a2,a3,a4⟩:=u
 revert a0 a1 a2 a3 a4
 decide +kernel
theorem BW(u:V5 Bool):iJ ab u=decide (ai u=0):=by
 obtain⟨a0,a1,a2,a3,a4⟩:=u
 revert a0 a1 a2 a3 a4
 decide +kernel
theorem KE(s o:V5 Bool):iJ ab (bC ab s o)=decide (ai s&&&ai o=ai s):=by
 obtain⟨a0,a1,a2,a3,a4⟩:=s
 obtain⟨b0,b1,b2,b3,b4⟩:=o
 revert a0 a1 a2 a3 a4 b0 b1 b2 b3 b4
 decide +kernel
theorem Qv(u v:V5 Bool):jI ab true u v=u:=by
 refine(V5.of_congr λi _=>?_).trans (V5.of_get u)
 show(true&&u.get i||false&&v.get i)=_
 simp
theorem Qu(u v:V5 Bool):jI ab false u v=v:=by
 refine(V5.of_congr λi _=>?_).trans (V5.of_get v)
 show(false&&u.get i||true&&v.get i)=_
 simp
theorem MZ(c:Bool)(u v:V5 Bool):jI ab c u v=if c then u else v:=by
 cases c
 ·exact Qu u v
 ·exact Qv u v
theorem Pq(x y:Nat):((x:Int)-((x&&&y:Nat):Int))=((x-(x&&&y):Nat):Int):=by
 have:x&&&y<=x:=Nat.and_le_left
 lia
theorem kS{b o:ae->AH->Option (AF×ae×AH)}{H:AH}{S:Type}{t:Nat}(E:S->ae->Prop)(f:S->Nat->S):∀(l:List Nat) (s:S) (ρ:ae),
  (∀ s ρ i,i∈l->E s ρ->∃ ρ',b (c6 ρ t (.int i)) H=some (.next,ρ',H)/\E (f s i) ρ')->E s ρ->∃ ρ',bM (.one t) b o (aU l) ρ H=o ρ' H/\E (l.foldl f s) ρ'
 | [],s,ρ,_,hE=>⟨ρ,rfl,hE⟩
 |i::l,s,ρ,hs,hE=>by
  obtain⟨ρ1,e1,h1⟩:=hs s ρ i (.head _) hE
  obtain⟨ρ2,e2,h2⟩:=kS (o:=o) E f l (f s i) ρ1 (λs ρ j hj=>hs s ρ j (.tail _ hj)) h1
  exact⟨ρ2,(BD rfl e1).trans e2,h2⟩
def bT(g:V5 (V5 Bool)):List AV:=aU (five.map λi=>ai (g.get i))
theorem Ip(g:V5 (V5 Bool)){b:Nat}(hb:b<5):(bT g)[b]? =some (.int (ai (g.get b))):=by
 match b,hb with
 |0,_=>rfl
 |1,_=>rfl
 |2,_=>rfl
 |3,_=>rfl
 |4,_=>rfl
theorem kD(H:AH)(x y:Nat):bp H .Sub (.int (x:Int)) (.int ((x&&&y:Nat):Int))=some (.int ((x-(x&&&y):Nat):Int)):=by rw[Sa,Pq]
theorem yk(T:c8)(H:AH)(g:V5 (V5 Bool))(b:Nat)(hb:b<5):c7 T (.lst (bT g)) (.int (b:Int)) H=some (.int (ai (g.get b))):=by
 rw[iQ dL,dC _ (show b<1000000 by lia),Ip g hb]
theorem Ur(H:AH)(u v:V5 Bool):bp H .BitOr (.int (ai u)) (.int (ai v))=some (.int (ai (iO ab u v))):=by rw[IM,gw,xb]
theorem Sf(H:AH)(u:V5 Bool)(k:Nat)(hk:k<5):bp H .Sub (.int (ai u)) (.int (VJ (ai u) ((2^k:Nat):Int)))=some (.int (ai (dO ab u k))):=by
 rw[bK,kD,KD u k hk]
theorem CK{n x p:Nat}{a b:IE}{ρ:ae}{H:AH}(ha:(aa TT n).e a ρ H=some (.int x,H))(hb:(aa TT n).e b ρ H=some (.int p,H)):(aa TT (n+3)).t (.bin .BitAnd (.bin .RShift a b) (ac 1)) ρ H=some (x.testBit p,H):=EK (n:=n+1) (w:=.int 1) (xB ha hb (vm x p)) rfl gF (congrArg some (sh x p))
theorem KZ(m:Nat)(g:V5 (V5 Bool))(shut b:Nat)(met:V5 Bool)(c:Option AV)(H:AH)(hs:shut<5)(hb:b<5):
  (aa TT (m+8)).b lj [some (.lst (bT g)),some (.int shut),some (.int (ai met)),c,some (.int b)] H=some (.next,[some (.lst (bT g)),some (.int shut),some (.int (ai (dm ab g shut met b))),c,some (.int b)],H):=by
 unfold dm
 rw[MZ]
 have e1:=iy (H:=H) shut (show shut<=1000 by lia)
 have e2:=Ur H met (g.get b)
 have e3:=Sf H (iO ab met (g.get b)) shut hs
 have e4:=yk TT H g b hb
 have e5:=ik met b hb
 generalize bT g=rg at *
 generalize iO ab met (g.get b)=u at *
 generalize ai (g.get b)=gb at *
 show ay TT (aa TT (m+7)) lj [some (.lst rg),some (.int shut),some (.int (ai met)),c,some (.int b)] H=_
 refine dz (aZ (b:=met.get b) ((CK (n:=m+4) rfl rfl).trans (by rw[e5])) ?_)
 cases h:met.get b
 ·rfl
 ·exact show ay TT (aa TT (m+6)) _ _ _=_ from bn (aA (xB (n:=m+5) (u:=.int (ai met)) (w:=.int gb) rfl (bF (n:=m+4) rfl rfl e4) e2)) (bn (aA (xB (n:=m+5) (u:=.int (ai u)) rfl (xB (n:=m+4) (u:=.int (ai u)) rfl (xB (n:=m+3) (u:=.int 1) (w:=.int shut) rfl rfl e1) gF) e3)) rfl)
theorem yQ(m:Nat)(g:V5 (V5 Bool))(shut:Nat)(H:AH)(hs:shut<5):(aa TT (m+13)).c 366 [.lst (bT g),.int shut] [] H=some (.int (ai (cK ab g shut)),H):=by
 have e0:∀ k (ρ:ae),aO (aa TT (k+1)) (.call (cz "range") [(ac 5)] []) ρ H=some (.items (aU (UD 5)),H):=λk ρ=>dq (n:=5) rfl (by decide)
 let E:V5 Bool->ae->Prop:=λmet ρ=>∃ a b,ρ=[some (.lst (bT g)),some (.int shut),some (.int (ai met)),a,b]
 have inner:∀(met:V5 Bool) (ρ:ae),E met ρ->∃ ρ',(aa TT (m+11)).b [.fr (.one 4) (.call (cz "range") [(ac 5)] []) lj []] ρ H=some (.next,ρ',H)/\E ((UD 5).foldl (dm ab g shut) met) ρ':=by
  intro met ρ hE
  obtain⟨ρ',e1,h1⟩:=kS (b:=(aa TT (m+10)).b lj) (o:=(aa TT (m+10)).b []) (H:=H) (t:=4) E (dm ab g shut) (UD 5) met ρ (λs ρ i hi ⟨a,b,hρ⟩=>by
   subst hρ
   exact⟨_,KZ (m+2) g shut i s a H hs (UR.mp hi),⟨a,some (.int i),rfl⟩⟩) hE
  exact⟨ρ',bn ((rO (e0 (m+9) ρ)).trans e1) rfl,h1⟩
 obtain⟨ρ',e1,h1⟩:=kS (b:=(aa TT (m+11)).b [.fr (.one 4) (.call (cz "range") [(ac 5)] []) lj []]) (o:=(aa TT (m+11)).b []) (H:=H) (t:=3) E (λmet _=>(UD 5).foldl (dm ab g shut) met) (UD 5) (if shut=0 then dY ab else fI ab 0) [some (.lst (bT g)),some (.int shut),some (.int (ai (if shut=0 then dY ab else fI ab 0))),none,none] (λs ρ i hi ⟨a,b,hρ⟩=>by
   subst hρ
   exact inner s _ ⟨some (.int i),b,rfl⟩) ⟨none,none,rfl⟩
 obtain⟨a,b,rfl⟩:=h1
 have hq:(UD 5).foldl (λmet _=>(UD 5).foldl (dm ab g shut) met) (if shut=0 then dY ab else fI ab 0)=cK ab g shut:=by
  unfold cK
  simp only[YY]
  rfl
 rw[hq] at e1
 have h0:((shut:Int)=0)↔shut=0:=by lia
 have e2:(aa TT (m+11)).e (.ite (.cmp .Eq (.var 1) (ac 0)) (ac 0) (ac 1)) [some (.lst (bT g)),some (.int shut),none,none,none] H=some (.int (ai (if shut=0 then dY ab else fI ab 0)),H):=by
  by_cases h:shut=0
  ·subst h;rfl
  ·exact ix (n:=m+10) (t:=false) (H1:=H) (tC (n:=m+8) rfl rfl (congrArg some (decide_eq_false λq=>h (h0.mp q)))) (by rw[if_neg h];rfl)
 have e3:=(rO (T:=TT) (r:=aa TT (m+11)) (e0 (m+10) _)).trans e1
 exact fr (g:=j4) (ρ:=[some (.lst (bT g)),some (.int shut),none,none,none]) rfl rfl (bn (aA e2) (bn e3 (br (cB rfl))))
end
section
section
variable {T:c8}{r:R}{ρ:ae}{H H1:AH}
theorem Sx(c:Nat->Bool)(f:Nat->AV)(l:List Nat):(aU l).flatMap (λv=>match v with | .int i=>bif c i.toNat then[f i.toNat] else[]|_=>[])=(l.filter c).map f:=by
 induction l with
 |nil=>rfl
 |cons i l ih=>
  refine(congrArg ((bif c i then[f i] else[])++·) ih).trans ?_
  rw[VE]
  cases c i<;>rfl
theorem po{elt it:IE}{t:Nat}{ifs:List IE}{l:List Nat}{c:Nat->Bool}{f:Nat->AV}(hs:aO r it ρ H=some (.items (aU l),H1))(h1:∀ i∈l,bk r ifs (c6 (ρ++[none]) t (.int (i:Nat))) H1=some (c i,H1))
  (h2:∀ i∈l,c i=true->r.e elt (c6 (ρ++[none]) t (.int (i:Nat))) H1=some (f i,H1)):ao T r elt [.mk (.one t) it ifs] ρ H=some ((l.filter c).map f,H1):=by
 refine(gI hs λv hv=>?_).trans (congrArg (λl=>some (l,H1)) (Sx c f l))
 obtain⟨i,hi,rfl⟩:=UY.mp hv
 show _=some ((bif c i then[f i] else[]),H1)
 have h:=h1 i hi
 cases hc:c i
 ·exact v5 rfl (hc▸h)
 ·exact gY rfl (hc▸h) (h2 i hi hc)
theorem iH{elt it:IE}{t:Nat}{l:List Nat}{f:Nat->AV}(hs:aO r it ρ H=some (.items (aU l),H1))(h2:∀ i∈l,r.e elt (c6 (ρ++[none]) t (.int (i:Nat))) H1=some (f i,H1)):ao T r elt [.mk (.one t) it []] ρ H=some (l.map f,H1):=by
 have:=po (T:=T) (ifs:=[]) (c:=λ_=>true) hs (λi _=>rfl) λi hi _=>h2 i hi
 rw[List.filter_eq_self.mpr λ_ _=>rfl] at this
 exact this
theorem gj{n:Nat}{elt it:IE}{t:Nat}{ifs:List IE}{l:List Nat}{c:Nat->Bool}{f:Nat->AV}(hl:l.length<=1000)(hs:aO (aa TT n) it ρ H=some (.items (aU l),H1))(h1:∀ i∈l,bk (aa TT n) ifs (c6 (ρ++[none]) t (.int (i:Nat))) H1=some (c i,H1))
  (h2:∀ i∈l,c i=true->(aa TT n).e elt (c6 (ρ++[none]) t (.int (i:Nat))) H1=some (f i,H1)):(aa TT (n+1)).e (.comp false elt [.mk (.one t) it ifs]) ρ H=some (.lst ((l.filter c).map f),H1):=
 aN (po hs h1 h2) (UH (Vv (UC _)) (UH (Vb _ _) (UH hl (by decide))))
theorem iF{n:Nat}{elt it:IE}{t:Nat}{l:List Nat}{f:Nat->AV}(hl:l.length<=1000)(hs:aO (aa TT n) it ρ H=some (.items (aU l),H1))
  (h2:∀ i∈l,(aa TT n).e elt (c6 (ρ++[none]) t (.int (i:Nat))) H1=some (f i,H1)):(aa TT (n+1)).e (.comp false elt [.mk (.one t) it []]) ρ H=some (.lst (l.map f),H1):=
 aN (iH hs h2) (UH (Vv (UC _)) (UH hl (by decide)))
theorem E6(x p:Nat):decide (VJ ((x/2^p:Nat):Int) 1=0)= !x.testBit p:=by
 rw[<-sh]
 cases h:decide (VJ ((x/2^p:Nat):Int) 1=0)
 ·have:=of_decide_eq_false h
  rw[show(VJ ((x/2^p:Nat):Int) 1!=0)=true from bne_iff_ne.mpr this];rfl
 ·have:=of_decide_eq_true h
  rw[this];rfl
theorem oK:∀ l:List Nat,bV (aU l)=some (l.map λ(i:Nat)=>(i:Int))
 | []=>rfl
 |x::l=>by
  exact congrArg (ob · λl=>some ((x:Int)::l)) (oK l)
theorem sum_nat:∀ l:List Nat,(l.map λ(i:Nat)=>(i:Int)).sum=((l.sum:Nat):Int)
 | []=>rfl
 |x::l=>by rw[Vc,Xv,sum_nat l,Xv];lia
theorem re(l:List Nat):bj T r (.g (.builtin "sum")) [.lst (aU l)] [] H=some (.int (l.sum:Nat),H):=by
 rw[Mo dL (oK l),sum_nat]
theorem lF(c:Nat->Bool):(((UD 5).filter c).map (2^ ·)).sum=ai (.of c):=by
 show(([0,1,2,3,4].filter c).map (2^ ·)).sum=ai ⟨c 0,c 1,c 2,c 3,c 4⟩
 simp only[VE,List.filter_nil]
 cases c 0<;>cases c 1<;>cases c 2<;>cases c 3<;>cases c 4<;>rfl
theorem IV:∀ l:List Nat,ct (.lst (aU l)) (.lst [])=some (decide (l=[]))
 | []=>rfl
 |_::_=>rfl
theorem gq{α:Type}(f:α->Nat)(l:List α):(l.map λx=>AV.int ((f x:Nat):Int))=aU (l.map f):=by
 unfold aU;rw[UX];rfl
end
def bx(f:Nat->Nat):List AV:=aU (five.map f)
theorem eH(T:c8)(H:AH)(f:Nat->Nat)(b:Nat)(hb:b<5):c7 T (.lst (bx f)) (.int (b:Int)) H=some (.int (f b:Nat)):=by
 rw[iQ dL,dC _ (show b<1000000 by lia)]
 match b,hb with
 |0,_=>rfl
 |1,_=>rfl
 |2,_=>rfl
 |3,_=>rfl
 |4,_=>rfl
theorem yJ(g over:V5 (V5 Bool))(gone:V5 Bool)(b:Nat):dD ab g over gone b=if cX ab g over gone b then iO ab gone (fI ab b) else gone:=by
 unfold dD
 cases h:cX ab g over gone b
 ·refine(V5.of_congr λi _=>?_).trans (V5.of_get gone)
  split
  ·show(gone.get i||false)=_;simp
  ·rfl
 ·rw[if_pos rfl]
  refine V5.of_congr λi hi=>?_
  unfold fI
  rw[V5.get_of _ hi]
  split
  ·rfl
  ·show gone.get i=(gone.get i||false);simp
theorem yI(g over:V5 (V5 Bool))(gone:V5 Bool)(b:Nat):decide ((((UD 5).filter λlow=>(g.get low).get b).map λlow=>ai (bC ab (over.get low) (over.get b))).filter (λx=>decide (0<x-(x&&&ai gone)))=[])=cX ab g over gone b:=by
 have key:(((((UD 5).filter λlow=>(g.get low).get b).map λlow=>ai (bC ab (over.get low) (over.get b))).filter (λx=>decide (0<x-(x&&&ai gone)))=[]))↔cX ab g over gone b=true:=by
  rw[XQ]
  unfold cX
  rw[eJ]
  have hm:∀ u v:V5 Bool,(¬decide (0<ai u-(ai u&&&ai v))=true)↔iJ ab (bC ab u v)=true:=by
   intro u v
   rw[BW,pG]
   simp
  constructor
  ·intro h low hl
   rw[lM]
   intro hg
   exact(hm _ _).mp (h _ (List.mem_map_of_mem (UZ.mpr ⟨hl,hg⟩)))
  ·intro h x hx
   obtain⟨low,hl,rfl⟩:=UY.mp hx
   obtain⟨h1,h2⟩:=UZ.mp hl
   exact(hm _ _).mpr (lM.mp (h low h1) h2)
 cases hc:cX ab g over gone b
 ·rw[hc] at key
  exact decide_eq_false λh=>by have:=key.mp h;cases this
 ·rw[hc] at key
  exact decide_eq_true (key.mpr rfl)
end
section
theorem kA(m:Nat)(ρ:ae)(H:AH):aO (aa TT (m+1)) cT ρ H=some (.items (aU (UD 5)),H):=dq (n:=5) rfl (by decide)
theorem i4:(UD 5).length<=1000:=by decide
theorem eD{i:Nat}(h:i∈UD 5):i<5:=UR.mp h
section
variable (m:Nat)(g:V5 (V5 Bool))(H:AH)
abbrev rS:Option AV:=some (.lst (bx λs=>ai (cK ab g s)))
theorem Ku:(aa TT (m+20)).e (.comp false (.call (aY "_law_reached" 366) [(.var 0),(.var 9)] []) [(.mk (.one 9) cT [])]) [some (.lst (bT g)),none,none,none,none,none,none,none,none] H =
  some (.lst (bx λs=>ai (cK ab g s)),H):=
 (iF (n:=m+19) (f:=λs=>AV.int (ai (cK ab g s):Nat)) i4 (kA (m+18) _ H) λi hi=>xF rfl (eB rfl rfl) (yQ (m+5) g i H (eD hi))).trans (by rw[gq];rfl)
theorem CL{n x p:Nat}{a b:IE}{ρ:ae}{H:AH}(ha:(aa TT n).e a ρ H=some (.int x,H))(hb:(aa TT n).e b ρ H=some (.int p,H)):(aa TT (n+4)).t (.cmp .Eq (.bin .BitAnd (.bin .RShift a b) (ac 1)) (ac 0)) ρ H=some (!x.testBit p,H):=tC (n:=n+2) (xB (xB ha hb (vm x p)) rfl gF) rfl (congrArg some (E6 x p))
def IQ:IE:=.comp false (.bin .LShift (ac 1) (.var 10)) [(.mk (.one 10) cT [(.cmp .Eq (.bin .BitAnd (.bin .RShift (.sub (.var 1) (.var 10)) (.var 9)) (ac 1)) (ac 0))])]
theorem KV(b:Nat)(hb:b<5)(x y z u v w t:Option AV):(aa TT (m+10)).e IQ [x,rS g,y,z,u,v,w,t,none,some (.int b)] H=some (.lst (aU (((UD 5).filter λs=>!(cK ab g s).get b).map (2^ ·))),H):=by
 refine(gj (n:=m+9) (f:=λs=>AV.int (2^s:Nat)) i4 (kA (m+8) _ H) (λi hi=>fJ ?_) (λi hi _=>?_)).trans (by rw[gq])
 ·have e2:=eH TT H (λs=>ai (cK ab g s)) i (eD hi)
  have e3:=ik (cK ab g i) b hb
  exact(CL (n:=m+5) (bF (n:=m+4) rfl rfl e2) rfl).trans (by rw[e3])
 ·exact xB rfl rfl (iy i (UH (Wq (eD hi)) (by decide)))
theorem Kv(x:Option AV):(aa TT (m+20)).e (.comp false (.call (dK "sum") [IQ] []) [(.mk (.one 9) cT [])]) [x,rS g,none,none,none,none,none,none,none] H =
  some (.lst (bx λb=>ai ((aQ ab g).get b)),H):=
 (iF (n:=m+19) (f:=λb=>AV.int (ai ((aQ ab g).get b):Nat)) i4 (kA (m+18) _ H) λi hi=>by
  have e3:ai ((aQ ab g).get i)=(((UD 5).filter λs=>!(cK ab g s).get i).map (2^ ·)).sum:=by
   rw[lF]
   unfold aQ
   rw[V5.get_of _ (eD hi)]
   rfl
  rw[e3]
  exact xK (ba (KV (m+8) g H i (eD hi) x none none none none none none)) (re _)).trans (by rw[gq];rfl)
def B2:IE:=.comp false (.bin .Sub (.sub (.var 3) (.var 9)) (.bin .BitAnd (.sub (.var 3) (.var 9)) (.sub (.var 3) (.var 2)))) [(.mk (.one 9) cT [(.bin .BitAnd (.bin .RShift (.sub (.var 0) (.var 9)) (.var 2)) (ac 1))])]
def qU:List IS:=[.set 6 B2,.ite (.cmp .Eq BR (.list false [])) [.set 4 (.bin .BitOr (.var 4) (.bin .LShift (ac 1) (.var 2)))] []]
def kg(over:V5 (V5 Bool))(b:Nat):List Nat:=((UD 5).filter λlow=>(g.get low).get b).map λlow=>ai (bC ab (over.get low) (over.get b))
theorem Gl(over:V5 (V5 Bool))(b:Nat)(hb:b<5)(x y z u v w:Option AV):(aa TT (m+10)).e B2 [some (.lst (bx λi=>ai (g.get i))),x,some (.int b),some (.lst (bx λi=>ai (over.get i))),y,z,u,v,w] H=some (.lst (aU (kg g over b)),H):=by
 refine(gj (n:=m+9) (f:=λlow=>AV.int (ai (bC ab (over.get low) (over.get b)):Nat)) i4 (kA (m+8) _ H) (λi hi=>fJ ?_) (λi hi _=>?_)).trans (by rw[gq];rfl)
 ·have e2:=eH TT H (λi=>ai (g.get i)) i (eD hi)
  have e3:=ik (g.get i) b hb
  exact(CK (n:=m+6) (bF (n:=m+5) rfl rfl e2) rfl).trans (by rw[e3])
 ·have e2:=eH TT H (λi=>ai (over.get i)) i (eD hi)
  have e3:=eH TT H (λi=>ai (over.get i)) b hb
  exact xB (n:=m+8) (bF (n:=m+7) rfl rfl e2) (xB (n:=m+7) (bF (n:=m+6) rfl rfl e2) (bF (n:=m+6) rfl rfl e3) (gF.trans (cI (bK _ _)))) ((kD _ _ _).trans (by rw[pG]))
theorem Gb(l:List Nat)(k:Nat)(hl:l.length<=1000)(a b c d e f h:Option AV):(aa TT (m+10)).e BR [a,b,c,d,some (.int k),e,some (.lst (aU l)),f,h] H=some (.lst (aU (l.filter λx=>decide (0<x-(x&&&k)))),H):=
 gj (n:=m+9) hl rfl (λi hi=>fJ (by
  have e3:decide ((0:Int)<((i-(i&&&k):Nat):Int))=decide (0<i-(i&&&k)):=decide_eq_decide.mpr (by lia)
  exact tC (n:=m+7) (u:=.int (i-(i&&&k):Nat)) (w:=.int 0) (xB (n:=m+6) (u:=.int i) rfl (xB (n:=m+5) (u:=.int i) (w:=.int k) rfl rfl (gF.trans (cI (bK _ _)))) (kD _ _ _)) rfl (congrArg some e3))) λi hi _=>rfl
theorem Dq(over:V5 (V5 Bool))(gone:V5 Bool)(b:Nat)(hb:b<5)(x z u v w:Option AV):(aa TT (m+14)).b qU [some (.lst (bx λi=>ai (g.get i))),x,some (.int b),some (.lst (bx λi=>ai (over.get i))),some (.int (ai gone)),z,u,v,w] H =
  some (.next,[some (.lst (bx λi=>ai (g.get i))),x,some (.int b),some (.lst (bx λi=>ai (over.get i))),some (.int (ai (dD ab g over gone b))),z,some (.lst (aU (kg g over b))),v,w],H):=by
 have e1:=Gl (m+3) g H over b hb x (some (.int (ai gone))) z u v w
 have hl:(kg g over b).length<=1000:=UH (Vv (UC _)) (UH (Vb _ _) i4)
 have e2:=Gb (m+1) H (kg g over b) (ai gone) hl (some (.lst (bx λi=>ai (g.get i)))) x (some (.int b)) (some (.lst (bx λi=>ai (over.get i)))) z v w
 have e4:=iy (H:=H) b (by lia)
 have e5:ai gone|||2^b=ai (iO ab gone (fI ab b)):=by rw[<-Gg b hb,xb]
 have e6:ct (.lst (aU ((kg g over b).filter λx=>decide (0<x-(x&&&ai gone))))) (.lst [])=some (cX ab g over gone b):=(IV _).trans (congrArg some (yI g over gone b))
 rw[yJ]
 have e8:(aa TT (m+13)).b [.set 4 (.bin .BitOr (.var 4) (.bin .LShift (ac 1) (.var 2)))] [some (.lst (bx λi=>ai (g.get i))),x,some (.int b),some (.lst (bx λi=>ai (over.get i))),some (.int (ai gone)),z,some (.lst (aU (kg g over b))),v,w] H=some (.next,[some (.lst (bx λi=>ai (g.get i))),x,some (.int b),some (.lst (bx λi=>ai (over.get i))),some (.int (ai (iO ab gone (fI ab b)))),z,some (.lst (aU (kg g over b))),v,w],H):=
  bn (aA (xB (n:=m+11) rfl (xB (n:=m+10) rfl rfl e4) (by rw[IM,gw,e5]))) rfl
 show ay TT (aa TT (m+13)) [.set 6 B2,_] _ _=_
 refine bn (aA e1) (bn (aZ (tC (n:=m+11) e2 (w:=.lst []) rfl e6) ?_) rfl)
 cases h:cX ab g over gone b
 ·rfl
 ·exact e8
end
end
section
def lL(over:V5 (V5 Bool))(stay:V5 Bool):Nat:=((UD 5).filter λb=>dg ab over stay b).headD 0
noncomputable def Pw(x0 x1 x2 x3 x4:Bool)(i:Nat):Bool:=[x0,x1,x2,x3,x4].getD i false
def BK(c:Nat->Bool):Bool:=!(five.any c)||(UD 5).all λb=>(c b&&dw ab (UD b) λb'=>!c b')==decide (((UD 5).filter c).headD 0=b)
theorem Mc:∀ x0 x1 x2 x3 x4:Bool,BK (Pw x0 x1 x2 x3 x4)=true:=by decide +kernel
theorem Md(c:Nat->Bool)(h:∃ x∈five,c x=true):∀ b<5,(c b&&dw ab (UD b) λb'=>!c b')=decide (((UD 5).filter c).headD 0=b):=by
 have he:∀ i,i<5->Pw (c 0) (c 1) (c 2) (c 3) (c 4) i=c i:=λi hi=>match i,hi with
  |0,_=>rfl
  |1,_=>rfl
  |2,_=>rfl
  |3,_=>rfl
  |4,_=>rfl
 have hk:=Mc (c 0) (c 1) (c 2) (c 3) (c 4)
 have hf:BK c=true:=hk
 unfold BK at hf
 rw[Zk.mpr h,Bool.not_true,Bool.false_or] at hf
 intro b hb
 exact beq_iff_eq.mp (UP.mp hf b (UR.mpr hb))
section
variable (m:Nat)(g over:V5 (V5 Bool))(gone:V5 Bool)(H:AH)
abbrev gl:Option AV:=some (.lst (bx λi=>ai (g.get i)))
abbrev uR:Option AV:=some (.lst (bx λi=>ai (over.get i)))
theorem Kx(x:Option AV):∃ b t nd,am TT (aa TT (m+20)) (.fr (.one 5) (.call (cz "range") [(ac 4)] []) [.fr (.one 2) (.list false [(ac 1),(ac 2),(ac 3),(ac 4)]) qU []] []) [gl g,x,none,uR over,some (.int 0),none,none,none,none] H =
  some (.next,[gl g,x,b,uR over,some (.int (ai (cR ab g over))),t,nd,none,none],H):=by
 let E:V5 Bool->ae->Prop:=λgone ρ=>∃ b t nd,ρ=[gl g,x,b,uR over,some (.int (ai gone)),t,nd,none,none]
 have e0:∀ ρ,aO (aa TT (m+20)) (.call (cz "range") [(ac 4)] []) ρ H=some (.items (aU (UD 4)),H):=λρ=>dq (n:=4) rfl (by decide)
 have e1:∀ ρ,aO (aa TT (m+19)) (.list false [(ac 1),(ac 2),(ac 3),(ac 4)]) ρ H=some (.items (aU dZ),H):=λρ=>rfl
 have inner:∀(gone:V5 Bool) (ρ:ae),E gone ρ->∃ ρ',(aa TT (m+20)).b [.fr (.one 2) (.list false [(ac 1),(ac 2),(ac 3),(ac 4)]) qU []] ρ H=some (.next,ρ',H)/\E (dZ.foldl (dD ab g over) gone) ρ':=by
  intro gone ρ hE
  obtain⟨ρ',e2,h1⟩:=kS (b:=(aa TT (m+19)).b qU) (o:=(aa TT (m+19)).b []) (H:=H) (t:=2) E (dD ab g over) dZ gone ρ (λs ρ i hi ⟨b,t,nd,hρ⟩=>by
   subst hρ
   have hi5:i<5:=(show ∀ i∈dZ,i<5 by decide) i hi
   exact⟨_,Dq (m+5) g H over s i hi5 x t nd none none,⟨some (.int i),t,some (.lst (aU (kg g over i))),rfl⟩⟩) hE
  exact⟨ρ',bn ((rO (e1 ρ)).trans e2) rfl,h1⟩
 obtain⟨ρ',e2,⟨b,t,nd,rfl⟩⟩:=kS (b:=(aa TT (m+20)).b [.fr (.one 2) (.list false [(ac 1),(ac 2),(ac 3),(ac 4)]) qU []]) (o:=(aa TT (m+20)).b []) (H:=H) (t:=5) E (λgone _=>dZ.foldl (dD ab g over) gone) (UD 4) (dY ab) [gl g,x,none,uR over,some (.int 0),none,none,none,none] (λs ρ i hi ⟨b,t,nd,hρ⟩=>by
  subst hρ
  exact inner s _ ⟨b,some (.int i),nd,rfl⟩) ⟨none,none,none,rfl⟩
 have hq:(UD 4).foldl (λgone _=>dZ.foldl (dD ab g over) gone) (dY ab)=cR ab g over:=by
  unfold cR
  simp only[YY]
  rfl
 rw[hq] at e2
 exact⟨b,t,nd,(rO (e0 _)).trans e2⟩
theorem Ky(x b t nd:Option AV):(aa TT (m+20)).e (.comp false (.bin .Sub (.var 9) (.bin .BitAnd (.var 9) (.var 4))) [(.mk (.one 9) (.var 3) [])]) [gl g,x,b,uR over,some (.int (ai gone)),t,nd,none,none] H =
  some (.lst (bx λi=>ai (bC ab (over.get i) gone)),H):=by
 have e2:(five.map λi=>ai (over.get i)).map (λx=>x-(x&&&ai gone))=five.map λi=>ai (bC ab (over.get i) gone):=by
  rw[UX]
  exact Vn λi _=>pG (over.get i) gone
 refine(iF (n:=m+19) (l:=five.map λi=>ai (over.get i)) (f:=λx=>AV.int (x-(x&&&ai gone):Nat)) (by simp[five]) rfl λi hi=>xB (n:=m+18) rfl (xB (n:=m+17) rfl rfl (by rw[gF,bK])) (kD _ _ _)).trans ?_
 rw[gq,e2]
 rfl
def IP:IE:=.comp false (.var 10) [(.mk (.one 10) cT [(.and [(.bin .BitAnd (.bin .RShift (.sub (.var 7) (.var 9)) (.var 10)) (ac 1)),(.cmp .Eq (.bin .BitAnd (.sub (.var 7) (.var 9)) (.sub (.var 3) (.var 10))) (.sub (.var 7) (.var 9)))])])]
theorem J3(low:Nat)(hl:low<5)(stay:Nat->V5 Bool)(x b a t nd h:Option AV):(aa TT (m+11)).e IP [gl g,x,b,uR over,a,t,nd,some (.lst (bx λi=>ai (stay i))),h,some (.int low)] H=some (.lst (aU ((UD 5).filter λb=>dg ab over (stay low) b)),H):=
 gj (n:=m+10) i4 (kA (m+9) _ H) (λi hi=>fJ (by
  have hi5:=eD hi
  have e2:=eH TT H (λi=>ai (stay i)) low hl
  have e3:=eH TT H (λi=>ai (over.get i)) i hi5
  have e4:=ik (stay low) i hi5
  have e5:dg ab over (stay low) i=((stay low).get i&&decide (ai (stay low)&&&ai (over.get i)=ai (stay low))):=by
   unfold dg;rw[KE];rfl
  have e6:((((ai (stay low)&&&ai (over.get i):Nat):Int))=((ai (stay low):Nat):Int))↔(ai (stay low)&&&ai (over.get i)=ai (stay low)):=ZG
  rw[e5]
  exact show bk (aa TT (m+9)) _ _ _=_ from nY (H1:=H) ((CK (n:=m+6) (bF (n:=m+5) rfl rfl e2) rfl).trans (by rw[e4])) (λh=>tC (n:=m+7) (xB (n:=m+6) (bF (n:=m+5) rfl rfl e2) (bF (n:=m+5) rfl rfl e3) (gF.trans (cI (bK _ _)))) (bF (n:=m+6) rfl rfl e2) ((congrArg some (decide_eq_decide.mpr e6)).trans (by rw[h];rfl))) λh=>⟨by rw[h];rfl,rfl⟩)) λi hi _=>rfl
theorem Kz(stay:Nat->V5 Bool)(hex:∀ low<5,∃ b∈five,dg ab over (stay low) b=true)(x b a t nd:Option AV):(aa TT (m+20)).e (.comp false (.sub IP (ac 0)) [(.mk (.one 9) cT [])]) [gl g,x,b,uR over,a,t,nd,some (.lst (bx λi=>ai (stay i))),none] H =
  some (.lst (bx λi=>lL over (stay i)),H):=
 (iF (n:=m+19) (f:=λi=>AV.int (lL over (stay i):Nat)) i4 (kA (m+18) _ H) λi hi=>by
   have e3:c7 TT (.lst (aU ((UD 5).filter λb=>dg ab over (stay i) b))) (.int 0) H=some (.int (lL over (stay i):Nat)):=by
    rw[iQ dL,Dm]
    unfold lL
    obtain⟨b,hb,hc⟩:=hex i (eD hi)
    have:b∈(UD 5).filter λb=>dg ab over (stay i) b:=UZ.mpr ⟨hb,hc⟩
    cases hl:(UD 5).filter λb=>dg ab over (stay i) b with
    |nil=>rw[hl] at this;cases this
    |cons h l=>rfl
   exact bF (n:=m+18) (J3 (m+7) g over H i (eD hi) stay x b a t nd none) rfl e3).trans (by rw[gq];rfl)
def Mx:IE:=.comp false (.var 11) [(.mk (.one 11) cT [(.and [(.cmp .Eq (.sub (.var 8) (.var 11)) (.var 9)),(.bin .BitAnd (.bin .RShift (.sub (.var 0) (.var 11)) (.var 10)) (ac 1))])])]
theorem My(hd:Nat->Nat)(b hi:Nat)(hh:hi<5)(x2 x3 x4 x5 x6 x7 x1:Option AV):(aa TT (m+11)).e Mx [gl g,x1,x2,x3,x4,x5,x6,x7,some (.lst (bx hd)),some (.int b),some (.int hi)] H =
  some (.lst (aU ((UD 5).filter λlow=>decide (hd low=b)&&(g.get low).get hi)),H):=
 gj (n:=m+10) i4 (kA (m+9) _ H) (λi hi'=>fJ (by
  have e2:=eH TT H hd i (eD hi')
  have e3:=eH TT H (λi=>ai (g.get i)) i (eD hi')
  have e4:=ik (g.get i) hi hh
  have e6:(((hd i:Nat):Int)=(b:Int))↔hd i=b:=ZG
  exact show bk (aa TT (m+9)) _ _ _=_ from nY (x:=decide (hd i=b)) (H1:=H) (tC (n:=m+7) (bF (n:=m+6) rfl rfl e2) rfl (congrArg some (decide_eq_decide.mpr e6))) (λh=>(CK (n:=m+6) (bF (n:=m+5) rfl rfl e3) rfl).trans (by rw[e4,h];rfl)) λh=>⟨by rw[h];rfl,rfl⟩)) λi hi _=>rfl
def I3:IE:=.comp false (.bin .LShift (ac 1) (.var 10)) [(.mk (.one 10) cT [(.and [(.cmp .NotEq (.var 10) (.var 9)),(.cmp .Eq (.bin .BitAnd (.bin .RShift (.var 4) (.var 10)) (ac 1)) (ac 0)),(.cmp .NotEq Mx (.list false []))])])]
def vn(hd:Nat->Nat)(b hi:Nat):Bool:=if hi=b then false else !gone.get hi&&fj ab five λlow=>decide (hd low=b)&&(g.get low).get hi
theorem Bb(c:Nat->Bool):(!decide (((UD 5).filter c)=[]))=fj ab five c:=by
 have:((UD 5).filter c≠[])↔fj ab five c=true:=by
  rw[oY]
  constructor
  ·intro h
   obtain⟨x,hx⟩:=List.exists_mem_of_ne_nil _ h
   exact⟨x,(UZ.mp hx).1,(UZ.mp hx).2⟩
  ·rintro⟨x,h1,h2⟩ q
   have:x∈(UD 5).filter c:=UZ.mpr ⟨h1,h2⟩
   rw[q] at this;cases this
 cases h:fj ab five c
 ·have q:(UD 5).filter c=[]:=V9 λz=>by have:=this.mp z;rw[h] at this;cases this
  rw[q];rfl
 ·rw[decide_eq_false (this.mpr h)];rfl
theorem J7(hd:Nat->Nat)(b:Nat)(hb:b<5)(x2 x3 x5 x6 x7 x1:Option AV):(aa TT (m+16)).e I3 [gl g,x1,x2,x3,some (.int (ai gone)),x5,x6,x7,some (.lst (bx hd)),some (.int b)] H =
  some (.lst (aU (((UD 5).filter λhi=>vn g gone hd b hi).map (2^ ·))),H):=by
 refine(gj (n:=m+15) (f:=λb=>AV.int (2^b:Nat)) i4 (kA (m+14) _ H) (λi hi'=>fJ ?_) λi hi' _=>xB rfl rfl (iy i (UH (Wq (eD hi')) (by decide)))).trans (by rw[gq])
 have e2:=My (m+1) g H hd b i (eD hi') x2 x3 (some (.int (ai gone))) x5 x6 x7 x1
 have e4:=ik gone i (eD hi')
 have e6:(((i:Nat):Int)=(b:Int))↔i=b:=ZG
 have e7:=tC (op:=.NotEq) (n:=m+12) (b:=.list false []) (w:=.lst []) (t:=fj ab five λlow=>decide (hd low=b)&&(g.get low).get i) e2 rfl (by rw[qH,dL,dL,IV,kz,Bb])
 unfold vn
 refine(Pg (r:=aa TT (m+14)) _).trans ?_
 have a1:=tC (op:=.NotEq) (n:=m+12) (a:=.var 10) (b:=.var 9) (H:=H) (t:=!decide (i=b)) (ρ:=[gl g,x1,x2,x3,some (.int (ai gone)),x5,x6,x7,some (.lst (bx hd)),some (.int b),some (.int i)]) rfl rfl (by simp only[qH,dI,Ub,kz,e6])
 by_cases hb:i=b
 ·rw[decide_eq_true hb] at a1
  rw[if_pos hb]
  exact Ba a1
 ·rw[decide_eq_false hb] at a1
  rw[if_neg hb]
  refine r5 a1 ?_
  have a2:(aa TT (m+14)).t (.cmp .Eq (.bin .BitAnd (.bin .RShift (.var 4) (.var 10)) (ac 1)) (ac 0)) [gl g,x1,x2,x3,some (.int (ai gone)),x5,x6,x7,some (.lst (bx hd)),some (.int b),some (.int i)] H=some (!gone.get i,H):=by
   exact(CL (n:=m+10) rfl rfl).trans (by rw[e4])
  cases h:gone.get i<;>rw[h] at a2
  ·exact r5 a2 (fJ e7)
  ·exact Ba a2
def cV:List (Nat×Nat):=((UD 5).filter λb=>!gone.get b).map λb=>(b,ai (c5 ab g over gone b))
noncomputable def cJ(p:Nat×Nat):AV:=.lst [.int (p.1:Nat),.int (p.2:Nat)]
theorem Io(hex:∀ low<5,∃ b∈five,dg ab over (bC ab (over.get low) gone) b=true)(b:Nat)(hb:b<5):(((UD 5).filter λhi=>vn g gone (λi=>lL over (bC ab (over.get i) gone)) b hi).map (2^ ·)).sum=ai (c5 ab g over gone b):=by
 rw[lF]
 unfold c5
 congr 1
 refine V5.of_congr λhi _=>?_
 unfold vn
 split
 ·rfl
 ·show(!gone.get hi&&_)=(!gone.get hi&&_)
  congr 1
  unfold fj
  have:∀ l:List Nat,(∀ x∈l,x<5)->List.foldr (λi x=>ab.o (decide (lL over (bC ab (over.get i) gone)=b)&&(g.get i).get hi) x) ab.f l=List.foldr (λi x=>ab.o (ab.a (n6 ab over (bC ab (over.get i) gone) b) ((g.get i).get hi)) x) ab.f l:=by
   intro l
   induction l with
   |nil=>intro _;rfl
   |cons x l ih=>
    intro hl
    rw[List.foldr_cons,List.foldr_cons,ih λy hy=>hl y (.tail _ hy)]
    have:=Md (λb=>dg ab over (bC ab (over.get x) gone) b) (hex x (hl x (.head _))) b hb
    have e:n6 ab over (bC ab (over.get x) gone) b=decide (lL over (bC ab (over.get x) gone)=b):=this
    rw[e]
    rfl
  exact this five (by decide)
theorem KA(hex:∀ low<5,∃ b∈five,dg ab over (bC ab (over.get low) gone) b=true)(x2 x3 x5 x6 x7 x1:Option AV):
  (aa TT (m+20)).e (.comp false (.list false [(.var 9),(.call (dK "sum") [I3] [])]) [(.mk (.one 9) cT [(.cmp .Eq (.bin .BitAnd (.bin .RShift (.var 4) (.var 9)) (ac 1)) (ac 0))])]) [gl g,x1,x2,x3,some (.int (ai gone)),x5,x6,x7,some (.lst (bx λi=>lL over (bC ab (over.get i) gone)))] H =
   some (.lst ((cV g over gone).map cJ),H):=by
 refine(gj (n:=m+19) (f:=λb=>cJ (b,ai (c5 ab g over gone b))) i4 (kA (m+18) _ H) (λi hi=>fJ ?_) λi hi _=>?_).trans (by unfold cV;rw[UX];rfl)
 ·have e4:=ik gone i (eD hi)
  exact(CL (n:=m+15) rfl rfl).trans (by rw[e4])
 ·have e2:=J7 (m+1) g gone H (λi=>lL over (bC ab (over.get i) gone)) i (eD hi) x2 x3 x5 x6 x7 x1
  have e3:=Io g over gone hex i (eD hi)
  have e4:=xK (x:="sum") (n:=m+16) (ba e2) (re _)
  rw[e3] at e4
  exact(congrArg (ah · λvs H=>some (kf false vs H)) (eB (u:=.int i) rfl e4))
end
theorem FL(m:Nat)(g:V5 (V5 Bool))(H:AH)(hex:∀ low<5,∃ b∈five,dg ab (aQ ab g) (bC ab ((aQ ab g).get low) (cR ab g (aQ ab g))) b=true):
  (aa TT (m+22)).c 371 [.lst (bT g)] [] H=some (.lst ((cV g (aQ ab g) (cR ab g (aQ ab g))).map cJ),H):=by
 obtain⟨b,t,nd,e4⟩:=Kx m g (aQ ab g) H (some (.lst (bx λs=>ai (cK ab g s))))
 have e1:=Ku m g H
 have e2:=Kv m g H (some (.lst (bT g)))
 have e5:=Ky m g (aQ ab g) (cR ab g (aQ ab g)) H (some (.lst (bx λs=>ai (cK ab g s)))) b t nd
 have e6:=Kz m g (aQ ab g) H (λi=>bC ab ((aQ ab g).get i) (cR ab g (aQ ab g))) hex (some (.lst (bx λs=>ai (cK ab g s)))) b (some (.int (ai (cR ab g (aQ ab g))))) t nd
 have e7:=KA m g (aQ ab g) (cR ab g (aQ ab g)) H hex b (uR (aQ ab g)) t nd (some (.lst (bx λi=>ai (bC ab ((aQ ab g).get i) (cR ab g (aQ ab g)))))) (some (.lst (bx λs=>ai (cK ab g s))))
 exact fr (g:=nh) (ρ:=[some (.lst (bT g)),none,none,none,none,none,none,none,none]) rfl rfl (n:=m+20) (bn (aA e1) (bn (aA e2) (bn (aA (v:=.int 0) (H':=H) rfl) (bn e4 (bn (aA e5) (bn (aA e6) (br (cB e7))))))))
end
section
def fM(x:Str):Bool:=x.cps.toList.any dP==false&&decide (x.length<=1000)
def rD(x:Str):Bool:=x.cps.toList.any bP==false&&decide (x.length<=1000)
theorem og{x:Str}(h:fM x=true):x.cps.toList.any dP=false/\x.length<=1000:=by
 unfold fM at h
 simp only[U6,beq_iff_eq,decide_eq_true_eq] at h
 exact h
theorem QF{x:Str}(h:rD x=true):x.cps.toList.any bP=false/\x.length<=1000:=by
 unfold rD at h
 simp only[U6,beq_iff_eq,decide_eq_true_eq] at h
 exact h
theorem eV(m:Nat)(o:AV)(x:Str)(b:Bool)(H:AH)(h:(match b with|true=>fM x|false=>rD x)=true):(aa TT (m+9)).c 181 [o,.str x] [(.kName,.bool b)] H=some (.str x,H):=by
 have e4 (r:R) (o:AV):eN TT r (.rx b) o .search [.str x] [] H=some (.none,H):=congrArg (aw · (some (AV.none,H))) (show ym b x=true by
  cases b
  ·unfold ym;rw[(QF h).1];rfl
  ·unfold ym;rw[(og h).1];rfl)
 cases b<;>exact fr (n:=m+7) (g:=ce) rfl rfl (br (aZ (b:=true) (H1:=H) (tC (n:=m+5) rfl rfl rfl) (show ay TT (aa TT (m+6)) _ _ _=_ from bn (aA rfl) (bn (aZ (b:=false) (H1:=H) (tE (n:=m+5) (xM (n:=m+4) rfl rfl (ba rfl) rfl (e4 _ _)) rfl rfl) rfl) (br (cB rfl))))))
structure HS where
 ln:Int
 sg:List AV
 pb:List AV
 cx:AO
 row:List AV
 jm:List AV
 items:List AV
def Ma:AO:=.dict [(.lineno,.int 1),(.instream,.none),(.whitespace,.str (af [10,9,13,32])),(.pushback,.loc 5),(.read,.clo 0 [.loc 2])]
def Mb(ln:Int):AO:=.dict [(.lineno,.int ln),(.instream,.loc 4),(.whitespace,.str (af [10,9,13,32])),(.pushback,.loc 8)]
def hp(s:HS)(J:AH):AH:=[.tab 0,.tab 1,.list s.sg,Ma,.inst 121 3,.list [.str (af [97])],Mb s.ln,.inst 121 6,.list s.pb,s.cx,.list s.row,.list s.jm,.list s.items,.dict [(.headers,.loc 12)],.inst 282 13]++J
theorem fW(s:HS)(J K:AH):hp s J++K=hp s (J++K):=by unfold hp;rw[U3]
section
variable (m:Nat)(s:HS)(J:AH)
theorem h8:(hp s J)[8]? =some (.list s.pb):=rfl
theorem uk:(hp s J)[12]? =some (.list s.items):=rfl
theorem Sk(l:List AV):(hp s J).set 12 (.list l)=hp {s with items:=l} J:=rfl
theorem Jw:fc TT (.loc 7) .pushToken (hp s J)=some (.fn 118):=rfl
theorem Eu:fc TT (.loc 14) .items (hp s J)=some (.fn 246):=rfl
theorem Jv:fc TT (.loc 14) .convert (hp s J)=some (.fn 181):=rfl
theorem AT{x:AV}{q:List AV}(hq:s.pb=x::q)(hl:q.length<=1000):(aa TT (m+9)).c 111 [.loc 7] [] (hp s J)=some (x,hp {s with pb:=q} J):=by
 have g0:=h8 s J
 rw[hq] at g0
 exact fr (n:=m+7) (g:=cQ) rfl rfl (br (aZ (b:=true) (H1:=hp s J) (tE (n:=m+6) (v:=.loc 8) (b:=true) rfl (TQ g0 (UH (WG hl) (by decide))) rfl) (show ay TT (aa TT (m+6)) _ _ _=_ from br (cB (xM (n:=m+5) rfl (Tr g0) rfl rfl (LB g0 (UH hl (by decide))))))))
theorem qf{v:AV}(hl:s.pb.length<=1000):(aa TT (m+9)).c 118 [.loc 7,v] [] (hp s J)=some (.none,hp {s with pb:=s.pb++[v]} J):=
  fe (n:=m+7) (g:=fK) rfl rfl (dz (iq (xM (n:=m+6) rfl (lS (h8 s J)) (ba rfl) rfl (lD (h8 s J) (UH hl (by decide))))))
theorem JK(l:List AV):cutL l none none=l:=by
 unfold cutL
 show(l.drop 0).take (l.length-0)=l
 simp
theorem uq(hl:s.items.length<=1000):(aa TT (m+9)).c 246 [.loc 14] [] (hp s J)=some (.loc (hp s J).length,hp s (J++[.list s.items])):=by
 have e:eU true (.lst s.items) none none (hp s J)=some (.loc (hp s J).length,hp s (J++[.list s.items])):=(ol (UH hl (by decide))).trans (by rw[JK];exact congrArg (λh=>some (AV.loc (hp s J).length,h)) (fW s J _))
 exact fr (n:=m+7) (g:=jz) rfl rfl (br (cB e))
end
noncomputable def gZ(p:Str×Str):AV:=.tup [.str p.1,.str p.2]
def ax(l:List (Str×Str)):List AV:=l.map gZ
noncomputable def fS(l:List (Str×Str)):Prop:=∀ p∈l,p.1.length<=1000
noncomputable def iZ(l:List (Str×Str))(nm:Str)(d:AV):AV:=match l.find? (λp=>decide (UT p.1=UT nm)) with
 |some p=>.str p.2
 |none=>d
theorem y7{α:Type}(l:List α)(i:Nat):l[i]? =(l.drop i)[0]? :=by rw[List.getElem?_drop];rfl
theorem iN{T:c8}{r:R}{H:AH}{n i:Nat}{l q:List AV}{x:AV}(h:H[n]? =some (.list l))(hd:l.drop i=x::q):aX T r (.locl n i) H=some (some (x,.locl n (i+1)),H):=
 (congrArg (ob · (eS λl=>some ((l[i]?).map λv=>(v,aB.locl n (i+1)),H))) h).trans (congrArg (λy:Option AV=>some (y.map λv=>(v,aB.locl n (i+1)),H)) ((y7 l i).trans (congrArg (·[0]?) hd)))
theorem jL{T:c8}{r:R}{H:AH}{n i:Nat}{l:List AV}(h:H[n]? =some (.list l))(hd:l.drop i=[]):aX T r (.locl n i) H=some (none,H):=
 (congrArg (ob · (eS λl=>some ((l[i]?).map λv=>(v,aB.locl n (i+1)),H))) h).trans (congrArg (λy:Option AV=>some (y.map λv=>(v,aB.locl n (i+1)),H)) ((y7 l i).trans (congrArg (·[0]?) hd)))
theorem iG{α:Type}{l q:List α}{i:Nat}{x:α}(hd:l.drop i=x::q):l.drop (i+1)=q:=by
 have:(l.drop i).drop 1=q:=by rw[hd];rfl
 rw[Yl] at this
 exact this
theorem EA{T:c8}{r:R}{ρ:ae}{H H1:AH}{t:bD}{it:IE}{b o:List IS}{n i:Nat}(h:aO r it ρ H=some (.locl n i,H1)):am T r (.fr t it b o) ρ H=bo T r t (r.b b) (r.b o) 1000 (.locl n i) ρ H1:=
 (congrArg (ah · λs H=>aw (dj t s) (lJ T r t (r.b b) (r.b o) s ρ H)) h).trans (congrArg (aw · _) (show dj t (.locl n i)=true by cases t<;>rfl))
theorem zo(m:Nat)(r:R)(H:AH)(nm:Str)(d:AV)(L:List AV)(hL:H[12]? =some (.list L)):∀(l:List (Str×Str)) (i k:Nat) (a b:Option AV),L.drop i=ax l->l.length<k->fS l->
  ∃ fl ρ',bo TT r (.many [3,4]) ((aa TT (m+8)).b ww) ((aa TT (m+8)).b []) k (.locl 12 i) [some (.loc 14),some (.str (UT nm)),some d,a,b] H=some (fl,ρ',H)/\
   ((fl= .ret (iZ l nm d))∨(fl= .next/\ρ'[2]? =some (some d)/\iZ l nm d=d))
 |_,_,0,_,_,_,hk,_=>absurd hk (VU _)
 | [],i,k+1,a,b,hi,hk,hl=>⟨_,_,LW (jL hL hi),.inr ⟨rfl,rfl,rfl⟩⟩
 |p::l,i,k+1,a,b,hi,hk,hl=>by
  have e1:(aa TT (m+8)).b ww [some (.loc 14),some (.str (UT nm)),some d,some (.str p.1),some (.str p.2)] H=some (if UT p.1=UT nm then .ret (.str p.2) else .next,[some (.loc 14),some (.str (UT nm)),some d,some (.str p.1),some (.str p.2)],H):=by
   refine dz (aZ (tC (n:=m+5) (sM (n:=m+4) rfl rfl (iM (UH (hl p (.head _)) (by decide))) rfl) rfl rfl) ?_)
   by_cases h:UT p.1=UT nm
   ·rw[if_pos h,decide_eq_true h];rfl
   ·rw[if_neg h,decide_eq_false h];rfl
  have e2:=fd (T:=TT) (r:=r) (t:=.many [3,4]) (k:=k) (o:=(aa TT (m+8)).b []) (iN hL (show L.drop i=gZ p::ax l from hi)) (ρ:=[some (.loc 14),some (.str (UT nm)),some d,a,b]) rfl e1
  unfold iZ
  rw[e2,List.find?_cons]
  by_cases h:UT p.1=UT nm
  ·rw[if_pos h,decide_eq_true h]
   exact⟨_,_,rfl,.inl rfl⟩
  ·rw[if_neg h,decide_eq_false h]
   exact zo m r H nm d L hL l (i+1) k (some (.str p.1)) (some (.str p.2)) (iG hi) (Vw hk) (λq hq=>hl q (.tail _ hq))
section
variable (m:Nat)(s:HS)(J:AH)
theorem zn(nm:Str)(d:AV)(args:List AV)(kws:List (NM×AV))(l:List (Str×Str))(hb:fq fD args kws=some [some (.loc 14),some (.str nm),some d,none,none])(hs:s.items=ax l)(hl:fS l)(hn:nm.length<=1000)(hk:fM (UT nm)=true)(hlen:l.length<1000):(aa TT (m+13)).c 229 args kws (hp s J)=some (iZ l nm d,hp s J):=by
 have c1:(aa TT (m+11)).e (.meth (.var 0) .convert [(.meth (.var 1) .lower [] [])] [(.kName,(.con (.bool true)))]) [some (.loc 14),some (.str nm),some d,none,none] (hp s J)=some (.str (UT nm),hp s J):=
  xM rfl (Jv s J) (ba (sM rfl rfl (iM (UH hn (by decide))) rfl)) rfl (eV (m+1) (.loc 14) (UT nm) true (hp s J) hk)
 have e2:aO (aa TT (m+11)) (.attr (.var 0) .headers) [some (.loc 14),some (.str (UT nm)),some d,none,none] (hp s J)=some (.locl 12 0,hp s J):=sD rfl (v:=.loc 12) rfl rfl
 obtain⟨fl,ρ',e3,h3⟩:=zo (m+3) (aa TT (m+11)) (hp s J) nm d s.items (uk s J) l 0 1000 none none (by rw[Wh,hs]) hlen hl
 have e3:=(EA (T:=TT) (r:=aa TT (m+11)) e2).trans e3
 refine pd (n:=m+12) (g:=fD) (ρ:=[some (.loc 14),some (.str nm),some d,none,none]) rfl hb ?_
 show ky (ay TT (aa TT (m+11)) [.set 1 _,_,.ret (.var 2)] _ _)=_
 rcases h3 with rfl|⟨rfl,h4,h5⟩
 ·exact congrArg ky (bn (aA c1) (br e3))
 ·refine congrArg ky (bn (aA c1) (bn e3 (br (cB (v:=d) (H':=hp s J) ?_)))) |>.trans (by rw[h5];rfl)
  exact congrArg (λx=>ob (ob x id) λv=>some (v,hp s J)) h4
theorem JY(nm:Str)(d:AV)(l:List (Str×Str))(hs:s.items=ax l)(hl:fS l)(hn:nm.length<=1000)(hk:fM (UT nm)=true)(hlen:l.length<1000):(aa TT (m+13)).c 229 [.loc 14,.str nm] [] (hp s J)=some (iZ l nm .none,hp s J):=zn m s J nm .none _ _ l rfl hs hl hn hk hlen
theorem Fy(nm:Str)(d:AV)(l:List (Str×Str))(hs:s.items=ax l)(hl:fS l)(hn:nm.length<=1000)(hk:fM (UT nm)=true)(hlen:l.length<1000):(aa TT (m+13)).c 229 [.loc 14,.str nm] [(.kDefault,d)] (hp s J)=some (iZ l nm d,hp s J):=zn m s J nm d _ _ l rfl hs hl hn hk hlen
end
end
section
theorem cd{T:c8}{r:R}{f:AV->AH->Option (List AV×AH)}{k:Nat}{s s':aB}{H H1 H2 H3:AH}{x:AV}{a b:List AV}(hn:aX T r s H=some (some (x,s'),H1))(h:f x H1=some (a,H2))(h2:cC T r f k s' H2=some (b,H3)):cC T r f (k+1) s H=some (a++b,H3):=
 (congrArg (ah · λ(p:Option (AV×aB)) (H:AH)=>p.elim (some ([],H)) λx=>ah (f x.1 H) λa H=>ah (cC T r f k x.2 H) λb H=>some (a++b,H)) hn).trans
  ((congrArg (ah · λa H=>ah (cC T r f k s' H) λb H=>some (a++b,H)) h).trans (congrArg (ah · λb H=>some (a++b,H)) h2))
theorem Bq{T:c8}{r:R}{f:AV->AH->Option (List AV×AH)}{k:Nat}{s:aB}{H H1:AH}(hn:aX T r s H=some (none,H1)):cC T r f (k+1) s H=some ([],H1):=
 congrArg (ah · λ(p:Option (AV×aB)) (H:AH)=>p.elim (some ([],H)) λx=>ah (f x.1 H) λa H=>ah (cC T r f k x.2 H) λb H=>some (a++b,H)) hn
theorem m7{T:c8}{r:R}{F:AH->AH}{n:Nat}{L:List AV}{J0:AH}(hL:∀ K,(F (J0++K))[n]? =some (.list L)){f:AV->AH->Option (List AV×AH)}{g:AV->List AV}{h:AV->AH}:∀(l:List AV) (i k:Nat) (K:AH),L.drop i=l->l.length<k->(∀ x∈l,∀ J,f x (F J)=some (g x,F (J++h x)))->cC T r f k (.locl n i) (F (J0++K))=some (l.flatMap g,F (J0++K++l.flatMap h))
 |_,_,0,_,_,hk,_=>absurd hk (VU _)
 | [],i,k+1,K,hd,hk,_=>(Bq (jL (hL K) hd)).trans (by rw[List.flatMap_nil,List.flatMap_nil,U8])
 |x::l,i,k+1,K,hd,hk,hf=>by
  have:=m7 (T:=T) (r:=r) hL l (i+1) k (K++h x) (iG hd) (Vw hk) λy hy=>hf y (.tail _ hy)
  rw[<-U3,U3 _ (h x)] at this
  exact cd (iN (hL K) hd) (hf x (.head _) _) this
theorem wq{T:c8}{r:R}{ρ:ae}{H H1 H2:AH}{elt it:IE}{t:bD}{ifs:List IE}{n:Nat}{vs:List AV}(hs:aO r it ρ H=some (.locl n 0,H1))(h:cC T r (λv H=>bJ r t ifs (λρ H=>ao T r elt [] ρ H) v (ρ++U2 (i7 t) none) H) 1000 (.locl n 0) H1=some (vs,H2)):ao T r elt [.mk t it ifs] ρ H=some (vs,H2):=by
 rw[ao,hs]
 exact(congrArg (aw · _) (show(dj t (.locl n 0)&&lO (.locl n 0))=true by cases t<;>rfl)).trans h
theorem ui{T:c8}{r:R}{ρ:ae}{H H1:AH}{elt it:IE}{t:bD}{ifs:List IE}{n:Nat}{L:List AV}{g:AV->List AV}(hs:aO r it ρ H=some (.locl n 0,H1))(hL:H1[n]? =some (.list L))(hk:L.length<1000)
  (h:∀ x∈L,bJ r t ifs (λρ H=>ao T r elt [] ρ H) x (ρ++U2 (i7 t) none) H1=some (g x,H1)):ao T r elt [.mk t it ifs] ρ H=some (L.flatMap g,H1):=
 wq hs (m7 (F:=λ_=>H1) (J0:=[]) (h:=λ_=>[]) (λ_=>hL) L 0 1000 [] (Wh) hk λx hx _=>h x hx)
theorem vD{n:Nat}{elt:IE}{gens:List IG}{vs:List AV}{ρ:ae}{H H1:AH}(h:ao TT (aa TT n) elt gens ρ H=some (vs,H1))(hf:vs.length<=1000000):(aa TT (n+1)).e (.comp false elt gens) ρ H=some (.lst vs,H1):=aN h hf
theorem Uu{T:c8}{r:R}{ρ:ae}{H H1 H2:AH}{o e:IE}{l l0:List AV}{n:Nat}(h:r.e e ρ H=some (.lst l,H1))(ho:r.e o ρ H1=some (.loc n,H2))(hg:H2[n]? =some (.list l0))(f1:l0.length<=1000000)(f2:l.length<=1000000):am T r (.setAll o e) ρ H=some (.next,ρ,H2.set n (.list l)):=by
 rw[EB,h,gQ,PT,ho,gQ,r9,hg,kz,EZ,ic f1,ic f2]
 rfl
section
variable (m:Nat)(s:HS)(J:AH)
noncomputable def eM(nm:Str)(l:List (Str×Str)):List (Str×Str):=l.filter λp=>!decide (UT p.1=UT nm)
noncomputable def RK(nm:Str):AV->List AV
 | .tup [.str a,.str b]=>bif decide (UT a=UT nm) then[] else[AV.tup [.str a,.str b]]
 |_=>[]
theorem rf(nm:Str):∀ l:List (Str×Str),(ax l).flatMap (RK nm)=ax (eM nm l)
 | []=>rfl
 |p::l=>by
  refine(congrArg ((bif decide (UT p.1=UT nm) then[] else[gZ p])++·) (rf nm l)).trans ?_
  unfold eM
  rw[VE]
  cases decide (UT p.1=UT nm)<;>rfl
theorem zg(nm:Str)(l:List (Str×Str))(hs:s.items=ax l)(hl:fS l)(hn:nm.length<=1000)(hk:fM (UT nm)=true)(hlen:l.length<1000):(aa TT (m+13)).c 200 [.loc 14,.str nm] [] (hp s J)=some (.none,hp {s with items:=ax (eM nm l)} J):=by
 have c1:(aa TT (m+11)).e (.meth (.var 0) .convert [(.meth (.var 1) .lower [] [])] [(.kName,(.con (.bool true)))]) [some (.loc 14),some (.str nm)] (hp s J)=some (.str (UT nm),hp s J):=
  xM rfl (Jv s J) (ba (sM rfl rfl (iM (UH hn (by decide))) rfl)) rfl (eV (m+1) (.loc 14) (UT nm) true (hp s J) hk)
 have e2:aO (aa TT (m+10)) (.attr (.var 0) .headers) [some (.loc 14),some (.str (UT nm))] (hp s J)=some (.locl 12 0,hp s J):=sD rfl (v:=.loc 12) rfl rfl
 have hlen':(ax l).length<1000:=Va (Vv (UC _)) hlen
 have e3:=ui (T:=TT) (r:=aa TT (m+10)) (elt:=.var 2) (t:=.one 2) (ifs:=[(.cmp .NotEq (.meth (.sub (.var 2) (ac 0)) .lower [] []) (.var 1))]) (g:=RK nm) e2 ((uk s J).trans (congrArg (λl=>some (AO.list l)) hs)) hlen' λv hv=>by
   obtain⟨p,hp',rfl⟩:=UY.mp hv
   have t1:=tC (op:=.NotEq) (a:=.meth (.sub (.var 2) (ac 0)) .lower [] []) (b:=.var 1) (n:=m+8) (ρ:=[some (.loc 14),some (.str (UT nm)),some (gZ p)]) (t:=!decide (UT p.1=UT nm)) (sM (s:=p.1) (H1:=hp s J) rfl rfl (iM (UH (hl p hp') (by decide))) rfl) rfl rfl
   show _=some ((bif decide (UT p.1=UT nm) then[] else[gZ p]),hp s J)
   cases h:decide (UT p.1=UT nm)<;>rw[h] at t1
   ·exact gY rfl (fJ t1) rfl
   ·exact v5 rfl (fJ t1)
 rw[rf] at e3
 have hl2:(ax (eM nm l)).length<=1000000:=UH (Vv (UC _)) (UH (Vb _ _) (UH (Wq hlen) (by decide)))
 have hl3:s.items.length<=1000000:=by rw[hs];lia
 exact fe (g:=fU) (ρ:=[some (.loc 14),some (.str nm)]) (ρ':=[some (.loc 14),some (.str (UT nm))]) rfl rfl (n:=m+11) (bn (aA c1) (dz (Uu (aN (r:=aa TT (m+10)) e3 hl2) (n:=12) rfl (uk s J) hl3 hl2)))
def putL(nm v:Str)(l:List (Str×Str)):List (Str×Str):=eM nm l++[(nm,v)]
theorem AM(nm v:Str)(l:List (Str×Str))(hs:s.items=ax l)(hl:fS l)(hk:fM (UT nm)=true)(hk2:fM nm=true)(hv:rD v=true)(hlen:l.length<900):(aa TT (m+16)).c 195 [.loc 14,.str nm,.str v] [] (hp s J)=some (.none,hp {s with items:=ax (putL nm v l)} J):=by
 have g3:=uk {s with items:=ax (eM nm l)} J
 have g5:(ax (eM nm l)).length<=1000000:=UH (Vv (UC _)) (UH (Vb _ _) (UH (Wq hlen) (by decide)))
 refine fe (n:=m+14) (g:=fV) rfl rfl (bn (Pn (n:=14) (c:=282) (d:=13) rfl rfl rfl rfl (zg (m+1) s J nm l hs hl (og hk2).2 hk (WI hlen (by decide)))) (dz (iq (xM (n:=m+13) (v:=.none) rfl (lS g3) (ba (qn (n:=m+12) (eB (xM (n:=m+11) rfl rfl (ba rfl) rfl (eV (m+2) (.loc 14) nm true _ hk2)) (xM (n:=m+11) rfl rfl (ba rfl) rfl (eV (m+2) (.loc 14) v false _ hv))))) rfl ((lD g3 g5).trans ?_)))))
 exact congrArg (λl=>some (AV.none,hp {s with items:=l} J)) (show ax (eM nm l)++[AV.tup [.str nm,.str v]]=ax (putL nm v l) by unfold putL ax;rw[Vt];rfl)
end
end
section
noncomputable def E8:AV->Bool
 | .bm _ _=>true
 | .clo _ _=>true
 |_=>false
theorem pz(m:Nat)(a f v:AV)(kw:List (NM×AV))(H H':AH)(hf:E8 f=true)(hkw:kw=[]∨∃ d,kw=[(.kDefault,d)])(hc:bj TT (aa TT (m+5)) f [a] kw H=some (v,H')):(aa TT (m+9)).c 76 [a,f] kw H=some (.tup [v,v],H'):=by
 have e0:∀ H,ia TT H .IsNot f .none=some true:=λH=>by
  cases f<;>first|rfl|cases hf
 rcases hkw with rfl|⟨d,rfl⟩<;>exact fr (n:=m+7) (g:=fQ) rfl rfl (dz (aZ (b:=true) (H1:=H) (tC (n:=m+5) rfl rfl (e0 H)) (show ay TT (aa TT (m+6)) _ _ _=_ from bn (aA hc) (br (cB rfl)))))
theorem JT(a b:Str):ct (.tup [.str a,.str a]) (.tup [.str b,.str b])=some (decide (a=b)):=by
 show ob (some (decide (a=b))) (λx=>ob (ob (some (decide (a=b))) λx=>ob (some true) λy=>some (x&&y)) λy=>some (x&&y))=_
 cases decide (a=b)<;>rfl
noncomputable def jb:Str:=UO #[103,111,110,101]
def lK(l:List (Str×Str))(nm:Str):Str:=match l.find? (λp=>decide (UT p.1=UT nm)) with
 |some p=>p.2
 |none=>jb
theorem L7(l:List (Str×Str))(nm:Str):iZ l nm (.str jb)= .str (lK l nm):=by
 unfold iZ lK
 cases l.find? (λp=>decide (UT p.1=UT nm))<;>rfl
noncomputable def pf(nm:Str):AV->List AV
 | .tup [.str a,.str b]=>bif decide (Vj a=Vj nm) then[.str b] else[]
 |_=>[]
theorem wb(nm:Str):∀(l:List (Str×Str)),(∀ p∈l,(UT p.1=UT nm↔Vj p.1=Vj nm))->∃ q,(ax l).flatMap (pf nm)++[.str jb]= .str (lK l nm)::q
 | [],_=>⟨[],rfl⟩
 |p::l,h=>by
  have⟨q,hq⟩:=wb nm l λx hx=>h x (.tail _ hx)
  have hp:=h p (.head _)
  show ∃ q,((bif decide (Vj p.1=Vj nm) then[AV.str p.2] else[])++(ax l).flatMap (pf nm))++_=_
  unfold lK
  rw[List.find?_cons,decide_eq_decide.mpr hp]
  cases decide (Vj p.1=Vj nm)
  ·exact⟨q,hq⟩
  ·exact⟨_,rfl⟩
theorem zh(nm:Str):∀(l:List (Str×Str)),((ax l).flatMap (pf nm)).length<=l.length
 | []=>V4 _
 |p::l=>by
  have:=zh nm l
  show((bif decide (Vj p.1=Vj nm) then[AV.str p.2] else[])++(ax l).flatMap (pf nm)).length<=l.length+1
  cases decide (Vj p.1=Vj nm)
  ·exact Nat.le_succ_of_le this
  ·exact WG this
theorem Uy{n:Nat}{x:String}{f:AV}{args:List IE}{kws:List (NM×IE)}{vs:List AV}{ks:List (NM×AV)}{v:AV}{ρ:ae}{H H1 H2 H3:AH}(ha:cj (aa TT (n+1)) args ρ H=some (vs,H1))(hk:jZ (aa TT (n+1)) kws ρ H1=some (ks,H2))(h:bj TT (aa TT (n+1)) f vs ks H2=some (v,H3)):(aa TT (n+2)).e (.call (.glob x f) args kws) ρ H=some (v,H3):=
 (congrArg (ah · λvs H=>ah (jZ (aa TT (n+1)) kws ρ H) λks H=>bj TT (aa TT (n+1)) f vs ks H) ha).trans ((congrArg (ah · λks H=>bj TT (aa TT (n+1)) f vs ks H) hk).trans h)
theorem DL(m:Nat)(s:HS)(J:AH)(nm:Str)(l:List (Str×Str))(hs:s.items=ax l)(hl:fS l)(hn:nm.length<=1000)(hk:fM (UT nm)=true)(hlen:l.length<900)(hu:∀ p∈l,(UT p.1=UT nm↔Vj p.1=Vj nm)):
  (aa TT (m+22)).c 354 [.loc 14,.loc 12,.str nm] [] (hp s J)=some (.bool true,hp s J):=by
 have hlen':(ax l).length<1000:=Va (Vv (UC _)) (by lia)
 have e3:=ui (T:=TT) (r:=aa TT (m+17)) (ρ:=[some (.loc 14),some (.loc 12),some (.str nm),none]) (it:=.var 1) (elt:=.var 5) (t:=.many [4,5]) (ifs:=[(.cmp .Eq (.meth (.var 4) .upper [] []) (.meth (.var 2) .upper [] []))]) (g:=pf nm) (H:=hp s J) (H1:=hp s J) rfl ((uk s J).trans (congrArg (λl=>some (AO.list l)) hs)) hlen' λv hv=>by
   obtain⟨p,hp',rfl⟩:=UY.mp hv
   have t1:=tC (op:=.Eq) (a:=.meth (.var 4) .upper [] []) (b:=.meth (.var 2) .upper [] []) (n:=m+15) (ρ:=[some (.loc 14),some (.loc 12),some (.str nm),none,some (.str p.1),some (.str p.2)]) (t:=decide (Vj p.1=Vj nm)) (H:=hp s J) (sM rfl rfl (nC (UH (hl p hp') (by decide))) rfl) (sM rfl rfl (nC (UH hn (by decide))) rfl) rfl
   show _=some ((bif decide (Vj p.1=Vj nm) then[AV.str p.2] else[]),hp s J)
   cases h:decide (Vj p.1=Vj nm)<;>rw[h] at t1
   ·exact v5 rfl (fJ t1)
   ·exact gY rfl (fJ t1) rfl
 have hdl:=zh nm l
 have⟨q,hq⟩:=wb nm l hu
 have e4:=pz (m+9) (.str nm) (.bm 229 (.loc 14)) (iZ l nm (.str jb)) [(.kDefault,.str jb)] (hp s J) (hp s J) rfl (.inr ⟨_,rfl⟩) (Fy (m+1) s J nm (.str jb) l hs hl hn hk (by lia))
 rw[L7] at e4
 have e6:=ga (H:=hp s J) (a:=.lst ((ax l).flatMap (pf nm))) (b:=.lst [.str jb]) rfl rfl (show _<=1000000 by simp only[UU,V2];lia)
 have e7:c7 TT (.lst ((ax l).flatMap (pf nm)++[.str jb])) (.int 0) (hp s J)=some (.str (lK l nm)):=by
  rw[iQ dL,Dm,hq];rfl
 have e9:ia TT (hp s J) .Eq (.tup [.str (lK l nm),.str (lK l nm)]) (.tup [.str (lK l nm),.str (lK l nm)])=some true:=(JT _ _).trans (congrArg some (decide_eq_true rfl))
 have s1:=bF (xB (n:=m+18) (op:=.Add) (b:=.list false [(.con (.str jb))]) (vD e3 (UH hdl (by lia))) rfl e6) (i:=.con (.int 0)) rfl e7
 exact fr (g:=ma) (ρ:=[some (.loc 14),some (.loc 12),some (.str nm),none]) rfl rfl (n:=m+20) (bn (aA s1) (br (cB (xC (n:=m+19) (Uy (n:=m+17) (eB rfl rfl) rfl ((RJ rfl).trans e4)) rfl e9))))
inductive fh(n:Nat):List Str->AH->AH->Prop
 |nil (H:AH):fh n [] H H
 |cons {w:Str} {ws:List Str} {H H1 H2:AH}:(aa TT n).c 111 [.loc 7] [] H=some (.str w,H1)->H[1]? =some (.tab 1)->fc TT (.loc 7) .getToken H=some (.fn 111)->fh n ws H1 H2->fh n (w::ws) H H2
theorem fh.append{n:Nat}{H1 H2 H3:AH}{a b:List Str}(h:fh n a H1 H2)(h2:fh n b H2 H3):fh n (a++b) H1 H3:=by
 induction h with
 |nil H=>exact h2
 |cons e1 e2 e3 _ ih=>exact .cons e1 e2 e3 (ih h2)
theorem yK(m:Nat){ws:List Str}{H H':AH}(wl:AV)(hr:fh (m+4) ws H H'):bI (λv H=>bJ (aa TT (m+10)) (.one 2) [] (λρ H=>ao TT (aa TT (m+10)) (.call (aY "_get_name_info" 76) [(.var 2),(.lam 1 [0])] []) [] ρ H) v ([some (AV.loc 7),some wl]++U2 (i7 (.one 2)) none) H) (ag ws) H=some (ws.map λw=>.tup [.str w,.str w],H'):=by
 induction hr with
 |nil H=>rfl
 | @cons w ws H H1 H2 e1 e2 e3 _ ih=>
  have ec:bj TT (aa TT (m+5)) (.clo 1 [.loc 7]) [.str w] [] H=some (.str w,H1):=
   xM (n:=m+4) (o:=.var 1) (args:=[]) (ρ:=[some (.str w),some (.loc 7)]) rfl e3 rfl (kws:=[]) rfl e1
  have ei:=pz m (.str w) (.clo 1 [.loc 7]) (.str w) [] H H1 rfl (.inl rfl) ec
  have el:(aa TT (m+9)).e (.lam 1 [0]) [some (.loc 7),some wl,some (.str w)] H=some (.clo 1 [.loc 7],H):=congrArg (ob · (FH 1 (.loc 7) H)) e2
  exact(congrArg (ah · λa H=>ah (bI _ (ag ws) H) λb H=>some (a++b,H)) (gY (t:=.one 2) (ifs:=[]) rfl rfl (xF (x:="_get_name_info") (n:=m+8) rfl (eB rfl el) ei))).trans (congrArg (ah · λb H=>some ([AV.tup [.str w,.str w]]++b,H)) ih)
theorem BJ(m:Nat){ws:List Str}{H H':AH}(hr:fh (m+4) ws H H')(hlen:ws.length<=1000):(aa TT (m+13)).c 359 [.loc 7,.lst (ag ws)] [] H=some (.lst (ws.map λw=>.tup [.str w,.str w]),H'):=by
 have e2:ao TT (aa TT (m+10)) (.call (aY "_get_name_info" 76) [(.var 2),(.lam 1 [0])] []) [.mk (.one 2) (.var 1) []] [some (.loc 7),some (.lst (ag ws))] H=some (ws.map λw=>.tup [.str w,.str w],H'):=yK m (.lst (ag ws)) hr
 exact fr (g:=kO) (ρ:=[some (.loc 7),some (.lst (ag ws))]) rfl rfl (n:=m+11) (br (cB (aN (r:=aa TT (m+10)) e2 (by rw[UC];lia))))
end
section
def bv(p:Nat):Str:=if p<32 then fF p else cY (2^p)
def aH(p:Nat):Str:=UT (bv p)
def cU(p:Nat):Str:=Vj (bv p)
def yg(p:Nat):Bool:=(WL 32 p||decide (pn p=bv p))&&fM (bv p)&&fM (aH p)&&fM (cU p)&&decide (UT (aH p)=aH p)&&decide (UT (cU p)=aH p)&&decide (Vj (aH p)=cU p)&&decide (Vj (cU p)=cU p)&&WL (bv p).length 30&&!(Nat.beq (bv p).length 0)&&!decide (UT (UO #[69,109,112,116,121])=aH p)&&!decide (cU p=aH p)
theorem Eo:∀ p<36,yg p=true:=by decide +kernel
structure RZ(p:Nat):Prop where
 pn_:p<32->pn p=bv p
 w:fM (bv p)=true
 l:fM (aH p)=true
 u:fM (cU p)=true
 ll:UT (aH p)=aH p
 lu:UT (cU p)=aH p
 ul:Vj (aH p)=cU p
 uu:Vj (cU p)=cU p
 len:(bv p).length<=30
 pos:(bv p).length≠0
 emp:UT (UO #[69,109,112,116,121])≠aH p
 ne:cU p≠aH p
theorem dH(p:Nat)(h:p<36):RZ p:=by
 have e:=Eo p h
 unfold yg at e
 simp only[U6,ZA,decide_eq_true_eq,Bool.not_eq_true',decide_eq_false_iff_not] at e
 obtain⟨⟨⟨⟨⟨⟨⟨⟨⟨⟨⟨e1,e2⟩,e3⟩,e4⟩,e5⟩,e6⟩,e7⟩,e8⟩,e9⟩,e10⟩,e11⟩,e12⟩:=e
 refine⟨λh=>e1.resolve_left λq=>?_,e2,e3,e4,e5,e6,e7,e8,UG e9,λq=>?_,e11,e12⟩
 ·exact absurd (UG q) (Nat.not_le.mpr h)
 ·rw[q] at e10;cases e10
end
section
theorem Mz:(UD 36).all (λp=>(UD 36).all λq=>decide (aH p=aH q)==decide (p=q))=true:=by decide +kernel
noncomputable def lQ:List Nat->Nat->List Nat->List Nat×Option Nat
 | [],x,acc=>(acc,some x)
 |i::l,x,acc=>if x&&&2^i=0 then lQ l x acc else if(x|||2^i)-(x&&&2^i)=0 then(acc++[i],none) else lQ l ((x|||2^i)-(x&&&2^i)) (acc++[i])
def Cv:Option Nat->List Str
 |some x=>[cY x]
 |none=>[]
theorem oj:∀(l:List Nat) (x:Nat) (acc:List Nat),ip l x (acc.map pn)=(lQ l x acc).1.map pn++Cv (lQ l x acc).2
 | [],x,acc=>rfl
 |i::l,x,acc=>by
  unfold ip lQ
  have h:acc.map pn++[pn i]=(acc++[i]).map pn:=by simp
  split
  ·exact oj l x acc
  ·split
   ·rw[h];simp[Cv]
   ·rw[h];exact oj l _ _
theorem om:∀(l:List Nat) (x:Nat) (acc:List Nat),jQ l x=(match(lQ l x acc).2 with|some y=>decide ((cY y).length<=1000)|none=>true)
 | [],x,acc=>rfl
 |i::l,x,acc=>by
  unfold jQ lQ
  split
  ·exact om l x acc
  ·split
   ·rfl
   ·exact om l _ _
noncomputable def b7(F k:Nat):Nat:=(2*k+1)*2^F
noncomputable def u3(x F:Nat):List Nat×Option Nat:=(((UD 5).filter λi=>decide (F+i<32)&&x.testBit (F+i)).map (F+ ·),if x/2^32>0 then some (x/2^32*2^32) else none)
theorem Pt:(UD 32).all (λF=>(UD 16).all λk=>decide (lQ (UD 32) (b7 F k) []=u3 (b7 F k) F))=true:=by decide +kernel
theorem J4:∀ j<16,(cY (j*2^32)).length<=1000:=by decide +kernel
theorem tB(p:Nat)(h:p<32):pn p=fF p:=by
 have:=(dH p (by lia)).pn_ h
 unfold bv at this
 rw[if_pos h] at this
 exact this
theorem z0{p q:Nat}(hp:p<36)(hq:q<36)(h:aH p=aH q):p=q:=by
 have:=UP.mp (UP.mp Mz p (UR.mpr hp)) q (UR.mpr hq)
 rw[decide_eq_true h] at this
 exact of_decide_eq_true (beq_iff_eq.mp this).symm
structure PL(F k:Nat):Prop where
 eq:ji (b7 F k)=nV (b7 F k) F
 ok:jQ (UD 32) (b7 F k)=true
 hex:(cY (b7 F k/2^32*2^32)).length<=1000
theorem w7{F k:Nat}(hF:F<32)(hk:k<16):b7 F k/2^32<16:=by
 unfold b7
 have h1: 2^F<=2^31:=VD (by decide) (by lia)
 have h2:(2*k+1)*2^F<=31*2^31:=WU (by lia) h1
 lia
theorem Ps(F k:Nat)(hF:F<32)(hk:k<16):PL F k:=by
 have e:=of_decide_eq_true (UP.mp (UP.mp Pt F (UR.mpr hF)) k (UR.mpr hk))
 have hd:=w7 hF hk
 have hx:=J4 _ hd
 refine⟨?_,?_,hx⟩
 ·have h:bu (b7 F k)=_:=oj (UD 32) (b7 F k) []
  unfold ji nV
  rw[h,e]
  refine congrArg (WT _) ?_
  generalize b7 F k=x
  unfold u3 f0
  congr 1
  ·rw[UX]
   refine Vn λi hi=>?_
   have:=(UZ.mp hi).2
   simp only[U6,decide_eq_true_eq] at this
   exact tB _ this.1
  ·dsimp only
   split<;>rfl
 ·rw[om _ _ [],e]
  unfold u3
  dsimp only
  split
  ·rename_i h
   split at h
   ·cases h;exact decide_eq_true hx
   ·cases h
  ·rfl
theorem Lh:(UD 32).all (λF=>(UD 5).all λi=>decide (lQ (UD 32) (2^(F+i)) []=u3 (2^(F+i)) F)&&decide (u3 (2^(F+i)) F=if F+i<32 then([F+i],none) else([],some (2^(F+i)))))=true:=by decide +kernel
theorem J6:∀ p<36,(cY (2^p)).length<=1000/\(cY (2^p/2^32*2^32)).length<=1000:=by decide +kernel
structure R0(F i:Nat):Prop where
 w:nV (2^(F+i)) F=bv (F+i)
 p:ji (2^(F+i))=bv (F+i)
 ok:jQ (UD 32) (2^(F+i))=true
 hex:(cY (2^(F+i)/2^32*2^32)).length<=1000
theorem wS(s t:Str):WT s [t]=t:=by
 unfold WT
 first|rfl|simp
theorem CS(F i:Nat)(hF:F<32)(hi:i<5):R0 F i:=by
 have e:=UP.mp (UP.mp Lh F (UR.mpr hF)) i (UR.mpr hi)
 simp only[U6,decide_eq_true_eq] at e
 obtain⟨e1,e2⟩:=e
 have hp:=J6 (F+i) (by lia)
 have k1:(u3 (2^(F+i)) F).1.map pn++Cv (u3 (2^(F+i)) F).2=[bv (F+i)]:=by
  rw[e2]
  unfold bv
  split
  ·rename_i h
   show[pn (F+i)]=_
   rw[tB _ h]
  ·rfl
 have k2:bu (2^(F+i))=[bv (F+i)]:=by
  have h:=oj (UD 32) (2^(F+i)) []
  rw[e1] at h
  exact h.trans k1
 have k3:f0 (2^(F+i)) F=[bv (F+i)]:=by
  rw[<-k1]
  unfold u3 f0
  congr 1
  ·rw[UX]
   refine(Vn λj hj=>?_)
   have:=(UZ.mp hj).2
   simp only[U6,decide_eq_true_eq] at this
   exact(tB _ this.1).symm
  ·dsimp only
   split<;>rfl
 refine⟨?_,?_,?_,hp.2⟩
 ·unfold nV;rw[k3];exact wS _ _
 ·unfold ji;rw[k2];exact wS _ _
 ·rw[om _ _ [],e1,e2]
  split
  ·rename_i h
   split at h
   ·cases h
   ·cases h;exact decide_eq_true hp.1
  ·rfl
end
section
def oT(l:List Nat):List AV:=l.map λc=>AV.str (af [c])
def hq(sg:List Nat)(ln:Int)(pb:List AV)(K:AH):AH:=[.tab 0,.tab 1,.list (oT sg),Ma,.inst 121 3,.list [.str (af [97])],Mb ln,.inst 121 6,.list pb]++K
noncomputable def bG(ln:Int)(c:Nat):Int:=if c=10 then ln+1 else ln
theorem xc{a b:List Nat}:af a=af b↔a=b:=by
 constructor
 ·intro h
  have:=congrArg (λs=>s.cps.toList) h
  exact this
 ·rintro rfl;rfl
section
variable (m:Nat)(sg:List Nat)(ln:Int)(pb:List AV)(K:AH)
theorem lT(c:Nat)(q:List Nat)(hl:q.length<1000):(aa TT (m+10)).c 104 [.loc 7] [] (hq (c::q) ln pb K)=some (.str (af [c]),hq q (bG ln c) pb K):=by
 have d4:=LB (T:=TT) (r:=aa TT (m+5)) (o:=.loc 2) (show(hq (c::q) ln pb K)[2]? =some (.list (.str (af [c])::oT q)) from rfl) (by unfold oT;rw[UC];lia)
 have e4:(aa TT (m+7)).e wU.body [some (.int 1),some (.loc 2)] (hq (c::q) ln pb K)=some (.str (af [c]),hq q ln pb K):=ix (n:=m+6) (t:=true) (H1:=hq (c::q) ln pb K) (show bk (aa TT (m+5)) _ _ _=_ from r5 (tC (n:=m+3) rfl rfl rfl) (r5 (tC (n:=m+3) rfl rfl rfl) rfl)) (xM (n:=m+5) rfl rfl rfl rfl d4)
 unfold bG
 by_cases h:c=10
 ·subst h
  exact fr (n:=m+8) (g:=cG) rfl rfl (bn (aA (xM (n:=m+7) rfl rfl rfl rfl e4)) (bn (aZ (b:=true) (tC (n:=m+6) rfl rfl rfl) (show ay TT (aa TT (m+7)) _ _ _=some (AF.next,_,hq q (ln+1) pb K) from rfl)) (br (cB rfl))))
 ·rw[if_neg h]
  exact fr (n:=m+8) (g:=cG) rfl rfl (bn (aA (xM (n:=m+7) rfl rfl rfl rfl e4)) (bn (aZ (b:=false) (tC (n:=m+6) rfl rfl (congrArg some (decide_eq_false λq=>h (WS (xc.mp (show af [c]=af [10] from q))).1))) rfl) (br (cB rfl))))
theorem Im:(aa TT (m+10)).c 104 [.loc 7] [] (hq [] ln pb K)=some (.str (UO #[]),hq [] ln pb K):=
 have e4:(aa TT (m+7)).e wU.body [some (.int 1),some (.loc 2)] (hq [] ln pb K)=some (.str (UO #[]),hq [] ln pb K):=ix (n:=m+6) (t:=false) (H1:=hq [] ln pb K) (show bk (aa TT (m+5)) _ _ _=_ from r5 (tC (n:=m+3) rfl rfl rfl) (Ba (tC (n:=m+3) rfl rfl rfl))) rfl
 fr (n:=m+8) (g:=cG) rfl rfl (bn (aA (xM (n:=m+7) rfl rfl rfl rfl e4)) (bn (aZ (b:=false) (tC (n:=m+6) rfl rfl rfl) rfl) (br (cB rfl))))
noncomputable def bQ:AO:=.citer (.bm 104 (.loc 7)) (.str (UO #[]))
theorem Dx(i:Nat):(hq sg ln pb K)[i+9]? =K[i]? :=rfl
variable {m sg ln pb K}
theorem xi{n:Nat}{r:R}{H H1:AH}{s:Str}(h0:H[n]? =some bQ)(e1:r.c 104 [.loc 7] [] H=some (.str s,H1))(h1:H1[n]? =some bQ):aX TT r (.cit n) H=bif decide (UO #[]=s) then some (none,H1.set n .gone) else some (some (.str s,.cit n),H1):=
 (congrArg (ob · (m6 TT r n H)) h0).trans ((congrArg (ah · λv H=>ob H[n]? (kK TT n v H)) e1).trans (congrArg (ob · (kK TT n (.str s) H1)) h1))
theorem gz{i c:Nat}{q:List Nat}(hK:K[i]? =some bQ)(hl:q.length<1000):aX TT (aa TT (m+10)) (.cit (i+9)) (hq (c::q) ln pb K)=some (some (.str (af [c]),.cit (i+9)),hq q (bG ln c) pb K):=by
 have h:decide (UO #[]=af [c])=false:=decide_eq_false λh=>by
  have:=congrArg (λs=>s.cps.toList) h
  cases this
 rw[xi (n:=i+9) (H:=hq (c::q) ln pb K) hK (lT m ln pb K c q hl) hK,h]
 rfl
theorem uy{i:Nat}(hK:K[i]? =some bQ):aX TT (aa TT (m+10)) (.cit (i+9)) (hq [] ln pb K)=some (none,hq [] ln pb (K.set i .gone)):=xi (n:=i+9) (H:=hq [] ln pb K) hK (Im m ln pb K) hK
theorem Ec{i:Nat}{H:AH}{r:R}(hK:H[i]? =some .gone):aX TT r (.cit i) H=some (none,H):=by
 show ob _ (m6 TT r i _)=_
 rw[hK]
 rfl
end
end
section
noncomputable def bf:List (Bool×Nat)->List Nat
 | []=>[]
 |p::l=>(if p.1 then[92,p.2] else[p.2])++bf l
def ke(ln:Int)(w:List (Bool×Nat)):Int:=w.foldl (λl p=>bG l p.2) ln
noncomputable def kY(c:Nat):Bool:=c==10||c==9||c==13||c==32
def ck(t:List Nat)(n:Nat)(x:Option AV):ae:=[some (.loc 7),some (.str (af t)),some (.loc n),x]
def dA(c:Nat):Option AV:=some (.str (af [c]))
theorem Jd(a b:List Nat)(h:a≠b):decide (af a=af b)=false:=decide_eq_false λq=>h (xc.mp q)
theorem nK{c d:Nat}(h:c≠d):decide (af [c]=af [d])=false:=Jd _ _ (by simpa using h)
theorem qt(t:List Nat)(c:Nat)(h:t.length<=1000):iS .Add (.str (af t)) (.str (af [c]))=some (.str (af (t++[c]))):=by
 rw[PM (by rw[bS,bS];simp;lia),fE]
structure vE(B:ae->AH->Option (AF×ae×AH))(n:Nat)(stop:Nat->Bool):Prop where
 plain:∀ c t H,stop c=false/\c≠92/\c<300->t.length<=1000->(∃ sg ln pb K,H=hq sg ln pb K)->B (ck t n (dA c)) H=some (.next,ck (t++[c]) n (dA c),H)
 esc:∀ c t q ln pb K,q.length<1000->t.length<=1000->B (ck t n (dA 92)) (hq (c::q) ln pb K)=some (.next,ck (t++[c]) n (dA c),hq q (bG ln c) pb K)
 stop:∀ c t H,stop c=true->(∃ sg ln pb K,H=hq sg ln pb K)->B (ck t n (dA c)) H=some (.ret (.str (af t)),ck t n (dA c),H)
section
variable {T:c8}{r:R}{tg:bD}{B o:ae->AH->Option (AF×ae×AH)}{k:Nat}{s s':aB}{ρ ρ1 ρ2:ae}{H H1 H2:AH}{x v:AV}
theorem n5(h1:aX T r s H=some (some (x,s'),H1))(h2:be tg x ρ=some ρ1)(h3:B ρ1 H1=some (.next,ρ2,H2)):bo T r tg B o (k+1) s ρ H=bo T r tg B o k s' ρ2 H2:=fd h1 h2 h3
theorem wn(h1:aX T r s H=some (some (x,s'),H1))(h2:be tg x ρ=some ρ1)(h3:B ρ1 H1=some (.ret v,ρ2,H2)):bo T r tg B o (k+1) s ρ H=some (.ret v,ρ2,H2):=fd h1 h2 h3
theorem n4(h1:aX T r s H=some (none,H1)):bo T r tg B o (k+1) s ρ H=o ρ H1:=LW h1
end
theorem je(t:List Nat)(n c:Nat)(x:Option AV):be (.one 3) (.str (af [c])) (ck t n x)=some (ck t n (dA c)):=rfl
theorem nA{m i:Nat}{B o:ae->AH->Option (AF×ae×AH)}{stop:Nat->Bool}(hB:vE B (i+9) stop){pb:List AV}{K:AH}(hK:K[i]? =some bQ)(z:List Nat)(k:Nat):∀(w:List (Bool×Nat)) (t:List Nat) (x:Option AV) (ln:Int),(∀ p∈w,p.1=false->stop p.2=false/\p.2≠92/\p.2<300)->t.length+w.length<=1000->(bf w++z).length<1000->
  ∃ x',bo TT (aa TT (m+10)) (.one 3) B o (k+w.length) (.cit (i+9)) (ck t (i+9) x) (hq (bf w++z) ln pb K)=bo TT (aa TT (m+10)) (.one 3) B o k (.cit (i+9)) (ck (t++w.map (·.2)) (i+9) x') (hq z (ke ln w) pb K)
 | [],t,x,ln,_,_,_=>⟨x,by simp[bf,ke]⟩
 |(e,c)::w,t,x,ln,hw,ht,hl=>by
  have hl0:(((if e then[92,c] else[c])++bf w)++z).length<1000:=hl
  simp only[UM] at hl0
  rw[UU] at ht
  have hl1:(bf w++z).length+1<1000:=by
   rw[UM]
   cases e<;>simp at hl0<;>lia
  obtain⟨x',h'⟩:=nA (m:=m) (o:=o) hB hK z k w (t++[c]) (dA c) (bG ln c) (λp hp=>hw p (.tail _ hp)) (by simp;lia) (by lia)
  refine⟨x',?_⟩
  rw[U3] at h'
  refine Eq.trans ?_ h'
  cases e with
  |false=>
   exact n5 (gz (c:=c) (q:=bf w++z) hK (by lia)) (je _ _ _ _) (hB.plain c t _ (hw _ (.head _) rfl) (by lia) ⟨_,_,_,_,rfl⟩)
  |true=>
   exact n5 (gz (c:=92) (q:=c::(bf w++z)) hK (by simp at hl0 hl1 ⊢;lia)) (je _ _ _ _) (hB.esc c t (bf w++z) ln pb K (by lia) (by lia))
theorem uv{m i:Nat}{B o:ae->AH->Option (AF×ae×AH)}{stop:Nat->Bool}(hB:vE B (i+9) stop){pb:List AV}{K:AH}(hK:K[i]? =some bQ)(z:Nat)(q:List Nat)(w:List (Bool×Nat))(t:List Nat)(x:Option AV)(ln:Int)(k:Nat)(hw:∀ p∈w,p.1=false->stop p.2=false/\p.2≠92/\p.2<300)(hz:stop z=true)(ht:t.length+w.length<=900)(hl:(bf w++z::q).length<1000)(hk:w.length<k):
  ∃ ρ',bo TT (aa TT (m+10)) (.one 3) B o k (.cit (i+9)) (ck t (i+9) x) (hq (bf w++z::q) ln pb K)=some (.ret (.str (af (t++w.map (·.2)))),ρ',hq q (bG (ke ln w) z) pb K):=by
 obtain⟨j,rfl⟩:∃ j,k=j+1+w.length:=⟨k-1-w.length,by lia⟩
 obtain⟨x',e⟩:=nA (m:=m) (o:=o) hB hK (z::q) (j+1) w t x ln hw (by lia) hl
 refine⟨_,e.trans (wn (gz hK ?_) (je _ _ _ _) (hB.stop z _ _ hz ⟨_,_,_,_,rfl⟩))⟩
 simp at hl;lia
theorem FP{m i:Nat}{B o:ae->AH->Option (AF×ae×AH)}{stop:Nat->Bool}(hB:vE B (i+9) stop){pb:List AV}{K:AH}(hK:K[i]? =some bQ)(w:List (Bool×Nat))(t:List Nat)(x:Option AV)(ln:Int)(k:Nat)(hw:∀ p∈w,p.1=false->stop p.2=false/\p.2≠92/\p.2<300)(ht:t.length+w.length<=900)(hl:(bf w).length<1000)(hk:w.length<k):
  ∃ x',bo TT (aa TT (m+10)) (.one 3) B o k (.cit (i+9)) (ck t (i+9) x) (hq (bf w) ln pb K)=o (ck (t++w.map (·.2)) (i+9) x') (hq [] (ke ln w) pb (K.set i .gone)):=by
 obtain⟨j,rfl⟩:∃ j,k=j+1+w.length:=⟨k-1-w.length,by lia⟩
 obtain⟨x',e⟩:=nA (m:=m) (o:=o) hB hK [] (j+1) w t x ln hw (by lia) (by simpa using hl)
 rw[U8] at e
 exact⟨x',e.trans (n4 (uy hK))⟩
theorem kZ:∀ c<300,Yb (af [10,9,13,32]) (af [c])=kY c:=by decide +kernel
section
variable (m i:Nat)
theorem Fo(c:Nat)(t q:List Nat)(ln:Int)(pb:List AV)(K:AH)(hq':q.length<1000):fc TT (.loc 7) .readChar (hq (c::q) ln pb K)=some (.fn 104):=rfl
theorem C2:vE ((aa TT (m+15)).b qW) (i+9) (λc=>c==34) where
 plain:=λc t H ⟨hs,h92,_⟩ ht _=>show ay TT (aa TT (m+14)) qW _ _=_ from
  bn (aZ (b:=false) (H1:=H) (tC (n:=m+12) rfl rfl (congrArg some (nK (ne_of_beq_false hs)))) (show ay TT (aa TT (m+13)) _ _ _=_ from dz (aZ (b:=false) (H1:=H) (tC (n:=m+11) rfl rfl (congrArg some (nK h92))) rfl))) (dz (nP rfl rfl (qt t c ht)))
 esc:=λc t q ln pb K hl ht=>show ay TT (aa TT (m+14)) qW _ _=_ from
  bn (aZ (b:=false) (H1:=hq (c::q) ln pb K) (tC (n:=m+12) rfl rfl rfl) (show ay TT (aa TT (m+13)) _ _ _=_ from dz (aZ (b:=true) (H1:=hq (c::q) ln pb K) (tC (n:=m+11) rfl rfl rfl) (show ay TT (aa TT (m+12)) _ _ _=_ from dz (aA (xM (n:=m+11) rfl rfl rfl rfl (lT (m+1) ln pb K c q hl))))))) (dz (nP rfl rfl (qt t c ht)))
 stop:=λc t H hs _=>show ay TT (aa TT (m+14)) qW _ _=_ from
  br (aZ (b:=true) (H1:=H) (tC (n:=m+12) rfl rfl (congrArg some (decide_eq_true (congrArg (λc=>af [c]) (eq_of_beq hs))))) (show ay TT (aa TT (m+13)) _ _ _=_ from br (cB rfl)))
theorem Mj{c:Nat}(h:kY c=true):c<300:=Nat.lt_of_not_le λq=>by
 unfold kY at h
 simp only[ZA,beq_iff_eq] at h
 lia
theorem LA:vE ((aa TT (m+15)).b oI) (i+9) (λc=>kY c) where
 plain:=λc t H ⟨hs,h92,h3⟩ ht ⟨sg,ln,pb,K,hH⟩=>hH▸show ay TT (aa TT (m+14)) oI _ (hq sg ln pb K)=some (_,_,hq sg ln pb K) from
  bn (aZ (b:=false) (H1:=hq sg ln pb K) (tC (n:=m+12) rfl rfl (congrArg some ((kZ c h3).trans hs))) (show ay TT (aa TT (m+13)) _ _ _=_ from dz (aZ (b:=false) (H1:=hq sg ln pb K) (tC (n:=m+11) rfl rfl (congrArg some (nK h92))) rfl))) (dz (nP rfl rfl (qt t c ht)))
 esc:=λc t q ln pb K hl ht=>show ay TT (aa TT (m+14)) oI _ _=_ from
  bn (aZ (b:=false) (H1:=hq (c::q) ln pb K) (tC (n:=m+12) rfl rfl (congrArg some (kZ 92 (by decide)))) (show ay TT (aa TT (m+13)) _ _ _=_ from dz (aZ (b:=true) (H1:=hq (c::q) ln pb K) (tC (n:=m+11) rfl rfl rfl) (show ay TT (aa TT (m+12)) _ _ _=_ from dz (aA (xM (n:=m+11) rfl rfl rfl rfl (lT (m+1) ln pb K c q hl))))))) (dz (nP rfl rfl (qt t c ht)))
 stop:=λc t H hs ⟨sg,ln,pb,K,hH⟩=>hH▸show ay TT (aa TT (m+14)) oI _ (hq sg ln pb K)=some (_,_,hq sg ln pb K) from
  br (aZ (b:=true) (H1:=hq sg ln pb K) (tC (n:=m+12) rfl rfl (congrArg some ((kZ c (Mj hs)).trans hs))) (show ay TT (aa TT (m+13)) _ _ _=_ from br (cB rfl)))
end
end
section
theorem yn{T:c8}{r:R}{ρ:ae}{H H1:AH}{x n:Nat}{it:IE}{b o:List IS}(h:aO r it ρ H=some (.cit n,H1)):am T r (.fr (.one x) it b o) ρ H=bo T r (.one x) (r.b b) (r.b o) 1000 (.cit n) ρ H1:=congrArg (ah · λs H=>aw (dj (.one x) s) (lJ T r (.one x) (r.b b) (r.b o) s ρ H)) h
theorem tI{r:R}{ρ:ae}{H:AH}{n:Nat}{a:AV}{it:IE}(hc:gH it=none)(h:r.e it ρ H=some (.loc n,H))(h2:H[n]? =some bQ):aO r it ρ H=some (.cit n,H):=sD hc h (congrArg (ob · (yq n)) h2)
theorem Me(sg:List Nat)(ln:Int)(pb:List AV)(K:AH):(hq sg ln pb K).length=K.length+9:=by
 unfold hq;rw[UM,Zg];rfl
theorem wF(sg:List Nat)(ln:Int)(pb:List AV)(K L:AH):hq sg ln pb K++L=hq sg ln pb (K++L):=by
 unfold hq;rw[U3]
section
variable (m:Nat)(sg:List Nat)(ln:Int)(K:AH)
theorem zq{x:AF×ae×AH}(h:bo TT (aa TT (m+18)) (.one 3) ((aa TT (m+18)).b oH) ((aa TT (m+18)).b []) 1000 (.cit (K.length+9)) (ck [] (K.length+9) none) (hq sg ln [] (K++[bQ]))=some x):ay TT (aa TT (m+18)) gv [some (.loc 7),none,none,none] (hq sg ln [] K)=jA x.1 x.2.1 x.2.2 (ay TT (aa TT (m+18)) [.ret (.var 1)] x.2.1 x.2.2):=by
 have e4:bj TT (aa TT (m+17)) (.g (.builtin "iter")) [.bm 104 (.loc 7),.str (UO #[])] [] (hq sg ln [] K)=some (.loc (K.length+9),hq sg ln [] (K++[bQ])):=by
  rw[Ml,Me,wF];rfl
 have e5:aO (aa TT (m+18)) (.var 2) [some (.loc 7),some (.str (UO #[])),some (.loc (K.length+9)),none] (hq sg ln [] (K++[bQ]))=some (.cit (K.length+9),hq sg ln [] (K++[bQ])):=tI (a:=.none) rfl rfl (by rw[Dx,dU];rfl)
 have e6:ay TT (aa TT (m+18)) [.fr (.one 3) (.var 2) oH [],.ret (.var 1)] [some (.loc 7),some (.str (UO #[])),some (.loc (K.length+9)),none] (hq sg ln [] (K++[bQ]))=jA x.1 x.2.1 x.2.2 (ay TT (aa TT (m+18)) [.ret (.var 1)] x.2.1 x.2.2):=congrArg (dX · λf ρ H=>jA f ρ H (ay TT (aa TT (m+18)) [.ret (.var 1)] ρ H)) ((yn e5).trans h)
 have e7:ay TT (aa TT (m+18)) [.set 1 (.con (.str (UO #[]))),.set 2 (.call (dK "iter") [(.attr (.var 0) .readChar),(.con (.str (UO #[])))] []),.fr (.one 3) (.var 2) oH [],.ret (.var 1)] [some (.loc 7),none,none,none] (hq sg ln [] K)=jA x.1 x.2.1 x.2.2 (ay TT (aa TT (m+18)) [.ret (.var 1)] x.2.1 x.2.2):=
  bn (aA (v:=.str (UO #[])) (H':=hq sg ln [] K) rfl) (bn (aA (xK (n:=m+16) (eB rfl rfl) e4)) e6)
 have e8:am TT (aa TT (m+18)) (.ite (.attr (.var 0) .pushback) [.ret (.meth (.attr (.var 0) .pushback) .pop [(ac 0)] [])] []) [some (.loc 7),none,none,none] (hq sg ln [] K)=some (AF.next,[some (.loc 7),none,none,none],hq sg ln [] K):=aZ (b:=false) (H1:=hq sg ln [] K) rfl rfl
 exact bn e8 e7
variable {m sg ln K}
theorem Ds{v:AV}{ρ':ae}{H':AH}(h:bo TT (aa TT (m+18)) (.one 3) ((aa TT (m+18)).b oH) ((aa TT (m+18)).b []) 1000 (.cit (K.length+9)) (ck [] (K.length+9) none) (hq sg ln [] (K++[bQ]))=some (.ret v,ρ',H')):(aa TT (m+20)).c 111 [.loc 7] [] (hq sg ln [] K)=some (v,H'):=fr (g:=cQ) (ρ:=[some (.loc 7),none,none,none]) rfl rfl (zq m sg ln K h)
theorem zp{t:List Nat}{n:Nat}{x:Option AV}{H':AH}(h:bo TT (aa TT (m+18)) (.one 3) ((aa TT (m+18)).b oH) ((aa TT (m+18)).b []) 1000 (.cit (K.length+9)) (ck [] (K.length+9) none) (hq sg ln [] (K++[bQ]))=some (.next,ck t n x,H')):(aa TT (m+20)).c 111 [.loc 7] [] (hq sg ln [] K)=some (.str (af t),H'):=fr (g:=cQ) (ρ:=[some (.loc 7),none,none,none]) rfl rfl ((zq m sg ln K h).trans (br (ρ':=ck t n x) (cB rfl)))
theorem J2:(aa TT (m+20)).c 111 [.loc 7] [] (hq [] ln [] K)=some (.str (af []),hq [] ln [] (K++[.gone])):=by
 refine zp (t:=[]) (n:=K.length+9) (x:=none) ((n4 (k:=999) (uy (m:=m+8) (by rw[dU];rfl))).trans ?_)
 rw[gT];rfl
theorem uj{i:Nat}{pb:List AV}{q:List Nat}{K:AH}(hK:K[i]? =some bQ):(aa TT (m+18)).b oH (ck [] (i+9) (dA 34)) (hq q ln pb K)=bo TT (aa TT (m+16)) (.one 3) ((aa TT (m+16)).b qW) ((aa TT (m+16)).b []) 1000 (.cit (i+9)) (ck [] (i+9) (dA 34)) (hq q ln pb K):=by
 have e5:=yn (T:=TT) (x:=3) (b:=qW) (o:=[]) (tI (a:=.none) (r:=aa TT (m+16)) (it:=.var 2) (ρ:=ck [] (i+9) (dA 34)) (H:=hq q ln pb K) rfl rfl (n:=i+9) hK)
 refine(bn (r:=aa TT (m+17)) (ρ':=ck [] (i+9) (dA 34)) (H':=hq q ln pb K) (aZ (b:=false) (H1:=hq q ln pb K) (tC (n:=m+15) (u:=.str (af [34])) (w:=.str (af [10,9,13,32])) rfl rfl (congrArg some (kZ 34 (by decide)))) rfl) (dz (aZ (b:=true) (H1:=hq q ln pb K) rfl ?_)))
 exact(dz e5)
end
end
section
section
variable {m:Nat}{sg:List Nat}{ln:Int}{K:AH}
theorem kc(K:AH):(K++[bQ])[K.length]? =some bQ:=by rw[dU];rfl
theorem Dr(w:List (Bool×Nat))(q:List Nat)(hw:∀ p∈w,p.1=false->(p.2==34)=false/\p.2≠92/\p.2<300)(hl:(bf w++34::q).length<900)(hk:w.length<900):(aa TT (m+20)).c 111 [.loc 7] [] (hq (34::(bf w++34::q)) ln [] K)=some (.str (af (w.map (·.2))),hq q (ke ln w) [] (K++[bQ])):=by
 obtain⟨ρ',e⟩:=uv (m:=m+6) (o:=(aa TT (m+16)).b []) (C2 (m+1) K.length) (pb:=[]) (kc K) 34 q w [] (dA 34) ln 1000 hw rfl (by simpa using Wq hk) (by lia) (by lia)
 refine Ds (ρ':=ρ') (wn (k:=999) (gz (m:=m+8) (kc K) (by lia)) (je _ _ _ _) ((uj (m:=m) (kc K)).trans ?_))
 have e':bo TT (aa TT (m+16)) (.one 3) ((aa TT (m+16)).b qW) ((aa TT (m+16)).b []) 1000 (.cit (K.length+9)) (ck [] (K.length+9) (dA 34)) (hq (bf w++34::q) ln [] (K++[bQ]))=_:=e
 rw[show bG ln 34=ln from rfl,e']
 rfl
theorem L9(w:List (Bool×Nat))(hw:∀ p∈w,p.1=false->(p.2==34)=false/\p.2≠92/\p.2<300)(hl:(bf w).length<900)(hk:w.length<900):(aa TT (m+20)).c 111 [.loc 7] [] (hq (34::bf w) ln [] K)=some (.str (af (w.map (·.2))),hq [] (ke ln w) [] (K++[.gone])):=by
 obtain⟨x',e⟩:=FP (m:=m+6) (o:=(aa TT (m+16)).b []) (C2 (m+1) K.length) (pb:=[]) (kc K) w [] (dA 34) ln 1000 hw (by simpa using Wq hk) (by lia) (by lia)
 have e':bo TT (aa TT (m+16)) (.one 3) ((aa TT (m+16)).b qW) ((aa TT (m+16)).b []) 1000 (.cit (K.length+9)) (ck [] (K.length+9) (dA 34)) (hq (bf w) ln [] (K++[bQ]))=some (.next,ck (w.map (·.2)) (K.length+9) x',hq [] (ke ln w) [] (K++[.gone])):=by
  refine e.trans ?_
  rw[gT];rfl
 have e2:(aa TT (m+18)).b oH (ck [] (K.length+9) (dA 34)) (hq (bf w) (bG ln 34) [] (K++[bQ]))=some (.next,ck (w.map (·.2)) (K.length+9) x',hq [] (ke ln w) [] (K++[.gone])):=by
  refine(uj (m:=m) (kc K)).trans ?_
  rw[show bG ln 34=ln from rfl,e']
 have hg:(hq [] (ke ln w) [] (K++[.gone]))[K.length+9]? =some .gone:=by rw[Dx,dU];rfl
 exact zp (t:=w.map (·.2)) (x:=x') ((n5 (k:=999) (gz (m:=m+8) (kc K) (by lia)) (je _ _ _ _) e2).trans ((n4 (k:=998) (Ec hg)).trans rfl))
theorem FB{i:Nat}{pb:List AV}{e:Bool}{c:Nat}{q:List Nat}{K:AH}(hK:K[i]? =some bQ)(hc:e=false->kY c=false/\c≠34/\c≠92/\c<300)(hl:q.length<1000):(aa TT (m+18)).b oH (ck [] (i+9) (dA (if e then 92 else c))) (hq (if e then c::q else q) ln pb K)=bo TT (aa TT (m+16)) (.one 3) ((aa TT (m+16)).b oI) ((aa TT (m+16)).b []) 1000 (.cit (i+9)) (ck [c] (i+9) (dA c)) (hq q (if e then bG ln c else ln) pb K):=by
 have e6:∀ ln,ay TT (aa TT (m+16)) [.aug 1 .Add (.var 3),.fr (.one 3) (.var 2) oI []] (ck [] (i+9) (dA c)) (hq q ln pb K)=bo TT (aa TT (m+16)) (.one 3) ((aa TT (m+16)).b oI) ((aa TT (m+16)).b []) 1000 (.cit (i+9)) (ck [c] (i+9) (dA c)) (hq q ln pb K):=λln=>
  bn (nP (u:=.str (af [])) (v:=.str (af [c])) (H1:=hq q ln pb K) rfl rfl (qt [] c (by decide))) (dz (yn (tI (a:=.none) (r:=aa TT (m+16)) (it:=.var 2) (ρ:=ck [c] (i+9) (dA c)) (H:=hq q ln pb K) rfl rfl (n:=i+9) hK)))
 have go:∀(d:Nat) (sg:List Nat) (x:Option (AF×ae×AH)),Yb (af [10,9,13,32]) (af [d])=false->decide (af [d]=af [34])=false->ay TT (aa TT (m+16)) [.ite (.cmp .Eq (.var 3) (.con (.str (UO #[92])))) [.set 3 (.meth (.var 0) .readChar [] [])] [],.aug 1 .Add (.var 3),.fr (.one 3) (.var 2) oI []] (ck [] (i+9) (dA d)) (hq sg ln pb K)=x->ay TT (aa TT (m+17)) oH (ck [] (i+9) (dA d)) (hq sg ln pb K)=x:=λd sg x h1 h2 hx=>
  bn (ρ':=ck [] (i+9) (dA d)) (H':=hq sg ln pb K) (aZ (b:=false) (H1:=hq sg ln pb K) (tC (n:=m+15) (u:=.str (af [d])) (w:=.str (af [10,9,13,32])) rfl rfl (congrArg some h1)) rfl) (dz (aZ (b:=false) (H1:=hq sg ln pb K) (tC (n:=m+15) (u:=.str (af [d])) (w:=.str (af [34])) rfl rfl (congrArg some h2)) hx))
 cases e with
 |true=>
  have r1:(aa TT (m+15)).e (.meth (.var 0) .readChar [] []) (ck [] (i+9) (dA 92)) (hq (c::q) ln pb K)=some (.str (af [c]),hq q (bG ln c) pb K):=xM rfl (Fo c [] q ln pb K hl) rfl rfl (lT (m+4) ln pb K c q hl)
  have r2:ay TT (aa TT (m+15)) [.set 3 (.meth (.var 0) .readChar [] [])] (ck [] (i+9) (dA 92)) (hq (c::q) ln pb K)=some (.next,ck [] (i+9) (dA c),hq q (bG ln c) pb K):=bn (aA r1) rfl
  exact go 92 (c::q) _ (kZ 92 (by decide)) rfl (bn (aZ (b:=true) (H1:=hq (c::q) ln pb K) (tC (n:=m+14) (u:=.str (af [92])) (w:=.str (af [92])) rfl rfl rfl) r2) (e6 (bG ln c)))
 |false=>
  obtain⟨h1,h34,h92,h300⟩:=hc rfl
  exact go c q _ ((kZ c h300).trans h1) (nK h34) (bn (ρ':=ck [] (i+9) (dA c)) (H':=hq q ln pb K) (aZ (b:=false) (H1:=hq q ln pb K) (tC (n:=m+14) (u:=.str (af [c])) (w:=.str (af [92])) rfl rfl (congrArg some (nK h92))) rfl) (e6 ln))
theorem J1(e:Bool)(c:Nat)(w:List (Bool×Nat))(z:Nat)(q:List Nat)(hc:e=false->kY c=false/\c≠34/\c≠92/\c<300)(hw:∀ p∈w,p.1=false->kY p.2=false/\p.2≠92/\p.2<300)(hz:kY z=true)(hl:(bf w++z::q).length<900)(hk:w.length<800):(aa TT (m+20)).c 111 [.loc 7] [] (hq (bf ((e,c)::w)++z::q) ln [] K)=some (.str (af (c::w.map (·.2))),hq q (bG (ke ln ((e,c)::w)) z) [] (K++[bQ])):=by
 obtain⟨ρ',h⟩:=uv (m:=m+6) (o:=(aa TT (m+16)).b []) (LA (m+1) K.length) (pb:=[]) (kc K) z q w [c] (dA c) (bG ln c) 1000 hw hz (by simp;lia) (by lia) (by lia)
 have h':bo TT (aa TT (m+16)) (.one 3) ((aa TT (m+16)).b oI) ((aa TT (m+16)).b []) 1000 (.cit (K.length+9)) (ck [c] (K.length+9) (dA c)) (hq (bf w++z::q) (bG ln c) [] (K++[bQ]))=_:=h
 have hn:bf ((e,c)::w)++z::q=(if e then 92 else c)::(if e then c::(bf w++z::q) else(bf w++z::q)):=by
  cases e<;>rfl
 have hln:(if e then bG (bG ln 92) c else bG ln c)=bG ln c:=by cases e<;>rfl
 rw[hn]
 refine Ds (ρ':=ρ') (wn (k:=999) (gz (m:=m+8) (kc K) ?_) (je _ _ _ _) ?_)
 ·cases e
  ·show(bf w++z::q).length<1000;lia
  ·show(bf w++z::q).length+1<1000;lia
 ·refine(FB (m:=m) (kc K) hc (by lia)).trans ?_
  have:(if e=true then bG (bG ln (if e=true then 92 else c)) c else bG ln (if e=true then 92 else c))=bG ln c:=by cases e<;>rfl
  rw[this,h']
  rfl
end
end
section
theorem wR:∀(ls:List (List Nat)),WT (af []) (ls.map af)=af ls.flatten:=by
 intro ls
 show Builtin.Str.glued (af []) (ls.map af)=_
 rw[StrLaws.glued_eq_join]
 induction ls with
 |nil=>rfl
 |cons a l ih=>
  cases l with
  |nil=>simp[Str.join]
  |cons b l=>
   show af a++af []++Str.join (af []) ((b::l).map af)=_
   rw[ih,fE,fE,U8]
   rfl
theorem Dz(S:List Nat)(c:Nat):Yb (af S) (af [c])=decide (c∈S):=StrLaws.found_one (af S) c
noncomputable def aV(S wl:List Nat):List (Bool×Nat):=wl.zipIdx.map λp=>(decide (p.2=1)||decide (p.1∈S),p.1)
theorem dW(S wl:List Nat):(aV S wl).map (·.2)=wl:=by
 unfold aV
 rw[UX]
 exact List.zipIdx_map_fst 0 wl
theorem wc:∀ l:List (Bool×Nat),(l.map λp=>bf [p]).flatten=bf l
 | []=>rfl
 |p::l=>by
  rw[Vc,List.flatten_cons,wc l]
  show((if p.1 then[92,p.2] else[p.2])++[])++bf l=_
  rw[U8];rfl
theorem kM:∀ l:List (Bool×Nat),(bf l).length<=2*l.length
 | []=>V4 _
 |(e,c)::l=>by
  have:=kM l
  show((if e then[92,c] else[c])++bf l).length<=_
  rw[UM,UU]
  cases e<;>simp<;>lia
theorem vj{H:AH}(a b:List Nat)(h:a.length+b.length<=1000):bp H .Add (.str (af a)) (.str (af b))=some (.str (af (a++b))):=(n0 (UH h (by decide))).trans (congrArg (λs=>some (AV.str s)) (fE a b))
theorem Tq{r:R}{a b:IE}{ρ:ae}{H:AH}{x y:Bool}(h1:r.t a ρ H=some (x,H))(h2:r.t b ρ H=some (y,H)):ej r [a,b] ρ H=some (x||y,H):=by
 unfold ej
 rw[h1]
 cases x
 ·unfold ej
  show ah (r.t b ρ H) _=_
  rw[h2]
  cases y<;>rfl
 ·rfl
theorem PF(m:Nat)(S:List Nat)(t c:Nat)(a b d:Option AV)(H:AH):(aa TT (m+8)).e vC [a,b,some (.str (af S)),d,some (.int t),some (.str (af [c]))] H=some (.str (af (bf [(decide (t=1)||decide (c∈S),c)])),H):=by
 have t1:(aa TT (m+6)).t (.cmp .Eq (.var 4) (ac 1)) [a,b,some (.str (af S)),d,some (.int t),some (.str (af [c]))] H=some (decide (t=1),H):=tC (op:=.Eq) (a:=.var 4) (n:=m+4) (u:=.int t) (w:=.int 1) rfl rfl (congrArg some (decide_eq_decide.mpr (by lia)))
 have t2:(aa TT (m+6)).t (.cmp .In (.var 5) (.var 2)) [a,b,some (.str (af S)),d,some (.int t),some (.str (af [c]))] H=some (decide (c∈S),H):=tC (op:=.In) (a:=.var 5) (b:=.var 2) (n:=m+4) (u:=.str (af [c])) (w:=.str (af S)) rfl rfl (congrArg some (Dz S c))
 refine ix (n:=m+7) (t:=decide (t=1)||decide (c∈S)) (H1:=H) (Tq (r:=aa TT (m+6)) t1 t2) ?_
 cases decide (t=1)||decide (c∈S)
 ·rfl
 ·exact xB (n:=m+6) (u:=.str (af [92])) (w:=.str (af [c])) rfl rfl (vj [92] [c] (show 2<=1000 by decide))
def Ux(S:List Nat):AV->List AV
 | .tup [.int t,.str c]=>[.str (af (bf [(decide (t.toNat=1)||decide (c.cps.toList.headD 0∈S),c.cps.toList.headD 0)]))]
 |_=>[]
theorem yz(m:Nat)(S wl:List Nat)(b d:Option AV)(H:AH)(hl:wl.length<=100):ao TT (aa TT (m+8)) vC [.mk (.many [4,5]) (.call (cz "enumerate") [(.var 0)] []) []] [some (.str (af wl)),b,some (.str (af S)),d] H=some (ag ((aV S wl).map λp=>af (bf [p])),H):=by
 have hs:(fH (af wl)).length<=1000000:=by rw[kj,UC];lia
 refine(qR (g:=Ux S) (EE (s:=af wl) rfl hs) λv hv=>?_).trans ?_
 ·rw[jw,kj] at hv
  obtain⟨⟨p1,p2⟩,hp,rfl⟩:=UY.mp hv
  obtain⟨c,_,rfl⟩:=UY.mp (Zx (Xh▸hp)).1
  exact gY (t:=.many [4,5]) (ifs:=[]) rfl rfl (PF m S p2 c (some (.str (af wl))) b d H)
 ·rw[jw,kj]
  unfold aV ag
  rw[Zw,UX,UX,UX,Zj]
  congr 2
  exact lG (λp:Nat×Nat=>AV.str (af (bf [(decide (p.2=1)||decide (p.1∈S),p.1)]))) _
noncomputable def eE(wh:List Nat):List Nat:=if wh=[] then[34,92] else[32,10,9,13,34,92]
def eQ(wl wh:List Nat):List Nat:=if wh=[] then 34::(bf (aV (eE wh) wl)++[34]) else bf (aV (eE wh) wl)++wh
theorem yW(m:Nat)(wl wh:List Nat)(H:AH)(hl:wl.length<=100)(hw:wh.length<=1):(aa TT (m+13)).c 315 [.str (af wl),.str (af wh)] [] H=some (.str (af (eQ wl wh)),H):=by
 have il:∀ S,(aV S wl).length=wl.length:=λS=>by have:=congrArg Yq (dW S wl);rw[UC] at this;exact this
 have el:∀ S,(bf (aV S wl)).length<=200:=λS=>by have:=kM (aV S wl);rw[il] at this;lia
 have j1:∀ S,i6 (af []) .join [.lst (ag ((aV S wl).map λp=>af (bf [p])))] H=some (.str (af (bf (aV S wl)))):=λS=>by
  have hh:(((aV S wl).map λp=>af (bf [p])).map WD).sum<=wl.length*2:=by
   have:=nS WD 2 ((aV S wl).map λp=>af (bf [p])) (λx hx=>by
    obtain⟨p,_,rfl⟩:=UY.mp hx
    rw[bS];exact kM [p])
   rw[UC,il] at this;exact this
  rw[vv (show au H (.lst _)= .lst _ from rfl) (fX _) (by rw[bS];simp only[V2,Nat.mul_zero];lia)]
  have:=wR ((aV S wl).map λp=>bf [p])
  rw[wc,UX] at this
  exact congrArg (λx=>some (AV.str x)) this
 have hcl:∀ S,(ag ((aV S wl).map λp=>af (bf [p]))).length<=1000000:=λS=>by unfold ag;rw[UC,UC,il];lia
 have e1:∀ S b,(aa TT (m+11)).e (.meth (.con (.str (UO #[]))) .join [(.comp false vC [(.mk (.many [4,5]) (.call (cz "enumerate") [(.var 0)] []) [])])] []) [some (.str (af wl)),b,some (.str (af S)),none] H=some (.str (af (bf (aV S wl))),H):=λS b=>
  sM rfl (ba (vD (yz (m+1) S wl b none H hl) (hcl S))) (j1 S) rfl
 have e0:∀(n:Nat) ρ,ρ[1]? =some (some (AV.str (af wh)))->(aa TT (n+3)).t (.cmp .Eq (.var 1) (.con (.str (UO #[])))) ρ H=some (decide (wh=[]),H):=λn ρ h=>tC (n:=n+1) (u:=.str (af wh)) (w:=.str (af [])) (congrArg (λx=>ob (ob x id) λv=>some (v,H)) h) rfl (congrArg some (decide_eq_decide.mpr xc))
 have e2:(aa TT (m+11)).e (.ite (.cmp .Eq (.var 1) (.con (.str (UO #[])))) (.con (.str (UO #[34,92]))) (.con (.str (UO #[32,10,9,13,34,92])))) [some (.str (af wl)),some (.str (af wh)),none,none] H=some (.str (af (eE wh)),H):=ix (n:=m+10) (e0 (m+7) _ rfl) (by
  unfold eE
  by_cases h:wh=[]
  ·rw[if_pos h,decide_eq_true h];rfl
  ·rw[if_neg h,decide_eq_false h];rfl)
 have e3:(aa TT (m+11)).e (.ite (.cmp .Eq (.var 1) (.con (.str (UO #[])))) (.bin .Add (.bin .Add (.con (.str (UO #[34]))) (.var 3)) (.con (.str (UO #[34])))) (.bin .Add (.var 3) (.var 1))) [some (.str (af wl)),some (.str (af wh)),some (.str (af (eE wh))),some (.str (af (bf (aV (eE wh) wl))))] H=some (.str (af (eQ wl wh)),H):=ix (n:=m+10) (e0 (m+7) _ rfl) (by
  have hl:=el (eE wh)
  unfold eQ
  by_cases h:wh=[]
  ·rw[if_pos h,decide_eq_true h]
   exact xB (n:=m+9) (w:=.str (af [34])) (xB (n:=m+8) (u:=.str (af [34])) (w:=.str (af (bf (aV (eE wh) wl)))) rfl rfl (vj _ _ (by simp;lia))) rfl (vj _ _ (by simp;lia))
  ·rw[if_neg h,decide_eq_false h]
   exact xB (n:=m+9) (u:=.str (af (bf (aV (eE wh) wl)))) (w:=.str (af wh)) rfl rfl (vj _ _ (by lia)))
 exact fr (g:=j5) (ρ:=[some (.str (af wl)),some (.str (af wh)),none,none]) rfl rfl (n:=m+11) (bn (aA e2) (bn (aA (e1 _ _)) (br (cB e3))))
end
section
theorem DV(m:Nat)(l:List Nat)(hl:l.length<=1000):(aa TT (m+16)).c 320 [.str (af l)] [] [.tab 0,.tab 1]=some (.loc 7,hq l 1 [] []):=by
 refine pd (n:=m+15) (g:=mc) (ρ:=[some (.str (af l)),none,none]) rfl rfl ?_
 show ky ((aa TT (m+15)).b jr _ _)=_
 have e1:ao TT (aa TT (m+13)) (.var 3) [(.mk (.one 3) (.var 0) [])] [some (.str (af l)),none,none] [.tab 0,.tab 1]=some (oT l,[.tab 0,.tab 1]):=by
  refine(gI (g:=λv=>[v]) (l:=oT l) rfl λv hv=>?_).trans ?_
  ·exact gY (t:=.one 3) (ifs:=[]) rfl rfl rfl
  ·rw[lG (λv=>v),List.map_id']
 have hf:aW (oT l).length=true:=ic (by unfold oT;rw[UC];lia)
 have e2:bW TT (aa TT (m+13)) (.comp true (.var 3) [(.mk (.one 3) (.var 0) [])]) [some (.str (af l)),none,none] [.tab 0,.tab 1]=some (.loc 2,[.tab 0,.tab 1,.list (oT l)]):=by
  exact(congrArg (ah · λ(vs:List AV) (H:AH)=>aw (aW vs.length) (some (kf true vs H))) e1).trans (congrArg (aw · _) hf)
 rw[Um]
 unfold jr
 rw[vX,Pf,Un,e2]
 kernel_rfl
end
section
theorem vq(k n:Nat):kms_lo (some (k:Int)) n=min k n/\kms_hi (some (k:Int)) n=min k n:=by
 unfold kms_lo kms_hi
 dsimp only
 rw[if_neg (by lia),VP]
 exact⟨rfl,rfl⟩
theorem LF{α:Type}(l:List α)(k:Nat):cutL l none (some (k:Int))=l.take k:=by
 unfold cutL
 rw[(vq k l.length).2]
 show(l.drop 0).take (min k l.length-0)=_
 rw[Wh,Nat.sub_zero,<-List.take_eq_take_min]
theorem v7{α:Type}(l:List α)(k:Nat):cutL l (some (k:Int)) none=l.drop k:=by
 unfold cutL
 rw[(vq k l.length).1]
 show(l.drop (min k l.length)).take (l.length-min k l.length)=_
 rw[List.take_of_length_le (by rw[XG];lia)]
 by_cases h:k<=l.length
 ·rw[Yd h]
 ·rw[Nat.min_eq_right (by lia),Ww (V4 _),Ww (by lia)]
theorem ir{r:List Nat}{k:Nat}{H:AH}(hl:r.length<=1000):eU false (.str (af r)) none (some (k:Int)) H=some (.str (af (r.take k)),H):=(ol (n:=(af r).length) (UH (Vv (bS r)) (UH hl (by decide)))).trans (congrArg (λl=>some (AV.str (af l),H)) (LF r k))
theorem Cz{r:List Nat}{k:Nat}{H:AH}(hl:r.length<=1000):eU false (.str (af r)) (some (k:Int)) none H=some (.str (af (r.drop k)),H):=(ol (n:=(af r).length) (UH (Vv (bS r)) (UH hl (by decide)))).trans (congrArg (λl=>some (AV.str (af l),H)) (v7 r k))
def oE(r:List Nat):Option Int:=exactTab.lookup (af r)
def j3(r:List Nat):Bool:=(oE r).isSome
def lh(r:List Nat):Nat:=if j3 (r.take 3) then 3 else if j3 (r.take 2) then 2 else 1
def LE:IE:=.sub (.bin .Add (.comp false (.var 4) [(.mk (.one 4) (.list false [(ac 3),(ac 2)]) [v6])]) (.list false [(ac 1)])) (ac 0)
def Bw:List IS:=[.set 3 LE,Fd,.set 0 (.slice false (.var 0) (some (.var 3)) none)]
section
variable (m:Nat)(r nm:List Nat)(n:Nat)(x:Option AV)(H:AH)
abbrev ju:ae:=[some (.str (af r)),some (.str (af nm)),some (.loc n),x]
theorem P5(k:Nat)(hl:r.length<=1000):(aa TT (m+6)).t v6 [some (.str (af r)),some (.str (af nm)),some (.loc n),x,some (.int (k:Int))] H=some (j3 (r.take k),H):=tC (op:=.In) (a:=.slice false (.var 0) none (some (.var 4))) (n:=m+4) (w:=.g (.ref 126)) (ir hl) rfl rfl
def Fc:AV->List AV
 | .int k=>bif j3 (r.take k.toNat) then[.int k] else[]
 |_=>[]
theorem zc(k:Nat)(hl:r.length<=1000):bJ (aa TT (m+6)) (.one 4) [v6] (λρ H=>ao TT (aa TT (m+6)) (.var 4) [] ρ H) (.int (k:Int)) [some (.str (af r)),some (.str (af nm)),some (.loc n),x,none] H=some (Fc r (.int (k:Int)),H):=by
 have t:=P5 m r nm n x H k hl
 show _=some ((bif j3 (r.take k) then[AV.int k] else[]),H)
 cases h:j3 (r.take k)<;>rw[h] at t
 ·exact v5 rfl (fJ t)
 ·exact gY rfl (fJ t) rfl
theorem Ff(hl:r.length<=1000):(aa TT (m+9)).e LE (ju r nm n x) H=some (.int (lh r:Nat),H):=by
 have e1:=gI (T:=TT) (r:=aa TT (m+6)) (elt:=.var 4) (it:=.list false [(ac 3),(ac 2)]) (t:=.one 4) (ifs:=[v6]) (l:=[.int 3,.int 2]) (ρ:=ju r nm n x) (H:=H) (H1:=H) (g:=Fc r) rfl λv hv=>by
  rcases U0.mp hv with rfl|hv
  ·exact zc m r nm n x H 3 hl
  ·rw[US.mp hv];exact zc m r nm n x H 2 hl
 have e2:[AV.int 3,.int 2].flatMap (Fc r)=(bif j3 (r.take 3) then[AV.int 3] else[])++((bif j3 (r.take 2) then[AV.int 2] else[])++[]):=rfl
 rw[e2] at e1
 unfold lh
 cases h3:j3 (r.take 3)<;>cases h2:j3 (r.take 2)<;>rw[h3,h2] at e1
 all_goals exact bF (n:=m+8) (xB (n:=m+7) (op:=.Add) (b:=.list false [(ac 1)]) (w:=.lst [.int 1]) (vD e1 (by decide)) rfl (ga rfl rfl (by decide))) (i:=.con (.int 0)) rfl rfl
noncomputable def O8(nm p:List Nat)(v:Int):Prop:=oE p=some v∨(oE p=none/\Yb (af nm) (af p)=true/\∃ i:Int,nl (af nm) (af p)=some (.int i)/\v=256+i)
theorem Da(row:List AV)(k:Nat)(v:Int)(hl:r.length<=1000)(hn:H[n]? =some (.list row))(hr:row.length<=1000)(hv:O8 nm (r.take k) v):am TT (aa TT (m+9)) Fd (ju r nm n (some (.int k))) H=some (.next,ju r nm n (some (.int k)),H.set n (.list (row++[.int v]))):=by
 have hr':row.length<=1000000:=UH hr (by decide)
 rcases hv with hv|⟨hv,hc,i,hi,rfl⟩
 ·exact aZ (b:=true) (H1:=H) (tC (n:=m+7) (ir hl) rfl (show some (oE (r.take k)).isSome=some true by rw[hv];rfl)) (show ay TT (aa TT (m+8)) _ _ _=_ from dz (iq (xM (n:=m+7) rfl (lS hn) (ba (bF (n:=m+6) rfl (ir hl) (show(oE (r.take k)).map AV.int=some (.int v) by rw[hv];rfl))) rfl (lD hn hr'))))
 ·exact aZ (b:=false) (H1:=H) (tC (n:=m+7) (ir hl) rfl (show some (oE (r.take k)).isSome=some false by rw[hv];rfl)) (show ay TT (aa TT (m+8)) _ _ _=_ from dz (aZ (b:=true) (H1:=H) (tC (n:=m+6) (ir hl) rfl (congrArg some hc)) (show ay TT (aa TT (m+7)) _ _ _=_ from dz (iq (xM (n:=m+6) rfl (lS hn) (ba (xB (n:=m+5) (u:=.int 256) (w:=.int i) rfl (sM (n:=m+4) rfl (ba (ir hl)) hi rfl) rfl)) rfl (lD hn hr'))))))
theorem Fg(row:List AV)(v:Int)(hl:r.length<=1000)(hn:H[n]? =some (.list row))(hr:row.length<=1000)(hv:O8 nm (r.take (lh r)) v):(aa TT (m+11)).b Bw (ju r nm n x) H=some (.next,ju (r.drop (lh r)) nm n (some (.int (lh r:Nat))),H.set n (.list (row++[.int v]))):=by
 exact show ay TT (aa TT (m+10)) Bw _ _=_ from bn (aA (Ff (m+1) r nm n x H hl)) (bn (Da (m+1) r nm n H row (lh r) v hl hn hr hv) (bn (aA (Cz hl)) rfl))
end
inductive jo(nm:List Nat):List Nat->List Int->Prop
 |nil:jo nm [] []
 |cons {r:List Nat} {v:Int} {vs:List Int}:r≠[]->O8 nm (r.take (lh r)) v->jo nm (r.drop (lh r)) vs->jo nm r (v::vs)
theorem Fe(m:Nat)(nm:List Nat)(n:Nat){r:List Nat}{vs:List Int}(hc:jo nm r vs):∀(row:List AV) (x:Option AV) (H:AH) (k:Nat),r.length<=1000->row.length+vs.length<=1000->vs.length<k->H[n]? =some (.list row)->
  ∃ x',cL ((aa TT (m+11)).t (.cmp .NotEq (.var 0) (.con (.str (UO #[]))))) ((aa TT (m+11)).b Bw) k (ju r nm n x) H=some (.next,ju [] nm n x',H.set n (.list (row++vs.map AV.int))):=by
 induction hc with
 |nil=>
  intro row x H k _ _ hk hn
  obtain⟨k,rfl⟩:∃ j,k=j+1:=⟨k-1,by simp at hk;lia⟩
  refine⟨x,(lX (H':=H) ?_).trans ?_⟩
  ·exact tC (n:=m+9) rfl rfl rfl
  ·rw[XZ,U8]
   have:H.set n (.list row)=H:=by
    obtain⟨h1,h2⟩:=List.getElem?_eq_some_iff.mp hn
    rw[<-h2,List.set_getElem_self]
   rw[this]
 | @cons r v vs h1 h2 h3 ih=>
  intro row x H k hl hr hk hn
  obtain⟨k,rfl⟩:∃ j,k=j+1:=⟨k-1,by simp at hk;lia⟩
  rw[UU] at hr hk
  have hn':(H.set n (.list (row++[.int v])))[n]? =some (.list (row++[.int v])):=by
   rw[List.getElem?_set_self (List.getElem?_eq_some_iff.mp hn).1]
  obtain⟨x',e⟩:=ih (row++[.int v]) (some (.int (lh r:Nat))) (H.set n (.list (row++[.int v]))) k (by rw[XG];lia) (by simp;lia) (by lia) hn'
  refine⟨x',(lr (H':=H) ?_ (Fg m r nm n x H row v hl hn (by lia) h2)).trans (e.trans ?_)⟩
  ·exact tC (n:=m+9) (u:=.str (af r)) (w:=.str (af [])) rfl rfl ((qH _ _).trans (congrArg (λb=>some !b) (Jd _ _ h1)))
  ·rw[Y6,Vc,U3];rfl
theorem JL(m:Nat)(nm r:List Nat)(vs:List Int)(H:AH)(hc:jo nm r vs)(hl:r.length<=900)(hv:vs.length<=900):(aa TT (m+13)).c 325 [.str (af r),.str (af nm)] [] H=some (.lst (vs.map AV.int++[.int 0]),H++[.list (vs.map AV.int)]):=by
 obtain⟨x',e⟩:=Fe m nm H.length hc [] none (H++[.list []]) 1000 (by lia) (by simp;lia) (by lia) (by rw[dU];rfl)
 rw[gT,Zy] at e
 have t1:am TT (aa TT (m+11)) (.wh (.cmp .NotEq (.var 0) (.con (.str (UO #[])))) Bw) (ju r nm H.length none) (H++[.list []])=_:=CF.trans e
 have t2:(aa TT (m+11)).e (.bin .Add (.var 2) (.list false [(ac 0)])) (ju [] nm H.length x') (H++[.list (vs.map AV.int)])=some (.lst (vs.map AV.int++[.int 0]),H++[.list (vs.map AV.int)]):=xB (n:=m+10) (w:=.lst [.int 0]) rfl rfl (ga (Bx (by rw[dU];rfl)) rfl (by rw[UC];simp;lia))
 exact fr (n:=m+11) (g:=oF) (ρ:=[some (.str (af r)),some (.str (af nm)),none,none]) rfl rfl (bn (ρ':=ju r nm H.length none) (H':=H++[AO.list []]) (aA (v:=.loc H.length) rfl) (bn t1 (br (cB t2))))
end
section
noncomputable def gt:List (List Nat):=[[40],[41],[91],[93],[58],[44],[59],[43],[45],[42],[47],[124],[38],[60],[62],[61],[46],[37],[123],[125],[61,61],[33,61],[60,61],[62,61],[126],[94],[60,60],[62,62],[42,42],[43,61],[45,61],[42,61],[47,61],[37,61],[38,61],[124,61],[94,61],[60,60,61],[62,62,61],[42,42,61],[47,47],[47,47,61],[64],[64,61],[45,62],[46,46,46],[58,61],[33]]
def gA(k:Nat):List Nat:=gt.getD k []
noncomputable def O4:Str:=UO #[40,32,41,32,91,32,93,32,58,32,44,32,59,32,43,32,45,32,42,32,47,32,124,32,38,32,60,32,62,32,61,32,46,32,37,32,123,32,125,32,61,61,32,33,61,32,60,61,32,62,61,32,126,32,94,32,60,60,32,62,62,32,42,42,32,43,61,32,45,61,32,42,61,32,47,61,32,37,61,32,38,61,32,124,61,32,94,61,32,60,60,61,32,62,62,61,32,42,42,61,32,47,47,32,47,47,61,32,64,32,64,61,32,45,62,32,46,46,46,32,58,61,32,33]
theorem El:YQ O4 (UO #[32])=gt.map af:=by decide +kernel
theorem KU(m:Nat)(H:AH):(aa TT (m+5)).c 293 [] [] H=some (.lst (ag (gt.map af)),H):=by
 have e1:=D2 (s:=O4) (t:=UO #[32]) (H:=H) (by decide) (by decide +kernel)
 rw[El] at e1
 exact fr (n:=m+3) (g:=i8) rfl rfl (br (cB (sM (n:=m+2) rfl (ba rfl) e1 rfl)))
noncomputable def cA:List Nat:=[34,92,35,63,36,95,32,10]
theorem Ko:exactTab.all (λp=>p.1.cps.toList.all λc=>!cA.contains c)=true:=by decide +kernel
theorem zj{p:List Nat}{c:Nat}(hc:c∈p)(hr:c∈cA):oE p=none:=by
 unfold oE
 cases e:exactTab.lookup (af p) with
 |none=>rfl
 |some v=>
  exfalso
  have:∀ l:List (Str×Int),l.lookup (af p)=some v->∃ q∈l,q.1=af p:=by
   intro l
   induction l with
   |nil=>intro h;cases h
   |cons q l ih=>
    intro h
    rw[XF] at h
    cases hq:af p==q.1 with
    |true=>exact⟨q,.head _,(beq_iff_eq.mp hq).symm⟩
    |false=>
     rw[hq] at h
     obtain⟨y,h1,h2⟩:=ih h
     exact⟨y,.tail _ h1,h2⟩
  obtain⟨q,h1,h2⟩:=this _ e
  have h3:=UP.mp (UP.mp Ko q h1) c (by rw[h2];exact hc)
  have h4:cA.contains c=true:=by simpa using hr
  rw[h4] at h3
  cases h3
theorem O6:(UD 48).all (λk=>WL 1 (gA k).length&&WL (gA k).length 3&&decide (oE (gA k)=some (7+(k:Int))))=true:=by decide +kernel
theorem Cs{k:Nat}(h:k<48): 1<=(gA k).length/\(gA k).length<=3/\oE (gA k)=some (7+(k:Int)):=by
 have:=UP.mp O6 k (UR.mpr h)
 simp only[U6,decide_eq_true_eq] at this
 exact⟨UG this.1.1,UG this.1.2,this.2⟩
theorem jx{p:List Nat}{c:Nat}(hc:c∈p)(hr:c∈cA):j3 p=false:=by unfold j3;rw[zj hc hr];rfl
theorem tW{nm r:List Nat}{a:Nat}{i:Int}{vs:List Int}(ha:a∈cA)(hm:a∈nm)(hi:nl (af nm) (af [a])=some (.int i))(h:jo nm r vs):jo nm (a::r) ((256+i)::vs):=by
 have hp:lh (a::r)=1:=by
  unfold lh
  rw[jx (p:=(a::r).take 3) (YK ..) ha,jx (p:=(a::r).take 2) (YK ..) ha]
  rfl
 refine .cons (by simp) ?_ ?_
 ·rw[hp]
  exact .inr ⟨zj (c:=a) (.head _) ha,by rw[show(a::r).take 1=[a] from rfl,Dz];exact decide_eq_true hm,i,hi,rfl⟩
 ·rw[hp];exact h
theorem JM{nm r:List Nat}{b k:Nat}{vs:List Int}(hb:b∈cA)(hk:k<48)(h:jo nm (b::r) vs):jo nm (gA k++b::r) ((7+(k:Int))::vs):=by
 obtain⟨h1,h3,he⟩:=Cs hk
 have hx:j3 (gA k)=true:=by unfold j3;rw[he];rfl
 have hp:lh (gA k++b::r)=(gA k).length:=by
  revert h1 h3 hx
  generalize gA k=o
  intro h1 h3 hx
  unfold lh
  match o,h1,h3 with
  | [c],_,_=>
   rw[jx (p:=([c]++b::r).take 3) (c:=b) (by simp) hb,jx (p:=([c]++b::r).take 2) (c:=b) (by simp) hb]
   rfl
  | [c,d],_,_=>
   rw[jx (p:=([c,d]++b::r).take 3) (c:=b) (by simp) hb,show([c,d]++b::r).take 2=[c,d] from rfl,hx]
   rfl
  | [c,d,e],_,_=>
   rw[show([c,d,e]++b::r).take 3=[c,d,e] from rfl,hx]
   rfl
 refine .cons (by simp) ?_ ?_
 ·rw[hp,List.take_left]
  exact .inl he
 ·rw[hp,List.drop_left]
  exact h
structure fR where
 a:Nat
 k:Nat
 b:Nat
structure Nm(nm:List Nat):Prop where
 len:nm.length=5
 ring:∀ c∈nm,c∈cA
 idx:∀ i<5,nl (af nm) (af [nm.getD i 0])=some (.int i)
def eF(nm:List Nat)(t:fR):List Nat:=nm.getD t.a 0::(gA t.k++[nm.getD t.b 0])
noncomputable def eP(t:fR):List Int:=[256+(t.a:Int),7+(t.k:Int),256+(t.b:Int)]
noncomputable def fR.Ok(t:fR):Prop:=t.a<5/\t.k<48/\t.b<5
theorem Nm.mem{nm:List Nat}(h:Nm nm){i:Nat}(hi:i<5):nm.getD i 0∈nm:=by
 have:i<nm.length:=by rw[h.len];exact hi
 rw[List.getD_eq_getElem?_getD,List.getElem?_eq_getElem this]
 exact XH this
theorem tX{nm:List Nat}(h:Nm nm):∀ ts:List fR,(∀ t∈ts,t.Ok)->jo nm (ts.flatMap (eF nm)) (ts.flatMap eP)
 | [],_=>.nil
 |t::ts,ht=>by
  obtain⟨h1,h2,h3⟩:=ht t (.head _)
  have ih:=tX h ts λt hq=>ht t (.tail _ hq)
  rw[WN,WN]
  show jo nm (nm.getD t.a 0::(gA t.k++[nm.getD t.b 0])++_) _
  rw[List.cons_append,U3]
  exact tW (h.ring _ (h.mem h1)) (h.mem h1) (h.idx _ h1) (JM (h.ring _ (h.mem h3)) h2 (tW (h.ring _ (h.mem h3)) (h.mem h3) (h.idx _ h3) ih))
def gP(w:Nat):List Nat:=((cA++cA).drop w).take 5
theorem KI:(UD 8).all (λw=>decide ((gP w).length=5)&&(gP w).all (λc=>cA.contains c)&&(UD 5).all λi=>match nl (af (gP w)) (af [(gP w).getD i 0]) with|some (.int j)=>decide (j=(i:Int))|_=>false)=true:=by decide +kernel
theorem Qw{w:Nat}(h:w<8):Nm (gP w):=by
 have:=UP.mp KI w (UR.mpr h)
 simp only[U6,decide_eq_true_eq] at this
 obtain⟨⟨h1,h2⟩,h3⟩:=this
 refine⟨h1,λc hc=>by simpa using UP.mp h2 c hc,λi hi=>?_⟩
 have:=UP.mp h3 i (UR.mpr hi)
 split at this
 ·rename_i j e
  rw[e,of_decide_eq_true this]
 ·cases this
end
section
theorem Kl(m:Nat)(x:Int)(H:AH):(aa TT (m+4)).c 135 [.int x] [] H=some (.bool (decide (x<256)),H):=by
 exact fr (n:=m+2) (g:=l7) rfl rfl (br (cB rfl))
theorem Kk(m:Nat)(x:Int)(H:AH):(aa TT (m+4)).c 142 [.int x] [] H=some (.bool (decide (256<=x)),H):=by
 exact fr (n:=m+2) (g:=jy) rfl rfl (br (cB rfl))
theorem zE(m:Nat)(x:Int)(H:AH):(aa TT (m+4)).c 149 [.int x] [] H=some (.bool (decide (x=0)),H):=by
 exact fr (n:=m+2) (g:=wi) rfl rfl (br (cB rfl))
theorem uV{xs:List AV}{k:Nat}{H:AH}(hl:xs.length<=1000):eU false (.lst xs) (some (k:Int)) none H=some (.lst (xs.drop k),H):=by
 simp only[eU,ic (show xs.length<=1000000 by lia),v7];rfl
noncomputable def bh(p:Nat×Nat):AV:=.tup [.int p.1,.int p.2]
noncomputable def nr(K0:Nat)(t:fR):Nat×Nat:=if t.k=K0 then(t.a,t.b) else(t.b,t.a)
def cg(ts:List fR):List AV:=(ts.flatMap eP).map AV.int++[.int 0]
theorem Ey(t:fR)(ts:List fR):cg (t::ts)= .int (256+(t.a:Int))::.int (7+(t.k:Int))::.int (256+(t.b:Int))::cg ts:=rfl
theorem jR:∀ ts:List fR,(cg ts).length=3*ts.length+1
 | []=>rfl
 |t::ts=>by rw[Ey,UU,UU,UU,jR ts,UU];lia
abbrev ur(row:List AV)(K0 K1:Nat)(n:Nat):ae:=[some (.lst row),some (.lst [.int (7+(K0:Int)),.int (7+(K1:Int))]),some (.loc n)]
theorem Km(m K0 K1 n:Nat)(t:fR)(ts:List fR)(L:List AV)(H:AH)(hl:ts.length<=100)(hn:H[n]? =some (.list L))(hL:L.length<=1000):(aa TT (m+9)).b DG (ur (cg (t::ts)) K0 K1 n) H=some (.next,ur (cg ts) K0 K1 n,H.set n (.list (L++[bh (nr K0 t)]))):=by
 have s4:∀ H,eU false (.lst (cg (t::ts))) (some 3) none H=some (.lst (cg ts),H):=λH=>uV (k:=3) (by rw[jR,UU];lia)
 have a (x:Nat):some (AV.int ((256+(x:Int))-256))=some (.int x):=congrArg (λx=>some (AV.int x)) (by lia)
 have c1:((7+(t.k:Int))=7+(K0:Int))↔t.k=K0:=by lia
 refine show ay TT (aa TT (m+8)) DG _ _=_ from bn (iq (xM (n:=m+7) rfl (lS hn) (ba (ix (n:=m+6) (t:=decide (7+(t.k:Int)=7+(K0:Int))) (H1:=H) (x:=some (bh (nr K0 t),H)) (tC (n:=m+4) rfl rfl rfl) ?_)) rfl (lD hn (UH hL (by decide))))) (bn (aA (s4 _)) rfl)
 unfold nr
 by_cases h:t.k=K0
 ·rw[decide_eq_true (c1.mpr h),if_pos h]
  exact qn (n:=m+5) (eB (xB (n:=m+4) (u:=.int (256+t.a)) (w:=.int 256) rfl rfl (a _)) (xB (n:=m+4) (u:=.int (256+t.b)) (w:=.int 256) rfl rfl (a _)))
 ·rw[decide_eq_false (λq=>h (c1.mp q)),if_neg h]
  exact qn (n:=m+5) (eB (xB (n:=m+4) (u:=.int (256+t.b)) (w:=.int 256) rfl rfl (a _)) (xB (n:=m+4) (u:=.int (256+t.a)) (w:=.int 256) rfl rfl (a _)))
theorem zI(m:Nat)(x:Int)(row:List AV)(K0 K1 n:Nat)(H:AH):(aa TT (m+9)).t I9 (ur (.int x::row) K0 K1 n) H=some (!decide (x=0),H):=
 have e:(aa TT (m+8)).t (.call (aY "ISEOF" 149) [(.sub (.var 0) (ac 0))] []) (ur (.int x::row) K0 K1 n) H=some (decide (x=0),H):=tE (n:=m+7) (xF rfl (ba rfl) (zE (m+2) x H)) rfl rfl
 congrArg (ah · λb H=>some (!b,H)) e
theorem zH(m K0 K1 n:Nat):∀(ts:List fR) (L:List AV) (H:AH) (k:Nat),ts.length<=100->L.length+ts.length<=900->ts.length<k->H[n]? =some (.list L)->
  cL ((aa TT (m+9)).t I9) ((aa TT (m+9)).b DG) k (ur (cg ts) K0 K1 n) H=some (.next,ur (cg []) K0 K1 n,H.set n (.list (L++ts.map λt=>bh (nr K0 t))))
 | [],L,H,k,hl,hL,hk,hn=>by
  obtain⟨k,rfl⟩:∃ j,k=j+1:=⟨k-1,by simp at hk;lia⟩
  refine(lX (H':=H) (zI m 0 [] K0 K1 n H)).trans ?_
  ·rw[XZ,U8]
   obtain⟨h1,h2⟩:=List.getElem?_eq_some_iff.mp hn
   rw[<-h2,List.set_getElem_self];rfl
 |t::ts,L,H,k,hl,hL,hk,hn=>by
  obtain⟨k,rfl⟩:∃ j,k=j+1:=⟨k-1,by simp at hk;lia⟩
  rw[UU] at hl hL hk
  have d0:decide (256+(t.a:Int)=0)=false:=decide_eq_false (by lia)
  have hn':(H.set n (.list (L++[bh (nr K0 t)])))[n]? =some (.list (L++[bh (nr K0 t)])):=by
   rw[List.getElem?_set_self (List.getElem?_eq_some_iff.mp hn).1]
  refine(lr (H':=H) ((zI m _ _ K0 K1 n H).trans (by rw[d0];rfl)) (Km m K0 K1 n t ts L H (by lia) hn (by lia))).trans ((zH m K0 K1 n ts _ _ k (by lia) (by simp;lia) (by lia) hn').trans ?_)
  ·rw[Y6,Vc,U3];rfl
theorem DH(m K0 K1:Nat)(ts:List fR)(H:AH)(hl:ts.length<=100):(aa TT (m+11)).c 332 [.lst (cg ts),.lst [.int (7+(K0:Int)),.int (7+(K1:Int))]] [] H=some (.loc H.length,H++[.list (ts.map λt=>bh (nr K0 t))]):=by
 have e:=zH m K0 K1 H.length ts [] (H++[.list []]) 1000 hl (by simp;lia) (by lia) (by rw[dU];rfl)
 rw[gT] at e
 have t:am TT (aa TT (m+9)) (.wh I9 DG) (ur (cg ts) K0 K1 H.length) (H++[.list []])=_:=CF.trans e
 exact fr (n:=m+9) (g:=l9) (ρ:=[some (.lst (cg ts)),some (.lst [.int (7+(K0:Int)),.int (7+(K1:Int))]),none]) rfl rfl (bn (ρ':=ur (cg ts) K0 K1 H.length) (H':=H++[AO.list []]) (aA (v:=.loc H.length) rfl) (bn t (br (cB rfl))))
end
section
def dN(F:Nat)(G:Int)(i:Nat):Str:=if((i:Int)+G).fmod 2=0 then bv (F+i) else aH (F+i)
theorem rK{p:Nat}(h:p<54): 2^p<64^9:=by
 have:(64:Nat)^9=2^54:=by decide
 rw[this];exact W0 (by decide) h
theorem w6(f:Nat->AV):((UD 5).map f).length<=1000000:=UH (Vv (UC _)) (UH i4 (by decide))
def Uq(F:Nat)(G:Int):AV->List AV
 | .tup [.int t,_]=>[.str (dN F G t.toNat)]
 |_=>[]
theorem D8(m F:Nat)(G:Int)(H:AH)(hF:F<32):(aa TT (m+18)).c 337 [.int F,.int G] [] H=some (.lst ((UD 5).map λi=>AV.str (dN F G i)),H):=by
 have e1:(aa TT (m+16)).e (.comp false (.call (aY "_law_words" 310) [(.bin .LShift (ac 1) (.bin .Add (.var 0) (.var 3))),(.var 0)] []) [(.mk (.one 3) (.call (cz "range") [(ac 5)] []) [])]) [some (.int F),some (.int G),none] H=some (.lst ((UD 5).map λi=>AV.str (bv (F+i))),H):=
  iF i4 (kA (m+14) _ H) λi hi=>by
   have hi:=eD hi
   have w:=CS F i hF hi
   have e2:=nW (m+1) H (2^(F+i)) F hF (Va (Nat.div_le_self _ _) (W0 (by decide) (by lia))) w.hex
   rw[w.w] at e2
   exact xF rfl (eB (xB (n:=m+13) (u:=.int 1) (w:=.int (F+i:Nat)) rfl (xB (n:=m+12) (u:=.int F) (w:=.int i) rfl rfl rfl) (iy (F+i) (by lia))) rfl) e2
 have e4:ao TT (aa TT (m+15)) (.ite (.cmp .Eq (.bin .Mod (.bin .Add (.var 3) (.var 1)) (ac 2)) (ac 0)) (.var 4) (.meth (.var 4) .lower [] [])) [(.mk (.many [3,4]) (.call (cz "enumerate") [(.var 2)] []) [])] [some (.int F),some (.int G),some (.lst ((UD 5).map λi=>AV.str (bv (F+i))))] H=some ((UD 5).map λi=>AV.str (dN F G i),H):=by
  refine qR (g:=Uq F G) (jT (l:=(UD 5).map λi=>AV.str (bv (F+i))) rfl (w6 _)) λv hv=>?_
  have hv:v∈(UD 5).map λi=>AV.tup [.int (i:Nat),.str (bv (F+i))]:=hv
  obtain⟨i,hi,rfl⟩:=UY.mp hv
  refine gY (t:=.many [3,4]) (ifs:=[]) (H1:=H) rfl rfl (ix (n:=m+14) (tC (n:=m+12) (u:=.int (((i:Int)+G).fmod 2)) (w:=.int 0) (xB (n:=m+11) (u:=.int ((i:Int)+G)) (w:=.int 2) (xB (n:=m+10) (u:=.int i) (w:=.int G) rfl rfl rfl) rfl (Bi (by decide))) rfl rfl) ?_)
  unfold dN
  by_cases h:((i:Int)+G).fmod 2=0
  ·rw[decide_eq_true h]
   exact congrArg (λs=>some (AV.str s,H)) (if_pos h).symm
  ·rw[decide_eq_false h]
   exact(sM (n:=m+13) (s:=bv (F+i)) rfl rfl (iM (UH (dH (F+i) (by have:=eD hi;lia)).len (by decide))) rfl).trans (congrArg (λs=>some (AV.str s,H)) (if_neg h).symm)
 exact fr (g:=mh) (ρ:=[some (.int F),some (.int G),none]) rfl rfl (n:=m+16) (bn (aA e1) (br (cB (vD e4 (w6 _)))))
structure Bl where
 b:Nat
 nm:Str
 row:V5 Bool
def Bl.it(F:Nat)(x:Bl):Str×Str:=(x.nm,bZ (2^(F+x.b))++bZ (ai x.row*2^F))
structure Bl.Ok(F:Nat)(x:Bl):Prop where
 lt:x.b<5
 low:UT x.nm=aH (F+x.b)
 up:Vj x.nm=cU (F+x.b)
 ok:fM x.nm=true
theorem QG{F b:Nat}{row:V5 Bool}(hF:F<32)(hb:b<5):(Bl.mk b (bv (F+b)) row).Ok F:=⟨hb,rfl,rfl,(dH (F+b) (by lia)).w⟩
theorem lg{F b:Nat}{row:V5 Bool}(hF:F<32)(hb:b<5):(Bl.mk b (aH (F+b)) row).Ok F:=have p:=dH (F+b) (by lia);⟨hb,p.ll,p.ul,p.l⟩
theorem vz{F b:Nat}{row:V5 Bool}(hF:F<32)(hb:b<5):(Bl.mk b (cU (F+b)) row).Ok F:=have p:=dH (F+b) (by lia);⟨hb,p.lu,p.uu,p.u⟩
theorem Kq:∀ a<64,bP (a+if a<32 then 128 else 0)=false:=by decide +kernel
theorem J8:∀ a<64,bP (64+a+a%2*128)=false:=by decide +kernel
theorem x8:∀(f y:Nat),∀ d∈dG f y,bP d=false
 |0,_,_,h=>by cases h
 |f+1,y,d,h=>by
  unfold dG at h
  split at h
  ·cases h
  ·rcases Ve.mp h with h|h
   ·exact x8 f _ d h
   ·rw[US] at h
    subst h
    have:=J8 (y%64) (by lia)
    rw[show y%64%2=y%2 by lia] at this
    exact this
theorem Ao(x:Nat):∀ d∈bg x,bP d=false:=by
 intro d h
 rcases Ve.mp h with h|h
 ·exact x8 _ _ d h
 ·rw[US] at h
  subst h
  exact Kq (x%64) (by lia)
theorem ES(a b:Nat):rD (bZ a++bZ b)=true:=by
 unfold rD bZ
 rw[fE,pH,bS,U6]
 refine⟨?_,?_⟩
 ·rw[beq_iff_eq,YZ]
  intro d hd
  rcases Ve.mp hd with hd|hd
  ·rw[Ao a d hd];decide
  ·rw[Ao b d hd];decide
 ·have:=im a
  have:=im b
  rw[decide_eq_true_eq,UM];lia
theorem rm{F:Nat}{x:Bl}(h:x.Ok F):x.nm.length<=1000:=(og h.ok).2
theorem vY{F:Nat}{x y:Bl}(hF:F<32)(hx:x.Ok F)(hy:y.Ok F):(UT x.nm=UT y.nm)↔x.b=y.b:=by
 rw[hx.low,hy.low]
 constructor
 ·intro h
  have:=z0 (show F+x.b<36 by have:=hx.lt;lia) (show F+y.b<36 by have:=hy.lt;lia) h
  lia
 ·intro h;rw[h]
theorem pC{F:Nat}{x:Bl}(hF:F<32)(hx:x.Ok F):∀ l:List Bl,(∀ y∈l,y.Ok F)->eM x.nm (l.map (Bl.it F))=(l.filter λy=>!decide (y.b=x.b)).map (Bl.it F)
 | [],_=>rfl
 |y::l,h=>by
  have ih:=pC hF hx l λz hz=>h z (.tail _ hz)
  unfold eM at ih ⊢
  rw[Vc,VE,VE,ih]
  have:(decide (UT (Bl.it F y).1=UT x.nm))=decide (y.b=x.b):=decide_eq_decide.mpr (vY hF (h y (.head _)) hx)
  rw[this]
  cases decide (y.b=x.b)<;>rfl
theorem KY{F:Nat}{x:Bl}(hF:F<32)(hx:x.Ok F)(l:List Bl)(h:∀ y∈l,y.Ok F):putL x.nm (x.it F).2 (l.map (Bl.it F))=((l.filter λy=>!decide (y.b=x.b))++[x]).map (Bl.it F):=by
 unfold putL
 rw[pC hF hx l h,Vt];rfl
theorem lE{F:Nat}{l:List Bl}(h:∀ y∈l,y.Ok F):fS (l.map (Bl.it F)):=by
 intro p hp
 obtain⟨y,hy,rfl⟩:=UY.mp hp
 exact rm (h y hy)
end
section
def um(s:HS):AH:=[.tab 0,.tab 1,.list s.sg,Ma,.inst 121 3,.list [.str (af [97])],Mb s.ln,.inst 121 6,.list s.pb,s.cx,.list s.row,.list s.jm,.list s.items]
theorem zd(m:Nat)(r:R)(s:HS)(J:AH)(h:Option AV):∀(l:List (Str×Str)) (i k:Nat) (a b:Option AV),s.items.drop i=ax l->l.length<k->(∀ p∈l,fM p.1=true/\rD p.2=true)->
  ∃ ρ',bo TT r (.many [2,3]) ((aa TT (m+14)).b IT) ((aa TT (m+14)).b []) k (.locl 12 i) [some (.loc 14),h,a,b] (hp s J)=some (.next,ρ',hp s J)
 | [],i,k,a,b,hi,hk,hl=>by
  obtain⟨k,rfl⟩:∃ j,k=j+1:=⟨k-1,by simp at hk;lia⟩
  exact⟨_,n4 (jL (uk s J) hi)⟩
 |p::l,i,k,a,b,hi,hk,hl=>by
  obtain⟨k,rfl⟩:∃ j,k=j+1:=⟨k-1,by simp at hk;lia⟩
  have hi':s.items.drop i=gZ p::ax l:=hi
  obtain⟨ρ',e⟩:=zd m r s J h l (i+1) k (some (.str p.1)) (some (.str p.2)) (iG hi') (by simp at hk;lia) λq hq=>hl q (.tail _ hq)
  have hp':=hl p (.head _)
  have c1:=eV (m+3) (.loc 14) p.1 true (hp s J) hp'.1
  have c2:=eV (m+3) (.loc 14) p.2 false (hp s J) hp'.2
  refine⟨ρ',(n5 (iN (uk s J) hi') (show be (.many [2,3]) (gZ p) [some (.loc 14),h,a,b]=some [some (.loc 14),h,some (.str p.1),some (.str p.2)] from rfl) (H2:=hp s J) (ρ2:=[some (.loc 14),h,some (.str p.1),some (.str p.2)]) ?_).trans e⟩
  exact show ay TT (aa TT (m+13)) IT _ _=_ from bn (iq (xM rfl rfl (ba rfl) rfl c1)) (bn (iq (xM rfl rfl (ba rfl) rfl c2)) rfl)
theorem FE(m:Nat)(s:HS)(l:List (Str×Str))(hs:s.items=ax l)(hl:l.length<1000)(hok:∀ p∈l,fM p.1=true/\rD p.2=true):(aa TT (m+20)).c 174 [.loc 14,.loc 12] [] (um s++[.dict [],.inst 282 13])=some (.none,hp s []):=by
 have e5:aO (aa TT (m+17)) (.var 1) [some (.loc 14),some (.loc 12),none,none] (hp s [])=some (.locl 12 0,hp s []):=rfl
 obtain⟨ρ',e6⟩:=zd (m+3) (aa TT (m+17)) s [] (some (.loc 12)) l 0 1000 none none (by rw[Wh,hs]) hl hok
 have t:am TT (aa TT (m+17)) (.fr (.many [2,3]) (.var 1) IT []) [some (.loc 14),some (.loc 12),none,none] (hp s [])=_:=(EA e5).trans e6
 exact fe (n:=m+18) (g:=eW) (ρ:=[some (.loc 14),some (.loc 12),none,none]) rfl rfl (bn (ρ':=[some (.loc 14),some (.loc 12),none,none]) (aA (v:=.loc 12) rfl) (bn (aZ (b:=false) (H1:=um s++[.dict [],.inst 282 13]) (tC (n:=m+16) rfl rfl rfl) rfl) (bn (ρ':=[some (.loc 14),some (.loc 12),none,none]) (H':=hp s []) rfl (dz (aZ (b:=true) (H1:=hp s []) rfl (show ay TT (aa TT (m+17)) _ _ _=_ from dz t))))))
theorem kR{t:bD}{b o:ae->AH->Option (AF×ae×AH)}{x:AV}{l:List AV}{ρ ρ1 ρ2:ae}{H H2:AH}(h1:be t x ρ=some ρ1)(h2:b ρ1 H=some (.next,ρ2,H2)):bM t b o (x::l) ρ H=bM t b o l ρ2 H2:=BD h1 h2
def iu(F:Nat)(G:Int)(g:V5 (V5 Bool)):List Bl:=(UD 5).map λi=>⟨i,dN F G i,g.get i⟩
theorem xj{F i:Nat}{G:Int}{row:V5 Bool}(hF:F<32)(hi:i<5):(Bl.mk i (dN F G i) row).Ok F:=by
 unfold dN
 split
 ·exact QG hF hi
 ·exact lg hF hi
theorem wT{γ:Type}(f:γ->Str×Str)(key:γ->Nat)(nm:Str)(b:Nat):∀ l:List γ,(∀ y∈l,(UT (f y).1=UT nm↔key y=b))->eM nm (l.map f)=(l.filter λy=>!decide (key y=b)).map f
 | [],_=>rfl
 |y::l,h=>by
  have ih:=wT f key nm b l λz hz=>h z (.tail _ hz)
  unfold eM at ih ⊢
  rw[Vc,VE,VE,ih,decide_eq_decide.mpr (h y (.head _))]
  cases decide (key y=b)<;>rfl
def tf(F:Nat)(y:Bl×Bool):Str×Str:=if y.2 then y.1.it F else(y.1.nm,af [97])
theorem Px{F:Nat}{x:Bl}(hF:F<32)(hx:x.Ok F)(l:List (Bl×Bool))(h:∀ y∈l,y.1.Ok F):putL x.nm (x.it F).2 (l.map (tf F))=((l.filter λy=>!decide (y.1.b=x.b))++[(x,true)]).map (tf F):=by
 unfold putL
 rw[wT (tf F) (λy=>y.1.b) x.nm x.b l (λy hy=>by
  have:(tf F y).1=y.1.nm:=by unfold tf;split<;>rfl
  rw[this];exact vY hF (h y hy) hx),Vt]
 rfl
theorem Ap(H:AH)(a b:Nat):bp H .Add (.str (bZ a)) (.str (bZ b))=some (.str (bZ a++bZ b)):=by
 have:=im a
 have:=im b
 rw[n0 (by unfold bZ;rw[bS,bS];lia)]
theorem lm(row:V5 Bool){F:Nat}(hF:F<32):ai row*2^F<64^9:=by
 have h1:=rl row
 have h2: 2^F<=2^31:=VD (by decide) (by lia)
 have h3:ai row*2^F<=31*2^31:=WU (by lia) h2
 have:(64:Nat)^9=2^54:=by decide
 lia
theorem Lb(m F i:Nat)(g:V5 (V5 Bool))(s:HS)(J:AH)(pr ns:Option AV)(x:Bl)(l:List (Bl×Bool))(hF:F<32)(hi:i<5)(hxb:x.b=i)(hxr:x.row=g.get i)(hx:x.Ok F)(hs:s.items=ax (l.map (tf F)))(h:∀ y∈l,y.1.Ok F)(hlen:l.length<100):
  (aa TT (m+19)).b JC [pr,ns,some (.lst (bT g)),some (.int F),some (.loc 14),some (.int i),some (.str x.nm)] (hp s J)=some (.next,[pr,ns,some (.lst (bT g)),some (.int F),some (.loc 14),some (.int i),some (.str x.nm)],hp {s with items:=ax (((l.filter λy=>!decide (y.1.b=i))++[(x,true)]).map (tf F))} J):=by
 have o1:=jc (m+6) (hp s J) (2^(F+i)) (rK (by lia))
 have o2:=jc (m+6) (hp s J) (ai (g.get i)*2^F) (lm _ hF)
 have hd:fS (l.map (tf F)):=by
  intro p hp
  obtain⟨y,hy,rfl⟩:=UY.mp hp
  have:(tf F y).1=y.1.nm:=by unfold tf;split<;>rfl
  rw[this];exact rm (h y hy)
 have hk:fM (UT x.nm)=true:=by rw[hx.low];exact(dH (F+x.b) (by have:=hx.lt;lia)).l
 have st:=AM (m+2) s J x.nm (x.it F).2 (l.map (tf F)) hs hd hk hx.ok (ES _ _) (by rw[UC];lia)
 rw[Px hF hx l h,hxb] at st
 have hv:(x.it F).2=bZ (2^(F+i))++bZ (ai (g.get i)*2^F):=by unfold Bl.it;rw[hxb,hxr]
 rw[hv] at st
 have g1:(hp s J)[14]? =some (.inst 282 13):=rfl
 have g2:TT.setI 282=some 195:=rfl
 have g3:=vk (H:=hp s J) (ai (g.get i)) F (WI (rl _) (by decide)) (by lia)
 have g4:=yk TT (hp s J) g i hi
 exact dz (JA (xB (n:=m+17) (xF rfl (ba (xB (n:=m+15) (u:=.int 1) (w:=.int ((F+i:Nat):Int)) rfl rfl (iy (H:=hp s J) (F+i) (by lia)))) o1) (xF rfl (ba (xB (n:=m+15) (bF (n:=m+14) rfl rfl g4) rfl g3)) o2) (Ap _ _ _)) rfl rfl g1 g2 st)
theorem EL(m F:Nat)(G:Int)(g:V5 (V5 Bool))(s:HS)(hF:F<32)(hs:s.items=ax [(cU (F+4),af [97]),(aH (F+4),af [97])]):
  (aa TT (m+24)).c 344 [.loc 12,.lst ((UD 5).map λi=>AV.str (dN F G i)),.lst (bT g),.int F] [] (um s)=some (.loc 14,hp {s with items:=ax ((iu F G g).map (Bl.it F))} []):=by
 have p4:=dH (F+4) (by lia)
 have hv:rD (af [97])=true:=by decide +kernel
 have i2:∀ ρ,(aa TT (m+22)).e (.call (aY "Headers" 282) [(.var 0)] []) (some (.loc 12)::ρ) (um s)=some (.loc 14,hp s []):=λρ=>by
  have i3:(aa TT (m+21)).c 174 [.loc 14,.loc 12] [] (um s++[.dict [],.inst 282 13])=some (.none,hp s []):=by
   have:=FE (m+1) s _ hs (by simp) (λp hp=>by
    rcases U0.mp hp with rfl|hp
    ·exact⟨p4.u,hv⟩
    ·rw[US] at hp;subst hp;exact⟨p4.l,hv⟩)
   exact this
  exact congrArg (ah · λ(d:AV) (H':AH)=>qy (some (AV.loc 14,H')) d) i3
 let x (i:Nat):Bl:=⟨i,dN F G i,g.get i⟩
 have xo:∀ i<5,(x i).Ok F:=λi hi=>xj hF hi
 let l0:List (Bl×Bool):=[(⟨4,cU (F+4),g.get 4⟩,false),(⟨4,aH (F+4),g.get 4⟩,false)]
 have a0:∀ y∈l0,y.1.Ok F:=UL.mpr ⟨vz hF (by decide),UL.mpr ⟨lg hF (by decide),λ_ h=>absurd h VN⟩⟩
 have A:=λ(i:Nat) (hi:i<5) (l:List (Bl×Bool)) (h:∀ y∈l,y.1.Ok F)=>(List.forall_mem_append (l₂:=[(x i,true)])).mpr ⟨h,List.forall_mem_singleton.mpr (xo i hi)⟩
 have T:=λ(i:Nat) (hi:i<5) (l:List (Bl×Bool)) (s':HS) (hs':s'.items=ax (l.map (tf F))) (hl:l.length<100) (hlo:∀ y∈l,y.1.Ok F)=>Lb (m+3) F i g s' [] (some (.loc 12)) (some (.lst ((UD 5).map λi=>AV.str (dN F G i)))) (x i) l hF hi rfl rfl (xo i hi) hs' hlo hl
 have t0:=T 0 (by decide) l0 s hs (UG rfl) a0
 have a1:=A 0 (by decide) _ a0
 have t1:=T 1 (by decide) _ {s with items:=_} rfl (UG rfl) a1
 have a2:=A 1 (by decide) _ a1
 have t2:=T 2 (by decide) _ {s with items:=_} rfl (UG rfl) a2
 have a3:=A 2 (by decide) _ a2
 have t3:=T 3 (by decide) _ {s with items:=_} rfl (UG rfl) a3
 have t4:=T 4 (by decide) _ {s with items:=_} rfl (UG rfl) (A 3 (by decide) _ a3)
 have e5:aO (aa TT (m+22)) (.call (cz "enumerate") [(.var 1)] []) [some (.loc 12),some (.lst ((UD 5).map λi=>AV.str (dN F G i))),some (.lst (bT g)),some (.int F),some (.loc 14),none,none] (hp s [])=some (.pairs [.tup [.int 0,.str (dN F G 0)],.tup [.int 1,.str (dN F G 1)],.tup [.int 2,.str (dN F G 2)],.tup [.int 3,.str (dN F G 3)],.tup [.int 4,.str (dN F G 4)]],hp s []):=by
  rw[jT (l:=(UD 5).map λi=>AV.str (dN F G i)) rfl (by simp)]
  rw[jw];rfl
 try simp only[XD,YS] at t0 t1 t2 t3 t4
 have ch:bM (.many [5,6]) ((aa TT (m+22)).b JC) ((aa TT (m+22)).b []) [.tup [.int 0,.str (dN F G 0)],.tup [.int 1,.str (dN F G 1)],.tup [.int 2,.str (dN F G 2)],.tup [.int 3,.str (dN F G 3)],.tup [.int 4,.str (dN F G 4)]] [some (.loc 12),some (.lst ((UD 5).map λi=>AV.str (dN F G i))),some (.lst (bT g)),some (.int F),some (.loc 14),none,none] (hp s [])=some (.next,[some (.loc 12),some (.lst ((UD 5).map λi=>AV.str (dN F G i))),some (.lst (bT g)),some (.int F),some (.loc 14),some (.int 4),some (.str (dN F G 4))],hp {s with items:=ax ((iu F G g).map (Bl.it F))} []):=by
  refine(kR rfl t0).trans ?_
  refine(kR rfl t1).trans ?_
  refine(kR rfl t2).trans ?_
  refine(kR rfl t3).trans ?_
  refine(kR rfl t4).trans ?_
  rfl
 have s5:=(Pe (T:=TT) (r:=aa TT (m+22)) (x:=5) (y:=6) (b:=JC) (o:=[]) e5).trans ch
 exact fr (g:=mi) (ρ:=[some (.loc 12),some (.lst ((UD 5).map λi=>AV.str (dN F G i))),some (.lst (bT g)),some (.int F),none,none,none]) rfl rfl (n:=m+22) (bn (aA (i2 _)) (bn s5 (br (cB rfl))))
end
section
theorem EC(a b F:Nat):(a*2^F)&&&(b*2^F)=(a&&&b)*2^F:=by
 rw[<-Wc,<-Wc,<-Wc,Nat.shiftLeft_and_distrib]
theorem Jx(a b F:Nat):(a*2^F)|||(b*2^F)=(a|||b)*2^F:=by
 rw[<-Wc,<-Wc,<-Wc,Nat.shiftLeft_or_distrib]
theorem lR(F w:Nat): 2^(F+w)=2^w*2^F:=by rw[Nat.pow_add,Nat.mul_comm]
theorem K2(row:V5 Bool)(F w:Nat)(hw:w<5):(ai row*2^F)&&&2^(F+w)=if row.get w then 2^(F+w) else 0:=by
 have key:∀ x0 x1 x2 x3 x4:Bool,(UD 5).all (λw=>decide (ai ⟨x0,x1,x2,x3,x4⟩&&&2^w=if V5.get (⟨x0,x1,x2,x3,x4⟩:V5 Bool) w then 2^w else 0))=true:=by decide +kernel
 obtain⟨x0,x1,x2,x3,x4⟩:=row
 rw[lR,EC,of_decide_eq_true (UP.mp (key x0 x1 x2 x3 x4) w (UR.mpr hw))]
 split<;>simp
theorem Se(u:V5 Bool)(d w:Nat)(hd:d<5)(hw:w<5):ai u-(ai u&&&(2^d|||2^w))=ai (dO ab (dO ab u d) w):=by
 have key:∀ x0 x1 x2 x3 x4:Bool,(UD 5).all (λd=>(UD 5).all λw=>decide (ai ⟨x0,x1,x2,x3,x4⟩-(ai ⟨x0,x1,x2,x3,x4⟩&&&(2^d|||2^w))=ai (dO ab (dO ab ⟨x0,x1,x2,x3,x4⟩ d) w)))=true:=by decide +kernel
 obtain⟨x0,x1,x2,x3,x4⟩:=u
 exact of_decide_eq_true (UP.mp (UP.mp (key x0 x1 x2 x3 x4) d (UR.mpr hd)) w (UR.mpr hw))
theorem E7(rd rw:V5 Bool)(F d w:Nat)(hd:d<5)(hw:w<5):(ai rd*2^F|||ai rw*2^F)-((ai rd*2^F|||ai rw*2^F)&&&(2^(F+d)|||2^(F+w)))=ai (dO ab (dO ab (iO ab rd rw) d) w)*2^F:=by
 rw[Jx,xb,lR,lR,Jx,EC,<-Nat.sub_mul,Se _ d w hd hw]
structure yX(F:Nat)(rest:List Nat)(rows:V5 (V5 Bool))(bl:List Bl):Prop where
 ok:∀ x∈bl,x.Ok F
 row:∀ x∈bl,x.row=rows.get x.b
 nd:(bl.map Bl.b).Nodup
 all:∀ b,b∈bl.map Bl.b↔b=0∨b∈rest
 zero:∀ d,d<5->d≠0->d∉rest->rows.get d=dY ab
noncomputable def bL(w:Nat)(x:Bl):Bool:=decide (x.b≠w)&&x.row.get w
theorem wu(i:Nat):(dY ab).get i=false:=by
 unfold dY V5.of V5.get
 split<;>rfl
theorem pF{d:Nat}:d∈five↔d<5:=by
 unfold five
 simp only[U0,VN,or_false]
 lia
theorem dh{d w:Nat}:d∈jO w↔d<5/\d≠w:=by
 unfold jO
 rw[UZ,pF]
 simp
theorem Av{F:Nat}{rest:List Nat}{rows:V5 (V5 Bool)}{bl:List Bl}(B:yX F rest rows bl)(w:Nat):jN ab rows w=decide ((bl.filter (bL w)).length=1):=by
 have hlt:∀ x∈bl,x.b<5:=λx hx=>(B.ok x hx).lt
 have src:∀ d,d<5->d≠w->(rows.get d).get w=true->∃ x∈bl.filter (bL w),x.b=d:=by
  intro d hd hw h
  have:d∈bl.map Bl.b:=by
   rw[B.all]
   refine V9 λhn=>?_
   have h0:d≠0:=λq=>hn (.inl q)
   have h1:d∉rest:=λq=>hn (.inr q)
   rw[B.zero d hd h0 h1,wu] at h
   cases h
  obtain⟨x,hx,rfl⟩:=UY.mp this
  refine⟨x,UZ.mpr ⟨hx,?_⟩,rfl⟩
  unfold bL
  rw[decide_eq_true hw,B.row x hx,h];rfl
 have back:∀ x∈bl.filter (bL w),x.b<5/\x.b≠w/\(rows.get x.b).get w=true:=by
  intro x hx
  obtain⟨h1,h2⟩:=UZ.mp hx
  unfold bL at h2
  rw[U6,decide_eq_true_eq,B.row x h1] at h2
  exact⟨hlt x h1,h2.1,h2.2⟩
 have nd:((bl.filter (bL w)).map Bl.b).Nodup:=(ZQ _ Yr).nodup B.nd
 rw[X6,decide_eq_true_eq]
 show(fj ab (jO w) _&&dw ab (jO w) _)=true↔_
 rw[U6,oY,eJ]
 constructor
 ·rintro⟨⟨d,hd,h⟩,h2⟩
  obtain⟨x,hx,hxd⟩:=src d (dh.mp hd).1 (dh.mp hd).2 h
  match hl:bl.filter (bL w),hx,nd,back with
  | [y],_,_,_=>rfl
  |y::z::l,hx,nd,back=>
   exfalso
   obtain⟨a1,a2,a3⟩:=back y (.head _)
   obtain⟨b1,b2,b3⟩:=back z (.tail _ (.head _))
   have hne:z.b≠y.b:=by
    intro q
    rw[Vc,Vc,W5] at nd
    exact nd.1 (by rw[q];exact YK ..)
   have:=eJ.mp (h2 y.b (dh.mpr ⟨a1,a2⟩)) z.b (UZ.mpr ⟨dh.mpr ⟨b1,b2⟩,by simpa using hne⟩)
   change (!((rows.get y.b).get w&&(rows.get z.b).get w))=true at this
   rw[a3,b3] at this
   cases this
 ·intro hl
  obtain⟨x,hx⟩:=V7.mp hl
  obtain⟨a1,a2,a3⟩:=back x (by rw[hx];exact .head _)
  refine⟨⟨x.b,dh.mpr ⟨a1,a2⟩,a3⟩,λd hd=>eJ.mpr λe he=>?_⟩
  obtain⟨he1,he2⟩:=UZ.mp he
  have hne:e≠d:=by simpa using he2
  change (!((rows.get d).get w&&(rows.get e).get w))=true
  cases h1:(rows.get d).get w with
  |false=>rfl
  |true=>
   cases h2:(rows.get e).get w with
   |false=>rfl
   |true=>
    exfalso
    obtain⟨y,hy,hyd⟩:=src d (dh.mp hd).1 (dh.mp hd).2 h1
    obtain⟨z,hz,hze⟩:=src e (dh.mp he1).1 (dh.mp he1).2 h2
    rw[hx,US] at hy hz
    subst hy;subst hz
    exact hne (hze.symm.trans hyd)
def fb(F:Nat)(w:Nat)(x:Bl)(rw:V5 Bool)(bl:List Bl):List Bl:=(bl.filter λy=>!decide (y.b=w)&&!decide (y.b=x.b))++[⟨x.b,if aH (F+x.b)=x.nm then cU (F+x.b) else aH (F+x.b),dO ab (dO ab (iO ab x.row rw) x.b) w⟩]
theorem Gd{F:Nat}{rest:List Nat}{rows:V5 (V5 Bool)}{bl:List Bl}(hF:F<32)(B:yX F rest rows bl){w:Nat}(hw:w<5)(hw0:w≠0){x:Bl}(hd:bl.filter (bL w)=[x])(hnd:rest.Nodup):yX F (rest.erase w) (iz ab rows w) (fb F w x (rows.get w) bl):=by
 have hx:x∈bl.filter (bL w):=by rw[hd];exact .head _
 obtain⟨hx1,hx2⟩:=UZ.mp hx
 unfold bL at hx2
 rw[U6,decide_eq_true_eq] at hx2
 obtain⟨hxw,hxr⟩:=hx2
 have xo:=B.ok x hx1
 have only:∀ y∈bl,y.b≠w->y.b≠x.b->y.row.get w=false:=by
  intro y hy h1 h2
  cases h:y.row.get w with
  |false=>rfl
  |true=>
   exfalso
   have:y∈bl.filter (bL w):=UZ.mpr ⟨hy,by unfold bL;rw[decide_eq_true h1,h];rfl⟩
   rw[hd,US] at this
   exact h2 (congrArg Bl.b this)
 have mem:∀ y,y∈fb F w x (rows.get w) bl↔(y∈bl/\y.b≠w/\y.b≠x.b)∨y=⟨x.b,if aH (F+x.b)=x.nm then cU (F+x.b) else aH (F+x.b),dO ab (dO ab (iO ab x.row (rows.get w)) x.b) w⟩:=by
  intro y
  unfold fb
  rw[Ve,UZ,US]
  simp
 have mget:∀ d,d<5->(iz ab rows w).get d=if d=w then dY ab else jI ab ((rows.get d).get w) (dO ab (dO ab (iO ab (rows.get d) (rows.get w)) d) w) (rows.get d):=λd hd=>V5.get_of _ hd
 have mux:∀(c:Bool) (u v:V5 Bool),jI ab c u v=if c then u else v:=by
  intro c u v
  unfold jI
  refine(V5.of_congr λi _=>?_).trans (V5.of_get (if c then u else v))
  show((c&&u.get i)||(!c&&v.get i))=_
  cases c<;>simp
 refine⟨λy hy=>?_,λy hy=>?_,?_,λb=>?_,λd hd h0 hr=>?_⟩
 ·rcases(mem y).mp hy with⟨h,_⟩|rfl
  ·exact B.ok y h
  ·split
   ·exact vz hF xo.lt
   ·exact lg hF xo.lt
 ·rcases(mem y).mp hy with⟨h,h1,h2⟩|rfl
  ·rw[mget _ (B.ok y h).lt,if_neg h1,mux,<-B.row y h,only y h h1 h2];rfl
  ·show _=(iz ab rows w).get x.b
   rw[mget _ xo.lt,if_neg hxw,mux,<-B.row x hx1,hxr];rfl
 ·unfold fb
  rw[Vt,List.nodup_append]
  refine⟨(ZQ _ Yr).nodup B.nd,by simp,λa ha c hc=>?_⟩
  obtain⟨y,hy,rfl⟩:=UY.mp ha
  have:=(UZ.mp hy).2
  simp only[Vc,XZ,US] at hc
  subst hc
  simp at this
  exact this.2
 ·rw[UY]
  constructor
  ·rintro⟨y,hy,rfl⟩
   have key:∀ z∈bl,z.b≠w->z.b=0∨z.b∈rest.erase w:=by
    intro z hz hzw
    rcases(B.all z.b).mp (UY.mpr ⟨z,hz,rfl⟩) with h|h
    ·exact .inl h
    ·exact .inr ((List.mem_erase_of_ne hzw).mpr h)
   rcases(mem y).mp hy with⟨h,h1,_⟩|rfl
   ·exact key y h h1
   ·exact key x hx1 hxw
  ·intro h
   have hbw:b≠w:=by
    rcases h with h|h
    ·intro q;exact hw0 (q.symm.trans h)
    ·intro q;subst q;exact(List.Nodup.not_mem_erase hnd) h
   have:b∈bl.map Bl.b:=by
    rw[B.all]
    exact h.imp id λh=>List.mem_of_mem_erase h
   obtain⟨y,hy,rfl⟩:=UY.mp this
   by_cases hyx:y.b=x.b
   ·exact⟨_,(mem _).mpr (.inr rfl),hyx.symm⟩
   ·exact⟨y,(mem y).mpr (.inl ⟨hy,hbw,hyx⟩),rfl⟩
 ·rw[mget d hd]
  by_cases hdw:d=w
  ·rw[if_pos hdw]
  ·have hz:=B.zero d hd h0 λq=>hr ((List.mem_erase_of_ne hdw).mpr q)
   rw[if_neg hdw,mux,hz,wu];rfl
end
section
theorem su{γ δ:Type}(c:γ->Bool)(f:γ->δ):∀ l:List γ,l.flatMap (λx=>bif c x then[f x] else[])=(l.filter c).map f
 | []=>rfl
 |x::l=>by
  rw[WN,VE,su c f l]
  cases c x<;>rfl
section
variable {T:c8}{r:R}{ρ:ae}{H H1:AH}{γ:Type}
theorem m5{f:AV->AH->Option (List AV×AH)}{F:γ->AV}{g:γ->List AV}:∀{l:List γ},(∀ x∈l,f (F x) H=some (g x,H))->bI f (l.map F) H=some (l.flatMap g,H)
 | [],_=>rfl
 |x::l,h=>(congrArg (ah · λa H=>ah (bI f (l.map F) H) λb H=>some (a++b,H)) (h x (.head _))).trans (congrArg (ah · λb H=>some (g x++b,H)) (m5 λy hy=>h y (.tail _ hy)))
theorem kU{elt it:IE}{t:bD}{ifs:List IE}{l:List γ}{F:γ->AV}(f:γ->AV)(c:γ->Bool){ρ1:γ->ae}(hs:aO r it ρ H=some (.items (l.map F),H1))(hb:∀ x∈l,be t (F x) (ρ++U2 (i7 t) none)=some (ρ1 x))(h1:∀ x∈l,bk r ifs (ρ1 x) H1=some (c x,H1))(h2:∀ x∈l,c x=true->r.e elt (ρ1 x) H1=some (f x,H1)):
  ao T r elt [.mk t it ifs] ρ H=some ((l.filter c).map f,H1):=by
 rw[ao,hs,<-su c f]
 refine(congrArg (aw · _) (show(dj t (.items (l.map F))&&lO (.items (l.map F)))=true by cases t<;>rfl)).trans (m5 λx hx=>?_)
 have t1:=h1 x hx
 cases hc:c x<;>rw[hc] at t1
 ·exact v5 (hb x hx) t1
 ·exact gY (hb x hx) t1 (h2 x hx hc)
theorem gm{elt it:IE}{t:bD}{l:List γ}{F:γ->AV}(f:γ->AV){ρ1:γ->ae}(hs:aO r it ρ H=some (.items (l.map F),H1))(hb:∀ x∈l,be t (F x) (ρ++U2 (i7 t) none)=some (ρ1 x))(h2:∀ x∈l,r.e elt (ρ1 x) H1=some (f x,H1)):
  ao T r elt [.mk t it []] ρ H=some (l.map f,H1):=by
 have:=kU (T:=T) (ifs:=[]) f (λ_=>true) hs hb (λ_ _=>rfl) λx hx _=>h2 x hx
 rw[List.filter_eq_self.mpr λ_ _=>rfl] at this
 exact this
theorem y9{s:HS}{n:Nat}{L:List AV}{J0:AH}(hL:∀ K,(hp s (J0++K))[n]? =some (.list L)){f:AV->AH->Option (List AV×AH)}{F:γ->AV}{g:γ->AV}{h:γ->AO}:∀(l:List γ) (i k:Nat) (K:AH),L.drop i=l.map F->l.length<k->(∀ x∈l,∀ J,f (F x) (hp s J)=some ([g x],hp s (J++[h x])))->cC T r f k (.locl n i) (hp s (J0++K))=some (l.map g,hp s (J0++K++l.map h))
 |_,_,0,_,_,hk,_=>absurd hk (VU _)
 | [],i,k+1,K,hd,hk,_=>(Bq (jL (hL K) hd)).trans (by rw[XZ,XZ,U8])
 |x::l,i,k+1,K,hd,hk,hf=>by
  have:=y9 hL (F:=F) (g:=g) (h:=h) (f:=f) l (i+1) k (K++[h x]) (iG hd) (Vw hk) λy hy=>hf y (.tail _ hy)
  rw[<-U3,U3 _ [h x]] at this
  exact cd (iN (hL K) hd) (hf x (.head _) _) this
theorem wo{s:HS}{J0:AH}{elt it:IE}{t:bD}{n:Nat}{l:List γ}{F:γ->AV}(g:γ->AV)(hh:γ->AO){ρ1:γ->ae}(hs:aO r it ρ H=some (.locl n 0,hp s J0))(hL:∀ K,(hp s (J0++K))[n]? =some (.list (l.map F)))(hk:l.length<1000)
  (hb:∀ x∈l,be t (F x) (ρ++U2 (i7 t) none)=some (ρ1 x)) (h:∀ x∈l,∀ J,r.e elt (ρ1 x) (hp s J)=some (g x,hp s (J++[hh x]))):ao T r elt [.mk t it []] ρ H=some (l.map g,hp s (J0++l.map hh)):=by
 have:=y9 (T:=T) (r:=r) hL (f:=λv H=>bJ r t [] (λρ H=>ao T r elt [] ρ H) v (ρ++U2 (i7 t) none) H) (F:=F) (g:=g) (h:=hh) l 0 1000 [] Wh hk (λx hx J=>gY (hb x hx) rfl (h x hx J))
 rw[U8] at this
 exact wq hs this
end
def dl(F:Nat)(x:Bl):AV:=.lst [.str x.nm,.int ((2^(F+x.b):Nat):Int),.int ((ai x.row*2^F:Nat):Int)]
noncomputable def bB(F:Nat)(x:Bl):AV:=.tup [.str x.nm,.int ((2^(F+x.b):Nat):Int)]
def lN(F:Nat)(x:Bl):AO:=FO (2^(F+x.b)) (ai x.row*2^F)
def MT:IS:=.set 7 (.comp false BX [(.mk (.many [13,14]) (.meth (.var 1) .items [] []) [])])
def MU:IS:=.ite (.or [(.cmp .NotEq (.var 5) (.sub (.var 2) (ac 0))),(.cmp .NotEq (.sub (.var 6) (ac 0)) (.sub (.var 6) (ac 1))),(.cmp .NotEq D5 (.var 3))]) [.ret (.list false [(.list false [(.con (.str (UO #[110,111,110,101])))]),(.list false [])])] []
def Jg:IS:=.set 9 D4
def MW:List IS:=[.set 10 (.bin .BitOr (.sub (.sub (.var 9) (ac 0)) (ac 2)) (.sub (.var 8) (ac 1))),.set 11 (.meth (.sub (.sub (.var 9) (ac 0)) (ac 0)) .lower [] []),.set 12 (.ite (.cmp .NotEq (.var 11) (.sub (.sub (.var 9) (ac 0)) (ac 0))) (.var 11) (.meth (.var 11) .upper [] [])),.delI (.var 1) (.meth (.var 5) .lower [] []),.setI (.var 1) (.var 12) (.bin .Add (.call (aY "_law_octets" 300) [(.sub (.sub (.var 9) (ac 0)) (ac 1))] []) (.call (aY "_law_octets" 300) [(.bin .Sub (.var 10) (.bin .BitAnd (.var 10) (.bin .BitOr (.sub (.sub (.var 9) (ac 0)) (ac 1)) (.sub (.var 8) (ac 0)))))] [])),.set 3 (.bin .Add nD (.list false [(.tup [(.var 12),(.sub (.sub (.var 9) (ac 0)) (ac 1))])])),.set 4 (ac 0)]
def vw:IS:=.ite (.cmp .Eq (.call (dK "len") [(.var 9)] []) (ac 1)) MW Jf
def Je:List IS:=[Gi,Gj,MT,MU,Gk,BY,Jg,vw]
theorem vB(a b:Nat):decide (((2^a:Nat):Int)=((2^b:Nat):Int))=decide (a=b):=by
 refine decide_eq_decide.mpr ⟨λh=>?_,λh=>by rw[h]⟩
 exact(Nat.pow_right_inj (show 1<2 by decide)).mp (Int.ofNat_inj.mp h)
theorem Do{F:Nat}{x:Bl}(hF:F<32):∀{l:List Bl},(∀ y∈l,y.Ok F)->(l.map Bl.b).Nodup->x∈l->∀ nm,UT nm=aH (F+x.b)->∀ d,iZ (l.map (Bl.it F)) nm d= .str (x.it F).2
 | [],_,_,h,_,_,_=>by cases h
 |y::l,ho,hn,h,nm,hnm,d=>by
  have hx:=ho x h
  unfold iZ
  rw[Vc,List.find?_cons]
  have e:decide (UT (Bl.it F y).1=UT nm)=decide (y.b=x.b):=by
   have:=vY hF (ho y (.head _)) hx
   rw[hx.low] at this
   rw[hnm]
   exact decide_eq_decide.mpr this
  rw[e]
  rw[Vc,W5] at hn
  rcases U0.mp h with rfl|h
  ·rw[decide_eq_true rfl]
  ·have:y.b≠x.b:=λq=>hn.1 (UY.mpr ⟨x,h,q.symm⟩)
   rw[decide_eq_false this]
   have ih:=Do hF (λz hz=>ho z (.tail _ hz)) hn.2 h nm hnm d
   unfold iZ at ih
   exact ih
end
section
abbrev cP(l:List Str)(st:List AV)(k:Nat)(a5 a6 a7 a8 a9 a10 a11 a12:Option AV):ae:=[some (.loc 7),some (.loc 14),some (.lst (ag l)),some (.lst st),some (.int k),a5,a6,a7,a8,a9,a10,a11,a12]
section
variable (m F:Nat)(s:HS)(J:AH)(l:List Str)(st:List AV)(k:Nat)(a5 a6 a7 a8 a9 a10 a11 a12:Option AV)
theorem Sq(w:Str)(q:List Str)(hs:s.pb=ag (w::q))(hq:q.length<=900):am TT (aa TT (m+22)) Gi (cP l st k a5 a6 a7 a8 a9 a10 a11 a12) (hp s J)=some (.next,cP l st k (some (.str w)) a6 a7 a8 a9 a10 a11 a12,hp {s with pb:=ag q} J):=by
 have e:=AT (m+12) s J (x:=.str w) (q:=ag q) hs (by unfold ag;rw[UC];lia)
 exact aA (xM rfl rfl rfl rfl e)
theorem Sr(w:Nat)(bl:List Bl)(x:Bl)(hF:F<32)(hw:w<5)(hx:x∈bl)(hxw:x.b=w)(hs:s.items=ax (bl.map (Bl.it F)))(ho:∀ y∈bl,y.Ok F)(hn:(bl.map Bl.b).Nodup)(hl:bl.length<=100):
  am TT (aa TT (m+22)) Gj (cP l st k (some (.str (bv (F+w)))) a6 a7 a8 a9 a10 a11 a12) (hp s J)=some (.next,cP l st k (some (.str (bv (F+w)))) (some (.tup [.str (x.it F).2,.str (x.it F).2])) a7 a8 a9 a10 a11 a12,hp s J):=by
 have p:=dH (F+w) (by lia)
 have hu:(cU (F+w)).length<=1000:=(og p.u).2
 have e:=JY (m+4) s J (cU (F+w)) .none _ hs (lE ho) hu (by rw[p.lu];exact p.l) (by rw[UC];lia)
 rw[Do hF ho hn hx (cU (F+w)) (by rw[p.lu,hxw])] at e
 have i:=pz (m+12) (.str (cU (F+w))) (.bm 229 (.loc 14)) _ [] _ _ rfl (.inl rfl) (show bj TT (aa TT (m+12+5)) (.bm 229 (.loc 14)) [.str (cU (F+w))] [] (hp s J)=some (.str (x.it F).2,hp s J) from e)
 have l1:i6 (bv (F+w)) .upper [] (hp s J)=some (.str (cU (F+w))):=nC (by have:=p.len;lia)
 exact aA (xF rfl (eB (sM rfl rfl l1 rfl) rfl) i)
theorem Ss(bl:List Bl)(hF:F<32)(hs:s.items=ax (bl.map (Bl.it F)))(ho:∀ y∈bl,y.Ok F)(hl:bl.length<=100):
  am TT (aa TT (m+22)) MT (cP l st k a5 a6 a7 a8 a9 a10 a11 a12) (hp s J)=some (.next,cP l st k a5 a6 (some (.lst (bl.map (dl F)))) a8 a9 a10 a11 a12,hp s (J++[.list s.items]++bl.map (lN F))):=by
 have hil:s.items.length=bl.length:=by rw[hs];unfold ax;rw[UC,UC]
 have e0:=uq (m+11) s J (by lia)
 try simp only[XD,YS] at e0
 have hL:∀ K,(hp s (J++[.list s.items]++K))[(hp s J).length]? =some (.list (bl.map λx=>gZ (x.it F))):=λK=>by
  rw[U3,<-fW,dU,hs]
  unfold ax
  rw[UX];rfl
 have e1:aO (aa TT (m+21)) (.meth (.var 1) .items [] []) (cP l st k a5 a6 a7 a8 a9 a10 a11 a12) (hp s J)=some (.locl (hp s J).length 0,hp s (J++[.list s.items])):=by
  have e2:(aa TT (m+21)).e (.meth (.var 1) .items [] []) (cP l st k a5 a6 a7 a8 a9 a10 a11 a12) (hp s J)=some (.loc (hp s J).length,hp s (J++[.list s.items])):=xM rfl (Eu s J) rfl rfl e0
  have e3:=hL []
  rw[U8] at e3
  exact sD rfl e2 (congrArg (ob · (yq (hp s J).length)) e3)
 have e4:=wo (T:=TT) (elt:=BX) (t:=.many [13,14]) (l:=bl) (F:=λx=>gZ (x.it F)) (dl F) (lN F) e1 hL (by lia) (ρ1:=λx=>cP l st k a5 a6 a7 a8 a9 a10 a11 a12++[some (.str x.nm),some (.str (x.it F).2)]) (λx hx=>rfl) (λx hx J=>by
  have hb:=(ho x hx).lt
  have b1:=mZ (m+6) (hp s J) (2^(F+x.b)) (ai x.row*2^F) (rK (by lia)) (lm _ hF)
  rw[fW] at b1
  have b3:bp (hp s (J++[lN F x])) .Add (.lst [.str x.nm]) (.lst [.int ((2^(F+x.b):Nat):Int),.int ((ai x.row*2^F:Nat):Int)])=some (dl F x):=ga (l:=[.str x.nm]) (k:=[.int ((2^(F+x.b):Nat):Int),.int ((ai x.row*2^F:Nat):Int)]) rfl rfl (by simp)
  exact xB rfl (xF rfl (ba rfl) b1) b3)
 exact aA (aN e4 (by rw[UC];lia))
end
end
section
theorem AQ(F:Nat)(f:Bl->Nat):∀ bl:List Bl,ct (.lst (bl.map λx=>.tup [.str x.nm,.int (f x:Nat)])) (.lst (bl.map λx=>.tup [.str x.nm,.int (f x:Nat)]))=some true:=by
 intro bl
 have h:∀ bl:List Bl,bY (dB 5) (bl.map λx=>AV.tup [.str x.nm,.int (f x:Nat)]) (bl.map λx=>AV.tup [.str x.nm,.int (f x:Nat)])=some true:=by
  intro bl
  induction bl with
  |nil=>rfl
  |cons x bl ih=>
   rw[Vc,bY]
   have:dB 5 (.tup [.str x.nm,.int (f x:Nat)]) (.tup [.str x.nm,.int (f x:Nat)])=some true:=by
    show ob (some (decide (x.nm=x.nm))) (λa=>ob (ob (some (decide ((f x:Int)=f x))) λa=>ob (some true) λb=>some (a&&b)) λb=>some (a&&b))=_
    rw[decide_eq_true rfl,decide_eq_true rfl]
    rfl
   simp only[this,ih];rfl
 exact h bl
theorem Fi(F:Nat)(x:Bl)(w:Nat)(hw:w<5):decide ((0:Int)<VJ ((ai x.row*2^F:Nat):Int) ((2^(F+w):Nat):Int))=x.row.get w:=by
 rw[bK,K2 x.row F w hw]
 have h1: 0<2^(F+w):=Yc _
 cases x.row.get w with
 |true=>exact decide_eq_true (by show(0:Int)<((2^(F+w):Nat):Int);lia)
 |false=>rfl
section
variable (m F:Nat)(s:HS)(J:AH)(l:List Str)(st:List AV)(k:Nat)(a5 a6 a7 a8 a9 a10 a11 a12:Option AV)
theorem Su(w:Str)(q:List Str)(bl:List Bl)(v:Str)(hl:bl.length<=100):am TT (aa TT (m+22)) MU (cP (w::q) (bl.map (bB F)) k (some (.str w)) (some (.tup [.str v,.str v])) (some (.lst (bl.map (dl F)))) a8 a9 a10 a11 a12) (hp s J)=some (.next,cP (w::q) (bl.map (bB F)) k (some (.str w)) (some (.tup [.str v,.str v])) (some (.lst (bl.map (dl F)))) a8 a9 a10 a11 a12,hp s J):=by
 have e1:ao TT (aa TT (m+18)) (.tup [(.sub (.var 13) (ac 0)),(.sub (.var 13) (ac 1))]) [(.mk (.one 13) (.var 7) [])] (cP (w::q) (bl.map (bB F)) k (some (.str w)) (some (.tup [.str v,.str v])) (some (.lst (bl.map (dl F)))) a8 a9 a10 a11 a12) (hp s J)=some (bl.map (bB F),hp s J):=
  gm (T:=TT) (t:=.one 13) (l:=bl) (F:=dl F) (bB F) rfl (ρ1:=λx=>cP (w::q) (bl.map (bB F)) k (some (.str w)) (some (.tup [.str v,.str v])) (some (.lst (bl.map (dl F)))) a8 a9 a10 a11 a12++[some (dl F x)]) (λx _=>rfl) (λx _=>rfl)
 have e2:=aN e1 (by rw[UC];lia)
 have ne (x:Str):ia TT (hp s J) .NotEq (.str x) (.str x)=some false:=(qH _ _).trans (by rw[dS,RG,decide_eq_true rfl];rfl)
 have g3:ct (.lst (bl.map (bB F))) (.lst (bl.map (bB F)))=some true:=AQ F (λx=>2^(F+x.b)) bl
 exact aZ (b:=false) (H1:=hp s J) (show ej (aa TT (m+21)) _ _ _=_ from r6 (tC (n:=m+19) rfl rfl (ne w)) (r6 (tC (n:=m+19) rfl rfl (ne v)) (r6 (tC (n:=m+19) e2 rfl (congrArg (ob · λb=>some !b) g3)) rfl))) rfl
theorem Sv(x:Bl)(hF:F<32)(hx:x.b<5):am TT (aa TT (m+22)) Gk (cP l st k a5 (some (.tup [.str (x.it F).2,.str (x.it F).2])) a7 a8 a9 a10 a11 a12) (hp s J)=some (.next,cP l st k a5 (some (.tup [.str (x.it F).2,.str (x.it F).2])) a7 (some (.lst [.int ((2^(F+x.b):Nat):Int),.int ((ai x.row*2^F:Nat):Int)])) a9 a10 a11 a12,hp s (J++[lN F x])):=by
 have b1:=mZ (m+8) (hp s J) (2^(F+x.b)) (ai x.row*2^F) (rK (by lia)) (lm _ hF)
 rw[fW] at b1
 exact aA (xF rfl (ba rfl) b1)
theorem Qr(w:Str)(q:List Str)(hq:q.length<=900):am TT (aa TT (m+22)) BY (cP (w::q) st k a5 a6 a7 a8 a9 a10 a11 a12) (hp s J)=some (.next,cP q st k a5 a6 a7 a8 a9 a10 a11 a12,hp s J):=by
 have s4:∀ H,eU false (.lst (ag (w::q))) (some 1) none H=some (.lst (ag q),H):=λH=>uV (k:=1) (by unfold ag;rw[UC,UU];lia)
 exact aA (s4 _)
theorem Qs(w:Nat)(v8:AV)(bl:List Bl)(hw:w<5)(hl:bl.length<=100):am TT (aa TT (m+22)) Jg (cP l st k a5 a6 (some (.lst (bl.map (dl F)))) (some (.lst [.int ((2^(F+w):Nat):Int),v8])) a9 a10 a11 a12) (hp s J)=some (.next,cP l st k a5 a6 (some (.lst (bl.map (dl F)))) (some (.lst [.int ((2^(F+w):Nat):Int),v8])) (some (.lst ((bl.filter (bL w)).map (dl F)))) a10 a11 a12,hp s J):=by
 have e1:ao TT (aa TT (m+21)) (.var 13) [(.mk (.one 13) (.var 7) [(.and [(.cmp .NotEq (.sub (.var 13) (ac 1)) (.sub (.var 8) (ac 0))),(.cmp .Gt (.bin .BitAnd (.sub (.var 13) (ac 2)) (.sub (.var 8) (ac 0))) (ac 0))])])] (cP l st k a5 a6 (some (.lst (bl.map (dl F)))) (some (.lst [.int ((2^(F+w):Nat):Int),v8])) a9 a10 a11 a12) (hp s J)=some ((bl.filter (bL w)).map (dl F),hp s J):=
  kU (T:=TT) (t:=.one 13) (l:=bl) (F:=dl F) (dl F) (bL w) rfl (ρ1:=λx=>cP l st k a5 a6 (some (.lst (bl.map (dl F)))) (some (.lst [.int ((2^(F+w):Nat):Int),v8])) a9 a10 a11 a12++[some (dl F x)]) (λx _=>rfl) (λx _=>by
   have d1:=vB (F+x.b) (F+w)
   have d2:decide (F+x.b=F+w)=decide (x.b=w):=decide_eq_decide.mpr (by lia)
   have d3:decide (x.b≠w)= !decide (x.b=w):=decide_not
   rw[d2] at d1
   refine fJ (show bk (aa TT (m+20)) _ _ _=_ from nY (x:=!decide (x.b=w)) (y:=bL w x) (H1:=hp s J) (tC (n:=m+18) rfl rfl ((qH _ _).trans (congrArg (λb=>some !b) d1))) (λh=>tC (n:=m+18) (xB (n:=m+17) rfl rfl gF) rfl (congrArg some ((Fi F x w hw).trans ?_))) λh=>⟨?_,rfl⟩)
   ·unfold bL;rw[d3,h];rfl
   ·unfold bL;rw[d3,h];rfl) (λx _ _=>rfl)
 exact aA (aN e1 (by rw[UC];exact UH (Vb _ _) (by lia)))
theorem Qt(w:Str)(ds:List AV)(hd:ds.length≠1)(hds:ds.length<=100)(hs:s.pb=ag l)(hl:l.length<=900):am TT (aa TT (m+22)) vw (cP l st k (some (.str w)) a6 a7 a8 (some (.lst ds)) a10 a11 a12) (hp s J)=some (.next,cP (l++[w]) st (k+1) (some (.str w)) a6 a7 a8 (some (.lst ds)) a10 a11 a12,hp {s with pb:=ag (l++[w])} J):=by
 have c1:decide ((ds.length:Int)=1)=false:=decide_eq_false (by lia)
 have k1:∀ r,bj TT r (.g (.builtin "len")) [.lst ds] [] (hp s J)=some (.int ds.length,hp s J):=λr=>Mm rfl (by lia)
 have hpl:s.pb.length<=1000:=by rw[hs];unfold ag;rw[UC];lia
 have p1:=qf (m+11) s J (v:=.str w) hpl
 rw[hs,show ag l++[AV.str w]=ag (l++[w]) by unfold ag;simp] at p1
 have b1:∀ H,bp H .Add (.lst (ag l)) (.lst [.str w])=some (.lst (ag (l++[w]))):=λH=>by
  rw[ga rfl rfl (by unfold ag;rw[UC];simp;lia)]
  unfold ag;simp
 have t:ay TT (aa TT (m+21)) Jf (cP l st k (some (.str w)) a6 a7 a8 (some (.lst ds)) a10 a11 a12) (hp s J)=some (.next,cP (l++[w]) st (k+1) (some (.str w)) a6 a7 a8 (some (.lst ds)) a10 a11 a12,hp {s with pb:=ag (l++[w])} J):=by
  unfold Jf
  exact bn (iq (xM rfl rfl (ba rfl) rfl p1)) (bn (aA (xB (n:=m+20) (w:=.lst [.str w]) rfl rfl (b1 _))) (bn (aA (v:=.int (k+1:Nat)) rfl) rfl))
 exact aZ (b:=false) (H1:=hp s J) (tC (n:=m+20) (xK (ba rfl) (k1 _)) rfl (congrArg some c1)) t
end
end
section
def cO(F:Nat)(x:Bl):Str:=if aH (F+x.b)=x.nm then cU (F+x.b) else aH (F+x.b)
def xf(x:Bl)(rw:V5 Bool)(w:Nat):V5 Bool:=dO ab (dO ab (iO ab x.row rw) x.b) w
theorem BS{F:Nat}(hF:F<32){bl:List Bl}(ho:∀ y∈bl,y.Ok F){w:Nat}(hw:w<5){x:Bl}(hx:x.Ok F)(rw:V5 Bool):putL (cO F x) (bZ (2^(F+x.b))++bZ (ai (xf x rw w)*2^F)) (eM (aH (F+w)) (bl.map (Bl.it F)))=(fb F w x rw bl).map (Bl.it F):=by
 have ow:(Bl.mk w (aH (F+w)) x.row).Ok F:=lg hF hw
 have on:(Bl.mk x.b (cO F x) (xf x rw w)).Ok F:=by
  unfold cO
  split
  ·exact vz hF hx.lt
  ·exact lg hF hx.lt
 have e:=KY hF on (bl.filter λy=>!decide (y.b=w)) λy hy=>ho y (UZ.mp hy).1
 rw[List.filter_filter] at e
 have k:=pC hF ow bl ho
 rw[show(Bl.mk w (aH (F+w)) x.row).nm=aH (F+w) from rfl] at k
 rw[k]
 refine e.trans ?_
 unfold fb
 congr 2
 refine List.filter_congr λy _=>?_
 show(!decide (y.b=x.b)&&!decide (y.b=w))=_
 rw[Bool.and_comm]
section
variable (m F:Nat)(s:HS)(J:AH)(l:List Str)(k:Nat)(a5 a6 a7 a8 a9 a10 a11 a12:Option AV)
theorem KG(bl:List Bl)(w:Nat)(x:Bl)(v8:AV)(hl:bl.length<=100):(aa TT (m+20)).e nD (cP l (bl.map (bB F)) k a5 a6 a7 (some (.lst [.int ((2^(F+w):Nat):Int),v8])) (some (.lst [dl F x])) a10 a11 a12) (hp s J)=some (.lst ((bl.filter λy=>!decide (y.b=w)&&!decide (y.b=x.b)).map (bB F)),hp s J):=by
 have e1:ao TT (aa TT (m+19)) (.var 13) [(.mk (.one 13) (.var 3) [(.and [(.cmp .NotEq (.sub (.var 13) (ac 1)) (.sub (.var 8) (ac 0))),(.cmp .NotEq (.sub (.var 13) (ac 1)) (.sub (.sub (.var 9) (ac 0)) (ac 1)))])])] (cP l (bl.map (bB F)) k a5 a6 a7 (some (.lst [.int ((2^(F+w):Nat):Int),v8])) (some (.lst [dl F x])) a10 a11 a12) (hp s J)=some ((bl.filter λy=>!decide (y.b=w)&&!decide (y.b=x.b)).map (bB F),hp s J):=
  kU (T:=TT) (t:=.one 13) (l:=bl) (F:=bB F) (bB F) (λy=>!decide (y.b=w)&&!decide (y.b=x.b)) rfl (ρ1:=λy=>cP l (bl.map (bB F)) k a5 a6 a7 (some (.lst [.int ((2^(F+w):Nat):Int),v8])) (some (.lst [dl F x])) a10 a11 a12++[some (bB F y)]) (λy _=>rfl) (λy _=>by
   have d1:=vB (F+y.b) (F+w)
   have d2:decide (F+y.b=F+w)=decide (y.b=w):=decide_eq_decide.mpr (by lia)
   rw[d2] at d1
   have d3:=vB (F+y.b) (F+x.b)
   have d4:decide (F+y.b=F+x.b)=decide (y.b=x.b):=decide_eq_decide.mpr (by lia)
   rw[d4] at d3
   exact fJ (show bk (aa TT (m+18)) _ _ _=_ from nY (x:=!decide (y.b=w)) (y:=!decide (y.b=w)&&!decide (y.b=x.b)) (H1:=hp s J) (tC (n:=m+16) rfl rfl ((qH _ _).trans (congrArg (λb=>some !b) d1))) (λh=>tC (n:=m+16) rfl rfl ((qH _ _).trans (by rw[h,Bool.true_and];exact congrArg (λb=>some !b) d3))) λh=>⟨by rw[h];rfl,rfl⟩)) (λx _ _=>rfl)
 exact aN e1 (by rw[UC];exact UH (Vb _ _) (by lia))
end
abbrev yE(F:Nat)(l:List Str)(st:List AV)(k:Nat)(a5 a6 a7:Option AV)(w:Nat)(x:Bl)(rw:V5 Bool)(y10 y11 y12:Option AV):ae:=cP l st k a5 a6 a7 (some (.lst [.int ((2^(F+w):Nat):Int),.int ((ai rw*2^F:Nat):Int)])) (some (.lst [dl F x])) y10 y11 y12
section
variable (n F:Nat)(H:AH)(l:List Str)(st:List AV)(k:Nat)(a5 a6 a7:Option AV)(w:Nat)(x:Bl)(rw:V5 Bool)(y10 y11 y12:Option AV)
theorem yd(j:Nat)(v:AV)(hv:[AV.str x.nm,.int ((2^(F+x.b):Nat):Int),.int ((ai x.row*2^F:Nat):Int)][j]? =some v)(hj:j<3):(aa TT (n+3)).e (.sub (.sub (.var 9) (ac 0)) (.con (.int j))) (yE F l st k a5 a6 a7 w x rw y10 y11 y12) H=some (v,H):=
 bF (n:=n+2) (w:=.int j) (bF (n:=n+1) (u:=.lst [dl F x]) (w:=.int 0) (v:=dl F x) rfl rfl rfl) rfl ((dC _ (WI hj (by decide))).trans hv)
theorem ye(j:Nat)(v:AV)(hv:[AV.int ((2^(F+w):Nat):Int),.int ((ai rw*2^F:Nat):Int)][j]? =some v)(hj:j<3):(aa TT (n+2)).e (.sub (.var 8) (.con (.int j))) (yE F l st k a5 a6 a7 w x rw y10 y11 y12) H=some (v,H):=
 bF (n:=n+1) (u:=.lst [.int ((2^(F+w):Nat):Int),.int ((ai rw*2^F:Nat):Int)]) (w:=.int j) rfl rfl ((dC _ (WI hj (by decide))).trans hv)
theorem y1:(aa TT (n+20)).e (.bin .BitOr (.sub (.sub (.var 9) (ac 0)) (ac 2)) (.sub (.var 8) (ac 1))) (yE F l st k a5 a6 a7 w x rw y10 y11 y12) H=some (.int (ai x.row*2^F|||ai rw*2^F:Nat),H):=
 xB (n:=n+19) (yd (n+16) F H l st k a5 a6 a7 w x rw y10 y11 y12 2 _ rfl (by decide)) (ye (n+17) F H l st k a5 a6 a7 w x rw y10 y11 y12 1 _ rfl (by decide)) (by rw[IM,gw])
theorem y2(hx:x.Ok F):(aa TT (n+20)).e (.meth (.sub (.sub (.var 9) (ac 0)) (ac 0)) .lower [] []) (yE F l st k a5 a6 a7 w x rw y10 y11 y12) H=some (.str (aH (F+x.b)),H):=
 sM (yd (n+16) F H l st k a5 a6 a7 w x rw y10 y11 y12 0 _ rfl (by decide)) rfl ((iM (UH (rm hx) (by decide))).trans (congrArg (λs=>some (AV.str s)) hx.low)) rfl
theorem y3(hx:x.Ok F)(hF:F<32):(aa TT (n+20)).e (.ite (.cmp .NotEq (.var 11) (.sub (.sub (.var 9) (ac 0)) (ac 0))) (.var 11) (.meth (.var 11) .upper [] [])) (yE F l st k a5 a6 a7 w x rw y10 (some (.str (aH (F+x.b)))) y12) H=some (.str (cO F x),H):=
 ix (n:=n+19) (t:=!decide (aH (F+x.b)=x.nm)) (H1:=H) (tC (n:=n+17) (u:=.str (aH (F+x.b))) (w:=.str x.nm) rfl (yd (n+14) F H l st k a5 a6 a7 w x rw y10 (some (.str (aH (F+x.b)))) y12 0 _ rfl (by decide)) rfl) (by
  have px:=dH (F+x.b) (by have:=hx.lt;lia)
  unfold cO
  by_cases h:aH (F+x.b)=x.nm
  ·rw[decide_eq_true h,if_pos h]
   exact sM (n:=n+18) (s:=aH (F+x.b)) rfl rfl ((nC (UH (og px.l).2 (by decide))).trans (congrArg (λs=>some (AV.str s)) px.ul)) rfl
  ·rw[decide_eq_false h,if_neg h]
   rfl)
theorem Uz(both:Nat)(N:Option AV)(R:Nat)(h1: 2^(F+x.b)<64^9)(h2:R<64^9)(hR:both-(both&&&(2^(F+x.b)|||2^(F+w)))=R):(aa TT (n+20)).e (.bin .Add (.call (aY "_law_octets" 300) [(.sub (.sub (.var 9) (ac 0)) (ac 1))] []) (.call (aY "_law_octets" 300) [(.bin .Sub (.var 10) (.bin .BitAnd (.var 10) (.bin .BitOr (.sub (.sub (.var 9) (ac 0)) (ac 1)) (.sub (.var 8) (ac 0)))))] [])) (yE F l st k a5 a6 a7 w x rw (some (.int both)) y11 y12) H=some (.str (bZ (2^(F+x.b))++bZ R),H):=
 xB (n:=n+19) (xF rfl (ba (yd (n+15) F H l st k a5 a6 a7 w x rw (some (.int both)) y11 y12 1 _ rfl (by decide))) (jc (n+8) H (2^(F+x.b)) h1)) (xF rfl (ba (xB (n:=n+17) (u:=.int (both:Nat)) rfl (xB (n:=n+16) (u:=.int (both:Nat)) rfl (xB (n:=n+15) (yd (n+12) F H l st k a5 a6 a7 w x rw (some (.int both)) y11 y12 1 _ rfl (by decide)) (ye (n+13) F H l st k a5 a6 a7 w x rw (some (.int both)) y11 y12 0 _ rfl (by decide)) (by rw[IM,gw])) (by rw[gF,bK])) ((kD _ _ _).trans (by rw[hR])))) (jc (n+8) H R h2)) (Ap _ _ _)
theorem y4{s s':HS}{J:AH}(hw:F+w<36)(hd:(aa TT (n+20)).c 200 [.loc 14,.str (aH (F+w))] [] (hp s J)=some (.none,hp s' J)):am TT (aa TT (n+20)) (.delI (.var 1) (.meth (.var 5) .lower [] [])) (yE F l st k (some (.str (bv (F+w)))) a6 a7 w x rw y10 y11 y12) (hp s J)=some (.next,yE F l st k (some (.str (bv (F+w)))) a6 a7 w x rw y10 y11 y12,hp s' J):=
 Pn (n:=14) (c:=282) (d:=13) (H1:=hp s J) rfl (sM (n:=n+19) (s:=bv (F+w)) rfl rfl (iM (by have:=(dH (F+w) (by lia)).len;lia)) rfl) rfl rfl hd
theorem y5{s s':HS}{J:AH}(both R:Nat)(h1: 2^(F+x.b)<64^9)(h2:R<64^9)(hR:both-(both&&&(2^(F+x.b)|||2^(F+w)))=R)(hc:(aa TT (n+20)).c 195 [.loc 14,.str (cO F x),.str (bZ (2^(F+x.b))++bZ R)] [] (hp s J)=some (.none,hp s' J)):am TT (aa TT (n+20)) (.setI (.var 1) (.var 12) (.bin .Add (.call (aY "_law_octets" 300) [(.sub (.sub (.var 9) (ac 0)) (ac 1))] []) (.call (aY "_law_octets" 300) [(.bin .Sub (.var 10) (.bin .BitAnd (.var 10) (.bin .BitOr (.sub (.sub (.var 9) (ac 0)) (ac 1)) (.sub (.var 8) (ac 0)))))] []))) (yE F l st k a5 a6 a7 w x rw (some (.int both)) y11 (some (.str (cO F x)))) (hp s J)=some (.next,yE F l st k a5 a6 a7 w x rw (some (.int both)) y11 (some (.str (cO F x))),hp s' J):=
 JA (n:=14) (c:=282) (d:=13) (H1:=hp s J) (H2:=hp s J) (H3:=hp s J) (k:=.str (cO F x)) (Uz n F (hp s J) l st k a5 a6 a7 w x rw y11 (some (.str (cO F x))) both none R h1 h2 hR) rfl rfl rfl rfl hc
theorem y6{rs ms:List AV}(hr:(aa TT (n+19)).e nD (yE F l st k a5 a6 a7 w x rw y10 y11 (some (.str (cO F x)))) H=some (.lst rs,H))(hl:rs.length<=1000)(hm:rs++[.tup [.str (cO F x),.int ((2^(F+x.b):Nat):Int)]]=ms):(aa TT (n+20)).e (.bin .Add nD (.list false [(.tup [(.var 12),(.sub (.sub (.var 9) (ac 0)) (ac 1))])])) (yE F l st k a5 a6 a7 w x rw y10 y11 (some (.str (cO F x)))) H=some (.lst ms,H):=
 xB (n:=n+19) (w:=.lst [.tup [.str (cO F x),.int ((2^(F+x.b):Nat):Int)]]) hr (by
  have e1:=yd (n+14) F H l st k a5 a6 a7 w x rw y10 y11 (some (.str (cO F x))) 1 _ rfl (by decide)
  have e2:cj (aa TT (n+17)) [(.var 12),(.sub (.sub (.var 9) (ac 0)) (ac 1))] (yE F l st k a5 a6 a7 w x rw y10 y11 (some (.str (cO F x)))) H=some ([.str (cO F x),.int ((2^(F+x.b):Nat):Int)],H):=eB rfl e1
  have e3:(aa TT (n+18)).e (.tup [(.var 12),(.sub (.sub (.var 9) (ac 0)) (ac 1))]) (yE F l st k a5 a6 a7 w x rw y10 y11 (some (.str (cO F x)))) H=some (.tup [.str (cO F x),.int ((2^(F+x.b):Nat):Int)],H):=congrArg (ah · λvs H=>some (AV.tup vs,H)) e2
  exact congrArg (ah · λvs H=>some (kf false vs H)) (ba e3)) ((ga rfl rfl (by simp only[UU,V2];lia)).trans (by rw[hm]))
end
section
variable (m F:Nat)(s:HS)(J:AH)(l:List Str)(k:Nat)(a5 a6 a7 a8 a9 a10 a11 a12:Option AV)
theorem MX(bl:List Bl)(w:Nat)(x:Bl)(rw:V5 Bool)(hF:F<32)(hw:w<5)(hx:x.Ok F)(ho:∀ y∈bl,y.Ok F)(hs:s.items=ax (bl.map (Bl.it F)))(hl:bl.length<=100):
  ∃ a10' a11' a12',am TT (aa TT (m+22)) vw (cP l (bl.map (bB F)) k (some (.str (bv (F+w)))) a6 a7 (some (.lst [.int ((2^(F+w):Nat):Int),.int ((ai rw*2^F:Nat):Int)])) (some (.lst [dl F x])) a10 a11 a12) (hp s J) =
   some (.next,cP l ((fb F w x rw bl).map (bB F)) 0 (some (.str (bv (F+w)))) a6 a7 (some (.lst [.int ((2^(F+w):Nat):Int),.int ((ai rw*2^F:Nat):Int)])) (some (.lst [dl F x])) a10' a11' a12',hp {s with items:=ax ((fb F w x rw bl).map (Bl.it F))} J):=by
 have pw:=dH (F+w) (by lia)
 have hxb:=hx.lt
 have px:=dH (F+x.b) (by lia)
 refine⟨some (.int (ai x.row*2^F|||ai rw*2^F:Nat)),some (.str (aH (F+x.b))),some (.str (cO F x)),?_⟩
 have d1:=zg (m+8) s J (aH (F+w)) _ hs (lE ho) (og pw.l).2 (by rw[pw.ll];exact pw.l) (by rw[UC];lia)
 have on:(Bl.mk x.b (cO F x) (xf x rw w)).Ok F:=by
  unfold cO
  split
  ·exact vz hF hx.lt
  ·exact lg hF hx.lt
 have keepl:(eM (aH (F+w)) (bl.map (Bl.it F))).length<=100:=by
  refine UH (Vb _ _) ?_
  rw[UC];exact hl
 have st:=AM (m+5) {s with items:=ax (eM (aH (F+w)) (bl.map (Bl.it F)))} J (cO F x) (bZ (2^(F+x.b))++bZ (ai (xf x rw w)*2^F)) _ rfl (λp hp=>lE ho p (UZ.mp hp).1) (by
  have:=on.low
  rw[show UT (cO F x)=aH (F+x.b) from this];exact px.l) on.ok (ES _ _) (by lia)
 rw[BS hF ho hw hx rw] at st
 have fl:=Vb (λy:Bl=>!decide (y.b=w)&&!decide (y.b=x.b)) bl
 have hm:(bl.filter λy=>!decide (y.b=w)&&!decide (y.b=x.b)).map (bB F)++[.tup [.str (cO F x),.int ((2^(F+x.b):Nat):Int)]]=(fb F w x rw bl).map (bB F):=by
  unfold fb
  rw[Vt];rfl
 have t1:=aA (T:=TT) (i:=10) (y1 (m+1) F (hp s J) l (bl.map (bB F)) k (some (.str (bv (F+w)))) a6 a7 w x rw a10 a11 a12)
 have t2:=aA (T:=TT) (i:=11) (y2 (m+1) F (hp s J) l (bl.map (bB F)) k (some (.str (bv (F+w)))) a6 a7 w x rw (some (.int (ai x.row*2^F|||ai rw*2^F:Nat))) a11 a12 hx)
 have t3:=aA (T:=TT) (i:=12) (y3 (m+1) F (hp s J) l (bl.map (bB F)) k (some (.str (bv (F+w)))) a6 a7 w x rw (some (.int (ai x.row*2^F|||ai rw*2^F:Nat))) a12 hx hF)
 have t4:=y4 (m+1) F l (bl.map (bB F)) k a6 a7 w x rw (some (.int (ai x.row*2^F|||ai rw*2^F:Nat))) (some (.str (aH (F+x.b)))) (some (.str (cO F x))) (by lia) d1
 have t5:=y5 (m+1) F l (bl.map (bB F)) k (some (.str (bv (F+w)))) a6 a7 w x rw (some (.str (aH (F+x.b)))) (ai x.row*2^F|||ai rw*2^F) (ai (xf x rw w)*2^F) (rK (by lia)) (lm _ hF) (E7 x.row rw F x.b w hxb hw) st
 have t6:=aA (T:=TT) (i:=3) (y6 (m+1) F (hp {s with items:=ax ((fb F w x rw bl).map (Bl.it F))} J) l (bl.map (bB F)) k (some (.str (bv (F+w)))) a6 a7 w x rw (some (.int (ai x.row*2^F|||ai rw*2^F:Nat))) (some (.str (aH (F+x.b)))) (KG m F _ J l k (some (.str (bv (F+w)))) a6 a7 _ _ _ bl w x _ hl) (by rw[UC];lia) hm)
 have t7:ay TT (aa TT (m+21)) MW (cP l (bl.map (bB F)) k (some (.str (bv (F+w)))) a6 a7 (some (.lst [.int ((2^(F+w):Nat):Int),.int ((ai rw*2^F:Nat):Int)])) (some (.lst [dl F x])) a10 a11 a12) (hp s J)=some (.next,cP l ((fb F w x rw bl).map (bB F)) 0 (some (.str (bv (F+w)))) a6 a7 (some (.lst [.int ((2^(F+w):Nat):Int),.int ((ai rw*2^F:Nat):Int)])) (some (.lst [dl F x])) (some (.int (ai x.row*2^F|||ai rw*2^F:Nat))) (some (.str (aH (F+x.b)))) (some (.str (cO F x))),hp {s with items:=ax ((fb F w x rw bl).map (Bl.it F))} J):=by
  unfold MW
  refine bn t1 (bn t2 (bn t3 (bn t4 (bn t5 (bn t6 ?_)))))
  rfl
 exact aZ (b:=true) (H1:=hp s J) (tC (n:=m+20) (u:=.int 1) (w:=.int 1) (H1:=hp s J) rfl rfl rfl) t7
end
end
section
def bt(F:Nat)(q:List Nat):List Str:=q.map λb=>bv (F+b)
theorem gx(F:Nat)(q:List Nat):(bt F q).length=q.length:=UC _
theorem KF(m F:Nat)(s:HS)(J:AH)(k:Nat)(a5 a6 a7 a8 a9 a10 a11 a12:Option AV)(w:Nat)(q:List Nat)(bl:List Bl)(x:Bl)(hF:F<32)(hw:w<5)(hx:x∈bl)(hxw:x.b=w)(ho:∀ y∈bl,y.Ok F)(hn:(bl.map Bl.b).Nodup)(hl:bl.length<=100)(hq:q.length<=900):
  ∃ a6' a7' J',∀{X},am TT (aa TT (m+22)) vw (cP (bt F q) (bl.map (bB F)) k (some (.str (bv (F+w)))) a6' a7' (some (.lst [.int ((2^(F+w):Nat):Int),.int ((ai x.row*2^F:Nat):Int)])) (some (.lst ((bl.filter (bL w)).map (dl F)))) a10 a11 a12) (hp {s with pb:=ag (bt F q),items:=ax (bl.map (Bl.it F))} J')=X->(aa TT (m+23)).b Je (cP (bt F (w::q)) (bl.map (bB F)) k a5 a6 a7 a8 a9 a10 a11 a12) (hp {s with pb:=ag (bt F (w::q)),items:=ax (bl.map (Bl.it F))} J)=X:=by
 have hq':(bt F q).length<=900:=by rw[gx];exact hq
 have e5:=λst=>Sq m {s with pb:=ag (bt F (w::q)),items:=ax (bl.map (Bl.it F))} J (bt F (w::q)) st k a5 a6 a7 a8 a9 a10 a11 a12 (bv (F+w)) (bt F q) rfl hq'
 have e6:=λl st=>Sr m F {s with pb:=ag (bt F q),items:=ax (bl.map (Bl.it F))} J l st k a6 a7 a8 a9 a10 a11 a12 w bl x hF hw hx hxw rfl ho hn hl
 have e7:=λl st a5 a6=>Ss m F {s with pb:=ag (bt F q),items:=ax (bl.map (Bl.it F))} J l st k a5 a6 a7 a8 a9 a10 a11 a12 bl hF rfl ho hl
 have e8:=λJ=>Su m F {s with pb:=ag (bt F q),items:=ax (bl.map (Bl.it F))} J k a8 a9 a10 a11 a12 (bv (F+w)) (bt F q) bl (x.it F).2 hl
 have e9:=λJ l st a5 a7=>Sv m F {s with pb:=ag (bt F q),items:=ax (bl.map (Bl.it F))} J l st k a5 a7 a8 a9 a10 a11 a12 x hF (ho x hx).lt
 have e10:=λJ st a5 a6 a7 a8=>Qr m {s with pb:=ag (bt F q),items:=ax (bl.map (Bl.it F))} J st k a5 a6 a7 a8 a9 a10 a11 a12 (bv (F+w)) (bt F q) hq'
 have e11:=λJ l st a5 a6 v8=>Qs m F {s with pb:=ag (bt F q),items:=ax (bl.map (Bl.it F))} J l st k a5 a6 a9 a10 a11 a12 w v8 bl hw hl
 refine⟨some (.tup [.str (x.it F).2,.str (x.it F).2]),some (.lst (bl.map (dl F))),J++[.list (ax (bl.map (Bl.it F)))]++bl.map (lN F)++[lN F x],?_⟩
 intro X hX
 show ay TT (aa TT (m+22)) Je _ _=X
 have e9':=e9 (J++[.list (ax (bl.map (Bl.it F)))]++bl.map (lN F)) (bv (F+w)::bt F q) (bl.map (bB F)) (some (.str (bv (F+w)))) (some (.lst (bl.map (dl F))))
 rw[hxw] at e9'
 exact bn (e5 _) (bn (e6 _ _) (bn (e7 _ _ _ _) (bn (e8 _) (bn e9' (bn (e10 _ _ _ _ _ _) (bn (e11 _ _ _ _ _ _) (dz hX)))))))
end
section
structure gC(g over:V5 (V5 Bool))(gone:V5 Bool)(F:Nat)(rest:List Nat)(rows:V5 (V5 Bool))(bl:List Bl)(q1 q2:List Nat):Prop where
 bls:yX F rest rows bl
 chk:jt ab g over gone (rest.length+1) rest rows=true
 nd:rest.Nodup
 lt:∀ b∈rest,b≠0/\b<5
 qnd:(q1++q2).Nodup
 qm:∀ b,b∈q1++q2↔b∈rest
 idle:∀ b∈q2,jN ab rows b=false
theorem Lz{F:Nat}{rest:List Nat}{rows:V5 (V5 Bool)}{bl:List Bl}(B:yX F rest rows bl):bl.length<=100:=by
 have h1:(bl.map Bl.b).length<=(UD 5).length:=by
  refine VB B.nd λb hb=>?_
  obtain⟨x,hx,rfl⟩:=UY.mp hb
  exact UR.mpr (B.ok x hx).lt
 rw[UC,WA] at h1
 lia
theorem oq{g over:V5 (V5 Bool)}{gone:V5 Bool}{F:Nat}{rest:List Nat}{rows:V5 (V5 Bool)}{bl:List Bl}{q1 q2:List Nat}(h:gC g over gone F rest rows bl q1 q2):q1.length+q2.length=rest.length/\rest.length<=4:=by
 have h1:(q1++q2).length<=rest.length:=VB h.qnd λb hb=>(h.qm b).mp hb
 have h2:rest.length<=(q1++q2).length:=VB h.nd λb hb=>(h.qm b).mpr hb
 have h3:rest.length<=[1,2,3,4].length:=VB h.nd λb hb=>by
  have:=h.lt b hb
  simp only[U0,VN,or_false]
  lia
 rw[UM] at h1 h2
 simp only[UU,V2] at h3
 lia
theorem KB(r:R)(H:AH)(l:List Str)(h:l.length<=900):bj TT r (.g (.builtin "len")) [.lst (ag l)] [] H=some (.int l.length,H):=by
 rw[Mm (l:=ag l) rfl (by unfold ag;rw[UC];lia)]
 unfold ag;rw[UC]
abbrev mH(F:Nat)(s:HS)(q:List Nat)(bl:List Bl)(J:AH):AH:=hp {s with pb:=ag (bt F q),items:=ax (bl.map (Bl.it F))} J
inductive y0(F:Nat)(q:List Nat)(bl:List Bl)(k:Nat):ae->Prop
 |mk {a5 a6 a7 a8 a9 a10 a11 a12:Option AV}:y0 F q bl k (cP (bt F q) (bl.map (bB F)) k a5 a6 a7 a8 a9 a10 a11 a12)
section
variable {m F k:Nat}{g over:V5 (V5 Bool)}{gone:V5 Bool}{s:HS}{J:AH}{rest:List Nat}{rows:V5 (V5 Bool)}{bl:List Bl}{w:Nat}{q q1 q2:List Nat}{ρ:ae}{C:Prop}
theorem z6(h:y0 F q bl k ρ)(hq:q.length<=900):(aa TT (m+23)).t MV ρ (mH F s q bl J)=some (decide (k<q.length),mH F s q bl J):=by
 cases h
 have e1:=KB (aa TT (m+20)) (mH F s q bl J) (bt F q) (by rw[gx];exact hq)
 rw[gx] at e1
 exact tC (n:=m+21) (u:=.int k) (w:=.int q.length) rfl (xK (n:=m+19) (vs:=[.lst (ag (bt F q))]) rfl e1) (congrArg some (decide_eq_decide.mpr Wr))
theorem PD(W:gC g over gone F rest rows bl (w::q1) q2):w∈rest/\w≠0/\w<5:=have h:=(W.qm w).mp (.head _);⟨h,W.lt w h⟩
theorem Rn(W:gC g over gone F rest rows bl q1 q2):(i0 ab (dw ab rest λw=>!jN ab rows w) (pk ab g over gone rest rows)&&dw ab rest λw=>i0 ab (jN ab rows w) (jt ab g over gone rest.length (rest.erase w) (iz ab rows w)))=true:=W.chk
theorem ET(W:gC g over gone F rest rows bl (w::q1) q2)(hF:F<32){d:Bl}(hd:bl.filter (bL w)=[d]):gC g over gone F (rest.erase w) (iz ab rows w) (fb F w d (rows.get w) bl) (q1++q2) []:=by
 obtain⟨hw,h0,h5⟩:=PD W
 have hn:=W5.mp W.qnd
 refine⟨Gd hF W.bls h5 h0 hd W.nd,?_,W.nd.erase _,λb hb=>W.lt b (List.mem_of_mem_erase hb),(U8 (q1++q2)).symm▸hn.2,λb=>?_,λ_ h=>absurd h VN⟩
 ·have h2:=lM.mp (eJ.mp (U6 _ _▸Rn W).2 w hw) ((Av W.bls w).trans (decide_eq_true (by rw[hd];rfl)))
  rw[ZP hw,Nat.sub_add_cancel (List.length_pos_of_mem hw)]
  exact h2
 ·rw[U8,List.Nodup.mem_erase_iff W.nd,<-W.qm b]
  exact⟨λhb=>⟨λe=>hn.1 (e▸hb),.tail _ hb⟩,λh=>(U0.mp h.2).resolve_left h.1⟩
theorem Lf(W:gC g over gone F rest rows bl (w::q1) q2)(hd:(bl.filter (bL w)).length≠1):gC g over gone F rest rows bl q1 (q2++[w]):=
 have p:(q1++(q2++[w])).Perm (w::q1++q2):=U3 q1 q2 [w]▸List.perm_append_singleton w (q1++q2)
 ⟨W.bls,W.chk,W.nd,W.lt,p.symm.nodup W.qnd,λb=>p.mem_iff.trans (W.qm b),λb hb=>(Ve.mp hb).elim (W.idle b) λh=>US.mp h▸(Av W.bls w).trans (decide_eq_false hd)⟩
theorem KC(F:Nat)(a b:List Nat):bt F (a++b)=bt F a++bt F b:=Vt
theorem KH(hF:F<32)(W:gC g over gone F rest rows bl (w::q1) q2)(hρ:y0 F (w::q1++q2) bl q2.length ρ)
  (K:∀{rest' rows' bl' q1' q2' q' ρ' J'},gC g over gone F rest' rows' bl' q1' q2'->q1'++q2'=q'->6*rest'.length+q1'.length<6*rest.length+(q1.length+1)->y0 F q' bl' q2'.length ρ'->(aa TT (m+23)).b Je ρ (mH F s (w::q1++q2) bl J)=some (.next,ρ',mH F s q' bl' J')->C):C:=by
 obtain⟨hwr,hw0,hw⟩:=PD W
 obtain⟨x,hx,hxw⟩:=UY.mp ((W.bls.all w).mpr (.inr hwr))
 have hl:=Lz W.bls
 have hq:(q1++q2).length<=900:=by
  have:=oq W
  rw[UU] at this
  rw[UM];lia
 cases hρ with | @mk a5 a6 a7 a8 a9 a10 a11 a12=>
 obtain⟨a6',a7',J',hh⟩:=KF m F s J q2.length a5 a6 a7 a8 a9 a10 a11 a12 w (q1++q2) bl x hF hw hx hxw W.bls.ok W.bls.nd hl hq
 rw[show x.row=rows.get w from hxw▸W.bls.row x hx] at hh
 refine Decidable.byCases (p:=(bl.filter (bL w)).length=1) (λhd=>?_) λhd=>?_
 ·obtain⟨d,hd⟩:=V7.mp hd
  rw[hd] at hh
  obtain⟨b10,b11,b12,hy⟩:=MX m F {s with pb:=ag (bt F (q1++q2)),items:=ax (bl.map (Bl.it F))} J' (bt F (q1++q2)) q2.length a6' a7' a10 a11 a12 bl w d (rows.get w) hF hw (W.bls.ok d (UZ.mp (show d∈bl.filter (bL w) by rw[hd];exact .head _)).1) W.bls.ok rfl hl
  have e:=hh hy
  refine K (ET W hF hd) (U8 _) ?_ .mk e
  have:=ZP hwr
  have:=List.length_pos_of_mem hwr
  have:=oq W
  rw[UU] at this
  rw[UM];lia
 ·have e:=hh (Qt m {s with pb:=ag (bt F (q1++q2)),items:=ax (bl.map (Bl.it F))} J' (bt F (q1++q2)) (bl.map (bB F)) q2.length a6' a7' _ a10 a11 a12 (bv (F+w)) ((bl.filter (bL w)).map (dl F)) (by rw[UC];exact hd) (by rw[UC];exact UH (Vb _ _) hl) rfl (by rw[gx];exact hq))
  rw[show bt F (q1++q2)++[bv (F+w)]=bt F (q1++(q2++[w])) from U3 q1 q2 [w]▸(KC F (q1++q2) [w]).symm,show q2.length+1=(q2++[w]).length from(UM (as:=q2) (bs:=[w])).symm] at e
  exact K (Lf W hd) rfl (XO _) .mk e
theorem z5(hF:F<32):∀(N:Nat) {rest:List Nat} {rows:V5 (V5 Bool)} {bl:List Bl} {q1 q2 q:List Nat} {k:Nat} {J:AH} {ρ:ae},gC g over gone F rest rows bl q1 q2->q1++q2=q->y0 F q bl q2.length ρ->6*rest.length+q1.length<=N->N<k->
  (∀{rest' rows' bl' q' ρ' J'},gC g over gone F rest' rows' bl' [] q'->y0 F q' bl' q'.length ρ'->cL ((aa TT (m+23)).t MV) ((aa TT (m+23)).b Je) k ρ (mH F s q bl J)=some (.next,ρ',mH F s q' bl' J')->C)->C
 |_,_,_,_,_,_,_,0,_,_,_,_,_,_,hk,_=>absurd hk (VU _)
 |N,rest,rows,bl,[],q2,_,k+1,J,ρ,W,rfl,hρ,_,_,K=>K W hρ (lX ((z6 hρ (by have:=oq W;rw[V2] at this;show q2.length<=900;lia)).trans (congrArg (λb=>some (b,_)) (decide_eq_false (Nat.lt_irrefl _)))))
 |0,_,_,_,_::_,_,_,_+1,_,_,_,_,_,hN,_,_=>absurd hN (Nat.not_le_of_lt (U7 (Zb _) (Nat.le_add_left _ _)))
 |N+1,rest,rows,bl,w::q1,q2,_,k+1,J,ρ,W,rfl,hρ,hN,hk,K=>by
  have ht:=z6 (m:=m) (s:=s) (J:=J) hρ (by have:=oq W;rw[UM];lia)
  rw[decide_eq_true (show q2.length<(w::q1++q2).length by rw[UM,UU];lia)] at ht
  exact KH hF W hρ λW' hq hl hρ' e=>z5 hF N W' hq hρ' (Nat.le_of_lt_succ (U7 hl hN)) (Vw hk) λW2 h2 e2=>K W2 h2 ((lr ht e).trans e2)
end
structure lz(g over:V5 (V5 Bool))(gone:V5 Bool)(F:Nat)(bl:List Bl)(q:List Nat):Prop where
 ok:∀ x∈bl,x.Ok F
 nd:(bl.map Bl.b).Nodup
 mem:∀ b,b<5->(b∈bl.map Bl.b↔gone.get b=false)
 row:∀ x∈bl,x.row=c5 ab g over gone x.b
 zero:gone.get 0=false
 qmem:∀ b∈q,b<5
 qlen:q.length<=4
theorem Kt{g over:V5 (V5 Bool)}{gone:V5 Bool}{F:Nat}{rest:List Nat}{rows:V5 (V5 Bool)}{bl:List Bl}{q:List Nat}(W:gC g over gone F rest rows bl [] q):lz g over gone F bl q:=by
 have hc:=W.chk
 rw[jt] at hc
 have hc2:(i0 ab (dw ab rest λw=>!jN ab rows w) (pk ab g over gone rest rows)&&dw ab rest λw=>i0 ab (jN ab rows w) (jt ab g over gone rest.length (rest.erase w) (iz ab rows w)))=true:=hc
 rw[U6] at hc2
 have hf:=lM.mp hc2.1 (eJ.mpr λw hw=>by
  have:=W.idle w ((W.qm w).mpr hw)
  rw[this];rfl)
 unfold pk at hf
 rw[eJ] at hf
 have hfin:∀ b,b<5->(if b=0∨b∈rest then(!gone.get b&&pi ab (rows.get b) (c5 ab g over gone b)) else gone.get b)=true:=λb hb=>hf b (pF.mpr hb)
 refine⟨W.bls.ok,W.bls.nd,λb hb=>?_,λx hx=>?_,?_,λb hb=>(W.lt b ((W.qm b).mp hb)).2,?_⟩
 ·rw[W.bls.all]
  have h:=hfin b hb
  constructor
  ·intro h2
   rw[if_pos h2,U6] at h
   simpa using h.1
  ·intro h2
   refine V9 λh3=>?_
   rw[if_neg h3,h2] at h
   cases h
 ·have hb:=(W.bls.ok x hx).lt
  have h:=hfin x.b hb
  rw[if_pos ((W.bls.all x.b).mp (UY.mpr ⟨x,hx,rfl⟩)),U6] at h
  rw[W.bls.row x hx]
  exact JR.mp h.2
 ·have h:=hfin 0 (by decide)
  rw[if_pos (.inl rfl),U6] at h
  simpa using h.1
 ·have:=oq W
  simp only[V2,Wf] at this
  lia
theorem BU(m F:Nat)(g over:V5 (V5 Bool))(gone:V5 Bool)(s:HS)(J:AH)(hF:F<32)(bl:List Bl)(q:List Nat)(W:gC g over gone F dZ g bl q []):
  ∃ bl' q' J',(aa TT (m+25)).c 349 [.loc 7,.loc 14,.lst (ag (bt F q)),.lst (bl.map (bB F))] [] (mH F s q bl J)=some (.lst [.lst (ag (bt F q')),.lst (bl'.map (bB F))],mH F s q' bl' J')/\lz g over gone F bl' q':=by
 have hql:=(oq W).1
 refine z5 (m:=m) (s:=s) (J:=J) hF 100 (k:=1000) W (U8 q) (.mk (a5:=none) (a6:=none) (a7:=none) (a8:=none) (a9:=none) (a10:=none) (a11:=none) (a12:=none)) (by rw[V2,Zf] at hql;rw[hql];decide) (UG rfl) λ{_ _ _ _ _ J'} W' h e=>?_
 refine⟨_,_,J',?_,Kt W'⟩
 cases h
 exact fr (n:=m+23) (g:=kP) (ρ:=[some (.loc 7),some (.loc 14),some (.lst (ag (bt F q))),some (.lst (bl.map (bB F))),none,none,none,none,none,none,none,none,none]) rfl rfl
  (bn (aA (i:=4) (v:=.int 0) rfl) (bn (CF.trans e) (br (cB (tP (eB rfl rfl))))))
end
section
noncomputable def aq(l t:List AV):ae:=l.map some++(U2 (25-l.length) none++t.map some)
noncomputable def DN:IE:=(.var 28)
def DO:IE:=(.bin .Add (.var 26) (.call (dK "sum") [(.comp false DN wW)] []))
def RN:IS:=.set 1 (.comp false DO wX)
noncomputable def DP:List IG:=[(.mk (.one 25) (.call (cz "range") [(ac 5)] []) [])]
def RO:IS:=.set 2 (.bin .Add (.list false [(.tup [(ac 0),(ac 1)]),(.tup [(.bin .Mod (.sub (.var 1) (ac 0)) (ac 2)),(ac 2)]),(.tup [(.bin .Mod (.bin .FloorDiv (.sub (.var 1) (ac 0)) (ac 2)) (ac 3)),(ac 3)]),(.tup [(.bin .Mod (.bin .FloorDiv (.sub (.var 1) (ac 0)) (ac 6)) (ac 4)),(ac 4)])]) (.comp false wY DP))
noncomputable def sJ:IE:=(.var 27)
def MB:IS:=.ite (.cmp .NotEq (.var 10) (.bin .Add (.comp false sJ sK) (.list false [(ac 0)]))) [.ret (.con (.bool false))] []
noncomputable def zJ:IE:=(.var 25)
def FQ:IS:=.ite (.cmp .NotEq (.comp false zJ sL) (.list false [])) [.ret (.con (.bool false))] []
noncomputable def zK:List IG:=[(.mk (.one 26) (.call (cz "range") [(ac 5)] []) [(.and [(.cmp .In (.tup [(.var 25),(.var 26)]) (.var 11)),(.cmp .NotEq (.var 26) (.var 25))])])]
def zL:IE:=(.call (dK "sum") [(.comp false sN zK)] [])
noncomputable def zM:List IG:=[(.mk (.one 25) (.call (cz "range") [(ac 5)] []) [])]
def MC:IS:=.set 12 (.comp false zL zM)
noncomputable def zN:List IG:=[(.mk (.one 25) (.call (cz "range") [(ac 5)] []) [])]
def MD:IS:=.set 16 (.comp false sO zN)
noncomputable def zQ:List IG:=[(.mk (.one 25) (.var 17) [])]
def ME:IS:=.ite (.cmp .NotEq (.comp false sP zQ) (.bin .Mult (.list false [(.con .none)]) (ac 4))) [.ret (.con (.bool false))] []
noncomputable def zR:IE:=(.tup [(.var 25),(.var 26)])
def MG:IS:=.set 19 (.call (aY "_law_melted" 349) [(.var 9),(.var 15),(.var 17),(.comp false zR sQ)] [])
noncomputable def zU:List IG:=[(.mk (.one 25) (.var 21) [])]
noncomputable def sW:IE:=(.sub (.var 16) (.var 25))
noncomputable def zV:List IG:=[(.mk (.many [25,26]) (.var 22) [])]
def MH:IS:=.ite (.cmp .NotEq (.call (aY "pretty_flags" 46) [(.call (dK "sum") [(.comp false n7 zU)] [])] []) (.call (aY "_law_words" 310) [(.call (dK "sum") [(.comp false sW zV)] []),(.var 5)] [])) [.ret (.con (.bool false))] []
noncomputable def zW:List IG:=[(.mk (.one 25) (.var 16) [])]
def MJ:IS:=.set 23 (.bin .Add (.comp false sX zW) (.list false [(.con (.str (UO #[69,77,80,84,89])))]))
noncomputable def zX:IE:=(.var 25)
def MK:IS:=.ite (.cmp .NotEq (.comp false zX sY) (.list false [])) [.ret (.con (.bool false))] []
noncomputable def Sp:IS:=.expr (.meth (.var 9) .pushToken [(.con (.str (UO #[97])))] [])
noncomputable def zY:IE:=(.tup [(.var 25),(.var 25)])
noncomputable def zZ:List IG:=[(.mk (.one 25) (.var 24) [])]
def ML:IS:=.ret (.and [(.cmp .Eq (.attr (.var 9) .lineno) (.var 18)),(.cmp .Eq (.call (aY "_law_handed" 359) [(.var 9),(.var 24)] []) (.comp false zY zZ)),(.cmp .Eq (.attr (.var 9) .lineno) (.bin .Add (ac 1) (.meth (.var 8) .count [(.con (.str (UO #[10])))] [])))])
theorem FI:Bk=[RN,RO,MF,MI,MM,MN,MO,MP,MQ,MR,MB,FQ,FR,MC,FT,FU,FV,MD,FW,ME,FX,MG,FY,FZ,F4,F5,F6,F7,MH,F8,MJ,MK,BQ,Sp,F9,ML]:=rfl
end
section
theorem fm(x:Int){k:Nat}(hk: 0<k):x.fmod (k:Int)=(((x.fmod (k:Int)).toNat:Nat):Int)/\(x.fmod (k:Int)).toNat<k:=by
 have h1:=Int.fmod_nonneg_of_pos x (show(0:Int)<(k:Int) by omega)
 have h2:=Int.fmod_lt_of_pos x (show(0:Int)<(k:Int) by omega)
 omega
noncomputable def ze(c:Int)(b:Nat):Nat:=(((c.fdiv 24).fdiv ((5^b:Nat):Int)).fmod 5).toNat
def cq(c:Int):List (Nat×Nat):=[(0,1),((c.fmod 2).toNat,2),(((c.fdiv 2).fmod 3).toNat,3),(((c.fdiv 6).fmod 4).toNat,4)]++(UD 5).map λb=>(b,ze c b)
noncomputable def k0(c:Int):Nat:=(c.fmod 48).toNat
noncomputable def dJ(c:Int):Nat:=[1,5,7,11].getD ((c.fdiv 48).fmod 4).toNat 0
def k1(c:Int):Nat:=((c+(dJ c:Int)).fmod 48).toNat
noncomputable def wN(c:Int):Nat:=((c.fdiv 192).fmod 8).toNat
noncomputable def fN(c:Int):Nat:=((c.fdiv 3072).fmod 32).toNat
section
variable (m:Nat)(sc:AV)(c0 c1:Int)(H:AH)
theorem TC:am TT (aa TT (m+38)) RO (aq [sc,.lst [.int c0,.int c1]] []) H=some (.next,(aq [sc,.lst [.int c0,.int c1],.lst ((cq c0).map bh)] []),H):=by
 have e1:ao TT (aa TT (m+36)) wY DP (aq [sc,.lst [.int c0,.int c1]] []) H=some ((UD 5).map λb=>bh (b,ze c0 b),H):=by
  refine iH (dq (n:=5) rfl (by decide)) λi hi=>?_
  have hi:=UR.mp hi
  have p1:bp H .Pow (.int 5) (.int (i:Int))=some (.int ((5^i:Nat):Int)):=by
   rw[R8 ⟨by omega,by omega,by decide⟩,VP];push_cast;rfl
  have p2: 5^i<=625:=by
   have: 5^i<=5^4:=VD (by decide) (by omega)
   omega
  have p3: 0<5^i:=Nat.pow_pos (by decide)
  have d2:=R7 (H:=H) (x:=c0.fdiv 24) (y:=((5^i:Nat):Int)) (by omega) (by omega)
  have d3:=Bi (H:=H) (x:=(c0.fdiv 24).fdiv ((5^i:Nat):Int)) (y:=5) (by decide)
  have d4:((c0.fdiv 24).fdiv ((5^i:Nat):Int)).fmod 5=(ze c0 i:Int):=(fm _ (k:=5) (by decide)).1
  exact qn (n:=m+35) (eB rfl (xB (n:=m+34) (w:=.int 5) (xB (n:=m+33) (u:=.int (c0.fdiv 24)) rfl (xB (n:=m+32) (u:=.int 5) (w:=.int (i:Nat)) rfl rfl p1) d2) rfl (d3.trans (congrArg (λx=>some (AV.int x)) d4))))
 have f1:c0.fmod 2=(((c0.fmod 2).toNat:Nat):Int):=(fm c0 (k:=2) (by decide)).1
 have f2:(c0.fdiv 2).fmod 3=((((c0.fdiv 2).fmod 3).toNat:Nat):Int):=(fm _ (k:=3) (by decide)).1
 have f3:(c0.fdiv 6).fmod 4=((((c0.fdiv 6).fmod 4).toNat:Nat):Int):=(fm _ (k:=4) (by decide)).1
 have a1:bp H .Add (.lst [.tup [.int 0,.int 1],.tup [.int (c0.fmod 2),.int 2],.tup [.int ((c0.fdiv 2).fmod 3),.int 3],.tup [.int ((c0.fdiv 6).fmod 4),.int 4]]) (.lst ((UD 5).map λb=>bh (b,ze c0 b)))=some (.lst ((cq c0).map bh)):=by
  rw[ga rfl rfl (by simp)]
  unfold cq
  rw[Vt,UX]
  refine congrArg (λl=>some (AV.lst (l++_))) ?_
  show[AV.tup [.int 0,.int 1],.tup [.int (c0.fmod 2),.int 2],.tup [.int ((c0.fdiv 2).fmod 3),.int 3],.tup [.int ((c0.fdiv 6).fmod 4),.int 4]]=[.tup [.int 0,.int 1],.tup [.int (((c0.fmod 2).toNat:Nat):Int),.int 2],.tup [.int ((((c0.fdiv 2).fmod 3).toNat:Nat):Int),.int 3],.tup [.int ((((c0.fdiv 6).fmod 4).toNat:Nat):Int),.int 4]]
  rw[<-f1,<-f2,<-f3]
 exact aA (xB (n:=m+37) rfl (aN e1 (UG rfl)) a1)
theorem TD(dr:AV):am TT (aa TT (m+38)) MF (aq [sc,.lst [.int c0,.int c1],dr] []) H=some (.next,(aq [sc,.lst [.int c0,.int c1],dr,.lst [.int (7+(k0 c1:Int)),.int (7+(k1 c1:Int))]] []),H):=by
 have f4:(c1.fdiv 48).fmod 4=((((c1.fdiv 48).fmod 4).toNat:Nat):Int):=(fm _ (k:=4) (by decide)).1
 have h4:((c1.fdiv 48).fmod 4).toNat<4:=(fm (c1.fdiv 48) (k:=4) (by decide)).2
 have s1:∀ H,c7 TT (.lst [.int 1,.int 5,.int 7,.int 11]) (.int ((c1.fdiv 48).fmod 4)) H=some (.int (dJ c1:Int)):=λH=>by
  rw[f4,iQ dL,dC _ (by omega)]
  unfold dJ
  revert h4
  generalize ((c1.fdiv 48).fmod 4).toNat=j
  intro h4
  match j,h4 with
  |0,_=>rfl
  |1,_=>rfl
  |2,_=>rfl
  |3,_=>rfl
 have e1:ao TT (aa TT (m+37)) DQ DS (aq [sc,.lst [.int c0,.int c1],dr] []) H=some ((UD 2).map λi=>AV.int (7+(if i=0 then(k0 c1:Int) else(k1 c1:Int))),H):=by
  refine iH (dq (n:=2) rfl (by decide)) λi hi=>?_
  have hi:=UR.mp hi
  have m1:=E1 (H:=H) (x:=(i:Int)) (y:=(dJ c1:Int)) (by omega)
  have d3:=Bi (H:=H) (x:=c1+(i:Int)*(dJ c1:Int)) (y:=48) (by decide)
  have v:(c1+(i:Int)*(dJ c1:Int)).fmod 48=if i=0 then(k0 c1:Int) else(k1 c1:Int):=by
   match i,hi with
   |0,_=>
    rw[if_pos rfl]
    show(c1+0*(dJ c1:Int)).fmod 48=_
    rw[Int.zero_mul,Int.add_zero]
    exact(fm c1 (k:=48) (by decide)).1
   |1,_=>
    rw[if_neg (by decide)]
    show(c1+1*(dJ c1:Int)).fmod 48=_
    rw[Int.one_mul]
    exact(fm _ (k:=48) (by decide)).1
  exact xB (n:=m+36) (u:=.int 7) (w:=.int (if i=0 then(k0 c1:Int) else(k1 c1:Int))) rfl (xB (n:=m+35) (u:=.int (c1+i*(dJ c1:Int))) (w:=.int 48) (xB (n:=m+34) (u:=.int c1) rfl (xB (n:=m+33) (u:=.int (i:Nat)) (w:=.int (dJ c1:Int)) rfl (bF (n:=m+32) (u:=.lst [.int 1,.int 5,.int 7,.int 11]) (w:=.int ((c1.fdiv 48).fmod 4)) rfl rfl (s1 H)) m1) rfl) rfl (d3.trans (congrArg (λx=>some (AV.int x)) v))) rfl
 exact aA (aN e1 (UG rfl))
theorem TG(dr kd:AV):am TT (aa TT (m+38)) MI (aq [sc,.lst [.int c0,.int c1],dr,kd] []) H=some (.next,(aq [sc,.lst [.int c0,.int c1],dr,kd,.str (af (gP (wN c1)))] []),H):=by
 have f1:(c1.fdiv 192).fmod 8=(wN c1:Int):=(fm _ (k:=8) (by decide)).1
 have h1:wN c1<8:=(fm (c1.fdiv 192) (k:=8) (by decide)).2
 have m2:Txt.mul (UO #[34,92,35,63,36,95,32,10]) 2=af (cA++cA):=by decide +kernel
 have a1:(wN c1:Int)+5=((wN c1+5:Nat):Int):=by omega
 have c1':eU false (.str (af (cA++cA))) (some (wN c1:Int)) (some ((wN c1+5:Nat):Int)) H=some (.str (af (gP (wN c1))),H):=by
  have:cutL (cA++cA) (some (wN c1:Int)) (some ((wN c1+5:Nat):Int))=gP (wN c1):=by
   unfold cutL gP
   rw[(vq _ _).1,(vq _ _).2]
   have hl:(cA++cA).length=16:=rfl
   rw[hl,Yd (by omega),Yd (by omega),Nat.add_sub_cancel_left]
  show aw (aW (af (cA++cA)).length) (some (AV.str ⟨(cutL (cA++cA) (some (wN c1:Int)) (some ((wN c1+5:Nat):Int))).toArray⟩,H))=_
  rw[this];rfl
 have key:eU false (.str (Txt.mul (UO #[34,92,35,63,36,95,32,10]) 2)) (some ((c1.fdiv 192).fmod 8)) (some ((c1.fdiv 192).fmod 8+5)) H=some (.str (af (gP (wN c1))),H):=by rw[m2,f1,a1];exact c1'
 exact aA key
theorem TH(dr kd nm:AV):am TT (aa TT (m+38)) MM (aq [sc,.lst [.int c0,.int c1],dr,kd,nm] []) H=some (.next,(aq [sc,.lst [.int c0,.int c1],dr,kd,nm,.int (fN c1)] []),H):=by
 have f1:(c1.fdiv 3072).fmod 32=(fN c1:Int):=(fm _ (k:=32) (by decide)).1
 exact aA (v:=.int (fN c1)) (show(aa TT (m+38)).e _ _ _=some (AV.int (fN c1),H) from f1▸rfl)
theorem TJ(cs dr kd nm fi:AV):am TT (aa TT (m+38)) MN (aq [sc,cs,dr,kd,nm,fi] []) H=some (.next,(aq [sc,cs,dr,kd,nm,fi,.lst (ag (gt.map af))] []),H):=aA (KU (m+32) H)
end
theorem Sn(c:Int):k0 c≠k1 c:=by
 have h1:=(fm c (k:=48) (by decide)).1
 have h2:=(fm (c+(dJ c:Int)) (k:=48) (by decide)).1
 have h4:((c.fdiv 48).fmod 4).toNat<4:=(fm (c.fdiv 48) (k:=4) (by decide)).2
 have hs:dJ c=1∨dJ c=5∨dJ c=7∨dJ c=11:=by
  unfold dJ
  revert h4
  generalize ((c.fdiv 48).fmod 4).toNat=j
  intro h4
  match j,h4 with
  |0,_=>exact .inl rfl
  |1,_=>exact .inr (.inl rfl)
  |2,_=>exact .inr (.inr (.inl rfl))
  |3,_=>exact .inr (.inr (.inr rfl))
 intro h
 have h3:c.fmod 48=(c+(dJ c:Int)).fmod 48:=by
  refine h1.trans (Eq.trans ?_ h2.symm)
  exact congrArg (λn:Nat=>(n:Int)) h
 rw[Xe _ (by decide),Xe _ (by decide)] at h3
 omega
end
section
section
variable {T:c8}{r:R}{ρ:ae}{H H1:AH}{γ:Type}
theorem uh{elt it:IE}{a b:Nat}{l:List γ}{F:γ->AV}(f:γ->AV){ρ1:γ->ae}(hs:aO r it ρ H=some (.pairs (l.map F),H1))(hb:∀ x∈l,be (.many [a,b]) (F x) (ρ++[none,none])=some (ρ1 x))(h2:∀ x∈l,r.e elt (ρ1 x) H1=some (f x,H1)):
  ao T r elt [.mk (.many [a,b]) it []] ρ H=some (l.map f,H1):=by
 rw[ao,hs,<-lG f]
 exact m5 (g:=λx=>[f x]) λx hx=>gY (hb x hx) rfl (h2 x hx)
theorem Fw{elt it it2:IE}{a b c:Nat}{l:List γ}{F:γ->AV}(f:γ->List AV){ρ1:γ->ae}(hs:aO r it ρ H=some (.pairs (l.map F),H1))(hb:∀ x∈l,be (.many [a,b]) (F x) (ρ++[none,none])=some (ρ1 x))(h2:∀ x∈l,ao T r elt [.mk (.one c) it2 []] (ρ1 x) H1=some (f x,H1)):
  ao T r elt [.mk (.many [a,b]) it [],.mk (.one c) it2 []] ρ H=some (l.flatMap f,H1):=by
 rw[ao,hs]
 exact m5 (g:=f) λx hx=>(congrArg (ob · λρ=>ah (bk r [] ρ H1) λt H=>bif t then ao T r elt [.mk (.one c) it2 []] ρ H else some ([],H)) (hb x hx)).trans (h2 x hx)
end
noncomputable def eO(K0 K1:Nat)(q:(Nat×Nat)×Nat):fR:=if q.2%2=0 then⟨q.1.1,K0,q.1.2⟩ else⟨q.1.2,K1,q.1.1⟩
def aS(K0 K1:Nat)(dr:List (Nat×Nat)):List fR:=dr.zipIdx.map (eO K0 K1)
def LP(q:(Nat×Nat)×Nat):AV:=.tup [.int (q.2:Nat),bh q.1]
theorem we(dr:List (Nat×Nat)):eh (dr.map bh)=dr.zipIdx.map LP:=by
 rw[jw,Zw,UX];rfl
theorem A4{dr:List (Nat×Nat)}{q:(Nat×Nat)×Nat}(h:q∈dr.zipIdx):q.1∈dr:=by
 obtain⟨a,b⟩:=q
 exact(Zx (Xh▸h)).1
section
variable (T:c8)(H:AH)
theorem EH{nml:List Nat}(hl:nml.length=5){i:Nat}(hi:i<5):c7 T (.str (af nml)) (.int (i:Int)) H=some (.str (af [nml.getD i 0])):=by
 have h:nml[i]? =some (nml.getD i 0):=by
  rw[List.getD_eq_getElem?_getD,List.getElem?_eq_getElem (by lia)];rfl
 rw[yr,pH,dC _ (by lia),h];rfl
theorem Aw:gt.length=48:=rfl
theorem Pr{k:Nat}(hk:k<48):c7 T (.lst (ag (gt.map af))) (.int (k:Int)) H=some (.str (af (gA k))):=by
 have h:gt[k]? =some (gA k):=by
  unfold gA
  rw[List.getD_eq_getElem?_getD,List.getElem?_eq_getElem (by rw[Aw];exact hk)];rfl
 rw[iQ dL,dC _ (by lia)]
 unfold ag
 rw[List.getElem?_map,List.getElem?_map,h];rfl
end
theorem EW(H:AH)(a b:List Nat)(h:a.length+b.length<=1000):bp H .Add (.str (af a)) (.str (af b))=some (.str (af (a++b))):=by
 rw[n0 (by rw[bS,bS];lia),fE]
section
variable (m:Nat)(sc cs:AV)(K0 K1:Nat)(H:AH)(dr:List (Nat×Nat))(nml:List Nat)(fi:AV)
theorem w8{ρ:ae}{H:AH}{i j:Nat}(h25:ρ[25]? =some (some (.int (i:Nat))))(hj:i%2=j)(n:Nat):(aa TT (n+2)).e (.bin .Mod (.var 25) (ac 2)) ρ H=some (.int (j:Nat),H):=xB (n:=n+1) (dF h25) rfl (congrArg (λx=>some (AV.int x)) ((IY i).trans (congrArg (λn:Nat=>(n:Int)) hj)))
theorem u4{ρ:ae}{i j x y K:Nat}{p kd:AV}(h25:ρ[25]? =some (some (.int (i:Nat))))(hj:i%2=j)(h26:ρ[26]? =some (some p))(h4:ρ[4]? =some (some (.str (af nml))))(h3:ρ[3]? =some (some kd))(h6:ρ[6]? =some (some (.lst (ag (gt.map af)))))(sx:c7 TT p (.int (j:Nat)) H=some (.int x))(sy:c7 TT p (.int (1-j)) H=some (.int y))(sk:c7 TT kd (.int (j:Nat)) H=some (.int (7+K)))(hx:x<5)(hy:y<5)(hK:K<48)(hn:nml.length=5):(aa TT (m+35)).e rh ρ H=some (.str (af (eF nml ⟨x,K,y⟩)),H):=
 have o:=(Cs hK).2.1
 have md:=w8 h25 hj (H:=H)
 xB (n:=m+34) (xB (n:=m+33) (bF (n:=m+32) (dF h4) (bF (n:=m+31) (dF h26) (md (m+29)) sx) (EH TT H hn hx)) (bF (n:=m+32) (dF h6) (xB (n:=m+31) (bF (n:=m+30) (dF h3) (md (m+28)) sk) rfl (congrArg (λx=>some (AV.int x)) (show(7+(K:Int))-7=K by lia))) (Pr TT H hK)) (EW H [nml.getD x 0] (gA K) (by rw[Vl];lia)))
  (bF (n:=m+33) (dF h4) (bF (n:=m+32) (dF h26) (xB (n:=m+31) rfl (md (m+29)) rfl) sy) (EH TT H hn hy)) (EW H ([nml.getD x 0]++gA K) [nml.getD y 0] (by rw[UM,Vl,Vl];lia))
theorem IA(hK0:K0<48)(hK1:K1<48)(hn:nml.length=5)(q:(Nat×Nat)×Nat)(hq:q.1.1<5/\q.1.2<5)(d:AV):(aa TT (m+35)).e rh (aq [sc,cs,d,.lst [.int (7+(K0:Int)),.int (7+(K1:Int))],.str (af nml),fi,.lst (ag (gt.map af))] [.int (q.2:Nat),bh q.1]) H=some (.str (af (eF nml (eO K0 K1 q))),H):=
 (ZK q.2).elim (λh=>(u4 m H nml rfl h rfl rfl rfl rfl rfl rfl rfl hq.1 hq.2 hK0 hn).trans (congrArg (λt=>some (AV.str (af (eF nml t)),H)) (if_pos h).symm)) λh=>(u4 m H nml rfl h rfl rfl rfl rfl rfl rfl rfl hq.2 hq.1 hK1 hn).trans (congrArg (λt=>some (AV.str (af (eF nml t)),H)) (if_neg (λe=>by rw[e] at h;cases h)).symm)
def gh(K0 K1:Nat)(nml:List Nat)(dr:List (Nat×Nat)):List Nat:=(aS K0 K1 dr).flatMap (eF nml)
theorem AX{k:Nat}(hk:k<48)(a b:Nat):(eF nml ⟨a,k,b⟩).length<=5:=by
 have:=(Cs hk).2.1
 unfold eF
 simp;lia
theorem Ix(hK0:K0<48)(hK1:K1<48){q:(Nat×Nat)×Nat}(hq:q.1.1<5/\q.1.2<5):(eO K0 K1 q).Ok:=by
 unfold eO fR.Ok
 split
 ·exact⟨hq.1,hK0,hq.2⟩
 ·exact⟨hq.2,hK1,hq.1⟩
theorem ou(hK0:K0<48)(hK1:K1<48)(hd:∀ p∈dr,p.1<5/\p.2<5):∀ t∈aS K0 K1 dr,t.Ok:=by
 intro t ht
 obtain⟨q,hq,rfl⟩:=UY.mp ht
 exact Ix K0 K1 hK0 hK1 (hd _ (A4 hq))
theorem jV:(aS K0 K1 dr).length=dr.length:=by unfold aS;rw[UC,YL]
theorem IB(hK0:K0<48)(hK1:K1<48)(hd:∀ p∈dr,p.1<5/\p.2<5):(gh K0 K1 nml dr).length<=dr.length*5:=by
 have h:∀ ts:List fR,(∀ t∈ts,t.Ok)->(ts.flatMap (eF nml)).length<=ts.length*5:=by
  intro ts
  induction ts with
  |nil=>intro _;exact VX _
  |cons t ts ih=>
   intro h
   rw[WN,UM,UU]
   have:=ih λt ht=>h t (.tail _ ht)
   have:=AX nml (h t (.head _)).2.1 t.a t.b
   have e:(⟨t.a,t.k,t.b⟩:fR)=t:=rfl
   rw[e] at this
   lia
 have:=h _ (ou K0 K1 dr hK0 hK1 hd)
 rw[jV] at this
 exact this
theorem TK(hK0:K0<48)(hK1:K1<48)(hn:nml.length=5)(hd:∀ p∈dr,p.1<5/\p.2<5)(hl:dr.length<=20):am TT (aa TT (m+38)) MO (aq [sc,cs,.lst (dr.map bh),.lst [.int (7+(K0:Int)),.int (7+(K1:Int))],.str (af nml),fi,.lst (ag (gt.map af))] []) H=some (.next,(aq [sc,cs,.lst (dr.map bh),.lst [.int (7+(K0:Int)),.int (7+(K1:Int))],.str (af nml),fi,.lst (ag (gt.map af)),.str (af (gh K0 K1 nml dr))] []),H):=by
 have e1:ao TT (aa TT (m+36)) rh DT (aq [sc,cs,.lst (dr.map bh),.lst [.int (7+(K0:Int)),.int (7+(K1:Int))],.str (af nml),fi,.lst (ag (gt.map af))] []) H=some (dr.zipIdx.map (λq=>AV.str (af (eF nml (eO K0 K1 q)))),H):=by
  refine uh (T:=TT) (l:=dr.zipIdx) (F:=LP) _ ((jT (l:=dr.map bh) rfl (by rw[UC];lia)).trans (by rw[we])) (ρ1:=λq=>(aq [sc,cs,.lst (dr.map bh),.lst [.int (7+(K0:Int)),.int (7+(K1:Int))],.str (af nml),fi,.lst (ag (gt.map af))] [.int (q.2:Nat),bh q.1])) (λq _=>rfl) λq hq=>?_
  exact IA (m+1) sc cs K0 K1 H nml fi hK0 hK1 hn q (hd _ (A4 hq)) _
 have e2:=aN e1 (by rw[UC,YL];lia)
 have hs:(dr.zipIdx.map (λq=>AV.str (af (eF nml (eO K0 K1 q)))))=ag ((aS K0 K1 dr).map λt=>af (eF nml t)):=by
  unfold ag aS
  rw[UX,UX];rfl
 rw[hs] at e2
 have j1:i6 (UO #[]) .join [.lst (ag ((aS K0 K1 dr).map λt=>af (eF nml t)))] H=some (.str (af (gh K0 K1 nml dr))):=by
  have hh:(((aS K0 K1 dr).map λt=>af (eF nml t)).map WD).sum<=dr.length*5:=by
   have:=nS WD 5 ((aS K0 K1 dr).map λt=>af (eF nml t)) (λx hx=>by
    obtain⟨t,ht,rfl⟩:=UY.mp hx
    rw[bS]
    exact AX nml (ou K0 K1 dr hK0 hK1 hd t ht).2.1 t.a t.b)
   rw[UC,jV] at this;exact this
  have h0:(UO #[]).length=0:=rfl
  rw[vv (show au H (.lst _)= .lst _ from rfl) (fX _) (by rw[h0,Nat.mul_zero];lia)]
  have:=wR ((aS K0 K1 dr).map (eF nml))
  rw[UX] at this
  have e3:((aS K0 K1 dr).map (eF nml)).flatten=gh K0 K1 nml dr:=by unfold gh;rw[List.flatMap_def]
  rw[e3] at this
  exact congrArg (λx=>some (AV.str x)) this
 exact aA (sM (n:=m+37) rfl (ba e2) j1 rfl)
end
end
section
noncomputable def mO(c:Int):List Nat:=if(c.fdiv 1536).fmod 2=1 then[[10,9,13,32].getD (c.fmod 4).toNat 0] else[]
theorem ql(c:Int):mO c=[]∨∃ z,mO c=[z]/\kY z=true:=by
 unfold mO
 split
 ·refine .inr ⟨_,rfl,?_⟩
  have h4:(c.fmod 4).toNat<4:=(fm c (k:=4) (by decide)).2
  revert h4
  generalize (c.fmod 4).toNat=j
  intro h4
  match j,h4 with
  |0,_=>rfl
  |1,_=>rfl
  |2,_=>rfl
  |3,_=>rfl
 ·exact .inl rfl
def ew(wl wh:List Nat):List Nat:=eQ wl wh++[34,97]
theorem oW(wl wh:List Nat)(hl:wl.length<=100)(hw:wh.length<=1):(eQ wl wh).length<=210:=by
 have il:∀ S,(aV S wl).length=wl.length:=λS=>by have:=congrArg Yq (dW S wl);rw[UC] at this;exact this
 have el:∀ S,(bf (aV S wl)).length<=200:=λS=>by have:=kM (aV S wl);rw[il] at this;lia
 unfold eQ
 split
 ·simp only[UU,UM,V2];have:=el (eE wh);lia
 ·rw[UM];have:=el (eE wh);lia
theorem DD{S wl:List Nat}{p:Bool×Nat}(h:p∈aV S wl):p.2∈wl/\(p.1=false->p.2∉S):=by
 unfold aV at h
 obtain⟨q,hq,rfl⟩:=UY.mp h
 refine⟨(Zx (Xh▸hq)).1,λh2=>?_⟩
 have h2:(decide (q.2=1)||decide (q.1∈S))=false:=h2
 rw[Bool.or_eq_false_iff] at h2
 exact of_decide_eq_false h2.2
theorem nw:∀(w:List (Bool×Nat)) (ln:Int),ke ln w=ln+((w.map (·.2)).count 10:Nat)
 | [],ln=>by simp[ke]
 |p::w,ln=>by
  have:=nw w (bG ln p.2)
  show ke (bG ln p.2) w=_
  rw[this,Vc,X1]
  unfold bG
  by_cases h:p.2=10
  ·simp[h];lia
  ·simp[h]
theorem EN(m:Nat)(wl wh:List Nat)(hw:wh=[]∨∃ z,wh=[z]/\kY z=true)(h0:wl≠[])(hl:wl.length<=100)(hc:∀ c∈wl,c<300):(aa TT (m+20)).c 111 [.loc 7] [] (hq (ew wl wh) 1 [] [])=some (.str (af wl),hq [34,97] (1+((wl.count 10+wh.count 10:Nat):Int)) [] [bQ]):=by
 have il:∀ S,(aV S wl).length=wl.length:=λS=>by have:=congrArg Yq (dW S wl);rw[UC] at this;exact this
 have el:∀ S,(bf (aV S wl)).length<=200:=λS=>by have:=kM (aV S wl);rw[il] at this;lia
 rcases hw with rfl|⟨z,rfl,hz⟩
 ·have ht:ew wl []=34::(bf (aV [34,92] wl)++34::[34,97]):=by
   unfold ew eQ eE
   rw[if_pos rfl,if_pos rfl]
   simp
  have e:=Dr (m:=m) (ln:=1) (K:=[]) (aV [34,92] wl) [34,97] (λp hp hf=>by
   obtain⟨h1,h2⟩:=DD hp
   have:=h2 hf
   simp only[U0,VN,or_false,not_or] at this
   exact⟨by simpa using this.1,this.2,hc _ h1⟩) (by rw[UM];have:=el [34,92];simp;lia) (by rw[il];lia)
  rw[ht,e,dW,nw,dW]
  rfl
 ·have hz0:[z]≠[]:=by simp
  have ht:ew wl [z]=bf (aV [32,10,9,13,34,92] wl)++z::[34,97]:=by
   unfold ew eQ eE
   rw[if_neg hz0,if_neg hz0]
   simp
  have hmem:∀ p∈aV [32,10,9,13,34,92] wl,p.1=false->kY p.2=false/\p.2≠34/\p.2≠92/\p.2<300:=λp hp hf=>by
   obtain⟨h1,h2⟩:=DD hp
   have:=h2 hf
   simp only[U0,VN,or_false,not_or] at this
   obtain⟨t1,t2,t3,t4,t5,t6⟩:=this
   refine⟨?_,t5,t6,hc _ h1⟩
   unfold kY
   simp[t1,t2,t3,t4]
  have hsnd:=dW [32,10,9,13,34,92] wl
  have hil:=il [32,10,9,13,34,92]
  have hel:=el [32,10,9,13,34,92]
  rw[ht]
  generalize aV [32,10,9,13,34,92] wl=its at *
  match its,hmem,hsnd,hil,hel with
  | [],_,hsnd,_,_=>exact absurd hsnd.symm h0
  |(e,c)::w,hmem,hsnd,hil,hel=>
   have he:(bf w).length<=(bf ((e,c)::w)).length:=by
    show _<=((if e then[92,c] else[c])++bf w).length
    rw[UM];lia
   have g:=J1 (m:=m) (ln:=1) (K:=[]) e c w z [34,97] (λh=>hmem (e,c) (.head _) h) (λp hp h=>by
    obtain⟨a1,a2,a3,a4⟩:=hmem p (.tail _ hp) h
    exact⟨a1,a3,a4⟩) hz (by rw[UM];simp;lia) (by simp at hil;lia)
   rw[g,nw,hsnd]
   have hs:c::w.map (·.2)=wl:=hsnd
   rw[hs]
   have hz':bG (1+((wl.count 10:Nat):Int)) z=1+((wl.count 10+[z].count 10:Nat):Int):=by
    unfold bG
    rw[Yh]
    by_cases h:z=10
    ·simp[h];lia
    ·simp[h]
   rw[hz'];rfl
theorem AD:∀ c∈cA,c<300:=by decide
theorem O5:gt.all (λo=>o.all λc=>Nat.blt c 300)=true:=by decide
theorem Lg{K0 K1:Nat}{nml:List Nat}{dr:List (Nat×Nat)}(hK0:K0<48)(hK1:K1<48)(hn:Nm nml)(hd:∀ p∈dr,p.1<5/\p.2<5):∀ c∈gh K0 K1 nml dr,c<300:=by
 intro c hc
 obtain⟨t,ht,hc⟩:=List.mem_flatMap.mp hc
 obtain⟨h1,h2,h3⟩:=ou K0 K1 dr hK0 hK1 hd t ht
 unfold eF at hc
 rcases U0.mp hc with rfl|hc
 ·exact AD _ (hn.ring _ (hn.mem h1))
 ·rcases Ve.mp hc with hc|hc
  ·have hm:gA t.k∈gt:=by
    unfold gA
    rw[List.getD_eq_getElem?_getD,List.getElem?_eq_getElem (by rw[Aw];exact h2)]
    exact XH _
   have:=UP.mp (UP.mp O5 _ hm) c hc
   exact UG this
  ·rw[US] at hc
   subst hc
   exact AD _ (hn.ring _ (hn.mem h3))
theorem JS:∀ l:List Int,ct (.lst (l.map AV.int)) (.lst (l.map AV.int))=some true:=by
 intro l
 have h:∀ l:List Int,bY (dB 5) (l.map AV.int) (l.map AV.int)=some true:=by
  intro l
  induction l with
  |nil=>rfl
  |cons x l ih=>
   exact(congrArg (λb=>ob (some b) λx=>ob (bY (dB 5) (l.map AV.int) (l.map AV.int)) λy=>some (x&&y)) (decide_eq_true (Eq.refl x))).trans (congrArg (ob · λy=>some (true&&y)) ih)
 exact h l
section
variable (m:Nat)(sc:AV)(c0 c1:Int)(K0 K1:Nat)(H:AH)(dr:List (Nat×Nat))(nml wl wh:List Nat)(d kd fi op:AV)
theorem TL(hl:wl.length<=100):am TT (aa TT (m+38)) MP (aq [sc,.lst [.int c0,.int c1],d,kd,.str (af nml),fi,op,.str (af wl)] []) H=some (.next,(aq [sc,.lst [.int c0,.int c1],d,kd,.str (af nml),fi,op,.str (af wl),.str (af (ew wl (mO c1)))] []),H):=by
 have f3:c1.fmod 4=(((c1.fmod 4).toNat:Nat):Int):=(fm _ (k:=4) (by decide)).1
 have h3:(c1.fmod 4).toNat<4:=(fm c1 (k:=4) (by decide)).2
 have hw:(mO c1).length<=1:=(ql c1).elim (λh=>h▸VX _) λ⟨z,h,_⟩=>h▸V4 _
 have s4:c7 TT (.str (UO #[10,9,13,32])) (.int (c1.fmod 4)) H=some (.str (af [[10,9,13,32].getD (c1.fmod 4).toNat 0])):=by
  have hd:(UO #[10,9,13,32]).cps.toList=[10,9,13,32]:=rfl
  rw[f3,yr,hd,dC _ (by lia),VP]
  revert h3
  generalize (c1.fmod 4).toNat=j
  intro h3
  rcases(show j=0∨j=1∨j=2∨j=3 by lia) with rfl|rfl|rfl|rfl<;>rfl
 have wlen:=oW wl (mO c1) hl hw
 refine aA (xB (n:=m+37) (xF rfl (eB rfl (ix (n:=m+35) (t:=decide ((c1.fdiv 1536).fmod 2=1)) (H1:=H) (x:=some (.str (af (mO c1)),H)) (tC (n:=m+33) (u:=.int ((c1.fdiv 1536).fmod 2)) (w:=.int 1) rfl rfl rfl) ?_)) (yW (m+23) wl (mO c1) H hl hw)) rfl (EW H _ [34,97] (by rw[UU,Vl];lia)))
 unfold mO
 by_cases h:(c1.fdiv 1536).fmod 2=1
 ·rw[if_pos h,decide_eq_true h]
  exact bF (n:=m+34) rfl rfl s4
 ·rw[if_neg h,decide_eq_false h]
  rfl
theorem TM(l:List Nat)(cs wd:AV)(hl:l.length<=1000):am TT (aa TT (m+38)) MQ (aq [sc,cs,d,kd,.str (af nml),fi,op,wd,.str (af l)] []) [.tab 0,.tab 1]=some (.next,(aq [sc,cs,d,kd,.str (af nml),fi,op,wd,.str (af l),.loc 7] []),hq l 1 [] []):=aA (xF rfl (ba rfl) (DV (m+21) l hl))
noncomputable def DX(wl wh:List Nat):Int:=1+((wl.count 10+wh.count 10:Nat):Int)
theorem TN(cs wd tx:AV)(ts:List fR)(hn:Nm nml)(hts:∀ t∈ts,t.Ok)(hwl:wl=ts.flatMap (eF nml))(hw:wh=[]∨∃ z,wh=[z]/\kY z=true)(h0:wl≠[])(hl:wl.length<=100)(hc:∀ c∈wl,c<300)(htl:ts.length<=20):am TT (aa TT (m+38)) MR (aq [sc,cs,d,kd,.str (af nml),fi,op,wd,tx,.loc 7] []) (hq (ew wl wh) 1 [] [])=some (.next,(aq [sc,cs,d,kd,.str (af nml),fi,op,wd,tx,.loc 7,.lst (cg ts)] []),hq [34,97] (DX wl wh) [] [bQ,.list ((ts.flatMap eP).map AV.int)]):=by
 have t:=EN (m+16) wl wh hw h0 hl hc
 have cw:=tX hn ts hts
 rw[<-hwl] at cw
 have hv:(ts.flatMap eP).length<=900:=by
  have:=jR ts
  unfold cg at this
  rw[UM,UC,Vl] at this
  lia
 have c:=JL (m+24) nml wl (ts.flatMap eP) (hq [34,97] (DX wl wh) [] [bQ]) cw (by lia) hv
 rw[wF] at c
 exact aA (xF rfl (eB (xM rfl rfl rfl rfl t) rfl) c)
end
end
section
theorem Kh(dr:List (Nat×Nat))(a b:Nat):RI (.tup [.int a,.int b]) (dr.map bh)=some (dr.any λp=>decide (p=(a,b))):=by
 have h1:jW (dr.map bh)=some (dr.map λp=>[(p.1:Int),(p.2:Int)]):=by
  induction dr with
  |nil=>rfl
  |cons p dr ih=>
   show jW (.tup [.int p.1,.int p.2]::dr.map bh)=_
   exact congrArg (ob · λr=>some ([(p.1:Int),(p.2:Int)]::r)) ih
 show ob (jW (dr.map bh)) (λr=>some (r.any λx=>decide (x=[(a:Int),(b:Int)])))=_
 rw[h1]
 show some _=some _
 rw[List.any_map]
 refine congrArg some ?_
 refine List.any_congr rfl λp=>?_
 show decide ([(p.1:Int),(p.2:Int)]=[(a:Int),(b:Int)])=_
 refine decide_eq_decide.mpr ?_
 obtain⟨x,y⟩:=p
 simp
 lia
section
variable (m:Nat)(sc cs:AV)(K0 K1:Nat)(H:AH)(dr:List (Nat×Nat))(nm fi op wd tx lx:AV)
theorem yj{ρ:ae}{i j x y K:Nat}{p kd:AV}(h25:ρ[25]? =some (some (.int (i:Nat))))(hj:i%2=j)(h26:ρ[26]? =some (some p))(h3:ρ[3]? =some (some kd))(sx:c7 TT p (.int (j:Nat)) H=some (.int x))(sy:c7 TT p (.int (1-j)) H=some (.int y))(sk:c7 TT kd (.int (j:Nat)) H=some (.int (7+K))):(aa TT (m+30)).e (.list false [(.bin .Add (ac 256) (.sub (.var 26) (.bin .Mod (.var 25) (ac 2)))),(.sub (.var 3) (.bin .Mod (.var 25) (ac 2))),(.bin .Add (ac 256) (.sub (.var 26) (.bin .Sub (ac 1) (.bin .Mod (.var 25) (ac 2)))))]) ρ H=some (.lst ((eP ⟨x,K,y⟩).map AV.int),H):=
 have md:=w8 h25 hj (H:=H)
 tP (n:=m+29) (IU (xB (n:=m+28) rfl (bF (n:=m+27) (dF h26) (md (m+25)) sx) rfl) (bF (n:=m+28) (dF h3) (md (m+26)) sk) (xB (n:=m+28) rfl (bF (n:=m+27) (dF h26) (xB (n:=m+26) rfl (md (m+24)) rfl) sy) rfl))
theorem K4(q:(Nat×Nat)×Nat)(rw:AV):ao TT (aa TT (m+30)) sJ [.mk (.one 27) (.list false [(.bin .Add (ac 256) (.sub (.var 26) (.bin .Mod (.var 25) (ac 2)))),(.sub (.var 3) (.bin .Mod (.var 25) (ac 2))),(.bin .Add (ac 256) (.sub (.var 26) (.bin .Sub (ac 1) (.bin .Mod (.var 25) (ac 2)))))]) []] (aq [sc,cs,.lst (dr.map bh),.lst [.int (7+(K0:Int)),.int (7+(K1:Int))],nm,fi,op,wd,tx,lx,rw] [.int (q.2:Nat),bh q.1]) H=some ((eP (eO K0 K1 q)).map AV.int,H):=by
 refine gm (T:=TT) (t:=.one 27) (l:=(eP (eO K0 K1 q))) (F:=AV.int) AV.int (sD (v:=.lst ((eP (eO K0 K1 q)).map AV.int)) rfl ?_ rfl) (ρ1:=λv=>(aq [sc,cs,.lst (dr.map bh),.lst [.int (7+(K0:Int)),.int (7+(K1:Int))],nm,fi,op,wd,tx,lx,rw] [.int (q.2:Nat),bh q.1,.int v])) (λv _=>rfl) (λv _=>rfl)
 unfold eO
 rcases ZK q.2 with h|h
 ·rw[if_pos h]
  exact yj m H rfl h rfl rfl rfl rfl rfl
 ·rw[if_neg (by lia)]
  exact yj m H rfl h rfl rfl rfl rfl rfl
theorem QP(hl:dr.length<=20):am TT (aa TT (m+38)) MB (aq [sc,cs,.lst (dr.map bh),.lst [.int (7+(K0:Int)),.int (7+(K1:Int))],nm,fi,op,wd,tx,lx,.lst (cg (aS K0 K1 dr))] []) H=some (.next,(aq [sc,cs,.lst (dr.map bh),.lst [.int (7+(K0:Int)),.int (7+(K1:Int))],nm,fi,op,wd,tx,lx,.lst (cg (aS K0 K1 dr))] []),H):=by
 have e1:ao TT (aa TT (m+34)) sJ sK (aq [sc,cs,.lst (dr.map bh),.lst [.int (7+(K0:Int)),.int (7+(K1:Int))],nm,fi,op,wd,tx,lx,.lst (cg (aS K0 K1 dr))] []) H=some (dr.zipIdx.flatMap (λq=>(eP (eO K0 K1 q)).map AV.int),H):=by
  refine Fw (T:=TT) (l:=dr.zipIdx) (F:=LP) _ ((jT (l:=dr.map bh) rfl (by rw[UC];lia)).trans (by rw[we])) (ρ1:=λq=>(aq [sc,cs,.lst (dr.map bh),.lst [.int (7+(K0:Int)),.int (7+(K1:Int))],nm,fi,op,wd,tx,lx,.lst (cg (aS K0 K1 dr))] [.int (q.2:Nat),bh q.1])) (λq _=>rfl) λq hq=>?_
  exact K4 (m+4) sc cs K0 K1 H dr nm fi op wd tx lx q (.lst (cg (aS K0 K1 dr)))
 have hfl:dr.zipIdx.flatMap (λq=>(eP (eO K0 K1 q)).map AV.int)=((aS K0 K1 dr).flatMap eP).map AV.int:=by
  unfold aS
  rw[List.map_flatMap,Zj]
 have hrl:(((aS K0 K1 dr).flatMap eP).map AV.int).length<=900:=by
  have:=jR (aS K0 K1 dr)
  unfold cg at this
  rw[UM,Vl,jV] at this
  lia
 rw[hfl] at e1
 have e2:=aN e1 (by lia)
 have a1:bp H .Add (.lst (((aS K0 K1 dr).flatMap eP).map AV.int)) (.lst [.int 0])=some (.lst (cg (aS K0 K1 dr))):=ga rfl rfl (by simp only[Vl];lia)
 have q1:ct (.lst (cg (aS K0 K1 dr))) (.lst (cg (aS K0 K1 dr)))=some true:=by
  have:=JS ((aS K0 K1 dr).flatMap eP++[0])
  rw[Vt] at this
  exact this
 exact aZ (b:=false) (H1:=H) (tC (n:=m+36) rfl (xB (n:=m+35) e2 rfl a1) (congrArg (ob · λb=>some !b) q1)) rfl
end
end
section
section
variable (m:Nat)(sc cs:AV)(K0 K1 F:Nat)(H:AH)(dr:List (Nat×Nat))(nm fi op wd tx lx d kd:AV)
theorem Pu(x:Int)(ρ:ae)(hx:ρ[25]? =some (some (.int x))):bk (aa TT (m+30)) [(.or [(.cmp .IsNot (.call (aY "ISTERMINAL" 135) [(.var 25)] []) (.cmp .Lt (.var 25) (ac 256))),(.cmp .IsNot (.call (aY "ISNONTERMINAL" 142) [(.var 25)] []) (.cmp .Gt (.var 25) (ac 255))),(.cmp .IsNot (.call (aY "ISEOF" 149) [(.var 25)] []) (.cmp .Eq (.var 25) (ac 0)))])] ρ H=some (false,H):=by
 have d2:decide (256<=x)=decide (255<x):=decide_eq_decide.mpr (by lia)
 have hb (b:Bool):some (b !=b)=some false:=congrArg some (bne_self_eq_false b)
 have e2:=Kk (m+22) x H
 rw[d2] at e2
 exact fJ (show ej (aa TT (m+29)) _ ρ H=_ from r6 (tC (n:=m+27) (xF rfl (ba (dF hx)) (Kl (m+22) x H)) (xC (n:=m+26) (dF hx) rfl rfl) (hb _)) (r6 (tC (n:=m+27) (xF rfl (ba (dF hx)) e2) (xC (n:=m+26) (dF hx) rfl rfl) (hb _)) (r6 (tC (n:=m+27) (xF rfl (ba (dF hx)) (zE (m+22) x H)) (xC (n:=m+26) (dF hx) rfl rfl) (hb _)) rfl)))
theorem QQ(l:List Int)(hF:F<32)(hl:l.length<=900):am TT (aa TT (m+38)) FQ (aq [sc,cs,d,kd,nm,.int F,op,wd,tx,lx,.lst (l.map AV.int)] []) H=some (.next,(aq [sc,cs,d,kd,nm,.int F,op,wd,tx,lx,.lst (l.map AV.int)] []),H):=by
 have b1:bp H .LShift (.int 512) (.int (F:Int))=some (.int (512*2^F:Int)):=by
  rw[E2 ⟨by lia,by lia,by decide⟩,VP]
 have b2:bp H .LShift (.int (-1)) (.int (F:Int))=some (.int (-1*2^F:Int)):=by
  rw[E2 ⟨by lia,by lia,by decide⟩,VP]
 have a1:bp H .Add (.lst (l.map AV.int)) (.lst [.int 255,.int (512*2^F:Int),.int (-1*2^F:Int)])=some (.lst ((l++[255,512*2^F,-1*2^F]).map AV.int)):=by
  rw[ga rfl rfl (by rw[UC];simp;lia),Vt];rfl
 have e0:(aa TT (m+35)).e (.bin .Add (.var 10) (.list false [(ac 255),(.bin .LShift (ac 512) (.var 5)),(.bin .LShift (.neg (ac 1)) (.var 5))])) (aq [sc,cs,d,kd,nm,.int F,op,wd,tx,lx,.lst (l.map AV.int)] []) H=some (.lst ((l++[255,512*2^F,-1*2^F]).map AV.int),H):=by
  exact xB (n:=m+34) rfl (tP (n:=m+33) (IU rfl (xB (n:=m+32) rfl rfl b1) (xB (n:=m+32) (u:=.int (-1)) rfl rfl b2))) a1
 have e1:ao TT (aa TT (m+35)) zJ sL (aq [sc,cs,d,kd,nm,.int F,op,wd,tx,lx,.lst (l.map AV.int)] []) H=some (((l++[255,512*2^F,-1*2^F]).filter λ_=>false).map AV.int,H):=
  kU (T:=TT) (t:=.one 25) (l:=l++[255,512*2^F,-1*2^F]) (F:=AV.int) AV.int (λ_=>false) (sD rfl e0 rfl) (ρ1:=λx=>(aq [sc,cs,d,kd,nm,.int F,op,wd,tx,lx,.lst (l.map AV.int)] [.int x])) (λx _=>rfl) (λx _=>Pu (m+5) H x _ rfl) (λx _ h=>by cases h)
 have hf:((l++[255,512*2^F,-1*2^F]).filter λ_=>false).map AV.int=[]:=by
  rw[XQ.mpr (λ_ _ h=>by cases h)];rfl
 rw[hf] at e1
 have q:ct (.lst []) (.lst [])=some true:=rfl
 exact aZ (b:=false) (H1:=H) (tC (n:=m+36) (aN e1 (VX _)) rfl (congrArg (ob · λb=>some !b) q)) rfl
theorem FF(hk:K0≠K1):(aS K0 K1 dr).map (λt=>bh (nr K0 t))=dr.map bh:=by
 unfold aS
 rw[UX]
 have:∀ q:(Nat×Nat)×Nat,((λt=>bh (nr K0 t))∘eO K0 K1) q=bh q.1:=by
  intro q
  show bh (nr K0 (eO K0 K1 q))=_
  unfold eO nr
  split
  ·rw[if_pos rfl]
  ·rw[if_neg (λh=>hk h.symm)]
 rw[Vn λq _=>this q]
 have h:=List.zipIdx_map_fst 0 dr
 conv=>rhs;rw[<-h]
 rw[UX];rfl
theorem QR(sg:List Nat)(ln:Int)(rw:List AV)(hk:K0≠K1)(hl:dr.length<=20):am TT (aa TT (m+38)) FR (aq [sc,cs,d,.lst [.int (7+(K0:Int)),.int (7+(K1:Int))],nm,fi,op,wd,tx,lx,.lst (cg (aS K0 K1 dr))] []) (hq sg ln [] [bQ,.list rw])=some (.next,(aq [sc,cs,d,.lst [.int (7+(K0:Int)),.int (7+(K1:Int))],nm,fi,op,wd,tx,lx,.lst (cg (aS K0 K1 dr)),.loc 11] []),hq sg ln [] [bQ,.list rw,.list (dr.map bh)]):=by
 have e:=DH (m+26) K0 K1 (aS K0 K1 dr) (hq sg ln [] [bQ,.list rw]) (by rw[jV];lia)
 rw[FF K0 K1 dr hk,wF] at e
 exact aA e
noncomputable def jB(dr:List (Nat×Nat))(low high:Nat):Bool:=(dr.any λp=>decide (p=(low,high)))&&!decide (high=low)
theorem JZ(low:Nat)(jl:AV)(ρ:ae)(hρ:ρ.length=26)(h25:ρ[25]? =some (some (.int low)))(h11:ρ[11]? =some (some jl))(hj:au H jl= .lst (dr.map bh)):ao TT (aa TT (m+30)) sN zK ρ H=some (((UD 5).filter (jB dr low)).map λ(high:Nat)=>AV.int ((2^high:Nat):Int),H):=by
 refine po (dq (n:=5) rfl (by decide)) (λi hi=>?_) (λi hi _=>?_)
 ·have hi:=UR.mp hi
  have g25:(ρ++[none] |>.set 26 (some (.int (i:Nat))))[25]? =some (some (.int low)):=by
   rw[List.getElem?_set_ne (by decide),List.getElem?_append_left (by lia),h25]
  have g11:(ρ++[none] |>.set 26 (some (.int (i:Nat))))[11]? =some (some jl):=by
   rw[List.getElem?_set_ne (by decide),List.getElem?_append_left (by lia),h11]
  have g26:(ρ++[none] |>.set 26 (some (.int (i:Nat))))[26]? =some (some (.int (i:Nat))):=by
   rw[List.getElem?_set_self (by rw[UM,hρ];decide)]
  have c1:ia TT H .In (.tup [.int low,.int (i:Nat)]) jl=some (dr.any λp=>decide (p=(low,i))):=by
   have:ia TT H .In (.tup [.int low,.int (i:Nat)]) jl=I4 TT (.tup [.int low,.int (i:Nat)]) (au H (.tup [.int low,.int (i:Nat)])) (au H jl):=rfl
   rw[this,hj];exact Kh dr low i
  have d1:decide ((i:Int)=(low:Int))=decide (i=low):=decide_eq_decide.mpr (by lia)
  refine fJ (show bk (aa TT (m+29)) _ _ _=_ from nY (x:=dr.any λp=>decide (p=(low,i))) (y:=jB dr low i) (H1:=H) (tC (n:=m+27) (qn (n:=m+26) (eB (dF g25) (dF g26))) (dF g11) c1) (λh=>tC (n:=m+27) (dF g26) (dF g25) ?_) λh=>⟨by unfold jB;rw[h];rfl,rfl⟩)
  unfold jB
  rw[h,<-d1];rfl
 ·have hi:=UR.mp hi
  have g26:(ρ++[none] |>.set 26 (some (.int (i:Nat))))[26]? =some (some (.int (i:Nat))):=by
   rw[List.getElem?_set_self (by rw[UM,hρ];decide)]
  exact xB (n:=m+29) rfl (dF g26) (iy (H:=H) i (by lia))
noncomputable def qT(dr:List (Nat×Nat)):V5 (V5 Bool):=.of λlow=>.of (jB dr low)
theorem QS(rw jl:AV)(hj:au H jl= .lst (dr.map bh)):am TT (aa TT (m+38)) MC (aq [sc,cs,d,kd,nm,fi,op,wd,tx,lx,rw,jl] []) H=some (.next,(aq [sc,cs,d,kd,nm,fi,op,wd,tx,lx,rw,jl,.lst (bT (qT dr))] []),H):=by
 have e1:ao TT (aa TT (m+37)) zL zM (aq [sc,cs,d,kd,nm,fi,op,wd,tx,lx,rw,jl] []) H=some ((UD 5).map λlow=>AV.int ((ai (.of (jB dr low)):Nat):Int),H):=by
  refine iH (dq (n:=5) rfl (by decide)) λi hi=>?_
  have e2:=JZ (m+5) H dr i jl (aq [sc,cs,d,kd,nm,fi,op,wd,tx,lx,rw,jl] [.int (i:Nat)]) rfl rfl rfl hj
  have e3:=aN e2 (by rw[UC];exact UH (Vb _ _) (by simp))
  have hn:(((UD 5).filter (jB dr i)).map λ(high:Nat)=>AV.int ((2^high:Nat):Int))=aU (((UD 5).filter (jB dr i)).map (2^ ·)):=by
   unfold aU;rw[UX];rfl
  rw[hn] at e3
  have s1:=λr=>re (T:=TT) (r:=r) (H:=H) (((UD 5).filter (jB dr i)).map (2^ ·))
  rw[lF] at s1
  exact xK (ba e3) (s1 _)
 exact aA (aN e1 (UG rfl))
end
end
section
def iX(c:Int):tQ:=⟨(c.fmod 2).toNat,((c.fdiv 2).fmod 3).toNat,((c.fdiv 6).fmod 4).toNat,.of (ze c)⟩
theorem m8(c:Int)(b:Nat):ze c b<5:=(fm _ (k:=5) (by decide)).2
theorem sr(c:Int):(iX c).Ok:=⟨(fm c (k:=2) (by decide)).2,(fm (c.fdiv 2) (k:=3) (by decide)).2,(fm (c.fdiv 6) (k:=4) (by decide)).2,m8 c 0,m8 c 1,m8 c 2,m8 c 3,m8 c 4⟩
theorem Fj(c:Int):cq c=[(0,1),((iX c).a1,2),((iX c).a2,3),((iX c).a3,4),(0,(iX c).t.x0),(1,(iX c).t.x1),(2,(iX c).t.x2),(3,(iX c).t.x3),(4,(iX c).t.x4)]:=rfl
theorem tZ(c:Int):(cq c).length=9:=rfl
theorem Fk(c:Int):∀ p∈cq c,p.1<5/\p.2<5:=by
 obtain⟨h1,h2,h3,h4,h5,h6,h7,h8⟩:=sr c
 rw[Fj]
 intro p hp
 simp only[U0,VN,or_false] at hp
 rcases hp with rfl|rfl|rfl|rfl|rfl|rfl|rfl|rfl|rfl<;>dsimp only<;>lia
noncomputable def wa(d:tQ):List (Nat×Nat):=[(0,1),(d.a1,2),(d.a2,3),(d.a3,4),(0,d.t.x0),(1,d.t.x1),(2,d.t.x2),(3,d.t.x3),(4,d.t.x4)]
def sm(i:Nat)(f:Nat->V5 Nat):Bool:=(UD 2).all λa1=>(UD 3).all λa2=>(UD 4).all λa3=>(UD 5).all λt=>(UD 5).all λj=>jB (wa ⟨a1,a2,a3,f t⟩) i j==((jC ⟨a1,a2,a3,f t⟩).get i).get j
theorem P0(b c d e:Nat):sm 0 (λt=>⟨t,b,c,d,e⟩)=true:=by kernel_rfl
theorem P1(a c d e:Nat):sm 1 (λt=>⟨a,t,c,d,e⟩)=true:=by kernel_rfl
theorem P2(a b d e:Nat):sm 2 (λt=>⟨a,b,t,d,e⟩)=true:=by kernel_rfl
theorem P3(a b c e:Nat):sm 3 (λt=>⟨a,b,c,t,e⟩)=true:=by kernel_rfl
theorem P4(a b c d:Nat):sm 4 (λt=>⟨a,b,c,d,t⟩)=true:=by kernel_rfl
theorem kJ{i:Nat}{f:Nat->V5 Nat}(h:sm i f=true){a1 a2 a3 t:Nat}(h1:a1<2)(h2:a2<3)(h3:a3<4)(ht:t<5):∀ j,j<5->jB (wa ⟨a1,a2,a3,f t⟩) i j=((jC ⟨a1,a2,a3,f t⟩).get i).get j:=λj hj=>
 beq_iff_eq.mp (UP.mp (UP.mp (UP.mp (UP.mp (UP.mp h a1 (UR.mpr h1)) a2 (UR.mpr h2)) a3 (UR.mpr h3)) t (UR.mpr ht)) j (UR.mpr hj))
theorem Dp{d:tQ}(h:d.Ok):∀ i,i<5->∀ j,j<5->jB (wa d) i j=((jC d).get i).get j
 |0,_=>kJ (P0 d.t.x1 d.t.x2 d.t.x3 d.t.x4) h.a1 h.a2 h.a3 h.t0
 |1,_=>kJ (P1 d.t.x0 d.t.x2 d.t.x3 d.t.x4) h.a1 h.a2 h.a3 h.t1
 |2,_=>kJ (P2 d.t.x0 d.t.x1 d.t.x3 d.t.x4) h.a1 h.a2 h.a3 h.t2
 |3,_=>kJ (P3 d.t.x0 d.t.x1 d.t.x2 d.t.x4) h.a1 h.a2 h.a3 h.t3
 |4,_=>kJ (P4 d.t.x0 d.t.x1 d.t.x2 d.t.x3) h.a1 h.a2 h.a3 h.t4
theorem FA(c:Int):qT (cq c)=jC (iX c):=
 V5.ext' λi hi=>V5.ext' λj hj=>by
  unfold qT
  rw[V5.get_of _ hi,V5.get_of _ hj]
  exact Dp (sr c) i hi j hj
end
section
theorem Rp{n:Nat}{l:List IE}{vs:List AV}{ρ:ae}{H H1:AH}(h:cj (aa TT n) l ρ H=some (vs,H1)):(aa TT (n+1)).e (.list true l) ρ H=some (.loc H1.length,H1++[.list vs]):=congrArg (ah · λvs H=>some (kf true vs H)) h
noncomputable def gN(c:Int):Int:=c.fdiv 393216
noncomputable def g7(c:Int):Nat:=((c.fdiv 98304).fmod 4).toNat
def qL(c:Int):List Nat:=(UD 4).map λi=>(i+1)*(1+g7 c)%5
theorem Pb:(UD 4).all (λmm=>decide (((UD 4).map λi=>(i+1)*(1+mm)%5).Nodup)&&(UD 5).all λb=>decide (b∈((UD 4).map λi=>(i+1)*(1+mm)%5))==decide (b∈dZ))=true:=by decide
theorem Ju(c:Int):(qL c).Nodup/\∀ b,b∈qL c↔b∈dZ:=by
 have:=UP.mp Pb (g7 c) (UR.mpr (fm (c.fdiv 98304) (k:=4) (by decide)).2)
 rw[U6,decide_eq_true_eq] at this
 refine⟨this.1,λb=>?_⟩
 by_cases hb:b<5
 ·have h:=beq_iff_eq.mp (UP.mp this.2 b (UR.mpr hb))
  exact decide_eq_decide.mp h
 ·constructor
  ·intro h
   obtain⟨i,_,rfl⟩:=UY.mp h
   lia
  ·intro h
   unfold dZ at h
   simp only[U0,VN,or_false] at h
   lia
def sT(sg:List Nat)(ln:Int)(rw jm items:List AV):HS:=⟨ln,oT sg,[],bQ,rw,jm,items⟩
def fx(F:Nat)(G:Int):AV:=.lst ((UD 5).map λi=>AV.str (dN F G i))
noncomputable def bR(F:Nat):AV:=.lst ((UD 5).map λb=>AV.int ((2^(F+b):Nat):Int))
theorem qh{T:c8}{H:AH}(F:Nat){b:Nat}(hb:b<5):c7 T (bR F) (.int (b:Int)) H=some (.int ((2^(F+b):Nat):Int)):=by
 unfold bR
 rw[iQ dL,dC _ (by lia),List.getElem?_map,List.getElem?_range hb];rfl
section
variable {T:c8}{r:R}{ρ:ae}{H:AH}{γ:Type}
theorem zb{s:HS}{f:AV->AH->Option (List AV×AH)}{F:γ->AV}{g:γ->AV}{h:γ->AO}:∀(l:List γ) (J:AH),(∀ x∈l,∀ J,f (F x) (hp s J)=some ([g x],hp s (J++[h x])))->bI f (l.map F) (hp s J)=some (l.map g,hp s (J++l.map h))
 | [],J,_=>by simp[bI]
 |x::l,J,hf=>(congrArg (ah · λa H=>ah (bI f (l.map F) H) λb H=>some (a++b,H)) (hf x (.head _) J)).trans ((congrArg (ah · λb H=>some (g x::b,H)) (zb l (J++[h x]) λy hy=>hf y (.tail _ hy))).trans (by rw[U3];rfl))
theorem Fu{s:HS}{J:AH}{elt it:IE}{t:bD}{l:List γ}{F:γ->AV}(g:γ->AV)(hh:γ->AO){ρ1:γ->ae}(hs:aO r it ρ H=some (.items (l.map F),hp s J))
  (hb:∀ x∈l,be t (F x) (ρ++U2 (i7 t) none)=some (ρ1 x)) (h:∀ x∈l,∀ J,r.e elt (ρ1 x) (hp s J)=some (g x,hp s (J++[hh x]))):ao T r elt [.mk t it []] ρ H=some (l.map g,hp s (J++l.map hh)):=by
 rw[ao,hs]
 exact(congrArg (aw · _) (show(dj t (.items (l.map F))&&lO (.items (l.map F)))=true by cases t<;>rfl)).trans (zb l J λx hx J=>gY (hb x hx) rfl (h x hx J))
end
section
variable (m F:Nat)(sc:AV)(c0 c1:Int)(H:AH)(dr kd nm op wd tx lx rw jl go:AV)
theorem QT(hF:F<32):am TT (aa TT (m+38)) FT (aq [sc,.lst [.int c0,.int c1],dr,kd,nm,.int F,op,wd,tx,lx,rw,jl,go] []) H=some (.next,(aq [sc,.lst [.int c0,.int c1],dr,kd,nm,.int F,op,wd,tx,lx,rw,jl,go,fx F (gN c1)] []),H):=by
 have e:(aa TT (m+37)).c 337 [.int F,.int (c1.fdiv 393216)] [] H=some (fx F (gN c1),H):=D8 (m+19) F (gN c1) H hF
 exact aA (xF rfl (eB rfl rfl) e)
theorem QU(cs fi:AV)(G:Int)(sg:List Nat)(ln:Int)(rwl jm:List AV)(hF:F<32):am TT (aa TT (m+38)) FU (aq [sc,cs,dr,kd,nm,fi,op,wd,tx,lx,rw,jl,go,fx F G] []) (hq sg ln [] [bQ,.list rwl,.list jm])=some (.next,(aq [sc,cs,dr,kd,nm,fi,op,wd,tx,lx,rw,jl,go,fx F G,.loc 12] []),um (sT sg ln rwl jm (ax [(cU (F+4),af [97]),(aH (F+4),af [97])]))):=by
 have hx:=xj (F:=F) (i:=4) (G:=G) (row:=dY ab) hF (by decide)
 have hl:(dN F G 4).length<=1000:=rm hx
 have l1:∀ H,i6 (dN F G 4) .upper [] H=some (.str (cU (F+4))):=λH=>by rw[nC (by lia)];exact congrArg (λx=>some (AV.str x)) hx.up
 have l2:∀ H,i6 (dN F G 4) .lower [] H=some (.str (aH (F+4))):=λH=>by rw[iM (by lia)];exact congrArg (λx=>some (AV.str x)) hx.low
 exact aA (Rp (n:=m+37) (H1:=hq sg ln [] [bQ,.list rwl,.list jm]) (eB (qn (n:=m+36) (eB (sM (n:=m+35) rfl rfl (l1 _) rfl) rfl)) (qn (n:=m+36) (eB (sM (n:=m+35) rfl rfl (l2 _) rfl) rfl))))
theorem QV(cs:AV)(G:Int)(g:V5 (V5 Bool))(s:HS)(hF:F<32)(hs:s.items=ax [(cU (F+4),af [97]),(aH (F+4),af [97])]):am TT (aa TT (m+38)) FV (aq [sc,cs,dr,kd,nm,.int F,op,wd,tx,lx,rw,jl,.lst (bT g),fx F G,.loc 12] []) (um s)=some (.next,(aq [sc,cs,dr,kd,nm,.int F,op,wd,tx,lx,rw,jl,.lst (bT g),fx F G,.loc 12,.loc 14] []),hp {s with items:=ax ((iu F G g).map (Bl.it F))} []):=by
 have e:(aa TT (m+37)).c 344 [.loc 12,fx F G,.lst (bT g),.int F] [] (um s)=_:=EL (m+13) F G g s hF hs
 exact aA e
theorem QW(cs na pr tb:AV)(hF:F<32):am TT (aa TT (m+38)) MD (aq [sc,cs,dr,kd,nm,.int F,op,wd,tx,lx,rw,jl,go,na,pr,tb] []) H=some (.next,(aq [sc,cs,dr,kd,nm,.int F,op,wd,tx,lx,rw,jl,go,na,pr,tb,bR F] []),H):=by
 have e1:ao TT (aa TT (m+37)) sO zN (aq [sc,cs,dr,kd,nm,.int F,op,wd,tx,lx,rw,jl,go,na,pr,tb] []) H=some ((UD 5).map λb=>AV.int ((2^(F+b):Nat):Int),H):=by
  refine iH (dq (n:=5) rfl (by decide)) λi hi=>?_
  have hi:=UR.mp hi
  exact xB (n:=m+36) (u:=.int 1) (w:=.int ((F+i:Nat):Int)) rfl rfl (iy (H:=H) (F+i) (by lia))
 exact aA (aN e1 (UG rfl))
theorem QX(fi na pr tb:AV)(s:HS)(J:AH)(hF:F<32):∃ J',am TT (aa TT (m+38)) FW (aq [sc,.lst [.int c0,.int c1],dr,kd,nm,fi,op,wd,tx,lx,rw,jl,go,na,pr,tb,bR F] []) (hp s J)=some (.next,(aq [sc,.lst [.int c0,.int c1],dr,kd,nm,fi,op,wd,tx,lx,rw,jl,go,na,pr,tb,bR F,.lst (ag (bt F (qL c1)))] []),hp s J'):=by
 have f1:(c1.fdiv 98304).fmod 4=(g7 c1:Int):=(fm _ (k:=4) (by decide)).1
 have e1:ao TT (aa TT (m+37)) zO zP (aq [sc,.lst [.int c0,.int c1],dr,kd,nm,fi,op,wd,tx,lx,rw,jl,go,na,pr,tb,bR F] []) (hp s J)=some ((UD 4).map λi=>AV.str (bv (F+(i+1)*(1+g7 c1)%5)),hp s (J++(UD 4).map λi=>AO.list (ag (bu (2^(F+(i+1)*(1+g7 c1)%5)))))):=by
  refine Fu (T:=TT) (l:=UD 4) (F:=λ(i:Nat)=>AV.int (i:Int)) (λi=>AV.str (bv (F+(i+1)*(1+g7 c1)%5))) (λi=>AO.list (ag (bu (2^(F+(i+1)*(1+g7 c1)%5))))) (dq (n:=4) rfl (by decide)) (ρ1:=λi=>(aq [sc,.lst [.int c0,.int c1],dr,kd,nm,fi,op,wd,tx,lx,rw,jl,go,na,pr,tb,bR F] [.int (i:Nat)])) (λi _=>rfl) λi hi J=>?_
  have hi:=UR.mp hi
  have m1:bp (hp s J) .Mult (.int ((i+1:Nat):Int)) (.int ((1+g7 c1:Nat):Int))=some (.int (((i+1)*(1+g7 c1):Nat):Int)):=by
   rw[E1 (by lia)];push_cast;rfl
  have d3:bp (hp s J) .Mod (.int (((i+1)*(1+g7 c1):Nat):Int)) (.int 5)=some (.int (((i+1)*(1+g7 c1)%5:Nat):Int)):=by
   rw[Bi (by decide)];exact congrArg (λx=>some (AV.int x)) (lH _ 5)
  have hq5:(i+1)*(1+g7 c1)%5<5:=Y5 _ (by decide)
  have w:=CS F ((i+1)*(1+g7 c1)%5) hF hq5
  have p:=rL (m+23) (hp s J) (2^(F+(i+1)*(1+g7 c1)%5)) w.ok
  rw[w.p,fW] at p
  exact xF rfl (ba (bF (n:=m+35) rfl (xB (n:=m+34) (xB (n:=m+33) (xB (n:=m+32) (u:=.int (i:Nat)) rfl rfl rfl) (xB (n:=m+32) (u:=.int 1) (w:=.int (g7 c1)) rfl (show(aa TT (m+32)).e _ _ _=some (AV.int (g7 c1),hp s J) from f1▸rfl) rfl) m1) rfl d3) (qh F hq5))) p
 have hl:(UD 4).map (λi=>AV.str (bv (F+(i+1)*(1+g7 c1)%5)))=ag (bt F (qL c1)):=by
  unfold ag bt qL
  rw[UX,UX];rfl
 rw[hl] at e1
 refine⟨J++(UD 4).map (λi=>AO.list (ag (bu (2^(F+(i+1)*(1+g7 c1)%5))))),?_⟩
 have hll:(ag (bt F (qL c1))).length<=1000000:=by unfold ag bt qL;simp
 exact aA (aN e1 hll)
theorem Ij{r:R}{ρ1:Str->ae}{ρ:ae}{it elt:IE}(s:HS)(J:AH)(l:List Str)(p0:List Str){H:AH}(hs:aO r it ρ H=some (.items (ag l),hp {s with pb:=ag p0} J))(hb:∀ x∈l,be (.one 25) (.str x) (ρ++[none])=some (ρ1 x))(h:∀ x∈l,∀ p,p.length<=900->r.e elt (ρ1 x) (hp {s with pb:=ag p} J)=some (.none,hp {s with pb:=ag (p++[x])} J))(hl:p0.length+l.length<=900):
  ao TT r elt [.mk (.one 25) it []] ρ H=some (l.map λ_=>AV.none,hp {s with pb:=ag (p0++l)} J):=by
 rw[ao,hs]
 have key:∀(l p:List Str),(∀ x∈l,be (.one 25) (.str x) (ρ++[none])=some (ρ1 x))->(∀ x∈l,∀ p,p.length<=900->r.e elt (ρ1 x) (hp {s with pb:=ag p} J)=some (.none,hp {s with pb:=ag (p++[x])} J))->p.length+l.length<=900->bI (λv H=>bJ r (.one 25) [] (λρ H=>ao TT r elt [] ρ H) v (ρ++[none]) H) (ag l) (hp {s with pb:=ag p} J)=some (l.map λ_=>AV.none,hp {s with pb:=ag (p++l)} J):=by
  intro l
  induction l with
  |nil=>intro p _ _ _;rw[U8];rfl
  |cons x l ih=>
   intro p hb h hl
   rw[UU] at hl
   have e:=ih (p++[x]) (λy hy=>hb y (.tail _ hy)) (λy hy=>h y (.tail _ hy)) (by simp;lia)
   have e3:bJ r (.one 25) [] (λρ H=>ao TT r elt [] ρ H) (.str x) (ρ++[none]) (hp {s with pb:=ag p} J)=some ([.none],hp {s with pb:=ag (p++[x])} J):=gY (hb x (.head _)) rfl (h x (.head _) p (by lia))
   rw[U3] at e
   exact(congrArg (ah · λa H=>ah (bI (λv H=>bJ r (.one 25) [] (λρ H=>ao TT r elt [] ρ H) v (ρ++[none]) H) (ag l) H) λb H=>some (a++b,H)) e3).trans (congrArg (ah · λb H=>some (AV.none::b,H)) e)
 exact key l p0 hb h hl
theorem QY(cs fi na pr tb fl:AV)(s:HS)(J:AH)(l:List Str)(hl:l.length=4):am TT (aa TT (m+38)) ME (aq [sc,cs,dr,kd,nm,fi,op,wd,tx,.loc 7,rw,jl,go,na,pr,tb,fl,.lst (ag l)] []) (hp {s with pb:=[]} J)=some (.next,(aq [sc,cs,dr,kd,nm,fi,op,wd,tx,.loc 7,rw,jl,go,na,pr,tb,fl,.lst (ag l)] []),hp {s with pb:=ag l} J):=by
 have e1:ao TT (aa TT (m+35)) sP zQ (aq [sc,cs,dr,kd,nm,fi,op,wd,tx,.loc 7,rw,jl,go,na,pr,tb,fl,.lst (ag l)] []) (hp {s with pb:=[]} J)=some (l.map λ_=>AV.none,hp {s with pb:=ag ([]++l)} J):=by
  refine Ij s J l [] rfl (ρ1:=λx=>(aq [sc,cs,dr,kd,nm,fi,op,wd,tx,.loc 7,rw,jl,go,na,pr,tb,fl,.lst (ag l)] [.str x])) (λx _=>rfl) (λx _ p hp'=>?_) (by simp;lia)
  have p1:=qf (m+25) {s with pb:=ag p} J (v:=.str x) (by unfold ag;rw[UC];lia)
  have hx:ag p++[AV.str x]=ag (p++[x]):=by unfold ag;simp
  rw[hx] at p1
  exact xM rfl (Jw _ _) (ba rfl) rfl p1
 rw[Zy] at e1
 match l,hl with
 | [a,b,c,d],_=>
  exact aZ (b:=false) (H1:=hp {s with pb:=ag [a,b,c,d]} J) (tC (n:=m+36) (aN e1 (UG rfl)) rfl rfl) rfl
theorem QZ(cs fi na pr tb fl li:AV)(s:HS)(J:AH):am TT (aa TT (m+38)) FX (aq [sc,cs,dr,kd,nm,fi,op,wd,tx,.loc 7,rw,jl,go,na,pr,tb,fl,li] []) (hp s J)=some (.next,(aq [sc,cs,dr,kd,nm,fi,op,wd,tx,.loc 7,rw,jl,go,na,pr,tb,fl,li,.int s.ln] []),hp s J):=by
 exact aA rfl
end
end
section
section
variable {T:c8}{r:R}{ρ:ae}{H H1:AH}{γ:Type}
theorem C3{f:AV->AH->Option (List AV×AH)}{F G g:γ->AV}:∀(l:List γ) (k:Nat),l.length<k->(∀ x∈l,f (.tup [F x,G x]) H=some ([g x],H))->cC T r f k (.zip (.items (l.map F)) (.items (l.map G))) H=some (l.map g,H)
 |_,0,hk,_=>absurd hk (VU _)
 | [],k+1,_,_=>Bq rfl
 |x::l,k+1,hk,hf=>cd (s':=.zip (.items (l.map F)) (.items (l.map G))) rfl (hf x (.head _)) (C3 l k (Vw hk) λy hy=>hf y (.tail _ hy))
theorem za{f:AV->AH->Option (List AV×AH)}{F G g:γ->AV}{n:Nat}{L:List AV}(hL:H[n]? =some (.list L)):∀(l:List γ) (i k:Nat),L.drop i=l.map F->l.length<k->(∀ x∈l,f (.tup [F x,G x]) H=some ([g x],H))->cC T r f k (.zip (.locl n i) (.items (l.map G))) H=some (l.map g,H)
 |_,_,0,_,hk,_=>absurd hk (VU _)
 | [],i,k+1,hi,_,_=>Bq (s:=.zip (.locl n i) (.items [])) (congrArg (ah · λp H=>ah (aX T r (.items []) H) λq H=>some (CU p q,H)) (jL hL hi))
 |x::l,i,k+1,hi,hk,hf=>cd (s:=.zip (.locl n i) (.items (G x::l.map G))) (s':=.zip (.locl n (i+1)) (.items (l.map G))) (congrArg (ah · λp H=>ah (aX T r (.items (G x::l.map G)) H) λq H=>some (CU p q,H)) (iN hL hi)) (hf x (.head _)) (za hL l (i+1) k (iG hi) (Vw hk) λy hy=>hf y (.tail _ hy))
theorem Fx{elt it:IE}{a b:Nat}{l:List γ}{F G:γ->AV}(f:γ->AV){ρ1:γ->ae}(hs:aO r it ρ H=some (.zip (.items (l.map F)) (.items (l.map G)),H1))(hl:l.length<1000)(hb:∀ x∈l,be (.many [a,b]) (.tup [F x,G x]) (ρ++[none,none])=some (ρ1 x))(h2:∀ x∈l,r.e elt (ρ1 x) H1=some (f x,H1)):
  ao T r elt [.mk (.many [a,b]) it []] ρ H=some (l.map f,H1):=by
 rw[ao,hs]
 exact C3 (f:=λv H=>bJ r (.many [a,b]) [] (λρ H=>ao T r elt [] ρ H) v (ρ++U2 2 none) H) (F:=F) (G:=G) (g:=f) l 1000 hl λx hx=>gY (hb x hx) rfl (h2 x hx)
theorem Dl{elt it:IE}{a b n:Nat}{l:List γ}{F G:γ->AV}(f:γ->AV){ρ1:γ->ae}(hs:aO r it ρ H=some (.zip (.locl n 0) (.items (l.map G)),H1))(hL:H1[n]? =some (.list (l.map F)))(hl:l.length<1000)(hb:∀ x∈l,be (.many [a,b]) (.tup [F x,G x]) (ρ++[none,none])=some (ρ1 x))(h2:∀ x∈l,r.e elt (ρ1 x) H1=some (f x,H1)):
  ao T r elt [.mk (.many [a,b]) it []] ρ H=some (l.map f,H1):=by
 rw[ao,hs]
 exact za (f:=λv H=>bJ r (.many [a,b]) [] (λρ H=>ao T r elt [] ρ H) v (ρ++U2 2 none) H) (F:=F) (G:=G) (g:=f) hL l 0 1000 Wh hl λx hx=>gY (hb x hx) rfl (h2 x hx)
end
theorem La{F:Nat}{G:Int}{g:V5 (V5 Bool)}(hF:F<32):yX F dZ g (iu F G g):=by
 have hm:(iu F G g).map Bl.b=[0,1,2,3,4]:=rfl
 refine⟨λx hx=>?_,λx hx=>?_,by rw[hm];decide,λb=>?_,λd hd h0 hr=>?_⟩
 ·obtain⟨i,hi,rfl⟩:=UY.mp hx
  exact xj hF (UR.mp hi)
 ·obtain⟨i,hi,rfl⟩:=UY.mp hx
  rfl
 ·rw[hm];unfold dZ;simp
 ·exfalso
  apply hr
  unfold dZ
  simp only[U0,VN,or_false]
  lia
theorem ut{g:V5 (V5 Bool)}(h:jH ab g=true):(∀ low<5,∃ b∈five,dg ab (aQ ab g) (bC ab ((aQ ab g).get low) (cR ab g (aQ ab g))) b=true)/\jt ab g (aQ ab g) (cR ab g (aQ ab g)) 5 dZ g=true:=by
 unfold jH at h
 generalize jt ab g (aQ ab g) (cR ab g (aQ ab g)) 5 dZ g=k at *
 generalize hA:dw ab five _=A at h
 have h2:(A&&k)=true:=h
 rw[U6] at h2
 refine⟨λlow hl=>?_,h2.2⟩
 rw[<-hA,eJ] at h2
 exact oY.mp (h2.1 low (pF.mpr hl))
theorem Iw{g:V5 (V5 Bool)}{c1:Int}{F:Nat}(h:jH ab g=true)(hF:F<32):gC g (aQ ab g) (cR ab g (aQ ab g)) F dZ g (iu F (gN c1) g) (qL c1) []:=
 ⟨La hF,(ut h).2,by decide,by decide,by rw[U8];exact(Ju c1).1,λb=>by rw[U8];exact(Ju c1).2 b,λb hb=>by cases hb⟩
section
variable (m F:Nat)(sc cs:AV)(H:AH)(dr kd nm fi op wd tx rw jl go pr ln:AV)(s:HS)(J:AH)
theorem Q0(c1:Int)(g:V5 (V5 Bool))(h:jH ab g=true)(hF:F<32):∃ bl q J',am TT (aa TT (m+38)) MG (aq [sc,cs,dr,kd,nm,fi,op,wd,tx,.loc 7,rw,jl,go,fx F (gN c1),pr,.loc 14,bR F,.lst (ag (bt F (qL c1))),ln] []) (hp {s with pb:=ag (bt F (qL c1)),items:=ax ((iu F (gN c1) g).map (Bl.it F))} J)=some (.next,(aq [sc,cs,dr,kd,nm,fi,op,wd,tx,.loc 7,rw,jl,go,fx F (gN c1),pr,.loc 14,bR F,.lst (ag (bt F (qL c1))),ln,.lst [.lst (ag (bt F q)),.lst (bl.map (bB F))]] []),hp {s with pb:=ag (bt F q),items:=ax (bl.map (Bl.it F))} J')/\
  lz g (aQ ab g) (cR ab g (aQ ab g)) F bl q:=by
 obtain⟨bl,q,J',e,L⟩:=BU (m+12) F _ _ _ s J hF _ _ (Iw (c1:=c1) h hF)
 refine⟨bl,q,J',?_,L⟩
 have e1:ao TT (aa TT (m+36)) zR sQ (aq [sc,cs,dr,kd,nm,fi,op,wd,tx,.loc 7,rw,jl,go,fx F (gN c1),pr,.loc 14,bR F,.lst (ag (bt F (qL c1))),ln] []) (hp {s with pb:=ag (bt F (qL c1)),items:=ax ((iu F (gN c1) g).map (Bl.it F))} J)=some ((iu F (gN c1) g).map (bB F),hp {s with pb:=ag (bt F (qL c1)),items:=ax ((iu F (gN c1) g).map (Bl.it F))} J):=by
  refine Fx (T:=TT) (l:=iu F (gN c1) g) (F:=λx=>AV.str x.nm) (G:=λx=>AV.int ((2^(F+x.b):Nat):Int)) (bB F) rfl (show 5<1000 by decide) (ρ1:=λx=>(aq [sc,cs,dr,kd,nm,fi,op,wd,tx,.loc 7,rw,jl,go,fx F (gN c1),pr,.loc 14,bR F,.lst (ag (bt F (qL c1))),ln] [.str x.nm,.int ((2^(F+x.b):Nat):Int)])) (λx _=>rfl) λx _=>?_
  rfl
 have e2:=aN e1 (show 5<=1000000 by decide)
 exact aA (xF (n:=m+36) rfl (Ua rfl rfl rfl e2) e)
end
end
section
def dM(F:Nat)(x:Bl):AV:=.lst [.int ((2^(F+x.b):Nat):Int),.int ((ai x.row*2^F:Nat):Int)]
theorem LU:∀ l:List (Str×Str),ct (.lst (ax l)) (.lst (ax l))=some true:=by
 intro l
 have h:∀ l:List (Str×Str),bY (dB 5) (ax l) (ax l)=some true:=by
  intro l
  induction l with
  |nil=>rfl
  |cons p l ih=>
   have:dB 5 (gZ p) (gZ p)=some true:=by
    show ob (some (decide (p.1=p.1))) (λa=>ob (ob (some (decide (p.2=p.2))) λa=>ob (some true) λb=>some (a&&b)) λb=>some (a&&b))=_
    rw[decide_eq_true rfl,decide_eq_true rfl]
    rfl
   exact(congrArg (ob · λx=>ob (bY (dB 5) (ax l) (ax l)) λy=>some (x&&y)) this).trans (congrArg (ob · λy=>some (true&&y)) ih)
 exact h l
theorem TS{n:Nat}{a b:IE}{ρ:ae}{H H1 H2:AH}{y:Bool}(h1:(aa TT n).t a ρ H=some (false,H1))(h2:(aa TT n).t b ρ H1=some (y,H2)):(aa TT (n+1)).t (.or [a,b]) ρ H=some (y,H2):=by
 show ej (aa TT n) [a,b] ρ H=_
 unfold ej
 rw[h1]
 show ej (aa TT n) [b] ρ H1=_
 unfold ej
 rw[h2]
 cases y<;>rfl
theorem nq(m:Nat)(s:HS)(J:AH)(ρ:ae)(h15:ρ[15]? =some (some (.loc 14)))(hl:s.items.length<=1000):(aa TT (m+11)).e (.meth (.var 15) .items [] []) ρ (hp s J)=some (.loc (hp s J).length,hp s (J++[.list s.items])):=xM (n:=m+10) (dF h15) (Eu s J) rfl rfl (uq (m+1) s J hl)
theorem pq(s:HS)(J K:AH)(l:List AV):(hp s (J++[.list l]++K))[(hp s J).length]? =some (.list l):=by
 rw[U3,<-fW,dU];rfl
section
variable (m F:Nat)(sc cs:AV)(dr kd nm fi op wd tx lx rw jl go na pr fl li ln me:AV)(s:HS)(J:AH)
theorem Q1(hl:s.items.length<=900):am TT (aa TT (m+38)) FY (aq [sc,cs,dr,kd,nm,fi,op,wd,tx,lx,rw,jl,go,na,pr,.loc 14,fl,li,ln,me] []) (hp s J)=some (.next,(aq [sc,cs,dr,kd,nm,fi,op,wd,tx,lx,rw,jl,go,na,pr,.loc 14,fl,li,ln,me,.loc (hp s J).length] []),hp s (J++[.list s.items])):=by
 have e:=nq (m+27) s J (aq [sc,cs,dr,kd,nm,fi,op,wd,tx,lx,rw,jl,go,na,pr,.loc 14,fl,li,ln,me] []) rfl (by lia)
 exact aA (i:=20) e
theorem Q2(hl:s.items.length<=900):am TT (aa TT (m+38)) FZ (aq [sc,cs,dr,kd,nm,fi,op,wd,tx,lx,rw,jl,go,na,pr,.loc 14,fl,li,ln,me,.loc (hp s J).length] []) (hp s (J++[.list s.items]))=some (.next,(aq [sc,cs,dr,kd,nm,fi,op,wd,tx,lx,rw,jl,go,na,pr,.loc 14,fl,li,ln,me,.loc (hp s J).length] []),hp s (J++[.list (s.items++[.tup [.str (UO #[97]),.str (UO #[97])]])])):=by
 have g0:(hp s (J++[.list s.items]))[(hp s J).length]? =some (.list s.items):=by
  have:=pq s J [] s.items
  rw[U8] at this
  exact this
 have g1:∀ x,(hp s (J++[.list s.items])).set (hp s J).length x=hp s (J++[x]):=λx=>by
  rw[<-fW,gT,<-fW];rfl
 exact(iq (xM rfl (lS g0) rfl rfl (lD g0 (show s.items.length<=1000000 by lia)))).trans (by rw[g1])
theorem Q3(sp:AV)(bl:List Bl)(hF:F<32)(hs:s.items=ax (bl.map (Bl.it F)))(ho:∀ y∈bl,y.Ok F)(hl:bl.length<=100):∃ J',am TT (aa TT (m+38)) F4 (aq [sc,cs,dr,kd,nm,fi,op,wd,tx,lx,rw,jl,go,na,pr,.loc 14,fl,li,ln,me,sp] []) (hp s J)=some (.next,(aq [sc,cs,dr,kd,nm,fi,op,wd,tx,lx,rw,jl,go,na,pr,.loc 14,fl,li,ln,me,sp,.lst (bl.map (dM F))] []),hp s J'):=by
 have hil:s.items.length=bl.length:=by rw[hs];unfold ax;rw[UC,UC]
 have hm:ax (bl.map (Bl.it F))=bl.map λx=>gZ (x.it F):=by unfold ax;rw[UX];rfl
 have hL:∀ K,(hp s (J++[.list s.items]++K))[(hp s J).length]? =some (.list (bl.map λx=>gZ (x.it F))):=λK=>by
  rw[pq,hs,hm]
 have e2:=nq (m+26) s J (aq [sc,cs,dr,kd,nm,fi,op,wd,tx,lx,rw,jl,go,na,pr,.loc 14,fl,li,ln,me,sp] []) rfl (by lia)
 try simp only[XD,YS] at e2
 have e1:aO (aa TT (m+37)) (.meth (.var 15) .items [] []) (aq [sc,cs,dr,kd,nm,fi,op,wd,tx,lx,rw,jl,go,na,pr,.loc 14,fl,li,ln,me,sp] []) (hp s J)=some (.locl (hp s J).length 0,hp s (J++[.list s.items])):=by
  have e3:=hL []
  rw[U8] at e3
  exact sD rfl e2 (congrArg (ob · (yq (hp s J).length)) e3)
 have e4:=wo (T:=TT) (elt:=sR) (t:=.many [25,26]) (l:=bl) (F:=λx=>gZ (x.it F)) (dM F) (lN F) e1 hL (by lia) (ρ1:=λx=>(aq [sc,cs,dr,kd,nm,fi,op,wd,tx,lx,rw,jl,go,na,pr,.loc 14,fl,li,ln,me,sp] [.str x.nm,.str (x.it F).2])) (λx hx=>rfl) (λx hx J=>by
  have hb:=(ho x hx).lt
  have b1:=mZ (m+23) (hp s J) (2^(F+x.b)) (ai x.row*2^F) (rK (by lia)) (lm _ hF)
  rw[fW] at b1
  exact xF rfl (ba rfl) b1)
 have e5:ao TT (aa TT (m+37)) sR zS (aq [sc,cs,dr,kd,nm,fi,op,wd,tx,lx,rw,jl,go,na,pr,.loc 14,fl,li,ln,me,sp] []) (hp s J)=_:=e4
 refine⟨J++[.list s.items]++bl.map (lN F),?_⟩
 exact aA (aN e5 (by rw[UC];lia))
theorem Q4(sp le:AV)(g:V5 (V5 Bool))(h:jH ab g=true):am TT (aa TT (m+38)) F5 (aq [sc,cs,dr,kd,nm,fi,op,wd,tx,lx,rw,jl,.lst (bT g),na,pr,.loc 14,fl,li,ln,me,sp,le] []) (hp s J)=some (.next,(aq [sc,cs,dr,kd,nm,fi,op,wd,tx,lx,rw,jl,.lst (bT g),na,pr,.loc 14,fl,li,ln,me,sp,le,.lst ((cV g (aQ ab g) (cR ab g (aQ ab g))).map cJ)] []),hp s J):=by
 exact aA (xF rfl (ba rfl) (FL (m+15) g (hp s J) (ut h).1))
theorem Q5(q:List AV)(sp du:AV)(bl:List Bl)(hs:s.items=ax (bl.map (Bl.it F)))(hl:bl.length<=100):∃ J',am TT (aa TT (m+38)) F6 (aq [sc,cs,dr,kd,nm,fi,op,wd,tx,lx,rw,jl,go,na,.loc 12,.loc 14,fl,li,ln,.lst [.lst q,.lst (bl.map (bB F))],sp,.lst (bl.map (dM F)),du] []) (hp s J)=some (.next,(aq [sc,cs,dr,kd,nm,fi,op,wd,tx,lx,rw,jl,go,na,.loc 12,.loc 14,fl,li,ln,.lst [.lst q,.lst (bl.map (bB F))],sp,.lst (bl.map (dM F)),du] []),hp s J'):=by
 have hil:s.items.length=bl.length:=by rw[hs];unfold ax;rw[UC,UC]
 have hm:ax (bl.map (Bl.it F))=bl.map λx=>gZ (x.it F):=by unfold ax;rw[UX];rfl
 have e2:=nq (m+24) s J (aq [sc,cs,dr,kd,nm,fi,op,wd,tx,lx,rw,jl,go,na,.loc 12,.loc 14,fl,li,ln,.lst [.lst q,.lst (bl.map (bB F))],sp,.lst (bl.map (dM F)),du] []) rfl (by lia)
 try simp only[XD,YS] at e2
 have d1:au (hp s (J++[.list s.items])) (.loc 12)= .lst (ax (bl.map (Bl.it F))):=by rw[<-hs];rfl
 have d2:au (hp s (J++[.list s.items])) (.loc (hp s J).length)= .lst (ax (bl.map (Bl.it F))):=by
  rw[<-hs]
  refine Bx ?_
  have:=pq s J [] s.items
  rw[U8] at this
  exact this
 have g12:(hp s (J++[.list s.items]))[12]? =some (.list (bl.map λx=>gZ (x.it F))):=by rw[<-hm,<-hs];rfl
 have e1:ao TT (aa TT (m+34)) sS sU (aq [sc,cs,dr,kd,nm,fi,op,wd,tx,lx,rw,jl,go,na,.loc 12,.loc 14,fl,li,ln,.lst [.lst q,.lst (bl.map (bB F))],sp,.lst (bl.map (dM F)),du] []) (hp s (J++[.list s.items]))=some (bl.map (bB F),hp s (J++[.list s.items])):=by
  refine Dl (T:=TT) (n:=12) (l:=bl) (F:=λx=>gZ (x.it F)) (G:=dM F) (bB F) rfl g12 (by lia) (ρ1:=λx=>(aq [sc,cs,dr,kd,nm,fi,op,wd,tx,lx,rw,jl,go,na,.loc 12,.loc 14,fl,li,ln,.lst [.lst q,.lst (bl.map (bB F))],sp,.lst (bl.map (dM F)),du] [gZ (x.it F),dM F x])) (λx _=>rfl) λx _=>?_
  rfl
 have e3:(aa TT (m+35)).e (.comp false sS sU) _ _=_:=aN e1 (by rw[UC];lia)
 have s3:∀ H,c7 TT (.lst [.lst q,.lst (bl.map (bB F))]) (.int 1) H=some (.lst (bl.map (bB F))):=λ_=>rfl
 have q1:=LU (bl.map (Bl.it F))
 have q2:ct (.lst (bl.map (bB F))) (.lst (bl.map (bB F)))=some true:=AQ F (λx=>2^(F+x.b)) bl
 refine⟨J++[.list s.items],?_⟩
 refine aZ (b:=false) (H1:=hp s (J++[.list s.items])) (TS (n:=m+37) (y:=false) (tC (n:=m+35) (u:=.loc 12) (w:=.loc (hp s J).length) (H1:=hp s J) rfl e2 ?_) (tC (n:=m+35) (u:=.lst (bl.map (bB F))) (w:=.lst (bl.map (bB F))) (H1:=hp s (J++[.list s.items])) e3 (bF (n:=m+34) (u:=.lst [.lst q,.lst (bl.map (bB F))]) (w:=.int 1) rfl rfl (s3 _)) (congrArg (ob · λb=>some !b) q2))) rfl
 exact(qH _ _).trans (by rw[d1,d2,q1];rfl)
end
end
section
noncomputable def nN(b:Nat):List Int:=[(b:Int)]
def Jz(bs:List Nat):List Nat:=(dE (λi j=>fL ((bs.map nN).getD i []) ((bs.map nN).getD j [])) (W.kas_sort bs.length)).toList
def ED(bs:List Nat):Bool:=Nat.blt bs.length 2||((Jz bs).all (λi=>Nat.blt i bs.length)&&decide ((Jz bs).map (λi=>bs.getD i 0)=(UD 5).filter λb=>decide (b∈bs)))
noncomputable def wZ:Nat->List (List Nat)
 |0=>[[]]
 |n+1=>(wZ n).flatMap λl=>((UD 5).filter λb=>!decide (b∈l)).map (·::l)
theorem uw:∀{l:List Nat},l.Nodup->(∀ b∈l,b<5)->l∈wZ l.length
 | [],_,_=>.head _
 |b::l,hn,hl=>by
  have hn':=W5.mp hn
  refine List.mem_flatMap.mpr ⟨l,uw hn'.2 λc hc=>hl c (.tail _ hc),UY.mpr ⟨b,UZ.mpr ⟨UR.mpr (hl b (.head _)),?_⟩,rfl⟩⟩
  rw[decide_eq_false hn'.1];rfl
theorem Iu:(UD 6).all (λn=>(wZ n).all ED)=true:=by decide +kernel
end
section
theorem CA{lt:Nat->AV}{rw:Nat->List Int}(hlt:∀ i j,i<5->j<5->fL (rw i) (rw j)=decide (i<j))(hne:∀ i,rw i≠[]){bs:List Nat}(hn:bs.Nodup)(hb:∀ b∈bs,b<5):ot (bs.map lt) (bs.map rw)=((UD 5).filter λb=>decide (b∈bs)).map lt:=by
 have hlen:bs.length<=5:=by
  have:bs.length<=(UD 5).length:=VB hn λb h=>UR.mpr (hb b h)
  rw[WA] at this;exact this
 have hs:=UP.mp (UP.mp Iu bs.length (UR.mpr (by lia))) bs (uw hn hb)
 unfold ot
 rw[UC]
 by_cases h2:bs.length<2
 ·rw[if_pos h2]
  refine congrArg (List.map lt) ?_
  clear hs hlen hn
  match bs,h2,hb with
  | [],_,_=>rfl
  | [b],_,hb=>
   have:=hb b (.head _)
   have c:b=0∨b=1∨b=2∨b=3∨b=4:=by lia
   rcases c with rfl|rfl|rfl|rfl|rfl<;>rfl
  |_::_::_,h2,_=>exact absurd h2 (by simp)
 ·rw[if_neg h2]
  unfold ED at hs
  have h3:Nat.blt bs.length 2=false:=by
   cases h:Nat.blt bs.length 2 with
   |true=>exact absurd (UG h) h2
   |false=>rfl
  rw[h3,Bool.false_or,U6,decide_eq_true_eq] at hs
  have key:(λi j=>fL ((bs.map rw).getD i []) ((bs.map rw).getD j []))=λi j=>fL ((bs.map nN).getD i []) ((bs.map nN).getD j []):=by
   funext i j
   have g:∀(f:Nat->List Int) (i:Nat),(bs.map f).getD i []=if h:i<bs.length then f bs[i] else[]:=λf i=>by
    rw[List.getD_eq_getElem?_getD,List.getElem?_map]
    by_cases h:i<bs.length
    ·rw[List.getElem?_eq_getElem h,dif_pos h];rfl
    ·rw[List.getElem?_eq_none (by lia),dif_neg h];rfl
   have l0:fL [] []=false:=rfl
   have l1:∀ i,fL [] (rw i)=true:=λi=>by
    cases h:rw i with
    |nil=>exact absurd h (hne i)
    |cons=>rfl
   have l2:∀ i,fL (rw i) []=false:=λi=>by
    cases h:rw i with
    |nil=>rfl
    |cons=>rfl
   have l3:∀ i,fL [] (nN i)=true:=λ_=>rfl
   have l4:∀ i,fL (nN i) []=false:=λ_=>rfl
   have l5:∀ i j,fL (nN i) (nN j)=decide (i<j):=λi j=>by
    show(if(i:Int)=(j:Int) then false else decide ((i:Int)<(j:Int)))=_
    by_cases h:i=j
    ·subst h;simp
    ·rw[if_neg (by lia)]
     exact decide_eq_decide.mpr (by lia)
   rw[g,g,g,g]
   by_cases hi:i<bs.length
   ·rw[dif_pos hi,dif_pos hi]
    by_cases hj:j<bs.length
    ·rw[dif_pos hj,dif_pos hj,l5,hlt _ _ (hb _ (XH hi)) (hb _ (XH hj))]
    ·rw[dif_neg hj,dif_neg hj,l2,l4]
   ·rw[dif_neg hi,dif_neg hi]
    by_cases hj:j<bs.length
    ·rw[dif_pos hj,dif_pos hj,l1,l3]
    ·rw[dif_neg hj,dif_neg hj]
  rw[key,<-hs.2,UX]
  refine Vn λi hi=>?_
  have hi':=UG (UP.mp hs.1 i hi)
  show(bs.map lt).getD i .none=lt (bs.getD i 0)
  rw[List.getD_eq_getElem?_getD,List.getD_eq_getElem?_getD,List.getElem?_map,List.getElem?_eq_getElem hi']
  rfl
end
section
def iL(F:Nat)(rowOf:Nat->V5 Bool)(b:Nat):AV:=.lst [.int ((2^(F+b):Nat):Int),.int ((ai (rowOf b)*2^F:Nat):Int)]
def AJ(F:Nat)(rowOf:Nat->V5 Bool)(b:Nat):List Int:=[((2^(F+b):Nat):Int),((ai (rowOf b)*2^F:Nat):Int)]
theorem AI(F:Nat)(rowOf:Nat->V5 Bool):∀ bs:List Nat,iP (bs.map (iL F rowOf))=some (bs.map (AJ F rowOf))
 | []=>rfl
 |b::bs=>by
  have ih:=AI F rowOf bs
  show iD (λs=>ob (bV s) λa=>ob (iP (bs.map (iL F rowOf))) λb=>some (a::b)) (iL F rowOf b)=_
  rw[ih];rfl
theorem QK(F:Nat)(rowOf:Nat->V5 Bool)(i j:Nat):fL (AJ F rowOf i) (AJ F rowOf j)=decide (i<j):=by
 show(if(((2^(F+i):Nat):Int)=((2^(F+j):Nat):Int)) then(if((ai (rowOf i)*2^F:Nat):Int)=((ai (rowOf j)*2^F:Nat):Int) then false else _) else decide (((2^(F+i):Nat):Int)<((2^(F+j):Nat):Int)))=_
 by_cases h:i=j
 ·subst h;simp
 ·have hne:¬(((2^(F+i):Nat):Int)=((2^(F+j):Nat):Int)):=λq=>by
   have:=vB (F+i) (F+j)
   rw[decide_eq_true q] at this
   have:=of_decide_eq_true this.symm
   lia
  rw[if_neg hne]
  refine decide_eq_decide.mpr ?_
  constructor
  ·intro q
   refine V9 λhn=>?_
   have: 2^(F+j)<=2^(F+i):=VD (by decide) (by lia)
   lia
  ·intro q
   have: 2^(F+i)<2^(F+j):=W0 (by decide) (by lia)
   lia
theorem C0{g over:V5 (V5 Bool)}{gone:V5 Bool}{F:Nat}{bl:List Bl}{q:List Nat}(L:lz g over gone F bl q):bl.map (dM F)=(bl.map Bl.b).map (iL F (c5 ab g over gone)):=by
 rw[UX]
 refine Vn λx hx=>?_
 show dM F x=iL F _ x.b
 unfold dM iL
 rw[L.row x hx]
theorem Mn{r:R}{H:AH}{args:List AV}:bj TT r (.g (.builtin "sorted")) args [] H=Lx .sorted args H:=rfl
theorem n8{g over:V5 (V5 Bool)}{gone:V5 Bool}{F:Nat}{bl:List Bl}{q:List Nat}(L:lz g over gone F bl q):(bl.map Bl.b).length<=5/\∀ b∈bl.map Bl.b,b<5:=by
 have h:∀ b∈bl.map Bl.b,b<5:=λb hb=>by
  obtain⟨x,hx,rfl⟩:=UY.mp hb
  exact(L.ok x hx).lt
 have:(bl.map Bl.b).length<=(UD 5).length:=VB L.nd λb hb=>UR.mpr (h b hb)
 rw[WA] at this
 exact⟨this,h⟩
theorem zk{g over:V5 (V5 Bool)}{gone:V5 Bool}{F:Nat}{bl:List Bl}{q:List Nat}(L:lz g over gone F bl q):((UD 5).filter λb=>decide (b∈bl.map Bl.b))=(UD 5).filter λb=>!gone.get b:=by
 refine List.filter_congr λb hb=>?_
 have h:=L.mem b (UR.mp hb)
 cases hg:gone.get b with
 |true=>exact decide_eq_false λq=>by rw[h.mp q] at hg;cases hg
 |false=>exact decide_eq_true (h.mpr hg)
theorem CB{g over:V5 (V5 Bool)}{gone:V5 Bool}{F:Nat}{bl:List Bl}{q:List Nat}(L:lz g over gone F bl q)(r:R)(H:AH):bj TT r (.g (.builtin "sorted")) [.lst (bl.map (dM F))] [] H=some (.lst (((UD 5).filter λb=>!gone.get b).map (iL F (c5 ab g over gone))),H):=by
 have hl:=n8 L
 have h1:iP (bl.map (dM F))=some ((bl.map Bl.b).map (AJ F (c5 ab g over gone))):=by rw[C0 L,AI]
 have h2:((bl.map Bl.b).map (AJ F (c5 ab g over gone))).length<6/\((bl.map Bl.b).map (AJ F (c5 ab g over gone))).all (λx=>aW x.length)=true:=by
  refine⟨by rw[UC];lia,?_⟩
  rw[List.all_map,UP]
  intro b _;rfl
 rw[Mn]
 refine(congrArg (ob · λ(rows:List (List Int))=>bA (rows.length<6/\rows.all (λx=>aW x.length)) (some (AV.lst (ot (bl.map (dM F)) rows),H))) h1).trans ((gd h2).trans ?_)
 rw[C0 L,CA (λi j _ _=>QK F _ i j) (λi h=>by cases h) L.nd hl.2,zk L]
theorem JU(F:Nat)(rowOf:Nat->V5 Bool):∀ bs:List Nat,ct (.lst (bs.map (iL F rowOf))) (.lst (bs.map (iL F rowOf)))=some true:=by
 intro bs
 have h:∀ bs:List Nat,bY (dB 5) (bs.map (iL F rowOf)) (bs.map (iL F rowOf))=some true:=by
  intro bs
  induction bs with
  |nil=>rfl
  |cons b bs ih=>
   have:dB 5 (iL F rowOf b) (iL F rowOf b)=some true:=by
    show ob (some (decide (((2^(F+b):Nat):Int)=((2^(F+b):Nat):Int)))) (λa=>ob (ob (some (decide (((ai (rowOf b)*2^F:Nat):Int)=((ai (rowOf b)*2^F:Nat):Int)))) λa=>ob (some true) λb=>some (a&&b)) λb=>some (a&&b))=_
    rw[decide_eq_true rfl,decide_eq_true rfl]
    rfl
   exact(congrArg (ob · λx=>ob (bY (dB 5) (bs.map (iL F rowOf)) (bs.map (iL F rowOf))) λy=>some (x&&y)) this).trans (congrArg (ob · λy=>some (true&&y)) ih)
 exact h bs
section
variable (m F:Nat)(sc cs:AV)(dr kd nm fi op wd tx lx rw jl go na pr tb li ln me sp:AV)(s:HS)(J:AH){g over:V5 (V5 Bool)}{gone:V5 Bool}{bl:List Bl}{q:List Nat}(L:lz g over gone F bl q)
include L
theorem Q6(hF:F<32):am TT (aa TT (m+38)) F7 (aq [sc,cs,dr,kd,nm,.int F,op,wd,tx,lx,rw,jl,go,na,pr,tb,bR F,li,ln,me,sp,.lst (bl.map (dM F)),.lst ((cV g over gone).map cJ)] []) (hp s J)=some (.next,(aq [sc,cs,dr,kd,nm,.int F,op,wd,tx,lx,rw,jl,go,na,pr,tb,bR F,li,ln,me,sp,.lst (bl.map (dM F)),.lst ((cV g over gone).map cJ)] []),hp s J):=by
 have hdu:(cV g over gone).map cJ=((UD 5).filter λb=>!gone.get b).map λb=>cJ (b,ai (c5 ab g over gone b)):=by
  unfold cV;rw[UX];rfl
 have e1:ao TT (aa TT (m+35)) zT sV (aq [sc,cs,dr,kd,nm,.int F,op,wd,tx,lx,rw,jl,go,na,pr,tb,bR F,li,ln,me,sp,.lst (bl.map (dM F)),.lst ((cV g over gone).map cJ)] []) (hp s J)=some (((UD 5).filter λb=>!gone.get b).map (iL F (c5 ab g over gone)),hp s J):=by
  refine gm (T:=TT) (t:=.many [25,26]) (l:=(UD 5).filter λb=>!gone.get b) (F:=λb=>cJ (b,ai (c5 ab g over gone b))) (iL F (c5 ab g over gone)) (by rw[hdu];rfl) (ρ1:=λb=>(aq [sc,cs,dr,kd,nm,.int F,op,wd,tx,lx,rw,jl,go,na,pr,tb,bR F,li,ln,me,sp,.lst (bl.map (dM F)),.lst ((cV g over gone).map cJ)] [.int (b:Nat),.int (ai (c5 ab g over gone b):Nat)])) (λb _=>rfl) λb hb=>?_
  have hb5:=UR.mp (UZ.mp hb).1
  have s1:=qh (T:=TT) (H:=hp s J) F hb5
  have s2:=vk (H:=hp s J) (ai (c5 ab g over gone b)) F (WI (rl _) (by decide)) (by lia)
  exact tP (n:=m+34) (eB (bF (n:=m+33) rfl rfl s1) (xB (n:=m+33) rfl rfl s2))
 have e2:=aN e1 (by rw[UC];exact UH (Vb _ _) (by simp))
 have e3:=λr=>CB L r (hp s J)
 have q1:=JU F (c5 ab g over gone) ((UD 5).filter λb=>!gone.get b)
 exact aZ (b:=false) (H1:=hp s J) (tC (n:=m+36) (xK (ba rfl) (e3 _)) e2 (congrArg (ob · λb=>some !b) q1)) rfl
def kL(gone:V5 Bool):Nat:=ai (.of λb=>!gone.get b)/2
theorem sG:kL gone<16/\ai (.of λb=>!gone.get b)*2^F=b7 F (kL gone):=by
 have hz:=L.zero
 have h1:=rl (.of λb=>!gone.get b)
 have h2:ai (.of λb=>!gone.get b)%2=1:=by
  show((!gone.get 0).toNat+(2*(!gone.get 1).toNat+(4*(!gone.get 2).toNat+(8*(!gone.get 3).toNat+16*(!gone.get 4).toNat))))%2=1
  rw[hz]
  show(1+_)%2=1
  lia
 unfold kL b7
 refine⟨by lia,?_⟩
 congr 1
 lia
omit L in
theorem uZ:∀ l:List Nat,(l.map λb=>2^(F+b)).sum=(l.map (2^ ·)).sum*2^F
 | []=>by simp
 |b::l=>by
  rw[Vc,Xv,uZ l,Vc,Xv,Nat.add_mul,lR]
theorem yt:((bl.map Bl.b).map λb=>2^(F+b)).sum=b7 F (kL gone)/\(((UD 5).filter λb=>!gone.get b).map λb=>2^(F+b)).sum=b7 F (kL gone):=by
 have h2:(((UD 5).filter λb=>!gone.get b).map λb=>2^(F+b)).sum=b7 F (kL gone):=by
  rw[uZ,lF,(sG F L).2]
 refine⟨?_,h2⟩
 rw[<-h2]
 have hp:(bl.map Bl.b).Perm ((UD 5).filter λb=>!gone.get b):=by
  rw[List.perm_ext_iff_of_nodup L.nd (List.Nodup.sublist Yr List.nodup_range)]
  intro b
  rw[<-zk L,UZ,UR,decide_eq_true_eq]
  exact⟨λh=>⟨(n8 L).2 b h,h⟩,λh=>h.2⟩
 exact(hp.map _).sum_nat
end
end
section
noncomputable def fT:Str:=UO #[69,109,112,116,121]
noncomputable def jv:Str:=UO #[69,77,80,84,89]
theorem ku:UT jv=UT fT/\Vj fT=jv/\Vj jv=jv/\fM (UT fT)=true/\fT.length=5/\jv.length=5:=by decide +kernel
def ko(F:Nat):List Str:=bt F [0,1,2,3,4]++[jv]
theorem MA{F i j:Nat}(hF:F<32)(hi:i<5)(hj:j<5):aH (F+i)=aH (F+j)↔cU (F+i)=cU (F+j):=by
 constructor
 ·intro h
  have:=z0 (show F+i<36 by lia) (show F+j<36 by lia) h
  rw[this]
 ·intro h
  rw[<-(dH (F+i) (by lia)).lu,<-(dH (F+j) (by lia)).lu,h]
theorem Dc{p:Nat}(h:p<36):jv≠cU p:=by
 intro q
 have:=(dH p h).lu
 rw[<-q,ku.1] at this
 exact(dH p h).emp this
theorem Mf{F:Nat}(hF:F<32){bl:List Bl}(ho:∀ y∈bl,y.Ok F){nm:Str}(hn:nm∈ko F):(∀ p∈bl.map (Bl.it F)++[(fT,af [])],(UT p.1=UT nm↔Vj p.1=Vj nm))/\nm.length<=1000/\fM (UT nm)=true:=by
 obtain⟨f1,f2,f3,f4,f5,f6⟩:=ku
 have hx:∀ x∈bl,UT (x.it F).1=aH (F+x.b)/\Vj (x.it F).1=cU (F+x.b)/\x.b<5:=λx h=>⟨(ho x h).low,(ho x h).up,(ho x h).lt⟩
 rcases Ve.mp hn with hn|hn
 ·obtain⟨b,hb,rfl⟩:=UY.mp hn
  have hb5:b<5:=by
   simp only[U0,VN,or_false] at hb
   lia
  have P:=dH (F+b) (by lia)
  refine⟨λp hp=>?_,by have:=P.len;lia,P.l⟩
  show _=aH (F+b)↔_=cU (F+b)
  rcases Ve.mp hp with hp|hp
  ·obtain⟨x,hxm,rfl⟩:=UY.mp hp
   obtain⟨h1,h2,h3⟩:=hx x hxm
   rw[h1,h2]
   exact MA hF h3 hb5
  ·rw[US] at hp
   subst hp
   refine⟨λh=>absurd h P.emp,λh=>?_⟩
   rw[f2] at h
   exact absurd h (Dc (show F+b<36 by lia))
 ·rw[US] at hn
  subst hn
  refine⟨λp hp=>?_,by lia,by rw[f1];exact f4⟩
  rw[f1,f3]
  rcases Ve.mp hp with hp|hp
  ·obtain⟨x,hxm,rfl⟩:=UY.mp hp
   obtain⟨h1,h2,h3⟩:=hx x hxm
   rw[h1,h2]
   have P:=dH (F+x.b) (by lia)
   exact⟨λh=>absurd h.symm P.emp,λh=>absurd h.symm (Dc (show F+x.b<36 by lia))⟩
  ·rw[US] at hp
   subst hp
   exact⟨λ_=>f2,λ_=>rfl⟩
section
variable (m F:Nat)(sc cs:AV)(dr kd nm fi op wd tx lx rw jl go na pr tb fl li ln me sp le du:AV)(s:HS)(J:AH){g over:V5 (V5 Bool)}{gone:V5 Bool}{bl:List Bl}{q:List Nat}
theorem Q7(L:lz g over gone F bl q)(hF:F<32):∃ J',am TT (aa TT (m+38)) MH (aq [sc,cs,dr,kd,nm,.int F,op,wd,tx,lx,rw,jl,go,na,pr,tb,bR F,li,ln,me,sp,.lst (bl.map (dM F)),.lst ((cV g over gone).map cJ)] []) (hp s J)=some (.next,(aq [sc,cs,dr,kd,nm,.int F,op,wd,tx,lx,rw,jl,go,na,pr,tb,bR F,li,ln,me,sp,.lst (bl.map (dM F)),.lst ((cV g over gone).map cJ)] []),hp s J'):=by
 have hdu:(cV g over gone).map cJ=((UD 5).filter λb=>!gone.get b).map λb=>cJ (b,ai (c5 ab g over gone b)):=by
  unfold cV;rw[UX];rfl
 have e1:ao TT (aa TT (m+33)) n7 zU (aq [sc,cs,dr,kd,nm,.int F,op,wd,tx,lx,rw,jl,go,na,pr,tb,bR F,li,ln,me,sp,.lst (bl.map (dM F)),.lst ((cV g over gone).map cJ)] []) (hp s J)=some (aU ((bl.map Bl.b).map λb=>2^(F+b)),hp s J):=by
  have:=gm (T:=TT) (t:=.one 25) (l:=bl) (F:=dM F) (elt:=n7) (it:=.var 21) (r:=aa TT (m+33)) (ρ:=(aq [sc,cs,dr,kd,nm,.int F,op,wd,tx,lx,rw,jl,go,na,pr,tb,bR F,li,ln,me,sp,.lst (bl.map (dM F)),.lst ((cV g over gone).map cJ)] [])) (H:=hp s J) (λx=>AV.int ((2^(F+x.b):Nat):Int)) rfl (ρ1:=λx=>(aq [sc,cs,dr,kd,nm,.int F,op,wd,tx,lx,rw,jl,go,na,pr,tb,bR F,li,ln,me,sp,.lst (bl.map (dM F)),.lst ((cV g over gone).map cJ)] [dM F x])) (λb _=>rfl) λx _=>by
   have s2:∀ H,c7 TT (dM F x) (.int 0) H=some (.int ((2^(F+x.b):Nat):Int)):=λ_=>rfl
   exact bF (n:=m+32) rfl rfl (s2 _)
  refine Eq.trans this ?_
  unfold aU
  rw[UX,UX];rfl
 have e2:ao TT (aa TT (m+33)) sW zV (aq [sc,cs,dr,kd,nm,.int F,op,wd,tx,lx,rw,jl,go,na,pr,tb,bR F,li,ln,me,sp,.lst (bl.map (dM F)),.lst ((cV g over gone).map cJ)] []) (hp s (J++[.list (ag (bu (b7 F (kL gone))))]))=some (aU (((UD 5).filter λb=>!gone.get b).map λb=>2^(F+b)),hp s (J++[.list (ag (bu (b7 F (kL gone))))])):=by
  have:=gm (T:=TT) (t:=.many [25,26]) (l:=(UD 5).filter λb=>!gone.get b) (F:=λb=>cJ (b,ai (c5 ab g over gone b))) (elt:=sW) (it:=.var 22) (r:=aa TT (m+33)) (ρ:=(aq [sc,cs,dr,kd,nm,.int F,op,wd,tx,lx,rw,jl,go,na,pr,tb,bR F,li,ln,me,sp,.lst (bl.map (dM F)),.lst ((cV g over gone).map cJ)] [])) (H:=hp s (J++[.list (ag (bu (b7 F (kL gone))))])) (λb=>AV.int ((2^(F+b):Nat):Int)) (by rw[hdu];rfl) (ρ1:=λb=>(aq [sc,cs,dr,kd,nm,.int F,op,wd,tx,lx,rw,jl,go,na,pr,tb,bR F,li,ln,me,sp,.lst (bl.map (dM F)),.lst ((cV g over gone).map cJ)] [.int (b:Nat),.int (ai (c5 ab g over gone b):Nat)])) (λb _=>rfl) λb hb=>by
   have hb5:=UR.mp (UZ.mp hb).1
   have s1:=qh (T:=TT) (H:=hp s (J++[.list (ag (bu (b7 F (kL gone))))])) F hb5
   exact bF (n:=m+32) rfl rfl s1
  refine Eq.trans this ?_
  unfold aU
  rw[UX];rfl
 have hl1:(aU ((bl.map Bl.b).map λb=>2^(F+b))).length<=1000000:=by
  unfold aU;rw[UC,UC]
  have:=(n8 L).1;lia
 have hl2:(aU (((UD 5).filter λb=>!gone.get b).map λb=>2^(F+b))).length<=1000000:=by
  unfold aU;rw[UC,UC]
  exact UH (Vb _ _) (by simp)
 have k1:=λr=>re (T:=TT) (r:=r) (H:=hp s J) ((bl.map Bl.b).map λb=>2^(F+b))
 have k2:=λr H=>re (T:=TT) (r:=r) (H:=H) (((UD 5).filter λb=>!gone.get b).map λb=>2^(F+b))
 rw[(yt F L).1] at k1
 simp only[(yt F L).2] at k2
 have so:=Ps F (kL gone) hF (sG F L).1
 have p:=rL (m+22) (hp s J) (b7 F (kL gone)) so.ok
 rw[fW,so.eq] at p
 have hd:=w7 hF (sG F L).1
 have w:=nW (m+22) (hp s (J++[.list (ag (bu (b7 F (kL gone))))])) (b7 F (kL gone)) F hF (by lia) so.hex
 refine⟨J++[.list (ag (bu (b7 F (kL gone))))],?_⟩
 exact aZ (b:=false) (H1:=hp s (J++[.list (ag (bu (b7 F (kL gone))))])) (tC (n:=m+36) (xF rfl (ba (xK (ba (aN e1 hl1)) (k1 _))) p) (xF rfl (eB (xK (ba (aN e2 hl2)) (k2 _ _)) rfl) w) ((qH _ _).trans (by rw[dS,RG,decide_eq_true rfl];rfl))) rfl
theorem Q8(l:List (Str×Str))(hs:s.items=ax l)(hl:l.length<=900):am TT (aa TT (m+38)) F8 (aq [sc,cs,dr,kd,nm,fi,op,wd,tx,lx,rw,jl,go,na,.loc 12,tb,fl,li,ln,me,sp,le,du] []) (hp s J)=some (.next,(aq [sc,cs,dr,kd,nm,fi,op,wd,tx,lx,rw,jl,go,na,.loc 12,tb,fl,li,ln,me,sp,le,du] []),hp {s with items:=ax (l++[(fT,af [])])} J):=by
 have g0:=uk s J
 have hle:s.items.length<=1000000:=by rw[hs];unfold ax;rw[UC];lia
 have hi:s.items++[.tup [.str (UO #[69,109,112,116,121]),.str (UO #[])]]=ax (l++[(fT,af [])]):=by
  rw[hs];unfold ax;rw[Vt];rfl
 exact(iq (xM rfl (lS g0) rfl rfl (lD g0 hle))).trans (by rw[Sk,hi])
theorem Q9(hF:F<32):am TT (aa TT (m+38)) MJ (aq [sc,cs,dr,kd,nm,.int F,op,wd,tx,lx,rw,jl,go,na,pr,tb,bR F,li,ln,me,sp,le,du] []) (hp s J)=some (.next,(aq [sc,cs,dr,kd,nm,.int F,op,wd,tx,lx,rw,jl,go,na,pr,tb,bR F,li,ln,me,sp,le,du,.lst (ag (ko F))] []),hp s J):=by
 have e1:ao TT (aa TT (m+36)) sX zW (aq [sc,cs,dr,kd,nm,.int F,op,wd,tx,lx,rw,jl,go,na,pr,tb,bR F,li,ln,me,sp,le,du] []) (hp s J)=some ((UD 5).map λb=>AV.str (bv (F+b)),hp s J):=by
  refine gm (T:=TT) (t:=.one 25) (l:=UD 5) (F:=λb=>AV.int ((2^(F+b):Nat):Int)) (λb=>AV.str (bv (F+b))) rfl (ρ1:=λb=>(aq [sc,cs,dr,kd,nm,.int F,op,wd,tx,lx,rw,jl,go,na,pr,tb,bR F,li,ln,me,sp,le,du] [.int ((2^(F+b):Nat):Int)])) (λb _=>rfl) λb hb=>?_
  have hb:=UR.mp hb
  have w:=CS F b hF hb
  have e2:=nW (m+22) (hp s J) (2^(F+b)) F hF (Va (Nat.div_le_self _ _) (W0 (by decide) (by lia))) w.hex
  rw[w.w] at e2
  exact xF rfl (eB rfl rfl) e2
 have e3:=aN e1 (by simp)
 have a1:∀ H,bp H .Add (.lst ((UD 5).map λb=>AV.str (bv (F+b)))) (.lst [.str (UO #[69,77,80,84,89])])=some (.lst (ag (ko F))):=λH=>by
  rw[ga rfl rfl (by simp)];rfl
 exact aA (xB (n:=m+37) e3 rfl (a1 _))
theorem Ra(hF:F<32)(ho:∀ y∈bl,y.Ok F)(hs:s.items=ax (bl.map (Bl.it F)++[(fT,af [])]))(hl:bl.length<=100):am TT (aa TT (m+38)) MK (aq [sc,cs,dr,kd,nm,fi,op,wd,tx,lx,rw,jl,go,na,.loc 12,.loc 14,fl,li,ln,me,sp,le,du,.lst (ag (ko F))] []) (hp s J)=some (.next,(aq [sc,cs,dr,kd,nm,fi,op,wd,tx,lx,rw,jl,go,na,.loc 12,.loc 14,fl,li,ln,me,sp,le,du,.lst (ag (ko F))] []),hp s J):=by
 have hdisp:fS (bl.map (Bl.it F)++[(fT,af [])]):=by
  intro p hp
  rcases Ve.mp hp with hp|hp
  ·exact lE ho p hp
  ·rw[US] at hp;subst hp
   show fT.length<=1000
   have:=ku.2.2.2.2.1
   lia
 have e1:ao TT (aa TT (m+35)) zX sY (aq [sc,cs,dr,kd,nm,fi,op,wd,tx,lx,rw,jl,go,na,.loc 12,.loc 14,fl,li,ln,me,sp,le,du,.lst (ag (ko F))] []) (hp s J)=some (((ko F).filter λ_=>false).map AV.str,hp s J):=by
  refine kU (T:=TT) (t:=.one 25) (l:=ko F) (F:=AV.str) AV.str (λ_=>false) rfl (ρ1:=λx=>(aq [sc,cs,dr,kd,nm,fi,op,wd,tx,lx,rw,jl,go,na,.loc 12,.loc 14,fl,li,ln,me,sp,le,du,.lst (ag (ko F))] [.str x])) (λx _=>rfl) (λx hx=>?_) (λx _ h=>by cases h)
  obtain⟨h1,h2,h3⟩:=Mf hF ho hx
  have k:=DL (m+10) s J x _ hs hdisp h2 h3 (by rw[UM,UC];simp;lia) h1
  exact fJ (show(aa TT (m+35)).t _ _ _=_ from congrArg (ah · λb H=>some (!b,H)) (tT (r:=aa TT (m+33)) (xF rfl (IU rfl rfl rfl) k) rfl))
 have hf:((ko F).filter λ_=>false).map AV.str=[]:=by
  rw[XQ.mpr (λ_ _ h=>by cases h)];rfl
 rw[hf] at e1
 have q:ct (.lst []) (.lst [])=some true:=rfl
 exact aZ (b:=false) (H1:=hp s J) (tC (n:=m+36) (aN e1 (VX _)) rfl (congrArg (ob · λb=>some !b) q)) rfl
end
end
section
theorem TY{n:Nat}{l:List IE}{ρ:ae}{H H1:AH}{v:AV}(h:jY (aa TT n) l ρ H=some (v,H1)):(aa TT (n+1)).e (.and l) ρ H=some (v,H1):=h
theorem Tt{T:c8}{r:R}{st:IS}{ρ ρ':ae}{H H':AH}{v:AV}(h:am T r st ρ H=some (.ret v,ρ',H')):ky (am T r st ρ H)=some (.ret v,H'):=congrArg ky h
theorem p8(l:List Nat)(c:Nat):∀(n k:Nat) (acc:Array Nat) (free:Nat),free<=k->k+n=l.length+1->acc.size<=k->(forIn (List.range' k n) (acc,free) (Xx (af l) (af [c]) l.length (l.length+1))).run.fst.size=acc.size+(l.drop k).count c
 |0,k,acc,free,hf,hk,ha=>by
  rw[Ww (by lia)]
  rfl
 |n+1,k,acc,free,hf,hk,ha=>by
  rw[List.range'_succ,VT]
  have hs:=StrLaws.subAt_one (af l) c k
  have hlen:(UO #[c]).length=1:=rfl
  have hl1:(af l).length=l.length:=bS l
  rw[hlen,hl1,pH] at hs
  unfold Xx
  have h1:(af [c]).length=1:=rfl
  rw[h1]
  by_cases hc:l[k]? =some c
  ·have hk2:k<l.length:=(List.getElem?_eq_some_iff.mp hc).1
   have hsub:=(hs.mpr hc).2
   have cond:(((acc,free).fst.size<l.length+1/\(acc,free).snd<=k)/\k+1<=l.length)/\ZR (af l) (af [c]) k=true:=⟨⟨⟨by show acc.size<_;lia,hf⟩,by lia⟩,hsub⟩
   rw[if_pos cond]
   have ih:=p8 l c n (k+1) (acc.push k) (k+1) (V4 _) (by lia) (by rw[Array.size_push];lia)
   have hd:l.drop k=c::l.drop (k+1):=by
    rw[VQ hk2]
    rw[List.getElem?_eq_getElem hk2] at hc
    rw[YB hc]
   rw[hd,List.count_cons_self]
   unfold Xx at ih
   rw[h1] at ih
   refine Eq.trans ih ?_
   rw[Array.size_push];lia
  ·have cond:¬((((acc,free).fst.size<l.length+1/\(acc,free).snd<=k)/\k+1<=l.length)/\ZR (af l) (af [c]) k=true):=λh=>hc (hs.mp ⟨h.1.2,h.2⟩)
   rw[if_neg cond]
   have ih:=p8 l c n (k+1) acc free (by lia) (by lia) (by lia)
   have hd:(l.drop k).count c=(l.drop (k+1)).count c:=by
    by_cases hk2:k<l.length
    ·rw[VQ hk2,List.count_cons_of_ne]
     intro q
     rw[List.getElem?_eq_getElem hk2,q] at hc
     exact hc rfl
    ·rw[Ww (by lia),Ww (by lia)]
   rw[hd]
   unfold Xx at ih
   rw[h1] at ih
   exact ih
theorem C9(l:List Nat)(c:Nat):Txt.count (af l) (af [c])=((l.count c:Nat):Int):=by
 unfold Txt.count
 rw[StrLaws.occ_eq,bS,Array.length_toList]
 have:=p8 l c (l.length+1) 0 #[] 0 (V4 _) (by lia) (VX _)
 rw[Wh] at this
 have e:l.length+1-0=l.length+1:=rfl
 rw[e,this]
 simp
theorem ng:∀ l:List (Bool×Nat),(bf l).count 10=(l.map (·.2)).count 10
 | []=>rfl
 |(e,c)::l=>by
  have ih:=ng l
  show((if e then[92,c] else[c])++bf l).count 10=(c::l.map (·.2)).count 10
  rw[Xp,ih,X1]
  cases e
  ·rw[if_neg (by decide),Yh];lia
  ·rw[if_pos rfl,X1,Yh]
   simp;lia
theorem CM(wl wh:List Nat):(ew wl wh).count 10=wl.count 10+wh.count 10:=by
 unfold ew eQ
 rw[Xp]
 have h0:([34,97]:List Nat).count 10=0:=by decide
 rw[h0]
 split
 ·rename_i h
  subst h
  rw[X1,Xp,ng,dW]
  have h1:([34]:List Nat).count 10=0:=by decide
  rw[h1]
  simp
 ·rw[Xp,ng,dW];lia
section
variable (m F:Nat)(sc cs:AV)(dr kd nm fi op wd tx rw jl go na pr tb fl li me sp le du ak:AV)(s:HS)(J:AH)
theorem JB(p:List Str)(hs:s.pb=ag p)(hp':p.length<=900):am TT (aa TT (m+38)) BQ (aq [sc,cs,dr,kd,nm,fi,op,wd,tx,.loc 7,rw,jl,go,na,pr,tb,fl,li,.int s.ln,me,sp,le,du,ak] []) (hp s J)=some (.next,(aq [sc,cs,dr,kd,nm,fi,op,wd,tx,.loc 7,rw,jl,go,na,pr,tb,fl,li,.int s.ln,me,sp,le,du,ak] []),hp {s with pb:=ag (p++[af [97]])} J):=by
 have p1:=qf (m+28) s J (v:=.str (UO #[97])) (by rw[hs];unfold ag;rw[UC];lia)
 have hx:s.pb++[AV.str (UO #[97])]=ag (p++[af [97]]):=by rw[hs];unfold ag;rw[Vt];rfl
 rw[hx] at p1
 exact iq (xM rfl (Jw _ _) (ba rfl) rfl p1)
def gL:List Str:=[af [97],af [97],af [97],af []]
theorem Rb(q:List Str)(sn ln:AV)(hq:q.length<=900):am TT (aa TT (m+38)) F9 (aq [sc,cs,dr,kd,nm,fi,op,wd,tx,.loc 7,rw,jl,go,na,pr,tb,fl,li,ln,.lst [.lst (ag q),sn],sp,le,du,ak] []) (hp s J)=some (.next,(aq [sc,cs,dr,kd,nm,fi,op,wd,tx,.loc 7,rw,jl,go,na,pr,tb,fl,li,ln,.lst [.lst (ag q),sn],sp,le,du,ak,.lst (ag (q++gL))] []),hp s J):=by
 have a1:∀ H,bp H .Add (.lst (ag q)) (.lst [.str (UO #[97]),.str (UO #[97]),.str (UO #[97]),.str (UO #[])])=some (.lst (ag (q++gL))):=λH=>by
  rw[ga rfl rfl (by unfold ag;rw[UC];simp;lia)]
  unfold ag;rw[Vt];rfl
 exact aA (xB (n:=m+37) (u:=.lst (ag q)) rfl rfl (a1 _))
theorem Fn:∀ l:List Str,ct (.lst (l.map λw=>AV.tup [.str w,.str w])) (.lst (l.map λw=>AV.tup [.str w,.str w]))=some true:=by
 intro l
 have h:∀ l:List Str,bY (dB 5) (l.map λw=>AV.tup [.str w,.str w]) (l.map λw=>AV.tup [.str w,.str w])=some true:=by
  intro l
  induction l with
  |nil=>rfl
  |cons x l ih=>
   have:dB 5 (.tup [.str x,.str x]) (.tup [.str x,.str x])=some true:=by
    show ob (some (decide (x=x))) (λa=>ob (ob (some (decide (x=x))) λa=>ob (some true) λb=>some (a&&b)) λb=>some (a&&b))=_
    rw[decide_eq_true rfl]
    rfl
   exact(congrArg (ob · λa=>ob (bY (dB 5) (l.map λw=>AV.tup [.str w,.str w]) (l.map λw=>AV.tup [.str w,.str w])) λy=>some (a&&y)) this).trans (congrArg (ob · λy=>some (true&&y)) ih)
 exact h l
theorem AU(n:Nat):∀(q:List Str) (s:HS),q.length<=900->fh (n+9) q (hp {s with pb:=ag q} J) (hp {s with pb:=[]} J)
 | [],s,_=>.nil _
 |w::q,s,hl=>by
  rw[UU] at hl
  refine .cons (H1:=hp {s with pb:=ag q} J) ?_ rfl rfl (AU n q s (by lia))
  exact AT n {s with pb:=ag (w::q)} J rfl (by unfold ag;rw[UC];lia)
theorem Rc(q:List Str)(wl wh:List Nat)(hsg:s.sg=oT [34,97])(hln:s.ln=DX wl wh)(hs:s.pb=ag (q++[af [97],af [97]]))(hq':q.length<=100):∃ H',ky (am TT (aa TT (m+38)) ML (aq [sc,cs,dr,kd,nm,fi,op,wd,.str (af (ew wl wh)),.loc 7,rw,jl,go,na,pr,tb,fl,li,.int s.ln,me,sp,le,du,ak,.lst (ag (q++gL))] []) (hp s J))=some (.ret (.bool true),H')/\H'[0]? =some (.tab 0)/\H'[1]? =some (.tab 1):=by
 let K:AH:=[s.cx,.list s.row,.list s.jm,.list s.items,.dict [(.headers,.loc 12)],.inst 282 13]++J
 have hK:hp {s with pb:=[]} J=hq [34,97] s.ln [] K:=by
  unfold hp hq
  rw[hsg];rfl
 have t1:=AU J (m+17) (q++[af [97],af [97]]) s (by simp;lia)
 have hs':({s with pb:=ag (q++[af [97],af [97]])}:HS)=s:=by rw[<-hs]
 rw[hs',hK] at t1
 have d1:=L9 (m:=m+6) (ln:=s.ln) (K:=K) [(false,97)] (λp hp _=>by rw[US] at hp;subst hp;exact⟨rfl,by decide,by decide⟩) (by decide) (by decide)
 have d2:=J2 (m:=m+6) (ln:=s.ln) (K:=K++[AO.gone])
 have hlw:ke s.ln [(false,97)]=s.ln:=rfl
 rw[hlw] at d1
 have d1':(aa TT (m+26)).c 111 [.loc 7] [] (hq [34,97] s.ln [] K)=some (.str (af [97]),hq [] s.ln [] (K++[AO.gone])):=d1
 have d2':(aa TT (m+26)).c 111 [.loc 7] [] (hq [] s.ln [] (K++[AO.gone]))=some (.str (af []),hq [] s.ln [] (K++[AO.gone]++[AO.gone])):=d2
 have t2:fh (m+26) [af [97],af []] (hq [34,97] s.ln [] K) (hq [] s.ln [] (K++[AO.gone]++[AO.gone])):=.cons (H1:=hq [] s.ln [] (K++[AO.gone])) d1' rfl rfl (.cons (H1:=hq [] s.ln [] (K++[AO.gone]++[AO.gone])) d2' rfl rfl (.nil _))
 have t3:=t1.append t2
 have hw:(q++[af [97],af [97]])++[af [97],af []]=q++gL:=by rw[U3];rfl
 rw[hw] at t3
 have hl:(q++gL).length<=1000:=by rw[UM];show q.length+4<=1000;lia
 have hd:=BJ (m+22) (ws:=q++gL) t3 hl
 have e1:ao TT (aa TT (m+35)) zY zZ (aq [sc,cs,dr,kd,nm,fi,op,wd,.str (af (ew wl wh)),.loc 7,rw,jl,go,na,pr,tb,fl,li,.int s.ln,me,sp,le,du,ak,.lst (ag (q++gL))] []) (hq [] s.ln [] (K++[AO.gone]++[AO.gone]))=some ((q++gL).map λw=>.tup [.str w,.str w],hq [] s.ln [] (K++[AO.gone]++[AO.gone])):=by
  refine gm (T:=TT) (t:=.one 25) (l:=q++gL) (F:=AV.str) (λw=>.tup [.str w,.str w]) rfl (ρ1:=λx=>(aq [sc,cs,dr,kd,nm,fi,op,wd,.str (af (ew wl wh)),.loc 7,rw,jl,go,na,pr,tb,fl,li,.int s.ln,me,sp,le,du,ak,.lst (ag (q++gL))] [.str x])) (λx _=>rfl) λx _=>?_
  rfl
 have e2:=aN e1 (by rw[UC];lia)
 have q1:=Fn (q++gL)
 have c1:Txt.count (af (ew wl wh)) (UO #[10])=((wl.count 10+wh.count 10:Nat):Int):=by
  have:=C9 (ew wl wh) 10
  rw[CM] at this
  exact this
 have c2:decide (s.ln=1+((wl.count 10+wh.count 10:Nat):Int))=true:=decide_eq_true (by rw[hln];rfl)
 exact⟨hq [] s.ln [] (K++[AO.gone]++[AO.gone]),Tt (cB (TY (n:=m+37) (LN (xC (n:=m+36) (u:=.int s.ln) (w:=.int s.ln) rfl rfl (congrArg some (decide_eq_true rfl))) (LN (xC (n:=m+36) (xF rfl (eB rfl rfl) hd) e2 q1) (xC (n:=m+36) (u:=.int s.ln) rfl (xB (n:=m+35) (u:=.int 1) rfl (sM (n:=m+34) rfl (ba rfl) rfl rfl) rfl) (by rw[c1];exact congrArg some c2)))))),rfl,rfl⟩
end
end
section
theorem Fv{T:c8}{r:R}{ρ:ae}{H H1:AH}{γ:Type}{elt it:IE}{a b:Nat}{ifs:List IE}{l:List γ}{F:γ->AV}(f:γ->AV)(c:γ->Bool){ρ1:γ->ae}(hs:aO r it ρ H=some (.pairs (l.map F),H1))(hb:∀ x∈l,be (.many [a,b]) (F x) (ρ++[none,none])=some (ρ1 x))(h1:∀ x∈l,bk r ifs (ρ1 x) H1=some (c x,H1))(h2:∀ x∈l,c x=true->r.e elt (ρ1 x) H1=some (f x,H1)):
  ao T r elt [.mk (.many [a,b]) it ifs] ρ H=some ((l.filter c).map f,H1):=by
 rw[ao,hs,<-su c f]
 refine m5 λx hx=>?_
 have t1:=h1 x hx
 cases hc:c x<;>rw[hc] at t1
 ·exact v5 (hb x hx) t1
 ·exact gY (hb x hx) t1 (h2 x hx hc)
theorem zB:∀ l:List Int,bV (l.map AV.int)=some l
 | []=>rfl
 |x::l=>congrArg (ob · λr=>some (x::r)) (zB l)
noncomputable def rZ(is:List Int)(place:Nat):Int:=((is.zipIdx.filter λq=>decide (q.2%2=place)).map (·.1)).sum
theorem TB(m:Nat)(is:List Int)(H:AH)(hl:is.length<=63):am TT (aa TT (m+38)) RN (aq [.lst (is.map AV.int)] []) H=some (.next,(aq [.lst (is.map AV.int),.lst [.int (22127+rZ is 0),.int (512806+rZ is 1)]] []),H):=by
 have hz:eh (is.map AV.int)=is.zipIdx.map λq=>AV.tup [.int (q.2:Nat),.int q.1]:=by
  rw[jw,Zw,UX];rfl
 have inner:∀(p:Nat) (cell:Int),ao TT (aa TT (m+34)) DN wW (aq [.lst (is.map AV.int)] [.int p,.int cell]) H=some (((is.zipIdx.filter λq=>decide (q.2%2=p)).map (·.1)).map AV.int,H):=λp cell=>by
  rw[UX]
  refine Fv (T:=TT) (l:=is.zipIdx) (F:=λq=>AV.tup [.int (q.2:Nat),.int q.1]) _ (λq=>decide (q.2%2=p)) ((jT (l:=is.map AV.int) rfl (by rw[UC];lia)).trans (by rw[hz])) (ρ1:=λq=>(aq [.lst (is.map AV.int)] [.int p,.int cell,.int (q.2:Nat),.int q.1])) (λq _=>rfl) (λq _=>?_) (λq _ _=>?_)
  ·have d:decide (((q.2%2:Nat):Int)=(p:Int))=decide (q.2%2=p):=decide_eq_decide.mpr (by lia)
   exact fJ (tC (n:=m+32) (w8 rfl rfl (m+30)) rfl ((T9 _ _).trans (congrArg some d)))
  ·rfl
 have e1:ao TT (aa TT (m+37)) DO wX (aq [.lst (is.map AV.int)] []) H=some ([(0,22127),(1,512806)].map λ(x:Nat×Int)=>AV.int (x.2+rZ is x.1),H):=by
  refine uh (T:=TT) (l:=[(0,22127),(1,512806)]) (F:=λ(x:Nat×Int)=>AV.tup [.int (x.1:Nat),.int x.2]) _ rfl (ρ1:=λx=>(aq [.lst (is.map AV.int)] [.int (x.1:Nat),.int x.2])) (λx _=>rfl) λx _=>?_
  have e2:=aN (inner x.1 x.2) (by rw[UC,UC];exact UH (Vb _ _) (by rw[YL];lia))
  have k:=λr=>Mo (T:=TT) (r:=r) (H:=H) (v:=.lst (((is.zipIdx.filter λq=>decide (q.2%2=x.1)).map (·.1)).map AV.int)) dL (zB _)
  have ha:((is.zipIdx.filter λq=>decide (q.2%2=x.1)).map (·.1)).sum=rZ is x.1:=rfl
  simp only[ha] at k
  exact xB (n:=m+36) rfl (xK (ba e2) (k _)) rfl
 exact aA (aN e1 (UG rfl))
noncomputable def ly(r:R)(l:List IS)(ρ:ae)(H:AH):Prop:=∃ H',ky (ay TT r l ρ H)=some (.ret (.bool true),H')/\H'[0]? =some (.tab 0)/\H'[1]? =some (.tab 1)
theorem seq{r:R}{st:IS}{rest:List IS}{ρ ρ1:ae}{H H1:AH}(h:am TT r st ρ H=some (.next,ρ1,H1))(h2:ly r rest ρ1 H1):ly r (st::rest) ρ H:=by
 unfold ly
 rw[vX,h];exact h2
theorem Cw{r:R}{st:IS}{rest:List IS}{ρ ρ1:ae}{H:AH}{s:HS}(h:∃ J',am TT r st ρ H=some (.next,ρ1,hp s J'))(h2:∀ J',ly r rest ρ1 (hp s J')):ly r (st::rest) ρ H:=by
 obtain⟨J',h⟩:=h
 exact seq h (h2 J')
theorem Tw{r:R}{st:IS}{rest:List IS}{ρ:ae}{H:AH}{ρ1:List Bl->List Nat->AH->ae}{H1:List Bl->List Nat->AH->AH}{Q:List Bl->List Nat->Prop}(h:∃ a b c,am TT r st ρ H=some (.next,ρ1 a b c,H1 a b c)/\Q a b)(h2:∀ a b c,Q a b->ly r rest (ρ1 a b c) (H1 a b c)):ly r (st::rest) ρ H:=by
 obtain⟨a,b,c,h,q⟩:=h
 exact seq h (h2 a b c q)
theorem K7{r:R}{st:IS}{ρ:ae}{H:AH}(h:∃ H',ky (am TT r st ρ H)=some (.ret (.bool true),H')/\H'[0]? =some (.tab 0)/\H'[1]? =some (.tab 1)):ly r [st] ρ H:=by
 obtain⟨H',h,h1⟩:=h
 refine⟨H',?_,h1⟩
 rw[vX]
 cases e:am TT r st ρ H with
 |none=>rw[e] at h;cases h
 |some x=>
  obtain⟨f,ρ2,H2⟩:=x
  rw[e] at h
  cases h;rfl
theorem Po(m:Nat)(sc cs:AV)(F:Nat)(H:AH)(nm op wd tx lx d kd:AV)(ts:List fR)(hF:F<32)(hl:ts.length<=20):am TT (aa TT (m+38)) FQ (aq [sc,cs,d,kd,nm,.int F,op,wd,tx,lx,.lst (cg ts)] []) H=some (.next,(aq [sc,cs,d,kd,nm,.int F,op,wd,tx,lx,.lst (cg ts)] []),H):=by
 have hra:cg ts=(ts.flatMap eP++[0]).map AV.int:=by rw[Vt];rfl
 have hvl:(ts.flatMap eP++[0]).length<=900:=by
  have:=jR ts
  unfold cg at this
  rw[UM,UC,Vl] at this
  rw[UM,Vl];lia
 have e:=QQ m sc cs F H nm op wd tx lx d kd _ hF hvl
 rw[<-hra] at e
 exact e
theorem Kr(m:Nat)(is:List Int)(hl:is.length<=63):∃ H',(aa TT (m+40)).c 376 [.lst (is.map .int)] [] [.tab 0,.tab 1]=some (.bool true,H')/\H'[0]? =some (.tab 0)/\H'[1]? =some (.tab 1):=by
 suffices h:ly (aa TT (m+38)) Bk (aq [.lst (is.map AV.int)] []) [.tab 0,.tab 1] by
  obtain⟨H',h1,h2⟩:=h
  exact⟨H',pd (n:=m+39) (g:=Di) (ρ:=(aq [.lst (is.map AV.int)] [])) rfl rfl h1,h2⟩
 rw[FI]
 refine seq (TB m is _ hl) ?_
 generalize (22127+rZ is 0:Int)=c0
 generalize (512806+rZ is 1:Int)=c1
 have hF:fN c1<32:=(fm (c1.fdiv 3072) (k:=32) (by decide)).2
 have hK0:k0 c1<48:=(fm c1 (k:=48) (by decide)).2
 have hK1:k1 c1<48:=(fm (c1+(dJ c1:Int)) (k:=48) (by decide)).2
 have hk:=Sn c1
 have hW:wN c1<8:=(fm (c1.fdiv 192) (k:=8) (by decide)).2
 have hN:=Qw hW
 have hdl:(cq c0).length<=20:=by rw[tZ];decide
 have hlt:=Fk c0
 have hwl:(gh (k0 c1) (k1 c1) (gP (wN c1)) (cq c0)).length<=100:=by
  have:=IB (k0 c1) (k1 c1) (cq c0) (gP (wN c1)) hK0 hK1 hlt
  rw[tZ] at this;lia
 have hw0:gh (k0 c1) (k1 c1) (gP (wN c1)) (cq c0)≠[]:=λh=>by cases h
 have hwlt:=Lg hK0 hK1 hN hlt
 have hlaw:=FK _ (sr c0)
 have hg:qT (cq c0)=jC (iX c0):=FA c0
 have hto:=ou (k0 c1) (k1 c1) (cq c0) hK0 hK1 hlt
 have htl:(aS (k0 c1) (k1 c1) (cq c0)).length<=20:=by rw[jV];exact hdl
 have htx:(ew (gh (k0 c1) (k1 c1) (gP (wN c1)) (cq c0)) (mO c1)).length<=1000:=by
  unfold ew
  rw[UM]
  have:=oW (gh (k0 c1) (k1 c1) (gP (wN c1)) (cq c0)) (mO c1) hwl (by rcases ql c1 with h|⟨z,h,_⟩<;>rw[h]<;>simp)
  simp only[UU,V2];lia
 have hql:(bt (fN c1) (qL c1)).length=4:=rfl
 have hwdef:gh (k0 c1) (k1 c1) (gP (wN c1)) (cq c0)=(aS (k0 c1) (k1 c1) (cq c0)).flatMap (eF (gP (wN c1))):=rfl
 refine seq (TC m _ c0 c1 _) ?_
 generalize jC (iX c0)=g at *
 generalize cq c0=dr at *
 refine seq (TD m _ c0 c1 _ _) ?_
 refine seq (TG m _ c0 c1 _ _ _) ?_
 refine seq (TH m _ c0 c1 _ _ _ _) ?_
 refine seq (TJ m _ _ _ _ _ _ _) ?_
 refine seq (TK m _ _ (k0 c1) (k1 c1) _ dr (gP (wN c1)) _ hK0 hK1 hN.len hlt hdl) ?_
 generalize gh (k0 c1) (k1 c1) (gP (wN c1)) dr=wl at *
 refine seq (TL m _ c0 c1 _ _ wl _ _ _ _ hwl) ?_
 generalize hwh:mO c1=wh at *
 refine seq (TM m _ _ _ _ _ _ _ _ _ htx) ?_
 refine seq (TN m _ _ wl wh _ _ _ _ _ _ _ _ hN hto hwdef (hwh▸ql c1) hw0 hwl hwlt htl) ?_
 refine seq (QP m _ _ (k0 c1) (k1 c1) _ dr _ _ _ _ _ _ hdl) ?_
 refine seq (Po m _ _ _ _ _ _ _ _ _ _ _ _ hF htl) ?_
 refine seq (QR m _ _ (k0 c1) (k1 c1) dr _ _ _ _ _ _ _ _ _ _ hk hdl) ?_
 refine seq (QS m _ _ _ dr _ _ _ _ _ _ _ _ _ _ rfl) ?_
 rw[hg]
 refine seq (QT m _ _ c0 c1 _ _ _ _ _ _ _ _ _ _ _ hF) ?_
 refine seq (QU m _ _ _ _ _ _ _ _ _ _ _ _ _ _ _ _ _ _ _ hF) ?_
 generalize hF':fN c1=F at *
 refine seq (QV (g:=g) (hF:=hF) (hs:=rfl) ..) ?_
 refine seq (QW (hF:=hF) ..) ?_
 refine Cw (QX (hF:=hF) ..) λJ18=>?_
 refine seq (QY (s:={sT [34,97] (DX wl wh) (((aS (k0 c1) (k1 c1) dr).flatMap eP).map AV.int) (dr.map bh) (ax [(cU (F+4),af [97]),(aH (F+4),af [97])]) with items:=ax ((iu F (gN c1) g).map (Bl.it F))}) (l:=bt F (qL c1)) (hl:=rfl) ..) ?_
 refine seq (QZ ..) ?_
 refine Tw (Q0 (s:={sT [34,97] (DX wl wh) (((aS (k0 c1) (k1 c1) dr).flatMap eP).map AV.int) (dr.map bh) (ax [(cU (F+4),af [97]),(aH (F+4),af [97])]) with items:=ax ((iu F (gN c1) g).map (Bl.it F))}) (g:=g) (h:=hlaw) (hF:=hF) ..) λbl q J21 L=>?_
 have hbl:bl.length<=5:=by have:=(n8 L).1;rw[UC] at this;exact this
 have hil:(ax (bl.map (Bl.it F))).length<=900:=by unfold ax;rw[UC,UC];lia
 refine seq (Q1 (hl:=hil) ..) ?_
 refine seq (Q2 (hl:=hil) ..) ?_
 refine Cw (Q3 (bl:=bl) (hF:=hF) (hs:=rfl) (ho:=L.ok) (hl:=by lia) ..) λJ24=>?_
 refine seq (Q4 (g:=g) (h:=hlaw) ..) ?_
 refine Cw (Q5 (bl:=bl) (hs:=rfl) (hl:=by lia) ..) λJ26=>?_
 refine seq (Q6 (L:=L) (hF:=hF) ..) ?_
 refine Cw (Q7 (L:=L) (hF:=hF) ..) λJ28=>?_
 refine seq (Q8 (l:=bl.map (Bl.it F)) (hs:=rfl) (hl:=by rw[UC];lia) ..) ?_
 refine seq (Q9 (hF:=hF) ..) ?_
 refine seq (Ra (bl:=bl) (hF:=hF) (ho:=L.ok) (hs:=rfl) (hl:=by lia) ..) ?_
 have hq4:=L.qlen
 refine seq (JB (p:=bt F q) (hs:=rfl) (hp':=by rw[gx];lia) ..) ?_
 refine seq (JB (p:=bt F q++[af [97]]) (hs:=rfl) (hp':=by rw[UM,gx];show q.length+1<=900;lia) ..) ?_
 refine seq (Rb (q:=bt F q) (hq:=by rw[gx];lia) ..) ?_
 refine K7 ?_
 exact Rc (q:=bt F q) (wl:=wl) (wh:=wh) (hsg:=rfl) (hln:=rfl) (hs:=by rw[U3];rfl) (hq':=by rw[gx];lia) ..
theorem plain:IJ:=λis hl=>Kr 0 is hl
end
end
end Mine
end
theorem PySem.Challenge.cw_uc0049_01_holds : PySem.Challenge.rw_uc0049_01.Holds :=
 Mine.joined Mine.plain
