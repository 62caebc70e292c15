import PyProof.Rows.All
import Wide.All
import OpenK.AllK
import Flt.Ops
import KE.KDictLaws
import KE.KFind
import KE.KMulAny
import KE.KPop
import KE.KSortTup
import OpenK.KDescr
import OpenK.KMake
import OpenK.KMore
import PyProof.AttrMissHeap
import PyProof.AutoIntOps
import PyProof.ConsumeS
import PyProof.DictDisplay
import PyProof.Draws
import PyProof.EnumMake
import PyProof.ExcStrAll.AssertionError
import PyProof.ExcStrAll.IndexError
import PyProof.ExcStrCall
import PyProof.GenQ
import PyProof.IsInstance
import PyProof.IsiFacts
import PyProof.Rows.RuleN_abs
import PyProof.Rows.StrFirst
import PyProof.Rows.StrJoinRep
import PyProof.Rows.SumAny
import PyProof.SetKind
import PyProof.StrReplace2
import PyProof.TupleCall
import PyProof.ZipIter
import Wide.FinOn
import PySem.Challenge.RW_dm0045_10
open PySem PySem.W PyProof.Rows
set_option Elab.async false
set_option maxRecDepth 100000
set_option maxHeartbeats 0
set_option compiler.extract_closed false
set_option bootstrap.genMatcherCode false
set_option backward.match.sparseCases false
set_option linter.all false
set_option genInjectivity false
set_option genSizeOf false
set_option genSizeOfSpec false
open _root_.PySem.Str renaming ofString→aa
open _root_.List renaming getElem?_eq_some_iff→ab,mem_singleton→af,getElem?_set_ne→ag,length_map→ak,getElem?_concat_length→ao,getElem?_set_self→au,getElem?_eq_getElem→aw,length_set→ax,mem_cons→az,prefix_refl→aA,prefix_append→aH,getElem?_append_left→aI,length_append→aK,getElem?_map→aV,mem_append→aX,mem_of_getElem?→aY,size_toArray→aZ,map_append→bm,mem_map→bp,append_assoc→bz,mem_append_left→bB,mem_append_right→bD,append_nil→bG,map_cons→bN,lookup_cons→bU,nodup_cons→ck,toArray→cB,range→cH,length_range→cL,set_set→cP,filterMap_cons→cS,map_map→cV,pairwise_map→dg,forIn_cons→dh,getD_eq_getElem?_getD→dw,replicate→dB,nodup_append→dF,length_take→dG,find?_cons_of_pos→dH,find?_cons_of_neg→dI,mem_filter→dM,set_append_right→dP,drop_eq_getElem_cons→dZ,pairwise_append→eu,take_length→eI,length_cons→eK,drop_of_length_le→eX,getElem?_inj→fh,idxOf_lt_length_of_mem→fC,pairwise_iff_getElem→fM,cons_ne_nil→gc,getElem_mem→gm,take_succ_eq_append_getElem→gq,getElem?_of_mem→gu,filter_append→gz,flatten_cons→gE,nil_append→gP,nodup_nil→gR
open _root_.PySem renaming wpAny_bind→ac,wpAny_pure→aq,wpAny_mono→ar,model→ay,sizeLine→aF,wpAny→aJ,builtinLookup_eq_fast→aO,wpAny_holding→bc,typeLookup_type→bd,Builtin→bu,mainGlobals→bw,typeLookup→bA,wpAny_call_entry→bK,swappedStores→bL,wpAny_of_eq→bM,wpAny_newObj_type→bP,bootBuiltins→bQ,wpAny_callSpecial?_slot→bX,wpAny_with_toks→bZ,wpAny_field→cc,wpAny_rule→cm,isSubtype_type→cp,Result→cz,wpAny_isInstance→cC,compareOp→cD,foldedSetIterable→cJ,wpAny_standAt→cM,assign→cO,wpAny_Name→cU,callEnvC→cX,holding→cZ,wpAny_call→da,codeAny_call_builtin→db,wpAny_specialOf→di,standAt→dl,wpAny_typeOf→dq,wpAny_newFunctionEnv_cells→du,wpAny_seqItems→dA,wpAny_loadName_local→dC,callWith→dD,pyNext→dL,backTo→dW,wpAny_truthy_bool→dX,assignEach→dY,isSubtype→ew,intKind→eC,binaryOp→eE,starEach→eF,compEnvC→eH,typeOf→eJ,wpAny_attempt→eO,wpAny_Constant_str→eP,codeAny_builtin→eU,interactive→eV,keywordEach→eW,builtinKind→eY,notedBy→fm,codeAny→fq,firstArgMember→ft,checkBoundCall→fy,cellsFrom→fA,getAttr→fH,callWith_type→fJ,letOwnedTupleGo→fK,wpAny_updateSeq→fL,treeTable→fP,recursionLimit→fW,unpackItems→fX,builtinsNs→gr,isInstance→gH
open _root_.Nat renaming le_trans→ad,le_refl→ae,lt_of_lt_of_le→aB,le_succ→aN,ne_of_lt→aP,le_add_right→aU,le_of_not_lt→bf,not_lt→bl,succ_le_succ→bo,zero_le→bq,lt_of_not_le→bI,le_succ_of_le→bW,lt_succ_self→ch,ne_of_gt→cG,add_le_add_left→cR,lt_succ_of_lt→df,not_lt_zero→dQ,mul_div_le→fj,lt_trans→fk,zero_add→fQ,min_le_right→gI,min_le_left→gM,min_eq_left→gN
open _root_.PySem.Heap renaming get?_push_of_some→aD,get?_push_size→aT,get?_update_other→bR,get?_update_self→cb,SameBut→dJ,lt_size→fR,size_push→gS
open _root_.PySem.PyData renaming keyHash→aE
open _root_.Eq renaming symm→aM
open _root_.Int renaming ofNat_lt→aQ,natCast_nonneg→aW,toNat_natCast→cq
open _root_.Ne renaming symm→bg
open _root_.Option renaming map_eq_some_iff→bE,isSome_iff_exists→cN,bind_some→eD,map_some→gL
open _root_.Bool renaming false_eq_true→bJ,false_ne_true→cA,and_eq_true_iff→fF
open _root_.Option.some renaming inj→bV
open _root_.PySem.Obj renaming mapSeq→bY
open _root_.PySem.Env renaming blockKind→ca,kindOf→cw
open _root_.Array renaming getElem?_eq_some_iff→cE,getElem?_eq_getElem→gG,size_push→gO
open _root_.PySem.Calls renaming Name_function_global→cF,loadGlobal_builtin→cW,evalArgs_plain→fG,spliced_cons→fU,spliced_nil→gD
open _root_.PySem.F renaming slot_tuple_iterator_next→cQ,slot_dict_getattribute→cY,slot_dict_get→dN,plain_extend_loop→ee,type_dict_get→fv
open _root_.PySem.Heap.SameBut renaming update→cT
open _root_.PyProof.Rows renaming seqObj→de,subscriptTail→gA
open _root_.PySem.W renaming Looks→dk,looks_findIn→fz,findIn→fZ
open _root_.PySem.Manifest renaming signature?→dm
open _root_.PySem.Around renaming under_plainId→dE
open _root_.PySem.W.Looks renaming ld→dR
open _root_.PySem.Float64 renaming ofInt→dU,cmp→gw
open _root_.Nat.succ renaming inj→eG
open _root_.PySem.Config renaming single→eN
open _root_.PySem.Code renaming quiet_builtin→eR
open _root_.PySem.Builtin.List renaming listExtendWith→fB,listSameRef→gK,listItems→gQ
open _root_.PySem.Builtin.Tuple renaming tupleItemsOf→gC
open _root_.Decidable renaming byContradiction→gF
open _root_.List.Pairwise renaming imp_of_mem→gJ
open _root_.PySem renaming World→NQ,Shared→NR,Value→NS,Around→NT,Params→NU,Heap→NV,Stmt→NW,wpAny_ite_false→NX
open _root_.PyProof.Rows renaming Assign_ListComp_rowsP→NY
namespace Mine
noncomputable abbrev pP:Program:=PySem.Challenge.pw_dm0045_10
noncomputable abbrev rW:OpenLaw:=PySem.Challenge.rw_dm0045_10
noncomputable def qJ{b:Type}(a:Array b)(p:b->Bool)(i j:Nat):Bool:=@Bool.rec (λ_=>Bool) (Array.any a p i j) (@Bool.rec (λ_=>Bool) (Array.any a p i j) (PySem.W.R.anyR a.toList p) (Nat.beq j a.size)) (Nat.beq i 0)
theorem qK:@Array.any.{0}=@qJ:=by funext α as p i j;unfold qJ;cases c:Nat.beq i 0 with|false=>rfl|true=>have a:=Nat.eq_of_beq_eq_true c;subst a;cases d:Nat.beq j as.size with|false=>rfl|true=>have b:=Nat.eq_of_beq_eq_true d;subst b;show as.any p=PySem.W.R.anyR as.toList p;rw[<-PySem.W.R.anyR_eq,Array.any_toList]
noncomputable def tnB:bu:=by
 refine(?F:PySem.W.Fast.tw4202317264376624991=?w ->bu) ?h;case F=>exactλ_=>?w
 case h=>unfold PySem.W.Fast.tw4202317264376624991;rw[qK]
theorem wZ:PySem.W.Fast.tw4202317264376624991=tnB:=by unfold PySem.W.Fast.tw4202317264376624991;rw[qK];rfl
noncomputable def nf(id:String):Option bu:=@Bool.rec (λ_=>Option bu) (fP id) (some tnB) (Nat.beq (PySem.code id) (PySem.code "type.__new__"))
theorem w2:fP=nf:=by funext id;unfold nf;cases h:Nat.beq (PySem.code id) (PySem.code "type.__new__")with|false=>rfl|true=>
  have e:=Nat.eq_of_beq_eq_true h;show fP id=some tnB;have a:fP id=fP "type.__new__":=by unfold fP;rw[e]
  rw[a,<-wZ,<-PySem.W.Fast.te4202317264376624991];kernel_rfl
noncomputable def eM(c:String->Option bu)(p:Program)(w:NQ)(a:Nat)(b:Option NS):Nat->SharedT->Thread->Option SharedT|0,_,_=>none|n+1,s,t=>match through t with|true=>some s|false=>match stepOk a b t with|false=>none|true=>match stepT (denote c) p w s t with|some (d,e)=>eM c p w a b n d e|none=>none
theorem ng{c:String->Option bu}{p:Program}{w:NQ}{a:Nat}{b:Option NS}{n:Nat}{s:SharedT}{t:Thread}:eM c p w a b (n+1) s t=match through t with|true=>some s|false=>match stepOk a b t with|false=>none|true=>match stepT (denote c) p w s t with|some (s',t')=>eM c p w a b n s' t'|none=>none:=rfl
theorem xa{d:String->Option bu}{p:Program}{w:NQ}{a:Nat}{b:Option NS}:∀(n:Nat)(s:SharedT)(t:Thread)(r:SharedT),eM d p w a b n s t=some r->topRun d p w a b n s.abs t=some r.abs:=by intro n;induction n with|zero=>exactλ_ _ _ h=>by injection h|succ n g=>intro s t r h;rw[ng]at h;unfold topRun;cases f:through t with|true=>rw[f]at h;injection h with h;exact h▸rfl|false=>rw[f]at h;cases e:stepOk a b t with|false=>rw[e]at h;injection h|true=>rw[e]at h;cases c:stepT (denote d) p w s t with|none=>rw[c]at h;injection h|some x=>obtain⟨s',t'⟩:=x;rw[c]at h;dsimp only at h⊢;rw[stepT_spec c];exact g s' t' r h
noncomputable def nh(P:NU):BT:=let n:=λ(o:NU->Obj)l r=>BT.node (o P) l r
 n boot_o_0 (n boot_o_1 (n boot_o_3 (n boot_o_7 .nil .nil) .nil) (n boot_o_5 (n boot_o_9 .nil .nil) .nil)) (n boot_o_2 (n boot_o_4 (n boot_o_8 .nil .nil) .nil) (n boot_o_6 (n boot_o_10 .nil .nil) .nil))
theorem xb(P:NU):absHeap (nh P) 11 (boot_heap P).life=boot_heap P:=by kernel_rfl
noncomputable def nk(p:Program)(w:NQ)(s₁:NR):Bool:=staticsOk [] (boot_heap w.params) s₁.heap&&namesBound p s₁.heap&&gensDone s₁&&laidKept (boot_heap w.params) s₁.heap
noncomputable def jE(s:SharedT)(a:Nat):Option Obj:=match Nat.blt a s.n with
 |true=>match s.tree.get a with|some o=>alive o|none=>none
 |false=>none
theorem xc{s:SharedT}{a:Nat}{o:Obj}(h:jE s a=some o):s.abs.heap.get? a=some o:=by unfold jE at h;cases b:Nat.blt a s.n with|false=>rw[b]at h;cases h|true=>rw[b]at h;cases c:s.tree.get a with|none=>rw[c]at h;cases h|some o'=>rw[c]at h;exact(abs_get (Nat.le_of_ble_eq_true b) c).trans h
theorem xd{s:SharedT}{c:List Nat}:∀{b:List Obj},c.map (jE s)=b.map some->c.map s.abs.heap.get?=b.map some:=by induction c with|nil=>exactλh=>h|cons a c d=>intro b h;cases b with|nil=>injection h|cons o b=>injection h with h1 h2;exact congr (congrArg _ (xc h1)) (d h2)
section
universe u
variable{β:Type u}
noncomputable def fN(n:Nat)(k:Nat->β):β:=@Nat.rec (λ_=>β) (k 0) (λm _=>k (Nat.succ m)) n
theorem jF(n:Nat)(k:Nat->β):fN n k=k n:=by cases n<;>rfl
noncomputable def jG{b:Type}(g:b->(b->β)->β)(l:List b):(List b->β)->β:=@List.rec b (λ_=>(List b->β)->β) (λk=>k []) (λa _ d k=>g a λc=>d λe=>k (c::e)) l
theorem kP{b:Type}{g:b->(b->β)->β}(c:∀a k,g a k=k a)(l:List b):∀k:List b->β,jG g l k=k l:=by induction l with|nil=>intro k;rfl|cons a t d=>intro k;show g a _=_;rw[c];exact d _
noncomputable def jH{a:Type}(g:a->(a->β)->β)(x:Array a)(k:Array a->β):β:=jG g x.toList λl=>k (Array.mk l)
theorem kQ{b:Type}{g:b->(b->β)->β}(c:∀a k,g a k=k a)(x:Array b)(k:Array b->β):jH g x k=k x:=kP c _ _
noncomputable def fE(e:DictEntry)(k:DictEntry->β):β:=k ⟨e.1,e.2,e.3⟩
noncomputable def fV(v:NS)(k:NS->β):β:=match v with|.none=>k .none|.ellipsis=>k .ellipsis|.notImplemented=>k .notImplemented|.bool b=>k (.bool b)|.int i t=>fN t λt=>k (.int i t)|.float b t=>fN t λt=>k (.float b t)|.str s t=>fN t λt=>k (.str s t)|.bytes b t=>fN t λt=>k (.bytes b t)|.type n=>k (.type n)|.builtin i=>k (.builtin i)|.ref a=>fN a λa=>k (.ref a)
theorem Y8(v:NS)(k:NS->β):fV v k=k v:=by delta fV;cases v<;>dsimp only<;>rw[jF]
noncomputable def fEV(e:DictEntry)(k:DictEntry->β):β:=fV e.2 λa=>fV e.3 λb=>k ⟨e.1,a,b⟩
theorem xe(e:DictEntry)(k:DictEntry->β):fEV e k=k e:=by unfold fEV;rw[Y8,Y8]
noncomputable def fD(d:Data)(k:Data->β):β:=match d with|.plain=>k .plain|.prim v=>k (.prim v)|.seq j n=>jH fV j λj=>fN n λn=>k (.seq j n)|.dict e n=>jH fEV e λe=>fN n λn=>k (.dict e n)|.set a b c=>k (.set a b c)|.bytearray a b=>k (.bytearray a b)|.cell v=>k (.cell v)|.func f=>k (.func f)|.cls c=>jG fV c.bases λl=>jG fV c.mro λg=>jG fV c.subclasses λh=>k (.cls ⟨c.name,l,g,c.ns,c.qualname,c.hasDict,c.slotNames,h,c.abstract,c.collection,c.hasDel⟩)|.fields i=>jH fV i λi=>k (.fields i)|.freed=>k .freed
theorem xf(d:Data)(k:Data->β):fD d k=k d:=by delta fD;cases d with|seq xs n=>dsimp only;rw[kQ Y8,jF]|dict a n=>dsimp only;rw[kQ xe,jF]|cls c=>dsimp only;rw[kP Y8,kP Y8,kP Y8]|fields b=>dsimp only;rw[kQ Y8]|_=>rfl
noncomputable def fO(o:Obj)(k:Obj->β):β:=fD o.data λd=>jH (λx k=>match x with|none=>k none|some v=>fV v λv=>k (some v)) o.slots λa=>k ⟨o.cls,o.dict,d,a⟩
theorem xg(o:Obj)(k:Obj->β):fO o k=k o:=by unfold fO;rw[xf,kQ];intro a k;cases a with|none=>rfl|some v=>exact Y8 _ _
noncomputable def fT(t:BT):(BT->β)->β:=@BT.rec (λ_=>(BT->β)->β) (λk=>k .nil) (λv _ _ l r k=>fO v λv=>l λl=>r λr=>k (.node v l r)) t
theorem xh(t:BT):∀k:BT->β,fT t k=k t:=by induction t with|nil=>intro k;rfl|node v l r a b=>intro k;show fO v (λv=>fT l λl=>fT r λr=>k (.node v l r))=_;rw[xg,a,b]
noncomputable def fS(s:SharedT)(k:SharedT->β):β:=fT s.1 λt=>fN s.2 λn=>fN s.6 λa=>k ⟨t,n,s.3,s.4,s.5,a,s.7⟩
theorem xi(s:SharedT)(k:SharedT->β):fS s k=k s:=by unfold fS;rw[xh,jF,jF]
end
noncomputable def goT(c:String->Option bu)(p:Program)(w:NQ)(a:Nat)(b:Option NS):Nat->SharedT->Thread->Option (Bool×SharedT×Thread)|0,s,t=>some (false,s,t)|n+1,s,t=>match through t with|true=>some (true,s,t)|false=>match stepOk a b t with|false=>none|true=>match stepT (denote c) p w s t with|some (d,e)=>goT c p w a b n d e|none=>none
noncomputable def jI(f:String->Option bu)(p:Program)(w:NQ)(a:Nat)(d:Option NS)(c:Nat):Nat->SharedT->Thread->Option SharedT|0,_,_=>none|m+1,s,t=>match goT f p w a d c s t with|none=>none|some (b,e,g)=>match b with|true=>some e|false=>fS e λe=>jI f p w a d c m e g
section
variable{tb:String->Option bu}{p:Program}{w:NQ}{n₀:Nat}{ann:Option NS}
theorem xj{n:Nat}{s:SharedT}{t:Thread}:goT tb p w n₀ ann (n+1) s t=match through t with|true=>some (true,s,t)|false=>match stepOk n₀ ann t with|false=>none|true=>match stepT (denote tb) p w s t with|some (s',t')=>goT tb p w n₀ ann n s' t'|none=>none:=rfl
theorem qL:∀(n N:Nat)(s s':SharedT)(t t':Thread)(b:Bool)(r:SharedT),goT tb p w n₀ ann n s t=some (b,s',t')->(if b then r=s' else eM tb p w n₀ ann N s' t'=some r)->∃M,M<=n+N+1/\eM tb p w n₀ ann M s t=some r:=by intro n;induction n with|zero=>intro N s s' t t' b r h k;cases h;exact⟨N,ad (Nat.le_add_left N 0) (aN _),k⟩|succ n j=>intro N s s' t t' b r h k;rw[xj]at h;cases a:through t with|true=>rw[a]at h;injection h with h;have e:=(Prod.mk.inj h).1;have f:=(Prod.mk.inj (Prod.mk.inj h).2).1;subst e;subst f;exact⟨1,bo (bq _),by rw[ng,a];exact congrArg some (aM k)⟩|false=>rw[a]at h;cases c:stepOk n₀ ann t with|false=>rw[c]at h;injection h|true=>rw[c]at h;cases d:stepT (denote tb) p w s t with|none=>rw[d]at h;injection h|some x=>obtain⟨l,m⟩:=x;rw[d]at h;obtain⟨M,g,i⟩:=j N l s' m t' b r h k;exact⟨M+1,ad (bo g) (Nat.le_of_eq (congrArg Nat.succ (Nat.add_right_comm n N 1))),by rw[ng,a,c,d];exact i⟩
theorem xk{c m:Nat}{s:SharedT}{t:Thread}:jI tb p w n₀ ann c (m+1) s t=match goT tb p w n₀ ann c s t with|none=>none|some (b,s',t')=>match b with|true=>some s'|false=>fS s' λs'=>jI tb p w n₀ ann c m s' t':=rfl
theorem xm{c:Nat}:∀(m:Nat)(s:SharedT)(t:Thread)(r:SharedT),jI tb p w n₀ ann c m s t=some r->∃M,M<=m*(c+1)/\eM tb p w n₀ ann M s t=some r:=by intro m;induction m with|zero=>exactλ_ _ _ h=>by injection h|succ m j=>intro s t r h;rw[xk]at h;cases d:goT tb p w n₀ ann c s t with|none=>rw[d]at h;injection h|some x=>obtain⟨b,s',t'⟩:=x;rw[d]at h;cases b with|true=>cases h;obtain⟨M,e,g⟩:=qL c 0 s r t t' true r d rfl;exact⟨M,by rw[Nat.succ_mul];exact ad e (Nat.le_add_left _ _),g⟩|false=>dsimp only at h;rw[xi]at h;obtain⟨a,f,i⟩:=j s' t' r h;obtain⟨M,e,g⟩:=qL c a s s' t t' false r d i;exact⟨M,by rw[Nat.succ_mul];exact ad e (ad (Nat.le_of_eq (congrArg Nat.succ (Nat.add_comm c a))) (Nat.add_le_add_right (k:=c+1) f)),g⟩
end
noncomputable def m8(k:Nat):NW:=pP.main.body[k]?.getD (.Pass ⟨0,0,0,0⟩)
noncomputable def nq:NW->Arguments×List NW×Scope|.FunctionDef _ a b _ _ _ c _ _ _=>(a,b,c)|.ClassDef _ _ _ b _ _ _ _ _ _ _=>(default,b,default)|_=>default
noncomputable def e9(s:NW):List NW:=(nq s).2.1
noncomputable def i7(s:NW):Scope:=(nq s).2.2
noncomputable def A7(s:NW):Arguments:=(nq s).1
noncomputable def C9(a:NW):Str:=(docOf (e9 a)).getD Str.empty
noncomputable def d0(k j:Nat):NW:=(e9 (m8 k))[j]?.getD (.Pass ⟨0,0,0,0⟩)
noncomputable def d5s:{cs:List Char//aa (String.ofList cs)=C9 (m8 5)}:=⟨_,by with_unfolding_all rfl⟩
noncomputable def d7s:{cs:List Char//aa (String.ofList cs)=C9 (m8 7)}:=⟨_,by with_unfolding_all rfl⟩
noncomputable def D5:Str:=⟨⟨d5s.1.map Char.toNat⟩⟩
noncomputable def D7:Str:=⟨⟨d7s.1.map Char.toNat⟩⟩
theorem xo:D5=C9 (m8 5):=(PySem.W.Fast.ofString_ofList d5s.1).symm.trans d5s.2
theorem xq:D7=C9 (m8 7):=(PySem.W.Fast.ofString_ofList d7s.1).symm.trans d7s.2
noncomputable def xr(d:Str)(q:Pos):NW->NW|.ClassDef a b c r e f g h i j l=>.ClassDef a b c (.Expr (.Constant (.str d) 0 q) q::r.tail) e f g h i j l|s=>s
noncomputable def qM(n:Nat)(d:Str)(q:Pos)(p:Program):Program:={p with main:={p.main with body:=p.main.body.modify n (xr d q)}}
noncomputable def pE:Program:=qM 5 D5 ⟨71,4,143,7⟩ (qM 7 D7 ⟨492,4,575,7⟩ pP)
theorem nr:pE=pP:=by unfold pE;rw[xo,xq];kernel_rfl
noncomputable def o2(P:NU):Obj:=⟨.none,none,.dict ⟨[]⟩ 0,⟨[]⟩⟩
noncomputable def o3(P:NU):Obj:=⟨.type "dict",none,.dict ⟨[⟨aE P (aa "__name__"),.str (aa "__name__") 165,.str (aa "law_dm0045_10") 744⟩,⟨aE P (aa "__doc__"),.str (aa "__doc__") 166,.none⟩,⟨aE P (aa "__package__"),.str (aa "__package__") 167,.none⟩,⟨aE P (aa "__loader__"),.str (aa "__loader__") 168,.builtin "__main__.__loader__#opaque"⟩,⟨aE P (aa "__spec__"),.str (aa "__spec__") 169,.none⟩,⟨aE P (aa "__annotations__"),.str (aa "__annotations__") 170,.ref 6⟩,⟨aE P (aa "__builtins__"),.str (aa "__builtins__") 171,.ref 4⟩,⟨aE P (aa "__file__"),.str (aa "__file__") 173,.str (aa "/claim/cut.py") 172⟩,⟨aE P (aa "__cached__"),.str (aa "__cached__") 174,.none⟩,⟨aE P (aa "_wall"),.str (aa "_wall") 193,.ref 21⟩,⟨aE P (aa "_tuplegetter"),.str (aa "_tuplegetter") 252,.ref 60⟩,⟨aE P (aa "Match"),.str (aa "Match") 380,.ref 135⟩,⟨aE P (aa "_calculate_ratio"),.str (aa "_calculate_ratio") 388,.ref 145⟩,⟨aE P (aa "SequenceMatcher"),.str (aa "SequenceMatcher") 592,.ref 242⟩,⟨aE P (aa "_keep_original_ws"),.str (aa "_keep_original_ws") 601,.ref 253⟩,⟨aE P (aa "Differ"),.str (aa "Differ") 743,.ref 313⟩,⟨aE P (aa "_law_plan"),.str (aa "_law_plan") 751,.ref 322⟩,⟨aE P (aa "_law_due"),.str (aa "_law_due") 764,.ref 329⟩,⟨aE P (aa "_law_told"),.str (aa "_law_told") 772,.ref 336⟩,⟨aE P (aa "law"),.str (aa "law") 778,.ref 341⟩]⟩ 20,⟨[]⟩⟩
noncomputable def o4(P:NU):Obj:=⟨.type "module",some 0,.plain,⟨[]⟩⟩
noncomputable def qP(P:NU):Obj:=⟨.type "code",none,.fields ⟨[.str (aa "__new__") 274,.str (aa "Match.__new__") 275,.str (aa "/claim/cut.py") 276,.int 29 0,.int 4 0,.int 0 0,.int 0 0,.int 3 0,.ref 76,.bool true,.int 181 0,.ref 77,.none,.ref 78,.ref 79,.ref 80,.int 281 0,.int 29 0,.str (aa "/claim/cut.py") 282]⟩,⟨[]⟩⟩
noncomputable def nz(P:NU):Obj:=⟨.type "function",none,.func ⟨aa "__new__",aa "Match.__new__",A7 (d0 3 4),.stmts (e9 (d0 3 4)),i7 (d0 3 4),3,[],.none,.none,.str (C9 (d0 3 4)) 283,.str (aa "cpy313.difflib") 194,none,.ref 81,.none,0⟩,⟨[]⟩⟩
noncomputable def qQ(P:NU):Obj:=⟨.type "code",none,.fields ⟨[.str (aa "_make") 285,.str (aa "Match._make") 286,.str (aa "/claim/cut.py") 287,.int 33 0,.int 2 0,.int 0 0,.int 0 0,.int 3 0,.ref 83,.bool true,.int 181 0,.ref 84,.none,.ref 85,.ref 86,.ref 87,.int 291 0,.int 33 0,.str (aa "/claim/cut.py") 292]⟩,⟨[]⟩⟩
noncomputable def nA(P:NU):Obj:=⟨.type "function",none,.func ⟨aa "_make",aa "Match._make",A7 (d0 3 5),.stmts (e9 (d0 3 5)),i7 (d0 3 5),3,[],.none,.none,.str (C9 (d0 3 5)) 293,.str (aa "cpy313.difflib") 194,some 92,.ref 88,.none,0⟩,⟨[]⟩⟩
noncomputable def aS2(P:NU):Obj:=⟨.type "code",none,.fields ⟨[.str (aa "_calculate_ratio") 381,.str (aa "_calculate_ratio") 382,.str (aa "/claim/cut.py") 383,.int 66 0,.int 2 0,.int 0 0,.int 0 0,.int 3 0,.ref 139,.bool true,.int 181 0,.ref 140,.none,.ref 141,.ref 142,.ref 143,.int 386 0,.int 66 0,.str (aa "/claim/cut.py") 387]⟩,⟨[]⟩⟩
noncomputable def aE9(P:NU):Obj:=⟨.type "function",none,.func ⟨aa "_calculate_ratio",aa "_calculate_ratio",A7 (m8 4),.stmts (e9 (m8 4)),i7 (m8 4),3,[],.none,.none,.none,.str (aa "cpy313.difflib") 194,none,.ref 144,.none,0⟩,⟨[]⟩⟩
noncomputable def aF0(P:NU):Obj:=⟨.type "tuple",none,.seq ⟨[.none,.str (aa "") 404,.str (aa "") 405,.bool true]⟩ 0,⟨[]⟩⟩
noncomputable def aS3(P:NU):Obj:=⟨.type "code",none,.fields ⟨[.str (aa "__init__") 406,.str (aa "SequenceMatcher.__init__") 407,.str (aa "/claim/cut.py") 408,.int 145 0,.int 5 0,.int 0 0,.int 0 0,.int 3 0,.ref 154,.bool true,.int 181 0,.ref 155,.none,.ref 156,.ref 157,.ref 158,.int 414 0,.int 145 0,.str (aa "/claim/cut.py") 415]⟩,⟨[]⟩⟩
noncomputable def Y9(P:NU):Obj:=⟨.type "function",none,.func ⟨aa "__init__",aa "SequenceMatcher.__init__",A7 (d0 5 1),.stmts (e9 (d0 5 1)),i7 (d0 5 1),3,[],.ref 153,.none,.str (C9 (d0 5 1)) 416,.str (aa "cpy313.difflib") 194,none,.ref 159,.none,0⟩,⟨[]⟩⟩
noncomputable def aS4(P:NU):Obj:=⟨.type "code",none,.fields ⟨[.str (aa "set_seqs") 418,.str (aa "SequenceMatcher.set_seqs") 419,.str (aa "/claim/cut.py") 420,.int 173 0,.int 3 0,.int 0 0,.int 0 0,.int 3 0,.ref 161,.bool true,.int 181 0,.ref 162,.none,.ref 163,.ref 164,.ref 165,.int 424 0,.int 173 0,.str (aa "/claim/cut.py") 425]⟩,⟨[]⟩⟩
noncomputable def au0(P:NU):Obj:=⟨.type "function",none,.func ⟨aa "set_seqs",aa "SequenceMatcher.set_seqs",A7 (d0 5 2),.stmts (e9 (d0 5 2)),i7 (d0 5 2),3,[],.none,.none,.str (C9 (d0 5 2)) 426,.str (aa "cpy313.difflib") 194,none,.ref 166,.none,0⟩,⟨[]⟩⟩
noncomputable def aS5(P:NU):Obj:=⟨.type "code",none,.fields ⟨[.str (aa "set_seq1") 428,.str (aa "SequenceMatcher.set_seq1") 429,.str (aa "/claim/cut.py") 430,.int 184 0,.int 2 0,.int 0 0,.int 0 0,.int 3 0,.ref 168,.bool true,.int 181 0,.ref 169,.none,.ref 170,.ref 171,.ref 172,.int 433 0,.int 184 0,.str (aa "/claim/cut.py") 434]⟩,⟨[]⟩⟩
noncomputable def ah8(P:NU):Obj:=⟨.type "function",none,.func ⟨aa "set_seq1",aa "SequenceMatcher.set_seq1",A7 (d0 5 3),.stmts (e9 (d0 5 3)),i7 (d0 5 3),3,[],.none,.none,.str (C9 (d0 5 3)) 435,.str (aa "cpy313.difflib") 194,none,.ref 173,.none,0⟩,⟨[]⟩⟩
noncomputable def aS6(P:NU):Obj:=⟨.type "code",none,.fields ⟨[.str (aa "set_seq2") 437,.str (aa "SequenceMatcher.set_seq2") 438,.str (aa "/claim/cut.py") 439,.int 209 0,.int 2 0,.int 0 0,.int 0 0,.int 3 0,.ref 175,.bool true,.int 181 0,.ref 176,.none,.ref 177,.ref 178,.ref 179,.int 442 0,.int 209 0,.str (aa "/claim/cut.py") 443]⟩,⟨[]⟩⟩
noncomputable def ah9(P:NU):Obj:=⟨.type "function",none,.func ⟨aa "set_seq2",aa "SequenceMatcher.set_seq2",A7 (d0 5 4),.stmts (e9 (d0 5 4)),i7 (d0 5 4),3,[],.none,.none,.str (C9 (d0 5 4)) 444,.str (aa "cpy313.difflib") 194,none,.ref 180,.none,0⟩,⟨[]⟩⟩
noncomputable def aS7(P:NU):Obj:=⟨.type "code",none,.fields ⟨[.str (aa "__chain_b") 446,.str (aa "SequenceMatcher.__chain_b") 447,.str (aa "/claim/cut.py") 448,.int 236 0,.int 1 0,.int 0 0,.int 0 0,.int 3 0,.ref 182,.bool true,.int 181 0,.ref 183,.none,.ref 184,.ref 185,.ref 186,.int 461 0,.int 236 0,.str (aa "/claim/cut.py") 462]⟩,⟨[]⟩⟩
noncomputable def ao0(P:NU):Obj:=⟨.type "function",none,.func ⟨aa "__chain_b",aa "SequenceMatcher.__chain_b",A7 (d0 5 5),.stmts (e9 (d0 5 5)),i7 (d0 5 5),3,[],.none,.none,.none,.str (aa "cpy313.difflib") 194,none,.ref 187,.none,0⟩,⟨[]⟩⟩
noncomputable def aS8(P:NU):Obj:=⟨.type "tuple",none,.seq ⟨[.int 0 464,.none,.int 0 465,.none]⟩ 0,⟨[]⟩⟩
noncomputable def aS9(P:NU):Obj:=⟨.type "code",none,.fields ⟨[.str (aa "find_longest_match") 466,.str (aa "SequenceMatcher.find_longest_match") 467,.str (aa "/claim/cut.py") 468,.int 260 0,.int 5 0,.int 0 0,.int 0 0,.int 3 0,.ref 190,.bool true,.int 181 0,.ref 191,.none,.ref 192,.ref 193,.ref 194,.int 488 0,.int 260 0,.str (aa "/claim/cut.py") 489]⟩,⟨[]⟩⟩
noncomputable def ai0(P:NU):Obj:=⟨.type "function",none,.func ⟨aa "find_longest_match",aa "SequenceMatcher.find_longest_match",A7 (d0 5 6),.stmts (e9 (d0 5 6)),i7 (d0 5 6),3,[],.ref 189,.none,.str (C9 (d0 5 6)) 490,.str (aa "cpy313.difflib") 194,none,.ref 195,.none,0⟩,⟨[]⟩⟩
noncomputable def aT0(P:NU):Obj:=⟨.type "code",none,.fields ⟨[.str (aa "get_matching_blocks") 492,.str (aa "SequenceMatcher.get_matching_blocks") 493,.str (aa "/claim/cut.py") 494,.int 335 0,.int 1 0,.int 0 0,.int 0 0,.int 3 0,.ref 197,.bool true,.int 181 0,.ref 198,.none,.ref 199,.ref 200,.ref 201,.int 515 0,.int 335 0,.str (aa "/claim/cut.py") 516]⟩,⟨[]⟩⟩
noncomputable def ao1(P:NU):Obj:=⟨.type "function",none,.func ⟨aa "get_matching_blocks",aa "SequenceMatcher.get_matching_blocks",A7 (d0 5 7),.stmts (e9 (d0 5 7)),i7 (d0 5 7),3,[],.none,.none,.str (C9 (d0 5 7)) 517,.str (aa "cpy313.difflib") 194,none,.ref 202,.none,0⟩,⟨[]⟩⟩
noncomputable def aT1(P:NU):Obj:=⟨.type "code",none,.fields ⟨[.str (aa "get_opcodes") 519,.str (aa "SequenceMatcher.get_opcodes") 520,.str (aa "/claim/cut.py") 521,.int 383 0,.int 1 0,.int 0 0,.int 0 0,.int 3 0,.ref 204,.bool true,.int 181 0,.ref 205,.none,.ref 206,.ref 207,.ref 208,.int 530 0,.int 383 0,.str (aa "/claim/cut.py") 531]⟩,⟨[]⟩⟩
noncomputable def ao2(P:NU):Obj:=⟨.type "function",none,.func ⟨aa "get_opcodes",aa "SequenceMatcher.get_opcodes",A7 (d0 5 8),.stmts (e9 (d0 5 8)),i7 (d0 5 8),3,[],.none,.none,.str (C9 (d0 5 8)) 532,.str (aa "cpy313.difflib") 194,none,.ref 209,.none,0⟩,⟨[]⟩⟩
noncomputable def aT2(P:NU):Obj:=⟨.type "code",none,.fields ⟨[.str (aa "quick_ratio") 552,.str (aa "SequenceMatcher.quick_ratio") 553,.str (aa "/claim/cut.py") 554,.int 457 0,.int 1 0,.int 0 0,.int 0 0,.int 3 0,.ref 226,.bool true,.int 181 0,.ref 227,.none,.ref 228,.ref 229,.ref 230,.int 562 0,.int 457 0,.str (aa "/claim/cut.py") 563]⟩,⟨[]⟩⟩
noncomputable def ao3(P:NU):Obj:=⟨.type "function",none,.func ⟨aa "quick_ratio",aa "SequenceMatcher.quick_ratio",A7 (d0 5 11),.stmts (e9 (d0 5 11)),i7 (d0 5 11),3,[],.none,.none,.str (C9 (d0 5 11)) 564,.str (aa "cpy313.difflib") 194,none,.ref 231,.none,0⟩,⟨[]⟩⟩
noncomputable def aT3(P:NU):Obj:=⟨.type "code",none,.fields ⟨[.str (aa "real_quick_ratio") 566,.str (aa "SequenceMatcher.real_quick_ratio") 567,.str (aa "/claim/cut.py") 568,.int 480 0,.int 1 0,.int 0 0,.int 0 0,.int 3 0,.ref 233,.bool true,.int 181 0,.ref 234,.none,.ref 235,.ref 236,.ref 237,.int 572 0,.int 480 0,.str (aa "/claim/cut.py") 573]⟩,⟨[]⟩⟩
noncomputable def au1(P:NU):Obj:=⟨.type "function",none,.func ⟨aa "real_quick_ratio",aa "SequenceMatcher.real_quick_ratio",A7 (d0 5 12),.stmts (e9 (d0 5 12)),i7 (d0 5 12),3,[],.none,.none,.str (C9 (d0 5 12)) 574,.str (aa "cpy313.difflib") 194,none,.ref 238,.none,0⟩,⟨[]⟩⟩
noncomputable def aT4(P:NU):Obj:=⟨.type "tuple",none,.seq ⟨[.none,.none]⟩ 0,⟨[]⟩⟩
noncomputable def aT5(P:NU):Obj:=⟨.type "code",none,.fields ⟨[.str (aa "__init__") 617,.str (aa "Differ.__init__") 618,.str (aa "/claim/cut.py") 619,.int 577 0,.int 3 0,.int 0 0,.int 0 0,.int 3 0,.ref 262,.bool true,.int 181 0,.ref 263,.none,.ref 264,.ref 265,.ref 266,.int 623 0,.int 577 0,.str (aa "/claim/cut.py") 624]⟩,⟨[]⟩⟩
noncomputable def ao4(P:NU):Obj:=⟨.type "function",none,.func ⟨aa "__init__",aa "Differ.__init__",A7 (d0 7 1),.stmts (e9 (d0 7 1)),i7 (d0 7 1),3,[],.ref 261,.none,.str (C9 (d0 7 1)) 625,.str (aa "cpy313.difflib") 194,none,.ref 267,.none,0⟩,⟨[]⟩⟩
noncomputable def aT6(P:NU):Obj:=⟨.type "code",none,.fields ⟨[.str (aa "compare") 627,.str (aa "Differ.compare") 628,.str (aa "/claim/cut.py") 629,.int 599 0,.int 3 0,.int 0 0,.int 0 0,.int 35 0,.ref 269,.bool true,.int 181 0,.ref 270,.none,.ref 271,.ref 272,.ref 273,.int 640 0,.int 599 0,.str (aa "/claim/cut.py") 641]⟩,⟨[]⟩⟩
noncomputable def ao5(P:NU):Obj:=⟨.type "function",none,.func ⟨aa "compare",aa "Differ.compare",A7 (d0 7 2),.stmts (e9 (d0 7 2)),i7 (d0 7 2),3,[],.none,.none,.str (C9 (d0 7 2)) 642,.str (aa "cpy313.difflib") 194,none,.ref 274,.none,0⟩,⟨[]⟩⟩
noncomputable def aT7(P:NU):Obj:=⟨.type "code",none,.fields ⟨[.str (aa "_dump") 644,.str (aa "Differ._dump") 645,.str (aa "/claim/cut.py") 646,.int 638 0,.int 5 0,.int 0 0,.int 0 0,.int 35 0,.ref 276,.bool true,.int 181 0,.ref 277,.none,.ref 278,.ref 279,.ref 280,.int 653 0,.int 638 0,.str (aa "/claim/cut.py") 654]⟩,⟨[]⟩⟩
noncomputable def ao6(P:NU):Obj:=⟨.type "function",none,.func ⟨aa "_dump",aa "Differ._dump",A7 (d0 7 3),.stmts (e9 (d0 7 3)),i7 (d0 7 3),3,[],.none,.none,.str (C9 (d0 7 3)) 655,.str (aa "cpy313.difflib") 194,none,.ref 281,.none,0⟩,⟨[]⟩⟩
noncomputable def aT8(P:NU):Obj:=⟨.type "code",none,.fields ⟨[.str (aa "_plain_replace") 657,.str (aa "Differ._plain_replace") 658,.str (aa "/claim/cut.py") 659,.int 643 0,.int 7 0,.int 0 0,.int 0 0,.int 35 0,.ref 283,.bool true,.int 181 0,.ref 284,.none,.ref 285,.ref 286,.ref 287,.int 670 0,.int 643 0,.str (aa "/claim/cut.py") 671]⟩,⟨[]⟩⟩
noncomputable def ao7(P:NU):Obj:=⟨.type "function",none,.func ⟨aa "_plain_replace",aa "Differ._plain_replace",A7 (d0 7 4),.stmts (e9 (d0 7 4)),i7 (d0 7 4),3,[],.none,.none,.none,.str (aa "cpy313.difflib") 194,none,.ref 288,.none,0⟩,⟨[]⟩⟩
noncomputable def aT9(P:NU):Obj:=⟨.type "code",none,.fields ⟨[.str (aa "_fancy_replace") 673,.str (aa "Differ._fancy_replace") 674,.str (aa "/claim/cut.py") 675,.int 654 0,.int 7 0,.int 0 0,.int 0 0,.int 35 0,.ref 290,.bool true,.int 181 0,.ref 291,.none,.ref 292,.ref 293,.ref 294,.int 705 0,.int 654 0,.str (aa "/claim/cut.py") 706]⟩,⟨[]⟩⟩
noncomputable def ao8(P:NU):Obj:=⟨.type "function",none,.func ⟨aa "_fancy_replace",aa "Differ._fancy_replace",A7 (d0 7 5),.stmts (e9 (d0 7 5)),i7 (d0 7 5),3,[],.none,.none,.str (C9 (d0 7 5)) 707,.str (aa "cpy313.difflib") 194,none,.ref 295,.none,0⟩,⟨[]⟩⟩
noncomputable def qR(P:NU):Obj:=⟨.type "code",none,.fields ⟨[.str (aa "_law_plan") 746,.str (aa "_law_plan") 747,.str (aa "/claim/cut.py") 748,.int 754 0,.int 2 0,.int 0 0,.int 0 0,.int 3 0,.ref 318,.bool true,.int 181 0,.ref 319,.none,.none,.none,.ref 320,.int 749 0,.int 754 0,.str (aa "/claim/cut.py") 750]⟩,⟨[]⟩⟩
noncomputable def kR(P:NU):Obj:=⟨.type "function",none,.func ⟨aa "_law_plan",aa "_law_plan",A7 (m8 9),.stmts (e9 (m8 9)),i7 (m8 9),3,[],.none,.none,.none,.str (aa "law_dm0045_10") 744,none,.ref 321,.none,0⟩,⟨[]⟩⟩
noncomputable def qU(P:NU):Obj:=⟨.type "code",none,.fields ⟨[.str (aa "_law_due") 752,.str (aa "_law_due") 753,.str (aa "/claim/cut.py") 754,.int 769 0,.int 2 0,.int 0 0,.int 0 0,.int 3 0,.ref 323,.bool true,.int 181 0,.ref 324,.none,.ref 325,.ref 326,.ref 327,.int 762 0,.int 769 0,.str (aa "/claim/cut.py") 763]⟩,⟨[]⟩⟩
noncomputable def kT(P:NU):Obj:=⟨.type "function",none,.func ⟨aa "_law_due",aa "_law_due",A7 (m8 10),.stmts (e9 (m8 10)),i7 (m8 10),3,[],.none,.none,.none,.str (aa "law_dm0045_10") 744,none,.ref 328,.none,0⟩,⟨[]⟩⟩
noncomputable def qV(P:NU):Obj:=⟨.none,none,.fields ⟨[]⟩,⟨[]⟩⟩
noncomputable def qW(P:NU):Obj:=⟨.type "code",none,.fields ⟨[.str (aa "_law_told") 765,.str (aa "_law_told") 766,.str (aa "/claim/cut.py") 767,.int 780 0,.int 1 0,.int 0 0,.int 0 0,.int 3 0,.ref 330,.bool true,.int 181 0,.ref 331,.none,.ref 332,.ref 333,.ref 334,.int 770 0,.int 780 0,.str (aa "/claim/cut.py") 771]⟩,⟨[]⟩⟩
noncomputable def nB(P:NU):Obj:=⟨.type "function",none,.func ⟨aa "_law_told",aa "_law_told",A7 (m8 11),.stmts (e9 (m8 11)),i7 (m8 11),3,[],.none,.none,.none,.str (aa "law_dm0045_10") 744,none,.ref 335,.none,0⟩,⟨[]⟩⟩
noncomputable def qX(P:NU):Obj:=⟨.type "code",none,.fields ⟨[.str (aa "law") 773,.str (aa "law") 774,.str (aa "/claim/cut.py") 775,.int 785 0,.int 1 0,.int 0 0,.int 0 0,.int 3 0,.ref 337,.bool true,.int 181 0,.ref 338,.none,.none,.none,.ref 339,.int 776 0,.int 785 0,.str (aa "/claim/cut.py") 777]⟩,⟨[]⟩⟩
noncomputable def kW(P:NU):Obj:=⟨.type "function",none,.func ⟨aa "law",aa "law",A7 (m8 12),.stmts (e9 (m8 12)),i7 (m8 12),3,[],.none,.none,.none,.str (aa "law_dm0045_10") 744,none,.ref 340,.none,0⟩,⟨[]⟩⟩
noncomputable def K(P:NU):List (Nat×Obj):=[(2,o2 P),(3,o3 P),(4,o4 P),(81,qP P),(82,nz P),(88,qQ P),(89,nA P),(90,⟨.type "dict",none,.dict ⟨[⟨aE P (aa "__module__"),.str (aa "__module__") 295,.str (aa "cpy313.difflib") 194⟩,⟨aE P (aa "__name__"),.str (aa "__name__") 298,.str (aa "_make") 297⟩,⟨aE P (aa "__qualname__"),.str (aa "__qualname__") 301,.str (aa "Match._make") 300⟩,⟨aE P (aa "__doc__"),.str (aa "__doc__") 303,.str (C9 (d0 3 5)) 293⟩,⟨aE P (aa "__annotations__"),.str (aa "__annotations__") 305,.ref 92⟩]⟩ 5,⟨[]⟩⟩),(91,⟨.type "classmethod",some 90,.fields ⟨[.ref 89,.bool false]⟩,⟨[]⟩⟩),(134,⟨.type "dict",none,.dict ⟨[⟨aE P (aa "__module__"),.str (aa "__module__") 260,.str (aa "cpy313.difflib") 194⟩,⟨aE P (aa "__firstlineno__"),.str (aa "__firstlineno__") 264,.int 23 263⟩,⟨aE P (aa "__doc__"),.str (aa "__doc__") 266,.str (aa "Match(a, b, size)") 265⟩,⟨aE P (aa "__slots__"),.str (aa "__slots__") 268,.ref 73⟩,⟨aE P (aa "_fields"),.str (aa "_fields") 272,.ref 74⟩,⟨aE P (aa "_field_defaults"),.str (aa "_field_defaults") 273,.ref 75⟩,⟨aE P (aa "__new__"),.str (aa "__new__") 284,.ref 136⟩,⟨aE P (aa "_make"),.str (aa "_make") 306,.ref 91⟩,⟨aE P (aa "_replace"),.str (aa "_replace") 317,.ref 100⟩,⟨aE P (aa "__replace__"),.str (aa "__replace__") 318,.ref 100⟩,⟨aE P (aa "__repr__"),.str (aa "__repr__") 326,.ref 107⟩,⟨aE P (aa "_asdict"),.str (aa "_asdict") 333,.ref 114⟩,⟨aE P (aa "__getnewargs__"),.str (aa "__getnewargs__") 341,.ref 121⟩,⟨aE P (aa "__match_args__"),.str (aa "__match_args__") 345,.ref 122⟩,⟨aE P (aa "a"),.str (aa "a") 355,.ref 124⟩,⟨aE P (aa "b"),.str (aa "b") 365,.ref 127⟩,⟨aE P (aa "size"),.str (aa "size") 375,.ref 130⟩,⟨aE P (aa "__static_attributes__"),.str (aa "__static_attributes__") 376,.ref 132⟩]⟩ 2,⟨[]⟩⟩),(135,⟨.type "type",none,.cls ⟨aa "Match",[.type "tuple"],[.ref 135,.type "tuple",.type "object"],134,aa "Match",false,[],[],false,none,false⟩,⟨[some (.ref 65),none,some (.str (aa "Match") 253),some (.str (aa "Match") 261),some .none,some (.bool false)]⟩⟩),(136,⟨.type "staticmethod",none,.fields ⟨[.ref 82]⟩,⟨[]⟩⟩),(144,aS2 P),(145,aE9 P),(153,aF0 P),(159,aS3 P),(160,Y9 P),(166,aS4 P),(167,au0 P),(173,aS5 P),(174,ah8 P),(180,aS6 P),(181,ah9 P),(187,aS7 P),(188,ao0 P),(189,aS8 P),(195,aS9 P),(196,ai0 P),(202,aT0 P),(203,ao1 P),(209,aT1 P),(210,ao2 P),(231,aT2 P),(232,ao3 P),(238,aT3 P),(239,au1 P),(241,⟨.type "dict",none,.dict ⟨[⟨aE P (aa "__module__"),.str (aa "__module__") 396,.str (aa "cpy313.difflib") 194⟩,⟨aE P (aa "__firstlineno__"),.str (aa "__firstlineno__") 400,.int 70 399⟩,⟨aE P (aa "__doc__"),.str (aa "__doc__") 402,.str D5 401⟩,⟨aE P (aa "__init__"),.str (aa "__init__") 417,.ref 160⟩,⟨aE P (aa "set_seqs"),.str (aa "set_seqs") 427,.ref 167⟩,⟨aE P (aa "set_seq1"),.str (aa "set_seq1") 436,.ref 174⟩,⟨aE P (aa "set_seq2"),.str (aa "set_seq2") 445,.ref 181⟩,⟨aE P (aa "_SequenceMatcher__chain_b"),.str (aa "_SequenceMatcher__chain_b") 463,.ref 188⟩,⟨aE P (aa "find_longest_match"),.str (aa "find_longest_match") 491,.ref 196⟩,⟨aE P (aa "get_matching_blocks"),.str (aa "get_matching_blocks") 518,.ref 203⟩,⟨aE P (aa "get_opcodes"),.str (aa "get_opcodes") 533,.ref 210⟩,⟨aE P (aa "get_grouped_opcodes"),.str (aa "get_grouped_opcodes") 542,.ref 218⟩,⟨aE P (aa "ratio"),.str (aa "ratio") 551,.ref 225⟩,⟨aE P (aa "quick_ratio"),.str (aa "quick_ratio") 565,.ref 232⟩,⟨aE P (aa "real_quick_ratio"),.str (aa "real_quick_ratio") 575,.ref 239⟩,⟨aE P (aa "__static_attributes__"),.str (aa "__static_attributes__") 586,.ref 240⟩,⟨aE P (aa "__dict__"),.str (aa "__dict__") 588,.ref 243⟩,⟨aE P (aa "__weakref__"),.str (aa "__weakref__") 590,.ref 244⟩]⟩ 3,⟨[]⟩⟩),(242,⟨.type "type",none,.cls ⟨aa "SequenceMatcher",[.type "object"],[.ref 242,.type "object"],241,aa "SequenceMatcher",true,[],[],false,none,false⟩,⟨[none,none,some (.str (aa "SequenceMatcher") 389),some (.str (aa "SequenceMatcher") 397),some (.builtin "object.__new__"),some (.bool true)]⟩⟩),(243,⟨.type "getset_descriptor",none,.fields ⟨[.str (aa "__dict__") 587,.ref 242,.builtin "function.__dict__",.builtin "function.__dict__#set"]⟩,⟨[]⟩⟩),(244,⟨.type "getset_descriptor",none,.fields ⟨[.str (aa "__weakref__") 589,.ref 242,.builtin "ExceptionGroup.__weakref__",.none]⟩,⟨[]⟩⟩),(261,aT4 P),(267,aT5 P),(268,ao4 P),(274,aT6 P),(275,ao5 P),(281,aT7 P),(282,ao6 P),(288,aT8 P),(289,ao7 P),(295,aT9 P),(296,ao8 P),(312,⟨.type "dict",none,.dict ⟨[⟨aE P (aa "__module__"),.str (aa "__module__") 609,.str (aa "cpy313.difflib") 194⟩,⟨aE P (aa "__firstlineno__"),.str (aa "__firstlineno__") 613,.int 491 612⟩,⟨aE P (aa "__doc__"),.str (aa "__doc__") 615,.str D7 614⟩,⟨aE P (aa "__init__"),.str (aa "__init__") 626,.ref 268⟩,⟨aE P (aa "compare"),.str (aa "compare") 643,.ref 275⟩,⟨aE P (aa "_dump"),.str (aa "_dump") 656,.ref 282⟩,⟨aE P (aa "_plain_replace"),.str (aa "_plain_replace") 672,.ref 289⟩,⟨aE P (aa "_fancy_replace"),.str (aa "_fancy_replace") 708,.ref 296⟩,⟨aE P (aa "_fancy_helper"),.str (aa "_fancy_helper") 722,.ref 303⟩,⟨aE P (aa "_qformat"),.str (aa "_qformat") 734,.ref 310⟩,⟨aE P (aa "__static_attributes__"),.str (aa "__static_attributes__") 737,.ref 311⟩,⟨aE P (aa "__dict__"),.str (aa "__dict__") 739,.ref 314⟩,⟨aE P (aa "__weakref__"),.str (aa "__weakref__") 741,.ref 315⟩]⟩ 3,⟨[]⟩⟩),(313,⟨.type "type",none,.cls ⟨aa "Differ",[.type "object"],[.ref 313,.type "object"],312,aa "Differ",true,[],[],false,none,false⟩,⟨[none,none,some (.str (aa "Differ") 602),some (.str (aa "Differ") 610),some (.builtin "object.__new__"),some (.bool true)]⟩⟩),(314,⟨.type "getset_descriptor",none,.fields ⟨[.str (aa "__dict__") 738,.ref 313,.builtin "function.__dict__",.builtin "function.__dict__#set"]⟩,⟨[]⟩⟩),(315,⟨.type "getset_descriptor",none,.fields ⟨[.str (aa "__weakref__") 740,.ref 313,.builtin "ExceptionGroup.__weakref__",.none]⟩,⟨[]⟩⟩),(321,qR P),(322,kR P),(328,qU P),(329,kT P),(331,qV P),(335,qW P),(336,nB P),(340,qX P),(341,kW P)]
noncomputable def asK:List Nat:=[2,3,4,81,82,88,89,90,91,134,135,136,144,145,153,159,160,166,167,173,174,180,181,187,188,189,195,196,202,203,209,210,231,232,238,239,241,242,243,244,261,267,268,274,275,281,282,288,289,295,296,312,313,314,315,321,322,328,329,331,335,336,340,341]
noncomputable def kS(P:NU):List (Option Obj):=((K P).map (·.2)).map some
noncomputable def q:Program:=view pP [0,2,3,4,5,6,7,9,10,11,12]
noncomputable def loose:List Str:=["_tuplegetter","Match","SequenceMatcher"]
noncomputable def eQ(p:Program)(w:NQ)(a:OsState):Option SharedT:=jI nf p w 11 (some (.ref 6)) 400 8 ⟨nh w.params,11,(boot_heap w.params).life,Array.mk [],boot_drawn,boot_toks,a⟩ (topStub p)
noncomputable def topA(p:Program)(w:NQ)(a:OsState):Option Bool:=(eQ p w a).map λs=>nk p w s.abs&&Nat.ble 406 s.toks
noncomputable def qY(p:Program)(s:NR):=openSeen (view p [0,2,3,4,5,6,7,9,10,11,12]) loose [] (λs=>xlAt (view p [0,2,3,4,5,6,7,9,10,11,12]) [] s&&recOk [] s) true s
noncomputable def topB(p:Program)(w:NQ)(a:OsState):=(eQ p w a).map λs=>qY p s.abs
noncomputable def goodB(p:Program):=openGood (view p [0,2,3,4,5,6,7,9,10,11,12]) loose
noncomputable def topC(p:Program)(w:NQ)(a:OsState):Option (List (Option Obj)):=(eQ p w a).map λs=>asK.map (jE s)
noncomputable abbrev NH(w:NQ)(a:OsState):=eQ pP w a
noncomputable abbrev q0(s:NR):=qY pP s
theorem twA:(λ_=>true) topA=true:=by k_qdec
theorem twB:(λ_=>true) topB=true:=by k_qdec
theorem twC:(λ_=>true) topC=true:=by k_qdec
theorem twG:(λ_=>true) goodB=true:=by k_qdec
theorem xt(w:NQ):topA pP w=λ_=>some true:=by rw[<-nr,PySem.W.Fast.te5067563107919825018];kernel_rfl
theorem xu(w:NQ):topB pP w=λ_=>some (goodB pP):=by rw[<-nr,PySem.W.Fast.te2543148203304448840,PySem.W.Fast.te4040843021490743674];kernel_rfl
theorem xw(w:NQ):topC pP w=λ_=>some (kS w.params):=by rw[<-nr,PySem.W.Fast.te17501544405551553966];kernel_rfl
theorem xx(P:NU):kS P=((K P).map (·.2)).map some:=rfl
theorem xy(w:NQ)(d:OsState):∃r,eQ pP w d=some r/\nk pP w r.abs=true/\q0 r.abs=goodB pP/\asK.map (jE r)=kS w.params/\Nat.ble 406 r.toks=true:=by have a:=congrFun (xt w) d;have b:=congrFun (xu w) d;have c:=congrFun (xw w) d;unfold topA at a;unfold topB at b;unfold topC at c;cases h:eQ pP w d with|none=>rw[h]at a;cases a|some r=>rw[h]at a b c;have a:=fF.mp (bV a);exact⟨r,rfl,a.1,bV b,bV c,a.2⟩
theorem q4:importedModules pP.main.body=[]:=by kernel_rfl
theorem xz(w:NQ):(fencedOpening fP pP w 6000).map (λs=>(s.heap,s.gens,s.drawn,s.toks))=some (boot_heap w.params,Array.mk [],boot_drawn,boot_toks):=boot_open (p:=pP) (N:=6000) (by kernel_rfl) (by rfl) λs=>by kernel_rfl w
theorem xA(w:NQ):((boot_heap w.params).isNs bw&&(Array.mk ([]:List GenState)).size==0)=true:=by kernel_rfl
theorem xB(w:NQ):(boot_heap w.params).objs.size=11:=by kernel_rfl
theorem xC(w:NQ):(boot_heap w.params).nsMap bw "__annotations__"=some (.ref 6):=by kernel_rfl
theorem xD(w:NQ)(a:OsState):(⟨nh w.params,11,(boot_heap w.params).life,Array.mk [],boot_drawn,boot_toks,a⟩:SharedT).abs=⟨boot_heap w.params,Array.mk [],boot_drawn,boot_toks,a⟩:=by unfold SharedT.abs;rw[xb]
noncomputable abbrev Hk:Hook:=kHook K asK λ_=>rfl
theorem xE(w:NQ)(e:OsState):∃r:SharedT,topFrom fP pP w 6000 ⟨boot_heap w.params,Array.mk [],boot_drawn,boot_toks,e⟩=some r.abs/\q0 r.abs=goodB pP/\(asK.map r.abs.heap.get?=(K w.params).map λp=>some p.2)/\Nat.ble 406 r.abs.toks=true:=by
 obtain⟨r,b,c,f,d,g⟩:=xy w e;unfold eQ at b;obtain⟨M,h,a⟩:=xm 8 _ _ _ b;have a:=xa _ _ _ _ a;have a:=topRun_mono (6000-M) _ _ _ _ a;rw[show M+(6000-M)=6000 from Nat.add_sub_cancel' (ad h (by decide)),<-w2,xD]at a;refine⟨r,?_,f,?_,g⟩;·unfold topFrom;dsimp only;rw[xA,xB,xC,a,q4];unfold nk at c;show(match staticsOk [] (boot_heap w.params) r.abs.heap&&namesBound pP r.abs.heap&&gensDone r.abs&&laidKept (boot_heap w.params) r.abs.heap with|true=>some r.abs|false=>none)=_;rw[c]
 ·rw[xx]at d;rw[xd d,cV];rfl
theorem left:LeftO pP q loose (λs=>xlAt q [] s&&recOk [] s) (λs=>(Hk.obs s,Nat.ble 406 s.toks)) (λw=>(Hk.val w,true)) 6000:=by
 intro w;obtain⟨⟨h,j,d,k,n⟩,e,b⟩:=bE.mp (xz w);dsimp only at b;obtain⟨c,f,g,i⟩:h=boot_heap w.params/\j=Array.mk []/\d=boot_drawn/\k=boot_toks:=by simpa only[Prod.mk.injEq]using b
 subst c f g i;obtain⟨r,t,a,l,m⟩:=xE w n;unfold openEnds;rw[e,q4,eD,t,gL];have a:openSeen q loose [] (λs=>xlAt q [] s&&recOk [] s) true r.abs=openGood q loose:=a;refine congrArg some ?_;rw[a];exact congrArg (Prod.mk _) (Prod.ext l m)
end Mine
set_option tactic.hygienic false
section
open PySem PySem.W PyProof.Rows PySem.W.X
namespace Mine.Internal
noncomputable def KK(P:NU):Frag:=(K P).filter λx=>x.1 !=331
noncomputable def KW(w:NQ):Frag:=KK w.params
abbrev VP:=NS->NR->Prop
end Mine.Internal
end
namespace Mine.Internal
variable{G:Prop}
theorem jJ(h:True:=by trivial):True:=trivial
theorem d7(h:P/\Q)(k:P->Q->G):G:=h.elim k
theorem b8{P:A->Prop}(h:∃x,P x)(k:∀x,P x->G):G:=h.elim k
theorem n8(h:P/\Q/\R)(k:P->Q->R->G):G:=d7 h.2 (k h.1)
theorem z9{P:A->B->Prop}(h:∃x y,P x y)(k:∀x y,P x y->G):G:=h.elim λx g=>b8 g (k x)
theorem m6(h:P/\Q/\R/\S)(k:P->Q->R->S->G):G:=n8 h.2 (k h.1)
theorem J0{P:A->B->C->Prop}(h:∃x y z,P x y z)(k:∀x y z,P x y z->G):G:=h.elim λx g=>z9 g (k x)
theorem L8(h:P/\Q/\R/\S/\T)(k:P->Q->R->S->T->G):G:=m6 h.2 (k h.1)
theorem T8{P:A->B->C->D->Prop}(h:∃x y z u,P x y z u)(k:∀x y z u,P x y z u->G):G:=h.elim λx g=>J0 g (k x)
theorem T9(h:P/\Q/\R/\S/\T/\U)(k:P->Q->R->S->T->U->G):G:=L8 h.2 (k h.1)
theorem eZ{P:A->B->C->D->H->Prop}(h:∃x y z u v,P x y z u v)(k:∀x y z u v,P x y z u v->G):G:=h.elim λx g=>T8 g (k x)
theorem fe(h:P/\Q/\R/\S/\T/\U/\V)(k:P->Q->R->S->T->U->V->G):G:=T9 h.2 (k h.1)
theorem kX{P:A->B->C->D->H->I->Prop}(h:∃x y z u v w,P x y z u v w)(k:∀x y z u v w,P x y z u v w->G):G:=h.elim λx g=>eZ g (k x)
theorem xF(h:P/\Q/\R/\S/\T/\U/\V/\W)(k:P->Q->R->S->T->U->V->W->G):G:=fe h.2 (k h.1)
theorem P8{P:A->B->C->D->H->I->J->Prop}(h:∃x y z u v w a,P x y z u v w a)(k:∀x y z u v w a,P x y z u v w a->G):G:=h.elim λx g=>kX g (k x)
theorem xG(h:P/\Q/\R/\S/\T/\U/\V/\W/\X)(k:P->Q->R->S->T->U->V->W->X->G):G:=xF h.2 (k h.1)
theorem xH{K:Sort _}{P:A->B->C->D->H->I->J->K->Prop}(h:∃x y z u v w a b,P x y z u v w a b)(k:∀x y z u v w a b,P x y z u v w a b->G):G:=h.elim λx g=>P8 g (k x)
theorem xI(h:P/\Q/\R/\S/\T/\U/\V/\W/\X/\Y)(k:P->Q->R->S->T->U->V->W->X->Y->G):G:=xG h.2 (k h.1)
theorem xJ{K:Sort _}{P:A->B->C->D->H->I->J->K->L->Prop}(h:∃x y z u v w a b c,P x y z u v w a b c)(k:∀x y z u v w a b c,P x y z u v w a b c->G):G:=h.elim λx g=>xH g (k x)
theorem xK(h:P/\Q/\R/\S/\T/\U/\V/\W/\X/\Y/\Z)(k:P->Q->R->S->T->U->V->W->X->Y->Z->G):G:=xI h.2 (k h.1)
theorem xL{K:Sort _}{P:A->B->C->D->H->I->J->K->L->M->Prop}(h:∃x y z u v w a b c d,P x y z u v w a b c d)(k:∀x y z u v w a b c d,P x y z u v w a b c d->G):G:=h.elim λx g=>xJ g (k x)
theorem xM(h:P/\Q/\R/\S/\T/\U/\V/\W/\X/\Y/\Z/\p)(k:P->Q->R->S->T->U->V->W->X->Y->Z->p->G):G:=xK h.2 (k h.1)
theorem xN{K:Sort _}{P:A->B->C->D->H->I->J->K->L->M->N->Prop}(h:∃x y z u v w a b c d e,P x y z u v w a b c d e)(k:∀x y z u v w a b c d e,P x y z u v w a b c d e->G):G:=h.elim λx g=>xL g (k x)
theorem xO{P Q R S T U V W X Y Z p q:Prop}(h:P/\Q/\R/\S/\T/\U/\V/\W/\X/\Y/\Z/\p/\q)(k:P->Q->R->S->T->U->V->W->X->Y->Z->p->q->G):G:=xM h.2 (k h.1)
theorem kY{K:Sort _}{P:A->B->C->D->H->I->J->K->L->M->N->O->Prop}(h:∃x y z u v w a b c d e f,P x y z u v w a b c d e f)(k:∀x y z u v w a b c d e f,P x y z u v w a b c d e f->G):G:=h.elim λx g=>xN g (k x)
theorem a9{P Q:A->Prop}(h:∃x,P x/\Q x)(k:∀x,P x->Q x->G):G:=b8 h λx a=>d7 a (k x)
theorem U0{Q R:A->Prop}(h:P/\∃x,Q x/\R x)(k:P->∀x,Q x->R x->G):G:=d7 h λc b=>b8 b λx a=>d7 a (k c x)
theorem m9{P Q R:A->Prop}(h:∃x,P x/\Q x/\R x)(k:∀x,P x->Q x->R x->G):G:=b8 h λx a=>n8 a (k x)
theorem t8{P Q:A->B->Prop}(h:∃x y,P x y/\Q x y)(k:∀x y,P x y->Q x y->G):G:=z9 h λx y a=>d7 a (k x y)
theorem w6{R S:A->Prop}(h:P/\Q/\∃x,R x/\S x)(k:P->Q->∀x,R x->S x->G):G:=n8 h λc d b=>b8 b λx a=>d7 a (k c d x)
theorem Z0{P Q R S:A->Prop}(h:∃x,P x/\Q x/\R x/\S x)(k:∀x,P x->Q x->R x->S x->G):G:=b8 h λx a=>m6 a (k x)
theorem F5{P Q:A->Prop}{R:A->B->Prop}(h:∃x,P x/\Q x/\∃y,R x y)(k:∀x,P x->Q x->∀y,R x y->G):G:=b8 h λx b=>n8 b λc d a=>b8 a (k x c d)
theorem i8{P Q R:A->B->Prop}(h:∃x y,P x y/\Q x y/\R x y)(k:∀x y,P x y->Q x y->R x y->G):G:=z9 h λx y a=>n8 a (k x y)
theorem E5{P Q:A->B->C->Prop}(h:∃x y z,P x y z/\Q x y z)(k:∀x y z,P x y z->Q x y z->G):G:=J0 h λx y z a=>d7 a (k x y z)
theorem Z5{S T:A->Prop}(h:P/\Q/\R/\∃x,S x/\T x)(k:P->Q->R->∀x,S x->T x->G):G:=m6 h λc d e b=>b8 b λx a=>d7 a (k c d e x)
theorem ff{R S T:A->Prop}(h:P/\Q/\∃x,R x/\S x/\T x)(k:P->Q->∀x,R x->S x->T x->G):G:=n8 h λc d b=>b8 b λx a=>n8 a (k c d x)
theorem fg{Q R S:A->B->Prop}(h:P/\∃x y,Q x y/\R x y/\S x y)(k:P->∀x y,Q x y->R x y->S x y->G):G:=d7 h λc b=>z9 b λx y a=>n8 a (k c x y)
theorem ai1{P Q R S T:A->Prop}(h:∃x,P x/\Q x/\R x/\S x/\T x)(k:∀x,P x->Q x->R x->S x->T x->G):G:=b8 h λx a=>L8 a (k x)
theorem xP{P Q R S T U:A->Prop}(h:∃x,P x/\Q x/\R x/\S x/\T x/\U x)(k:∀x,P x->Q x->R x->S x->T x->U x->G):G:=b8 h λx g=>T9 g (k x)
theorem xQ{P:A->Prop}{Q R S:A->B->Prop}(h:∃x,P x/\∃y,Q x y/\R x y/\S x y)(k:∀x,P x->∀y,Q x y->R x y->S x y->G):G:=b8 h λx c=>d7 c λd b=>b8 b λy a=>n8 a (k x d y)
theorem ai2{P Q R S:A->B->Prop}(h:∃x y,P x y/\Q x y/\R x y/\S x y)(k:∀x y,P x y->Q x y->R x y->S x y->G):G:=z9 h λx y a=>m6 a (k x y)
theorem F6{P Q R:A->B->C->Prop}(h:∃x y z,P x y z/\Q x y z/\R x y z)(k:∀x y z,P x y z->Q x y z->R x y z->G):G:=J0 h λx y z a=>n8 a (k x y z)
theorem nC{P Q:A->B->C->D->Prop}(h:∃x y z u,P x y z u/\Q x y z u)(k:∀x y z u,P x y z u->Q x y z u->G):G:=T8 h λx y z u a=>d7 a (k x y z u)
theorem xR{P Q R S T:A->B->Prop}(h:∃x y,P x y/\Q x y/\R x y/\S x y/\T x y)(k:∀x y,P x y->Q x y->R x y->S x y->T x y->G):G:=z9 h λx y a=>L8 a (k x y)
theorem P9{P Q R S:A->B->C->Prop}(h:∃x y z,P x y z/\Q x y z/\R x y z/\S x y z)(k:∀x y z,P x y z->Q x y z->R x y z->S x y z->G):G:=J0 h λx y z a=>m6 a (k x y z)
theorem xS{P Q:A->B->C->D->H->Prop}(h:∃x y z u v,P x y z u v/\Q x y z u v)(k:∀x y z u v,P x y z u v->Q x y z u v->G):G:=eZ h λx y z u v a=>d7 a (k x y z u v)
theorem nD{S T U:A->B->Prop}(h:P/\Q/\R/\∃x y,S x y/\T x y/\U x y)(k:P->Q->R->∀x y,S x y->T x y->U x y->G):G:=m6 h λc d e b=>z9 b λx y a=>n8 a (k c d e x y)
theorem nF{P Q R S T U:A->B->Prop}(h:∃x y,P x y/\Q x y/\R x y/\S x y/\T x y/\U x y)(k:∀x y,P x y->Q x y->R x y->S x y->T x y->U x y->G):G:=z9 h λx y a=>T9 a (k x y)
theorem kZ{P Q R S:A->B->C->D->Prop}(h:∃x y z u,P x y z u/\Q x y z u/\R x y z u/\S x y z u)(k:∀x y z u,P x y z u->Q x y z u->R x y z u->S x y z u->G):G:=T8 h λx y z u a=>m6 a (k x y z u)
theorem xT{P Q R:A->B->C->D->H->Prop}(h:∃x y z u v,P x y z u v/\Q x y z u v/\R x y z u v)(k:∀x y z u v,P x y z u v->Q x y z u v->R x y z u v->G):G:=eZ h λx y z u v a=>n8 a (k x y z u v)
theorem jK{Q R S T U V:A->B->Prop}(h:P/\∃x y,Q x y/\R x y/\S x y/\T x y/\U x y/\V x y)(k:P->∀x y,Q x y->R x y->S x y->T x y->U x y->V x y->G):G:=d7 h λc b=>z9 b λx y a=>T9 a (k c x y)
theorem nG{P Q:A->B->Prop}{R S T U:A->B->C->Prop}(h:∃x y,P x y/\Q x y/\∃z,R x y z/\S x y z/\T x y z/\U x y z)(k:∀x y,P x y->Q x y->∀z,R x y z->S x y z->T x y z->U x y z->G):G:=z9 h λx y c=>n8 c λd e b=>b8 b λz a=>m6 a (k x y d e z)
theorem xU{P Q R S T U:A->B->C->Prop}(h:∃x y z,P x y z/\Q x y z/\R x y z/\S x y z/\T x y z/\U x y z)(k:∀x y z,P x y z->Q x y z->R x y z->S x y z->T x y z->U x y z->G):G:=J0 h λx y z a=>T9 a (k x y z)
theorem iE{P Q:A->B->C->D->H->I->J->Prop}(h:∃x y z u v w a,P x y z u v w a/\Q x y z u v w a)(k:∀x y z u v w a,P x y z u v w a->Q x y z u v w a->G):G:=P8 h λx y z u v w a b=>d7 b (k x y z u v w a)
theorem xV{P Q:A->Prop}{R S T U V W:A->B->Prop}(h:∃x,P x/\Q x/\∃y,R x y/\S x y/\T x y/\U x y/\V x y/\W x y)(k:∀x,P x->Q x->∀y,R x y->S x y->T x y->U x y->V x y->W x y->G):G:=b8 h λx a=>n8 a λd e c=>b8 c λy b=>T9 b (k x d e y)
theorem nH{P Q R S T U V:A->B->C->Prop}(h:∃x y z,P x y z/\Q x y z/\R x y z/\S x y z/\T x y z/\U x y z/\V x y z)(k:∀x y z,P x y z->Q x y z->R x y z->S x y z->T x y z->U x y z->V x y z->G):G:=J0 h λx y z a=>fe a (k x y z)
theorem xW{P Q:A->B->C->Prop}{R S T U:A->B->C->D->Prop}(h:∃x y z,P x y z/\Q x y z/\∃u,R x y z u/\S x y z u/\T x y z u/\U x y z u)(k:∀x y z,P x y z->Q x y z->∀u,R x y z u->S x y z u->T x y z u->U x y z u->G):G:=J0 h λx y z a=>n8 a λd e c=>b8 c λu b=>m6 b (k x y z d e u)
theorem xX{P Q R S T U:A->B->C->D->Prop}(h:∃x y z u,P x y z u/\Q x y z u/\R x y z u/\S x y z u/\T x y z u/\U x y z u)(k:∀x y z u,P x y z u->Q x y z u->R x y z u->S x y z u->T x y z u->U x y z u->G):G:=T8 h λx y z u a=>T9 a (k x y z u)
theorem q5{P Q R S T:A->B->C->D->H->Prop}(h:∃x y z u v,P x y z u v/\Q x y z u v/\R x y z u v/\S x y z u v/\T x y z u v)(k:∀x y z u v,P x y z u v->Q x y z u v->R x y z u v->S x y z u v->T x y z u v->G):G:=eZ h λx y z u v a=>L8 a (k x y z u v)
theorem nI{Q:A->Prop}{R S T U V W:A->B->C->Prop}(h:P/\∃x,Q x/\∃y z,R x y z/\S x y z/\T x y z/\U x y z/\V x y z/\W x y z)(k:P->∀x,Q x->∀y z,R x y z->S x y z->T x y z->U x y z->V x y z->W x y z->G):G:=d7 h λe b=>b8 b λx a=>d7 a λf d=>z9 d λy z c=>T9 c (k e x f y z)
theorem iF{P Q R S T U V:A->B->C->D->Prop}(h:∃x y z u,P x y z u/\Q x y z u/\R x y z u/\S x y z u/\T x y z u/\U x y z u/\V x y z u)(k:∀x y z u,P x y z u->Q x y z u->R x y z u->S x y z u->T x y z u->U x y z u->V x y z u->G):G:=T8 h λx y z u a=>fe a (k x y z u)
theorem iG{P Q R S:A->B->C->D->H->I->J->Prop}(h:∃x y z u v w a,P x y z u v w a/\Q x y z u v w a/\R x y z u v w a/\S x y z u v w a)(k:∀x y z u v w a,P x y z u v w a->Q x y z u v w a->R x y z u v w a->S x y z u v w a->G):G:=P8 h λx y z u v w a b=>m6 b (k x y z u v w a)
theorem xY{P Q R S T:A->B->C->D->H->I->J->Prop}(h:∃x y z u v w a,P x y z u v w a/\Q x y z u v w a/\R x y z u v w a/\S x y z u v w a/\T x y z u v w a)(k:∀x y z u v w a,P x y z u v w a->Q x y z u v w a->R x y z u v w a->S x y z u v w a->T x y z u v w a->G):G:=P8 h λx y z u v w a b=>L8 b (k x y z u v w a)
theorem u6(k:P->Q->G)(h:P/\Q):G:=h.elim k
theorem U1{P:A->Prop}(k:∀x,P x->G)(h:∃x,P x):G:=h.elim k
theorem H8(k:P->Q->R->G)(h:P/\Q/\R):G:=u6 (k h.1) h.2
theorem lc{P:A->B->Prop}(k:∀x y,P x y->G)(h:∃x y,P x y):G:=h.elim λx g=>U1 (k x) g
theorem jL(k:P->Q->R->S->G)(h:P/\Q/\R/\S):G:=H8 (k h.1) h.2
theorem nJ{P:A->B->C->Prop}(k:∀x y z,P x y z->G)(h:∃x y z,P x y z):G:=h.elim λx g=>lc (k x) g
theorem xZ(k:P->Q->R->S->T->G)(h:P/\Q/\R/\S/\T):G:=jL (k h.1) h.2
theorem lg{P:A->B->C->D->Prop}(k:∀x y z u,P x y z u->G)(h:∃x y z u,P x y z u):G:=h.elim λx g=>nJ (k x) g
theorem x2(k:P->Q->R->S->T->U->G)(h:P/\Q/\R/\S/\T/\U):G:=xZ (k h.1) h.2
theorem x3{P:A->B->C->D->H->Prop}(k:∀x y z u v,P x y z u v->G)(h:∃x y z u v,P x y z u v):G:=h.elim λx g=>lg (k x) g
theorem rg(k:P->Q->R->S->T->U->V->G)(h:P/\Q/\R/\S/\T/\U/\V):G:=x2 (k h.1) h.2
theorem ya{P:A->B->C->D->H->I->Prop}(k:∀x y z u v w,P x y z u v w->G)(h:∃x y z u v w,P x y z u v w):G:=h.elim λx g=>x3 (k x) g
theorem yb(k:P->Q->R->S->T->U->V->W->G)(h:P/\Q/\R/\S/\T/\U/\V/\W):G:=rg (k h.1) h.2
theorem yc(k:P->Q->R->S->T->U->V->W->X->G)(h:P/\Q/\R/\S/\T/\U/\V/\W/\X):G:=yb (k h.1) h.2
theorem yd(k:P->Q->R->S->T->U->V->W->X->Y->G)(h:P/\Q/\R/\S/\T/\U/\V/\W/\X/\Y):G:=yc (k h.1) h.2
theorem A8{P Q:A->Prop}(k:∀x,P x->Q x->G)(h:∃x,P x/\Q x):G:=U1 (λx a=>u6 (k x) a) h
theorem rh{P Q R:A->Prop}(k:∀x,P x->Q x->R x->G)(h:∃x,P x/\Q x/\R x):G:=U1 (λx a=>H8 (k x) a) h
theorem fu{P Q:A->B->Prop}(k:∀x y,P x y->Q x y->G)(h:∃x y,P x y/\Q x y):G:=lc (λx y a=>u6 (k x y) a) h
theorem ri{Q R S:A->Prop}(k:P->∀x,Q x->R x->S x->G)(h:P/\∃x,Q x/\R x/\S x):G:=u6 (λc b=>U1 (λx a=>H8 (k c x) a) b) h
theorem nK{P Q R S:A->Prop}(k:∀x,P x->Q x->R x->S x->G)(h:∃x,P x/\Q x/\R x/\S x):G:=U1 (λx a=>jL (k x) a) h
theorem ye{P:A->Prop}{Q R:A->B->Prop}(k:∀x,P x->∀y,Q x y->R x y->G)(h:∃x,P x/\∃y,Q x y/\R x y):G:=U1 (λx c=>u6 (λd b=>U1 (λy a=>u6 (k x d y) a) b) c) h
theorem yg{P:A->Prop}{Q R S:A->B->Prop}(k:∀x,P x->∀y,Q x y->R x y->S x y->G)(h:∃x,P x/\∃y,Q x y/\R x y/\S x y):G:=U1 (λx c=>u6 (λd b=>U1 (λy a=>H8 (k x d y) a) b) c) h
theorem yh{P Q R:A->B->C->Prop}(k:∀x y z,P x y z->Q x y z->R x y z->G)(h:∃x y z,P x y z/\Q x y z/\R x y z):G:=nJ (λx y z a=>H8 (k x y z) a) h
theorem yi{P Q:A->B->C->D->Prop}(k:∀x y z u,P x y z u->Q x y z u->G)(h:∃x y z u,P x y z u/\Q x y z u):G:=lg (λx y z u a=>u6 (k x y z u) a) h
theorem rj{P Q R S:A->B->C->Prop}(k:∀x y z,P x y z->Q x y z->R x y z->S x y z->G)(h:∃x y z,P x y z/\Q x y z/\R x y z/\S x y z):G:=nJ (λx y z a=>jL (k x y z) a) h
theorem yj{P:A->B->Prop}{Q R S T:A->B->C->Prop}(k:∀x y,P x y->∀z,Q x y z->R x y z->S x y z->T x y z->G)(h:∃x y,P x y/\∃z,Q x y z/\R x y z/\S x y z/\T x y z):G:=lc (λx y c=>u6 (λd b=>U1 (λz a=>jL (k x y d z) a) b) c) h
theorem iH{P Q R S:A->B->C->D->Prop}(k:∀x y z u,P x y z u->Q x y z u->R x y z u->S x y z u->G)(h:∃x y z u,P x y z u/\Q x y z u/\R x y z u/\S x y z u):G:=lg (λx y z u a=>jL (k x y z u) a) h
theorem rk{P Q R S T U V:A->B->C->D->Prop}(k:∀x y z u,P x y z u->Q x y z u->R x y z u->S x y z u->T x y z u->U x y z u->V x y z u->G)(h:∃x y z u,P x y z u/\Q x y z u/\R x y z u/\S x y z u/\T x y z u/\U x y z u/\V x y z u):G:=lg (λx y z u a=>rg (k x y z u) a) h
theorem yk{P Q R S T U V W X Y:A->B->C->D->H->I->Prop}(k:∀x y z u v w,P x y z u v w->Q x y z u v w->R x y z u v w->S x y z u v w->T x y z u v w->U x y z u v w->V x y z u v w->W x y z u v w->X x y z u v w->Y x y z u v w->G)(h:∃x y z u v w,P x y z u v w/\Q x y z u v w/\R x y z u v w/\S x y z u v w/\T x y z u v w/\U x y z u v w/\V x y z u v w/\W x y z u v w/\X x y z u v w/\Y x y z u v w):G:=ya (λx y z u v w a=>yd (k x y z u v w) a) h
theorem x8(a:P)(b:Q):P/\Q:=⟨a,b⟩
theorem x4{P:A->Prop}(x:A)(a:P x):∃x,P x:=⟨x,a⟩
theorem i9(a:P)(b:Q)(c:R):P/\Q/\R:=⟨a,x8 b c⟩
theorem u8{P:A->B->Prop}(x:A)(y:B)(a:P x y):∃x y,P x y:=⟨x,x4 y a⟩
theorem j8(a:P)(b:Q)(c:R)(d:S):P/\Q/\R/\S:=⟨a,i9 b c d⟩
theorem M0{P:A->B->C->Prop}(x:A)(y:B)(z:C)(a:P x y z):∃x y z,P x y z:=⟨x,u8 y z a⟩
theorem Q0(a:P)(b:Q)(c:R)(d:S)(e:T):P/\Q/\R/\S/\T:=⟨a,j8 b c d e⟩
theorem fx{P:A->B->C->D->Prop}(x:A)(y:B)(z:C)(u:D)(a:P x y z u):∃x y z u,P x y z u:=⟨x,M0 y z u a⟩
theorem V7(a:P)(b:Q)(c:R)(d:S)(e:T)(f:U):P/\Q/\R/\S/\T/\U:=⟨a,Q0 b c d e f⟩
theorem nL{P:A->B->C->D->H->Prop}(x:A)(y:B)(z:C)(u:D)(v:H)(a:P x y z u v):∃x y z u v,P x y z u v:=⟨x,fx y z u v a⟩
theorem Q1(a:P)(b:Q)(c:R)(d:S)(e:T)(f:U)(g:V):P/\Q/\R/\S/\T/\U/\V:=⟨a,V7 b c d e f g⟩
theorem lh{P:A->B->C->D->H->I->Prop}(x:A)(y:B)(z:C)(u:D)(v:H)(w:I)(a:P x y z u v w):∃x y z u v w,P x y z u v w:=⟨x,nL y z u v w a⟩
theorem rl(a:P)(b:Q)(c:R)(d:S)(e:T)(f:U)(g:V)(h:W):P/\Q/\R/\S/\T/\U/\V/\W:=⟨a,Q1 b c d e f g h⟩
theorem yl{P:A->B->C->D->H->I->J->Prop}(x:A)(y:B)(z:C)(u:D)(v:H)(w:I)(a:J)(b:P x y z u v w a):∃x y z u v w a,P x y z u v w a:=⟨x,lh y z u v w a b⟩
theorem ym(a:P)(b:Q)(c:R)(d:S)(e:T)(f:U)(g:V)(h:W)(i:X):P/\Q/\R/\S/\T/\U/\V/\W/\X:=⟨a,rl b c d e f g h i⟩
theorem rm(b:P)(c:Q)(d:R)(e:S)(f:T)(g:U)(h:V)(i:W)(j:X)(a:Y):P/\Q/\R/\S/\T/\U/\V/\W/\X/\Y:=⟨b,ym c d e f g h i j a⟩
theorem fI{Q:A->Prop}(a:P)(x:A)(b:Q x):P/\∃x,Q x:=x8 a (x4 x b)
theorem b7{P Q:A->Prop}(x:A)(a:P x)(b:Q x):∃x,P x/\Q x:=x4 x (x8 a b)
theorem V8{R:A->Prop}(a:P)(b:Q)(x:A)(c:R x):P/\Q/\∃x,R x:=i9 a b (x4 x c)
theorem rn{Q R:A->Prop}(a:P)(x:A)(b:Q x)(c:R x):P/\∃x,Q x/\R x:=x8 a (x4 x (x8 b c))
theorem j5{P Q R:A->Prop}(x:A)(a:P x)(b:Q x)(c:R x):∃x,P x/\Q x/\R x:=x4 x (i9 a b c)
theorem G7{P Q:A->B->Prop}(x:A)(y:B)(a:P x y)(b:Q x y):∃x y,P x y/\Q x y:=u8 x y (x8 a b)
theorem fY{R S:A->Prop}(a:P)(b:Q)(x:A)(c:R x)(d:S x):P/\Q/\∃x,R x/\S x:=i9 a b (x4 x (x8 c d))
theorem ge{Q R S:A->Prop}(a:P)(x:A)(b:Q x)(c:R x)(d:S x):P/\∃x,Q x/\R x/\S x:=x8 a (x4 x (i9 b c d))
theorem N1{P Q R S:A->Prop}(x:A)(a:P x)(b:Q x)(c:R x)(d:S x):∃x,P x/\Q x/\R x/\S x:=x4 x (j8 a b c d)
theorem Z6{P Q:A->Prop}{R:A->B->Prop}(x:A)(a:P x)(b:Q x)(y:B)(c:R x y):∃x,P x/\Q x/\∃y,R x y:=x4 x (i9 a b (x4 y c))
theorem yq{P:A->Prop}{Q:A->B->C->Prop}(x:A)(a:P x)(y:B)(z:C)(b:Q x y z):∃x,P x/\∃y z,Q x y z:=x4 x (x8 a (u8 y z b))
theorem A9{P Q R:A->B->Prop}(x:A)(y:B)(a:P x y)(b:Q x y)(c:R x y):∃x y,P x y/\Q x y/\R x y:=u8 x y (i9 a b c)
theorem gi{P Q:A->B->C->Prop}(x:A)(y:B)(z:C)(a:P x y z)(b:Q x y z):∃x y z,P x y z/\Q x y z:=M0 x y z (x8 a b)
theorem Z7{S T:A->Prop}(a:P)(b:Q)(c:R)(x:A)(d:S x)(e:T x):P/\Q/\R/\∃x,S x/\T x:=j8 a b c (x4 x (x8 d e))
theorem rr{Q R S:A->B->Prop}(a:P)(x:A)(y:B)(b:Q x y)(c:R x y)(d:S x y):P/\∃x y,Q x y/\R x y/\S x y:=x8 a (u8 x y (i9 b c d))
theorem lj{P Q R S T:A->Prop}(x:A)(a:P x)(b:Q x)(c:R x)(d:S x)(e:T x):∃x,P x/\Q x/\R x/\S x/\T x:=x4 x (Q0 a b c d e)
theorem V9{P Q R S:A->B->Prop}(x:A)(y:B)(a:P x y)(b:Q x y)(c:R x y)(d:S x y):∃x y,P x y/\Q x y/\R x y/\S x y:=u8 x y (j8 a b c d)
theorem Q2{P Q R:A->B->C->Prop}(x:A)(y:B)(z:C)(a:P x y z)(b:Q x y z)(c:R x y z):∃x y z,P x y z/\Q x y z/\R x y z:=M0 x y z (i9 a b c)
theorem ll{P Q:A->B->C->D->Prop}(x:A)(y:B)(z:C)(u:D)(a:P x y z u)(b:Q x y z u):∃x y z u,P x y z u/\Q x y z u:=fx x y z u (x8 a b)
theorem yr{P Q R S T U:A->Prop}(x:A)(a:P x)(b:Q x)(c:R x)(d:S x)(e:T x)(f:U x):∃x,P x/\Q x/\R x/\S x/\T x/\U x:=x4 x (V7 a b c d e f)
theorem rs{P Q:A->Prop}{R S T:A->B->Prop}(x:A)(a:P x)(b:Q x)(y:B)(c:R x y)(d:S x y)(e:T x y):∃x,P x/\Q x/\∃y,R x y/\S x y/\T x y:=x4 x (i9 a b (x4 y (i9 c d e)))
theorem rx{P:A->Prop}{Q R S:A->B->C->Prop}(x:A)(a:P x)(y:B)(z:C)(b:Q x y z)(c:R x y z)(d:S x y z):∃x,P x/\∃y z,Q x y z/\R x y z/\S x y z:=x4 x (x8 a (u8 y z (i9 b c d)))
theorem yt{P:A->Prop}{Q R:A->B->C->D->Prop}(x:A)(a:P x)(y:B)(z:C)(u:D)(b:Q x y z u)(c:R x y z u):∃x,P x/\∃y z u,Q x y z u/\R x y z u:=x4 x (x8 a (M0 y z u (x8 b c)))
theorem nM{P Q R S T:A->B->Prop}(x:A)(y:B)(a:P x y)(b:Q x y)(c:R x y)(d:S x y)(e:T x y):∃x y,P x y/\Q x y/\R x y/\S x y/\T x y:=u8 x y (Q0 a b c d e)
theorem N3{P Q R S:A->B->C->Prop}(x:A)(y:B)(z:C)(a:P x y z)(b:Q x y z)(c:R x y z)(d:S x y z):∃x y z,P x y z/\Q x y z/\R x y z/\S x y z:=M0 x y z (j8 a b c d)
theorem rz{S T U:A->B->Prop}(a:P)(b:Q)(c:R)(x:A)(y:B)(d:S x y)(e:T x y)(f:U x y):P/\Q/\R/\∃x y,S x y/\T x y/\U x y:=j8 a b c (u8 x y (i9 d e f))
theorem yu{Q R:A->B->Prop}{S:A->B->C->D->Prop}(a:P)(x:A)(y:B)(b:Q x y)(c:R x y)(z:C)(u:D)(d:S x y z u):P/\∃x y,Q x y/\R x y/\∃z u,S x y z u:=x8 a (u8 x y (i9 b c (u8 z u d)))
theorem rA{P:A->Prop}{Q R S:A->B->C->D->Prop}(x:A)(a:P x)(y:B)(z:C)(u:D)(b:Q x y z u)(c:R x y z u)(d:S x y z u):∃x,P x/\∃y z u,Q x y z u/\R x y z u/\S x y z u:=x4 x (x8 a (M0 y z u (i9 b c d)))
theorem nN{P Q R S T U:A->B->Prop}(x:A)(y:B)(a:P x y)(b:Q x y)(c:R x y)(d:S x y)(e:T x y)(f:U x y):∃x y,P x y/\Q x y/\R x y/\S x y/\T x y/\U x y:=u8 x y (V7 a b c d e f)
theorem Q3{P:A->B->Prop}{Q R S T:A->B->C->Prop}(x:A)(y:B)(a:P x y)(z:C)(b:Q x y z)(c:R x y z)(d:S x y z)(e:T x y z):∃x y,P x y/\∃z,Q x y z/\R x y z/\S x y z/\T x y z:=u8 x y (x8 a (x4 z (j8 b c d e)))
theorem Z8{P Q R S:A->B->C->D->Prop}(x:A)(y:B)(z:C)(u:D)(a:P x y z u)(b:Q x y z u)(c:R x y z u)(d:S x y z u):∃x y z u,P x y z u/\Q x y z u/\R x y z u/\S x y z u:=fx x y z u (j8 a b c d)
theorem rB{Q R S T U V:A->B->Prop}(a:P)(x:A)(y:B)(b:Q x y)(c:R x y)(d:S x y)(e:T x y)(f:U x y)(g:V x y):P/\∃x y,Q x y/\R x y/\S x y/\T x y/\U x y/\V x y:=x8 a (u8 x y (V7 b c d e f g))
theorem yw{P Q:A->Prop}{R S T U V:A->B->Prop}(x:A)(a:P x)(b:Q x)(y:B)(c:R x y)(d:S x y)(e:T x y)(f:U x y)(g:V x y):∃x,P x/\Q x/\∃y,R x y/\S x y/\T x y/\U x y/\V x y:=x4 x (i9 a b (x4 y (Q0 c d e f g)))
theorem yx{P Q:A->B->Prop}{R S T U:A->B->C->Prop}(x:A)(y:B)(a:P x y)(b:Q x y)(z:C)(c:R x y z)(d:S x y z)(e:T x y z)(f:U x y z):∃x y,P x y/\Q x y/\∃z,R x y z/\S x y z/\T x y z/\U x y z:=u8 x y (i9 a b (x4 z (j8 c d e f)))
theorem yz{P Q R S T U:A->B->C->Prop}(x:A)(y:B)(z:C)(a:P x y z)(b:Q x y z)(c:R x y z)(d:S x y z)(e:T x y z)(f:U x y z):∃x y z,P x y z/\Q x y z/\R x y z/\S x y z/\T x y z/\U x y z:=M0 x y z (V7 a b c d e f)
theorem yA{P Q R S T U V:A->B->C->Prop}(x:A)(y:B)(z:C)(a:P x y z)(b:Q x y z)(c:R x y z)(d:S x y z)(e:T x y z)(f:U x y z)(g:V x y z):∃x y z,P x y z/\Q x y z/\R x y z/\S x y z/\T x y z/\U x y z/\V x y z:=M0 x y z (Q1 a b c d e f g)
theorem rC{P Q R S T:A->B->C->D->H->Prop}(x:A)(y:B)(z:C)(u:D)(v:H)(a:P x y z u v)(b:Q x y z u v)(c:R x y z u v)(d:S x y z u v)(e:T x y z u v):∃x y z u v,P x y z u v/\Q x y z u v/\R x y z u v/\S x y z u v/\T x y z u v:=nL x y z u v (Q0 a b c d e)
theorem lm{Q:A->Prop}{R S T U V W:A->B->C->Prop}(a:P)(x:A)(b:Q x)(y:B)(z:C)(c:R x y z)(d:S x y z)(e:T x y z)(f:U x y z)(g:V x y z)(h:W x y z):P/\∃x,Q x/\∃y z,R x y z/\S x y z/\T x y z/\U x y z/\V x y z/\W x y z:=x8 a (x4 x (x8 b (u8 y z (V7 c d e f g h))))
theorem Z9{P Q R S T U V:A->B->C->D->Prop}(x:A)(y:B)(z:C)(u:D)(a:P x y z u)(b:Q x y z u)(c:R x y z u)(d:S x y z u)(e:T x y z u)(f:U x y z u)(g:V x y z u):∃x y z u,P x y z u/\Q x y z u/\R x y z u/\S x y z u/\T x y z u/\U x y z u/\V x y z u:=fx x y z u (Q1 a b c d e f g)
theorem yB{P:A->B->Prop}{Q R S T U V:A->B->C->D->H->Prop}(x:A)(y:B)(a:P x y)(z:C)(u:D)(v:H)(b:Q x y z u v)(c:R x y z u v)(d:S x y z u v)(e:T x y z u v)(f:U x y z u v)(g:V x y z u v):∃x y,P x y/\∃z u v,Q x y z u v/\R x y z u v/\S x y z u v/\T x y z u v/\U x y z u v/\V x y z u v:=u8 x y (x8 a (M0 z u v (V7 b c d e f g)))
theorem bD0{P Q R S T U V W:A->B->C->D->Prop}(x:A)(y:B)(z:C)(u:D)(a:P x y z u)(b:Q x y z u)(c:R x y z u)(d:S x y z u)(e:T x y z u)(f:U x y z u)(g:V x y z u)(h:W x y z u):∃x y z u,P x y z u/\Q x y z u/\R x y z u/\S x y z u/\T x y z u/\U x y z u/\V x y z u/\W x y z u:=fx x y z u (rl a b c d e f g h)
theorem rE{P:A->Prop}{Q R S T U V W:A->B->C->D->H->Prop}(x:A)(a:P x)(y:B)(z:C)(u:D)(v:H)(b:Q x y z u v)(c:R x y z u v)(d:S x y z u v)(e:T x y z u v)(f:U x y z u v)(g:V x y z u v)(h:W x y z u v):∃x,P x/\∃y z u v,Q x y z u v/\R x y z u v/\S x y z u v/\T x y z u v/\U x y z u v/\V x y z u v/\W x y z u v:=x4 x (x8 a (fx y z u v (Q1 b c d e f g h)))
theorem yC{P Q R S T U V W X Y:A->B->C->D->H->I->Prop}(x:A)(y:B)(z:C)(u:D)(v:H)(w:I)(b:P x y z u v w)(c:Q x y z u v w)(d:R x y z u v w)(e:S x y z u v w)(f:T x y z u v w)(g:U x y z u v w)(h:V x y z u v w)(i:W x y z u v w)(j:X x y z u v w)(a:Y x y z u v w):∃x y z u v w,P x y z u v w/\Q x y z u v w/\R x y z u v w/\S x y z u v w/\T x y z u v w/\U x y z u v w/\V x y z u v w/\W x y z u v w/\X x y z u v w/\Y x y z u v w:=lh x y z u v w (rm b c d e f g h i j a)
theorem rF{P:A->Prop}{Q R S T U V W X Y Z:A->B->C->D->H->I->J->Prop}(x:A)(d:P x)(y:B)(z:C)(u:D)(v:H)(w:I)(a:J)(e:Q x y z u v w a)(f:R x y z u v w a)(g:S x y z u v w a)(h:T x y z u v w a)(i:U x y z u v w a)(j:V x y z u v w a)(k:W x y z u v w a)(l:X x y z u v w a)(b:Y x y z u v w a)(c:Z x y z u v w a):∃x,P x/\∃y z u v w a,Q x y z u v w a/\R x y z u v w a/\S x y z u v w a/\T x y z u v w a/\U x y z u v w a/\V x y z u v w a/\W x y z u v w a/\X x y z u v w a/\Y x y z u v w a/\Z x y z u v w a:=x4 x (x8 d (lh y z u v w a (rm e f g h i j k l b c)))
end Mine.Internal
section
set_option autoImplicit false
namespace Mine.Internal
theorem yD(x y:Nat):x<=y+(x-y):=by omega
theorem rG(x k:Nat)(h:0<k):x<k*(x/k)+k:=by have:=Nat.div_add_mod x k;have:=Nat.mod_lt x h;omega
open Nat.Internal.Linear in noncomputable def qv(i:Nat):Nat.Internal.Linear.Expr:=.var i
open Nat.Internal.Linear in noncomputable def qn(i:Nat):Nat.Internal.Linear.Expr:=.num i
open Nat.Internal.Linear in noncomputable def qp(a b:Nat.Internal.Linear.Expr):Nat.Internal.Linear.Expr:=.add a b
open Nat.Internal.Linear in noncomputable def qm(i:Nat)(b:Nat.Internal.Linear.Expr):Nat.Internal.Linear.Expr:=.mulL i b
open Nat.Internal.Linear in open Nat.Internal.Linear in noncomputable def ql(k:Nat)(a b:Nat.Internal.Linear.Expr):Nat×ExprCnstr:=(k,⟨false,a,b⟩)
open Nat.Internal.Linear in noncomputable def qe(k:Nat)(a b:Nat.Internal.Linear.Expr):Nat×ExprCnstr:=(k,⟨true,a,b⟩)
noncomputable def qc:List Nat->Nat->Lean.RArray Nat|[],_=>.leaf 0|a::r,i=>match r with|[]=>.leaf a|_::_=>.branch (i+1) (.leaf a) (qc r (i+1))
open Nat.Internal.Linear in def nO(c:Context):List (Nat×ExprCnstr)->Prop|[]=>False|(_,x)::r=>x.denote c->nO c r
open Nat.Internal.Linear in noncomputable def nP:List (Nat×ExprCnstr)->Nat.Internal.Linear.Expr|[]=>.num 0|(k,x)::r=>.add (.mulL k x.lhs) (nP r)
open Nat.Internal.Linear in noncomputable def nQ:List (Nat×ExprCnstr)->Nat.Internal.Linear.Expr|[]=>.num 0|(k,x)::r=>.add (.mulL k x.rhs) (nQ r)
theorem yE(c:Nat.Internal.Linear.Context)(cs:List (Nat×Nat.Internal.Linear.ExprCnstr)):∀(a b:Nat),a<=b->¬a+(nP cs).denote c<=b+(nQ cs).denote c->nO c cs:=by induction cs with|nil=>exactλa b h q=>q h|cons x cs e=>obtain⟨k,t,l,r⟩:=x;exactλa b h q d=>e (a+k*l.denote c) (b+k*r.denote c) (Nat.add_le_add h (Nat.mul_le_mul_left k (by cases t with|true=>exact Nat.le_of_eq d|false=>exact d))) (by rw[Nat.add_assoc,Nat.add_assoc];exact q)
theorem a8(l:List Nat)(cs:List (Nat×Nat.Internal.Linear.ExprCnstr))(h:(⟨false,nP cs,nQ cs⟩:Nat.Internal.Linear.ExprCnstr).toNormPoly.isUnsat=true):nO (qc l 0) cs:=yE _ cs 0 0 (ae 0) (by rw[fQ,fQ];exact of_eq_false (Nat.Internal.Linear.ExprCnstr.eq_false_of_isUnsat _ _ h))
theorem qA{a b:Nat}(h:b<a->False):a<=b:=bf h
theorem qB{a b:Nat}(h:b<=a->False):a<b:=bI h
theorem qE{a b:Nat}(h:b<a->False)(k:a<b->False):a=b:=Nat.le_antisymm (qA h) (qA k)
theorem qS{a b:Nat}(h:b<=a):a-b+b=a:=Nat.sub_add_cancel h
theorem qZ{a b:Nat}(h:a<=b):a-b=0:=Nat.sub_eq_zero_of_le h
theorem qT{G:Prop}(a b:Nat)(h:a<=b->G)(k:b<=a->G):G:=(Nat.le_total a b).elim h k
theorem qN{G:Prop}{a b:Nat}(q:¬a=b)(h:a<b->G)(k:b<a->G):G:=(Nat.lt_or_gt_of_ne q).elim h k
theorem qO{a:Nat}(h:¬a=0):0<a:=Nat.pos_of_ne_zero h
noncomputable def v0:=qv 0
noncomputable def v1:=qv 1
noncomputable def v2:=qv 2
noncomputable def v3:=qv 3
noncomputable def v4:=qv 4
noncomputable def v5:=qv 5
noncomputable def v6:=qv 6
noncomputable def v7:=qv 7
noncomputable def v8:=qv 8
noncomputable def v9:=qv 9
noncomputable def n0:=qn 0
noncomputable def n1:=qn 1
noncomputable def n2:=qn 2
noncomputable def n3:=qn 3
noncomputable def n4:=qn 4
section
variable{a b c d e f g h i j k l m n o p q r s t:Nat}
theorem lp(u:a+(b+1)<c):a<c:=qB λv=>a8 [a,b,c] [ql 1 v2 v0,ql 1 (qp (qp v0 (qp v1 n1)) n1) v2] rfl v u
theorem W0(u:a+(b+1)=c):a<c:=qB λv=>a8 [a,b,c] [ql 1 v2 v0,qe 1 (qp v0 (qp v1 n1)) v2] rfl v u
theorem jM(u:1<=a)(v:a+(b+1)=c):a-1<c:=qB λw=>a8 [a,b,c,a-1] [qe 1 (qp v0 (qp v1 n1)) v2,ql 1 v2 v3,qe 1 (qp v3 n1) v0] rfl v w (qS u)
theorem iI(u:a<b):b+1-(a+1)<b+1-a:=qB λv=>a8 [a,b,b+1 -(a+1),b+1 -a] [ql 1 v3 v2,qe 1 (qp v2 (qp v0 n1)) (qp v1 n1),qe 1 (qp v1 n1) (qp v3 v0)] rfl v (qS (qA λw=>a8 [a,b,b+1 -(a+1),b+1 -a] [ql 1 (qp (qp v1 n1) n1) (qp v0 n1),ql 1 (qp v0 n1) v1] rfl w u)) (aM (qS (qA λx=>a8 [a,b,b+1 -(a+1),b+1 -a] [ql 1 (qp v0 n1) v1,ql 1 (qp (qp v1 n1) n1) v0] rfl u x)))
theorem yF(u:a+(b+1)<c):a+1+b<c:=qB λv=>a8 [a,b,c] [ql 1 v2 (qp (qp v0 n1) v1),ql 1 (qp (qp v0 (qp v1 n1)) n1) v2] rfl v u
theorem lq(v:a+(b+1)=c):a+1+b=c:=qE (λu=>a8 [a,b,c] [ql 1 (qp v2 n1) (qp (qp v0 n1) v1),qe 1 (qp v0 (qp v1 n1)) v2] rfl u v) λu=>a8 [a,b,c] [ql 1 (qp (qp (qp v0 n1) v1) n1) v2,qe 1 v2 (qp v0 (qp v1 n1))] rfl u (aM v)
theorem rH(u:¬a<b):b<=a:=qA λv=>a8 [a,b] [ql 1 v1 v0,ql 1 (qp v0 n1) v1] rfl (bf u) v
theorem rI(w:2<=a)(u:a<64):a<=16777216:=qA λv=>a8 [a] [ql 1 (qp (qn 16777216) n1) v0,ql 1 (qp v0 n1) (qn 64)] rfl v u
theorem lr(u:a<b+1)(v:¬a=b):a<b:=qB λw=>qN v (λx=>a8 [a,b] [ql 1 (qp v0 n1) v1,ql 1 v1 v0] rfl x w) λy=>a8 [a,b] [ql 1 (qp v1 n1) v0,ql 1 (qp v0 n1) (qp v1 n1)] rfl y u
theorem nR(u:a=b+1):b<=a:=qA λv=>a8 [a,b] [ql 1 (qp v0 n1) v1,qe 1 (qp v1 n1) v0] rfl v (aM u)
theorem nU(v:1<=a)(w:a+(b+1)=c):1<=a+1:=qA λu=>a8 [a,b,c] [ql 1 (qp (qp v0 n1) n1) n1] rfl u
theorem nV(u:¬a<b)(v:a≠b):b<a:=qB λw=>qN v (λx=>a8 [a,b] [ql 1 (qp v0 n1) v1,ql 1 v1 v0] rfl x (bf u)) λy=>a8 [a,b] [ql 1 (qp v1 n1) v0,ql 1 v0 v1] rfl y w
theorem yG(v:a<=b):a+(b-a)=b:=qE (λu=>a8 [a,b,b-a] [ql 1 (qp v1 n1) (qp v0 v2),qe 1 (qp v2 v0) v1] rfl u (qS v)) λu=>a8 [a,b,b-a] [ql 1 (qp (qp v0 v2) n1) v1,qe 1 v1 (qp v2 v0)] rfl u (aM (qS v))
theorem nW(u:a<=b)(v:b<=c):a<=c:=qA λw=>a8 [a,b,c] [ql 1 (qp v2 n1) v0,ql 1 v0 v1,ql 1 v1 v2] rfl w u v
theorem yH(u:a=b+1):a-1=b:=qE (λv=>a8 [a,b,a-1] [ql 1 (qp v1 n1) v2,qe 1 (qp v2 n1) v0,qe 1 v0 (qp v1 n1)] rfl v (qS (qA λw=>a8 [a,b,a-1] [qe 1 (qp v1 n1) v0,ql 1 (qp v0 n1) n1] rfl (aM u) w)) u) λv=>a8 [a,b,a-1] [ql 1 (qp v2 n1) v1,qe 1 (qp v1 n1) v0,qe 1 v0 (qp v2 n1)] rfl v (aM u) (aM (qS (qA λx=>a8 [a,b,a-1] [qe 1 (qp v1 n1) v0,ql 1 (qp v0 n1) n1] rfl (aM u) x)))
theorem nY(u:a<=51):a<52:=qB λv=>a8 [a] [ql 1 (qn 52) v0,ql 1 v0 (qn 51)] rfl v u
theorem rJ(u:a<=150)(v:b+40*c+200<d):b+a<d:=qB λw=>a8 [a,b,c,d] [ql 1 v3 (qp v1 v0),ql 1 v0 (qn 150),ql 1 (qp (qp (qp v1 (qm 40 v2)) (qn 200)) n1) v3] rfl w u v
theorem rK:0+a=a:=qE (λu=>a8 [a] [ql 1 (qp v0 n1) (qp n0 v0)] rfl u) λu=>a8 [a] [ql 1 (qp (qp n0 v0) n1) v0] rfl u
theorem rL:¬a<a:=λu=>a8 [a] [ql 1 (qp v0 n1) v0] rfl u
theorem yI:a<=a+2:=qA λu=>a8 [a] [ql 1 (qp (qp v0 n2) n1) v0] rfl u
theorem rM(u:a<b)(v:1<=b)(w:¬a=b-1):a<b-1:=qB λx=>qN w (λy=>a8 [a,b,b-1] [ql 1 (qp v0 n1) v2,ql 1 v2 v0] rfl y x) λz=>a8 [a,b,b-1] [ql 1 (qp v2 n1) v0,ql 1 (qp v0 n1) v1,qe 1 v1 (qp v2 n1)] rfl z u (aM (qS v))
theorem rN(u:1<=a):a-1<a:=qB λv=>a8 [a,a-1] [ql 1 v0 v1,qe 1 (qp v1 n1) v0] rfl v (qS u)
theorem rO(u:a+0=b):a<=b:=qA λv=>a8 [a,b] [ql 1 (qp v1 n1) v0,qe 1 (qp v0 n0) v1] rfl v u
theorem rP(u:a+(b+1)=c):a<=c:=qA λv=>a8 [a,b,c] [ql 1 (qp v2 n1) v0,qe 1 (qp v0 (qp v1 n1)) v2] rfl v u
theorem rQ(u:1<=a)(w:a+(b+1)=c):a≠a-1:=λv=>a8 [a,b,c,a-1] [qe 1 v0 v3,qe 1 (qp v3 n1) v0] rfl v (qS u)
theorem rR(w:a+(b+1)=c)(u:a+1<=d):a<=d:=qA λv=>a8 [a,b,c,d] [ql 1 (qp v3 n1) v0,ql 1 (qp v0 n1) v3] rfl v u
theorem rS:¬0>0:=λu=>a8 [0] [ql 1 (qp n0 n1) n0] rfl u
theorem rT(u:a<b)(v:b<c):a<c:=qB λw=>a8 [a,b,c] [ql 1 v2 v0,ql 1 (qp v0 n1) v1,ql 1 (qp v1 n1) v2] rfl w u v
theorem rU(u:a<b)(v:c<=a)(w:¬d>=c):(d+c)/2<b:=qB λx=>a8 [a,b,c,d,(d+c)/2] [ql 1 (qp v3 n1) v2,ql 2 v2 v0,ql 2 (qp v0 n1) v1,ql 2 v1 v4,ql 1 (qm 2 v4) (qp v3 v2)] rfl (bI w) v u x (fj (d+c) 2)
theorem rV(y:a+(b+1)=c)(u:d<e)(v:e<a+1):e-1<a:=qB λw=>a8 [a,b,c,d,e,e-1] [ql 1 (qp v4 n1) (qp v0 n1),ql 1 v0 v5,qe 1 (qp v5 n1) v4] rfl v w (qS (qA λx=>a8 [a,b,c,d,e,e-1] [ql 1 (qp v3 n1) v4,ql 1 (qp v4 n1) n1] rfl u x))
theorem rX(u:a<2):a<=16777216:=qA λv=>a8 [a] [ql 1 (qp (qn 16777216) n1) v0,ql 1 (qp v0 n1) n2] rfl v u
theorem yJ(w:a-b=0)(v:b<=a):b=a:=qE (λu=>a8 [a,b,a-b] [ql 1 v1 v0,ql 1 (qp v0 n1) v1] rfl v u) λu=>a8 [a,b,a-b] [ql 1 (qp v1 n1) v0,qe 1 v0 (qp v2 v1),qe 1 v2 n0] rfl u (aM (qS v)) w
theorem yK(u:a-b=c+1)(v:b<=a):b<a:=qB λw=>a8 [a,b,c,a-b] [qe 1 (qp v2 n1) v3,qe 1 (qp v3 v1) v0,ql 1 v0 v1] rfl (aM u) (qS v) w
theorem yL(u:a<=25):a<26:=qB λv=>a8 [a] [ql 1 (qn 26) v0,ql 1 v0 (qn 25)] rfl v u
theorem yM(v:a<=51):a-1<51:=qB λu=>qT a 1 (λw=>a8 [a,a-1] [ql 1 (qn 51) v1,qe 1 v1 n0] rfl u (qZ w)) λx=>a8 [a,a-1] [ql 1 (qn 51) v1,qe 1 (qp v1 n1) v0,ql 1 v0 (qn 51)] rfl u (qS x) v
theorem yN(y:a<=51)(v:a≠0):a-1+1=a:=qE (λu=>a8 [a,a-1] [ql 1 (qp v0 n1) (qp v1 n1),qe 1 (qp v1 n1) v0] rfl u (qS (qA λw=>a8 [a,a-1] [ql 1 (qp n0 n1) v0,ql 1 (qp v0 n1) n1] rfl (qO v) w))) λu=>a8 [a,a-1] [qe 1 v0 (qp v1 n1),ql 1 (qp (qp v1 n1) n1) v0] rfl (aM (qS (qA λx=>a8 [a,a-1] [ql 1 (qp n0 n1) v0,ql 1 (qp v0 n1) n1] rfl (qO v) x))) u
theorem rY(u:a<=b):a+(0+1)<=b+1:=qA λv=>a8 [a,b] [ql 1 (qp (qp v1 n1) n1) (qp v0 (qp n0 n1)),ql 1 v0 v1] rfl v u
theorem rZ(u:a+(b+1)<=c+1):a<=c+1-(b+1):=qA λv=>a8 [a,b,c,c+1 -(b+1)] [ql 1 (qp v3 n1) v0,ql 1 (qp v0 (qp v1 n1)) (qp v2 n1),qe 1 (qp v2 n1) (qp v3 (qp v1 n1))] rfl v u (aM (qS (qA λw=>a8 [a,b,c,c+1 -(b+1)] [ql 1 (qp v0 (qp v1 n1)) (qp v2 n1),ql 1 (qp (qp v2 n1) n1) (qp v1 n1)] rfl u w)))
theorem r0(u:a<b):a<=b-1:=qA λv=>a8 [a,b,b-1] [ql 1 (qp v2 n1) v0,ql 1 (qp v0 n1) v1,qe 1 v1 (qp v2 n1)] rfl v u (aM (qS (qA λw=>a8 [a,b,b-1] [ql 1 (qp v0 n1) v1,ql 1 (qp v1 n1) n1] rfl u w)))
theorem se(u:a<b)(v:b+c<=d):b-1+(c+1)<=d:=qA λw=>a8 [a,b,c,d,b-1] [ql 1 (qp v3 n1) (qp v4 (qp v2 n1)),ql 1 (qp v1 v2) v3,qe 1 (qp v4 n1) v1] rfl w v (qS (qA λx=>a8 [a,b,c,d,b-1] [ql 1 (qp v0 n1) v1,ql 1 (qp v1 n1) n1] rfl u x))
theorem sg(v:a<b):b-1+(c+1)=b+c:=qE (λu=>a8 [a,b,c,b-1] [ql 1 (qp (qp v1 v2) n1) (qp v3 (qp v2 n1)),qe 1 (qp v3 n1) v1] rfl u (qS (qA λw=>a8 [a,b,c,b-1] [ql 1 (qp v0 n1) v1,ql 1 (qp v1 n1) n1] rfl v w))) λu=>a8 [a,b,c,b-1] [ql 1 (qp (qp v3 (qp v2 n1)) n1) (qp v1 v2),qe 1 v1 (qp v3 n1)] rfl u (aM (qS (qA λx=>a8 [a,b,c,b-1] [ql 1 (qp v0 n1) v1,ql 1 (qp v1 n1) n1] rfl v x)))
theorem sh(u:a+b<c):a+(b+1)<=c:=qA λv=>a8 [a,b,c] [ql 1 (qp v2 n1) (qp v0 (qp v1 n1)),ql 1 (qp (qp v0 v1) n1) v2] rfl v u
theorem yO(u:a≠0):0<a:=qB λv=>a8 [a] [ql 1 (qp n0 n1) v0,ql 1 v0 n0] rfl (qO u) v
theorem yP(u:a≠0):a-1<a:=qB λv=>a8 [a,a-1] [ql 1 v0 v1,qe 1 (qp v1 n1) v0] rfl v (qS (qA λw=>a8 [a,a-1] [ql 1 (qp n0 n1) v0,ql 1 (qp v0 n1) n1] rfl (qO u) w))
theorem sj(u:¬a<b+c):b+c<=a:=qA λv=>a8 [a,b,c] [ql 1 (qp v1 v2) v0,ql 1 (qp v0 n1) (qp v1 v2)] rfl (bf u) v
theorem sk(u:a+(b-1)<c/\d+(b-1)<e):a+b<=c:=qA λv=>a8 [a,b,c,d,e,b-1] [ql 1 (qp v2 n1) (qp v0 v1),ql 1 (qp (qp v0 v5) n1) v2,qe 1 v1 (qp v5 n1)] rfl v u.1 (aM (qS (qA λw=>a8 [a,b,c,d,e,b-1] [ql 1 (qp v2 n1) (qp v0 v1),ql 1 (qp (qp v0 v5) n1) v2,ql 1 (qp v1 n1) n1] rfl v u.1 w)))
theorem sm(u:a+(b-1)<c/\d+(b-1)<e):d+b<=e:=qA λv=>a8 [a,b,c,d,e,b-1] [ql 1 (qp v4 n1) (qp v3 v1),qe 1 v1 (qp v5 n1),ql 1 (qp (qp v3 v5) n1) v4] rfl v (aM (qS (qA λw=>a8 [a,b,c,d,e,b-1] [ql 1 (qp v4 n1) (qp v3 v1),ql 1 (qp v1 n1) n1,ql 1 (qp (qp v3 v5) n1) v4] rfl v w u.2))) u.2
theorem so(u:a+b+c<=d):a+(b+c)<=d:=qA λv=>a8 [a,b,c,d] [ql 1 (qp v3 n1) (qp v0 (qp v1 v2)),ql 1 (qp (qp v0 v1) v2) v3] rfl v u
theorem sq(v:¬a<b):c+b+(a-b)=c+a:=qE (λu=>a8 [a,b,c,a-b] [ql 1 (qp (qp v2 v0) n1) (qp (qp v2 v1) v3),qe 1 (qp v3 v1) v0] rfl u (qS (bf v))) λu=>a8 [a,b,c,a-b] [ql 1 (qp (qp (qp v2 v1) v3) n1) (qp v2 v0),qe 1 v0 (qp v3 v1)] rfl u (aM (qS (bf v)))
theorem sr(u:a<=b)(v:b+0<=c):a<=c:=qA λw=>a8 [a,b,c] [ql 1 (qp v2 n1) v0,ql 1 v0 v1,ql 1 (qp v1 n0) v2] rfl w u v
theorem yQ{a:Int}:a-a<=0:=by omega
theorem yR(u:a=b+1):a≠b:=λv=>a8 [a,b] [qe 1 (qp v1 n1) v0,qe 1 v0 v1] rfl (aM u) v
theorem yS(u:a+4*(b+1)<c):a+1+4*b<c:=qB λv=>a8 [a,b,c] [ql 1 v2 (qp (qp v0 n1) (qm 4 v1)),ql 1 (qp (qp v0 (qm 4 (qp v1 n1))) n1) v2] rfl v u
theorem yT(u:a+40*(b+1)+200<c):a+3+40*b+200<c:=qB λv=>a8 [a,b,c] [ql 1 v2 (qp (qp (qp v0 n3) (qm 40 v1)) (qn 200)),ql 1 (qp (qp (qp v0 (qm 40 (qp v1 n1))) (qn 200)) n1) v2] rfl v u
theorem yU(u:a+4*b<c):a<c:=qB λv=>a8 [a,b,c] [ql 1 v2 v0,ql 1 (qp (qp v0 (qm 4 v1)) n1) v2] rfl v u
theorem yV{a:Int}{b:Int}(u:a<b):min b a=a:=Int.min_eq_right (Int.le_of_lt u)
theorem yW{a:Int}{b:Int}(u:¬a<b):min b a=b:=Int.min_eq_left (Int.not_lt.mp u)
theorem yX(u:a+0=b):b<=a:=qA λv=>a8 [a,b] [ql 1 (qp v0 n1) v1,qe 1 v1 (qp v0 n0)] rfl v (aM u)
theorem yY:a<=a+3:=qA λu=>a8 [a] [ql 1 (qp (qp v0 n3) n1) v0] rfl u
theorem yZ(u:a<=4)(v:b+4*(c+1)<d):b+a+4*c<d:=qB λw=>a8 [a,b,c,d] [ql 1 v3 (qp (qp v1 v0) (qm 4 v2)),ql 1 v0 n4,ql 1 (qp (qp v1 (qm 4 (qp v2 n1))) n1) v3] rfl w u v
theorem za(u:a<=40)(v:b+40*(c+1)+200<d):b+a+40*c+200<d:=qB λw=>a8 [a,b,c,d] [ql 1 v3 (qp (qp (qp v1 v0) (qm 40 v2)) (qn 200)),ql 1 v0 (qn 40),ql 1 (qp (qp (qp v1 (qm 40 (qp v2 n1))) (qn 200)) n1) v3] rfl w u v
theorem NI(u:a<=b)(v:c+b<d):c+a<d:=qB λw=>a8 [a,b,c,d] [ql 1 v3 (qp v2 v0),ql 1 v0 v1,ql 1 (qp (qp v2 v1) n1) v3] rfl w u v
theorem zb:a+(b+c)+d=a+c+b+d:=qE (λu=>a8 [a,b,c,d] [ql 1 (qp (qp (qp (qp v0 v2) v1) v3) n1) (qp (qp v0 (qp v1 v2)) v3)] rfl u) λu=>a8 [a,b,c,d] [ql 1 (qp (qp (qp v0 (qp v1 v2)) v3) n1) (qp (qp (qp v0 v2) v1) v3)] rfl u
theorem zc(v:a=b+c):d+a+e=d+c+b+e:=qE (λu=>a8 [a,b,c,d,e] [ql 1 (qp (qp (qp (qp v3 v2) v1) v4) n1) (qp (qp v3 v0) v4),qe 1 v0 (qp v1 v2)] rfl u v) λu=>a8 [a,b,c,d,e] [ql 1 (qp (qp (qp v3 v0) v4) n1) (qp (qp (qp v3 v2) v1) v4),qe 1 (qp v1 v2) v0] rfl u (aM v)
theorem ss(v:a<b):min a b=a:=qE (λu=>a8 [a,b,min a b] [ql 1 v2 v0,ql 1 (qp v0 n1) v2] rfl (gM a b) u) λu=>qT a b (λw=>a8 [a,b,min a b] [ql 1 (qp v2 n1) v0,qe 1 v0 v2] rfl u (aM (gN w))) λx=>a8 [a,b,min a b] [ql 1 v1 v0,ql 1 (qp v0 n1) v1] rfl x v
theorem zd(u:2<=a)(w:a<64):¬a<2:=λv=>a8 [a] [ql 1 n2 v0,ql 1 (qp v0 n1) n2] rfl u v
theorem ze(w:2<=a)(u:a<64)(x:b=a):a<=16777216+1:=qA λv=>a8 [a,b] [ql 1 (qp (qp (qn 16777216) n1) n1) v0,ql 1 (qp v0 n1) (qn 64)] rfl v u
theorem zf(u:a+0=b)(v:a<b):c<d:=qB λw=>a8 [a,b,c,d] [ql 1 (qp v0 n1) v1,qe 1 v1 (qp v0 n0)] rfl v (aM u)
theorem zg(u:a<=b)(v:c<a):c<b:=qB λw=>a8 [a,b,c] [ql 1 (qp v2 n1) v0,ql 1 v0 v1,ql 1 v1 v2] rfl v u w
theorem zh(u:a<=b)(v:c<a):a-1-c<b:=qB λw=>a8 [a,b,c,a-1 -c,a-1] [ql 1 v0 v1,ql 1 v1 v3,ql 1 v3 v4,qe 1 (qp v4 n1) v0] rfl u w (Nat.sub_le _ _) (qS (qA λx=>a8 [a,b,c,a-1 -c,a-1] [ql 1 (qp v2 n1) v0,ql 1 (qp v0 n1) n1] rfl v x))
theorem zi(w:a<b)(u:b<c):c-1-b<c-1-a:=qB λy=>qT (c-1) b (λz=>a8 [a,b,c,c-1 -b,c-1,c-1 -a] [ql 1 (qp v0 n1) v1,ql 1 (qp v1 n1) v2,qe 1 v2 (qp v4 n1),qe 1 v4 (qp v5 v0),ql 1 v5 v3,qe 1 v3 n0] rfl w u (aM (qS (qA λv=>a8 [a,b,c,c-1 -b,c-1,c-1 -a] [ql 1 (qp v1 n1) v2,ql 1 (qp v2 n1) n1] rfl u v))) (aM (qS (qA λx=>a8 [a,b,c,c-1 -b,c-1,c-1 -a] [ql 1 (qp v4 n1) v0,ql 1 (qp v0 n1) v1,ql 1 (qp v1 n1) v2,qe 1 v2 (qp v4 n1)] rfl x w u (aM (qS (qA λv=>a8 [a,b,c,c-1 -b,c-1,c-1 -a] [ql 1 (qp v1 n1) v2,ql 1 (qp v2 n1) n1] rfl u v)))))) y (qZ z)) λA=>a8 [a,b,c,c-1 -b,c-1,c-1 -a] [qe 1 v4 (qp v5 v0),ql 1 (qp v0 n1) v1,ql 1 v5 v3,qe 1 (qp v3 v1) v4] rfl (aM (qS (qA λx=>a8 [a,b,c,c-1 -b,c-1,c-1 -a] [ql 1 (qp v4 n1) v0,ql 1 (qp v0 n1) v1,ql 1 (qp v1 n1) v2,qe 1 v2 (qp v4 n1)] rfl x w u (aM (qS (qA λv=>a8 [a,b,c,c-1 -b,c-1,c-1 -a] [ql 1 (qp v1 n1) v2,ql 1 (qp v2 n1) n1] rfl u v)))))) w y (qS A)
theorem zj(x:a<b)(u:b<c):c-1-a<c:=qB λv=>a8 [a,b,c,c-1 -a,c-1] [ql 1 v2 v3,ql 1 v3 v4,qe 1 (qp v4 n1) v2] rfl v (Nat.sub_le _ _) (qS (qA λw=>a8 [a,b,c,c-1 -a,c-1] [ql 1 (qp v1 n1) v2,ql 1 (qp v2 n1) n1] rfl u w))
theorem zk(v:2<=a):1+(a-1)=a:=qE (λu=>a8 [a,a-1] [ql 1 (qp v0 n1) (qp n1 v1),qe 1 (qp v1 n1) v0] rfl u (qS (qA λw=>a8 [a,a-1] [ql 1 n2 v0,ql 1 (qp v0 n1) n1] rfl v w))) λu=>a8 [a,a-1] [ql 1 (qp (qp n1 v1) n1) v0,qe 1 v0 (qp v1 n1)] rfl u (aM (qS (qA λx=>a8 [a,a-1] [ql 1 n2 v0,ql 1 (qp v0 n1) n1] rfl v x)))
theorem zl(u:a<b)(v:b<1):c<d:=qB λw=>a8 [a,b,c,d] [ql 1 (qp v0 n1) v1,ql 1 (qp v1 n1) n1] rfl u v
theorem zm(u:2<=a):0<a:=qB λv=>a8 [a] [ql 1 n2 v0,ql 1 v0 n0] rfl u v
theorem zn(u:a<=b)(v:a>1):a-1<b:=qB λw=>a8 [a,b,a-1] [ql 1 v0 v1,ql 1 v1 v2,qe 1 (qp v2 n1) v0] rfl u w (qS (qA λx=>a8 [a,b,a-1] [ql 1 (qp n1 n1) v0,ql 1 (qp v0 n1) n1] rfl v x))
theorem zo(u:a>1):0<a-1:=qB λv=>a8 [a,a-1] [ql 1 (qp n1 n1) v0,qe 1 v0 (qp v1 n1),ql 1 v1 n0] rfl u (aM (qS (qA λw=>a8 [a,a-1] [ql 1 (qp n1 n1) v0,ql 1 (qp v0 n1) n1] rfl u w))) v
theorem zq(u:a>1):a-1<a:=qB λv=>a8 [a,a-1] [ql 1 v0 v1,qe 1 (qp v1 n1) v0] rfl v (qS (qA λw=>a8 [a,a-1] [ql 1 (qp n1 n1) v0,ql 1 (qp v0 n1) n1] rfl u w))
theorem zr(v:a<b)(w:b<2):a=0:=qE (λu=>a8 [a,b] [ql 1 (qp n0 n1) v0,ql 1 (qp v0 n1) v1,ql 1 (qp v1 n1) n2] rfl u v w) λu=>a8 [a,b] [ql 1 (qp v0 n1) n0] rfl u
theorem zs(v:a<b)(w:b<2)(x:a=0):b=1:=qE (λu=>a8 [a,b] [ql 1 (qp n1 n1) v1,ql 1 (qp v1 n1) n2] rfl u w) λu=>a8 [a,b] [ql 1 (qp v0 n1) v1,ql 1 (qp v1 n1) n1] rfl v u
theorem zt(u:2<=a):1<a:=qB λv=>a8 [a] [ql 1 n2 v0,ql 1 v0 n1] rfl u v
theorem zu:1<=2:=qA λu=>a8 [0] [ql 1 (qp n2 n1) n1] rfl u
theorem zv(v:2<=a):2+(a-2)=a:=qE (λu=>a8 [a,a-2] [ql 1 (qp v0 n1) (qp n2 v1),qe 1 (qp v1 n2) v0] rfl u (qS v)) λu=>a8 [a,a-2] [ql 1 (qp (qp n2 v1) n1) v0,qe 1 v0 (qp v1 n2)] rfl u (aM (qS v))
theorem zw(u:2<=a):1<=a:=qA λv=>a8 [a] [ql 1 n2 v0,ql 1 (qp v0 n1) n1] rfl u v
theorem zx(u:2<=a)(v:a<=b):1<=b:=qA λw=>a8 [a,b] [ql 1 n2 v0,ql 1 v0 v1,ql 1 (qp v1 n1) n1] rfl u v w
theorem zy(u:a<=b)(v:b-a<=0)(w:a<=c):b<=c:=qA λx=>a8 [a,b,c,b-a] [ql 1 (qp v2 n1) v1,qe 1 v1 (qp v3 v0),ql 1 v0 v2,ql 1 v3 n0] rfl x (aM (qS u)) w v
theorem zz(u:a<=b)(v:b<=c)(x:a>=b):a<=c:=qA λw=>a8 [a,b,c] [ql 1 (qp v2 n1) v0,ql 1 v0 v1,ql 1 v1 v2] rfl w u v
theorem zA(x:a<=b)(u:a>=b)(v:a<=c):b<=c:=qA λw=>a8 [a,b,c] [ql 1 (qp v2 n1) v1,ql 1 v1 v0,ql 1 v0 v2] rfl w u v
theorem zB(u:¬a>=b):a<=(a+b)/2:=qA λv=>a8 [a,b,(a+b)/2] [ql 1 (qp v0 n1) v1,ql 1 (qp (qp v0 v1) n1) (qp (qm 2 v2) n2),ql 2 (qp v2 n1) v0] rfl (bI u) (rG (a+b) 2 (by decide)) v
theorem zC(u:a<=b)(v:¬c>=a):(c+a)/2<=b:=qA λw=>a8 [a,b,c,(c+a)/2] [ql 1 (qp v2 n1) v0,ql 2 v0 v1,ql 2 (qp v1 n1) v3,ql 1 (qm 2 v3) (qp v2 v0)] rfl (bI v) u w (fj (c+a) 2)
theorem zD(v:a-b<=c+1)(w:¬b>=a):(b+a)/2-b<=c:=qA λu=>qT ((b+a)/2) b (λy=>a8 [a,b,c,a-b,(b+a)/2 -b,(b+a)/2] [ql 1 (qp v2 n1) v4,qe 1 v4 n0] rfl u (qZ y)) λz=>a8 [a,b,c,a-b,(b+a)/2 -b,(b+a)/2] [ql 2 (qp v2 n1) v4,qe 2 (qp v4 v1) v5,ql 1 (qm 2 v5) (qp v1 v0),qe 1 v0 (qp v3 v1),ql 1 v3 (qp v2 n1)] rfl u (qS z) (fj (b+a) 2) (aM (qS (qA λx=>a8 [a,b,c,a-b,(b+a)/2 -b,(b+a)/2] [ql 1 (qp v1 n1) v0,ql 1 (qp v0 n1) v1] rfl (bI w) x))) v
theorem zE(u:(a+b)/2<=c)(v:¬c=(a+b)/2):(a+b)/2<c:=qB λw=>qN v (λx=>a8 [a,b,c,(a+b)/2] [ql 1 (qp v2 n1) v3,ql 1 v3 v2] rfl x u) λy=>a8 [a,b,c,(a+b)/2] [ql 1 (qp v3 n1) v2,ql 1 v2 v3] rfl y w
theorem zF(u:a<=b)(v:¬c>=a):b≠(c+a)/2:=λw=>a8 [a,b,c,(c+a)/2] [ql 1 (qp v2 n1) v0,ql 2 v0 v1,qe 2 v1 v3,ql 1 (qm 2 v3) (qp v2 v0)] rfl (bI v) u w (fj (c+a) 2)
theorem zG(u:¬a>=b):(a+b)/2+1<=b:=qA λv=>a8 [a,b,(a+b)/2] [ql 2 (qp v1 n1) (qp v2 n1),ql 1 (qm 2 v2) (qp v0 v1),ql 1 (qp v0 n1) v1] rfl v (fj (a+b) 2) (bI u)
theorem zH(v:a-b<=c+1)(w:¬b>=a)(A:¬d<e)(B:d≠e):a-((b+a)/2+1)<=c:=qA λu=>qT a ((b+a)/2+1) (λy=>a8 [a,b,c,d,e,a-b,a-((b+a)/2+1),(b+a)/2] [ql 1 (qp v2 n1) v6,qe 1 v6 n0] rfl u (qZ y)) λz=>a8 [a,b,c,d,e,a-b,a-((b+a)/2+1),(b+a)/2] [ql 2 (qp v2 n1) v6,qe 2 (qp v6 (qp v7 n1)) v0,ql 1 (qp (qp v1 v0) n1) (qp (qm 2 v7) n2),qe 1 v0 (qp v5 v1),ql 1 v5 (qp v2 n1)] rfl u (qS z) (rG (b+a) 2 (by decide)) (aM (qS (qA λx=>a8 [a,b,c,d,e,a-b,a-((b+a)/2+1),(b+a)/2] [ql 1 (qp v1 n1) v0,ql 1 (qp v0 n1) v1] rfl (bI w) x))) v
theorem zI(u:a<(b+c)/2+1)(v:¬a=(b+c)/2):a<(b+c)/2:=qB λw=>qN v (λx=>a8 [a,b,c,(b+c)/2] [ql 1 (qp v0 n1) v3,ql 1 v3 v0] rfl x w) λy=>a8 [a,b,c,(b+c)/2] [ql 1 (qp v3 n1) v0,ql 1 (qp v0 n1) (qp v3 n1)] rfl y u
theorem zJ(u:a<=b)(v:¬c>=a):(c+a)/2<b:=qB λw=>a8 [a,b,c,(c+a)/2] [ql 1 (qp v2 n1) v0,ql 2 v0 v1,ql 2 v1 v3,ql 1 (qm 2 v3) (qp v2 v0)] rfl (bI v) u w (fj (c+a) 2)
theorem zK(u:¬a<b)(v:a≠b)(z:c<(d+e)/2+1)(A:¬c=(d+e)/2):b<a:=qB λw=>qN v (λx=>a8 [a,b,c,d,e,(d+e)/2] [ql 1 (qp v0 n1) v1,ql 1 v1 v0] rfl x (bf u)) λy=>a8 [a,b,c,d,e,(d+e)/2] [ql 1 (qp v1 n1) v0,ql 1 v0 v1] rfl y w
theorem zL(u:a<=b):b-a<=b:=qA λv=>a8 [a,b,b-a] [ql 1 (qp v1 n1) v2,qe 1 (qp v2 v0) v1] rfl v (qS u)
theorem zM(v:a<=b):b-(b-a)=a:=qE (λu=>qT b (b-a) (λw=>a8 [a,b,b-(b-a),b-a] [ql 1 (qp v0 n1) v2,qe 1 v2 n0] rfl u (qZ w)) λx=>a8 [a,b,b-(b-a),b-a] [qe 1 v1 (qp v3 v0),ql 1 (qp v0 n1) v2,qe 1 (qp v2 v3) v1] rfl (aM (qS v)) u (qS x)) λu=>a8 [a,b,b-(b-a),b-a] [ql 1 (qp v2 n1) v0,ql 1 v1 (qp v3 v2),qe 1 (qp v3 v0) v1] rfl u (yD b (b-a)) (qS v)
theorem zN(u:a<b)(v:c<a/\a<=d):a-1<b:=qB λw=>a8 [a,b,c,d,a-1] [ql 1 (qp v0 n1) v1,ql 1 v1 v4,qe 1 (qp v4 n1) v0] rfl u w (qS (qA λx=>a8 [a,b,c,d,a-1] [ql 1 (qp v2 n1) v0,ql 1 (qp v0 n1) n1] rfl v.1 x))
theorem zO(w:1<=a)(x:a+(b+1)=c):a-0<=a:=qA λu=>a8 [a,b,c,a-0] [ql 1 (qp v0 n1) v3,qe 1 (qp v3 n0) v0] rfl u (qS (qA λv=>a8 [a,b,c,a-0] [ql 1 (qp v0 n1) n0] rfl v))
theorem zP(u:a<0):b<c:=qB λv=>a8 [a,b,c] [ql 1 (qp v0 n1) n0] rfl u
theorem zQ(w:a+(b+1)=c)(u:a<=d)(v:d<a):e<f:=qB λx=>a8 [a,b,c,d,e,f] [ql 1 (qp v3 n1) v0,ql 1 v0 v3] rfl v u
theorem zR(u:a+(b+1)=c)(v:d<e)(w:e<a+1):d<c:=qB λx=>a8 [a,b,c,d,e] [ql 1 (qp v4 n1) (qp v0 n1),qe 1 (qp v0 (qp v1 n1)) v2,ql 1 v2 v3,ql 1 (qp v3 n1) v4] rfl w u x v
theorem zS(u:a+(b+1)=c)(v:d<a+1):d<c:=qB λw=>a8 [a,b,c,d] [ql 1 (qp v3 n1) (qp v0 n1),qe 1 (qp v0 (qp v1 n1)) v2,ql 1 v2 v3] rfl v u w
theorem zT(u:a<b)(v:a=c):¬b=c:=λw=>a8 [a,b,c] [ql 1 (qp v0 n1) v1,qe 1 v1 v2,qe 1 v2 v0] rfl u w (aM v)
theorem zU(z:a+(b+1)=c)(u:d<e)(v:e<a+1)(w:d=f):f<e/\e<=a:=⟨qB λx=>a8 [a,b,c,d,e,f] [ql 1 (qp v3 n1) v4,ql 1 v4 v5,qe 1 v5 v3] rfl u x (aM w),qA λy=>a8 [a,b,c,d,e,f] [ql 1 (qp v4 n1) (qp v0 n1),ql 1 (qp v0 n1) v4] rfl v y⟩
theorem zV(u:a<b)(v:a=c):c<=b-1:=qA λw=>a8 [a,b,c,b-1] [ql 1 (qp v3 n1) v2,qe 1 v2 v0,ql 1 (qp v0 n1) v1,qe 1 v1 (qp v3 n1)] rfl w (aM v) u (aM (qS (qA λx=>a8 [a,b,c,b-1] [ql 1 (qp v0 n1) v1,ql 1 (qp v1 n1) n1] rfl u x)))
theorem zW(y:a+(b+1)=c)(u:d<e)(v:e<a+1)(z:d=f):e-1<a:=qB λw=>a8 [a,b,c,d,e,f,e-1] [ql 1 (qp v4 n1) (qp v0 n1),ql 1 v0 v6,qe 1 (qp v6 n1) v4] rfl v w (qS (qA λx=>a8 [a,b,c,d,e,f,e-1] [ql 1 (qp v3 n1) v4,ql 1 (qp v4 n1) n1] rfl u x))
theorem zX(u:a<b)(v:b=c):¬(c<a/\a<=d):=λw=>a8 [a,b,c,d] [ql 1 (qp v2 n1) v0,ql 1 (qp v0 n1) v1,qe 1 v1 v2] rfl w.1 u v
theorem zY(u:a<b)(v:b=c):a<c:=qB λw=>a8 [a,b,c] [ql 1 v2 v0,ql 1 (qp v0 n1) v1,qe 1 v1 v2] rfl w u v
theorem zZ(z:a+(b+1)=c)(u:d<e)(v:e<a+1)(w:f<d/\d<=a):f<e/\e<=a:=⟨qB λx=>a8 [a,b,c,d,e,f] [ql 1 (qp v5 n1) v3,ql 1 (qp v3 n1) v4,ql 1 v4 v5] rfl w.1 u x,qA λy=>a8 [a,b,c,d,e,f] [ql 1 (qp v4 n1) (qp v0 n1),ql 1 (qp v0 n1) v4] rfl v y⟩
theorem z3(u:a<b)(v:c<a/\a<=d):a-1<b-1:=qB λw=>a8 [a,b,c,d,a-1,b-1] [ql 1 v5 v4,qe 1 (qp v4 n1) v0,ql 1 (qp v0 n1) v1,qe 1 v1 (qp v5 n1)] rfl w (qS (qA λx=>a8 [a,b,c,d,a-1,b-1] [ql 1 (qp v2 n1) v0,ql 1 (qp v0 n1) n1] rfl v.1 x)) u (aM (qS (qA λy=>a8 [a,b,c,d,a-1,b-1] [ql 1 (qp v0 n1) v1,ql 1 (qp v1 n1) n1] rfl u y)))
theorem z4(E:a+(b+1)=c)(u:d<e)(v:e<a+1)(w:¬d=f)(F:¬e=f)(x:¬(f<d/\d<=a))(y:f<e/\e<=a):d<e-1:=qB λz=>qN w (λB=>a8 [a,b,c,d,e,f,e-1] [ql 1 (qp v3 n1) v5,ql 1 (qp v5 n1) v4,qe 1 v4 (qp v6 n1),ql 1 v6 v3] rfl B y.1 (aM (qS (qA λA=>a8 [a,b,c,d,e,f,e-1] [ql 1 (qp v3 n1) v4,ql 1 (qp v4 n1) n1] rfl u A))) z) λC=>Or.elim (Decidable.not_and_iff_or_not.mp x) (λD=>a8 [a,b,c,d,e,f,e-1] [ql 1 (qp v5 n1) v3,ql 1 v3 v5] rfl C (bf D)) λsp=>a8 [a,b,c,d,e,f,e-1] [ql 1 (qp v4 n1) (qp v0 n1),ql 1 (qp v0 n1) v3,ql 1 (qp v3 n1) v4] rfl v (bI sp) u
theorem Aa(D:a+(b+1)=c)(u:d<=a)(E:e<f)(v:f<a+1)(w:¬f=d)(F:¬(d<e/\e<=a))(x:¬(d<f/\f<=a)):f<a:=qB λy=>qN w (λz=>a8 [a,b,c,d,e,f] [ql 1 (qp v5 n1) v3,ql 1 v3 v0,ql 1 v0 v5] rfl z u y) λA=>Or.elim (Decidable.not_and_iff_or_not.mp x) (λB=>a8 [a,b,c,d,e,f] [ql 1 (qp v3 n1) v5,ql 1 v5 v3] rfl A (bf B)) λC=>a8 [a,b,c,d,e,f] [ql 1 (qp v0 n1) v5,ql 1 (qp v5 n1) (qp v0 n1)] rfl (bI C) v
theorem Ab(u:a<b):a<b:=u
theorem Ac:1<=max a 1:=qA λu=>a8 [a,max a 1] [ql 1 n1 v1,ql 1 (qp v1 n1) n1] rfl (Nat.le_max_right a 1) u
theorem Ad(C:1<=a)(v:a<b):max a 1+(b-max a 1)=b:=qE (λu=>qT a 1 (λx=>qT b (max a 1) (λy=>a8 [a,b,max a 1,b- max a 1] [ql 1 (qp v0 n1) v1,ql 1 (qp v1 n1) (qp v2 v3),qe 1 v2 n1,qe 1 v3 n0] rfl v u (Nat.max_eq_right x) (qZ y)) λz=>a8 [a,b,max a 1,b- max a 1] [ql 1 (qp v1 n1) (qp v2 v3),qe 1 (qp v3 v2) v1] rfl u (qS z)) λA=>qT b (max a 1) (λB=>a8 [a,b,max a 1,b- max a 1] [ql 1 v1 v2,qe 1 v2 v0,ql 1 (qp v0 n1) v1] rfl B (Nat.max_eq_left A) v) λsp=>a8 [a,b,max a 1,b- max a 1] [ql 1 (qp v1 n1) (qp v2 v3),qe 1 (qp v3 v2) v1] rfl u (qS sp)) λu=>a8 [a,b,max a 1,b- max a 1] [ql 1 (qp (qp v2 v3) n1) v1,qe 1 v1 (qp v3 v2)] rfl u (aM (qS (qA λw=>a8 [a,b,max a 1,b- max a 1] [ql 1 (qp (qp v2 v3) n1) v1,ql 1 (qp v1 n1) v2] rfl u w)))
theorem Ae(v:1<=a):max a 1=a:=qE (λu=>qT a 1 (λw=>a8 [a,max a 1] [ql 1 n1 v0,ql 1 (qp v0 n1) v1,qe 1 v1 n1] rfl v u (Nat.max_eq_right w)) λx=>a8 [a,max a 1] [ql 1 (qp v0 n1) v1,qe 1 v1 v0] rfl u (Nat.max_eq_left x)) λu=>a8 [a,max a 1] [ql 1 (qp v1 n1) v0,ql 1 v0 v1] rfl u (Nat.le_max_left a 1)
theorem Af(v:a<=b)(w:¬a<b):b=a:=qE (λu=>a8 [a,b] [ql 1 (qp v0 n1) v1,ql 1 v1 v0] rfl u (bf w)) λu=>a8 [a,b] [ql 1 (qp v1 n1) v0,ql 1 v0 v1] rfl u v
theorem Ag(u:a<2):a<2:=u
theorem Ah(u:a<2):a<=16777216+1:=qA λv=>a8 [a] [ql 1 (qp (qp (qn 16777216) n1) n1) v0,ql 1 (qp v0 n1) n2] rfl v u
theorem Ai:¬a+1+1<2:=λu=>a8 [a] [ql 1 (qp (qp (qp v0 n1) n1) n1) n2] rfl u
theorem Aj(u:a+40*b+200<c):a+1<c:=qB λv=>a8 [a,b,c] [ql 1 v2 (qp v0 n1),ql 1 (qp (qp (qp v0 (qm 40 v1)) (qn 200)) n1) v2] rfl v u
theorem su(u:a=b+1):b<a:=qB λv=>a8 [a,b] [ql 1 v0 v1,qe 1 (qp v1 n1) v0] rfl v (aM u)
theorem Ak(u:a<b)(v:c=a+1)(x:d-1=a):c<=b:=qA λw=>a8 [a,b,c,d,d-1] [ql 1 (qp v0 n1) v1,ql 1 (qp v1 n1) v2,qe 1 v2 (qp v0 n1)] rfl u w v
theorem Al(u:a=b+1):a<=b+1:=qA λv=>a8 [a,b] [ql 1 (qp (qp v1 n1) n1) v0,qe 1 v0 (qp v1 n1)] rfl v u
theorem Am(u:a=a+2):False:=a8 [a] [qe 1 (qp v0 n2) v0] rfl (aM u)
theorem An(u:a+4*(b+1)<c):a+4*b<c:=qB λv=>a8 [a,b,c] [ql 1 v2 (qp v0 (qm 4 v1)),ql 1 (qp (qp v0 (qm 4 (qp v1 n1))) n1) v2] rfl v u
theorem Ao(u:a+40*(b+1)+200<c):a+1+40*b+200<c:=qB λv=>a8 [a,b,c] [ql 1 v2 (qp (qp (qp v0 n1) (qm 40 v1)) (qn 200)),ql 1 (qp (qp (qp v0 (qm 40 (qp v1 n1))) (qn 200)) n1) v2] rfl v u
theorem Ap(u:a<=b)(v:c<a)(w:d=c):d<=b:=qA λx=>a8 [a,b,c,d] [ql 1 (qp v2 n1) v0,ql 1 v0 v1,ql 1 (qp v1 n1) v3,qe 1 v3 v2] rfl v u x w
theorem Aq(u:a<=b)(v:c<a)(w:d=c):d+1<=b+1:=qA λx=>a8 [a,b,c,d] [ql 1 (qp v2 n1) v0,ql 1 v0 v1,ql 1 (qp (qp v1 n1) n1) (qp v3 n1),qe 1 v3 v2] rfl v u x w
theorem Ar(w:a-b=c+1)(u:b<a)(B:d=b):a-(b+1)=c:=qE (λv=>a8 [a,b,c,d,a-b,a-(b+1)] [ql 1 (qp v2 n1) v5,qe 1 (qp v5 (qp v1 n1)) v0,qe 1 v0 (qp v4 v1),qe 1 v4 (qp v2 n1)] rfl v (qS (qA λy=>a8 [a,b,c,d,a-b,a-(b+1)] [ql 1 (qp v1 n1) v0,ql 1 (qp v0 n1) (qp v1 n1)] rfl u y)) (aM (qS (qA λx=>a8 [a,b,c,d,a-b,a-(b+1)] [ql 1 (qp v1 n1) v0,ql 1 (qp v0 n1) v1] rfl u x))) w) λv=>a8 [a,b,c,d,a-b,a-(b+1)] [ql 1 (qp v5 n1) v2,qe 1 (qp v2 n1) v4,qe 1 (qp v4 v1) v0,qe 1 v0 (qp v5 (qp v1 n1))] rfl v (aM w) (qS (qA λz=>a8 [a,b,c,d,a-b,a-(b+1)] [ql 1 (qp v1 n1) v0,ql 1 (qp v0 n1) v1] rfl u z)) (aM (qS (qA λA=>a8 [a,b,c,d,a-b,a-(b+1)] [ql 1 (qp v1 n1) v0,ql 1 (qp v0 n1) (qp v1 n1)] rfl u A)))
theorem As:a-a=0:=qE (λu=>a8 [a,a-a] [ql 1 (qp n0 n1) v1,qe 1 (qp v1 v0) v0] rfl u (qS (qA λv=>a8 [a,a-a] [ql 1 (qp v0 n1) v0] rfl v))) λu=>a8 [a,a-a] [ql 1 (qp v1 n1) n0] rfl u
theorem At:a-0=a:=qE (λu=>a8 [a,a-0] [ql 1 (qp v0 n1) v1,qe 1 (qp v1 n0) v0] rfl u (qS (qA λv=>a8 [a,a-0] [ql 1 (qp v0 n1) n0] rfl v))) λu=>a8 [a,a-0] [ql 1 (qp v1 n1) v0,qe 1 v0 (qp v1 n0)] rfl u (aM (qS (qA λw=>a8 [a,a-0] [ql 1 (qp v0 n1) n0] rfl w)))
theorem Au(u:a+4*(b+1)<c):a+0+1+4*b<c:=qB λv=>a8 [a,b,c] [ql 1 v2 (qp (qp (qp v0 n0) n1) (qm 4 v1)),ql 1 (qp (qp v0 (qm 4 (qp v1 n1))) n1) v2] rfl v u
theorem NJ(u:a+40*(b+1)+200<c):a+1+1+1+0+3+40*b+200<c:=qB λv=>a8 [a,b,c] [ql 1 v2 (qp (qp (qp (qp (qp (qp (qp v0 n1) n1) n1) n0) n3) (qm 40 v1)) (qn 200)),ql 1 (qp (qp (qp v0 (qm 40 (qp v1 n1))) (qn 200)) n1) v2] rfl v u
theorem Av:a+1≠a:=λu=>a8 [a] [qe 1 (qp v0 n1) v0] rfl u
theorem Aw(u:a<b)(v:a=b):c<c:=qB λw=>a8 [a,b,c] [ql 1 (qp v0 n1) v1,qe 1 v1 v0] rfl u (aM v)
theorem Ax(u:a<b)(v:b<a):c<d:=qB λw=>a8 [a,b,c,d] [ql 1 (qp v1 n1) v0,ql 1 (qp v0 n1) v1] rfl v u
theorem Ay(v:a<0+1):a=0:=qE (λu=>a8 [a] [ql 1 (qp n0 n1) v0,ql 1 (qp v0 n1) (qp n0 n1)] rfl u v) λu=>a8 [a] [ql 1 (qp v0 n1) n0] rfl u
theorem Az(v:1<=a)(w:b=a):1<=a+1:=qA λu=>a8 [a,b] [ql 1 (qp (qp v0 n1) n1) n1] rfl u
theorem AA(u:a+b<=c)(w:d=b):a+(b+1)<=c+1:=qA λv=>a8 [a,b,c,d] [ql 1 (qp (qp v2 n1) n1) (qp v0 (qp v1 n1)),ql 1 (qp v0 v1) v2] rfl v u
theorem AB(u:a+b<=c+1)(v:c+1=d)(x:e=b):a+(b+1)<=d+1:=qA λw=>a8 [a,b,c,d,e] [ql 1 (qp (qp v3 n1) n1) (qp v0 (qp v1 n1)),ql 1 (qp v0 v1) (qp v2 n1),qe 1 (qp v2 n1) v3] rfl w u v
theorem AC(u:a+b<=c)(A:d=b):c+1-(b+1)=c-b:=qE (λv=>a8 [a,b,c,d,c+1 -(b+1),c-b] [ql 1 (qp v5 n1) v4,qe 1 (qp v4 (qp v1 n1)) (qp v2 n1),qe 1 v2 (qp v5 v1)] rfl v (qS (qA λw=>a8 [a,b,c,d,c+1 -(b+1),c-b] [ql 1 (qp v0 v1) v2,ql 1 (qp (qp v2 n1) n1) (qp v1 n1)] rfl u w)) (aM (qS (qA λx=>a8 [a,b,c,d,c+1 -(b+1),c-b] [ql 1 (qp v0 v1) v2,ql 1 (qp v2 n1) v1] rfl u x)))) λv=>a8 [a,b,c,d,c+1 -(b+1),c-b] [ql 1 (qp v4 n1) v5,qe 1 (qp v5 v1) v2,qe 1 (qp v2 n1) (qp v4 (qp v1 n1))] rfl v (qS (qA λz=>a8 [a,b,c,d,c+1 -(b+1),c-b] [ql 1 (qp v2 n1) v1,ql 1 (qp v0 v1) v2] rfl z u)) (aM (qS (qA λy=>a8 [a,b,c,d,c+1 -(b+1),c-b] [ql 1 (qp v0 v1) v2,ql 1 (qp (qp v2 n1) n1) (qp v1 n1)] rfl u y)))
theorem AD(u:a+b<=c+1)(v:c+1=d)(B:e=b):d+1-(b+1)=c+1-b:=qE (λw=>a8 [a,b,c,d,e,d+1 -(b+1),c+1 -b] [ql 1 (qp v6 n1) v5,qe 1 (qp v5 (qp v1 n1)) (qp v3 n1),qe 1 v3 (qp v2 n1),qe 1 (qp v2 n1) (qp v6 v1)] rfl w (qS (qA λx=>a8 [a,b,c,d,e,d+1 -(b+1),c+1 -b] [ql 1 (qp v0 v1) (qp v2 n1),qe 1 (qp v2 n1) v3,ql 1 (qp (qp v3 n1) n1) (qp v1 n1)] rfl u v x)) (aM v) (aM (qS (qA λy=>a8 [a,b,c,d,e,d+1 -(b+1),c+1 -b] [ql 1 (qp v0 v1) (qp v2 n1),ql 1 (qp (qp v2 n1) n1) v1] rfl u y)))) λw=>a8 [a,b,c,d,e,d+1 -(b+1),c+1 -b] [ql 1 (qp v5 n1) v6,qe 1 (qp v6 v1) (qp v2 n1),qe 1 (qp v2 n1) v3,qe 1 (qp v3 n1) (qp v5 (qp v1 n1))] rfl w (qS (qA λA=>a8 [a,b,c,d,e,d+1 -(b+1),c+1 -b] [ql 1 (qp (qp v2 n1) n1) v1,ql 1 (qp v0 v1) (qp v2 n1)] rfl A u)) v (aM (qS (qA λz=>a8 [a,b,c,d,e,d+1 -(b+1),c+1 -b] [ql 1 (qp v0 v1) (qp v2 n1),qe 1 (qp v2 n1) v3,ql 1 (qp (qp v3 n1) n1) (qp v1 n1)] rfl u v z)))
theorem AE:1<=0+1:=qA λu=>a8 [0] [ql 1 (qp (qp n0 n1) n1) n1] rfl u
theorem AF(u:a+(b+1)<=c+1):c+1-(b+1)+(b+1)<=c+1:=qA λv=>a8 [a,b,c,c+1 -(b+1)] [ql 1 (qp (qp v2 n1) n1) (qp v3 (qp v1 n1)),qe 1 (qp v3 (qp v1 n1)) (qp v2 n1)] rfl v (qS (qA λw=>a8 [a,b,c,c+1 -(b+1)] [ql 1 (qp (qp v2 n1) n1) (qp v1 n1),ql 1 (qp v0 (qp v1 n1)) (qp v2 n1)] rfl w u))
theorem AG(u:a<b)(v:c+(d+1)<=a+1):a+1-(d+1)+(d+1)<=b:=qA λw=>a8 [a,b,c,d,a+1 -(d+1)] [ql 1 (qp v0 n1) v1,ql 1 (qp v1 n1) (qp v4 (qp v3 n1)),qe 1 (qp v4 (qp v3 n1)) (qp v0 n1)] rfl u w (qS (qA λx=>a8 [a,b,c,d,a+1 -(d+1)] [ql 1 (qp v2 (qp v3 n1)) (qp v0 n1),ql 1 (qp (qp v0 n1) n1) (qp v3 n1)] rfl v x))
theorem AH(u:a+1<b+1):a<b:=qB λv=>a8 [a,b] [ql 1 v1 v0,ql 1 (qp (qp v0 n1) n1) (qp v1 n1)] rfl v u
theorem AI(u:a<b/\c<d):0<=a/\a<b↔0<=c/\c<d:=⟨λz=>⟨qA λv=>a8 [a,b,c,d] [ql 1 (qp v2 n1) n0] rfl v,qB λw=>a8 [a,b,c,d] [ql 1 v3 v2,ql 1 (qp v2 n1) v3] rfl w u.2⟩,λA=>⟨qA λx=>a8 [a,b,c,d] [ql 1 (qp v0 n1) n0] rfl x,qB λy=>a8 [a,b,c,d] [ql 1 v1 v0,ql 1 (qp v0 n1) v1] rfl y u.1⟩⟩
theorem AJ(x:a<=b)(u:a<=c)(v:c<b):a<b:=qB λw=>a8 [a,b,c] [ql 1 (qp v2 n1) v1,ql 1 v1 v0,ql 1 v0 v2] rfl v w u
theorem AK(u:a<=b/\b<c)(v:a<=b/\b<d):a<d:=qB λw=>a8 [a,b,c,d] [ql 1 v3 v0,ql 1 v0 v1,ql 1 (qp v1 n1) v3] rfl w u.1 v.2
theorem AL(x:a+b<=c)(u:d<c)(v:¬d<a+b):a+b<c:=qB λw=>a8 [a,b,c,d] [ql 1 (qp v3 n1) v2,ql 1 v2 (qp v0 v1),ql 1 (qp v0 v1) v3] rfl u w (bf v)
theorem AM(u:a<=b/\b<c)(v:d+e<=b/\b<c):d+e<c:=qB λw=>a8 [a,b,c,d,e] [ql 1 (qp v3 v4) v1,ql 1 (qp v1 n1) v2,ql 1 v2 (qp v3 v4)] rfl v.1 u.2 w
theorem AN(x:a<=b\/c<=d)(v:b<=e/\f<=c):a<=e\/f<=d:=gF λw=>Or.elim x (λy=>a8 [a,b,c,d,e,f] [ql 1 (qp v4 n1) v0,ql 1 v0 v1,ql 1 v1 v4] rfl (bI λu=>w (.inl u)) y v.1) λz=>a8 [a,b,c,d,e,f] [ql 1 v5 v2,ql 1 v2 v3,ql 1 (qp v3 n1) v5] rfl v.2 z (bI λu=>w (.inr u))
theorem AO:a<a+(2*(b-c)+1+0):=qB λu=>a8 [a,b,c,b-c] [ql 1 (qp v0 (qp (qp (qm 2 v3) n1) n0)) v0] rfl u
theorem AP(z:a≠0)(u:b<=c)(v:c+a<=d)(w:e<=2*(c-b)+1)(x:f<=2*(d-(c+a))+1):g+e+f<g+(2*(d-b)+1):=qB λy=>a8 [a,b,c,d,e,f,g,c-b,d-(c+a),d-b] [ql 2 (qp n0 n1) v0,ql 1 (qp v6 (qp (qm 2 v9) n1)) (qp (qp v6 v4) v5),ql 1 v4 (qp (qm 2 v7) n1),ql 1 v5 (qp (qm 2 v8) n1),qe 2 (qp v7 v1) v2,qe 2 (qp v8 (qp v2 v0)) v3,qe 2 v3 (qp v9 v1)] rfl (qO z) y w x (qS u) (qS v) (aM (qS (qA λA=>a8 [a,b,c,d,e,f,g,c-b,d-(c+a),d-b] [ql 1 (qp v6 (qp (qm 2 v9) n1)) (qp (qp v6 v4) v5),ql 1 v4 (qp (qm 2 v7) n1),ql 1 v5 (qp (qm 2 v8) n1),qe 2 (qp v7 v1) v2,qe 2 (qp v8 (qp v2 v0)) v3,ql 2 (qp v3 n1) v1] rfl y w x (qS u) (qS v) A)))
theorem AR(u:a≠0)(v:b+a<=c)(y:d≠0):b+(a-1)<c+0:=qB λw=>a8 [a,b,c,d,a-1] [ql 1 (qp v2 n0) (qp v1 v4),ql 1 (qp v1 v0) v2,qe 1 (qp v4 n1) v0] rfl w v (qS (qA λx=>a8 [a,b,c,d,a-1] [ql 1 (qp n0 n1) v0,ql 1 (qp v0 n1) n1] rfl (qO u) x))
theorem AS(x:a≠0)(u:b+(c-1)<d+0):b+c<=d:=qA λv=>a8 [a,b,c,d,c-1] [ql 1 (qp v3 n1) (qp v1 v2),ql 1 (qp (qp v1 v4) n1) (qp v3 n0),qe 1 v2 (qp v4 n1)] rfl v u (aM (qS (qA λw=>a8 [a,b,c,d,c-1] [ql 1 (qp v3 n1) (qp v1 v2),ql 1 (qp (qp v1 v4) n1) (qp v3 n0),ql 1 (qp v2 n1) n1] rfl v u w)))
theorem AT(u:a<=b)(v:c<a):c<b+d:=qB λw=>a8 [a,b,c,d] [ql 1 (qp v2 n1) v0,ql 1 v0 v1,ql 1 (qp v1 v3) v2] rfl v u w
theorem AU(u:a+b<=c\/c+d<=a)(v:a<c)(z:d≠0):a+b<=c:=qA λw=>Or.elim u (λx=>a8 [a,b,c,d] [ql 1 (qp v2 n1) (qp v0 v1),ql 1 (qp v0 v1) v2] rfl w x) λy=>a8 [a,b,c,d] [ql 1 (qp v2 v3) v0,ql 1 (qp v0 n1) v2] rfl y v
theorem AV(u:a<b+c)(v:¬a<b):a-b<c:=qB λw=>a8 [a,b,c,a-b] [ql 1 (qp v0 n1) (qp v1 v2),ql 1 v2 v3,qe 1 (qp v3 v1) v0] rfl u w (qS (bf v))
theorem AW(u:a<b)(v:b<=a):a<c:=qB λw=>a8 [a,b,c] [ql 1 v1 v0,ql 1 (qp v0 n1) v1] rfl v u
theorem iJ(u:a<b):0<b:=qB λv=>a8 [a,b] [ql 1 (qp v0 n1) v1,ql 1 v1 n0] rfl u v
theorem sv(u:a<=25)(v:b<=25):a+b<=51:=qA λw=>a8 [a,b] [ql 1 (qp (qn 51) n1) (qp v0 v1),ql 1 v0 (qn 25),ql 1 v1 (qn 25)] rfl w u v
theorem AX(u:a<=25)(w:b<=25):min a b<=25:=qA λv=>a8 [a,b,min a b] [ql 1 (qp (qn 25) n1) v2,ql 1 v2 v0,ql 1 v0 (qn 25)] rfl v (gM a b) u
theorem sw(u:a<b)(v:c<a):c<b:=qB λw=>a8 [a,b,c] [ql 1 (qp v2 n1) v0,ql 1 (qp v0 n1) v1,ql 1 v1 v2] rfl v u w
theorem sx(u:a<=51)(v:b<a):b<51:=qB λw=>a8 [a,b] [ql 1 (qn 51) v1,ql 1 (qp v1 n1) v0,ql 1 v0 (qn 51)] rfl w v u
theorem AY(w:a<=25)(x:b<=25)(u:a≠0)(y:c≠d):a+b≠0:=λv=>a8 [a,b,c,d] [ql 1 (qp n0 n1) v0,qe 1 (qp v0 v1) n0] rfl (qO u) v
theorem AZ(u:a<b)(v:a=b):False:=a8 [a,b] [ql 1 (qp v0 n1) v1,qe 1 v1 v0] rfl u (aM v)
theorem A1(u:a+b<c):c-(a+(b+1))<c-(a+b):=qB λv=>a8 [a,b,c,c-(a+(b+1)),c-(a+b)] [ql 1 v4 v3,qe 1 (qp v3 (qp v0 (qp v1 n1))) v2,qe 1 v2 (qp v4 (qp v0 v1))] rfl v (qS (qA λw=>a8 [a,b,c,c-(a+(b+1)),c-(a+b)] [ql 1 (qp v2 n1) (qp v0 (qp v1 n1)),ql 1 (qp (qp v0 v1) n1) v2] rfl w u)) (aM (qS (qA λx=>a8 [a,b,c,c-(a+(b+1)),c-(a+b)] [ql 1 (qp (qp v0 v1) n1) v2,ql 1 (qp v2 n1) (qp v0 v1)] rfl u x)))
theorem A2(u:a<=100)(v:b<=c)(w:c<=a):b<=100:=qA λx=>a8 [a,b,c] [ql 1 (qp (qn 100) n1) v1,ql 1 v1 v2,ql 1 v2 v0,ql 1 v0 (qn 100)] rfl x v w u
theorem Ba(u:a<=100)(v:b<=a):b<=100:=qA λw=>a8 [a,b] [ql 1 (qp (qn 100) n1) v1,ql 1 v1 v0,ql 1 v0 (qn 100)] rfl w v u
theorem Bb(u:a<=b):a+1<=2*(c-d)+1+b:=qA λv=>a8 [a,b,c,d,c-d] [ql 1 (qp (qp (qp (qm 2 v4) n1) v1) n1) (qp v0 n1),ql 1 v0 v1] rfl v u
theorem Bc(u:a+b<=51)(v:c<b):a+c<=51:=qA λw=>a8 [a,b,c] [ql 1 (qp (qn 51) n1) (qp v0 v2),ql 1 (qp v0 v1) (qn 51),ql 1 (qp v2 n1) v1] rfl w u v
theorem Bd(u:a+b<=51):a<=51:=qA λv=>a8 [a,b] [ql 1 (qp (qn 51) n1) v0,ql 1 (qp v0 v1) (qn 51)] rfl v u
theorem Be(u:a<=51)(v:b<=1):a+b<=60:=qA λw=>a8 [a,b] [ql 1 (qp (qn 60) n1) (qp v0 v1),ql 1 v0 (qn 51),ql 1 v1 n1] rfl w u v
theorem Bf(u:a<=51):a<=60:=qA λv=>a8 [a] [ql 1 (qp (qn 60) n1) v0,ql 1 v0 (qn 51)] rfl v u
theorem Bg(u:a<51)(v:b<=a):b<=51:=qA λw=>a8 [a,b] [ql 1 (qp (qn 51) n1) v1,ql 1 v1 v0,ql 1 (qp v0 n1) (qn 51)] rfl w v u
theorem Bh:a+1≠a+1+1:=λu=>a8 [a] [qe 1 (qp (qp v0 n1) n1) (qp v0 n1)] rfl (aM u)
theorem Bi(u:a<b)(w:c=b+1):b+1≠a:=λv=>a8 [a,b,c] [ql 1 (qp v0 n1) v1,qe 1 (qp v1 n1) v0] rfl u v
theorem Bj(u:a<=25):2*a<=50:=qA λv=>a8 [a] [ql 1 (qp (qn 50) n1) (qm 2 v0),ql 2 v0 (qn 25)] rfl v u
theorem Bk(u:a<=51):a<64:=qB λv=>a8 [a] [ql 1 (qn 64) v0,ql 1 v0 (qn 51)] rfl v u
theorem Bm(u:a<53)(v:b<=2*a):b<=106:=qA λw=>a8 [a,b] [ql 1 (qp (qn 106) n1) v1,ql 1 v1 (qm 2 v0),ql 2 (qp v0 n1) (qn 53)] rfl w v u
theorem Bn(u:a<=2*b+1):a<=2*(b+1):=qA λv=>a8 [a,b] [ql 1 (qp (qm 2 (qp v1 n1)) n1) v0,ql 1 v0 (qp (qm 2 v1) n1)] rfl v u
theorem Bo(u:a<53)(v:b<=2*a+1):b<=107:=qA λw=>a8 [a,b] [ql 1 (qp (qn 107) n1) v1,ql 1 v1 (qp (qm 2 v0) n1),ql 2 (qp v0 n1) (qn 53)] rfl w v u
theorem Bp(u:a<=2*b+1):a+1<=2*(b+1):=qA λv=>a8 [a,b] [ql 1 (qp (qm 2 (qp v1 n1)) n1) (qp v0 n1),ql 1 v0 (qp (qm 2 v1) n1)] rfl v u
theorem Bq(u:a<=2*b):a<=2*b+1:=qA λv=>a8 [a,b] [ql 1 (qp (qp (qm 2 v1) n1) n1) v0,ql 1 v0 (qm 2 v1)] rfl v u
theorem Br(u:a<=53)(v:b<a):b<53:=qB λw=>a8 [a,b] [ql 1 (qn 53) v1,ql 1 (qp v1 n1) v0,ql 1 v0 (qn 53)] rfl w v u
theorem Bt(u:a<=b)(v:c<a):c≠b:=λw=>a8 [a,b,c] [ql 1 (qp v2 n1) v0,ql 1 v0 v1,qe 1 v1 v2] rfl v u (aM w)
theorem Bu(w:a=b+1)(x:b=c)(u:d<b):d≠b:=λv=>a8 [a,b,c,d] [ql 1 (qp v3 n1) v1,qe 1 v1 v3] rfl u (aM v)
theorem Bv(u:a<=25):a<=51:=qA λv=>a8 [a] [ql 1 (qp (qn 51) n1) v0,ql 1 v0 (qn 25)] rfl v u
theorem Bw(w:a<=25)(x:b<=25)(u:a≠0):a+b≠0:=λv=>a8 [a,b] [ql 1 (qp n0 n1) v0,qe 1 (qp v0 v1) n0] rfl (qO u) v
theorem Bx(u:a<=25):min b a<=25:=qA λv=>a8 [a,b,min b a] [ql 1 (qp (qn 25) n1) v2,ql 1 v2 v0,ql 1 v0 (qn 25)] rfl v (gI b a) u
theorem By(w:a=b)(u:c<a):c≠a:=λv=>a8 [a,b,c] [ql 1 (qp v2 n1) v0,qe 1 v0 v2] rfl u (aM v)
theorem Bz(u:a<=25)(v:b<a)(x:c=b):b<=25:=qA λw=>a8 [a,b,c] [ql 1 (qp (qn 25) n1) v1,ql 1 (qp v1 n1) v0,ql 1 v0 (qn 25)] rfl w v u
theorem BA(w:a<=25)(u:b<c)(x:d=c+e)(y:e<a)(z:f=e)(A:g=c+(e+1)):b≠c+e:=λv=>a8 [a,b,c,d,e,f,g] [ql 1 (qp v1 n1) v2,qe 1 (qp v2 v4) v1] rfl u (aM v)
theorem BB(u:a<b)(w:c=b+d)(x:e=d)(y:f=b+(d+1)):a≠b+g:=λv=>a8 [a,b,c,d,e,f,g] [ql 1 (qp v0 n1) v1,qe 1 (qp v1 v6) v0] rfl u (aM v)
theorem BC(w:a<=25)(u:b<c)(x:d=c+e)(y:e<a)(z:f=e)(A:g=c+(e+1)):c+e≠b:=λv=>a8 [a,b,c,d,e,f,g] [ql 1 (qp v1 n1) v2,qe 1 (qp v2 v4) v1] rfl u v
theorem BD(x:a<=25)(u:b<=c)(y:d=c+e)(z:e<a)(A:f=e)(B:g=c+(e+1))(v:h<b):c+e≠h:=λw=>a8 [a,b,c,d,e,f,g,h] [ql 1 (qp v7 n1) v1,ql 1 v1 v2,qe 1 (qp v2 v4) v7] rfl v u w
theorem BE(y:a=b)(v:¬c=b):d+b≠d+c:=λu=>qN v (λw=>a8 [a,b,c,d] [ql 1 (qp v2 n1) v1,qe 1 (qp v3 v1) (qp v3 v2)] rfl w u) λx=>a8 [a,b,c,d] [ql 1 (qp v1 n1) v2,qe 1 (qp v3 v2) (qp v3 v1)] rfl x (aM u)
theorem BF(z:a=b)(u:c<b+1)(v:¬c=b):c<b:=qB λw=>qN v (λx=>a8 [a,b,c] [ql 1 (qp v2 n1) v1,ql 1 v1 v2] rfl x w) λy=>a8 [a,b,c] [ql 1 (qp v1 n1) v2,ql 1 (qp v2 n1) (qp v1 n1)] rfl y u
theorem bT1(u:a<b):a≠b:=λv=>a8 [a,b] [ql 1 (qp v0 n1) v1,qe 1 v1 v0] rfl u (aM v)
theorem BG(u:a<b)(v:c=b)(x:d=e)(y:f=c+1+e):a≠c:=λw=>a8 [a,b,c,d,e,f] [ql 1 (qp v0 n1) v1,qe 1 v1 v2,qe 1 v2 v0] rfl u (aM v) (aM w)
theorem bT3(u:a<b)(v:c=b)(x:d=e)(y:f=c+1+e)(z:g=f):a≠c:=λw=>a8 [a,b,c,d,e,f,g] [ql 1 (qp v0 n1) v1,qe 1 v1 v2,qe 1 v2 v0] rfl u (aM v) (aM w)
theorem bT4(y:a<=25)(u:b<c)(v:d=c)(z:e=a)(w:f=d+1+a)(A:g=f):b≠f:=λx=>a8 [a,b,c,d,e,f,g] [ql 1 (qp v1 n1) v2,qe 1 v2 v3,qe 1 (qp (qp v3 n1) v0) v5,qe 1 v5 v1] rfl u (aM v) (aM w) (aM x)
theorem bT5(u:a<b)(v:c=b)(x:d=e)(y:f=c+1+e)(z:g=f):a≠c+1+h:=λw=>a8 [a,b,c,d,e,f,g,h] [ql 1 (qp v0 n1) v1,qe 1 v1 v2,qe 1 (qp (qp v2 n1) v7) v0] rfl u (aM v) (aM w)
theorem bT6(u:a=b)(x:c=d)(y:e=a+1+d)(z:f=e)(v:g<b):g≠a:=λw=>a8 [a,b,c,d,e,f,g] [ql 1 (qp v6 n1) v1,qe 1 v1 v0,qe 1 v0 v6] rfl v (aM u) (aM w)
theorem BH(u:a<b)(v:c=b):a≠c:=λw=>a8 [a,b,c] [ql 1 (qp v0 n1) v1,qe 1 v1 v2,qe 1 v2 v0] rfl u (aM v) (aM w)
theorem BI(u:a<b)(v:c=b):a≠c+1+d:=λw=>a8 [a,b,c,d] [ql 1 (qp v0 n1) v1,qe 1 v1 v2,qe 1 (qp (qp v2 n1) v3) v0] rfl u (aM v) (aM w)
end
end Mine.Internal
open PySem PySem.W PyProof.Rows PySem.W.X
namespace Mine.Internal
theorem NK{x y:Nat}(h:y<=x):((x:Nat):Int)-((y:Nat):Int)=((x-y:Nat):Int):=(Int.ofNat_sub h).symm
theorem BJ(a b:Nat):min (a:Int) (b:Int)=((min a b:Nat):Int):=(Nat.le_total a b).elim λh=>by rw[gN h,Int.min_eq_left (Int.ofNat_le.mpr h)] λh=>by rw[Nat.min_eq_right h,Int.min_eq_right (Int.ofNat_le.mpr h)]
theorem sy{i k:Nat}(h:k+1<=i+1):(i:Int)-((k:Nat)+1:Int)+1=((i+1-(k+1):Nat):Int):=by rw[Nat.add_sub_add_right,Int.ofNat_sub (Nat.le_of_succ_le_succ h),<-Int.sub_sub,Int.sub_add_cancel]
theorem NL{n a b:Nat}(h:a≠b):n+a≠n+b:=λe=>h (Nat.add_left_cancel e)
theorem BK{n:Nat}(a:n≠0):((n-1:Nat):Int)+1=(n:Int):=congrArg Int.ofNat (Nat.sub_add_cancel (Nat.pos_of_ne_zero a))
theorem iK{n:Nat}(h:0<n):((n:Nat):Int)-1=((n-1:Nat):Int):=(Int.ofNat_sub h).symm
theorem sA{n:Nat}(h:n<=100):-2^61 <=((n:Nat):Int)/\((n:Nat):Int)<2^61:=⟨Int.le_trans (by decide) (aW n),Int.lt_of_le_of_lt (Int.ofNat_le.mpr h) (by decide)⟩
theorem nZ{n k m l:Nat}(c:0<n)(h:n+k<=m)(w:m<=l):n-1<l:=aB (Nat.sub_lt c Nat.one_pos) (ad (ad (aU n k) h) w)
theorem BL(k:Nat):-((k+1:Nat):Int)<=-1/\(-1:Int)<((k+1:Nat):Int):=⟨Int.neg_le_neg (Int.ofNat_le.mpr (Nat.succ_pos k)),Int.lt_of_lt_of_le (by decide) (aW _)⟩
theorem NM(k:Nat):seqIndex? (-1) (k+1)=some k:=by rw[seqIndex_neg (by decide) (BL k).1,Int.natCast_succ,Int.add_comm (k:Int) 1,Int.neg_add_cancel_left];rfl
theorem sB{x y:Int}(a:0<=x)(b:0<=y):x<y↔x.toNat<y.toNat:=((Int.toNat_lt a).trans (by rw[Int.toNat_of_nonneg b])).symm
theorem BM{k:Nat}:-(2^63:Int)<=(k:Int):=Int.le_trans (by decide) (aW k)
theorem sC{i:Int}(a:-(2^63:Int)<=i)(b:i<2^63):(decide (-(2^63:Int)<=i)&&decide (i<2^63))=true:=by rw[decide_eq_true a,decide_eq_true b];rfl
theorem lu{n:Nat}(h:n<=aF):(n:Int)<2^63:=Int.lt_of_le_of_lt (Int.ofNat_le.mpr h) (by decide)
theorem jN{i:Int}(h:i<2^62):i<2^63:=Int.lt_trans h (by decide)
theorem BN{k n:Nat}(h:k<n):seqIndex? (k:Int) n=some k:=by unfold seqIndex?;dsimp only;rw[if_neg (Int.not_lt.mpr (aW k)),decide_eq_true (aW k),decide_eq_true (aQ.mpr h)];rfl
theorem BO{a b c e:Nat}:((a+b:Nat):Int)-(a:Nat)<((c+e:Nat):Int)-(c:Nat)↔b<e:=by rw[Int.natCast_add,Int.natCast_add,Int.add_comm (a:Int) b,Int.add_sub_cancel,Int.add_comm (c:Int) e,Int.add_sub_cancel];exact aQ
theorem sD{a b c:Nat}(h:a+b=c):(a:Int)+(b:Int)=(c:Int):=congrArg (λn:Nat=>(n:Int)) h
theorem sE{a j:Nat}:(a:Int)=(j:Int)-1↔a+1=j:=⟨λh=>Int.ofNat_inj.mp (by rw[Int.natCast_succ,h,Int.sub_add_cancel]),λh=>by rw[<-h,Int.natCast_succ,Int.add_sub_cancel]⟩
end Mine.Internal
end
section
set_option autoImplicit false
namespace Mine.Internal
theorem sF{a:Nat}(b:a<=1000):20001+a<=1114111:=ad (cR b 20001) (by decide)
theorem sG{a:Nat}{b:Nat}(e:a<3)(c:b=0)(d:b=1+a\/b=4+a\/b=7+a):False:=d.elim (λh=>Nat.succ_ne_zero a ((Nat.add_comm a 1).trans (h.symm.trans c))) λh=>h.elim (λh=>Nat.succ_ne_zero (a+3) ((Nat.add_comm a 4).trans (h.symm.trans c))) λh=>Nat.succ_ne_zero (a+6) ((Nat.add_comm a 7).trans (h.symm.trans c))
theorem sH{a:Nat}(c:a<3)(b:0=1+a):False:=Nat.succ_ne_zero a ((Nat.add_comm a 1).trans b.symm)
theorem sJ{a:Nat}(b:a=8):2<=a/\a<=8:=⟨ad (by decide:2<=8) (Nat.le_of_eq b.symm),Nat.le_of_eq b⟩
theorem BP{a:Nat}{b:Nat}{c:Nat}(d:a+4*(b+2)<c):a+4*(b+1)<c:=Nat.lt_of_le_of_lt (cR (Nat.mul_le_mul_left 4 (aN _)) a) d
theorem BR{a:Nat}{b:Nat}{c:Nat}(d:a+40*b+200<c):a+2<c:=Nat.lt_of_le_of_lt (cR (ad (by decide:2<=200) (Nat.le_add_left 200 (40*b))) a) (Nat.add_assoc a (40*b) 200▸d)
theorem BS{a:Nat}{b:Nat}{c:Nat}{d:Nat}{e:Nat}{f:Nat}{g:Nat}(i:a<=b+c)(j:d<=e)(h:b<f/\c<g):a+(d+1)<=e+1*(f+g):=by rw[Nat.add_left_comm a d 1,Nat.one_mul];exact Nat.add_le_add j (Nat.lt_of_le_of_lt i (Nat.add_lt_add h.1 h.2))
theorem BU{a:Nat}{b:Nat}{c:Nat}{d:Nat}{e:Nat}{f:Nat}{g:Nat}(j:a<=b)(k:c<=d)(h:e<=f-(b+1)+(g-(d+1)))(i:b<f/\d<g):b-a+(d-c)+(e+1)<=f-a+(g-c):=by obtain⟨x,rfl⟩:=Nat.le.dest j;obtain⟨y,rfl⟩:=Nat.le.dest k;obtain⟨p,rfl⟩:=Nat.le.dest i.1;obtain⟨q,rfl⟩:=Nat.le.dest i.2;rw[Nat.add_sub_cancel_left,Nat.add_sub_cancel_left]at h;show a+x-a+(c+y-c)+(e+1)<=a+x+1+p-a+(c+y+1+q-c);rw[Nat.add_sub_cancel_left,Nat.add_sub_cancel_left,Nat.add_assoc a x 1,Nat.add_assoc a (x+1) p,Nat.add_sub_cancel_left,Nat.add_assoc c y 1,Nat.add_assoc c (y+1) q,Nat.add_sub_cancel_left,Nat.add_add_add_comm (x+1) p,Nat.add_add_add_comm x 1 y 1,Nat.add_assoc (x+y) (1+1)];exact cR (ad (ad (bo h) (aN _)) (Nat.le_of_eq (Nat.add_comm (p+q) 2))) (x+y)
theorem BV{a:Nat}(b:a<3):1+a≠0:=Nat.add_comm a 1▸Nat.succ_ne_zero a
theorem BW{a:Nat}(b:a<3):4+a≠0:=Nat.add_comm a 4▸Nat.succ_ne_zero (a+3)
theorem BX{a:Nat}(b:a<3):7+a≠0:=Nat.add_comm a 7▸Nat.succ_ne_zero (a+6)
theorem BY{a:Nat}:10+2*a+1=11+2*a:=Nat.add_right_comm 10 (2*a) 1
theorem BZ{a:Nat}(b:a=1\/a=2\/a=3\/a=4\/a=5\/a=9\/a=16\/a=19):a<=19:=by rcases b with h|h|h|h|h|h|h|h<;>(rw[h];decide)
theorem B1{a:Nat}{b:Nat}(c:19<a)(d:b<=19):b<a:=Nat.lt_of_le_of_lt d c
theorem Ca{a:Nat}(b:a=1\/a=2\/a=3\/a=4\/a=5\/a=19):a=1\/a=2\/a=3\/a=4\/a=5\/a=9\/a=16\/a=19:=b.imp_right (.imp_right (.imp_right (.imp_right (.imp_right λh=>.inr (.inr h)))))
theorem Cb{a:Nat}(b:a=1\/a=2\/a=3\/a=4\/a=5\/a=19):a≠9:=λq=>(by decide:¬((9:Nat)=1\/(9:Nat)=2\/(9:Nat)=3\/(9:Nat)=4\/(9:Nat)=5\/(9:Nat)=19)) (q▸b)
theorem Cc{a:Nat}(b:a=1\/a=2\/a=3\/a=4\/a=5\/a=19):a≠16:=λq=>(by decide:¬((16:Nat)=1\/(16:Nat)=2\/(16:Nat)=3\/(16:Nat)=4\/(16:Nat)=5\/(16:Nat)=19)) (q▸b)
theorem Cd{a:Nat}{b:Nat}{c:Nat}{d:Nat}(f:a<3)(g:b=4+a)(h:c=7+a)(e:d=0):d≠1+a:=λq=>Nat.succ_ne_zero a ((Nat.add_comm a 1).trans (q.symm.trans e))
theorem Ce{a:Nat}{b:Nat}{c:Nat}{d:Nat}(f:a<3)(g:b=4+a)(h:c=7+a)(e:d=0):d≠4+a:=λq=>Nat.succ_ne_zero (a+3) ((Nat.add_comm a 4).trans (q.symm.trans e))
theorem Cf{a:Nat}{b:Nat}{c:Nat}{d:Nat}(f:a<3)(g:b=4+a)(h:c=7+a)(e:d=0):d≠7+a:=λq=>Nat.succ_ne_zero (a+6) ((Nat.add_comm a 7).trans (q.symm.trans e))
theorem Cg{a:Nat}{b:Nat}{c:Nat}{d:Nat}{e:Nat}(f:a<3)(j:b=4+a)(k:c=7+a)(l:d<3)(g:¬d=a)(i:e=1+d\/e=4+d\/e=7+d):e≠1+a:=λq=>i.elim (λh=>g (Nat.add_left_cancel (h.symm.trans q))) λh=>h.elim (λh=>absurd (Nat.add_left_cancel ((q.symm.trans h).trans (Nat.add_assoc 1 3 d))) λz=>bl.mpr (aU 3 d) (z▸f)) λh=>absurd (Nat.add_left_cancel ((q.symm.trans h).trans (Nat.add_assoc 1 6 d))) λz=>bl.mpr (ad (by decide:3<=6) (aU 6 d)) (z▸f)
theorem Ch{a:Nat}{b:Nat}{c:Nat}{d:Nat}{e:Nat}(f:a<3)(k:b=4+a)(l:c=7+a)(g:d<3)(i:¬d=a)(j:e=1+d\/e=4+d\/e=7+d):e≠4+a:=λq=>j.elim (λh=>absurd (Nat.add_left_cancel ((h.symm.trans q).trans (Nat.add_assoc 1 3 a))) λz=>bl.mpr (aU 3 a) (z▸g)) λh=>h.elim (λh=>i (Nat.add_left_cancel (h.symm.trans q))) λh=>absurd (Nat.add_left_cancel ((q.symm.trans h).trans (Nat.add_assoc 4 3 d))) λz=>bl.mpr (aU 3 d) (z▸f)
theorem Ci{a:Nat}{b:Nat}{c:Nat}{d:Nat}{e:Nat}(j:a<3)(k:b=4+a)(l:c=7+a)(f:d<3)(g:¬d=a)(i:e=1+d\/e=4+d\/e=7+d):e≠7+a:=λq=>i.elim (λh=>absurd (Nat.add_left_cancel ((h.symm.trans q).trans (Nat.add_assoc 1 6 a))) λz=>bl.mpr (ad (by decide:3<=6) (aU 6 a)) (z▸f)) λh=>h.elim (λh=>absurd (Nat.add_left_cancel ((h.symm.trans q).trans (Nat.add_assoc 4 3 a))) λz=>bl.mpr (aU 3 a) (z▸f)) λh=>g (Nat.add_left_cancel (h.symm.trans q))
theorem Cj{a:Nat}{b:Nat}{c:Nat}(d:16<a)(e:b=a+1)(f:c=a+1):9<a+1:=fk (by decide) (df d)
theorem Ck{a:Nat}{b:Nat}(c:a=b+1):b+2=a+1:=congrArg (·+1) c.symm
theorem Cl{a:Nat}{b:Nat}{c:Nat}{d:Nat}(e:a=b+1)(g:c=b+3)(f:d<b):d<a:=e▸df f
theorem Cm{a:Nat}{b:Nat}{c:Nat}(d:16<a)(e:b=a+1)(f:c=a+3):9<b:=e▸fk (by decide) (df d)
theorem Cn{a:Nat}{b:Nat}(c:16<a)(d:b=a+3):a+1≠16:=cG (df c)
theorem Co{a:Nat}{b:Nat}(c:16<a)(d:b=a+3):a+2≠16:=cG (df (df c))
theorem Cp{a:Nat}{b:Nat}(c:16<a)(d:b=a+3):a≠16:=cG c
theorem Cq{a:Nat}:¬a+1<a:=bl.mpr (aN a)
theorem Cr{a:Nat}:¬a+1=a:=Nat.succ_ne_self a
theorem Cs{a:Nat}:¬a+2<a:=bl.mpr (aU a 2)
theorem Ct{a:Nat}:¬a+2=a:=cG (Nat.lt_add_of_pos_right (by decide))
theorem Cu{a:Nat}:¬a+2=a+1:=Nat.succ_ne_self (a+1)
theorem Cv{a:Nat}{b:Nat}(c:16<a)(d:b=a+3):16<b:=d▸aB c (aU a 3)
theorem Cw{a:Nat}(b:a<3):0≠1+a:=λq=>Nat.succ_ne_zero a ((Nat.add_comm a 1).trans q.symm)
theorem Cx{a:Nat}:4+a≠1+a:=λq=>absurd (Nat.add_right_cancel q) (by decide)
theorem Cy{a:Nat}:7+a≠1+a:=λq=>absurd (Nat.add_right_cancel q) (by decide)
theorem Cz{a:Nat}(c:a<3)(b:0=4+a):False:=Nat.succ_ne_zero (a+3) ((Nat.add_comm a 4).trans b.symm)
theorem CA{a:Nat}(c:a<3)(b:0=7+a):False:=Nat.succ_ne_zero (a+6) ((Nat.add_comm a 7).trans b.symm)
theorem CB{a:Nat}(b:7+a=4+a):False:=absurd (Nat.add_right_cancel b) (by decide)
theorem CC{a:Nat}(b:4+a=1+a):False:=absurd (Nat.add_right_cancel b) (by decide)
theorem CD{a:Nat}(b:7+a=1+a):False:=absurd (Nat.add_right_cancel b) (by decide)
theorem CE{a:Nat}{b:Nat}{c:Nat}(d:a<=b)(e:c<=a):¬b<c:=bl.mpr (ad e d)
theorem CF{a:Nat}{b:Nat}(c:a<=b):¬b<a:=bl.mpr c
theorem CG{a:Nat}{b:Nat}(c:a<=b-1)(d:0<b):a+1<=b+1-1:=ad (bo c) (Nat.le_of_eq (Nat.sub_add_cancel d))
theorem CH{a:Nat}{b:Nat}(c:a<=b-1)(d:0<b)(e:b<=16):a+1<=17-1:=ad (ad (bo c) (Nat.le_of_eq (Nat.sub_add_cancel d))) e
theorem CI{a:Int}(b:0<=a)(c:a<2)(d:¬a=0):a=1:=Int.le_antisymm (Int.lt_add_one_iff.mp c) (Int.lt_iff_le_and_ne.mpr ⟨b,λq=>d q.symm⟩)
theorem CK{a:Int}(b:a<2)(c:5<=a):¬5<=a:=λh=>absurd (Int.lt_of_le_of_lt h b) (by decide)
theorem CL{a:Int}(b:a=2)(c:5<=a):¬5<=a:=λh=>absurd (b▸h) (by decide)
theorem CM{a:Int}(b:a=3)(c:5<=a):¬5<=a:=λh=>absurd (b▸h) (by decide)
theorem CN{a:Int}(b:a=4)(c:5<=a):¬5<=a:=λh=>absurd (b▸h) (by decide)
theorem CO{a:Nat}{b:Nat}{c:Nat}{d:Nat}{e:Nat}(f:a=b)(g:a<c)(h:c<=b):d=e:=absurd g (bl.mpr (f▸h))
theorem CP{a:Nat}{b:Nat}{c:Nat}{d:Nat}{e:Nat}(f:a=b)(g:c<=a)(h:b<c):d=e:=absurd h (bl.mpr (f▸g))
theorem CQ:0<=17:=bq 17
theorem CR{a:Nat}{b:Nat}(c:a+3<3*(b+1)):a<3*b:=Nat.lt_of_add_lt_add_right (n:=3) c
theorem CS{a:Nat}{b:Nat}(c:a<=b)(d:b<a+51):b-a<3*17:=(Nat.sub_lt_iff_lt_add c).mpr (Nat.add_comm a 51▸d)
theorem CT{a:Int}(b:a=5):5<=a:=b▸Int.le_refl 5
theorem CU{a:Nat}{b:Nat}{c:Nat}(d:a=b)(e:c<b):c<a:=d▸e
theorem CV{a:Nat}(b:a<=256):a<=16777216:=ad b (by decide)
theorem CW{a:Nat}{b:Nat}{c:Nat}(d:a+40*(b+1)+200<c):a+1+0+3+40*b+200<c:=Nat.lt_of_le_of_lt (Nat.add_le_add_right (ad (Nat.le_of_eq (Nat.add_right_comm a 4 (40*b))) (ad (cR (by decide:4<=40) (a+40*b)) (Nat.le_of_eq (Nat.add_assoc a (40*b) 40)))) 200) d
theorem CX{a:Nat}{b:Nat}{c:Nat}(d:a<b)(e:b<=c):a≠c:=aP (aB d e)
theorem CY{a:Nat}{b:Nat}{c:Nat}(d:a+4*(b+2)<c):a+0+4*(b+1)<c:=Nat.lt_of_le_of_lt (cR (Nat.mul_le_mul_left 4 (aN _)) a) d
theorem CZ{a:Nat}{b:Nat}{c:Nat}(d:a+40*(b+2)+200<c):a+1+40*(b+1)+200<c:=Nat.lt_of_le_of_lt (Nat.add_le_add_right (ad (Nat.le_of_eq (Nat.add_right_comm a 1 (40*(b+1)))) (ad (cR (by decide:1<=40) (a+40*(b+1))) (Nat.le_of_eq (Nat.add_assoc a (40*(b+1)) 40)))) 200) d
theorem C1{a:Nat}{b:Nat}{c:Nat}(d:a+40*(b+2)+200<c):a+40*(b+1)+200<c:=Nat.lt_of_le_of_lt (Nat.add_le_add_right (cR (Nat.mul_le_mul_left 40 (aN _)) a) 200) d
theorem Da{a:Int}{b:Int}{c:Int}(d:-a<=b)(e:b<a)(f:0<=b)(g:b< -c):c<=b:=by omega
theorem oa{r:Nat}(h:r<3):(r:Int)<3:=aQ.mpr h
theorem sK{r:Nat}(h:r<3):(r:Int)<2^62:=Int.lt_trans (oa h) (by decide)
theorem sL{n:Nat}(h:2<=n):(0:Int)<n:=aQ.mpr (aB (by decide) h)
theorem Db{n:Nat}(h:2<=n):(n:Int)≠0:=Int.ne_of_gt (sL h)
theorem Dc{n:Nat}{j:Int}(h:n<=8)(k:j<n):j<2^62:=Int.lt_trans (Int.lt_of_lt_of_le k (Int.ofNat_le.mpr h)) (by decide)
end Mine.Internal
end
section
open PySem PySem.W PyProof.Rows
namespace Mine.Internal
structure iL(s:NR)(fs:List Frame)(code:Code)(g:Bool):Prop where
 a:fs.any Frame.guarded=false
 d:g=true->∀s':NR,s'.heap=s.heap->s'.heap.life.registered=[]->closingShows s' [] code true=false
theorem iL.shows{s:NR}{fs:List Frame}{a:Code}{g:Bool}(h:iL s fs a g)(b:s.heap.life.registered=[]):closingShows s fs a g=false:=by cases g with|false=>unfold closingShows;rw[h.a];rfl|true=>have:=h.d rfl s rfl b;unfold closingShows at this⊢;rw[h.a];exact this
inductive av(s:NR):Thread->Prop|mk{v:NS}{g:Bool}{l:List NS}{k:Resume->Sem Fin}{code:Code}{pos:Pos}{stack fs rest:List Frame}{b}(h:splitAtGen stack=some (fs,b,rest))(c:iL s fs code g):av s ⟨.yield v g l k,code,pos,stack⟩
def lw(s:NR)(t:Thread):Prop:=t.calm=true\/av s t
inductive Ev(den:Code->Sem Fin)(prog:Program)(w:NQ)(Φ:NR->Thread->Prop):NR->Thread->Prop|now{s t}:Φ s t->Ev den prog w Φ s t|step{s t s' t'}:lw s t->stepK den prog w s t=.go s' t'->Ev den prog w Φ s' t'->Ev den prog w Φ s t
section
variable{den:Code->Sem Fin}{prog:Program}{w:NQ}
theorem Dd(a:Profile)(s:NR)(t:Thread)(h:av s t):(eN s t).moves a=[.run 0]:=by cases h;exact ite_self _
theorem De(s:NR)(t:Thread)(h:av s t)(a:s.heap.life.registered=[]):(eN s t).pick w=.ok (.run 0,.single s t):=by
 have b:(eN s t).collect? w.params=none:=by simp[Config.collect?,eN,(nothing_to_collect _ _ _ s t a).1]
 have c:(eN s t).collectable=[]:=by simp[Config.collectable,eN,(nothing_to_collect w.params _ _ s t a).2]
 simp only[Config.pick,b,c,Config.pickThread,Dd _ s t h];cases w.params.lifetimes<;>simp
theorem Df(a:List NS)(s:NR)(t:Thread)(h:av s t)(hz:s.asleep):lifeStep den prog w a s t=step den prog w s t:=by
 cases h with|mk d b=>?_;refine d7 hz λe c=>?_;clear hz;have b:=b.shows e;unfold lifeStep;split;·simp[collectorTurn?,d,b,Thread.atItsEnd,stepCounting,c]
 ·simp[stepCounting,c]
theorem Dg(s:NR)(t:Thread)(h:av s t)(j:∀a,lifeStep den prog w a s t=step den prog w s t):(eN s t).run den prog w 0=(step den prog w s t).lift:=by
 cases h with|@mk v g l k d f c fs rest b r u=>?_;have n:(if Thread.special ⟨.yield v g l k,d,f,c⟩=true then Config.others ⟨s,#[.live ⟨.yield v g l k,d,f,c⟩],0⟩ 0 else some [])=some []:=by rw[others_single];exact ite_self _
 have m:∀(o:Option (List NS))(x:Step),o=some []->(∀a,lifeStep den prog w a s ⟨.yield v g l k,d,f,c⟩=x)->(match o with|none=>SStep.halt (.stuck "scheduler: the collector is at work while another thread does not tell what it holds") s|some a=>match lifeStep den prog w a s ⟨.yield v g l k,d,f,c⟩with|.go i q=>SStep.go ⟨i,(#[.live ⟨.yield v g l k,d,f,c⟩]:Array ThreadState).setIfInBounds 0 (.live q),0⟩|.halt o i=>.halt o i)=x.lift:=λo x e p=>by subst e;dsimp only;rw[p];cases x<;>rfl
 exact m _ _ n j
theorem Dh(s:NR)(t:Thread){s' t'}(h:lw s t)(a:s.asleep)(e:step den prog w s t=.go s' t'):sstep den prog w (.single s t)=.go (.single s' t'):=by
 refine h.elim (λh=>?_) λh=>?_
 · rcases sstep_single den prog w s t h a with q|q;·rw[q,e];rfl
   ·rw[q]at e;injection e
 ·have b:=λo=>Df (den:=den) (prog:=prog) (w:=w) o s t h a;simp only[sstep,De s t h a.1,Config.move,Dg s t h b];rw[e];rfl
theorem Di(E:s2.forget=s.forget)(f:t2.forget=t.forget)(h:av s t):av s2 t2:=by refine d7 (NR.forget_eq E) λy _=>?_;cases h with|@mk v g l k n F c fs rest b u p=>?_;obtain⟨o,d,r,a⟩:=t2;simp only[Thread.forget,Thread.mk.injEq]at f;refine m6 f λi j m e=>?_;clear f;subst i;subst j;subst m;have q:=splitAtGen_forgetAll a;rw[e,splitAtGen_forgetAll c,u]at q;refine a9 (bE.mp q.symm) λx B C=>?_;have D:forgetAll x.1=forgetAll fs:=congrArg Prod.fst C;exact .mk (fs:=x.1) (b:=x.2.1) (rest:=x.2.2) B ⟨by rw[<-any_guarded_forgetAll,D,any_guarded_forgetAll];exact p.a,λz G A=>p.d z G (A.trans y)⟩
theorem Dj(b:s2.forget=s.forget)(a:t2.forget=t.forget)(h:lw s t):lw s2 t2:=h.imp (λh=>by rw[<-Thread.calm_forget,a,Thread.calm_forget];exact h) (Di b a)
theorem Ev.real{s t}(h:Ev den prog w Φ s t):∀f i,f.forget=s.forget->i.forget=t.forget->f.asleep->∃n s' t' l d,schedN den prog w n (.single f i)=.running (.single l d)/\l.forget=s'.forget/\d.forget=t'.forget/\Φ s' t'/\l.heap.life=f.heap.life:=by induction h with|now h=>exactλf i p q r=>rC 0 _ _ f i rfl p q h rfl |@step s t s' t' c e _ C=>
  intro f i p q r;have k:(PySem.step den prog w f i).forget=(Step.go s' t').forget:=by rw[step_same den prog w p q,<-stepK_forget,e]
  cases j:PySem.step den prog w f i with|halt o x=>rw[j]at k;injection k|go l d=>rw[j]at k;simp only[Step.forget,Step.go.injEq]at k;have g:=step_life den prog w f l i d j;refine q5 (C l d k.1 k.2 (NR.asleep_of_life g r)) λn a b m D v y z A B=>?_;refine rC (n+1) a b m D ?_ y z A (B.trans g);show(match sstep den prog w (.single f i)with|.go u=>schedN den prog w n u|.halt o s=>.halted o s)=_;rw[Dh f i (Dj p q c) r j];exact v
theorem Dk(n k:Nat)(c c':Config)(h:schedN den prog w n c=.running c'):schedN den prog w (n+k) c=schedN den prog w k c':=by induction n generalizing c with|zero=>injection h with h;subst h;rw[fQ]|succ n a=>rw[Nat.succ_add];replace h:(match sstep den prog w c with|.go c'=>schedN den prog w n c'|.halt o s=>.halted o s)=.running c':=h;show(match sstep den prog w c with|.go c'=>schedN den prog w (n+k) c'|.halt o s=>.halted o s)=_;cases q:sstep den prog w c with|go x=>rw[q]at h;exact a _ h|halt o s=>rw[q]at h;injection h
theorem Ev.halts{R:cz->NR->Prop}{s t}(h:Ev den prog w (λs' t'=>∃r c p,t'=⟨leafOf r,c,p,[]⟩/\leftWithCleanup s'.gens=false/\R r s') s t)(C:s.asleep):∃n r s' i,schedN den prog w n (.single s t)=.halted (outcomeOf r) s'/\s'.forget=i.forget/\s'.heap.life=s.heap.life/\R r i:=by
 refine q5 (h.real s t rfl rfl C) λn s' t' a b I A k m B=>?_;obtain⟨r,c,p,rfl,K,J⟩:=m;have L:b=⟨leafOf r,c,p,[]⟩:=by obtain⟨H,y,M,f⟩:=b;simp only[Thread.forget,Thread.mk.injEq,forgetAll_nil]at k;refine m6 k λu v x e=>?_;clear k;subst u;subst v;subst x;cases f with|nil=>rfl|cons _ _=>exact by injection e
 subst L;have l:leftWithCleanup a.gens=false:=by rw[leftWithCleanup_of_forget_eq A];exact K
 have F:a.asleep:=NR.asleep_of_life B C;have g:PySem.step den prog w a ⟨leafOf r,c,p,[]⟩=.halt (outcomeOf r) a:=by obtain⟨D,z,j,E,N⟩:=a;cases r<;>(show finish _ _=_;unfold finish;rw[if_neg (by rw[l];decide)];rfl)
 refine Z8 (n+1) r a s' ?_ A B J;rw[Dk n 1 _ _ I];have d:Thread.calm ⟨leafOf r,c,p,[]⟩=true:=by cases r<;>rfl
 rcases sstep_single den prog w a ⟨leafOf r,c,p,[]⟩ d F with q|q;·show(match sstep den prog w (.single a ⟨leafOf r,c,p,[]⟩)with|.go G=>schedN den prog w 0 G|.halt o s=>.halted o s)=_;rw[q,g];rfl
 ·rw[g]at q;cases r<;>exact by injection q with q;injection q
end
theorem sM{Γ:Ctx}{f:List Frame}(h:Γ.Fits f):Γ=Ctx.of Γ.code f:=by obtain⟨c,i,j,g,k⟩:=Γ;obtain⟨a,b,d,e⟩:=h;simp only at a b d e;subst a b d e;rfl
section
variable{M:Model}{Φ Ψ:NR->Thread->Prop}
abbrev E6(M:Model)(Φ:NR->Thread->Prop):=Ev M.den M.prog M.w Φ
theorem r8(e:M.step s t=.go s' t')(h:E6 M Φ s' t'):E6 M Φ s t:=by cases a:t.loud with|true=>rw[M.step_loud a]at e;injection e|false=>rw[M.step_quiet a]at e;refine .step (.inl ?_) e h;rw[Thread.calm_eq,a];cases c:t.refused with|true=>refine b8 (stepK_refused M.den M.prog M.w (s:=s) c) λb q=>?_;rw[q]at e;injection e|false=>rfl
theorem sN(e:M.runN n s t=.running s' t')(h:E6 M Φ s' t'):E6 M Φ s t:=by induction n generalizing s t with|zero=>injection e with e1 e2;subst e1 e2;exact h|succ n b=>rw[runN_succ]at e;cases a:M.step s t with|go s₁ c=>rw[a]at e;exact r8 a (b e)|halt o s₁=>rw[a]at e;injection e
theorem Dl(h:Runs M Γ p t [] s (.ret r) s')(e:Γ.Fits base)(k:∀c' a,E6 M Φ s' ⟨leafOf r,c',a,base⟩):E6 M Φ s ⟨t,Γ.code,p,base⟩:=by refine xT ((runs_reach h base e).runN) λn g c' a d f b c=>?_;subst b;subst c;exact sN f (k c' a)
theorem sP{Γ:Ctx}{p:Pos}{t:Sem Fin}{fs:List Frame}{s s₁:NR}{b:End}{g:Nat}{k:GenResult->Sem Fin}{l:List NS}{a:Code}{c:Pos}{d:List Frame}(h:Runs M Γ p t fs s b s₁)(f:Γ.Fits (.gen g k l a c::d))(m:b.quiet=true)(i:E6 M Φ (s₁.setGen g b.genState) ⟨k b.result,a,c,d⟩):E6 M Φ s ⟨t,Γ.code,p,fs++.gen g k l a c::d⟩:=by refine xS ((runs_reach h _ f).runN) λn u q r e j o=>?_;exact sN j (r8 (step_exit_gen s₁ g k l a c d o m) i)
theorem Dm{U:Type}{c:Code}{d:List Frame}{K:U->Sem Fin}{H:NS->Sem Fin}{gd:Bool->Bool}{lv:List NS->List NS}{Q:U->Pos->NR->Prop}{E:NS->Pos->NR->Prop}(hK:∀a u s',Q a u s'->E6 M Φ s' ⟨K a,c,u,d⟩)(Z:∀e u s',E e u s'->E6 M Φ s' ⟨H e,c,u,d⟩):∀(t:Sem U)(p:Pos)(s:NR),Sem.wp M (Ctx.of c d) t Q E p s->E6 M Φ s ⟨t.wrap K H gd lv,c,p,d⟩:=by intro t;induction t with|pure a=>exactλp s h=>hK a p s h|raise e=>exactλp s h=>Z e p s h|unsupported|finish|yield|fork|await|register=>exactλp s h=>h.elim|rule tag k b=>exactλp s h=>r8 (step_rule M s c p d tag _) (b () p s h)|«at»u k b=>exactλp s h=>r8 (step_at M s c p d u _) (b () u s h)|load a part k b=>exactλp s=>A8 λo ho h=>r8 (step_load M s c p d part _ ho) (b o p s h)|update a part f k b=>exactλp s=>u6 λha h=>r8 (step_update M s c p d part f _ ha) (b () p _ h)|loadIfAlive a k b=>exactλp s h=>r8 (step_loadIfAlive M s c p d a _) (b _ p s h)|point l k b=>exactλp s h=>r8 (step_point M s c p d _ _) (b () p s h)|alloc o k b=>exactλp s h=>r8 (step_alloc M s c p d o _) (b _ p _ h)|fresh k b=>exactλp s h=>r8 (step_fresh M s c p d _) (b _ p _ h)|ask k b=>exactλp s h=>r8 (step_ask M s c p d _) (b _ p s h)|choose src n k b=>exactλp s=>u6 λhn h=>r8 (step_choose M s c p d src _ hn) (b _ p _ h)|os q l k b=>exactλp s h=>r8 (step_os M s c p d q _ _) (b _ p _ h)|call c' h g l k b=>refineλp s T=>t8 T λr j z i=>?_;refine r8 (step_call M s c p d c' h (gd g) (lv l) _) (Dl (Γ:=(Ctx.of c d).enter c' h p) z (Ctx.Fits.enter (Ctx.fits_of c d) c' _ h (gd g) (lv l) p []) λy p2=>?_);exact r8 (step_leaf_ret M j y p2 d r _ h (gd g) (lv l) c p []) (b r p j i)|handled own k b=>intro p s h;refine r8 (step_handled M s c p d own _) ?_;cases own<;>exact b _ p s h|genState g k b=>exactλp s=>A8 λx m h=>r8 (step_genState M s c p d _ m) (b _ p s h)|newGen c' k b=>exactλp s h=>r8 (step_newGen M s c p d c' _) (b _ p _ h)|stack k b=>exactλp s h=>r8 (step_stack M s c p d _) (b _ p s h)|thread k b=>exactλp s h=>r8 (step_thread M s c p d _) (b _ p s h)|resume g r l k b=>refineλp s T=>t8 T λG s' i h=>?_;have w:=b G p s' h;unfold Wakes at i;cases m:s.gens[g]? with|none=>rw[m]at i;exact i.elim|some x=>rw[m]at i;cases x with
   |fresh c'=>cases r with|send v=>
     by_cases hv:v=.none
     · subst hv;refine ai2 i λY j z I J L=>?_;try clear i;subst J;subst L
       exact r8 (step_resume_fresh M s c p d (lv l) _ m) (sP (Γ:=(Ctx.of c d).wake c' p) (fs:=[]) z (Ctx.Fits.wake (Ctx.fits_of c d) c' g _ (lv l) p) I w)
     · have q:G=.justStarted/\s'=s:=by cases v<;>first|exact absurd rfl hv|exact i
       refine d7 q λN O=>?_;try clear q;subst N;subst O
       exact r8 (step_resume_justStarted M s' c p d (lv l) _ m hv) w|throw x=>(refine d7 i λP R=>?_;try clear i;subst P;subst R);exact r8 (step_resume_throwFresh M s c p d x (lv l) _ m) w
   |suspended W X V p0 fs cl=>
    refine ai2 i λY j z I S A=>?_;try clear i;subst S;subst A
    exact r8 (step_resume_suspended M s c p d r (lv l) _ m) (sP (Γ:=(Ctx.of c d).wake V p) z (Ctx.Fits.wake (Ctx.fits_of c d) V g _ (lv l) p) I w)|running=>(refine d7 i λB C=>?_;try clear i;subst B;subst C);exact r8 (step_resume_running M s' c p d r (lv l) _ m) w|finished=>(refine d7 i λD F=>?_;try clear i;subst D;subst F);exact r8 (step_resume_finished M s' c p d r (lv l) _ m) w
end
def g8{f:Type}(M:Model)(A:NT)(t:Sem f)(Q:f->NR->Prop)(E:VP)(s:NR):Prop:=∀(c:Code)(p:Pos)(b:List Frame),(Ctx.of c b).In A->∀(K:f->Sem Fin)(H:NS->Sem Fin)(gd:Bool->Bool)(lv:List NS->List NS)(Φ:NR->Thread->Prop),(∀a d s',Q a s'->E6 M Φ s' ⟨K a,c,d,b⟩)->(∀e d s',E e s'->E6 M Φ s' ⟨H e,c,d,b⟩)->E6 M Φ s ⟨t.wrap K H gd lv,c,p,b⟩
def J3(M:Model)(A:NT)(c:Code)(R:cz->NR->Prop)(s:NR):Prop:=∀(p:Pos)(a:List Frame),(Ctx.of c a).Below A->∀(Φ:NR->Thread->Prop),(∀r s' c' b,R r s'->E6 M Φ s' ⟨leafOf r,c',b,a⟩)->E6 M Φ s ⟨M.den c,c,p,a⟩
section
variable{α β:Type}{M:Model}{A:NT}{s:NR}{E E':VP}
theorem up{t:Sem α}{Q:α->NR->Prop}(h:aJ M A t Q E s):g8 M A t Q E s:=λc p k b K H i j l g f=>Dm (Q:=λa _ d=>Q a d) (E:=λe _ d=>E e d) g f t p s (h _ p b)
theorem o0(h:g8 M A t Q E s)(l:∀a s,Q a s->Q' a s)(i:∀e s,E e s->E' e s):g8 M A t Q' E' s:=λc p n d K H g m o k j=>h c p n d K H g m o (λa f b q=>k a f b (l a b q)) λe f b q=>j e f b (i e b q)
theorem q7(h:Q a s):g8 M A (pure a) Q E s:=up (aq h)
theorem lx(h:E e s):g8 M A (throw e:Sem α) Q E s:=up (wpAny_throw h)
theorem ly(h:g8 M A m (λa s'=>g8 M A (K₁ a) Q E s') (λe s'=>g8 M A (H₁ e) Q E s') s):g8 M A (m.wrap K₁ H₁ g1 l1) Q E s:=by intro c p f b K H i l g k j;rw[Sem.wrap_wrap];exact h c p f b _ _ _ _ g (λa d s' q=>q c d f b K H i l g k j) λe d s' q=>q c d f b K H i l g k j
theorem k8(h:g8 M A m (λa s'=>g8 M A (f a) Q E s') E s):g8 M A (m>>=f) Q E s:=by rw[Sem.bind_eq_wrap'];exact ly (o0 h (λ_ _ q=>q) λe s' q=>lx q)
theorem Dn(h:g8 M A m Q (λe s'=>g8 M A (k e) Q E s') s):g8 M A (tryCatch m k) Q E s:=by show g8 M A (m.tryCatch k) Q E s;rw[Sem.tryCatch_eq_wrap];exact ly (o0 h (λa s' q=>q7 q) λ_ _ q=>q)
theorem gp{k:NS->Sem Unit}{Q:α->NR->Prop}(h:g8 M A m Q (λe s'=>g8 M A (k e) (λ_ b=>E e b) E s') s):g8 M A (m.onRaise k) Q E s:=by rw[Sem.onRaise_eq_wrap];refine ly (o0 h (λa s' q=>q7 q) λe s' q=>?_);exact k8 (f:=λ_=>(throw e:Sem α)) (o0 q (λ_ b x=>lx x) λ_ _ x=>x)
theorem og{Q:Except NS α->NR->Prop}(h:g8 M A m (λa=>Q (.ok a)) (λe=>Q (.error e)) s):g8 M A m.attempt Q E s:=by exact Dn (k8 (f:=λa=>(pure (.ok a):Sem (Except NS α))) (o0 h (λa b q=>q7 q) λe b q=>q7 q))
theorem sQ(h:g8 M A m Q E s):g8 M A (m.keep vs) Q E s:=by rw[Sem.keep_eq_wrap];exact ly (o0 h (λa b q=>q7 q) λe b q=>lx q)
theorem U2(h:g8 M A m Q E s):g8 M A (cZ vs m) Q E s:=by rw[PySem.holding_eq_keep];exact sQ h
theorem J4(h:Q () s):g8 M A (dl pos) Q E s:=up (cM h)
theorem sR(t:Sem Fin):t.wrap .pure .raise id id=t:=by rw[<-Sem.bind_eq_wrap];induction t<;>simp only[Sem.bind, *]
def lz(M:Model)(A:NT)(R:cz->NR->Prop):Fin->NR->Prop|.done f,s=>R (.ok f) s|.again c,s=>c.quiet=true/\J3 M A c R s
theorem iM(h:g8 M (A.under c) (M.den c) (lz M A R) (λe s'=>R (.error e) s') s):J3 M A c R s:=by intro p d g i b;rw[<-sR (M.den c)];refine h c p d g.in _ _ _ _ i (λf a s' q=>?_) λe a s' q=>b (.error e) s' c a q;cases f with|done f=>exact b (.ok f) s' c a q|again c'=> refine d7 q λj q=>?_;exact r8 (step_again M s' c a d c' j) (q a d g i b)
theorem sS(u:J3 M (A.mark h) c (λr s'=>g8 M A (k r) Q E s') s)(j:h≠some byPass):g8 M A (.call c h g l k) Q E s:=by intro a p f i K H b d m t o;refine r8 (step_call M s a p f c h (b g) (d l) _) ?_;have e:Ctx.of c (.ret (λx=>(k x).wrap K H b d) h (b g) (d l) a p []::f)=(Ctx.of a f).enter c h p:=(sM (Ctx.Fits.enter (Ctx.fits_of a f) c _ h (b g) (d l) p [])).symm;refine u p _ (by rw[e];exact i.enter c h p j) m λr s' n v q=>?_;exact r8 (step_leaf_ret M s' n v f r _ h (b g) (d l) a p []) (q a p f i K H b d m t o)
end
end Mine.Internal
end
section
open PySem PySem.W PyProof.Rows PySem.W.X PySem.SeqAt
namespace Mine.Internal
abbrev YP:=NS->GenState->NR->Prop
def q8(M:Model)(A:NT)(Y:YP)(R:cz->NR->Prop)(c:Code)(t:Sem Fin)(fs:List Frame)(s:NR):Prop:=∀(p:Pos)(d:List Frame)(g:Nat)(k:GenResult->Sem Fin)(l:List NS)(b:Code)(e:Pos)(Φ:NR->Thread->Prop),(Ctx.of b d).In A->(∀v a s',Y v a s'->E6 M Φ (s'.setGen g a) ⟨k (.yielded v),b,e,d⟩)->(∀r s',R r s'->E6 M Φ (s'.setGen g .finished) ⟨k (End.ret r).result,b,e,d⟩)->E6 M Φ s ⟨t,c,p,fs++.gen g k l b e::d⟩
def iN(M:Model)(A:NT)(Y:YP)(R:cz->NR->Prop)(b:GenState)(s:NR):Prop:=match b with|.fresh c=>q8 M A Y R c (M.den c) [] s|.suspended k _ c _ a _=>q8 M A Y R c (k (.send .none)) a s|_=>False
theorem Do{A:NT}{c a:Code}{fs b:List Frame}{g:Nat}{k:GenResult->Sem Fin}{l:List NS}(h:(Ctx.of a b).In A):(Ctx.of c (fs++.gen g k l a p1::b)).In (A.over c fs):=by rw[Ctx.of_append];have e:Ctx.of c (.gen g k l a p1::b)=(Ctx.of a b).wake c p1:=(sM (Ctx.Fits.wake (Ctx.fits_of a b) c g k l p1)).symm;rw[e];exact(h.wake c p1).over fs
section
variable{M:Model}{A:NT}{Y:YP}{R:cz->NR->Prop}{c:Code}{fs:List Frame}{s:NR}
theorem Q4{t:Type}{m:Sem t}{K:t->Sem Fin}{H:NS->Sem Fin}{gd lv}(h:g8 M (A.over c fs) m (λa s'=>q8 M A Y R c (K a) fs s') (λx s'=>q8 M A Y R c (H x) fs s') s):q8 M A Y R c (m.wrap K H gd lv) fs s:=λp r g k l i o f b n j=>h c p _ (Do b) K H gd lv f (λa d s' q=>q d r g k l i o f b n j) λe d s' q=>q d r g k l i o f b n j
theorem J5{b:Type}{m:Sem b}{K:b->Sem Fin}(h:g8 M (A.over c fs) m (λa s'=>q8 M A Y R c (K a) fs s') (λx s'=>q8 M A Y R c (.raise x) fs s') s):q8 M A Y R c (m>>=K) fs s:=by rw[Sem.bind_eq_wrap'];exact Q4 h
theorem jO{a:Pos}{k:Unit->Sem Fin}(h:q8 M A Y R c (k ()) fs s):q8 M A Y R c (.at a k) fs s:=Q4 (m:=dl a) (K:=k) (H:=.raise) (gd:=id) (lv:=id) (J4 h)
theorem Dp{l:List NS}{k:Unit->Sem Fin}(h:q8 M A Y R c (k ()) fs s):q8 M A Y R c (.point l k) fs s:=Q4 (m:=point) (K:=k) (H:=.raise) (gd:=id) (lv:=λ_=>l) (up (wpAny_point h))
theorem sT{h g l}(i:∀p,q8 M A Y R c' (M.den c') (.ret k h g l c p []::fs) s):q8 M A Y R c (.call c' h g l k) fs s:=λp o d j m b n q a f e=>r8 (step_call M s c p _ c' h g l k) (i p p o d j m b n q a f e)
theorem jP{k h g l b e kp}(r:cz)(m:q8 M A Y R b (k r) fs s):q8 M A Y R c (leafOf r) (.ret k h g l b e kp::fs) s:=λp t f n o a q u d j i=>r8 (step_leaf_ret M s c p _ r k h g l b e kp) (m e t f n o a q u d j i)
theorem oh(h:c'.quiet=true)(g:q8 M A Y R c' (M.den c') fs s):q8 M A Y R c (.pure (.again c')) fs s:=λp l d i j b k m a f e=>r8 (step_again M s c p _ c' h) (g p l d i j b k m a f e)
theorem oo(r:cz)(h:R r s):q8 M A Y R c (leafOf r) [] s:=λp j b f g a i l e k d=>r8 (step_leaf_gen M s c p j r b f g a i) (d r s h)
theorem Dq(h:q8 M A Y R c t fs s)(j:∀v d s',Y v d s'->Y' v d s')(i:∀r s',R r s'->R' r s'):q8 M A Y' R' c t fs s:=λp n g k l f m o e a b=>h p n g k l f m o e (λv d s' q=>a v d s' (j v d s' q)) λr s' q=>b r s' (i r s' q)
theorem sU{fs d:List Frame}{g:Nat}{k:GenResult->Sem Fin}{l:List NS}{a:Code}{b:Pos}(h:splitAtGen fs=none):splitAtGen (fs++.gen g k l a b::d)=some (fs,(g,k,a,b),d):=by rw[splitAtGen_append_none _ h,splitAtGen_gen];simp
theorem sV{v:NS}{b:Bool}{l:List NS}{k:Resume->Sem Fin}(a:splitAtGen fs=none)(i:iL s fs c b)(h:∀p,Y v (.suspended k l c p fs (b||fs.any Frame.guarded)) s):q8 M A Y R c (.yield v b l k) fs s:=λp n e j q d m r g f o=>by refine Ev.step (t':=⟨j (.yielded v),d,m,n⟩) (s':=s.setGen e (.suspended k l c p fs (b||fs.any Frame.guarded))) (.inr (.mk (sU a) i)) ?_ (f v _ s (h p));·simp only[PySem.stepK,PySem.step,sU a];rfl
theorem Dr(h:fs.any Frame.guarded=false):iL s fs c false:=⟨h,nofun⟩
theorem Ds(h:fs.any Frame.guarded=false)(f:s.heap.get? a=some o)(d:o.genNumber?.isSome=true)(b:Bool):iL s fs (.builtin "proto.yield_from" ⟨.ref a::rest,kw⟩) b:=⟨h,λ_ i e g=>by show(false||true&&delegateShows i (.ref a))=false;unfold delegateShows;dsimp only;rw[e,f];refine b8 (cN.mp d) λn q=>?_;dsimp only;rw[q,<-e,g];rfl⟩
end
section
set_option backward.match.sparseCases true
def s9(h:NV)(a:Addr)(g:Nat)(k:Int):Prop:=∃o b qn,h.get? a=some o/\o.cls=.type "generator"/\o.data=.fields #[.int g 0,b,qn]/\(o.slots=#[]/\k=0 \/o.slots=#[some (rawInt k)])
theorem s9.of(x:h.IsGen a g):s9 h a g 0:=P9 x λo f qn b c d e=>N3 o f qn b c d (.inl ⟨e,rfl⟩)
theorem s9.at(x:s9 h a g k)(c:∀o,h.get? a=some o->h'.get? a=some o):s9 h' a g k:=E5 x λo d qn b r=>gi o d qn (c _ b) r
theorem s9.typeIs{s:NR}{a g k}(x:s9 s.heap a g k):s.TypeIs (.ref a) "generator":=F6 x λo _ _ c b _=>b7 o c b
noncomputable abbrev N4(a:Nat):Code:=.builtin "proto.yield_from" ⟨[.ref a,.bool false,.none],[]⟩
inductive Kt where|top(body:List NW)|loop(tgt:Expr)(I:Nat)(lb rest:List NW)(k:Kt)|seq(rest:List NW)(k:Kt)
abbrev F7(w:NQ)(A:NT)(Y:YP)(R:cz->NR->Prop)(c:Code)(t:Sem Fin)(fs:List Frame)(s:NR):Prop:=q8 (ay pP w) A Y R c t fs s
structure Dt(env:Env)(rest:List NW)(c:Code)(fs:List Frame)(K:Flow->Sem Fin)(Hd:NS->Sem Fin)(kf:cz->Sem Fin)(c':Code)(fs':List Frame)(K':Flow->Sem Fin)(Hd':NS->Sem Fin)(w:NQ)(A:NT)(Y:YP)(R:cz->NR->Prop)(s:NR):Prop where
 nx:F7 w A Y R c (denote table c) fs s->F7 w A Y R c (K .next) fs s
 rt:∀v,F7 w A Y R c (leafOf (.ok (.ret v))) fs s->F7 w A Y R c (K (.ret v)) fs s
 er:∀e,aJ (ay pP w) (A.over c fs) (noteFrame e env) (λ_ s'=>F7 w A Y R c (leafOf (.error e)) fs s') (λ_ _=>False) s->F7 w A Y R c (Hd e) fs s
 kn:F7 w A Y R c' ((execs rest env).wrap K' Hd' id id) fs' s->F7 w A Y R c' (kf (.ok .next)) fs' s
 kr:∀v,F7 w A Y R c' (K' (.ret v)) fs' s->F7 w A Y R c' (kf (.ok (.ret v))) fs' s
 ke:∀e,aJ (ay pP w) (A.over c' fs') (do
  if(<-field e 1)==.none then unsupported "frame.own-activation:exception-without-traceback"
  setFlight e env.frame) (λ_ s'=>F7 w A Y R c' (Hd' e) fs' s') (λ_ _=>False) s->F7 w A Y R c' (kf (.error e)) fs' s
inductive E7(env:Env):Kt->Code->List Frame->(Flow->Sem Fin)->(NS->Sem Fin)->Prop|top(body:List NW):E7 env (.top body) (.func body env) [] (λf=>.pure (.done (.ret (match f with|.ret v=>v|_=>.none)))) λe=>(leaving env e).wrap (λ_=>.raise e) .raise id id|loop{tgt:Expr}{I:Nat}{lb rest:List NW}{k:Kt}{K:Flow->Sem Fin}{Hd:NS->Sem Fin}{kf:cz->Sem Fin}{lf:List NS}{p:Pos}{c':Code}{fs':List Frame}{K':Flow->Sem Fin}{Hd':NS->Sem Fin}(cx:E7 env k c' fs' K' Hd')(hh:∀w A Y R s,Dt env rest (.forLoop tgt (.ref I) lb [] env) (.ret kf none false lf c' p []::fs') K Hd kf c' fs' K' Hd' w A Y R s):E7 env (.loop tgt I lb rest k) (.forLoop tgt (.ref I) lb [] env) (.ret kf none false lf c' p []::fs') K Hd|seq{rest:List NW}{k:Kt}{c:Code}{fs:List Frame}{K':Flow->Sem Fin}{Hd:NS->Sem Fin}(cx:E7 env k c fs K' Hd):E7 env (.seq rest k) c fs (λf=>match f with|.next=>(execs rest env).wrap K' Hd id id|f=>K' f) Hd
structure sW(rest:List NW)(env:Env)(c:Code)(fs:List Frame)(K:Flow->Sem Fin)(Hd:NS->Sem Fin)(kf:cz->Sem Fin)(w:NQ)(A:NT)(Y:YP)(R:cz->NR->Prop)(s:NR):Prop where
 rt:F7 w A Y R c ((execs rest env).wrap K Hd id id) fs s->F7 w A Y R c (kf (.ok (.ret .none))) fs s
 er:∀e,F7 w A Y R c (Hd e) fs s->F7 w A Y R c (kf (.error e)) fs s
inductive iO(z:GenState)(env:Env)(rest:List NW)(k:Kt):Option Nat->Prop|sl{c:Code}{fs:List Frame}{K:Flow->Sem Fin}{Hd:NS->Sem Fin}(cx:E7 env k c fs K Hd)(go:∀w A Y R s,F7 w A Y R c ((execs rest env).wrap K Hd id id) fs s->iN (ay pP w) A Y R z s):iO z env rest k none|yf{a:Nat}{c:Code}{fs:List Frame}{K:Flow->Sem Fin}{Hd:NS->Sem Fin}{kf:cz->Sem Fin}{lf:List NS}{p:Pos}(bare:z.bare=false)(cx:E7 env k c fs K Hd)(go:∀w A Y R s,aJ (ay pP w) (A.over (N4 a) (.ret kf none false lf c p []::fs)) (bu.Generator.sleptOver (.ref a) false) (λ_ s'=>F7 w A Y R (N4 a) (denote table (N4 a)) (.ret kf none false lf c p []::fs) s') (λ_ _=>False) s->iN (ay pP w) A Y R z s)(hh:∀w A Y R s,sW rest env c fs K Hd kf w A Y R s):iO z env rest k (some a)
theorem iO.nb(h:iO z env rest k (some a)):z.bare=false:=by cases h;assumption
end
end Mine.Internal
end
section
open PySem PySem.W PyProof.Rows PySem.W.X
namespace Mine.Internal
section
set_option tactic.hygienic true
inductive V where|none|bool(b:Bool)|int(i:Int)|flt(x:UInt64)|str(s:Str)|stk(s:Str)(t:Nat)|ty(n:String)|bi(n:String)|st(a:Nat)|ref(i:Nat)|rng(a b:Int)|tup(xs:List V)|sub(c:Nat)(xs:List V)
abbrev b9:=List (Str×Option V)
noncomputable def r9(m:b9)(x:Str):Option V:=(m.lookup x).join
noncomputable def u9:b9->Str->V->b9|[],x,v=>[(x,some v)]|(y,u)::m,x,v=>if x=y then(y,some v)::m else(y,u)::u9 m x v
theorem lA(m:b9)(x:Str)(v:V)(y:Str):r9 (u9 m x v) y=if y=x then some v else r9 m y:=by
 induction m with|nil=>
  unfold r9;rw[show u9 [] x v=[(x,some v)]from rfl,bU];by_cases e:y=x;·rw[if_pos e,e,beq_self_eq_true];rfl
  ·rw[if_neg e,show(y==x)=false by simpa using e]|cons p m a=>
  obtain⟨z,u⟩:=p;rw[show u9 ((z,u)::m) x v=if x=z then(z,some v)::m else(z,u)::u9 m x v from rfl];by_cases e:x=z
  · rw[if_pos e];unfold r9;rw[bU,bU];by_cases q:y=x;·rw[if_pos q,q,e,beq_self_eq_true];rfl
    · have:(y==z)=false:=by simpa using λh=>q (h.trans e.symm)
      rw[if_neg q,this]
  · rw[if_neg e];unfold r9 at a⊢;rw[bU,bU];by_cases q:y=z;·rw[show(y==z)=true by simpa using q,if_neg λh=>e (h.symm.trans q)]
    ·rw[show(y==z)=false by simpa using q];exact a
structure FI where
 sc:Scope
 own:Bool
 co:NS
noncomputable def j9(fi:FI)(env:Env):List Nat:=if fi.own=true then env.locals::env.cells.map (·.2)else[env.locals]
theorem N5(fi:FI)(env:Env):env.locals∈j9 fi env:=by unfold j9;split<;>exact .head _
structure c8 where
 a:Nat
 fp:List Nat
 g:Option (Nat×Env)
inductive O where|list(xs:List V)|arr(xs:List V)|inst(C:Nat)(fs:List (Str×V))|tbl(P:Nat)(ps:Array NS)|fresh(fi:FI)(body:List NW)(m:b9)|gone|done|slp(a:Nat)(fi:FI)(m:b9)(rest:List NW)(k:Kt)(y:Option Nat)(n:Int)|rit(I:Nat)(lo:Int)(n:Nat)|tit(I:Nat)(xs:List V)(i:Nat)|lit(I:Nat)(l:Nat)(i:Nat)|prd(R:List c8->NV->Nat->Prop)|clk(n:Nat)
abbrev QV:=V->List O->Prop
abbrev QB:=Bool->List O->Prop
abbrev QN:=b9->List O->Prop
structure i5 where
 f:Nat->Option Obj
 fr:List Env
noncomputable def i5.lo(F:i5):List Nat:=F.fr.filterMap (·.frame)
def D0(L:List Nat)(b:Nat)(o o':Obj):Prop:=o'=o\/ b∈L/\∃a,o'={o with slots:=a}
theorem D0.refl:D0 L b o o:=.inl rfl
theorem D0.same(h:D0 L b o o'):o'.cls=o.cls/\o'.data=o.data/\o'.dict=o.dict:=by rcases h with rfl|⟨_,a,rfl⟩<;>exact i9 rfl rfl rfl
theorem D0.trans(h:D0 L b o o')(h':D0 L b o' o''):D0 L b o o'':=by
 rcases h with rfl|⟨m,c,rfl⟩;·exact h'
 · rcases h' with rfl|⟨_,a,rfl⟩;·exact .inr (fI m c rfl)
   ·exact .inr (fI m a rfl)
theorem D0.mono(h:D0 L b o o')(a:∀x∈L,x∈L'):D0 L' b o o':=by
 rcases h with rfl|⟨m,c,rfl⟩;·exact .inl rfl
 ·exact .inr (fI (a _ m) c rfl)
def Q5(F:i5)(h:NV):Prop:=∀b o,F.f b=some o->∃o',h.get? b=some o'/\D0 F.lo b o o'
def oq(F:i5):Prop:=∀e∈F.fr,e.scope.kind≠.module/\∃L o,e.frame=some L/\F.f L=some o/\∃b a,o.data=.dict b a
abbrev u0(h h':NV):Prop:=∀b o,h.get? b=some o->h'.get? b=some o
def H9(o:Obj):Prop:=(∃xs n,o.data=.seq xs n)/\o.cls≠.type "list" \/ o.cls=.type "range"/\∃a,o.data=.fields a
def TK(h h':NV):Prop:=∀b o,h.get? b=some o->H9 o->h'.get? b=some o
theorem TK.refl(h:NV):TK h h:=λ_ _ e _=>e
theorem TK.trans(x:TK h h')(y:TK h' h''):TK h h'':=λb o e i=>y b o (x b o e i) i
theorem TK.of_keep(k:u0 h h'):TK h h':=λb o e _=>k b o e
theorem TK.of_ext(x:∀b o,b≠a->h.get? b=some o->h'.get? b=some o)(c:∀o,h.get? a=some o->¬H9 o):TK h h':=λb o e i=>x b o (λq=>c o (q▸e) i) e
structure Bs(w:NQ)(h:NV):Prop where
 k:Frag.In (KW w) h
 g:∃mg,h.Ns bw mg
 lim:h.NoLimit
 bi:∃mb,h.Ns gr mb/\∀x:Str,x≠"__name__"->mb x=bQ x
 dig:∃mc,h.Ns cStatics mc/\mc "sys.int_max_str_digits"=none
def ou(h:NV)(r:Nat)(a b:Int):Prop:=∃t u k,IsRange h r a b 1 t u k
def N6(h:NV)(a c:Nat)(b:Array NS):Prop:=∃o,h.get? a=some o/\o.cls=.ref c/\∃n,o.data=.seq b n
mutual def VR(ρ:List c8)(h:NV):V->NS->Prop|.none,v=>v=.none|.bool b,v=>v=.bool b|.int i,v=>∃t,v=.int i t|.flt x,v=>∃t,t≠0/\v=.float x t|.str x,v=>∃t,v=.str x t|.stk x t,v=>t≠0/\v=.str x t|.ty n,v=>v=.type n|.bi n,v=>v=.builtin n|.st a,v=>v=.ref a|.ref i,v=>∃e,ρ[i]?=some e/\v=.ref e.a|.rng a b,v=>∃r,v=.ref r/\ou h r a b|.tup xs,v=>∃a vs,v=.ref a/\h.IsTuple a vs.toArray/\e5 ρ h xs vs|.sub c xs,v=>∃a vs,v=.ref a/\N6 h a c vs.toArray/\e5 ρ h xs vs def e5(ρ:List c8)(h:NV):List V->List NS->Prop|[],vs=>vs=[]|x::xs,vs=>∃v r,vs=v::r/\VR ρ h x v/\e5 ρ h xs r end
theorem iP(k:TK h h')(x:h.IsTuple a vs):h'.IsTuple a vs:=by refine F5 x λo d b n c=>?_;clear x;exact Z6 o (k a o d (.inl ⟨u8 _ _ c,by rw[b];decide⟩)) b n c
theorem lB(k:TK h h')(x:N6 h a c vs):N6 h' a c vs:=by refine F5 x λo e b n d=>?_;clear x;exact Z6 o (k a o e (.inl ⟨u8 _ _ d,by rw[b];exactλq=>by injection q⟩)) b n d
theorem Du(k:TK h h')(x:ou h r a b):ou h' r a b:=by refine J0 x λt u q c=>?_;clear x;exact M0 t u q (k r _ c (.inr (fI rfl _ rfl)))
theorem x6(p:ρ<+:ρ'){i:Nat}(h:ρ[i]?=some e):ρ'[i]?=some e:=by refine b8 p λt a=>?_;clear p;subst a;exact(aI (ab.mp h).1).trans h
theorem VR.mono(p:ρ<+:ρ')(k:TK h h'){x:V}:∀{v:NS},VR ρ h x v->VR ρ' h' x v:=V.rec (motive_1:=λx=>∀{v},VR ρ h x v->VR ρ' h' x v) (motive_2:=λi=>∀{c},e5 ρ h i c->e5 ρ' h' i c) (λr=>r) (λ_ _ r=>r) (λ_ _ r=>r) (λ_ _ r=>r) (λ_ _ r=>r) (λ_ _ _ r=>r) (λ_ _ r=>r) (λ_ _ r=>r) (λ_ _ r=>r) (λ_ _ r=>a9 r λe q z=>b7 e (x6 p q) z) (λ_ _ _ r=>a9 r λe q z=>b7 e q (Du k z)) (λ_ d _ r=>i8 r λa c q z y=>A9 a c q (iP k z) (d y)) (λ_ _ d _ r=>i8 r λa c q z y=>A9 a c q (lB k z) (d y)) (λr=>r) (λ_ _ f g _ r=>i8 r λv q e a b=>A9 v q e (f a) (g b)) x
theorem e5.nil:e5 ρ h [] []:=rfl
theorem e5.cons(a:VR ρ h x v)(b:e5 ρ h xs vs):e5 ρ h (x::xs) (v::vs):=A9 v vs rfl a b
theorem e5.nil_eq(r:e5 ρ h [] vs):vs=[]:=by exact r
theorem e5.cons_eq(r:e5 ρ h (x::xs) vs):∃v q,vs=v::q/\VR ρ h x v/\e5 ρ h xs q:=by exact r
theorem e5.ind{P:List V->List NS->Prop}(n:P [] [])(c:∀{x v xs d},VR ρ h x v->e5 ρ h xs d->P xs d->P (x::xs) (v::d)):∀{xs d},e5 ρ h xs d->P xs d:=by intro xs;induction xs with|nil=>exactλr=>r.nil_eq▸n|cons x xs f=>exactλr=>i8 r.cons_eq λv q e a b=>e▸c a b (f b)
theorem e5.mono(p:ρ<+:ρ')(k:TK h h'){b:List NS}(r:e5 ρ h xs b):e5 ρ' h' xs b:=e5.ind (P:=e5 ρ' h') .nil (λa _ c=>.cons (a.mono p k) c) r
theorem e5.len{a:List NS}(r:e5 ρ h xs a):a.length=xs.length:=e5.ind (P:=λxs a=>a.length=xs.length) rfl (λ_ _ b=>congrArg (·+1) b) r
theorem e5.get{i:Nat}(r:e5 ρ h xs b)(e:xs[i]?=some x):∃v,b[i]?=some v/\VR ρ h x v:=e5.ind (P:=λxs b=>∀i,xs[i]?=some x->∃v,b[i]?=some v/\VR ρ h x v) (λ_ e=>by injection e) (λa _ c i e=>by cases i with|zero=>injection e with e;exact b7 _ rfl (e▸a)|succ i=>exact c i e) r i e
theorem e5.get'{i:Nat}(r:e5 ρ h xs b)(e:b[i]?=some v):∃x,xs[i]?=some x/\VR ρ h x v:=e5.ind (P:=λxs b=>∀i,b[i]?=some v->∃x,xs[i]?=some x/\VR ρ h x v) (λ_ e=>by injection e) (λa _ c i e=>by cases i with|zero=>injection e with e;exact b7 _ rfl (e▸a)|succ i=>exact c i e) r i e
theorem e5.append{b:List NS}{us:List NS}(r:e5 ρ h xs b)(y:e5 ρ h ys us):e5 ρ h (xs++ys) (b++us):=e5.ind (P:=λxs b=>e5 ρ h (xs++ys) (b++us)) y (λa _ c=>.cons a c) r
theorem e5.take{b:List NS}(n:Nat)(r:e5 ρ h xs b):e5 ρ h (xs.take n) (b.take n):=e5.ind (P:=λxs b=>∀n,e5 ρ h (xs.take n) (b.take n)) (λn=>by rw[List.take_nil,List.take_nil];exact .nil) (λa _ c n=>by cases n with|zero=>exact .nil|succ n=>exact .cons a (c n)) r n
theorem e5.drop{c:List NS}(n:Nat)(r:e5 ρ h xs c):e5 ρ h (xs.drop n) (c.drop n):=e5.ind (P:=λxs c=>∀n,e5 ρ h (xs.drop n) (c.drop n)) (λn=>by rw[List.drop_nil,List.drop_nil];exact .nil) (λa b d n=>by cases n with|zero=>exact .cons a b|succ n=>exact d n) r n
theorem e5.set{x:V}{v:NS}(a:VR ρ h x v){d:List NS}(n:Nat)(r:e5 ρ h xs d):e5 ρ h (xs.set n x) (d.set n v):=e5.ind (P:=λxs d=>∀n,e5 ρ h (xs.set n x) (d.set n v)) (λ_=>.nil) (λc b e n=>by cases n with|zero=>exact .cons a b|succ n=>exact .cons c (e n)) r n
def K8(ρ:List c8)(h:NV):Option V->Option NS->Prop|none,_=>True|some x,some v=>VR ρ h x v|some _,none=>False
theorem K8.mono(p:ρ<+:ρ')(k:TK h h'):∀{x:Option V}{v:Option NS},K8 ρ h x v->K8 ρ' h' x v|none,_,_=>trivial|some _,some _,r=>VR.mono p k r|some _,none,r=>r.elim
theorem K8.some_of(r:K8 ρ h (some x) v):∃u,v=some u/\VR ρ h x u:=by cases v with|none=>exact r.elim|some u=>exact b7 u rfl r
noncomputable def l7(ρ:List c8):List Nat:=ρ.flatMap (·.fp)
def jQ(ρ:List c8)(h:NV)(fs:List (Str×V))(a:Str->Option NS):Prop:=∀n,match fs.lookup n with|some v=>∃u,a n=some u/\VR ρ h v u|none=>a n=none
theorem jQ.mono{a:Str->Option NS}(x:jQ ρ h fs a)(p:ρ<+:ρ')(k:TK h h'):jQ ρ' h' fs a:=λn=>by
 have:=x n;split at this;· refine a9 this λu b c=>?_;clear this;exact b7 u b (c.mono p k)
 ·exact this
def Dv(l:List NS):Prop:=TriplesOk l
structure I0(fi:FI)(env:Env)(m:b9)(ρ:List c8)(h:NV):Prop where
 es:env.scope=fi.sc
 eg:env.globals=bw
 eb:env.builtins=gr
 ec:env.code=fi.co
 ek:fi.sc.kind=.function
 ef:env.frame=some env.locals
 ns:∃mv,h.Ns env.locals mv/\∀x,fi.sc.names.lookup x=some .local->K8 ρ h (r9 m x) (mv x)
 cl:∀x c,env.cells.lookup x=some c->∃ov,h.IsCell c ov/\K8 ρ h (r9 m x) ov
 ce:∀x,fi.sc.names.lookup x=some .cell\/fi.sc.names.lookup x=some .free ->∃c,env.cells.lookup x=some c
 cn:∀x,fi.sc.names.lookup x=some .local->env.cells.lookup x=none
 cu:∀x c,(x,c)∈env.cells->env.cells.lookup x=some c/\c≠env.locals
 cd:env.cells.Pairwise λx y=>x.2≠y.2
theorem I0.mono{fi:FI}{env:Env}{m:b9}(f:I0 fi env m ρ h)(s:fi.own=true)(p:ρ<+:ρ')(t:TK h h')(j:∀b∈j9 fi env,∀q,h.get? b=some q->h'.get? b=some q):I0 fi env m ρ' h':=by
 refine⟨f.es,f.eg,f.eb,f.ec,f.ek,f.ef,?_,λx c i=>?_,f.ce,f.cn,f.cu,f.cd⟩;· refine a9 f.ns λv a g=>?_; refine E5 a λo l k e r=>?_;exact b7 v (gi o l k (j _ (N5 fi env) o e) r) λx u=>(g x u).mono p t
 · refine a9 (f.cl x c i) λw d g=>?_; refine a9 d λo e n=>?_;exact b7 w (b7 o (j c (by unfold j9;rw[if_pos s];exact .tail _ (bp.mpr (b7 _ (mem_of_lookup i) rfl))) o e) n) (g.mono p t)
structure GT where
 a:Array GenState
 n:Nat
noncomputable abbrev gt(s:NR):GT:=⟨s.gens,s.toks⟩
def GR(b:GT)(e:c8):O->Prop|.fresh _ a _=>∃g env,e.g=some (g,env)/\b.a[g]?=some (.fresh (.func a env))|.gone=>∀x,e.g=some x->x.1<b.a.size|.done=>∃g env,e.g=some (g,env)/\b.a[g]?=some .finished|.slp _ _ _ c k y _=>∃g env z,e.g=some (g,env)/\b.a[g]?=some z/\iO z env c k y|.clk n=>n<=b.n|_=>True
theorem GR.up(x:GR gs e o)(a:gs.n<=n):GR ⟨gs.a,n⟩ e o:=by
 cases o;case clk m=>exact ad x a
 all_goals exact x
structure aC(R:List c8->NV->Nat->Prop):Prop where
 mono:∀{ρ ρ':List c8}{h h':NV}{a:Nat},ρ<+:ρ'->TK h h'->(∀o,h.get? a=some o->h'.get? a=some o)->R ρ h a->R ρ' h' a
 ents:∀{ρ ρ':List c8}{h:NV}{a:Nat},ρ.map (·.a)=ρ'.map (·.a)->R ρ h a->R ρ' h a
def OR(F:i5)(ρ:List c8)(h:NV)(e:c8):O->Prop|.list j=>e.fp=[e.a]/\e.g=none/\∃d:List NS,h.PlainList e.a d.toArray/\e5 ρ h j d|.arr j=>e.fp=[]/\e.g=none/\(∃d:List NS,h.IsList e.a d.toArray/\e5 ρ h j d)/\(F.f e.a).isSome=true|.inst C u=>e.g=none/\∃k,e.fp=[e.a,k]/\∃o s,h.get? e.a=some o/\o.cls=.ref C/\(∀c,o.data≠.cls c)/\o.dict=some k/\h.Ns1 k s/\jQ ρ h u s|.tbl P t=>e.a=P/\e.fp=[e.a]/\e.g=none/\∃b:List NS,Dv (t.toList++b)/\h.get? e.a=some {cls:=.none,data:=.fields (t++b.toArray)}|.fresh f p m=>∃g env,e.g=some (g,env)/\e.fp=e.a::j9 f env/\h.IsGen e.a g/\f.own=true/\eV env=false/\I0 f env m ρ h|.gone=>e.a∈e.fp\/e.g.isSome=true|.done=>∃g env r,e.g=some (g,env)/\e.fp=e.a::r/\s9 h e.a g 0|.slp a f m _ _ _ n=>e.a=a/\∃g env,e.g=some (g,env)/\e.fp=e.a::j9 f env/\s9 h e.a g n/\f.own=true/\eV env=false/\I0 f env m ρ h|.rit I v n=>e.a=I/\e.fp=[e.a]/\e.g=none/\IsRangeIter h e.a v n 1|.tit I j i=>e.a=I/\e.fp=[e.a]/\e.g=none/\∃a d,h.IsTupleIter e.a a i/\h.IsTuple a (cB d)/\e5 ρ h j d|.lit I l i=>e.a=I/\e.fp=[e.a]/\e.g=none/\∃q,ρ[l]?=some q/\h.IsListIter e.a q.a i|.prd R=>e.fp=[e.a]/\e.g=none/\R ρ h e.a/\aC R|.clk _=>e.fp=[e.a]/\e.g=none/\h.get? e.a=some {cls:=.none,data:=.fields #[]}
theorem D0.ex(h:D0 L b o o')(a:b∉L):o'=o:=by
 rcases h with e|⟨m,_⟩;·exact e
 ·exact absurd m a
theorem oq.off(h:oq F)(d:F.f b=none):b∉F.lo:=λq=>by refine a9 (List.mem_filterMap.mp q) λe f g=>?_;refine fg (h e f) λ_ L o a c _=>?_;injection g.symm.trans a with a;subst a;cases d.symm.trans c
theorem Dw{h h':NV}{L:List Nat}{a:Nat}{q:Obj}{xs:Array NS}(x:h.IsList a xs)(k:∃o',h.get? a=some o'/\D0 L a q o')(c:∃o',h'.get? a=some o'/\D0 L a q o'):h'.IsList a xs:=by refine F5 x λo j g n i=>?_;clear x;refine a9 k λl b d=>?_;clear k;refine a9 c λo2 f e=>?_;clear c;injection j.symm.trans b with b;subst b;exact Z6 o2 f (e.same.1.trans (d.same.1.symm.trans g)) n (e.same.2.1.trans (d.same.2.1.symm.trans i))
theorem Dx{h h':NV}{a:Nat}{m:Str->Option NS}(x:h.Ns1 a m)(d:∀o,h.get? a=some o->h'.get? a=some o):h'.Ns1 a m:=by refine E5 x λo c b e r=>?_;clear x;exact gi o c b (d _ e) r
theorem OR.mono{F:i5}{ρ ρ':List c8}{h h':NV}{e:c8}{o:O}(x:OR F ρ h e o)(p:ρ<+:ρ')(t:TK h h')(X:Q5 F h)(Q:Q5 F h')(d:∀b∈e.fp,∀q,h.get? b=some q->h'.get? b=some q):OR F ρ' h' e o:=by cases o with|list xs=> refine w6 x λa b J l r=>?_;clear x;exact fY a b J (l.at (d e.a (by rw[a];exact .head _))) (r.mono p t) |arr xs=> refine m6 x λa b D f=>?_;clear x; refine a9 D λJ l r=>?_;refine b8 (cN.mp f) λq U=>?_;exact j8 a b (b7 J (Dw l (X _ _ U) (Q _ _ U)) (r.mono p t)) f |inst C fs=> refine nI x λa T b o Y j c u v w W=>?_;clear x;exact lm a T b o Y (d e.a (by rw[b];exact .head _) _ j) c u v (Dx w (d T (by rw[b];exact .tail _ (.head _)))) (W.mono p t) |tbl P ps=> refine Z5 x λz a b B K j=>?_;clear x;exact Z7 z a b B K (d e.a (by rw[a];exact .head _) _ j) |fresh fi S m=> refine nF x λg s j c E v L w=>?_;clear x; refine E5 E λo Z qn A r=>?_;exact nN g s j c (gi o Z qn (d e.a (by rw[c];exact .head _) _ A) r) v L (w.mono v p t λb M=>d b (by rw[c];exact .tail _ M)) |gone=>exact x|done=> refine F6 x λg s r j c u=>?_;clear x;exact Q2 g s r j c (u.at (d e.a (by rw[c];exact .head _))) |slp a fi m rest k y n=> refine jK x λK g s j c u v L w=>?_;clear x;exact rB K g s j c (u.at (d e.a (by rw[c];exact .head _))) v L (w.mono v p t λb M=>d b (by rw[c];exact .tail _ M)) |tit I xs i=> refine nD x λz a b r J G c u=>?_;clear x; refine a9 G λo A q=>?_;exact rz z a b r J (b7 o (d e.a (by rw[a];exact .head _) _ A) q) (iP t c) (u.mono p t) |lit I l i=> refine Z5 x λz a b V N H=>?_;clear x; refine a9 H λo A q=>?_;exact Z7 z a b V (x6 p N) (b7 o (d e.a (by rw[a];exact .head _) _ A) q) |rit I lo n=> refine m6 x λz a b j=>?_;clear x;exact j8 z a b (d e.a (by rw[a];exact .head _) _ j) |prd R=> refine m6 x λa b j c=>?_;clear x;exact j8 a b (c.mono p t (d e.a (by rw[a];exact .head _)) j) c |clk n=>exact i9 x.1 x.2.1 (d e.a (by rw[x.1];exact .head _) _ x.2.2)
theorem OR.base(x:OR F ρ h e o)(c:∀b o,F.f b=some o->F'.f b=some o):OR F' ρ h e o:=by cases o with|arr xs=> refine m6 x λa b l f=>?_;clear x;refine b8 (cN.mp f) λq d=>?_;exact j8 a b l (by rw[c _ _ d];rfl) |_=>exact x
theorem OR.own(x:OR F ρ h e o):(∃xs,o=.arr xs)\/e.a∈e.fp\/e.g.isSome=true:=by cases o with|arr xs=>exact .inl ⟨xs,rfl⟩|list xs=>right;left;rw[x.1];exact .head _|inst C fs=>right;left; refine U0 x λ_ j b _=>?_;clear x;rw[b];exact .head _|tbl P ps=>right;left;rw[x.2.1];exact .head _|fresh fi d m=>right;left; refine i8 x λg f p c _=>?_;clear x;rw[c];exact .head _|gone=>exact .inr x|done=>right;left; refine F6 x λ_ _ _ _ c _=>?_;clear x;rw[c];exact .head _|slp a fi m rest k y n=>right;left; refine fg x λ_ _ _ _ c _=>?_;clear x;rw[c];exact .head _|tit I xs i=>right;left;rw[x.2.1];exact .head _|lit I l i=>right;left;rw[x.2.1];exact .head _|rit I lo n=>right;left;rw[x.2.1];exact .head _|prd R=>right;left;rw[x.1];exact .head _|clk n=>right;left;rw[x.1];exact .head _
noncomputable def D1:O->Bool|.slp _ _ _ _ _ (some _) _=>true|_=>false
def U3(ρ:List c8)(H:List O)(a:Array GenState):Prop:=∀(k:Nat)z,a[k]?=some z->z.bare=true\/∃(i:Nat)(e:c8)(o:O)(env:Env),ρ[i]?=some e/\e.g=some (k,env)/\H[i]?=some o/\D1 o=true
theorem U3.app(h:U3 ρ H gs):U3 (ρ++[e]) (H++[o]) gs:=λk z j=>(h k z j).imp id (iH λi d l a b f c g=>Z8 i d l a (by exact(aI (ab.mp b).1).trans b) f (by exact(aI (ab.mp c).1).trans c) g)
theorem U3.set(h:U3 ρ H gs)(hy:∀o,H[i]?=some o->D1 o=true->D1 o'=true):U3 ρ (H.set i o') gs:=λk z g=>(h k z g).imp id (iH λj e o a c d b f=>by
 by_cases q:i=j;·subst q;exact Z8 i e o' a c d (au (ab.mp b).1) (hy o b f)
 ·exact Z8 j e o a c d (by exact(ag q).trans b) f)
theorem U3.ents(h:U3 ρ H gs)(n:∀(i:Nat)e,ρ[i]?=some e->∃a,ρ'[i]?=some a/\a.g=e.g):U3 ρ' H gs:=λk z p=>(h k z p).imp id (iH λj e o b c d f g=>a9 (n j e c) λa l m=>Z8 j a o b l (m.trans d) f g)
structure d9(w:NQ)(F:i5)(ρ:List c8)(H:List O)(h:NV)(gs:GT):Prop where
 bs:∀h',Q5 F h'->Bs w h'
 keep:Q5 F h
 len:ρ.length=H.length
 ob:∀(i:Nat)e o,ρ[i]?=some e->H[i]?=some o->OR F ρ h e o
 live:∀b∈l7 ρ,∃o,h.get? b=some o
 nd:(l7 ρ).Nodup
 off:∀b∈l7 ρ,F.f b=none
 gn:((ρ.filterMap (·.g)).map (·.1)).Nodup
 bare:U3 ρ H gs.a
 gf:∀(i:Nat)e o,ρ[i]?=some e->H[i]?=some o->GR gs e o
 fo:oq F
 tp:0<gs.n
theorem z5(h:NV):h.get? h.objs.size=none:=by cases q:h.get? h.objs.size with|none=>rfl|some o=>exact absurd (fR q) (Nat.lt_irrefl _)
theorem M1{i:Nat}(h:ρ[i]?=some e){b:Nat}(a:b∈e.fp):b∈l7 ρ:=List.mem_flatMap.mpr (b7 e (aY h) a)
theorem lC(l:(l7 ρ).Nodup){i j:Nat}(a:ρ[i]?=some e)(d:ρ[j]?=some f)(c:i≠j){b:Nat}(h:b∈e.fp):b∉f.fp:=by induction ρ generalizing i j with|nil=>injection a|cons x ρ k=>have g:(x.fp++l7 ρ).Nodup:=l;refine n8 (dF.mp g) λn1 n2 n3=>?_;cases i with
  |zero=>injection a with a;subst a;cases j with|zero=>exact absurd rfl c|succ j=>exactλq=>n3 b h b (M1 (ρ:=ρ) d q) rfl
  |succ i=>cases j with|zero=>injection d with d;subst d;exactλq=>n3 b q b (M1 (ρ:=ρ) a h) rfl|succ j=>exact k n2 a d λq=>c (congrArg Nat.succ q)
section
variable{w:NQ}{F:i5}{ρ ρ':List c8}{H:List O}{h h':NV}{gs:GT}
theorem d9.b(S:d9 w F ρ H h gs):Bs w h:=S.bs _ S.keep
theorem d9.tk(S:d9 w F ρ H h gs)(a:gs.n<=n):d9 w F ρ H h ⟨gs.a,n⟩:=⟨S.bs,S.keep,S.len,S.ob,S.live,S.nd,S.off,S.gn,S.bare,λi e o b c=>(S.gf i e o b c).up a,S.fo,aB S.tp a⟩
theorem d9.gte(S:d9 w F ρ H h (gt s))(a:s'.gens=s.gens)(b:s.toks<=s'.toks):d9 w F ρ H h (gt s'):=by show d9 w F ρ H h ⟨s'.gens,s'.toks⟩;rw[a];exact S.tk b
theorem d9.keeps(S:d9 w F ρ H h gs)(k:u0 h h'):d9 w F ρ H h' gs:=by have c:Q5 F h':=λb o e=>a9 (S.keep b o e) λd f u=>b7 d (k b d f) u;exact⟨S.bs,c,S.len,λi e o j a=>(S.ob i e o j a).mono (aA _) (.of_keep k) S.keep c λb _ q l=>k b q l,λb g=>b8 (S.live b g) λo a=>⟨o,k b o a⟩,S.nd,S.off,S.gn,S.bare,S.gf,S.fo,S.tp⟩
theorem d9.glt(S:d9 w F ρ H h gs)(s:e∈ρ)(b:e.g=some x):x.1<gs.a.size:=by
 obtain⟨i,r,rfl⟩:=List.mem_iff_getElem.mp s;have j:=aw r;have p:i<H.length:=by rw[<-S.len];exact r
 have y:=S.ob i _ _ j (aw p);have z:=S.gf i _ _ j (aw p);cases q:H[i]with|list xs=>rw[q]at y;injection y.2.1.symm.trans b |arr xs=>rw[q]at y;injection y.2.1.symm.trans b |inst C fs=>rw[q]at y;injection y.1.symm.trans b |tbl P ps=>rw[q]at y;injection y.2.2.1.symm.trans b |fresh fi o m=>rw[q]at z;refine t8 z λg c d f=>?_;clear z;injection d.symm.trans b with b;subst b;exact(cE.mp f).1|gone=>rw[q]at z;exact z x b|done=>rw[q]at z;refine t8 z λg c d f=>?_;clear z;injection d.symm.trans b with b;subst b;exact(cE.mp f).1|rit I lo n=>rw[q]at y;injection y.2.2.1.symm.trans b |tit I xs k=>rw[q]at y;injection y.2.2.1.symm.trans b |lit I l k=>rw[q]at y;injection y.2.2.1.symm.trans b |prd R=>rw[q]at y;injection y.2.1.symm.trans b |clk n=>rw[q]at y;injection y.2.1.symm.trans b |slp a fi m rest k y n=>rw[q]at z;refine F6 z λg c _ d f _=>?_;clear z;injection d.symm.trans b with b;subst b;exact(cE.mp f).1
theorem d9.at'(S:d9 w F ρ H h gs){i:Nat}(b:H[i]?=some o):∃e,ρ[i]?=some e/\OR F ρ h e o:=by
 have a:i<ρ.length:=by rw[S.len];exact(ab.mp b).1
 exact b7 (ρ[i]) (aw a) (S.ob i _ o (aw a) b)
theorem d9.upd(S:d9 w F ρ H h gs){i:Nat}(d:ρ[i]?=some e)(k:∀b o,b∉e.fp->h.get? b=some o->h'.get? b=some o)(v:∀b∈e.fp,∃o,h'.get? b=some o)(t:TK h h')(l:OR F ρ h' e o')(s:autoParam (GR gs e o') jJ._auto_1)(hy:∀o,H[i]?=some o->D1 o=true->D1 o'=true):d9 w F ρ (H.set i o') h' gs:=by
 have n:Q5 F h':=λb o q=>a9 (S.keep b o q) λo' p u=>b7 o' (k b o' (λm=>by injection (S.off b (M1 d m)).symm.trans q) p) u;refine⟨S.bs,n,by rw[ax];exact S.len,λj f o c a=>?_,λb g=>?_,S.nd,S.off,S.gn,S.bare.set hy,λj f o c a=>?_,S.fo,S.tp⟩
 · by_cases q:i=j;·subst q;injection d.symm.trans c with c;subst c;rw[au (by have:=(ab.mp a).1;rw[ax]at this;exact this)]at a;injection a with a;subst a;exact l
   ·rw[ag q]at a;exact(S.ob j f o c a).mono (aA _) t S.keep n λb g o2 r=>k b o2 (lC S.nd c d (bg q) g) r
 · by_cases q:b∈e.fp;·exact v b q
   · refine b8 (S.live b g) λo a=>?_;exact⟨o,k b o q a⟩
 · by_cases q:i=j;·subst q;injection d.symm.trans c with c;subst c;rw[au (by have:=(ab.mp a).1;rw[ax]at this;exact this)]at a;injection a with a;subst a;exact s
   ·rw[ag q]at a;exact S.gf j f o c a
theorem d9.adoptG(S:d9 w F ρ H h gs)(J:(a::r).Nodup)(p:∀b∈a::r,b∉l7 ρ/\F.f b=none/\∃q,h.get? b=some q)(E:OR F (ρ++[⟨a,a::r,gg⟩]) h ⟨a,a::r,gg⟩ o)(C:∀x,gg=some x->∀f∈ρ,∀y,f.g=some y->y.1≠x.1)(B:GR gs ⟨a,a::r,gg⟩ o):d9 w F (ρ++[⟨a,a::r,gg⟩]) (H++[o]) h gs:=by
 have s:l7 (ρ++[⟨a,a::r,gg⟩])=l7 ρ++a::r:=by simp[l7]
 refine⟨S.bs,S.keep,by rw[aK,aK,S.len];rfl,λi e A d c=>?_,λb j=>?_,?_,λb j=>?_,?_,S.bare.app,λi e A d c=>?_,S.fo,S.tp⟩
 · by_cases q:i<ρ.length;·rw[aI q]at d;rw[aI (by rw[<-S.len];exact q)]at c;exact(S.ob i e A d c).mono (aH _ _) (.refl _) S.keep S.keep λb _ q G=>G
   · have g:i=ρ.length:=by have:=(ab.mp d).1;rw[aK]at this;simp at this;exact Nat.le_antisymm (Nat.le_of_lt_succ this) (bf q)
     subst g;injection ao.symm.trans d with d;subst d;rw[S.len,ao]at c;injection c with c;subst c;exact E
 · rw[s]at j;rcases aX.mp j with m|m;·exact S.live b m
   ·exact(p b m).2.2
 ·rw[s,dF];refine i9 S.nd J λx I y z q=>(p y z).1 (q▸I)
 · rw[s]at j;rcases aX.mp j with m|m;·exact S.off b m
   ·exact(p b m).2.1
 ·rw[List.filterMap_append,bm];cases gg with|none=>simpa using S.gn|some x=>
    refine dF.mpr (i9 S.gn (by simp) λn D k v q=>?_);refine a9 (bp.mp D) λy z l=>?_;subst l;refine a9 (List.mem_filterMap.mp z) λf t u=>?_;have v:k=x.1:=by simpa using v
    exact C x rfl f t y u (q.trans v)
 · by_cases q:i<ρ.length;·rw[aI q]at d;rw[aI (by rw[<-S.len];exact q)]at c;exact S.gf i e A d c
   · have g:i=ρ.length:=by have:=(ab.mp d).1;rw[aK]at this;simp at this;exact Nat.le_antisymm (Nat.le_of_lt_succ this) (bf q)
     subst g;injection ao.symm.trans d with d;subst d;rw[S.len,ao]at c;injection c with c;subst c;exact B
theorem d9.adopt(S:d9 w F ρ H h gs)(f:(a::r).Nodup)(d:∀b∈a::r,b∉l7 ρ/\F.f b=none/\∃q,h.get? b=some q)(e:OR F (ρ++[⟨a,a::r,none⟩]) h ⟨a,a::r,none⟩ o)(c:autoParam (GR gs ⟨a,a::r,none⟩ o) jJ._auto_1):d9 w F (ρ++[⟨a,a::r,none⟩]) (H++[o]) h gs:=S.adoptG f d e (λ_ q=>by injection q) c
theorem d9.dead(S:d9 w F ρ H h gs){b:Nat}(a:h.get? b=none):b∉l7 ρ/\F.f b=none:=by
 refine⟨λm=>?_,?_⟩;· refine b8 (S.live b m) λo q=>?_;injection a.symm.trans q
 ·cases q:F.f b with|none=>rfl|some o=>refine a9 (S.keep _ _ q) λd c _=>?_;injection c.symm.trans a
theorem d9.alloc(S:d9 w F ρ H h gs){a:Nat}(k:u0 h h')(e:h.get? a=none)(g:∃q,h'.get? a=some q)(i:OR F (ρ++[⟨a,[a],none⟩]) h' ⟨a,[a],none⟩ o)(c:autoParam (GR gs ⟨a,[a],none⟩ o) jJ._auto_1):d9 w F (ρ++[⟨a,[a],none⟩]) (H++[o]) h' gs:=by have d:=S.dead e;exact(S.keeps k).adopt (r:=[]) (ck.mpr ⟨λq=>absurd q List.not_mem_nil,gR⟩) (λb f=>by rw[af.mp f];exact i9 d.1 d.2 g) i c
end
end
noncomputable def F8(F:i5)(h:NV)(a:List Nat):i5:=⟨λb=>if b∈a then h.get? b else F.f b,F.fr⟩
theorem lD(a:b∈as):(F8 F h as).f b=h.get? b:=if_pos a
theorem iQ(a:b∉as):(F8 F h as).f b=F.f b:=if_neg a
noncomputable def n6(env:Env)(F:i5):List Env:=if env.frame=some env.locals then env::F.fr else F.fr
noncomputable def w4(F:i5)(h:NV)(env:Env)(a:List Nat):i5:=⟨(F8 F h a).f,n6 env F⟩
theorem gT(a:b∈as):(w4 F h env as).f b=h.get? b:=if_pos a
theorem N7(a:b∉as):(w4 F h env as).f b=F.f b:=if_neg a
theorem ow:(∀b∈F.lo,b∈(w4 F h env as).lo)/\∀b∈(w4 F h env as).lo,b=env.locals\/b∈F.lo:=by
 by_cases q:env.frame=some env.locals
 · have e:(w4 F h env as).lo=env.locals::F.lo:=by show(n6 env F).filterMap (·.frame)=_;unfold n6;rw[if_pos q,cS,q];rfl
   exact e▸⟨λb a=>.tail _ a,λb a=>az.mp a⟩
 · have e:(w4 F h env as).lo=F.lo:=by show(n6 env F).filterMap (·.frame)=_;unfold n6;rw[if_neg q];rfl
   exact e▸⟨λb a=>a,λb a=>.inr a⟩
theorem D0.less(u:D0 (w4 F h env as).lo b o o')(a:b≠env.locals):D0 F.lo b o o':=by
 rcases u with e|⟨m,r⟩;·exact .inl e
 ·exact .inr ⟨(ow.2 b m).resolve_left a,r⟩
structure d6(w:NQ)(fi:FI)(env:Env)(m:b9)(F:i5)(ρ:List c8)(H:List O)(h:NV)(gs:GT):Prop where
 hs:d9 w F ρ H h gs
 es:env.scope=fi.sc
 eg:env.globals=bw
 eb:env.builtins=gr
 ec:env.code=fi.co
 ek:fi.sc.kind=.function
 ef:env.frame=some env.locals\/∃L∈F.lo,env.frame=some L
 lo:∀b∈j9 fi env,F.f b=none/\b∉l7 ρ
 ns:∃mv,h.Ns env.locals mv/\∀x,fi.sc.names.lookup x=some .local->K8 ρ h (r9 m x) (mv x)
 cl:∀x c,env.cells.lookup x=some c->∃ov,h.IsCell c ov/\K8 ρ h (r9 m x) ov
 ce:∀x,fi.sc.names.lookup x=some .cell\/fi.sc.names.lookup x=some .free ->∃c,env.cells.lookup x=some c
 cn:∀x,fi.sc.names.lookup x=some .local->env.cells.lookup x=none
 cu:∀x c,(x,c)∈env.cells->env.cells.lookup x=some c/\c≠env.locals
 cd:env.cells.Pairwise λx y=>x.2≠y.2
 cf:fi.own=false->∀x c,(x,c)∈env.cells->(F.f c).isSome=true
section
variable{w:NQ}{fi:FI}{env:Env}{m:b9}{F:i5}{ρ ρ':List c8}{H H':List O}{h h':NV}{gs gs':GT}
theorem d6.kind(S:d6 w fi env m F ρ H h gs)(x:Str):env.kindOf x=fi.sc.names.lookup x:=by unfold cw;rw[S.es]
theorem d6.kd(S:d6 w fi env m F ρ H h gs):env.scope.kind=.function:=by exact S.es▸S.ek
theorem d6.b(S:d6 w fi env m F ρ H h gs):Bs w h:=S.hs.b
theorem d6.cell_own(S:d6 w fi env m F ρ H h gs)(a:(x,c)∈env.cells):c∈j9 fi env\/(F.f c).isSome=true:=by cases q:fi.own with|true=>left;unfold j9;exact if_pos q▸.tail _ (bp.mpr (b7 _ a rfl))|false=>exact .inr (S.cf q x c a)
theorem M2{cs:List (Str×Nat)}{x:Str}{c:Nat}(h:cs.lookup x=some c):(x,c)∈cs:=mem_of_lookup h
theorem d6.locF(S:d6 w fi env m F ρ H h gs){b:Nat}(e:F.f b=some o):b∉j9 fi env:=λq=>by injection (S.lo b q).1.symm.trans e
theorem d6.gte(S:d6 w fi env m F ρ H h (gt s))(a:s'.gens=s.gens)(b:s.toks<=s'.toks):d6 w fi env m F ρ H h (gt s'):={S with hs:=S.hs.gte a b}
theorem d6.tk(S:d6 w fi env m F ρ H h gs)(a:gs.n<=n):d6 w fi env m F ρ H h ⟨gs.a,n⟩:={S with hs:=S.hs.tk a}
theorem d6.toH(S:d6 w fi env m F ρ H h gs):d9 w (w4 F h env (j9 fi env)) ρ H h gs:=by
 have l:∀b o,F.f b=some o->(w4 F h env (j9 fi env)).f b=some o:=λb o e=>by exact(N7 (S.locF e)).trans e
 refine⟨λh' k=>S.hs.bs h' λb o e=>?_,λb o e=>?_,S.hs.len,λi e o B n=>(S.hs.ob i e o B n).base l,S.hs.live,S.hs.nd,λb s=>?_,S.hs.gn,S.hs.bare,S.hs.gf,λe a=>?_,S.hs.tp⟩;· refine a9 (k b o (l b o e)) λp d u=>?_;exact b7 p d (u.less λq=>S.locF e (q▸N5 fi env))
 · by_cases q:b∈j9 fi env;·rw[gT q]at e;exact b7 o e .refl
   ·rw[N7 q]at e;refine a9 (S.hs.keep b o e) λp d u=>?_;exact b7 p d (u.mono ow.1)
 ·exact(N7 λq=>(S.lo b q).2 s).trans (S.hs.off b s)
 · have c:e∈F.fr->e.scope.kind≠.module/\∃L o,e.frame=some L/\(w4 F h env (j9 fi env)).f L=some o/\∃j g,o.data=.dict j g:=λa=>by refine fg (S.hs.fo e a) λt L o v x y=>?_;exact rr t L o v (l L o x) y
   have a:e∈n6 env F:=a;unfold n6 at a;split at a
   · rename_i q;rcases az.mp a with rfl|a;· refine a9 S.ns λC r _=>?_; refine F6 r λo j g n A _=>?_;refine yu (by exact S.es▸S.ek▸λz=>by injection z) _ o q (by exact(gT (N5 fi e)).trans n) j g A
     ·exact c a
   ·exact c a
theorem d6.ofH(S:d6 w fi env m F ρ H h gs)(p:ρ<+:ρ')(t:TK h h')(T:d9 w (w4 F h env (j9 fi env)) ρ' H' h' gs'):d6 w fi env m F ρ' H' h' gs':=by
 have hF:∀b o,F.f b=some o->(w4 F h env (j9 fi env)).f b=some o:=λb o e=>by exact(N7 (S.locF e)).trans e
 have N:∀b∈l7 ρ',F.f b=none:=λb g=>by cases q:F.f b with|none=>rfl|some o=>have:=T.off b g;injection (hF b o q).symm.trans this
 have kp:∀b∈j9 fi env,∀o,h.get? b=some o->∃o',h'.get? b=some o'/\D0 (w4 F h env (j9 fi env)).lo b o o':=λb g o e=>T.keep b o (by exact(gT g).trans e);have kF:Q5 F h':=λb o e=>a9 (T.keep b o (hF b o e)) λo' e' u=>b7 o' e' (u.less λq=>S.locF e (q▸N5 fi env));have B:∀b∈j9 fi env,∃o,h.get? b=some o:=λb g=>by
  unfold j9 at g;split at g
  · rcases az.mp g with rfl|g;· refine a9 S.ns λJ P _=>?_;obtain⟨o,_,_,d,_⟩:=P;exact⟨o,d⟩
    · refine a9 (bp.mp g) λQ M R=>?_;obtain⟨x,c⟩:=Q;subst R;refine a9 (S.cl x c (S.cu x c M).1) λK U _=>?_; refine a9 U λo d _=>?_;exact⟨o,d⟩
  ·rw[af.mp g];refine a9 S.ns λJ V _=>?_;obtain⟨o,_,_,d,_⟩:=V;exact⟨o,d⟩
 have lo:∀b∈j9 fi env,F.f b=none/\b∉l7 ρ':=λb g=>⟨(S.lo b g).1,λq=>by have:=T.off b q;rw[gT g]at this;refine b8 (B b g) λo d=>?_;rw[this]at d;cases d⟩;refine⟨⟨S.hs.bs,kF,T.len,λi e o hi d=>?_,T.live,T.nd,N,T.gn,T.bare,T.gf,S.hs.fo,T.tp⟩,S.es,S.eg,S.eb,S.ec,S.ek,S.ef,lo,?_,λx c hc=>?_,S.ce,S.cn,S.cu,S.cd,S.cf⟩;·have y:=T.ob i e o hi d;cases o with
   |arr xs=>
    refine m6 y λa b l f=>?_;clear y;refine j8 a b l ?_;by_cases q:e.a∈j9 fi env
    · exfalso;refine a9 l λvs W _=>?_;clear l; refine F5 W λob A a0 n s=>?_;unfold j9 at q;have C:e.a=env.locals\/∃x,(x,e.a)∈env.cells:=by
       split at q
       · rcases az.mp q with q|q;·exact .inl q
         · refine a9 (bp.mp q) λX M O=>?_;obtain⟨x,c⟩:=X;exact .inr ⟨x,O▸M⟩
       ·exact .inl (af.mp q)
      rcases C with C|⟨x,C⟩;· refine a9 S.ns λJ Y _=>?_; refine F6 Y λo2 es Z k v _=>?_;rw[<-C]at k;refine a9 (kp e.a q o2 k) λo3 j u=>?_;injection A.symm.trans j with j;subst j;have z:=u.same.2.1;rw[s,v]at z;injection z
      · refine a9 (S.cl x e.a (S.cu x e.a C).1) λK D _=>?_; refine a9 D λo2 k v=>?_;refine a9 (kp e.a q o2 k) λo3 j u=>?_;injection A.symm.trans j with j;subst j;have z:=u.same.2.1;rw[s,v]at z;injection z
    ·rw[N7 q]at f;exact f|_=>exact y
 · refine a9 S.ns λJ E I=>?_; refine F6 E λo es Z d s r=>?_;refine a9 (kp _ (N5 fi env) o d) λo' L u=>?_;exact b7 J (Q2 o' es Z L (u.same.2.1.trans s) r) λx O=>(I x O).mono p t
 · refine a9 (S.cl x c hc) λK G I=>?_; refine a9 G λo d s=>?_;rcases S.cell_own (M2 hc)with q|q;· refine a9 (kp c q o d) λo' L u=>?_;exact b7 K (b7 o' L (u.same.2.1.trans s)) (I.mono p t)
   · refine b8 (cN.mp q) λo2 h2=>?_;refine a9 (S.hs.keep _ _ h2) λo3 j u3=>?_;injection j.symm.trans d with d;subst d;refine a9 (kF _ _ h2) λo4 h4 u4=>?_;exact b7 K (b7 o4 h4 (u4.same.2.1.trans (u3.same.2.1.symm.trans s))) (I.mono p t)
theorem d6.keeps(S:d6 w fi env m F ρ H h gs)(k:u0 h h'):d6 w fi env m F ρ H h' gs:=S.ofH (aA _) (.of_keep k) (S.toH.keeps k)
theorem d6.get(S:d6 w fi env m F ρ H h gs)(f:r9 m x=some v)(b:fi.sc.names.lookup x=some .local):∃a u,h.Ns env.locals a/\a x=some u/\VR ρ h v u:=by refine a9 S.ns λa d c=>?_;have:=c x b;rw[f]at this;refine a9 this.some_of λu e r=>?_;exact A9 a u d e r
theorem W4(c:h.Ns a mv):∀o,h.get? a=some o->¬H9 o:=λo b=>by refine F6 c λo2 g f d e _=>?_;clear c;injection d.symm.trans b with b;subst b;rintro(⟨⟨xs,n,q⟩,_⟩|⟨_,i,q⟩)<;>(injection e.symm.trans q)
theorem sX(c:h.IsCell a ov):∀o,h.get? a=some o->¬H9 o:=λo b=>by refine a9 c λo2 d e=>?_;clear c;injection d.symm.trans b with b;subst b;rintro(⟨⟨xs,n,q⟩,_⟩|⟨_,f,q⟩)<;>(injection e.symm.trans q)
theorem oy(d:h.IsList a xs):∀o,h.get? a=some o->¬H9 o:=λo b=>by
 refine F5 d λo2 e c n f=>?_;clear d;injection e.symm.trans b with b;subst b;rintro(⟨_,q⟩|⟨q,_⟩);·exact q c
 ·rw[c]at q;exact absurd q (by decide)
theorem d6.own_upd(S:d6 w fi env m F ρ H h gs)(r:a∈j9 fi env)(f:∀b o,b≠a->h.get? b=some o->h'.get? b=some o)(d:∀o,h.get? a=some o->¬H9 o):d9 w F ρ H h' gs/\TK h h':=by refine d7 (S.lo a r) λp f2=>?_;have t:TK h h':=.of_ext f d;have j:Q5 F h':=λb o e=>a9 (S.hs.keep b o e) λl n u=>b7 l (f b l (λq=>by rw[q,p]at e;injection e) n) u;have k:∀b∈l7 ρ,b≠a:=λb c q=>f2 (q▸c);exact⟨⟨S.hs.bs,j,S.hs.len,λi e o d g=>(S.hs.ob i e o d g).mono (aA _) t S.hs.keep j λb c q s=>f b q (k b (M1 d c)) s,λb c=>b8 (S.hs.live b c) λo g=>⟨o,f b o (k b c) g⟩,S.hs.nd,S.hs.off,S.hs.gn,S.hs.bare,S.hs.gf,S.hs.fo,S.hs.tp⟩,t⟩
theorem d6.setLoc(S:d6 w fi env m F ρ H h gs){x:Str}{v:V}{u:NS}(r:VR ρ h v u){i:Str->Option NS}(f:h.Ns env.locals i)(p:∀x,fi.sc.names.lookup x=some .local->K8 ρ h (r9 m x) (i x))(s:h'.Ns env.locals λy=>if y=x then some u else i y)(j:dJ env.locals h h')(n:fi.sc.names.lookup x=some .local):d6 w fi env (u9 m x v) F ρ H h' gs:=by
 refine d7 (S.own_upd (N5 fi env) (λb o k e=>j.extBut b o k e) (W4 f)) λg t=>?_;refine⟨g,S.es,S.eg,S.eb,S.ec,S.ek,S.ef,S.lo,b7 _ s λy B=>?_,λy c d=>?_,S.ce,S.cn,S.cu,S.cd,S.cf⟩
 · rw[lA];by_cases q:y=x;·exact if_pos q▸if_pos q▸r.mono (aA _) t
   ·exact if_neg q▸if_neg q▸(p y B).mono (aA _) t
 · refine a9 (S.cl y c d) λC a A=>?_; refine a9 a λo z l=>?_;refine b7 C (b7 o (j.extBut c o (S.cu y c (M2 d)).2 z) l) ?_;rw[lA,if_neg λq=>by rw[q,S.cn x n]at d;injection d];exact A.mono (aA _) t
theorem sY{cs:List (Str×Nat)}(a:cs.Pairwise λx y=>x.2≠y.2){x y:Str}{c:Nat}(b:(x,c)∈cs)(hy:(y,c)∈cs):x=y:=name_of_addr a b hy
theorem d6.setCell(S:d6 w fi env m F ρ H h gs){x:Str}{c:Nat}{v:V}{u:NS}(r:VR ρ h v u)(A:fi.own=true)(f:env.cells.lookup x=some c){n:Option NS}(l:h.IsCell c n)(C:h'.IsCell c (some u))(j:dJ c h h')(D:fi.sc.names.lookup x≠some .local):d6 w fi env (u9 m x v) F ρ H h' gs:=by
 have i:c∈j9 fi env:=by unfold j9;exact if_pos A▸.tail _ (bp.mpr (b7 _ (M2 f) rfl))
 refine d7 (S.own_upd i (λb o p e=>j.extBut b o p e) (sX l)) λk t=>?_;refine⟨k,S.es,S.eg,S.eb,S.ec,S.ek,S.ef,S.lo,?_,λy d a=>?_,S.ce,S.cn,S.cu,S.cd,S.cf⟩;· refine a9 S.ns λE z s=>?_;refine b7 E (z.sameBut j (bg (S.cu x c (M2 f)).2)) λy g=>?_;rw[lA,if_neg λq=>D (by rw[<-q];exact g)];exact(s y g).mono (aA _) t
 · rw[lA];by_cases q:y=x;·subst q;injection f.symm.trans a with a;subst a;exact if_pos rfl▸b7 _ C (r.mono (aA _) t)
   ·rw[if_neg q];refine a9 (S.cl y d a) λn g B=>?_;exact b7 n (g.sameBut j λe=>q (sY S.cd (M2 a) (e▸M2 f))) (B.mono (aA _) t)
end
abbrev nE:NS->NR->Prop:=λ_ _=>False
def Q6(n:Nat)(ρ ρ':List c8):Prop:=∀(i:Nat)e,ρ.length<=i->ρ'[i]?=some e->e.fp≠[]/\∀x,e.g=some x->n<=x.1
theorem Q6.refl:Q6 n ρ ρ:=λi e a h=>absurd (ab.mp h).1 (bl.mpr a)
theorem Q6.trans(a:Q6 n ρ ρ1)(b:Q6 k ρ1 ρ2)(p:ρ1<+:ρ2)(f:n<=k):Q6 n ρ ρ2:=λi e d h=>by
 by_cases q:i<ρ1.length;·exact a i e d (by refine b8 p λt c=>?_;clear p;subst c;rwa[aI q]at h)
 ·exact⟨(b i e (bl.mp q) h).1,λx g=>ad f ((b i e (bl.mp q) h).2 x g)⟩
theorem Q6.add(b:∀x,g=some x->n<=x.1):Q6 n ρ (ρ++[⟨a,a::r,g⟩]):=λi e c h=>by rw[List.getElem?_append_right c]at h;have:e∈[(⟨a,a::r,g⟩:c8)]:=aY h;exact af.mp this▸⟨gc _ _,b⟩
def e8(ρ:List c8)(s:NR)(ρ':List c8)(s':NR):Prop:=ρ<+:ρ'/\TK s.heap s'.heap/\(s'.os=s.os/\s.gens.size<=s'.gens.size)/\Q6 s.gens.size ρ ρ'
theorem e8.refl:e8 ρ s ρ s:=j8 (aA _) (.refl _) ⟨rfl,ae _⟩ .refl
theorem e8.same(t:TK s.heap s'.heap)(o:s'.os=s.os)(g:s.gens.size<=s'.gens.size:=by first|exact ae _|assumption):e8 ρ s ρ s':=j8 (aA _) t ⟨o,g⟩ .refl
theorem e8.addG(t:TK s.heap s'.heap)(o:s'.os=s.os)(b:∀x,g=some x->s.gens.size<=x.1)(gg:s.gens.size<=s'.gens.size:=by first|exact ae _|assumption):e8 ρ s (ρ++[⟨a,a::r,g⟩]) s':=j8 (aH _ _) t ⟨o,gg⟩ (.add b)
theorem e8.add(t:TK s.heap s'.heap)(o:s'.os=s.os)(gg:s.gens.size<=s'.gens.size:=by first|exact ae _|assumption):e8 ρ s (ρ++[⟨a,a::r,none⟩]) s':=.addG t o (λ_ q=>by injection q) gg
theorem e8.trans(a:e8 ρ s ρ1 s₁)(b:e8 ρ1 s₁ ρ2 s2):e8 ρ s ρ2 s2:=j8 (a.1.trans b.1) (a.2.1.trans b.2.1) ⟨b.2.2.1.1.trans a.2.2.1.1,ad a.2.2.1.2 b.2.2.1.2⟩ (a.2.2.2.trans b.2.2.2 b.1 a.2.2.1.2)
structure j0(A:NT)(d:Nat)(l:List Env):Prop where
 fr:A.frames=some l
 hd:A.handled=none
 dp:A.depth+4*d<fW
 un:A.units+40*d+200<cLine
section
variable(w:NQ)
inductive HQ{α β:Type}(R:List c8->NV->β->α->Prop)(F:i5)(ρ:List c8)(s:NR)(Q:β->List O->Prop)(v:α)(s':NR):Prop|mk(ρ':List c8)(H':List O)(b:β)(st:e8 ρ s ρ' s')(S:d9 w F ρ' H' s'.heap (gt s'))(r:R ρ' s'.heap b v)(q:Q b H'):HQ R F ρ s Q v s'
inductive SQ{α β:Type}(R:List c8->NV->β->α->Prop)(fi:FI)(env:Env)(m:b9)(F:i5)(ρ:List c8)(s:NR)(Q:β->List O->Prop)(v:α)(s':NR):Prop|mk(ρ':List c8)(H':List O)(b:β)(st:e8 ρ s ρ' s')(S:d6 w fi env m F ρ' H' s'.heap (gt s'))(r:R ρ' s'.heap b v)(q:Q b H'):SQ R fi env m F ρ s Q v s'
end
theorem HQ.ob{w:NQ}{a c:Type}{R:List c8->NV->c->a->Prop}{F:i5}{ρ:List c8}{s:NR}{Q:c->List O->Prop}{v:a}{s':NR}{G:Prop}(h:HQ w R F ρ s Q v s')(k:∀ρ' H' b,e8 ρ s ρ' s'->d9 w F ρ' H' s'.heap (gt s')->R ρ' s'.heap b v->Q b H'->G):G:=HQ.rec k h
theorem SQ.ob{w:NQ}{a c:Type}{R:List c8->NV->c->a->Prop}{fi:FI}{env:Env}{m:b9}{F:i5}{ρ:List c8}{s:NR}{Q:c->List O->Prop}{v:a}{s':NR}{G:Prop}(h:SQ w R fi env m F ρ s Q v s')(k:∀ρ' H' b,e8 ρ s ρ' s'->d6 w fi env m F ρ' H' s'.heap (gt s')->R ρ' s'.heap b v->Q b H'->G):G:=SQ.rec k h
inductive Fl where|next|brk|cont|ret(v:V)
abbrev QF:=Fl->b9->List O->Prop
def lE(ρ:List c8)(h:NV):Fl->Flow->Prop|.next,f=>f=.next|.brk,f=>f=.brk|.cont,f=>f=.cont|.ret v,f=>∃u,f=.ret u/\VR ρ h v u
def N8{a:Type}(_:List c8)(_:NV)(b v:a):Prop:=v=b
section
variable(w:NQ)(fi:FI)(d:Nat)
def WE(m:b9)(H:List O)(e:Expr)(Q:QV):Prop:=∀A env F ρ s,j0 A d (n6 env F)->d6 w fi env m F ρ H s.heap (gt s)->aJ (ay pP w) A (eval e env) (SQ w VR fi env m F ρ s Q) nE s
def WT(m:b9)(H:List O)(e:Expr)(Q:QB):Prop:=∀A env F ρ s,j0 A d (n6 env F)->d6 w fi env m F ρ H s.heap (gt s)->aJ (ay pP w) A (isTrue e env (eval e env)) (SQ w N8 fi env m F ρ s Q) nE s
def B2(m:b9)(H:List O):List Expr->(List V->List O->Prop)->Prop|[],Q=>Q [] H|e::c,Q=>WE w fi d m H e λv a=>B2 m a c λf b=>Q (v::f) b
inductive x9(env:Env)(F:i5)(ρ:List c8)(s:NR)(Q:QF)(f:Flow)(s':NR):Prop|mk(ρ':List c8)(H':List O)(m':b9)(fl:Fl)(st:e8 ρ s ρ' s')(S:d6 w fi env m' F ρ' H' s'.heap (gt s'))(r:lE ρ' s'.heap fl f)(q:Q fl m' H'):x9 env F ρ s Q f s'
inductive AQ(env:Env)(F:i5)(ρ:List c8)(s:NR)(Q:QN)(s':NR):Prop|mk(ρ':List c8)(H':List O)(m':b9)(st:e8 ρ s ρ' s')(S:d6 w fi env m' F ρ' H' s'.heap (gt s'))(q:Q m' H'):AQ env F ρ s Q s'
def WS(m:b9)(H:List O)(a:NW)(Q:QF):Prop:=∀A env F ρ s,j0 A d (n6 env F)->d6 w fi env m F ρ H s.heap (gt s)->aJ (ay pP w) A (exec a env) (x9 w fi env F ρ s Q) nE s
def WB(m:b9)(H:List O)(a:List NW)(Q:QF):Prop:=∀A env F ρ s,j0 A d (n6 env F)->d6 w fi env m F ρ H s.heap (gt s)->aJ (ay pP w) A (execs a env) (x9 w fi env F ρ s Q) nE s
def WA(m:b9)(H:List O)(t:Expr)(v:V)(Q:QN):Prop:=∀A env F ρ s u,j0 A d (n6 env F)->d6 w fi env m F ρ H s.heap (gt s)->VR ρ s.heap v u->aJ (ay pP w) A (cO t env u) (λ_ a=>AQ w fi env F ρ s Q a) nE s
end
section
variable(w:NQ)(d:Nat)
def W1{a b:Type}(R:List c8->NV->b->a->Prop)(H:List O)(t:NS->Sem a)(x:V)(Q:b->List O->Prop):Prop:=∀A F ρ s u,j0 A d F.fr->d9 w F ρ H s.heap (gt s)->VR ρ s.heap x u->aJ (ay pP w) A (t u) (HQ w R F ρ s Q) nE s
def W2{a b:Type}(R:List c8->NV->b->a->Prop)(H:List O)(t:NS->NS->Sem a)(x y:V)(Q:b->List O->Prop):Prop:=∀A F ρ s u v,j0 A d F.fr->d9 w F ρ H s.heap (gt s)->VR ρ s.heap x u->VR ρ s.heap y v->aJ (ay pP w) A (t u v) (HQ w R F ρ s Q) nE s
def W3{a b:Type}(R:List c8->NV->b->a->Prop)(H:List O)(t:NS->NS->NS->Sem a)(x y z:V)(Q:b->List O->Prop):Prop:=∀A F ρ s u v r,j0 A d F.fr->d9 w F ρ H s.heap (gt s)->VR ρ s.heap x u->VR ρ s.heap y v->VR ρ s.heap z r->aJ (ay pP w) A (t u v r) (HQ w R F ρ s Q) nE s
def j7(H:List O)(f:V)(xs:List V)(Q:QV):Prop:=∀A F ρ s u us,j0 A d F.fr->d9 w F ρ H s.heap (gt s)->VR ρ s.heap f u->e5 ρ s.heap xs us->aJ (ay pP w) A (call u us) (HQ w VR F ρ s Q) nE s
end
theorem x9.ob{w:NQ}{fi:FI}{env:Env}{F:i5}{ρ:List c8}{s:NR}{Q:QF}{f:Flow}{s':NR}{G:Prop}(h:x9 w fi env F ρ s Q f s')(k:∀ρ' H' b a,e8 ρ s ρ' s'->d6 w fi env b F ρ' H' s'.heap (gt s')->lE ρ' s'.heap a f->Q a b H'->G):G:=x9.rec k h
theorem AQ.ob{w:NQ}{fi:FI}{env:Env}{F:i5}{ρ:List c8}{s:NR}{Q:QN}{s':NR}{G:Prop}(h:AQ w fi env F ρ s Q s')(k:∀ρ' H' a,e8 ρ s ρ' s'->d6 w fi env a F ρ' H' s'.heap (gt s')->Q a H'->G):G:=AQ.rec k h
theorem SQ.step{w:NQ}{e f:Type}{R:List c8->NV->f->e->Prop}{fi:FI}{env:Env}{m:b9}{F:i5}{ρ d:List c8}{s s₁:NR}{Q:f->List O->Prop}{v:e}{s':NR}(g:e8 ρ s d s₁)(x:SQ w R fi env m F d s₁ Q v s'):SQ w R fi env m F ρ s Q v s':=x.ob λa b c p q r z=>⟨a,b,c,g.trans p,q,r,z⟩
theorem x9.step{w:NQ}{fi:FI}{env:Env}{F:i5}{ρ d:List c8}{s s₁:NR}{Q:QF}{v:Flow}{s':NR}(f:e8 ρ s d s₁)(x:x9 w fi env F d s₁ Q v s'):x9 w fi env F ρ s Q v s':=x.ob λa b c e p q r z=>⟨a,b,c,e,f.trans p,q,r,z⟩
section
variable{w:NQ}{fi:FI}{d:Nat}{m:b9}{H:List O}
theorem lift{g i:Type}{R:List c8->NV->i->g->Prop}{A:NT}{env:Env}{F:i5}{ρ:List c8}{s:NR}{t:Sem g}{Q:i->List O->Prop}(S:d6 w fi env m F ρ H s.heap (gt s))(h:∀a:i5,a.fr=n6 env F->d9 w a ρ H s.heap (gt s)->aJ (ay pP w) A t (HQ w R a ρ s Q) nE s):aJ (ay pP w) A t (SQ w R fi env m F ρ s Q) nE s:=by refine ar (h _ rfl S.toH) (λv n o=>o.ob λf j b c T l k=>⟨f,j,b,c,S.ofH c.1 c.2.1 T,l,k⟩) λe n x=>x.elim
theorem q9{b:Type}{A:NT}{t:Sem b}{K K':b->NR->Prop}{a:NR}(h:aJ (ay pP w) A t K nE a)(c:∀v s',K v s'->K' v s'):aJ (ay pP w) A t K' nE a:=ar h c λ_ _ x=>x
theorem WE.mono{e:Expr}{Q Q':QV}(h:WE w fi d m H e Q)(i:∀v H,Q v H->Q' v H):WE w fi d m H e Q':=λA a F n s g S=>ar (h A a F n s g S) (λv o l=>l.ob λc f b k T j q=>⟨c,f,b,k,T,j,i _ _ q⟩) λ_ _ x=>x
theorem i6{i:Int}{k:Nat}{a:Pos}{Q:QV}(h:Q (.int i) H):WE w fi d m H (.Constant (.int i) k a) Q:=λA b F c s e S=>wpAny_Constant_int ⟨c,H,.int i,.refl,S.tk (aN _),Exists.intro _ rfl,h⟩
theorem l4{i:Str}{k:Nat}{a:Pos}{Q:QV}(h:Q (.str i) H):WE w fi d m H (.Constant (.str i) k a) Q:=λA b F c s e S=>eP ⟨c,H,.str i,.refl,S.tk (aN _),Exists.intro _ rfl,h⟩
theorem J6{k:Nat}{a:Pos}{Q:QV}(h:Q .none H):WE w fi d m H (.Constant .none k a) Q:=λA b F c s e S=>wpAny_Constant_none ⟨c,H,.none,.refl,S,rfl,h⟩
theorem iR{b:Bool}{k:Nat}{a:Pos}{Q:QV}(h:Q (.bool b) H):WE w fi d m H (.Constant (.bool b) k a) Q:=λA c F e s f S=>wpAny_Constant_bool ⟨e,H,.bool b,.refl,S,rfl,h⟩
theorem a7{x:Str}{v:V}{a:Pos}{Q:QV}(b:fi.sc.names.lookup x=some .local)(i:r9 m x=some v)(h:Q v H)(f:autoParam ((x==("__debug__":Str))=false) cU._auto_1):WE w fi d m H (.Name x a) Q:=λA c F j s k S=>by refine i8 (S.get i b) λl u g e r=>?_;exact cU (dC S.kd ((S.kind x).trans b) g e ⟨j,H,_,.refl,S,r,h⟩) f
theorem Q7{x:Str}{v:V}{a:Pos}{Q:QV}(f:fi.sc.names.lookup x=some .cell)(k:r9 m x=some v)(h:Q v H)(i:autoParam ((x==("__debug__":Str))=false) cU._auto_1):WE w fi d m H (.Name x a) Q:=λA g F l s n S=>by refine b8 (S.ce x (.inl f)) λc e=>?_;refine a9 (S.cl x c e) λo j r=>?_;rw[k]at r;refine a9 r.some_of λu b r=>?_;subst b;exact cU (wpAny_loadName_cell S.kd ((S.kind x).trans f) e j ⟨l,H,_,.refl,S,r,h⟩) i
theorem Dy{K:Frag}{N:Nat}{n:Str}{x:Option NS}(e:nsIn K N n=some x):∃o a k,K.lookup N=some o/\o.data=.dict a k/\(a.toList.find? (·.key.isStr n)).map (·.val)=x:=by unfold nsIn at e;cases q:K.lookup N with|none=>rw[q]at e;cases e|some o=>rw[q]at e;obtain⟨c,d,b,l⟩:=o;cases b with
  |dict a k=>refine⟨_,a,k,rfl,rfl,?_⟩;cases f:a.toList.find? (·.key.isStr n)with|some y=>dsimp only at e;rw[f]at e;cases e;rfl|none=>
    dsimp only at e;rw[f]at e;by_cases z:a.toList.any (·.refKey)=true;·dsimp only at e;cases(if_pos z).symm.trans e
    ·dsimp only at e;rw[if_neg z]at e;cases e;rfl
  |_=>cases e
theorem sZ{K:Frag}{h:NV}{N:Nat}{b:Str->Option NS}{n:Str}{v:Option NS}(X:K.In h)(G:h.Ns N b)(e:nsIn K N n=some v):b n=v:=by refine P9 G λo p l j g _ i=>?_;clear G;refine F6 (Dy e) λr c k q a f=>?_;have:=X _ _ q;injection j.symm.trans this with this;subst this;injection g.symm.trans a with a;subst a;rw[<-i,<-f];unfold nsFind findBy;rw[<-Array.find?_toList]
theorem iS{K:Frag}{h:NV}{a:Str->Option NS}{n:Str}(X:K.In h)(G:h.Ns bw a)(e:nsIn K bw n=some none):a n=none:=by exact sZ X G e
theorem U4{x:Str}{a:Nat}{b:Pos}{Q:QV}(i:fi.sc.names.lookup x=some .globalImplicit)(e:nsIn (KW w) bw x=some (some (.ref a)))(h:Q (.st a) H)(g:autoParam ((x==("__debug__":Str))=false) cU._auto_1):WE w fi d m H (.Name x b) Q:=λA f F j s k S=>by refine b8 S.b.g λl c=>?_;exact cF S.kd ((S.kind x).trans i) (Calls.loadGlobal_global (S.eg▸c) (mg_of S.b.k c e) ⟨j,H,.st a,.refl,S,rfl,h⟩) g
theorem B3{x:Str}{id:String}{b:Pos}{Q:QV}(j:fi.sc.names.lookup x=some .globalImplicit)(e:nsIn (KW w) bw x=some none)(g:bQ x=some (.builtin id))(h:Q (.bi id) H)(i:autoParam ((x==("__debug__":Str))=false) cU._auto_1)(l:autoParam (x≠"__name__") cU._auto_1):WE w fi d m H (.Name x b) Q:=λA f F n s o S=>by refine b8 S.b.g λq c=>?_;refine a9 S.b.bi λp k a=>?_;exact cF S.kd ((S.kind x).trans j) (cW (S.eg▸c) (iS S.b.k c e) (S.eb▸k) ((a x l).trans g) ⟨n,H,.bi id,.refl,S,rfl,h⟩) i
theorem K9{x:Str}{id:String}{b:Pos}{Q:QV}(j:fi.sc.names.lookup x=some .globalImplicit)(e:nsIn (KW w) bw x=some none)(g:bQ x=some (.type id))(h:Q (.ty id) H)(i:autoParam ((x==("__debug__":Str))=false) cU._auto_1)(l:autoParam (x≠"__name__") cU._auto_1):WE w fi d m H (.Name x b) Q:=λA f F n s o S=>by refine b8 S.b.g λq c=>?_;refine a9 S.b.bi λp k a=>?_;exact cF S.kd ((S.kind x).trans j) (cW (S.eg▸c) (iS S.b.k c e) (S.eb▸k) ((a x l).trans g) ⟨n,H,.ty id,.refl,S,rfl,h⟩) i
theorem Dz{l r:Expr}{z:Operator}{n:Pos}{Q:QV}(h:WE w fi d m H l λa c=>WE w fi d m c r λb e=>W2 w d VR e (eE z) a b Q):WE w fi d m H (.BinOp l z r n) Q:=λA g F K s k S=>wpAny_BinOp (ar (h A g F K s k S) (λu j p=>p.ob λt c a o C G i=>q9 (ar (i A g F t j k C) (λv J p=>p.ob λy e b f D I E=>q9 (lift D λB q T=>E A B y J u v (q▸k) T (G.mono f.1 f.2.1) I) λ_ _ x=>(x.step f).step o) λ_ _ x=>x) λ_ _ x=>x) λ_ _ x=>x)
theorem DA{l r:Expr}{n:CmpOp}{o:Pos}{Q:QV}(h:WE w fi d m H l λa c=>WE w fi d m c r λb e=>W2 w d VR e (cD n) a b Q)(G:autoParam (behindInMarks n r=false) Attribute_Name_._auto_1):WE w fi d m H (.Compare l [n] [r] o) Q:=λA g F L s k S=>wpAny_Compare1 (ar (h A g F L s k S) (λu j t=>t.ob λy c a p C I i=>q9 (ar (i A g F y j k C) (λv K t=>t.ob λz e b f D J E=>q9 (lift D λB q T=>E A B z K u v (q▸k) T (I.mono f.1 f.2.1) J) λ_ _ x=>(x.step f).step p) λ_ _ x=>x) λ_ _ x=>x) λ_ _ x=>x) G
theorem DB{l r:Expr}{t:CmpOp}{y:Pos}{Q:QB}(h:WE w fi d m H l λa e=>WE w fi d m e r λb f=>W2 w d VR f (cD t) a b λc G=>W1 w d N8 G truthy c Q)(N:autoParam (behindInMarks t r=false) Attribute_Name_._auto_1):WT w fi d m H (.Compare l [t] [r] y) Q:=λA i F W s o S=>wpAny_isTrue_Compare1 (ar (h A i F W s o S) (λu k n=>n.ob λC e a z I O j=>q9 (ar (j A i F C k o I) (λv U n=>n.ob λD f b g J P L=>q9 (ar (lift J λp q T=>L A p D U u v (q▸o) T (O.mono g.1 g.2.1) P) (λc V n=>n.ob λE G X B K R M=>q9 (lift K λp q T=>M A p E V c (q▸o) T R) λ_ _ x=>((x.step B).step g).step z) λ_ _ x=>x) λ_ _ x=>x) λ_ _ x=>x) λ_ _ x=>x) λ_ _ x=>x) N
theorem DC{e:Expr}{Q:QB}(h:WE w fi d m H e λa c=>W1 w d N8 c truthy a Q)(o:autoParam (∀env b,isTrue e env b=do let v<-b;dl e.pos;cZ [v] (truthy v)) FunClaim.holds_of_returning._auto_3):WT w fi d m H e Q:=λA env F t s k S=>wpAny_isTrue_value (ar (h A env F t s k S) (λu g r=>r.ob λj c a i n p f=>q9 (lift n λl q T=>f A l j g u (q▸k) T p) λ_ _ x=>x.step i) λ_ _ x=>x) (o env _)
theorem DD{x:Expr}{g:Pos}{Q:QB}(h:WT w fi d m H x λb c=>Q (!b) c):WT w fi d m H (.UnaryOp .Not x g) Q:=λA f F q s n S=>wpAny_isTrue_Not (ar (h A f F q s n S) (λb k p=>p.ob λj c a i l o e=>⟨j,c,_,i,l,by cases o;rfl,e⟩) λ_ _ x=>x)
theorem W5{x:Expr}{j:Pos}{Q:QB}(h:WT w fi d m H x Q):WT w fi d m H (.BoolOp .And [x] j) Q:=λA i F q s n S=>wpAny_isTrue_BoolOp (wpAny_allTrue_And_cons (ar (h A i F q s n S) (λb l p=>p.ob λg c a f k o e=>by
  cases o;cases b;·exact⟨g,c,_,f,k,rfl,e⟩
  ·exact wpAny_allTrue_And_nil ⟨g,c,_,f,k,rfl,e⟩) λ_ _ x=>x))
theorem DE{x y:Expr}{r:List Expr}{g:Pos}{Q:QB}(h:WT w fi d m H x λb c=>if b=true then WT w fi d m c (.BoolOp .And (y::r) g) Q else Q false c):WT w fi d m H (.BoolOp .And (x::y::r) g) Q:=λA f F t s n S=>wpAny_isTrue_BoolOp (wpAny_allTrue_And_cons (ar (h A f F t s n S) (λb j p=>p.ob λk c a i l o e=>by
  cases o;cases b;·exact⟨k,c,_,i,l,rfl,e⟩
  ·have q:=(show WT w fi d m c _ Q from e) A f F k j n l;rw[arm_isTrue_BoolOp]at q;exact q9 q λ_ _ x=>x.step i) λ_ _ x=>x))
theorem DF{x:Expr}{j:Pos}{Q:QB}(h:WT w fi d m H x Q):WT w fi d m H (.BoolOp .Or [x] j) Q:=λA i F q s n S=>wpAny_isTrue_BoolOp (wpAny_allTrue_Or_cons (ar (h A i F q s n S) (λb l p=>p.ob λg c a f k o e=>by
  cases o;cases b;·exact wpAny_allTrue_Or_nil ⟨g,c,_,f,k,rfl,e⟩
  ·exact⟨g,c,_,f,k,rfl,e⟩) λ_ _ x=>x))
theorem DG{x y:Expr}{r:List Expr}{g:Pos}{Q:QB}(h:WT w fi d m H x λb c=>if b=true then Q true c else WT w fi d m c (.BoolOp .Or (y::r) g) Q):WT w fi d m H (.BoolOp .Or (x::y::r) g) Q:=λA f F t s n S=>wpAny_isTrue_BoolOp (wpAny_allTrue_Or_cons (ar (h A f F t s n S) (λb j p=>p.ob λk c a i l o e=>by
  cases o;cases b;·have q:=(show WT w fi d m c _ Q from e) A f F k j n l;rw[arm_isTrue_BoolOp]at q;exact q9 q λ_ _ x=>x.step i
  ·exact⟨k,c,_,i,l,rfl,e⟩) λ_ _ x=>x))
theorem DH{c x y:Expr}{n:Pos}{Q:QV}(h:WT w fi d m H c λb e=>if b=true then WE w fi d m e x Q else WE w fi d m e y Q):WE w fi d m H (.IfExp c x y n) Q:=λA i F r s l S=>IfExp_ (ar (h A i F r s l S) (λb g q=>q.ob λk e a j o p f=>by
  cases p;cases b;·exact q9 ((show WE w fi d m e y Q from f) A i F k g l o) λ_ _ x=>x.step j
  ·exact q9 ((show WE w fi d m e x Q from f) A i F k g l o) λ_ _ x=>x.step j) λ_ _ x=>x)
def J7(a:List Expr):Prop:=∀env,eF a env=a.map λe=>(false,eval e env)
theorem oz{i:List Expr}{k:Pos}{Q:List V->List O->Prop}:∀{H:List O},B2 w fi d m H i Q->∀A env F ρ s,j0 A d (n6 env F)->d6 w fi env m F ρ H s.heap (gt s)->aJ (ay pP w) A (spliced (dW k (i.map λe=>(false,eval e env)))) (SQ w e5 fi env m F ρ s Q) nE s:=by induction i generalizing Q with|nil=>exactλh A env F ρ s j S=>aq ⟨ρ,_,[],.refl,S,.nil,h⟩|cons e i B=>intro H h A env F ρ s j S;refine fU (ar ((show WE w fi d m H e _ from h) A env F ρ s j S) (λu g z=>?_) λ_ _ x=>x);obtain⟨o,q,a,n,r,C,f⟩:=z;exact q9 (ar (B f A env F o g j r) (λE D G=>G.ob λp c v b t l y=>(⟨p,c,a::v,n.trans b,t,.cons (C.mono b.1 b.2.1) l,y⟩:SQ w e5 fi env m F ρ s Q (u::E) D)) λ_ _ x=>x) λ_ _ x=>x
theorem DI{n:List Expr}{r:Pos}{Q:QV}(h:B2 w fi d m H n λy b=>y.length<=aF/\Q (.ref b.length) (b++[.list y]))(C:autoParam (J7 n) NY._auto_1):WE w fi d m H (.List n r) Q:=λA c F E s B S=>by refine List_ ?_;rw[C c];refine ar (oz h A c F E s B S) (λi a D=>?_) λ_ _ x=>x;obtain⟨j,b,z,t,l,v,g⟩:=D;refine d7 g λq f=>?_;clear g;refine bP ?_ (by show i.toArray.size<=aF;rw[aZ,v.len];exact q);have k:u0 a.heap (a.heap.push {cls:=.type "list",data:=.seq i.toArray}):=λ_ _ e=>aD _ e;have p:j<+:j++[⟨a.heap.objs.size,[a.heap.objs.size],none⟩]:=aH _ _;have u:(a.heap.push {cls:=.type "list",data:=.seq i.toArray}).get? a.heap.objs.size=some {cls:=.type "list",data:=.seq i.toArray}:=aT _ rfl;refine⟨_,_,.ref b.length,t.trans (.add (.of_keep k) rfl),l.ofH p (.of_keep k) (l.toH.alloc (o:=.list z) k (z5 _) ⟨_,u⟩ (fY rfl rfl i ⟨_,u⟩ (v.mono p (.of_keep k)))),?_,f⟩;exact b7 _ (by rw[<-l.hs.len,ao]) rfl
theorem DJ{j:List Expr}{k:Nat}{n:Pos}{Q:QV}(h:B2 w fi d m H j λr b=>r.length<=aF/\Q (.tup r) b)(z:autoParam (J7 j) NY._auto_1):WE w fi d m H (.Tuple j k n) Q:=λA c F C s v S=>by refine Tuple_ ?_;rw[z c];refine ar (oz h A c F C s v S) (λi a B=>?_) λ_ _ x=>x;obtain⟨p,b,u,o,t,q,g⟩:=B;refine d7 g λl f=>?_;clear g;refine bP ?_ (by show i.toArray.size<=aF;rw[aZ,q.len];exact l);have k:u0 a.heap (a.heap.push {cls:=.type "tuple",data:=.seq i.toArray}):=λ_ _ e=>aD _ e;have y:(a.heap.push {cls:=.type "tuple",data:=.seq i.toArray}).get? a.heap.objs.size=some {cls:=.type "tuple",data:=.seq i.toArray}:=aT _ rfl;refine⟨p,b,.tup u,o.trans (.same (.of_keep k) rfl),t.keeps k,?_,f⟩;exact A9 _ i rfl (Z6 _ y rfl _ rfl) (q.mono (aA _) (.of_keep k))
end
section
variable(w:NQ)(fi:FI)(d:Nat)
def lF:b9->List O->List Expr->List V->(b9->List O->Prop)->Prop|m,H,[],[],Q=>Q m H|m,H,t::c,v::e,Q=>WA w fi d m H t v λb a=>lF b a c e Q|_,_,_,_,_=>False
end
abbrev gU(_:List c8)(_:NV)(_ _:Unit):Prop:=True
section
variable{w:NQ}{fi:FI}{d:Nat}{m:b9}{H:List O}
def N9(fi:FI)(x:Str):Prop:=fi.sc.names.lookup x=some .local\/ fi.sc.names.lookup x=some .cell/\fi.own=true
theorem d6.nocls(S:d6 w fi env m F ρ H h gs):(env.scope.kind==.class||env.scope.kind==.module&&env.locals !=env.globals)=false:=by rw[S.kd];rfl
theorem tc(S:d6 w fi env m F ρ H s.heap (gt s))(r:VR ρ s.heap v u)(t:N9 fi x):aJ (ay pP w) A (storeName env x u) (λ_ s'=>e8 ρ s ρ s'/\d6 w fi env (u9 m x v) F ρ H s'.heap (gt s')/\∀b o,b∉j9 fi env->s.heap.get? b=some o->s'.heap.get? b=some o) E' s:=by
 rcases t with g|⟨g,n⟩;· refine a9 S.ns λz k y=>?_;refine wpAny_storeName_local ((S.kind x).trans g) k (λp l f=>i9 (.same (.of_ext (λb o a e=>f.extBut b o a e) (W4 k)) rfl) ((S.setLoc r k y l f g).tk (aN _)) λb o a e=>f.extBut b o (λq=>a (q▸N5 fi env)) e) S.nocls
 · refine b8 (S.ce x (.inl g)) λc h=>?_;refine a9 (S.cl x c h) λB i _=>?_;refine wpAny_storeName_cell S.kd ((S.kind x).trans g) h i λp j f=>i9 (.same (.of_ext (λb o a e=>f.extBut b o a e) (sX i)) rfl) (S.setCell r n h i j f (by rw[g];decide)) λb o a e=>f.extBut b o (λq=>a ?_) e;rw[q];unfold j9;exact if_pos n▸.tail _ (bp.mpr (b7 _ (M2 h) rfl))
theorem lG(S:d6 w fi env m F ρ H s.heap (gt s))(r:VR ρ s.heap v u)(a:N9 fi x):aJ (ay pP w) A (storeName env x u) (λ_ s'=>e8 ρ s ρ s'/\d6 w fi env (u9 m x v) F ρ H s'.heap (gt s')) E' s:=ar (tc S r a) (λ_ _ x=>⟨x.1,x.2.1⟩) λ_ _ x=>x
theorem e6(c:N9 fi x)(h:Q (u9 m x v) H):WA w fi d m H (.Name x pos) v Q:=λA b F f s u g S r=>wpAny_assign_Name (ar (lG S r c) (λ_ i=>u6 λe a=>⟨f,H,_,e,a,h⟩) λ_ _ x=>x)
theorem DK(h:WE w fi d m H o λy c=>WE w fi d m c i λt e=>W3 w d gU e setItem y t v λ_ l=>Q m l):WA w fi d m H (.Subscript o i pos) v Q:=λA g F V s u n S r=>by rw[assign_Subscript];refine ac (bc (ar (h A g F V s n S) (λy k p=>?_) λ_ _ x=>x));obtain⟨E,c,a,C,K,P,j⟩:=p;refine ac (bc (q9 (ar (j A g F E k n K) (λt U p=>?_) λ_ _ x=>x) λ_ _ x=>x));obtain⟨G,e,b,f,L,R,N⟩:=p;have B:=C.trans f;refine ac (cM (ac (bc (q9 (lift L λJ q T=>N A J G U y t u (q▸n) T (P.mono f.1 f.2.1) R (r.mono B.1 B.2.1)) ?_))));intro _ W;intro z;obtain⟨I,l,_,D,M,_,O⟩:=z;exact wpAny_release ⟨I,l,m,B.trans D,M,O⟩
theorem DL(h:WE w fi d m H o λc b=>W2 w d gU b (λu v=>setAttr u attr v) c v λ_ j=>Q m j):WA w fi d m H (.Attribute o attr pos) v Q:=λA f F G s u t S r=>by
  show aJ _ A (do
   let c<-cZ [u] (eval o f)
   dl pos.atName
   cZ [u,c] (setAttr c attr u)
   release [u,c] []) _ _ s;refine ac (bc (ar (h A f F G s t S) (λc i D=>?_) λ_ _ x=>x));obtain⟨n,b,a,e,z,E,g⟩:=D;refine ac (cM (ac (bc (q9 (lift z λy q T=>g A y n i c u (q▸t) T E (r.mono e.1 e.2.1)) ?_))));intro _ I;intro k;obtain⟨p,j,_,l,B,_,C⟩:=k;exact wpAny_release ⟨p,j,m,e.trans l,B,C⟩
def oA(a:List Expr):Prop:=∀env,dY a env=a.map λe=>(false,cO e env)
theorem DM{i:List Expr}:∀{m:b9}{H:List O}{b:List V}{Q:QN},lF w fi d m H i b Q->∀A env F ρ s us,j0 A d (n6 env F)->d6 w fi env m F ρ H s.heap (gt s)->e5 ρ s.heap b us->aJ (ay pP w) A (assignInOrder (i.map λe=>cO e env) us) (λ_ s'=>AQ w fi env F ρ s Q s') nE s:=by induction i with
 |nil=>intro m H b Q h A env F ρ s us j S r;cases b with|nil=>exact r.nil_eq▸aq ⟨ρ,H,m,.refl,S,h⟩|cons _ _=>exact h.elim
 |cons t i D=>intro m H b Q h A env F ρ s us j S r;cases b with|nil=>exact h.elim|cons v b=> refine i8 r.cons_eq λu us k G l=>?_;subst k;show aJ _ A (do cZ us (cO t env u);assignInOrder (i.map λe=>cO e env) us) _ _ s;refine ac (bc (ar (h A env F ρ s u j S G) (λ_ g o=>o.ob λp y I a z f=>?_) λ_ _ x=>x));exact q9 (D f A env F p g us j z (l.mono a.1 a.2.1)) λ_ J o=>o.ob λq c E n B C=>⟨q,c,E,a.trans n,B,C⟩
theorem DN(b:oA es)(env:Env):(dY es env).length=es.length/\(dY es env).findIdx? (·.1)=none/\(dY es env).map (·.2)=es.map λe=>cO e env:=by rw[b env];refine i9 (ak ..) ?_ (by rw[cV];rfl);rw[List.findIdx?_eq_none_iff];intro x c;refine a9 (bp.mp c) λe _ a=>?_;subst a;rfl
theorem DO{k:Nat}(h:W1 w d e5 H (λu=>fX u es.length none) v λp a=>lF w fi d m a es p Q)(E:autoParam (oA es) NY._auto_1):WA w fi d m H (.Tuple es k pos) v Q:=λA c F M s u o S r=>by rw[arm_assign_Tuple];refine ac (cM ?_);unfold unpack;refine n8 (DN E c) λB C D=>?_;rw[B,C,D];refine ac (bc (ar (lift S λt q T=>h A t M s u (q▸o) T r) (λK g G=>?_) λ_ _ x=>x));obtain⟨l,a,p,i,y,J,e⟩:=G;exact q9 (DM e A c F l g K o y J) λ_ N L=>L.ob λn b I j z f=>⟨n,b,I,i.trans j,z,f⟩
theorem DP(h:WE w fi d m H value λv b=>WA w fi d m b t v λf a=>Q .next f a)(y:autoParam (∀env,swapsWithSole [t] value pos.line env=pure false) NY._auto_1)(z:autoParam (∀env,bL [t] value env=pure none) NY._auto_1)(q:autoParam (∀env,dY [t] env=[(false,cO t env)]) NY._auto_1):WS w fi d m H (.Assign [t] value pos) Q:=λA env F D s l S=>by refine wpAny_Assign_stores (ar (h A env F D s l S) (λu e B=>?_) λ_ _ x=>x) (y env) (z env);obtain⟨j,b,v,g,n,r,c⟩:=B;rw[q env];exact q9 (c A env F j e u l n r) λ_ E C=>C.ob λk a f i o p=>⟨k,a,f,.next,g.trans i,o,rfl,p⟩
theorem DQ(h:WE w fi d m H value λv a=>WA w fi d m a t v λy b=>WA w fi d y b t' v λj g=>Q .next j g)(I:autoParam (∀env,bL [t,t'] value env=pure none) NY._auto_1)(G:autoParam (∀env,dY [t,t'] env=[(false,cO t env),(false,cO t' env)]) NY._auto_1):WS w fi d m H (.Assign [t,t'] value pos) Q:=λA env F L s i S=>by refine wpAny_Assign_stores (ar (h A env F L s i S) (λu f J=>?_) λ_ _ x=>x) rfl (I env);obtain⟨o,a,v,k,z,r,e⟩:=J;rw[G env];show aJ _ A (do cZ [u] (cO t env u);cO t' env u) _ _ _;refine ac (bc (q9 (ar (e A env F o f u i z r) (λ_ K n=>n.ob λp b y c B D=>?_) λ_ _ x=>x) λ_ _ x=>x));exact q9 (D A env F p K u i B (r.mono c.1 c.2.1)) λ_ M n=>n.ob λq g j l C E=>⟨q,g,j,.next,(k.trans c).trans l,C,rfl,E⟩
noncomputable def oB(m:b9):List Str->List V->b9|x::b,v::a=>oB (u9 m x v) b a|_,_=>m
theorem DR{xs:List Str}:∀{m:b9}{a:List V},(∀x∈xs,N9 fi x)->a.length=xs.length->∀A env F ρ s us,d6 w fi env m F ρ H s.heap (gt s)->e5 ρ s.heap a us->∀{f:VP},aJ (ay pP w) A (assignInOrder (xs.map λx=>bindName env x) us) (λ_ s'=>e8 ρ s ρ s'/\d6 w fi env (oB m xs a) F ρ H s'.heap (gt s')) f s:=by induction xs with
 |nil=>intro m a _ e A env F ρ s us S r f;cases a with|nil=>exact r.nil_eq▸aq ⟨.refl,S⟩|cons _ _=>injection e
 |cons x xs o=>intro m a j e A env F ρ s us S r f;cases a with|nil=>injection e|cons v a=> refine i8 r.cons_eq λu us g p h=>?_;subst g;show aJ _ A (do cZ us (bindName env x u);assignInOrder (xs.map λx=>bindName env x) us) _ _ s;refine ac (bc (wpAny_bindName (ar (lG S p (j x (.head _))) (λ_ c=>u6 λb k=>?_) λ_ _ x=>x)));exact ar (o (λy n=>j y (.tail _ n)) (eG e) A env F ρ c us k (h.mono b.1 b.2.1)) (λ_ q=>u6 λi l=>⟨b.trans i,l⟩) λ_ _ x=>x
theorem e5.reverse(r:e5 ρ h xs b):e5 ρ h xs.reverse b.reverse:=e5.ind (P:=λxs b=>e5 ρ h xs.reverse b.reverse) .nil (λa _ c=>by rw[List.reverse_cons,List.reverse_cons];exact c.append (.cons a .nil)) r
theorem O0{k:Nat}{Q:QF}(c:∀x∈xs,N9 fi x)(h:WE w fi d m H value λv b=>W1 w d e5 b (λu=>fX u xs.length none) v λp a=>p.length=xs.length/\Q .next (oB m xs.reverse p.reverse) a)(J:∀env,env.scope=fi.sc->bL [.Tuple es k tp] value env=pure (some xs))(I:autoParam (∀env,swapsWithSole [.Tuple es k tp] value pos.line env=pure false) NY._auto_1):WS w fi d m H (.Assign [.Tuple es k tp] value pos) Q:=λA env F M s y S=>by refine Assign_Tuple_swapped (names:=xs) (ar (h A env F M s y S) (λu g c=>?_) λ_ _ x=>x) (I env) (J env S.es);obtain⟨t,b,v,l,B,r,e⟩:=c;refine q9 (ar (lift B λz q T=>e A z t g u (q▸y) T r) (λO L c=>?_) λ_ _ x=>x) λ_ _ x=>x;obtain⟨i,a,p,n,C,K,f⟩:=c;refine d7 f λG E=>?_;clear f;exact ar (DR (λx j=>c x (List.mem_reverse.mp j)) (by rw[List.length_reverse,List.length_reverse];exact G) A env F i L _ C K.reverse) (λ_ N=>u6 λo D=>⟨i,a,_,.next,(l.trans n).trans o,D,rfl,E⟩) λ_ _ x=>x
theorem DS{K:VP}{i:VP}(S:d6 w fi env m F ρ H s.heap (gt s))(k:N9 fi x)(g:r9 m x=some v)(h:∀u,VR ρ s.heap v u->K u s):aJ (ay pP w) A (loadName env x) K i s:=by
 rcases k with a|⟨a,n⟩;· refine i8 (S.get g a) λo u l e r=>?_;exact dC S.kd ((S.kind x).trans a) l e (h u r)
 · refine b8 (S.ce x (.inl a)) λc f=>?_;refine a9 (S.cl x c f) λp j r=>?_;rw[g]at r;refine a9 r.some_of λu b r=>?_;subst b;exact wpAny_loadName_cell S.kd ((S.kind x).trans a) f j (h u r)
theorem DT(t:N9 fi x)(I:r9 m x=some a)(h:WE w fi d m H value λb e=>W2 w d VR e (inplaceOp op) a b λc g=>Q .next (u9 m x c) g):WS w fi d m H (.AugAssign (.Name x p) op value pos) Q:=λA i F N s r S=>by refine wpAny_AugAssign_Name (DS S t I λu L=>ar (h A i F N s r S) (λv M j=>?_) λ_ _ x=>x);obtain⟨n,e,b,f,B,J,E⟩:=j;refine q9 (ar (lift B λz q T=>E A z n M u v (q▸r) T (L.mono f.1 f.2.1) J) (λc P j=>?_) λ_ _ x=>x) λ_ _ x=>x;obtain⟨o,g,O,k,C,K,G⟩:=j;exact ar (lG C K t) (λ_ y=>u6 λl D=>⟨o,g,_,.next,(f.trans k).trans l,D,rfl,G⟩) λ_ _ x=>x
theorem DU(h:WT w fi d m H c λb e=>if b=true then WB w fi d m e x Q else WB w fi d m e y Q):WS w fi d m H (.If c x y pos) Q:=λA i F q s l S=>wpAny_If (ar (h A i F q s l S) (λb g p=>p.ob λk e a j n o f=>by
  subst o;cases b;·exact q9 ((show WB w fi d m e y Q from f) A i F k g l n) λ_ _ x=>x.step j
  ·exact q9 ((show WB w fi d m e x Q from f) A i F k g l n) λ_ _ x=>x.step j) λ_ _ x=>x)
theorem DV(h:WE w fi d m H e λv b=>Q (.ret v) m b):WS w fi d m H (.Return (some e) pos) Q:=λA f F p s l S=>wpAny_Return_some (ar (h A f F p s l S) (λu j o=>o.ob λi b a g k n c=>⟨i,b,m,.ret a,g,k,⟨u,rfl,n⟩,c⟩) λ_ _ x=>x)
theorem oE(h:Q (.ret .none) m H):WS w fi d m H (.Return none pos) Q:=λA a F b s c S=>wpAny_Return_none ⟨b,H,m,.ret .none,.refl,S,b7 .none rfl rfl,h⟩
theorem DW(h:Q .brk m H):WS w fi d m H (.Break pos) Q:=λA a F b s c S=>wpAny_Break ⟨b,H,m,.brk,.refl,S,rfl,h⟩
theorem DY(h:Q .cont m H):WS w fi d m H (.Continue pos) Q:=λA a F b s c S=>wpAny_Continue ⟨b,H,m,.cont,.refl,S,rfl,h⟩
theorem d6.noint(S:d6 w fi env m F ρ H h gs):eV env=false:=by unfold eV;rw[S.kd];rfl
theorem DZ(h:WE w fi d m H e λv b=>Q .next m b)(l:autoParam (∀env,swapsWith e none pos.line env=pure false) NY._auto_1):WS w fi d m H (.Expr e pos) Q:=λA env F o s k S=>wpAny_Expr_any (ar (h A env F o s k S) (λu i n=>n.ob λg b a f j p c=>⟨g,b,m,.next,f,j,rfl,c⟩) λ_ _ x=>x) S.noint (l env)
theorem e7(h:Q .next m H):WB w fi d m H [] Q:=λA a F b s c S=>wpAny_execs_nil ⟨b,H,m,.next,.refl,S,rfl,h⟩
theorem D3{p:NW}{rest:List NW}{Q:QF}(h:WS w fi d m H p λf g a=>match f with|.next=>WB w fi d g a rest Q|f=>Q f g a):WB w fi d m H (p::rest) Q:=λA i F y s o S=>wpAny_execs_cons (ar (h A i F y s o S) (λf k t=>t.ob λe a g q c l j b=>by cases q with|next=>subst j;exact q9 (b A i F e k o l) λ_ _ x=>x.step c|brk=>subst j;exact⟨e,a,g,.brk,c,l,rfl,b⟩|cont=>subst j;exact⟨e,a,g,.cont,c,l,rfl,b⟩|ret v=>refine a9 j λu n r=>?_;clear j;subst n;exact⟨e,a,g,.ret v,c,l,b7 u rfl r,b⟩) λ_ _ x=>x)
theorem lI:PassesOwn (ay pP w) A env nE:=λ_ _ x=>x.elim
theorem jR(J:Nat->b9->List O->Prop)(n:Nat)(h0:J n m H)(h:∀n m H,J n m H->WT w fi d m H c λb g=>if b=true then WB w fi d m g body λf N i=>match f with|.next|.cont=>∃k,k<n/\J k N i|.brk=>Q .next N i|.ret v=>Q (.ret v) N i else Q .next m g):WS w fi d m H (.While c body [] pos) Q:=λA l F U s X S=>by refine wpAny_While (codeAny_whileLoop (R:=λr Y=>match r with|.ok f=>x9 w fi l F U s Q f Y|.error e=>cameBackBy (ay pP w) A l nE e Y) (λn j=>∃p z g,e8 U s p j/\d6 w fi l z F p g j.heap (gt j)/\J n z g) ?_ n (Q2 U m H .refl S h0));intro n j;refine yh λp z g P Z hJ=>?_;refine wpAny_passesOwn lI (q9 (ar (h n z g hJ A l F p j X Z) (λb s2 M=>?_) λ_ _ x=>x) λ_ _ x=>x);obtain⟨E,i,a,T,V,ra,W⟩:=M;subst ra;have D:=P.trans T;cases b with|false=>exact wpAny_execs_nil ⟨E,i,z,.next,D,V,rfl,W⟩|true=>refine wpAny_passesOwn lI (q9 (ar (W A l F E s2 X V) (λf s3 M=>?_) λ_ _ x=>x) λ_ _ x=>x);obtain⟨q,G,K,fl,o,I,C,y⟩:=M;cases fl with|next=>subst C; refine a9 y λk L t=>?_;clear y;exact rA k L q K G (D.trans o) I t |cont=>subst C; refine a9 y λk L t=>?_;clear y;exact rA k L q K G (D.trans o) I t |brk=>subst C;exact⟨q,G,K,.next,D.trans o,I,rfl,y⟩|ret v=>refine a9 C λu B r=>?_;clear C;subst B;exact⟨q,G,K,.ret v,D.trans o,I,b7 u rfl r,y⟩
end
theorem HQ.el{w:NQ}{a c:Type}{R:List c8->NV->c->a->Prop}{F:i5}{ρ:List c8}{s:NR}{Q:c->List O->Prop}{v:a}{s':NR}{G:Prop}(k:∀ρ' H' b,e8 ρ s ρ' s'->d9 w F ρ' H' s'.heap (gt s')->R ρ' s'.heap b v->Q b H'->G)(h:HQ w R F ρ s Q v s'):G:=HQ.rec k h
theorem SQ.el{w:NQ}{a c:Type}{R:List c8->NV->c->a->Prop}{fi:FI}{env:Env}{m:b9}{F:i5}{ρ:List c8}{s:NR}{Q:c->List O->Prop}{v:a}{s':NR}{G:Prop}(k:∀ρ' H' b,e8 ρ s ρ' s'->d6 w fi env m F ρ' H' s'.heap (gt s')->R ρ' s'.heap b v->Q b H'->G)(h:SQ w R fi env m F ρ s Q v s'):G:=SQ.rec k h
theorem x9.el{w:NQ}{fi:FI}{env:Env}{F:i5}{ρ:List c8}{s:NR}{Q:QF}{f:Flow}{s':NR}{G:Prop}(k:∀ρ' H' b a,e8 ρ s ρ' s'->d6 w fi env b F ρ' H' s'.heap (gt s')->lE ρ' s'.heap a f->Q a b H'->G)(h:x9 w fi env F ρ s Q f s'):G:=x9.rec k h
theorem AQ.el{w:NQ}{fi:FI}{env:Env}{F:i5}{ρ:List c8}{s:NR}{Q:QN}{s':NR}{G:Prop}(k:∀ρ' H' a,e8 ρ s ρ' s'->d6 w fi env a F ρ' H' s'.heap (gt s')->Q a H'->G)(h:AQ w fi env F ρ s Q s'):G:=AQ.rec k h
def A0(fp:List Nat)(s s':NR):Prop:=(s'.gens=s.gens/\s.toks<=s'.toks)/\s'.os=s.os/\TK s.heap s'.heap/\∀b o,b∉fp->s.heap.get? b=some o->s'.heap.get? b=some o
theorem A0.refl:A0 fp s s:=j8 ⟨rfl,ae _⟩ rfl (.refl _) λ_ _ _ e=>e
section
variable{w:NQ}{fi:FI}{env:Env}{m m':b9}{F:i5}{ρ ρ':List c8}{H H':List O}{h h':NV}{gs gs':GT}{fp:List Nat}
theorem d9.chg(S:d9 w F ρ H s.heap (gt s))(g:∀b∈fp,F.f b=none/\b∉l7 ρ)(c:A0 fp s s'):d9 w F ρ H s'.heap (gt s'):=by
 refine m6 c λf _ t k=>?_;try clear c;obtain⟨p,r⟩:=f
 have l:Q5 F s'.heap:=λb o e=>a9 (S.keep b o e) λn v u=>b7 n (k b n (λq=>by rw[(g b q).1]at e;injection e) v) u;have kp:∀b∈l7 ρ,∀o,s.heap.get? b=some o->s'.heap.get? b=some o:=λb a o e=>k b o (λq=>(g b q).2 a) e;exact d9.gte (s:=s) ⟨S.bs,l,S.len,λi e o j d=>(S.ob i e o j d).mono (aA _) t S.keep l λb a q x=>kp b (M1 j a) q x,λb a=>b8 (S.live b a) λo d=>⟨o,kp b a o d⟩,S.nd,S.off,S.gn,S.bare,S.gf,S.fo,S.tp⟩ p r
def y4(fi:FI)(env:Env)(F:i5)(ρ:List c8)(fp:List Nat):Prop:=∀b∈fp,F.f b=none/\b∉l7 ρ/\b∉j9 fi env
theorem d6.chg(S:d6 w fi env m F ρ H s.heap (gt s))(d:y4 fi env F ρ fp)(c:A0 fp s s'):d6 w fi env m F ρ H s'.heap (gt s'):=S.ofH (aA _) c.2.2.1 (S.toH.chg (λb a=>⟨by exact(N7 (d b a).2.2).trans ((d b a).1),(d b a).2.1⟩) c)
theorem d6.own_live(S:d6 w fi env m F ρ H h gs):∀b∈j9 fi env,∃o,h.get? b=some o/\o.cls≠.type "list"\/∃o,h.get? b=some o:=λb a=>by
 unfold j9 at a;split at a
 · rcases az.mp a with rfl|a;· refine a9 S.ns λl e _=>?_;obtain⟨o,_,_,d,_⟩:=e;exact⟨o,.inr ⟨o,d⟩⟩
   · refine a9 (bp.mp a) λf k g=>?_;obtain⟨x,c⟩:=f;subst g;refine a9 (S.cl x c (S.cu x c k).1) λn i _=>?_;obtain⟨o,d,_⟩:=i;exact⟨o,.inr ⟨o,d⟩⟩
 ·rw[af.mp a];refine a9 S.ns λl j _=>?_;obtain⟨o,_,_,d,_⟩:=j;exact⟨o,.inr ⟨o,d⟩⟩
theorem d6.fresh(S:d6 w fi env m F ρ H h gs)(d:∀b∈fp,h.get? b=none):y4 fi env F ρ fp:=λb c=>by
 refine i9 ?_ (λq=>?_) λq=>?_;·cases q:F.f b with|none=>rfl|some o=>refine a9 (S.hs.keep _ _ q) λg f _=>?_;rw[d b c]at f;injection f
 · refine b8 (S.hs.live b q) λo a=>?_;rw[d b c]at a;injection a
 ·(refine b8 (S.own_live b q) λo e=>?_;obtain⟨a,_⟩|⟨o,a⟩:=e)<;>(rw[d b c]at a;injection a)
theorem d6.rebase(S:d6 w fi env m F ρ H h gs)(g:y4 fi env F ρ fp):d6 w fi env m (F8 F h fp) ρ H h gs:=by
 have d:∀b o,F.f b=some o->(F8 F h fp).f b=some o:=λb o e=>by exact(iQ λq=>by rw[(g b q).1]at e;injection e).trans e
 refine⟨⟨λh' k=>S.hs.bs h' λb o e=>k b o (d b o e),λb o e=>?_,S.hs.len,λi e o u j=>(S.hs.ob i e o u j).base d,S.hs.live,S.hs.nd,λb a=>?_,S.hs.gn,S.hs.bare,S.hs.gf,λe t=>fg (S.hs.fo e t) λl L o n p r=>rr l L o n (d L o p) r,S.hs.tp⟩,S.es,S.eg,S.eb,S.ec,S.ek,S.ef,λb a=>⟨?_,(S.lo b a).2⟩,S.ns,S.cl,S.ce,S.cn,S.cu,S.cd,λq x c s=>?_⟩
 · by_cases q:b∈fp;·rw[lD q]at e;exact b7 o e .refl
   ·rw[iQ q]at e;exact S.hs.keep b o e
 ·exact(iQ λq=>(g b q).2.1 a).trans (S.hs.off b a)
 ·exact(iQ λq=>(g b q).2.2 a).trans ((S.lo b a).1)
 · refine b8 (cN.mp (S.cf q x c s)) λo j=>?_;rw[d c o j];rfl
theorem d6.unbase(S:d6 w fi env m F ρ H h gs)(j:y4 fi env F ρ fp)(C:∀b∈fp,∃o,h.get? b=some o)(p:ρ<+:ρ')(D:Q6 nn ρ ρ')(T:d6 w fi env m' (F8 F h fp) ρ' H' h' gs'):d6 w fi env m' F ρ' H' h' gs'/\y4 fi env F ρ' fp/\∀b∈fp,∀o,h.get? b=some o->h'.get? b=some o:=by
 have x:∀b o,F.f b=some o->(F8 F h fp).f b=some o:=λb o e=>by exact(iQ λq=>by rw[(j b q).1]at e;injection e).trans e
 have g:∀b,(F8 F h fp).f b=none->F.f b=none:=λb q=>by cases z:F.f b with|none=>rfl|some o=>rw[x b o z]at q;injection q
 have kp:∀b∈fp,∀o,h.get? b=some o->h'.get? b=some o:=λb c o e=>by refine a9 (T.hs.keep b o (by exact(lD c).trans e)) λE A u=>?_;rw[A,u.ex (S.hs.fo.off (j b c).1)]
 refine i9 ⟨⟨S.hs.bs,λb o e=>T.hs.keep b o (x b o e),T.hs.len,λi e o n k=>?_,T.hs.live,T.hs.nd,λb c=>g b (T.hs.off b c),T.hs.gn,T.hs.bare,T.hs.gf,S.hs.fo,T.hs.tp⟩,T.es,T.eg,T.eb,T.ec,T.ek,T.ef,λb c=>⟨g b (T.lo b c).1,(T.lo b c).2⟩,T.ns,T.cl,T.ce,T.cn,T.cu,T.cd,S.cf⟩ (λb c=>i9 ((j b c).1) (λq=>?_) ((j b c).2.2)) kp;·have y:=T.hs.ob i e o n k;cases o with
   |arr xs=>
    refine m6 y λa b l f=>?_;try clear y
    refine j8 a b l ?_;by_cases q:i<ρ.length
    · have r:ρ[i]?=some e:=by(refine b8 p λt s=>?_;try clear p;subst s);rwa[aI q]at n
      have B:i<H.length:=by rw[<-S.hs.len];exact q
      have v:=S.hs.ob i e H[i] r (aw B);rcases v.own with⟨ys,d⟩|d|d;·rw[d]at v;exact v.2.2.2
      ·rw[a]at d;exact absurd d List.not_mem_nil
      ·rw[b]at d;injection d
    ·exact absurd a (D i e (bl.mp q) n).1|_=>exact y
 ·have:=T.hs.off b q;rw[lD c]at this;refine b8 (C b c) λo k=>?_;rw[this]at k;injection k
end
structure Q8(w:NQ)(I:Nat)(fp:List Nat)(xs:List V)(G:List O->Prop)(St:Nat->List c8->NV->Prop)(Md:NS->Nat->List c8->NV->Prop)(T:Expr->Prop):Prop where
 frame:∀i ρ h ρ' h',St i ρ h->ρ<+:ρ'->TK h h'->(∀b∈fp,∀o,h.get? b=some o->h'.get? b=some o)->St i ρ' h'
 live:∀i ρ h,St i ρ h->∀b∈fp,∃o,h.get? b=some o
 lot:∀A i ρ(s:NR)t v(E':VP),Md v i ρ s.heap->T t->aJ (ay pP w) A (fK t (.ref I) v) (λ_ s'=>St i ρ s'.heap/\A0 fp s s') E' s
 item:∀A F ρ H(s:NR)i x(E':VP),A.handled=none->d9 w F ρ H s.heap (gt s)->G H->St i ρ s.heap->xs[i]?=some x->aJ (ay pP w) A (dL (.ref I)) (λr s'=>∃v,r=some v/\VR ρ s'.heap x v/\Md v (i+1) ρ s'.heap/\A0 fp s s') E' s
 pl:(∀t,T t)->∀v i ρ h,Md v i ρ h->St i ρ h
 done:∀A F ρ H(s:NR)(E':VP),A.handled=none->d9 w F ρ H s.heap (gt s)->G H->St xs.length ρ s.heap->aJ (ay pP w) A (dL (.ref I)) (λr s'=>r=none/\A0 fp s s') E' s
 self:∀A i ρ(s:NR)(K:VP)(E':VP),St i ρ s.heap->K (.ref I) s->aJ (ay pP w) A (pyIter (.ref I)) K E' s
section
variable(w:NQ)(d:Nat)
def td(H:List O)(v:V)(xs:List V)(G:List O->Prop)(T:Expr->Prop):Prop:=∀A F ρ s u,j0 A d F.fr->d9 w F ρ H s.heap (gt s)->VR ρ s.heap v u->aJ (ay pP w) A (pyIter u) (λf a=>∃I fp c e,f=.ref I/\Q8 w I fp xs G c e T/\c 0 ρ a.heap/\u0 s.heap a.heap/\(a.gens=s.gens/\s.toks<=a.toks)/\a.os=s.os/\∀b∈fp,s.heap.get? b=none) nE s
abbrev M3(H:List O)(v:V)(xs:List V)(G:List O->Prop):Prop:=td w d H v xs G λ_=>True
end
section
variable{w:NQ}{fi:FI}{d:Nat}{m:b9}{H:List O}
theorem Ea{a o c b env}(I:Nat->NR->Prop)(k:∀n s,I n s->aJ (ay pP w) A (dL o) (λr s₁=>match r with|none=>aJ (ay pP w) A (execs b env) (λf j=>R (.ok f) j) (fm (ay pP w) A env λe s'=>R (.error e) s') s₁|some v=>aJ (ay pP w) A (fK a o v) (λ_ s₀=>aJ (ay pP w) A (cO a env v) (λ_ p=>aJ (ay pP w) A (execs c env) (λf j=>match f with|.next|.cont=>∃m,m<n/\I m j|.brk=>R (.ok .next) j|.ret v=>R (.ok (.ret v)) j) (fm (ay pP w) A env λe s'=>R (.error e) s') p) (fm (ay pP w) A env λe s'=>R (.error e) s') s₀) (fm (ay pP w) A env λe s'=>R (.error e) s') s₁) (fm (ay pP w) A env λe s'=>R (.error e) s') s)(n:Nat)(h:I n s):fq (ay pP w) A (.forLoop a o c b env) R s:=by refine codeAny_loop' rfl I (λn s u=>?_) n h;show aJ _ _ ((forTurn a o c b env).onRaise λx=>do noteFrame x env;theTreesLotGoes x) _ _ s;refine wpAny_noted ?_;dsimp only[forTurn];refine ac (cM (ac (wpAny_onRaise (ar (k n s u) (λr s₁ g=>?_) λ_ _ i=>cM i))));cases r with|none=>exact aq (.inr ⟨rfl,codeAny_block g⟩)|some v=>refine ac (ar g (λ_ s₀ q=>?_) λ_ _ i=>i);refine ac (ar q (λ_ p t=>ac (ar t (λf j l=>?_) λ_ _ i=>i)) λ_ _ i=>i);cases f with|next=>exact aq (.inl ⟨rfl,l⟩)|cont=>exact aq (.inl ⟨rfl,l⟩)|brk=>exact aq l|ret v=>exact aq l
theorem A0.step(c:A0 fp s s'):e8 ρ s ρ s':=.same c.2.2.1 c.2.1 (by rw[c.1.1];exact ae _)
theorem oF{I:Nat}{St:Nat->List c8->NV->Prop}(hA:j0 A d (n6 env F))(a5:e8 ρ s ρ1 s2)(S2:d6 w fi env m F ρ1 H₁ s2.heap (gt s2))(E:Q8 w I fp xs G St Md T)(a2:St 0 ρ1 s2.heap)(S:y4 fi env F ρ1 fp)(ht:T target)(J:Nat->b9->List O->Prop)(a1:J 0 m H₁)(N:∀i m H,J i m H->G H)(hT:∀i x m H,xs[i]?=some x->J i m H->WA w fi d m H target x λm2 D=>WB w fi d m2 D body λf p h=>match f with|.next|.cont=>J (i+1) p h|.brk=>Q .next p h|.ret v=>Q (.ret v) p h)(hD:∀m H,J xs.length m H->Q .next m H):fq (ay pP w) A (.forLoop target (.ref I) body [] env) (λr s'=>match r with|.ok f=>x9 w fi env F ρ s Q f s'|.error e=>cameBackBy (ay pP w) A env nE e s') s2:=by
 refine Ea (R:=λr s'=>match r with|.ok f=>x9 w fi env F ρ s Q f s'|.error e=>cameBackBy (ay pP w) A env nE e s') (λk C=>∃i a p h,e8 ρ s a C/\d6 w fi env p F a h C.heap (gt C)/\St i a C.heap/\y4 fi env F a fp/\J i p h/\i<=xs.length/\k=xs.length+1-i) ?_ (xs.length+1) (Z9 0 ρ1 m H₁ a5 S2 a2 S a1 (bq _) rfl);intro k C;refine rk λi a p h X S3 q b hJ hi a4=>?_;subst a4;by_cases hlt:i<xs.length;·refine ar (E.item A _ a h C i xs[i] _ hA.hd S3.toH (N _ _ _ hJ) q (aw hlt)) (λr B=>nK λv e rv P M=>?_) λ_ _ x=>x;subst e;have S4:=S3.chg b M;refine ar (E.lot A (i+1) a B target v _ P ht) (λ_ n=>u6 λt c5=>?_) λ_ _ x=>x;have S5:=S4.chg b c5;have a6:=(X.trans M.step).trans c5.step;have hl:=E.live _ _ _ t;refine wpAny_passesOwn lI (ar (hT i _ p h (aw hlt) hJ A env (F8 F n.heap _) a n v hA (S5.rebase b) (rv.mono (aA _) c5.2.2.1)) (λ_ Z=>AQ.el λb0 H6 b1 j K h6=>?_) λ_ _ x=>x);have Y:=a6.trans j;refine wpAny_passesOwn lI (ar (h6 A env (F8 F n.heap _) b0 Z hA K) (λf a0 hx=>?_) λ_ _ x=>x);obtain⟨o,H7,c,fl,l,L,W,h7⟩:=hx;refine n8 (S5.unbase b hl (j.trans l).1 (j.trans l).2.2.2 L) λU z kU=>?_;have g:=Y.trans l;have y:St (i+1) o a0.heap:=E.frame _ _ _ _ _ t (j.trans l).1 (j.trans l).2.1 kU;cases fl with|next=>subst W;exact rE (xs.length+1-(i+1)) (by exact iI hlt) (i+1) o c H7 g U y z h7 hlt rfl |cont=>subst W;exact rE (xs.length+1-(i+1)) (by exact iI hlt) (i+1) o c H7 g U y z h7 hlt rfl |brk=>subst W;exact⟨o,H7,c,.next,g,U,rfl,h7⟩|ret v=>(refine a9 W λu V r=>?_;try clear W;subst V);exact⟨o,H7,c,.ret v,g,U,b7 u rfl r,h7⟩
 ·have a3:i=xs.length:=Nat.le_antisymm hi (bf hlt);subst a3;refine ar (E.done A _ a h C _ hA.hd S3.toH (N _ _ _ hJ) q) (λr B=>u6 λe M=>?_) λ_ _ x=>x;subst e;exact wpAny_execs_nil ⟨a,h,p,.next,X.trans M.step,S3.chg b M,rfl,hD _ _ hJ⟩
theorem Eb(h:WE w fi d m H iter λv a=>∃xs G T,td w d a v xs G T/\T target/\∃J:Nat->b9->List O->Prop,J 0 m a/\(∀i m H,J i m H->G H)/\(∀i x m H,xs[i]?=some x->J i m H->WA w fi d m H target x λm2 g=>WB w fi d m2 g body λf C n=>match f with|.next|.cont=>J (i+1) C n|.brk=>Q .next C n|.ret v=>Q (.ret v) C n)/\ ∀m H,J xs.length m H->Q .next m H)(Y:autoParam (∀env x,cJ iter env x=pure x) FunClaim.holds_of_returning._auto_3):WS w fi d m H (.For target iter body [] pos) Q:=λA env F M s p S=>by
  refine wpAny_For (ar (h A env F M s p S) (λu k l=>?_) λ_ _ x=>x) (Y env);obtain⟨c,a,v,E,o,r,b⟩:=l;refine xW b λxs G T U Z J t y V R=>?_;clear b;have q:=U A _ c k u p o.toH r;refine ar q (λit D l=>?_) λ_ _ x=>x.elim;refine iF l λI fp St Md e N z L B X W=>?_;try clear l
  subst e;have P:d6 w fi env m F c a D.heap (gt D):=(o.keeps L).gte B.1 B.2;have j:=o.fresh W;have K:e8 M s c D:=E.trans (.same (.of_keep L) X (by rw[B.1];exact ae _));exact oF p K P N z j Z J t y V R
theorem Ec(h:WE w fi d m H iter λv a=>∃xs G,M3 w d a v xs G/\∃J:Nat->b9->List O->Prop,J 0 m a/\(∀i m H,J i m H->G H)/\(∀i x m H,xs[i]?=some x->J i m H->WA w fi d m H target x λk b=>WB w fi d k b body λf e c=>match f with|.next|.cont=>J (i+1) e c|.brk=>Q .next e c|.ret v=>Q (.ret v) e c)/\ ∀m H,J xs.length m H->Q .next m H)(j:autoParam (∀env x,cJ iter env x=pure x) FunClaim.holds_of_returning._auto_3):WS w fi d m H (.For target iter body [] pos) Q:=Eb (h.mono λv H=>fu λxs G g r=>Q2 xs G _ g trivial r) j
end
section
set_option backward.match.sparseCases true
section
variable{w:NQ}{A:NT}{d:Nat}{H:List O}
theorem iT{I:Nat}{K:Unit->NR->Prop}{c:VP}(i:s.heap.get? I=some o)(f:o.cls=.type n)(g:["enumerate","zip","dict_itemiterator","dict_reverseitemiterator","odict_iterator","itertools.zip_longest","itertools.pairwise"].contains n=false)(h:K () s):aJ (ay pP w) A (fK t (.ref I) v) K c s:=by
 have b:aJ (ay pP w) A (do
  let(.ref r,.ref a):=(NS.ref I,v)|return
  let o<-load r
  match o.cls,o.data with|.type n,.fields e=>if["enumerate","zip","dict_itemiterator","dict_reverseitemiterator","odict_iterator","itertools.zip_longest","itertools.pairwise"].contains n&&e[0]?==some (rawInt a)then
    rule "for.unpacks-the-owned-tuple"
    updateField r 0 .none|_,_=>pure ():Sem Unit) K c s:=by cases v with
  |ref a=>refine ac (wpAny_load i ?_);rw[f];cases j:o.data with|fields e=>dsimp only;rw[g,Bool.false_and,if_neg (by decide)];exact aq h|_=>exact aq h
  |_=>exact aq h
 cases t with|Tuple=>exact b|List=>exact b|_=>exact aq h
theorem D2(f:s.toks<=tk)(x:∀b o,b≠I->s.heap.get? b=some o->h'.get? b=some o)(c:∀o,s.heap.get? I=some o->¬H9 o):A0 [I] s {s with heap:=h',toks:=tk}:= j8 ⟨rfl,f⟩ rfl (.of_ext x c) λb o a e=>x b o (λq=>a (q▸af.mpr rfl)) e
theorem not_imm{h:NV}{a:Nat}{o:Obj}{n:String}{i:Array NS}(g:h.get? a=some o)(c:o.cls=.type n)(e:o.data=.fields i)(f:n≠"range"):∀q,h.get? a=some q->¬H9 q:=λq b=>by
 injection g.symm.trans b with b;subst b;rintro(⟨⟨xs,k,z⟩,_⟩|⟨z,_⟩);·injection e.symm.trans z
 ·injection c.symm.trans z with z;subst z;exact f rfl
theorem Ee{a:Int}{n:Nat}{I:Nat}:Q8 w I [I] ((cH n).map λi=>V.int (a+(i:Nat))) (λ_=>True) (λi _ h=>IsRangeIter h I (a+(i:Nat)) ((n:Int)-(i:Nat)) 1) (λ_=>λi _ h=>IsRangeIter h I (a+(i:Nat)) ((n:Int)-(i:Nat)) 1) λ_=>True where
 frame:=λi j h E u c _ _ k=>k I (.head _) _ c
 live:=λi j h c b f=>by rw[af.mp f];exact⟨_,c⟩
 lot:=λA i j s t v l c _=>iT c rfl (by decide) ⟨c,.refl⟩
 item:=λA F j H s i x l y S _ c q=>by
  have D:i<n:=by have:=(ab.mp q).1;simpa using this
  have r:x=V.int (a+(i:Nat)):=by rw[aV,List.getElem?_range D]at q;exact(bV q).symm
  refine wpAny_pyNext_range_item c (by omega) λu g p=>N1 _ rfl ?_ ?_ (D2 (aN _) (λb o f e=>p.extBut b o f e) (not_imm c rfl rfl (by decide)));·rw[r];exact⟨_,rfl⟩
  ·have z:a+((i+1:Nat):Int)=a+(i:Nat)+1:=(Int.add_assoc a i 1).symm;have B:(n:Int)-((i+1:Nat):Int)=(n:Int)-(i:Nat)-1:=(Int.sub_sub n i 1).symm;rw[z,B];exact g
 pl:=λ_ _ _ _ _ x=>x
 done:=λA F j H s l y S _ c=>by rw[ak,cL]at c;exact wpAny_pyNext_range_end y c (by exact yQ) λu m=>⟨rfl,D2 (ae _) (λb o f e=>m b o f e) (not_imm c rfl rfl (by decide))⟩
 self:=λA i j s K l c C=>wpAny_pyIter_rangeiter c C
theorem Ef{l:Nat}{xs:List V}{I:Nat}:Q8 w I [I] xs (λH=>H[l]?=some (.list xs)\/H[l]?=some (.arr xs)) (λi ρ h=>∃e,ρ[l]?=some e/\h.IsListIter I e.a i) (λ_=>λi ρ h=>∃e,ρ[l]?=some e/\h.IsListIter I e.a i) λ_=>True where
 frame:=λi ρ h W E=>ye λe m o n r p _ k=>⟨e,x6 p m,o,k I (.head _) o n,r⟩
 live:=λi ρ h=>yg λe m o n q y b u=>by rw[af.mp u];exact⟨o,n⟩
 lot:=λA i ρ s t v D g _=>by refine a9 (id g) λe m C=>?_;refine m9 C λo n q y=>?_;clear C;exact iT n q (by decide) ⟨g,.refl⟩
 item:=λA F ρ H s i x D R S j g U=>by
  refine a9 g λe m g=>?_;have B:∃f:List NS,s.heap.IsList e.a f.toArray/\e5 ρ s.heap xs f:=by
   refine j.elim (λj=>?_) λj=>?_;· refine w6 (S.ob l e _ m j) λ_ _ f a b=>?_;exact b7 f a.isList b
   · refine m6 (S.ob l e _ m j) λ_ _ P _=>?_;obtain⟨f,a,b⟩:=P;exact b7 f a b
  refine a9 B λf J M=>?_;try clear B
  refine a9 (M.get U) λv N O=>?_;refine m9 (id g) λo n q y=>?_;refine wpAny_pyNext_list_item g J (x:=v) (by simpa using N) λE z L=>?_;have c:A0 [I] s {s with heap:=E,toks:=s.toks}:=D2 (ae _) (λb o u e=>L.extBut b o u e) (not_imm n q y (by decide));exact N1 v rfl (O.mono (aA _) c.2.2.1) (b7 e m z) c
 pl:=λ_ _ _ _ _ x=>x
 done:=λA F ρ H s D R S j g=>by
  refine a9 g λe m g=>?_;have B:∃f:List NS,s.heap.IsList e.a f.toArray/\e5 ρ s.heap xs f:=by
   refine j.elim (λj=>?_) λj=>?_;· refine w6 (S.ob l e _ m j) λ_ _ f a b=>?_;exact b7 f a.isList b
   · refine m6 (S.ob l e _ m j) λ_ _ Q _=>?_;obtain⟨f,a,b⟩:=Q;exact b7 f a b
  refine a9 B λf J M=>?_;try clear B
  refine m9 (id g) λo n q y=>?_;exact wpAny_pyNext_list_end R g J (by simp[M.len]) λE G=>⟨rfl,D2 (tk:=s.toks) (ae _) (λb o u e=>G b o u e) (not_imm n q y (by decide))⟩
 self:=λA i ρ s K D=>A8 λe m g T=>wpAny_pyIter_listiter g T
theorem te{E:String}{x:Str}{t:Tok}{I:Nat}(a:E="str_ascii_iterator"\/E="str_iterator"):Q8 w I [I] (x.cps.toList.map λc=>V.str ⟨#[c]⟩) (λ_=>True) (λi _ h=>h.IsStrIter I E x t i) (λ_=>λi _ h=>h.IsStrIter I E x t i) λ_=>True where
 frame:=λi C h Q D=>A8 λo l r p _ k=>b7 o (k I (.head _) o l) r
 live:=λi C h=>rh λo l q u b j=>by rw[af.mp j];exact⟨o,l⟩
 lot:=λA i C s t v G f _=>by refine m9 (id f) λo l q u=>?_;exact iT l q (by rcases a with rfl|rfl<;>decide) ⟨f,.refl⟩
 item:=λA F C H s i y G L S P f N=>by
  refine m9 (id f) λo l q u=>?_;have B:=not_imm l q u (by rcases a with rfl|rfl<;>decide);rw[aV]at N;refine a9 (bE.mp N) λc J O=>?_;have z:x.cps[i]?=some c:=by simpa using J
  rcases a with rfl|rfl;·exact wpAny_pyNext_ascii_item f z λD g n=>N1 _ rfl (by rw[<-O];exact⟨_,rfl⟩) g (D2 (aN _) (λb o j e=>n.extBut b o j e) B)
  ·exact wpAny_pyNext_wide_item f z λD g n=>N1 _ rfl (by rw[<-O];exact⟨_,rfl⟩) g (D2 (aN _) (λb o j e=>n.extBut b o j e) B)
 pl:=λ_ _ _ _ _ x=>x
 done:=λA F C H s G L S P f=>by
  refine m9 (id f) λo l q u=>?_;have B:=not_imm l q u (by rcases a with rfl|rfl<;>decide);rcases a with rfl|rfl;·exact wpAny_pyNext_ascii_end L f (by simp) λD m=>⟨rfl,D2 (tk:=s.toks) (ae _) (λb o j e=>m b o j e) B⟩
  ·exact wpAny_pyNext_wide_end L f (by simp) λD m=>⟨rfl,D2 (tk:=s.toks) (ae _) (λb o j e=>m b o j e) B⟩
 self:=λA i C s K G f M=>by
  rcases a with rfl|rfl;·exact wpAny_pyIter_striter_ascii f M
  ·exact wpAny_pyIter_striter_wide f M
theorem Eg{xs:List V}{I:Nat}:Q8 w I [I] xs (λ_=>True) (λi ρ h=>∃a g,h.IsTupleIter I a i/\h.IsTuple a (cB g)/\e5 ρ h xs g) (λ_=>λi ρ h=>∃a g,h.IsTupleIter I a i/\h.IsTuple a (cB g)/\e5 ρ h xs g) λ_=>True where
 frame:=λi ρ h U D x p P k=>t8 x λa g y z=>a9 y λo j r=>⟨a,g,⟨o,k I (.head _) o j,r⟩,iP P z.1,z.2.mono p P⟩
 live:=λi ρ h=>fu λa g M _=>m9 M λo j l n b m=>by rw[af.mp m];exact⟨o,j⟩
 lot:=λA i ρ s t v C f _=>by refine t8 (id f) λa g N _=>?_;obtain⟨o,j,l,n⟩:=N;exact iT j l (by decide) ⟨f,.refl⟩
 item:=λA F ρ H s i x C O S Q f T=>by refine i8 f λa g f u B=>?_;refine a9 (B.get T) λv J L=>?_;refine m9 (id f) λo j l n=>?_;refine wpAny_pyNext_tuple_item f u (x:=v) (by simpa using J) λD q G=>?_;have c:A0 [I] s {s with heap:=D,toks:=s.toks}:=D2 (ae _) (λb o m e=>G.extBut b o m e) (not_imm j l n (by decide));exact N1 v rfl (L.mono (aA _) c.2.2.1) (A9 a g q (iP c.2.2.1 u) (B.mono (aA _) c.2.2.1)) c
 pl:=λ_ _ _ _ _ x=>x
 done:=λA F ρ H s C O S Q f=>by refine i8 f λa g f u B=>?_;refine m9 (id f) λo j l n=>?_;exact wpAny_pyNext_tuple_end O f u (by simp[B.len]) λD E=>⟨rfl,D2 (tk:=s.toks) (ae _) (λb o m e=>E b o m e) (not_imm j l n (by decide))⟩
 self:=λA i ρ s K C=>fu λa g f _ R=>wpAny_pyIter_tupleiter f R
theorem tf(g:-2^61 <=a/\a<2^61)(f:-2^61 <=b/\b<2^61):bu.Range.small a b 1=true/\bu.Range.rangeSize a b 1=(((b-a).toNat:Nat):Int):=by
 have e:bu.Range.rangeSize a b 1=(((b-a).toNat:Nat):Int):=by
  rw[rangeSize_one];split;·exact(Int.toNat_of_nonneg (Int.sub_nonneg_of_le (Int.le_of_lt (by assumption)))).symm
  ·rw[Int.toNat_of_nonpos (Int.sub_nonpos_of_le (Int.not_lt.mp (by assumption)))];rfl
 refine⟨?_,e⟩;unfold bu.Range.small;rw[e];unfold bu.Range.rangeFitsLong;simp;have k:∀{c:Int},-2^61 <=c/\c<2^61->-9223372036854775808<=c/\c<9223372036854775808:=λh=>⟨Int.le_trans (by decide) h.1,Int.lt_of_lt_of_le h.2 (by decide)⟩;exact⟨⟨⟨k g,k f⟩,Int.le_trans (by decide) (Int.le_max_right _ _),Int.max_lt.mpr ⟨Int.lt_of_lt_of_le (Int.sub_lt_sub_of_lt_of_le f.2 g.1) (by decide),by decide⟩⟩,.inr (k f)⟩
theorem lJ(h:-2^61 <=a/\a<2^61)(f:-2^61 <=b/\b<2^61):M3 w d H (.rng a b) ((cH (b-a).toNat).map λi=>V.int (a+(i:Nat))) λ_=>True:=λA F p s u o S r=>by refine a9 r λr g c=>?_;refine J0 c λt u k l=>?_;clear c;subst g;refine d7 (tf h f) λm j=>?_;refine wpAny_pyIter_range l m (Z9 _ ([_]) _ _ rfl (Ee (a:=a) (n:=(b-a).toNat)) ?_ (λ_ _ e=>aD _ e) ⟨rfl,ae _⟩ rfl λb f=>by rw[af.mp f];exact z5 _);rw[j];show IsRangeIter _ _ (a+((0:Nat):Int)) (((b-a).toNat:Int)-((0:Nat):Int)) 1;rw[show a+((0:Nat):Int)=a from Int.add_zero a,show ((b-a).toNat:Int)-((0:Nat):Int)=((b-a).toNat:Int)from Int.sub_zero _];exact aT _ rfl
theorem aG{l:Nat}(h:H[l]?=some (.list xs)\/H[l]?=some (.arr xs)):M3 w d H (.ref l) xs λH=>H[l]?=some (.list xs)\/H[l]?=some (.arr xs):=λA F n s u o S r=>by
 refine a9 r λe g i=>?_;try clear r;subst i
 have k:∃c:List NS,s.heap.IsList e.a c.toArray/\e5 n s.heap xs c:=by
  refine h.elim (λf=>?_) λf=>?_;· refine w6 (S.ob l e _ g f) λ_ _ c a b=>?_;exact b7 c a.isList b
  · refine m6 (S.ob l e _ g f) λ_ _ j _=>?_;obtain⟨c,a,b⟩:=j;exact b7 c a b
 refine a9 k λc h p=>?_;try clear k
 exact wpAny_pyIter_list h (Z9 _ ([_]) _ _ rfl (Ef (l:=l)) ⟨e,g,_,aT _ rfl,rfl,rfl⟩ (λ_ _ e=>aD _ e) ⟨rfl,ae _⟩ rfl λb m=>by rw[af.mp m];exact z5 _)
theorem Eh:M3 w d H (.str x) (x.cps.toList.map λc=>V.str ⟨#[c]⟩) λ_=>True:=λA F i s u h S r=>by
 refine b8 r λt a=>?_;try clear r;subst a
 cases g:x.cps.all (· <128);·exact wpAny_pyIter_wide g (Z9 _ ([_]) _ _ rfl (te (x:=x) (t:=t) (.inr rfl)) (j5 _ (aT _ rfl) rfl rfl) (λ_ _ e=>aD _ e) ⟨rfl,ae _⟩ rfl λb f=>by rw[af.mp f];exact z5 _)
 ·exact wpAny_pyIter_ascii g (Z9 _ ([_]) _ _ rfl (te (x:=x) (t:=t) (.inl rfl)) (j5 _ (aT _ rfl) rfl rfl) (λ_ _ e=>aD _ e) ⟨rfl,ae _⟩ rfl λb f=>by rw[af.mp f];exact z5 _)
theorem Ei:M3 w d H (.tup xs) xs λ_=>True:=λA F l s u j S r=>by
 refine i8 r λa i c f h=>?_;try clear r;subst c
 have k:u0 s.heap (s.heap.push {cls:=.type "tuple_iterator",data:=.fields #[.ref a,.int 0 0]}):=λ_ _ e=>aD _ e;exact wpAny_pyIter_tuple f (Z9 _ ([_]) _ _ rfl Eg (A9 a i (j5 _ (aT _ rfl) rfl rfl) (f.push _) (h.mono (aA _) (.of_keep k))) k ⟨rfl,ae _⟩ rfl λb g=>by rw[af.mp g];exact z5 _)
end
end
noncomputable def jS(a b:Scope):Scope:={a with names:=a.names.map λ(n,k)=>if k==.free&&b.kind==.function&&b.names.lookup n==some .cell then(n,.cell)else(n,k)}
noncomputable def ci(a:Scope)(fi:FI):FI:=⟨jS a fi.sc,false,fi.co⟩
noncomputable def aL(a:Scope):b9:=(a.names.filter λx=>x.2==.local).map λx=>(x.1,none)
noncomputable def A3(cells:List (Str×Nat))(names:List (Str×NameKind)):List (Str×Nat):=((names.filter λx=>x.2==.free).map λx=>(x.1,(cells.lookup x.1).getD 0)).reverse
theorem Ej:∀(names:List (Str×NameKind))(b:List (Str×Nat)),(∀n,(n,NameKind.free)∈names->∃c,env.cells.lookup n=some c)->(forIn names b λx r=>match x with|(name,f)=>if(f==NameKind.free)=true then do let a<-cellOf env name;pure (ForInStep.yield ((name,a)::r))else(pure (ForInStep.yield r):Sem (ForInStep (List (Str×Addr)))))=pure (A3 env.cells names++b):=by
 intro names;induction names with|nil=>exactλb _=>rfl|cons p r j=>obtain⟨n,k⟩:=p;intro b h;rw[dh];cases q:k==NameKind.free with|true=>
   have l:k=.free:=by simpa using q
   subst l;refine b8 (h n (.head _)) λc i=>?_;have e:cellOf env n=pure c:=by unfold cellOf;rw[i]
   simp only[beq_self_eq_true,if_true,e];refine(j ((n,c)::b) λg d=>h g (.tail _ d)).trans (congrArg pure ?_);simp[A3,List.filter_cons,i]|false=>simp only[q,bJ,if_false];refine(j b λg d=>h g (.tail _ d)).trans (congrArg pure ?_);simp[A3,List.filter_cons,q]
theorem Ek(h:∀n,(n,NameKind.free)∈sc'.names->∃c,env.cells.lookup n=some c):closureFor sc' env=pure (A3 env.cells sc'.names):=by dsimp only[closureFor];have:=Ej (env:=env) sc'.names [] h;rw[bG]at this;rw[this];rfl
structure aR(sc':Scope)(fi:FI):Prop where
 nd:(sc'.names.map (·.1)).Nodup
 nc:∀x∈sc'.names,x.2≠.cell
 kd:sc'.kind=.function
 fr':∀p∈sc'.names,p.2=.free->fi.sc.names.lookup p.1=some .cell\/fi.sc.names.lookup p.1=some .free
theorem aR.fr(h:aR sc' fi)(n:Str)(a:(n,NameKind.free)∈sc'.names):fi.sc.names.lookup n=some .cell\/fi.sc.names.lookup n=some .free:=h.fr' _ a rfl
theorem O1{b:Type}:∀{l:List (Str×b)}{x:Str}{k:b},(l.map (·.1)).Nodup->(x,k)∈l->l.lookup x=some k:=by intro l;induction l with|nil=>exactλ_ h=>absurd h List.not_mem_nil|cons p l c=>
  obtain⟨y,j⟩:=p;intro x k a h;rw[bN,ck]at a;rw[bU];refine(az.mp h).elim (λq=>?_) λq=>?_;·cases q;rw[beq_self_eq_true]
  · have:(x==y)=false:=by cases e:x==y with|false=>rfl|true=>exact absurd (bp.mpr (b7 _ q (by simpa using e))) a.1
    exact this▸c a.2 q
theorem jT:(x,c)∈A3 cells names↔(x,NameKind.free)∈names/\c=(cells.lookup x).getD 0:=by
 unfold A3;rw[List.mem_reverse,bp];constructor
 · refine A8 λa g e=>?_;obtain⟨y,k⟩:=a;refine d7 (dM.mp g) λd f=>?_;cases e;have:k=.free:=by simpa using f
   subst this;exact⟨d,rfl⟩
 · refine u6 λh b=>?_;subst b;exact b7 (x,.free) (dM.mpr ⟨h,rfl⟩) rfl
theorem oG(h:(x,NameKind.free)∈names):(A3 cells names).lookup x=some ((cells.lookup x).getD 0):=by
 have f:(x,(cells.lookup x).getD 0)∈A3 cells names:=jT.mpr ⟨h,rfl⟩;have:∀l:List (Str×Nat),(∀y c,(y,c)∈l->c=(cells.lookup y).getD 0)->(x,(cells.lookup x).getD 0)∈l->l.lookup x=some ((cells.lookup x).getD 0):=by intro l;induction l with|nil=>intro _ h;cases h|cons p r g=>obtain⟨k,c⟩:=p;intro b d;rw[bU];cases e:x==k with
   |true=>
    have:x=k:=by simpa using e
    subst this;show some c=_;rw[b x c (.head _)]|false=>
    refine(az.mp d).elim (λq=>?_) λq=>?_;·exfalso;have:x=k:=(Prod.mk.inj q).1;rw[this,beq_self_eq_true]at e;cases e
    ·exact g (λy c a=>b y c (.tail _ a)) q
 exact this _ (λy c a=>(jT.mp a).2) f
theorem th{l:List Str}{m:b9}{x:Str}:r9 (l.map (λy=>(y,none))++m) x=if x∈l then none else r9 m x:=by induction l with|nil=>rfl|cons y l b=>unfold r9 at b⊢;rw[bN,List.cons_append,bU];cases e:x==y with
  |true=>
   have:x=y:=by simpa using e
   rw[if_pos (by exact this▸.head _)];rfl|false=>
   have a:x≠y:=by simpa using e
   show(List.lookup x _).join=_;rw[b];by_cases q:x∈l;·rw[if_pos q,if_pos (.tail _ q)]
   ·rw[if_neg q,if_neg λh=>by refine(az.mp h).elim (λh=>?_) λh=>?_;exact a h;exact q h]
theorem tj(a:Scope):aL a=((a.names.filter λx=>x.2==.local).map (·.1)).map λy=>(y,none):=by unfold aL;rw[cV];rfl
section
variable{w:NQ}{fi:FI}{d:Nat}{m:b9}{H:List O}
variable{env:Env}{F:i5}{ρ:List c8}{h:NV}{gs:GT}
theorem El(S:d6 w fi env m F ρ H h gs)(a:Scope):relabel a env=jS a fi.sc:=by unfold relabel jS cw;rw[S.es]
theorem lK(h:(jS sc' sc).names.lookup x=some k):∃a,(x,a)∈sc'.names/\(a=k\/ a=.free/\k=.cell):=by
 have g:(x,k)∈(jS sc' sc).names:=mem_of_lookup h;refine a9 (bp.mp g) λc e b=>?_;obtain⟨y,a⟩:=c;dsimp only at b;split at b;·rename_i f;cases b;refine b7 a e (.inr ⟨?_,rfl⟩);simp only[Bool.and_eq_true,beq_iff_eq]at f;exact f.1.1
 ·cases b;exact b7 _ e (.inl rfl)
theorem d6.fr_lo(S:d6 w fi env m F ρ H h gs)(h':NV):∃L∈(w4 F h' env (j9 fi env)).lo,env.frame=some L:=by
 rcases S.ef with q|⟨L,a,q⟩;·refine b7 _ ?_ q;show env.locals∈(n6 env F).filterMap (·.frame);unfold n6;exact if_pos q▸cS▸q▸.head _
 ·exact b7 L (ow.1 L a) q
theorem d6.comp_fr(S:d6 w fi env m F ρ H h gs){C:Nat}{b:Scope}{c:List (Str×Nat)}{h':NV}(e:F.f C=none)(g:C∉j9 fi env):n6 (eH b c C env) (w4 F h' env (j9 fi env))=n6 env F:=by
 have a:env.frame≠some C:=λq=>by
  rcases S.ef with z|⟨L,f,z⟩;·injection z.symm.trans q with q;subst q;exact g (N5 fi env)
  ·injection z.symm.trans q with q;subst q;exact S.hs.fo.off e f
 show(if env.frame=some C then _ else n6 env F)=_;exact if_neg a
theorem Em(i:aR sc' fi)(S:d6 w fi env m F ρ H h gs){C:Nat}{W:Str->Option NS}(hn:h.Ns C W)(V:F.f C=none)(hp:C∉l7 ρ)(r:C∉j9 fi env):d6 w (ci sc' fi) (eH sc' (A3 env.cells sc'.names) C env) (aL sc'++m) (w4 F h env (j9 fi env)) ρ H h gs:=by
 have f:∀x,(x,NameKind.free)∈sc'.names->∃c,env.cells.lookup x=some c:=λx l=>S.ce x (i.fr x l);have cells:∀x c,(A3 env.cells sc'.names).lookup x=some c->env.cells.lookup x=some c/\(x,NameKind.free)∈sc'.names:=λx c p=>by refine d7 (jT.mp (mem_of_lookup p)) λg j=>?_;refine b8 (f x g) λc' t=>?_;rw[t]at j;exact⟨by rw[t,j];rfl,g⟩
 have n:∀x,(x,NameKind.free)∈sc'.names->r9 (aL sc'++m) x=r9 m x:=λx l=>by rw[tj,th,if_neg];intro q;refine a9 (bp.mp q) λO hm P=>?_;obtain⟨y,k⟩:=O;subst P;refine d7 (dM.mp hm) λg j=>?_;have G:=O1 i.nd l;have s:=O1 i.nd g;injection G.symm.trans s with s;subst s;simp at j
 refine⟨S.toH,?_,S.eg,S.eb,S.ec,i.kd,.inr (S.fr_lo h),λb hb=>?_,b7 W hn λx l=>?_,λx c p=>?_,λx l=>?_,λx l=>?_,λx c p=>?_,?_,λ_ x c p=>?_⟩;·exact El S sc'
 · have:b=C:=by simpa[j9,ci,eH]using hb
   subst this;rw[N7 r];exact⟨V,hp⟩
 · have:r9 (aL sc'++m) x=none:=by
    rw[tj,th,if_pos];refine a9 (lK l) λL g Q=>?_;obtain rfl|⟨_,j⟩:=Q;·exact bp.mpr (b7 _ (dM.mpr ⟨g,rfl⟩) rfl)
    ·cases j
   rw[this];trivial
 · refine d7 (cells x c p) λg j=>?_;refine a9 (S.cl x c g) λN hi hv=>?_;exact n x j▸b7 N hi hv
 · have hf:(x,NameKind.free)∈sc'.names:=by
    refine l.elim (λl=>?_) λl=>?_
    · refine a9 (lK l) λL g R=>?_;obtain rfl|⟨rfl,_⟩:=R;·exact absurd rfl (i.nc _ g)
      ·exact g
    · refine a9 (lK l) λL g T=>?_;obtain rfl|⟨_,j⟩:=T;·exact g
      ·cases j
   exact⟨_,oG hf⟩
 ·cases q:(A3 env.cells sc'.names).lookup x with|none=>exact q|some c=>
    exfalso;refine d7 (cells x c q) λ_ j=>?_;refine a9 (lK l) λL g U=>?_;obtain rfl|⟨_,I⟩:=U;·have G:=O1 i.nd g;have s:=O1 i.nd j;cases G.symm.trans s
    ·cases I
 · refine d7 (jT.mp p) λg j=>?_;have J:=oG (cells:=env.cells) g;rw[<-j]at J;refine⟨J,λq=>?_⟩;refine d7 (cells x c J) λI _=>?_;have q:c=C:=q;subst q;refine(S.cell_own (M2 I)).elim (λz=>?_) λz=>?_;·exact r z
   ·rw[V]at z;cases z
 · show(A3 env.cells sc'.names).Pairwise _;unfold A3;rw[List.pairwise_reverse,dg];have M:(sc'.names.filter λx=>x.2==.free).Pairwise λa b=>a.1≠b.1:=by have:sc'.names.Pairwise λa b=>a.1≠b.1:=dg.mp i.nd;exact this.filter _
   refine M.imp_of_mem ?_;intro A;obtain⟨x,kx⟩:=A;intro B;obtain⟨y,ky⟩:=B;intro l hy K e;have gx:(x,NameKind.free)∈sc'.names:=by
    refine d7 (dM.mp l) λa b=>?_;have q:kx=.free:=by simpa using b
    exact q.symm▸a
   have gy:(y,NameKind.free)∈sc'.names:=by
    refine d7 (dM.mp hy) λa b=>?_;have q:ky=.free:=by simpa using b
    exact q.symm▸a
   refine b8 (f x gx) λX u=>?_;refine b8 (f y gy) λY v=>?_;have Z:Y=X:=by simpa[u,v]using e
   subst Z;exact K (sY S.cd (M2 u) (M2 v))
 · refine d7 (cells x c (by refine d7 (jT.mp p) λg j=>?_;exact j▸oG g)) λg _=>?_;refine(S.cell_own (M2 g)).elim (λz=>?_) λz=>?_;·rw[gT z];refine a9 (S.cl x c g) λN D _=>?_;obtain⟨o,r,_⟩:=D;rw[r];rfl
   · by_cases q:c∈j9 fi env;·rw[gT q];refine a9 (S.cl x c g) λN E _=>?_;obtain⟨o,r,_⟩:=E;rw[r];rfl
     ·rw[N7 q];exact z
end
theorem En(I:Nat->NR->Prop)(i:∀n s,I n s->aJ (ay pP w) A (dL it) (λr s₁=>match r with|none=>R (.ok .next) s₁|some v=>aJ (ay pP w) A (fK target it v) (λ_ s₀=>aJ (ay pP w) A (cO target env v) (λ_ l=>aJ (ay pP w) A (forIn ifs true λc r=>if r=true then do let g<-isTrue c env (eval c env);pure (ForInStep.yield g)else pure (ForInStep.yield r)) (λg j=>if g=true then aJ (ay pP w) A (eval elt env) (λx d=>aJ (ay pP w) A (call (.builtin "list.append") [acc,x]) (λ_ f=>∃m,m<n/\I m f) (fm (ay pP w) A env λe s'=>R (.error e) s') d) (fm (ay pP w) A env λe s'=>R (.error e) s') j else∃m,m<n/\I m j) (fm (ay pP w) A env λe s'=>R (.error e) s') l) (fm (ay pP w) A env λe s'=>R (.error e) s') s₀) (fm (ay pP w) A env λe s'=>R (.error e) s') s₁) (fm (ay pP w) A env λe s'=>R (.error e) s') s)(n:Nat)(h:I n s):fq (ay pP w) A (.compLoop (.ListComp elt [⟨target,iter,ifs,0⟩] scope pos) 0 it acc env) R s:=by refine codeAny_loop rfl I (λn s u=>?_) n h;show aJ _ A ((compTurn (.ListComp elt [⟨target,iter,ifs,0⟩] scope pos) 0 it acc env).onRaise λx=>do noteFrame x env;theTreesLotGoes x) _ _ s;refine wpAny_noted ?_;rw[compTurn_list];refine ac (cM (ac (ar (i n s u) (λr s₁ b=>?_) λ_ _ a=>a)));cases r with|none=>exact aq b|some v=>refine ac (ar b (λ_ s₀ o=>?_) λ_ _ a=>a);refine ac (ar o (λ_ l p=>ac (ar p (λg j k=>?_) λ_ _ a=>a)) λ_ _ a=>a);cases g with|false=>exact aq ⟨rfl,k⟩|true=>exact ac (ac (ar k (λx d q=>ac (ar q (λ_ f t=>aq (aq ⟨rfl,t⟩)) λ_ _ a=>a)) λ_ _ a=>a))
section
variable(w:NQ)(fi:FI)(d:Nat)
def lL(m:b9)(H:List O):List Expr->(Bool->List O->Prop)->Prop|[],Q=>Q true H|[c],Q=>WT w fi d m H c Q|_,_=>False
def oH(m:b9)(H:List O)(f c:Expr)(g:List Expr)(a:Scope)(v:V)(Q:List V->List O->Prop):Prop:=∃xs G,M3 w d H v xs G/\xs.length<=aF/\∃J:Nat->List V->List O->Prop,J 0 [] H/\(∀i ys H,J i ys H->G H/\ys.length<=i)/\(∀i x ys H,xs[i]?=some x->J i ys H->WA w (ci a fi) d (aL a++m) H c x λj e=>lL w (ci a fi) d j e g λb h=>if b=true then WE w (ci a fi) d j h f λy k=>J (i+1) (ys++[y]) k else J (i+1) ys h)/\ ∀ys H,J xs.length ys H->Q ys H
end
theorem oJ{h:NV}{l:Nat}{items:Array NS}(f:Array NS->Array NS)(x:h.PlainList l items):(h.update l (bY f)).PlainList l (f items):=by
 refine b8 x λn e=>?_;try clear x
 exact⟨_,cb _ e rfl⟩
theorem tm{E:VP}{l:Nat}{Q:VP}(a:s.heap.PlainList l its)(b:∀h',h'.PlainList l (its.push x)->dJ l s.heap h'->Q .none {s with heap:=h'})(hsz:its.size<=aF):aJ (ay pP w) A (call (.builtin "list.append") [.ref l,x]) Q E s:=by refine b8 (id a) λn c=>?_;refine bK slot_list_append a.isList.typeIs entry_list_append ?_ (args_list_append _ _);show aJ _ _ (updateSeq l (·.push x)>>=λ_=>ret .none) _ _ s;refine ac ?_;exact fL c rfl (aq (b7 .none rfl (b _ (oJ _ a) (cT ..)))) (hz:=hsz)
section
variable{w:NQ}{fi:FI}{d:Nat}{m:b9}{H:List O}
theorem to{I:Nat}{G:List O->Prop}{St:Nat->List c8->NV->Prop}{Md:NS->Nat->List c8->NV->Prop}(hA:j0 A d (n6 env F))(d3:aR sc' fi)(S:d6 w fi env m F ρ H s.heap (gt s))(Z:Q8 w I fp xs G St Md λ_=>True)(d4:St 0 ρ s.heap)(i0:y4 fi env F ρ fp)(hsz:xs.length<=aF)(J:Nat->List V->List O->Prop)(h2:J 0 [] H)(d1:∀i ys H,J i ys H->G H/\ys.length<=i)(hT:∀i x ys H,xs[i]?=some x->J i ys H->WA w (ci sc' fi) d (aL sc'++m) H target x λm2 f1=>lL w (ci sc' fi) d m2 f1 ifs λb R=>if b=true then WE w (ci sc' fi) d m2 R elt λy H4=>J (i+1) (ys++[y]) H4 else J (i+1) ys R){RR:NS->Nat->cz->NR->Prop}(h3:∀D C ρ' H' ys us mC s',e8 ρ s ρ' s'->d6 w fi env m F ρ' H' s'.heap (gt s')->s'.heap.PlainList D (cB us)->e5 ρ' s'.heap ys us->s'.heap.Ns C mC->y4 fi env F ρ' [C,D]->C≠D->J xs.length ys H'->RR (.ref D) C (.ok .next) s'):aJ (ay pP w) A (newList []) (λf4 E=>aJ (ay pP w) A (newFunctionEnv sc' env.globals (A3 env.cells sc'.names) [] env.qual none .none (some env)) (λb0 N=>fq (ay pP w) A (.compStart (.ListComp elt [⟨target,iter,ifs,0⟩] sc' pos) 0 (.ref I) f4 {b0 with scope:=relabel sc' env}) (RR f4 b0.locals) N) E' E) E' s:=by
 refine bP (wpAny_newFunctionEnv d3.nc (by intro y hy;exact absurd hy List.not_mem_nil) (λQ W P=>?_) d3.kd);skip;generalize c7:s.heap.push {cls:=.type "list",dict:=none,data:=.seq ([]:List NS).toArray}=H2 at W P⊢;have hC:H2.objs.size=s.heap.objs.size+1:=by rw[<-c7,gS]
 generalize j2:H2.objs.size=C at W P hC⊢;generalize f7:s.heap.objs.size=D at hC⊢;have a0:C≠D:=by exact yR hC
 have M:∀a,D<=a->s.heap.get? a=none:=λa ha=>by cases e:s.heap.get? a with|none=>rfl|some o=>exact absurd (fR e) (bl.mpr (f7▸ha))
 have a2:u0 s.heap Q:=λb o e=>P.extBut b o (λq=>by rw[M b (by exact q▸nR hC)]at e;injection e) (aD _ (c7▸aD _ e));have hD:Q.PlainList D (cB ([]:List NS)):=⟨_,P.extBut _ _ (bg a0) (aD _ (c7▸f7▸aT _ rfl))⟩;have S1:=S.keeps a2;have e1:y4 fi env F ρ (C::D::fp):=λb h=>by
  rcases az.mp h with rfl|h;·exact S.fresh (fp:=[b]) (λb' d2=>by exact af.mp d2▸M _ (by exact nR hC)) b (.head _)
  rcases az.mp h with rfl|h;·exact S.fresh (fp:=[b]) (λb' d2=>by exact af.mp d2▸M _ (ae _)) b (.head _)
  ·exact i0 b h
 have c2:C∉fp:=λq=>by refine b8 (Z.live _ _ _ d4 C q) λo ho=>?_;rw[M C (by exact nR hC)]at ho;injection ho
 have c6:D∉fp:=λq=>by refine b8 (Z.live _ _ _ d4 D q) λo ho=>?_;rw[M D (ae _)]at ho;injection ho
 have g2:St 0 ρ Q:=Z.frame _ _ _ _ _ d4 (aA _) (.of_keep a2) λb _ o e=>a2 b o e;have b2:∀E:NR,E={s with heap:=Q,toks:=s.toks+([]:List (Str×NS)).length}->fq (ay pP w) A (.compLoop (.ListComp elt [⟨target,iter,ifs,0⟩] sc' pos) 0 (.ref I) (.ref D) (eH sc' (A3 env.cells sc'.names) C env)) (RR (.ref D) C) E:=by
  rintro E rfl;refine En (λk E=>∃i j R ys us mC,e8 ρ s j E/\d6 w fi env m F j R E.heap (gt E)/\E.heap.PlainList D (cB us)/\e5 j E.heap ys us/\E.heap.Ns C mC/\St i j E.heap/\y4 fi env F j (C::D::fp)/\J i ys R/\i<=xs.length/\k=xs.length+1-i) ?_ (xs.length+1) (yC 0 ρ H ([]) ([]) _ (.same (.of_keep a2) rfl) S1 hD .nil W g2 e1 h2 (bq _) rfl);intro k E;refine yk λi j R ys us mC b4 S3 f6 g1 f9 g3 l hJ hi i1=>?_;subst i1;have X:y4 fi env F j fp:=λb h=>l b (.tail _ (.tail _ h));by_cases hlt:i<xs.length
  · refine ar (Z.item A _ j R E i xs[i] _ hA.hd S3.toH (d1 _ _ _ hJ).1 g3 (aw hlt)) (λr N=>nK λv e rv f8 c4=>?_) λ_ _ x=>x;subst e;have S4:=S3.chg X c4;refine ar (Z.lot A (i+1) j N target v _ f8 trivial) (λ_ f=>u6 λb1 c5=>?_) λ_ _ x=>x;have S5:=S4.chg X c5;have kp:∀b o,b∉fp->E.heap.get? b=some o->f.heap.get? b=some o:=λb o h e=>c5.2.2.2 b o h (c4.2.2.2 b o h e);have j1:TK E.heap f.heap:=c4.2.2.1.trans c5.2.2.1;have b5:=(b4.trans c4.step).trans c5.step;have c3:f.heap.PlainList D (cB us):=f6.at λo e=>kp D o c6 e;have h5:f.heap.Ns C mC:=f9.at' λo e=>kp C o c2 e;have i4:=g1.mono (aA _) j1;have oC:=l C (.head _);have oD:=l D (.tail _ (.head _));have a4:=Em d3 S5 h5 oC.1 oC.2.1 oC.2.2;have b3:y4 (ci sc' fi) (eH sc' (A3 env.cells sc'.names) C env) (w4 F f.heap env (j9 fi env)) j (D::fp):=λb h=>by
     have q:=l b (.tail _ h);refine i9 (by exact(N7 q.2.2).trans q.1) q.2.1 λz=>?_;have z':b=C:=by simpa[j9,ci,eH]using z
     subst z';rcases az.mp h with z|z;·exact a0 z
     ·exact c2 z
    have d5:∀b∈D::fp,∃o,f.heap.get? b=some o:=λb h=>by
     rcases(az.mp h).imp_left aM with rfl|h;·(refine b8 c3 λn e=>?_;try clear c3);exact⟨_,e⟩
     ·exact Z.live _ _ _ b1 b h
    have f5:∀p B K(g:NR),e8 j f B g->d6 w (ci sc' fi) (eH sc' (A3 env.cells sc'.names) C env) p (F8 (w4 F f.heap env (j9 fi env)) f.heap (D::fp)) B K g.heap (gt g)->d6 w fi env m F B K g.heap (gt g)/\(∃mC,g.heap.Ns C mC)/\y4 fi env F B (C::D::fp)/\g.heap.PlainList D (cB us)/\St (i+1) B g.heap/\e5 B g.heap ys us:=λp B K g t T=>by
     refine n8 (a4.unbase b3 d5 t.1 t.2.2.2 T) λU u kU=>?_;refine V7 (S5.ofH t.1 t.2.1 U.hs) (a9 U.ns λmv a _=>⟨mv,a⟩) (λb h=>i9 ((l b h).1) ?_ ((l b h).2.2)) (c3.at λo e=>kU D (.head _) o e) (Z.frame _ _ _ _ _ b1 t.1 t.2.1 λb h=>kU b (.tail _ h)) (i4.mono t.1 t.2.1);rcases(az.mp h).imp_left aM with rfl|h;·exact(U.lo _ (N5 _ _)).2
     ·exact(u b h).2.1
    have c0:j0 A d (n6 (eH sc' (A3 env.cells sc'.names) C env) (w4 F f.heap env (j9 fi env))):=by exact S5.comp_fr oC.1 oC.2.2▸hA
    refine ar (hT i _ ys R (aw hlt) hJ A _ (F8 (w4 F f.heap env (j9 fi env)) f.heap (D::fp)) j f v c0 (a4.rebase b3) (rv.mono (aA _) c5.2.2.1)) (λ_ Y=>AQ.el λf0 H6 p g6 a5 h6=>?_) λ_ _ x=>x.elim;have e4:aJ (ay pP w) A (forIn ifs true λc r=>if r=true then do let ok<-isTrue c (eH sc' (A3 env.cells sc'.names) C env) (eval c (eH sc' (A3 env.cells sc'.names) C env));pure (ForInStep.yield ok)else pure (ForInStep.yield r)) (SQ w N8 (ci sc' fi) (eH sc' (A3 env.cells sc'.names) C env) p (F8 (w4 F f.heap env (j9 fi env)) f.heap (D::fp)) f0 Y λb R=>if b=true then WE w (ci sc' fi) d p R elt λy H4=>J (i+1) (ys++[y]) H4 else J (i+1) ys R) (fm (ay pP w) A (eH sc' (A3 env.cells sc'.names) C env) λe s'=>RR (.ref D) C (.error e) s') Y:=by cases ifs with|nil=>exact wpAny_tests_nil ⟨f0,H6,true,.refl,a5,rfl,h6⟩|cons c r=>cases r with|cons _ _=>exact h6.elim|nil=>exact wpAny_tests_one (ar (h6 A _ (F8 (w4 F f.heap env (j9 fi env)) f.heap (D::fp)) f0 Y c0 a5) (λ_ _ x=>x) λ_ _ x=>x.elim)
    refine ar e4 (λok g4 hx=>?_) λ_ _ x=>x;obtain⟨h0,H7,b,t7,a6,rb,h7⟩:=hx;subst rb;have e3:=g6.trans t7;cases ok with|false=> refine T9 (f5 _ _ _ _ e3 a6) λU i2 u a1 e2 a3=>?_;obtain⟨e0,c1⟩:=i2;exact rF (xs.length+1-(i+1)) (by exact iI hlt) (i+1) h0 H7 ys us e0 (b5.trans e3) U a1 a3 c1 e2 u h7 hlt rfl |true=>refine ar ((show WE w (ci sc' fi) d p H7 elt _ from h7) A _ (F8 (w4 F f.heap env (j9 fi env)) f.heap (D::fp)) h0 g4 c0 a6) (λy g hx=>?_) λ_ _ x=>x.elim;obtain⟨B,K,yv,g7,f3,ry,h8⟩:=hx;have g5:=e3.trans g7;refine T9 (f5 _ _ _ _ g5 f3) λU i3 u a1 e2 a3=>?_;obtain⟨e0,c1⟩:=i3;refine tm a1 (λh9 h1 g0=>?_) (by exact aZ▸a3.len▸ad (d1 _ _ _ hJ).2 (ad hi hsz));have L:A0 [D] g {g with heap:=h9}:=D2 (ae _) (λb o h e=>g0.extBut b o h e) (oy a1.isList);refine rF (xs.length+1-(i+1)) (by exact iI hlt) (i+1) B K (ys++[yv]) (us++[y]) e0 ((b5.trans g5).trans L.step) (U.chg (λb h=>by exact af.mp h▸u D (.tail _ (.head _))) L) (by simpa using h1) ((a3.append (.cons ry .nil)).mono (aA _) L.2.2.1) (c1.sameBut g0 a0) ?_ u h8 hlt rfl;exact Z.frame _ _ _ _ _ e2 (aA _) L.2.2.1 λb h o e=>L.2.2.2 b o (λz=>c6 (af.mp z▸h)) e
  ·have h4:i=xs.length:=Nat.le_antisymm hi (bf hlt);subst h4;refine ar (Z.done A _ j R E _ hA.hd S3.toH (d1 _ _ _ hJ).1 g3) (λr N=>u6 λe c4=>?_) λ_ _ x=>x;subst e;exact h3 D C j R ys us mC N (b4.trans c4.step) (S3.chg X c4) (f6.at λo e=>c4.2.2.2 D o c6 e) (g1.mono (aA _) c4.2.2.1) (f9.at' λo e=>c4.2.2.2 C o c2 e) (λb h=>l b (by rcases(az.mp h).imp_left aM with rfl|h;exact .head _;exact af.mp h▸.tail _ (.head _))) a0 hJ
 exact codeAny_compStart_list (b2 _ rfl) (Z.self A 0 ρ _ _ _ g2 (b2 _ rfl))
theorem tq(S:d6 w fi env m F ρ H h gs)(a:h.PlainList D (cB us))(r:e5 ρ h ys us)(o:y4 fi env F ρ [D]):d6 w fi env m F (ρ++[⟨D,[D],none⟩]) (H++[.list ys]) h gs/\VR (ρ++[⟨D,[D],none⟩]) h (.ref H.length) (.ref D):=by refine n8 (o D (.head _)) λf o2 o3=>?_;refine⟨S.ofH (aH _ _) (.refl _) (S.toH.adopt (r:=[]) (o:=.list ys) (ck.mpr ⟨λq=>absurd q List.not_mem_nil,gR⟩) (λb c=>by exact af.mp c▸i9 o2 (by rw[N7 o3];exact f) (b8 a λn e=>⟨_,e⟩)) (fY rfl rfl us a (r.mono (aH _ _) (.refl _)))),?_⟩;exact b7 _ (by rw[<-S.hs.len,ao]) rfl
theorem tr(S:d6 w fi env m F ρ H h gs)(a:aR sc' fi):closureFor sc' env=pure (A3 env.cells sc'.names):=Ek λn b=>S.ce n (a.fr n b)
theorem tu(a:aR sc' fi):∀x∈sc'.names,x.2=.local->sc'.names.lookup x.1=some .local:=λx c b=>by obtain⟨n,k⟩:=x;subst b;exact O1 a.nd c
theorem Eo(f:aR sc' fi)(h:WE w fi d m H iter λv a=>oH w fi d m a elt target ifs sc' v λys g=>Q (.ref g.length) (g++[.list ys]))(hs:autoParam (∀env x,cJ iter env x=pure x) FunClaim.holds_of_returning._auto_3):WE w fi d m H (.ListComp elt [⟨target,iter,ifs,0⟩] sc' pos) Q:=λA env F ρ s E S=>by
  rw[eval_ListComp];refine wpAny_comprehension_free (use:=none) rfl (hs env) (tr S f) f.kd (tu f) (ar (h A env F ρ s E S) (λu n p=>?_) λ_ _ x=>x);obtain⟨i,a,v,V,z,r,l⟩:=p;refine nG l λxs G hI T J M N hT hD=>?_;clear l;refine ar (hI A _ i n u E z.toH r) (λit U p=>?_) λ_ _ x=>x.elim;refine iF p λI fp St Md e IT O X P ho hf=>?_;try clear p
  subst e;have S2:d6 w fi env m F i a U.heap (gt U):=(z.keeps X).gte P.1 P.2;have W:e8 ρ s i U:=V.trans (.same (.of_keep X) ho (by exact P.1▸ae _));refine to (RR:=λB C=>compPost (ay pP w) A _ none _ B C) E f S2 IT O (z.fresh hf) T J M N hT ?_;intro D C a0 H' ys us mC Z t S' K ru Y k L hJ;refine b7 mC Y λh' R=>?_;have c:A0 [C] Z {Z with heap:=h'}:=D2 (ae _) (λb o j e=>R.extBut b o j e) (W4 Y);have y:=S'.chg (λb j=>by exact af.mp j▸k C (.head _)) c;refine d7 (tq y (K.at λo e=>c.2.2.2 D o (λq=>L (af.mp q).symm) e) (ru.mono (aA _) c.2.2.1) λb j=>by exact af.mp j▸k D (.tail _ (.head _))) λS3 rv=>?_;exact⟨_,_,_,((W.trans t).trans c.step).trans (.add (.refl _) rfl),S3,rv,hD _ _ hJ⟩
theorem lM(g:aR sc' fi)(hy:N9 fi y)(h:WE w fi d m H iter λv a=>oH w fi d m a elt target ifs sc' v λys j=>Q .next (u9 m y (.ref j.length)) (j++[.list ys]))(Z:∀env,env.scope=fi.sc->swapsWith (.ListComp elt [⟨target,iter,ifs,0⟩] sc' pos) (some (.Name y py)) spos.line env=pure true)(hs:autoParam (∀env x,cJ iter env x=pure x) FunClaim.holds_of_returning._auto_3):WS w fi d m H (.Assign [.Name y py] (.ListComp elt [⟨target,iter,ifs,0⟩] sc' pos) spos) Q:=λA env F ρ s O S=>by
  rw[exec_Assign_Name_used _ _ _ _ (Z env S.es)];refine ac (cM (ac ?_));refine ac (ar (wpAny_comprehension_free (use:=some (cO (.Name y py) env)) (Q:=λ_ s'=>x9 w fi env F ρ s Q .next s') rfl (hs env) (tr S g) g.kd (tu g) (ar (h A env F ρ s O S) (λu E K=>?_) λ_ _ x=>x)) (λ_ s' hq=>aq (aq hq)) λ_ _ x=>x);obtain⟨k,a,v,a1,M,r,B⟩:=K;refine nG B λxs G hI a0 J U V hT hD=>?_;clear B;refine ar (hI A _ k E u O M.toH r) (λit s2 K=>?_) λ_ _ x=>x.elim;refine iF K λI fp St Md e IT W hk X ho hf=>?_;try clear K
  subst e;have S2:d6 w fi env m F k a s2.heap (gt s2):=(M.keeps hk).gte X.1 X.2;have a2:e8 ρ s k s2:=a1.trans (.same (.of_keep hk) ho (by exact X.1▸ae _));refine to (RR:=λN C=>compPost (ay pP w) A _ (some (cO (.Name y py) env)) _ N C) O g S2 IT W (M.fresh hf) a0 J U V hT ?_;intro D C i H' ys us mC s' t S' R ru hn p T hJ;have z:y4 fi env F i [D]:=λb l=>by exact af.mp l▸p D (.tail _ (.head _))
  refine d7 (tq S' R ru z) λS3 rv=>?_;refine wpAny_assign_Name (ar (tc S3 rv hy) (λ_ f=>H8 λt4 S4 k4=>?_) λ_ _ x=>x);have L:=p C (.head _);have P:C∉l7 (i++[⟨D,[D],none⟩]):=λq=>by
   have e:l7 (i++[⟨D,[D],none⟩])=l7 i++[D]:=by simp[l7]
   rw[e]at q;rcases aX.mp q with q|q;·exact L.2.1 q
   ·exact T (af.mp q)
  have n:f.heap.Ns C mC:=hn.at' λo e=>k4 C o L.2.2 e;refine b7 mC n λh' Y=>?_;have c:A0 [C] f {f with heap:=h'}:=D2 (ae _) (λb o l e=>Y.extBut b o l e) (W4 n);have S5:=S4.chg (λb l=>by exact af.mp l▸i9 L.1 P L.2.2) c;exact⟨_,_,_,.next,(((a2.trans t).trans (.add (.refl _) rfl)).trans t4).trans c.step,S5,rfl,hD _ _ hJ⟩
end
theorem j0.deeper(h:j0 A (d+1) F.fr)(a:env.frame=some env.locals):j0 (A.deeper env) d (n6 env F):=⟨by unfold n6;rw[if_pos a];show A.frames.map (env::·)=_;rw[h.fr];rfl,h.hd,by have:=h.dp;exact yS this,by have:=h.un;exact yT this⟩
theorem j0.depth(h:j0 A d l):A.depth<fW:=by have:=h.dp;exact yU this
noncomputable def o9(o:Obj):FuncData:=match o.data with|.func f=>f|_=>default
structure FnB(KF:Frag)(a:Nat)(o:Obj)(fd:FuncData)(body:List NW)(sc:Scope)(ps:List Str):Prop where
 hsc:fd.scope=sc
 hK:KF.lookup a=some o
 hd:o.data=.func fd
 hb:fd.body=.stmts body
 hg:fd.globals=bw
 hbl:fd.builtins=gr
 hcl:fd.closure=[]
 hcd:∃c oc vs t,fd.code=.ref c/\KF.lookup c=some oc/\oc.data=.fields vs/\vs[1]?=some (.str fd.qualname t)
 hps:ps.Nodup
 hnd:(sc.names.map (·.1)).Nodup
 hkd:∀p∈ps,sc.names.lookup p=some .local\/sc.names.lookup p=some .cell
 hco:sc.isCoroutine=false
 hk:sc.kind=.function
 hnf:∀p∈sc.names,p.2≠.free
structure z6(KF:Frag)(a:Nat)(o:Obj)(fd:FuncData)(body:List NW)(sc:Scope)(ps:List Str):Prop extends FnB KF a o fd body sc ps where hbd:∀us:List NS,us.length=ps.length->bindArgs fd ⟨us,[]⟩=pure (ps.zip us)
noncomputable abbrev nv(x:String)(v:V):Str×Option V:=(aa x,some v)
noncomputable abbrev nn(x:String):Str×Option V:=(aa x,none)
noncomputable def u7(a:Scope)(ps:List Str)(xs:List V):b9:=(a.names.filter λx=>x.2==.local||x.2==.cell).map λx=>(x.1,(ps.zip xs).lookup x.1)
theorem tv(h:r9 (u7 sc ps xs) x=some v):(x,v)∈ps.zip xs:=by
 unfold r9 u7 at h;have:∀l:List (Str×NameKind),((l.map λy=>(y.1,(ps.zip xs).lookup y.1)).lookup x).join=some v->(ps.zip xs).lookup x=some v:=by intro l;induction l with|nil=>intro h;injection h|cons p l a=>intro h;rw[bN,bU]at h;cases e:x==p.1 with
   |true=>
    rw[e]at h;have:x=p.1:=by simpa using e
    exact this▸h|false=>rw[e]at h;exact a h
 exact mem_of_lookup (this _ h)
theorem tw{ρ:List c8}{h:NV}:∀{ps:List Str}{xs:List V}{us:List NS}{x:Str}{v:V},e5 ρ h xs us->(x,v)∈ps.zip xs->∃u,(x,u)∈ps.zip us/\VR ρ h v u:=by intro ps;induction ps with|nil=>exactλ_ c=>absurd c List.not_mem_nil|cons p ps i=>intro xs us x v r c;cases xs with|nil=>exact absurd c List.not_mem_nil|cons y xs=>
  refine i8 r.cons_eq λu q d a b=>?_;subst d;rw[List.zip_cons_cons]at c;rcases az.mp c with e|c;·cases e;exact b7 u (.head _) a
  · refine a9 (i b c) λj f g=>?_;exact b7 j (.tail _ f) g
theorem iU{b:Type}{ps:List Str}:∀{us:List b},us.length=ps.length->(ps.zip us).map (·.1)=ps:=by induction ps with|nil=>exactλ_=>rfl|cons p ps a=>intro us h;cases us with|nil=>cases h|cons u us=>exact congrArg (p::·) (a (eG h))
theorem Ep{b:Str->Option NameKind}:∀{a:List (Str×NS)}{m:Str->Option NS}{x:Str}{u:NS},(a.map (·.1)).Nodup->b x=some .local->((x,u)∈a->bindL b a m x=some u)/\(x∉a.map (·.1)->bindL b a m x=m x):=by intro a;induction a with|nil=>exactλ_ _=>⟨λh=>absurd h List.not_mem_nil,λ_=>rfl⟩|cons p r f=>
  obtain⟨n,v⟩:=p;intro m x u c d;rw[bN,ck]at c;have i:=f (m:=if b n=some .local thenλy=>if y=n then some v else m y else m) (x:=x) (u:=u) c.2 d;refine⟨λh=>(az.mp h).elim (λe=>?_) i.1,λh=>?_⟩;·have e:=Prod.mk.inj e;exact(i.2 (e.1▸c.1)).trans (e.1▸e.2▸by rw[if_pos d];exact if_pos rfl)
  · rw[bN,az,not_or]at h;refine(i.2 h.2).trans ?_;by_cases q:b n=some .local;·rw[if_pos q];exact if_neg h.1
    ·rw[if_neg q]
theorem Er{b:Str->Option NameKind}:∀{a:List (Str×NS)}{m:Str->Option NS}{x:Str}{u:NS},(a.map (·.1)).Nodup->b x≠some .local->((x,u)∈a->bindC b a m x=some u)/\(x∉a.map (·.1)->bindC b a m x=m x):=by intro a;induction a with|nil=>exactλ_ _=>⟨λh=>absurd h List.not_mem_nil,λ_=>rfl⟩|cons p r f=>
  obtain⟨n,v⟩:=p;intro m x u c d;rw[bN,ck]at c;have i:=f (m:=if b n=some .local then m elseλy=>if y=n then some v else m y) (x:=x) (u:=u) c.2 d;refine⟨λh=>(az.mp h).elim (λe=>?_) i.1,λh=>?_⟩;·have e:=Prod.mk.inj e;exact(i.2 (e.1▸c.1)).trans (e.1▸e.2▸by rw[if_neg d];exact if_pos rfl)
  · rw[bN,az,not_or]at h;refine(i.2 h.2).trans ?_;by_cases q:b n=some .local;·rw[if_pos q]
    ·rw[if_neg q];exact if_neg h.1
theorem Es:∀{names:List (Str×NameKind)}{n:Nat}{a:List (Str×Nat)}{x:Str}{c:Nat},(x,c)∈fA n names a->(x,c)∈a\/(x,NameKind.cell)∈names:=by intro names;induction names with|nil=>exactλh=>.inl h|cons p r d=>
  obtain⟨y,k⟩:=p;intro n a x c h;unfold fA at h;split at h
  · rename_i b;have b:k=.cell:=by simpa using b
    subst b;rcases d h with h|h
    · rcases az.mp h with e|h;·injection e with e;subst e;exact .inr (.head _)
      ·exact .inl h
    ·exact .inr (.tail _ h)
  · rcases d h with h|h;·exact .inl h
    ·exact .inr (.tail _ h)
theorem tz:∀{names:List (Str×NameKind)}{n:Nat}{a:List (Str×Nat)},(fA n names a).map (·.1)=((names.filter λx=>x.2==.cell).map (·.1)).reverse++a.map (·.1):=by intro names;induction names with|nil=>exact rfl|cons p r c=>
  obtain⟨y,k⟩:=p;intro n a;unfold fA;split
  · rename_i b;have b:k=.cell:=by simpa using b
    subst b;rw[c];simp
  · rename_i b;rw[c];have:(k==NameKind.cell)=false:=by simpa using b
    simp[List.filter_cons,this]
theorem iV{n:Nat}(c:(names.map (·.1)).Nodup):((fA n names []).map (·.1)).Nodup:=by rw[tz,List.map_nil,bG];refine(List.reverse_perm _).nodup_iff.mpr ?_;have:(names.filter λx=>x.2==.cell).Pairwise λa b=>a.1≠b.1:=(dg.mp c).filter _;exact dg.mpr this
theorem iW{n:Nat}(h:(x,NameKind.cell)∈names):∃c,(x,c)∈fA n names []:=by
 have:x∈(fA n names []).map (·.1):=by rw[tz,List.map_nil,bG,List.mem_reverse];exact bp.mpr (b7 _ (dM.mpr ⟨h,rfl⟩) rfl)
 refine a9 (bp.mp this) λa d b=>?_;obtain⟨y,c⟩:=a;subst b;exact⟨c,d⟩
section
variable{w:NQ}{d:Nat}{H:List O}{a:Nat}{o:Obj}{fd:FuncData}{body:List NW}{sc:Scope}{ps:List Str}{xs:List V}
theorem jU{F:i5}{ρ:List c8}{s s₁:NR}{us:List NS}(K:FnB (KW w) a o fd body sc ps)(z:xs.length=ps.length)(S:d9 w F ρ H s.heap (gt s))(r:e5 ρ s.heap xs us)(X:InCallC s (cX fd s.heap.objs.size a).locals (bindL (cX fd s.heap.objs.size a).kindOf (ps.zip us) λ_=>none) (cX fd s.heap.objs.size a).cells (bindC (cX fd s.heap.objs.size a).kindOf (ps.zip us) λ_=>none) s₁)(Q:s.toks<=s₁.toks):e8 ρ s ρ s₁/\d6 w ⟨sc,true,fd.code⟩ (cX fd s.heap.objs.size a) (u7 sc ps xs) F ρ H s₁.heap (gt s₁):=by
 have C:=K.hsc;subst C;refine t8 X.done λl U G M=>?_;subst G;have D:us.length=ps.length:=r.len.trans z;have g:((ps.zip us).map (·.1)).Nodup:=by rw[iU D];exact K.hps
 have i:∀x,(cX fd s.heap.objs.size a).kindOf x=fd.scope.names.lookup x:=λ_=>rfl;have k:∀b,s.heap.objs.size<=b->s.heap.get? b=none:=λb m=>by cases e:s.heap.get? b with|none=>rfl|some o=>exact absurd (fR e) (bl.mpr m)
 have R:(cX fd s.heap.objs.size a).locals=s.heap.objs.size:=rfl;have t:(cX fd s.heap.objs.size a).cells=fA (s.heap.objs.size+1) fd.scope.names []:=rfl;have L:∀x c,(x,c)∈(cX fd s.heap.objs.size a).cells->(cX fd s.heap.objs.size a).cells.lookup x=some c:=λx c f=>O1 (iV K.hnd) f;have N:∀x c,(x,c)∈(cX fd s.heap.objs.size a).cells->fd.scope.names.lookup x=some .cell:=λx c f=>by
  rcases Es (show(x,c)∈fA (s.heap.objs.size+1) fd.scope.names []from f)with h|h;·exact by cases h
  ·exact O1 K.hnd h
 have B:d9 w F ρ H l (gt s):=S.keeps M;have p:TK s.heap l:=.of_keep M;refine⟨.same p rfl,B.tk Q,rfl,K.hg,K.hbl,rfl,K.hk,.inl rfl,λb m=>?_,?_,λx c f=>?_,λx j=>?_,λx j=>?_,λx c f=>⟨L x c f,cG (X.above x c f)⟩,X.apart,λq=>by cases q⟩
 · have y:s.heap.objs.size<=b:=by
    unfold j9 at m;rw[if_pos rfl]at m;rcases az.mp m with e|m;·exact e▸ae _
    · refine a9 (bp.mp m) λI A J=>?_;obtain⟨x,c⟩:=I;subst J;exact Nat.le_of_lt (X.above x c A)
   refine⟨?_,λq=>?_⟩;·cases q:F.f b with|none=>rfl|some o=>refine a9 (S.keep _ _ q) λT O _=>?_;exact by injection (k b y).symm.trans O
   · refine b8 (S.live b q) λo P=>?_;exact by injection (k b y).symm.trans P
 ·refine b7 _ X.toInCall.ns λx j=>?_;cases q:r9 (u7 fd.scope ps xs) x with|none=>trivial|some v=> refine a9 (tw r (tv q)) λu A E=>?_;exact (Ep g ((i x).trans j)).1 A▸E.mono (aA _) p
 ·refine b7 _ (X.cell x c f) ?_;cases q:r9 (u7 fd.scope ps xs) x with|none=>trivial|some v=> refine a9 (tw r (tv q)) λu A E=>?_;rw[(Er g (by rw[i,N x c (mem_of_lookup f)];decide)).1 A];exact E.mono (aA _) p
 · rcases j with j|j;· refine b8 (iW (n:=s.heap.objs.size+1) (mem_of_lookup j)) λc f=>?_;exact⟨c,L x c f⟩
   ·exact absurd rfl (K.hnf _ (mem_of_lookup j))
 ·cases q:(cX fd s.heap.objs.size a).cells.lookup x with|none=>rfl|some c=>have:=N x c (mem_of_lookup q);exact by injection this.symm.trans j with q;injection q
theorem jV(K:FnB (KW w) a o fd body sc ps)(B:Bs w h):h.get? a=some o/\h.CodeRec fd.code fd.qualname:=by refine kZ K.hcd λc i j t b e f g=>?_;exact⟨B.k _ _ K.hK,c,i,j,t,b,B.k _ _ e,f,g⟩
theorem jW{Q:QV}(K:FnB (KW w) a o fd body sc ps)(g:sc.isGenerator=false)(e:(xs++ds).length=ps.length)(t:∀ρ h,e5 ρ h ds dv)(P:∀(s:NR)(us:List NS),Bs w s.heap->us.length=xs.length->BindsTo s fd ⟨us,[]⟩ (ps.zip (us++dv)))(h:WB w ⟨sc,true,fd.code⟩ d (u7 sc ps (xs++ds)) H body λf Y H'=>match f with|.ret v=>Q v H'|.next=>Q .none H'|_=>False):j7 w (d+1) H (.st a) xs Q:=λA F ρ s u us L S W r=>by
  have y:=K.hsc;subst y;subst W;have B:=S.b;refine d7 (jV K B) λU p=>?_;have M:e5 ρ s.heap (xs++ds) (us++dv):=r.append (t _ _);have z:(us++dv).length=ps.length:=M.len.trans e;refine da (codeAny_call_function L.depth U K.hd K.hco g K.hb p (P s us B r.len _ _ _ _ ?_));rw[K.hcl];refine bZ (ae _) (du K.hk (λx C=>?_) λN T k X V=>?_)
  · have D:x.1∈ps:=by exact(iU z).symm▸bp.mpr (b7 x C rfl)
    rcases K.hkd x.1 D with q|q;·exact .inl q
    · refine b8 (iW (n:=s.heap.objs.size+1) (mem_of_lookup q)) λc R=>?_;exact .inr ⟨q,by rw[O1 (iV K.hnd) R];rfl⟩
  ·subst T;refine d7 (jU K e S M X V) λi I=>?_;refine⟨I.b.lim,codeAny_func (ar (h _ _ F ρ k (L.deeper rfl) I) (λf s2 C=>?_) λ_ _ x=>x.elim)⟩;obtain⟨l,b,Z,O,j,J,G,m⟩:=C;cases O with|next=>subst G;exact⟨l,b,.none,i.trans j,J.hs,rfl,m⟩|ret v=>(refine a9 G λu E r=>?_;try clear G;subst E);exact⟨l,b,v,i.trans j,J.hs,r,m⟩|brk=>exact m.elim|cont=>exact m.elim
theorem O2(K:z6 (KW w) a o fd body sc ps)(c:sc.isGenerator=false)(b:xs.length=ps.length)(h:WB w ⟨sc,true,fd.code⟩ d (u7 sc ps xs) H body λf i H'=>match f with|.ret v=>Q v H'|.next=>Q .none H'|_=>False):j7 w (d+1) H (.st a) xs Q:=jW (ds:=[]) (dv:=[]) K.toFnB c (by rw[bG];exact b) (λ_ _=>.nil) (λ_ g _ e=>by rw[bG];exact BindsTo.of_eq (K.hbd g (e.trans b))) (by rw[bG];exact h)
end
section
variable{w:NQ}{fi:FI}{d:Nat}{m:b9}{H:List O}
theorem iX(h:B2 w fi d m H a Q)(b:j0 A d (n6 env F))(S:d6 w fi env m F ρ H s.heap (gt s)):aJ (ay pP w) A (evalArgs f true (dW pos (a.map λe=>(false,eval e env))) []) (λx s'=>x.kw=[]/\SQ w e5 fi env m F ρ s Q x.pos s') nE s:=by cases a with|nil=>exact PyProof.Rows.evalArgs_none ⟨rfl,ρ,H,[],.refl,S,.nil,h⟩|cons e a=>exact fG (ar (oz h A env F ρ s b S) (λc s' q=>⟨rfl,q⟩) λ_ _ x=>x)
theorem d8(h:Q [] H):B2 w fi d m H [] Q:=h
theorem Et(h:WE w fi d m H e λv a=>B2 w fi d m a es λc b=>Q (v::c) b):B2 w fi d m H (e::es) Q:=h
def y5(b:Frag):V->Prop|.bi _=>True|.ty _=>True|.st a=>keepIn b (.ref a)=true|_=>False
theorem W6{a:List Expr}{b:Pos}{env:Env}:(dW b (a.map λe=>(false,eval e env))).any (·.1)=false:=by unfold dW;rw[cV];induction a with|nil=>rfl|cons e a c=>rw[bN,List.any_cons,c];rfl
theorem oK(C:y5 (KW w) f)(h:B2 w fi d m H es λn c=>j7 w d c f (first++n) Q)(p:j0 A d (n6 env F))(S:d6 w fi env m F ρ H s.heap (gt s))(r:VR ρ s.heap f u)(B:e5 ρ s.heap first us):aJ (ay pP w) A (dD pos u us (dW pos (es.map λe=>(false,eval e env))) []) (SQ w VR fi env m F ρ s Q) nE s:=by
 have g:∀(x:Args)(s₁:NR),x.kw=[]/\SQ w e5 fi env m F ρ s (λn c=>j7 w d c f (first++n) Q) x.pos s₁ ->aJ (ay pP w) A (call u (us++x.pos) x.kw) (SQ w VR fi env m F ρ s Q) nE s₁:=by intro x s₁;intro l;refine d7 l λv z=>?_;clear l;obtain⟨o,i,n,b,t,E,j⟩:=z;exact v▸q9 (lift t λD q T=>j A D o s₁ u _ (q▸p) T (r.mono b.1 b.2.1) ((B.mono b.1 b.2.1).append E)) λ_ _ x=>x.step b
 cases f with|bi id=>subst r;exact Calls.callWith_builtin W6 (ar (iX h p S) g λ_ _ x=>x)|ty id=>subst r;exact fJ W6 (ar (iX h p S) g λ_ _ x=>x)|st a=>
  subst r;refine callWith_of (by rw[W6];rfl) (keeps_K (K:=KW w) C) (ar (iX h p S) (λx s₁ y=>⟨?_,g x s₁ y⟩) λ_ _ x=>x);refine d7 y λ_ k=>?_;try clear y;obtain⟨o,i,n,b,t,_⟩:=k
  exact t.b.k|_=>exact C.elim
theorem Eu(h:WE w fi d m H func λf a=>y5 (KW w) f/\B2 w fi d m a args λr c=>j7 w d c f r Q)(o:autoParam (J7 args) NY._auto_1)(l:autoParam (∀env,eval (.Call func args [] pos) env=do dD pos (<-eval func env) [] (dW pos (eF args env)) (backToKw pos (eW [] env))) NY._auto_1):WE w fi d m H (.Call func args [] pos) Q:=λA env F t s i S=>by refine Call_ (ar (h A env F t s i S) (λu j p=>?_) λ_ _ x=>x) (l env);obtain⟨v,a,f,g,k,q,b⟩:=p;refine d7 b λn e=>?_;clear b;exact o env▸q9 (oK (first:=[]) n e i k q .nil) λ_ _ x=>x.step g
def I4(w:NQ)(H:List O)(x:V)(name:Str)(f:V):Prop:=∀A F ρ(s:NR)u(pl:Sem Bool)(K:NS×List NS->NR->Prop)(b:VP),d9 w F ρ H s.heap (gt s)->VR ρ s.heap x u->(∀a,VR ρ s.heap f a->K (a,[u]) s)->aJ (ay pP w) A (getMethod u name pl) K b s
theorem Ew{pl:Env->Sem Bool}{Q:QV}(h:WE w fi d m H o λx a=>∃f,I4 w a x name f/\y5 (KW w) f/\B2 w fi d m a args λz c=>j7 w d c f (x::z) Q)(t:autoParam (J7 args) NY._auto_1)(p:autoParam (∀env,eval (.Call (.Attribute o name apos) args [] pos) env=do
  let ov<-eval o env
  dl apos.atName let(f,first)<-cZ [ov] (getMethod ov name (pl env))
  dD pos f first (dW pos (eF args env)) []) NY._auto_1):WE w fi d m H (.Call (.Attribute o name apos) args [] pos) Q:=λA env F B s l S=>by refine MethodCall_ (pl:=pl env) (ar (h A env F B s l S) (λu g v=>?_) λ_ _ x=>x) (p env);obtain⟨j,a,x,i,k,n,b⟩:=v;refine m9 b λf r q e=>?_;clear b;refine r A _ j g u _ _ _ k.toH n λC y=>?_;exact t env▸q9 (oK (first:=[x]) q e l k y (.cons n .nil)) λ_ _ x=>x.step i
end
section
variable{w:NQ}{d:Nat}{H:List O}{Q:QV}
theorem L3{c a:Type}{R:List c8->NV->a->c->Prop}{F:i5}{ρ:List c8}{s:NR}{Q:a->List O->Prop}{v:c}{b:a}{tk:Nat}(S:d9 w F ρ H s.heap (gt s))(r:R ρ s.heap b v)(h:Q b H)(e:s.toks<=tk):HQ w R F ρ s Q v {s with toks:=tk}:=⟨ρ,H,b,.same (.refl _) rfl,S.tk e,r,h⟩
theorem B4{c a:Type}{R:List c8->NV->a->c->Prop}{F:i5}{ρ:List c8}{s:NR}{Q:a->List O->Prop}{v:c}{b:a}(S:d9 w F ρ H s.heap (gt s))(r:R ρ s.heap b v)(h:Q b H):HQ w R F ρ s Q v s:=⟨ρ,H,b,.refl,S,r,h⟩
theorem oL{c a:Type}{R:List c8->NV->a->c->Prop}{F:i5}{ρ:List c8}{s:NR}{Q:a->List O->Prop}{v:c}{b:a}{h':NV}{tk:Nat}(S:d9 w F ρ H s.heap (gt s))(k:u0 s.heap h')(r:R ρ h' b v)(h:Q b H)(e:s.toks<=tk):HQ w R F ρ s Q v {s with heap:=h',toks:=tk}:=⟨ρ,H,b,.same (.of_keep k) rfl,(S.keeps k).tk e,r,h⟩
theorem Q9{ρ:List c8}{h:NV}{i:Int}{t:Tok}:VR ρ h (.int i) (.int i t):=Exists.intro t rfl
theorem oM{ρ:List c8}{h:NV}{x:Str}{t:Tok}:VR ρ h (.str x) (.str x t):=Exists.intro t rfl
theorem C0{ρ:List c8}{h:NV}{b:Bool}:VR ρ h (.bool b) (.bool b):=rfl
theorem tA{ρ:List c8}{h:NV}:VR ρ h .none .none:=rfl
theorem jX{ρ:List c8}{h:NV}{a:String}:VR ρ h (.bi a) (.builtin a):=rfl
theorem VR.int_eq{ρ:List c8}{h:NV}{i:Int}{v:NS}(r:VR ρ h (.int i) v):∃t,v=.int i t:=by exact r
theorem VR.str_eq{ρ:List c8}{h:NV}{x:Str}{v:NS}(r:VR ρ h (.str x) v):∃t,v=.str x t:=by exact r
theorem VR.bool_eq{ρ:List c8}{h:NV}{b:Bool}{v:NS}(r:VR ρ h (.bool b) v):v=.bool b:=by exact r
theorem VR.none_eq{ρ:List c8}{h:NV}{v:NS}(r:VR ρ h .none v):v=.none:=by exact r
theorem VR.ref_eq{ρ:List c8}{h:NV}{i:Nat}{v:NS}(r:VR ρ h (.ref i) v):∃e,ρ[i]?=some e/\v=.ref e.a:=by exact r
theorem VR.ty_eq{ρ:List c8}{h:NV}{n:String}{v:NS}(r:VR ρ h (.ty n) v):v=.type n:=by exact r
theorem VR.bi_eq{ρ:List c8}{h:NV}{n:String}{v:NS}(r:VR ρ h (.bi n) v):v=.builtin n:=by exact r
theorem VR.tup_eq{ρ:List c8}{h:NV}{xs:List V}{v:NS}(r:VR ρ h (.tup xs) v):∃a b,v=.ref a/\h.IsTuple a b.toArray/\e5 ρ h xs b:=by exact r
theorem w7{x y:Int}(h:Q (.int (x+y)) H):W2 w d VR H (eE .Add) (.int x) (.int y) Q:=λA F i s u v f S c e=>by refine b8 c.int_eq λt a=>?_;subst a; refine b8 e.int_eq λg b=>?_;subst b;exact PySem.P.add_int (L3 S Q9 h (aN _))
theorem oN{x y:Int}(h:Q (.int (x+y)) H):W2 w d VR H (inplaceOp .Add) (.int x) (.int y) Q:=λA F i s u v f S c e=>by refine b8 c.int_eq λt a=>?_;subst a; refine b8 e.int_eq λg b=>?_;subst b;exact PySem.P.iadd_int (L3 S Q9 h (aN _))
theorem O3{x y:Int}(h:Q (.int (x-y)) H):W2 w d VR H (eE .Sub) (.int x) (.int y) Q:=λA F i s u v f S c e=>by refine b8 c.int_eq λt a=>?_;subst a; refine b8 e.int_eq λg b=>?_;subst b;exact PySem.P.sub_int (L3 S Q9 h (aN _))
theorem gW{x y:Int}(hy:y≠0)(h:Q (.int (x.fmod y)) H):W2 w d VR H (eE .Mod) (.int x) (.int y) Q:=λA F i s u v f S c e=>by refine b8 c.int_eq λt b=>?_;subst b; refine b8 e.int_eq λg a=>?_;subst a;exact mod_int' hy (L3 S Q9 h (aN _))
theorem oO{x y:Int}(hy:y≠0)(c:bu.divisionGoesByPylong x y=false)(h:Q (.int (x.fdiv y)) H):W2 w d VR H (eE .FloorDiv) (.int x) (.int y) Q:=λA F j s u v g S e f=>by refine b8 e.int_eq λt a=>?_;subst a; refine b8 f.int_eq λi b=>?_;subst b;exact floordiv_int hy (L3 S Q9 h (aN _)) (.inl c)
theorem jY{x y:Int}(h:Q (.bool (x==y)) H):W2 w d VR H (cD .Eq) (.int x) (.int y) Q:=λA F i s u v f S c e=>by refine b8 c.int_eq λt a=>?_;subst a; refine b8 e.int_eq λg b=>?_;subst b;exact PySem.P.eq_int (B4 S C0 h)
theorem Ex{x y:Int}(h:Q (.bool (x !=y)) H):W2 w d VR H (cD .NotEq) (.int x) (.int y) Q:=λA F i s u v f S c e=>by refine b8 c.int_eq λt a=>?_;subst a; refine b8 e.int_eq λg b=>?_;subst b;exact PySem.P.ne_int (B4 S C0 h)
theorem D4{x y:Int}(h:Q (.bool (decide (x<y))) H):W2 w d VR H (cD .Lt) (.int x) (.int y) Q:=λA F i s u v f S c e=>by refine b8 c.int_eq λt a=>?_;subst a; refine b8 e.int_eq λg b=>?_;subst b;exact PySem.P.lt_int (B4 S C0 h)
theorem W7{x y:Int}(h:Q (.bool (decide (x>y))) H):W2 w d VR H (cD .Gt) (.int x) (.int y) Q:=λA F i s u v f S c e=>by refine b8 c.int_eq λt a=>?_;subst a; refine b8 e.int_eq λg b=>?_;subst b;exact PySem.P.gt_int (B4 S C0 h)
theorem oP{x y:Int}(h:Q (.bool (decide (x>=y))) H):W2 w d VR H (cD .GtE) (.int x) (.int y) Q:=λA F i s u v f S c e=>by refine b8 c.int_eq λt a=>?_;subst a; refine b8 e.int_eq λg b=>?_;subst b;exact PySem.P.ge_int (B4 S C0 h)
theorem g9{b:Bool}{Q:QB}(h:Q b H):W1 w d N8 H truthy (.bool b) Q:=λA F e s u c S a=>by rw[a.bool_eq];exact dX (B4 S rfl h)
theorem jZ{x:Int}{Q:QB}(h:Q (x !=0) H):W1 w d N8 H truthy (.int x) Q:=λA F e s u c S b=>by refine b8 b.int_eq λt a=>?_;subst a;exact PySem.P.truthy_int (B4 S rfl h)
theorem Ey{Q:QB}(h:Q false H):W1 w d N8 H truthy .none Q:=λA F c s u b S a=>by rw[a.none_eq];exact truthy_none (B4 S rfl h)
theorem Ez{x:Str}{Q:QB}(b:x.length<=aF)(h:Q (x.length !=0) H):W1 w d N8 H truthy (.str x) Q:=λA F g s u f S c=>by
 refine b8 c.str_eq λt a=>?_;subst a;refine PySem.P.truthy_str (Int.not_le.mpr (lu b)) (L3 S rfl ?_ (bW (aN _)));have e:((x.length:Int)!=0)=(x.length !=0):=by rw[Bool.eq_iff_iff];simp
 rw[e];exact h
theorem EA{x y:Str}(hz:x.length+y.length<=aF)(h:Q (.str (x++y)) H):W2 w d VR H (eE .Add) (.str x) (.str y) Q:=λA F k s u v i S e f=>by refine b8 e.str_eq λt a=>?_;subst a; refine b8 f.str_eq λg b=>?_;subst b;exact bZ (ae _) (PyProof.Rows.add_str (λg j c=>L3 S oM h c) hz)
theorem L4{x y:Str}(h:Q (.bool (x==y)) H):W2 w d VR H (cD .Eq) (.str x) (.str y) Q:=λA F i s u v f S c e=>by refine b8 c.str_eq λt a=>?_;subst a; refine b8 e.str_eq λg b=>?_;subst b;exact PyProof.Rows.eq_str (B4 S C0 h)
theorem aJ4{x y:Str}(h:Q (.bool (x !=y)) H):W2 w d VR H (cD .NotEq) (.str x) (.str y) Q:=λA F i s u v f S c e=>by refine b8 c.str_eq λt a=>?_;subst a; refine b8 e.str_eq λg b=>?_;subst b;exact PyProof.Rows.ne_str (B4 S C0 h)
theorem oQ{x:Str}(c:x.length<=aF)(h:Q (.int x.length) H):j7 w d H (.bi "len") [.str x] Q:=λA F k s u j i S f r=>by rw[f.bi_eq];refine i8 r.cons_eq λv q a g e=>?_;subst a;rw[e.nil_eq];refine b8 g.str_eq λt b=>?_;subst b;exact PyProof.Rows.len_str (Int.not_le.mpr (lu c)) (L3 S Q9 h (bW (aN _)))
theorem EB{x y:Int}(h:Q (.int (min x y)) H):j7 w d H (.bi "min") [.int x,.int y] Q:=λA F G s u D j S n r=>by
 rw[n.bi_eq];refine i8 r.cons_eq λv q a o m=>?_;subst a;refine i8 m.cons_eq λE z b i g=>?_;subst b;rw[g.nil_eq];refine b8 o.int_eq λt c=>?_;subst c;refine b8 i.int_eq λB f=>?_;subst f;refine bZ (ae _) (min_two_ints j.hd λp C k l=>oL S k ?_ h l);by_cases e:y<x;·rw[if_pos e,show min x y=y by exact yV e];exact Q9
 ·rw[if_neg e,show min x y=x by exact yW e];exact Q9
theorem tB{n:Int}(h:Q (.rng 0 n) H):j7 w d H (.ty "range") [.int n] Q:=λA F k s u j i S f r=>by rw[f.ty_eq];refine i8 r.cons_eq λv q a g c=>?_;subst a;rw[c.nil_eq];refine b8 g.int_eq λt b=>?_;subst b;refine call_range_1 (oL S (λ_ _ e=>aD _ e) ?_ h (bW (aN _)));exact⟨_,rfl,_,_,_,aT _ rfl⟩
theorem iY{a b:Int}(h:Q (.rng a b) H):j7 w d H (.ty "range") [.int a,.int b] Q:=λA F B s u y o S m r=>by rw[m.ty_eq];refine i8 r.cons_eq λv q c n l=>?_;subst c;refine i8 l.cons_eq λz p f k j=>?_;subst f;rw[j.nil_eq];refine b8 n.int_eq λt g=>?_;subst g;refine b8 k.int_eq λx i=>?_;subst i;refine call_range_2 (oL S (λ_ _ e=>aD _ e) ?_ h (aN _));exact⟨_,rfl,_,_,_,aT _ rfl⟩
noncomputable def L5(o i:NS):Sem NS:=do let b<-getitemInPython o match b with|true=>runValue (.builtin "lifetime.subscript" ⟨[o,i],[]⟩)|false=>operate [o,i] (getItem o i)
theorem lN{A:NT}{s:NR}{o i:NS}{T id:String}{K:VP}{a:VP}(b:s.TypeIs o T)(c:bA (.type T) "__getitem__"=pure (some (.builtin id)))(h:aJ (ay pP w) A (getItem o i) K a s):aJ (ay pP w) A (L5 o i) K a s:=by refine ac ?_;rw[getitemInPython_of_ne b.not_modules];refine ac (di b c ?_);exact aq (wpAny_operating h)
theorem EC{x:Str}{i:Int}(c:-(x.length:Int)<=i/\i<x.length)(e:x.length<=aF)(h:Q (.str (Txt.item x i)) H):W2 w d VR H L5 (.str x) (.int i) Q:=λA F n s u v o S k l=>by refine b8 k.str_eq λt a=>?_;subst a; refine b8 l.int_eq λm b=>?_;subst b;have hz:aF=2^24:=rfl;refine i8 (SB.item (prog:=pP) (w:=w) (A:=A) (E:=nE) (s:=s) (x:=x) (t:=t) (u:=m) (i:=i) (Q:=HQ w VR F n s Q) (fitsSsize_of (N:=9223372036854775808) (Int.lt_of_lt_of_le (by decide) (Int.le_trans (Int.neg_le_neg (Int.ofNat_le.mpr e)) c.1)) (Int.lt_trans c.2 (Int.lt_of_le_of_lt (Int.ofNat_le.mpr e) (by decide))) (Int.le_refl _)) (charAt_isSome c.1 c.2) (L3 S oM h (aN _))) λT id j f g=>?_;exact lN f j g
end
end Mine.Internal
end
section
open PySem PySem.W PyProof.Rows PySem.W.X PySem.SeqAt
namespace Mine.Internal
noncomputable def pick{c:Type}(xs:List c)(lo a b:Option Int):List c:=(sliceRange (sliceBounds lo a b xs.length).1 (sliceBounds lo a b xs.length).2.1 (sliceBounds lo a b xs.length).2.2).filterMap (xs[·]?)
section
variable{w:NQ}{d:Nat}{H:List O}{Q:QV}
def gX(H:List O)(l:Nat)(xs:List V):Prop:=H[l]?=some (.list xs)\/H[l]?=some (.arr xs)
theorem d9.list(S:d9 w F ρ H s.heap (gt s))(i:gX H l xs)(h:ρ[l]?=some e):∃c:List NS,s.heap.IsList e.a c.toArray/\e5 ρ s.heap xs c:=by
 refine i.elim (λf=>?_) λf=>?_;· refine w6 (S.ob l e _ h f) λ_ _ c a b=>?_;exact b7 c a.isList b
 · refine m6 (S.ob l e _ h f) λ_ _ g _=>?_;obtain⟨c,a,b⟩:=g;exact b7 c a b
theorem R1(i:gX H l xs)(hz:xs.length<=aF)(h:Q (.int xs.length) H):j7 w d H (.bi "len") [.ref l] Q:=λA F x s u p n S k r=>by rw[k.bi_eq];refine i8 r.cons_eq λv q c m j=>?_;subst c;rw[j.nil_eq];refine a9 m.ref_eq λe g f=>?_;subst f;refine a9 (S.list i g) λt a b=>?_;have o:aF=2^24:=rfl;refine Calls.call_len_list a (by rw[aZ,b.len];exact lu hz) ?_;exact aZ▸b.len▸L3 S Q9 h (bW (aN _))
theorem ED{l:Nat}{Q:QB}(g:gX H l xs)(hz:xs.length<=aF)(h:Q (!xs.isEmpty) H):W1 w d N8 H truthy (.ref l) Q:=λA F n s u k S i=>by refine a9 i.ref_eq λe f c=>?_;subst c;refine a9 (S.list g f) λj a b=>?_;have m:aF=2^24:=rfl;refine wpAny_truthy_list a (by rw[aZ,b.len];exact lu hz) (L3 S ?_ h (bW (aN _)));have:=b.len;cases j<;>cases xs<;>simp_all[N8]
theorem D6(k:gX H l xs)(g:0<=i)(hz:i<2^62)(m:xs[i.toNat]?=some x)(h:Q x H):W2 w d VR H L5 (.ref l) (.int i) Q:=λA F B s u v r S o p=>by refine a9 o.ref_eq λe j c=>?_;subst c; refine b8 p.int_eq λt f=>?_;subst f;refine a9 (S.list k j) λz a b=>?_;refine a9 (b.get m) λy n q=>?_;exact lN a.typeIs slot_list_getitem.lookup (wpAny_getItem_list a g (jN hz) (by simpa using n) (B4 S q h))
theorem d9.turn{l:Nat}{tk:Nat}(S:d9 w F ρ H s.heap (gt s))(k:H[l]?=some (.list xs))(i:ρ[l]?=some e)(j:∀b o,b≠e.a->s.heap.get? b=some o->h'.get? b=some o)(g:h'.PlainList e.a us.toArray)(r:e5 ρ s.heap ys us):e8 ρ s ρ {s with heap:=h',toks:=tk}/\d9 w F ρ (H.set l (.list ys)) h' (gt s):=by
 refine w6 (S.ob l e _ i k) λf p u a b=>?_;have t:TK s.heap h':=.of_ext j (oy a.isList);refine⟨.same t rfl,S.upd i (λb o c m=>j b o (λq=>c (by exact f▸q▸.head _)) m) (λb c=>?_) t (fY f p us g (r.mono (aA _) t)) (hy:=λo h q=>by injection k.symm.trans h with h;subst h;cases q)⟩;rw[f]at c;rw[af.mp c];refine b8 g λn e=>?_;try clear g
 exact⟨_,e⟩
theorem O4{l:Nat}(m:H[l]?=some (.list xs))(hz:xs.length<=aF)(h:Q .none (H.set l (.list (xs++[x])))):j7 w d H (.bi "list.append") [.ref l,x] Q:=λA F I s u O M S B r=>by rw[B.bi_eq];refine i8 r.cons_eq λv q c C z=>?_;subst c;refine i8 z.cons_eq λE N f j i=>?_;subst f;rw[i.nil_eq];refine a9 C.ref_eq λe k g=>?_;subst g;refine w6 (S.ob l e _ k m) λK L G a b=>?_;refine tm a (λJ t y=>?_) (by exact aZ▸b.len▸hz);refine d7 (S.turn (tk:=s.toks) m k (λb o p e=>y.extBut b o p e) (us:=G++[E]) (by simpa using t) (b.append (.cons j .nil))) λD n=>?_;exact⟨I,_,.none,D,n,tA,h⟩
theorem O5(i:H[l]?=some (.list xs)):I4 w H (.ref l) "append" (.bi "list.append"):=λA F o s u k K j S r h=>by refine a9 r.ref_eq λe g c=>?_;subst c;refine w6 (S.ob l e _ g i) λ_ _ m f b=>?_; refine b8 f λn a=>?_;exact Calls.getMethod_list_append a rfl rfl (h _ jX)
theorem EE{l:Nat}{k:Int}{K:Unit->NR->Prop}{m:VP}(c:s.heap.PlainList l items)(g:0<=k)(a:k<2^63)(p:k<items.size)(h:∀h',h'.PlainList l (items.setIfInBounds k.toNat v)->dJ l s.heap h'->K () {s with heap:=h'}):aJ (ay pP w) A (setItem (.ref l) (.int k t) v) K m s:=by
 refine b8 (id c) λn i=>?_;have e:=c.isList.typeIs (s:=s);unfold setItem;try with_reducible refine bc ?_
 first|refine ac (aq ?_)|skip
 refine ac (wpAny_sequenceKey e (by decide) ?_);refine ac (bX (name:=aa "__setitem__") e slot_list_setitem (bK slot_list_setitem e entry_list_setitem ?_ (args_list_setitem _ _ _)));show aJ _ _ (bu.List.listSubscript? (.int k t)>>=_) _ _ s;refine ac (wpAny_listSubscript_int (fitsIndex_of g a) ?_);clear a;refine b8 (Int.eq_ofNat_of_zero_le g) λj b=>?_;subst b;have o:j<items.size:=aQ.mp p;have f:items[j]?=some items[j]:=gG o;refine ac (ac (wpAny_seqItemAt i rfl (aq ?_)));rw[f];refine ac (wpAny_setSeqItemAt i rfl ?_);first|exact ac (aq (aq (b7 .none rfl (aq (h _ (oJ _ c) (cT ..))))))|exact aq ⟨.none,rfl,aq (h _ (oJ _ c) (cT ..))⟩
theorem oR{l:Nat}{i:Int}{Q:Unit->List O->Prop}(j:H[l]?=some (.list xs))(m:0<=i)(hz:i<2^62)(t:i<xs.length)(h:Q () (H.set l (.list (xs.set i.toNat x)))):W3 w d gU H setItem (.ref l) (.int i) x Q:=λA F E s u v r K S z B y=>by refine a9 z.ref_eq λe g c=>?_;subst c; refine b8 B.int_eq λL f=>?_;subst f;refine w6 (S.ob l e _ g j) λI J D a b=>?_;refine EE a m (jN hz) (by exact aZ▸b.len▸t) λG p q=>?_;refine d7 (S.turn (tk:=s.toks) j g (λb o n e=>q.extBut b o n e) (us:=D.set i.toNat r) (by simpa using p) (b.set y i.toNat)) λC k=>?_;exact⟨E,_,(),C,k,trivial,h⟩
theorem oT(S:d9 w F ρ H s.heap (gt s))(a:u0 s.heap h0)(r:e5 ρ s.heap xs vs)(h:Q (.ref H.length) (H++[.list xs]))(i:s.toks<=tk):HQ w VR F ρ s Q (.ref h0.objs.size) {s with heap:=h0.push {cls:=.type "list",data:=.seq vs.toArray},toks:=tk}:=by have f:u0 h0 (h0.push {cls:=.type "list",data:=.seq vs.toArray}):=λ_ _ e=>aD _ e;have g:(h0.push {cls:=.type "list",data:=.seq vs.toArray}).get? h0.objs.size=some {cls:=.type "list",data:=.seq vs.toArray}:=aT _ rfl;have c:=S.keeps a;refine⟨_,_,.ref H.length,.add (.of_keep λb o e=>f b o (a b o e)) rfl,(c.alloc (o:=.list xs) f (z5 _) ⟨_,g⟩ (fY rfl rfl vs ⟨_,g⟩ (r.mono (aH _ _) (.of_keep λb o e=>f b o (a b o e))))).tk i,?_,h⟩;exact b7 _ (by rw[<-S.len,ao]) rfl
theorem oU(q:H[l]?=some (.list xs))(t:H[r]?=some (.list ys))(hz:xs.length+ys.length<=aF)(h:Q (.ref H.length) (H++[.list (xs++ys)])):W2 w d VR H (eE .Add) (.ref l) (.ref r) Q:=λA F E s u v B S x y=>by refine a9 x.ref_eq λe p c=>?_;subst c; refine a9 y.ref_eq λo j f=>?_;subst f;refine w6 (S.ob l e _ p q) λ_ _ D g b=>?_; refine b8 g λn a=>?_;refine w6 (S.ob r o _ j t) λ_ _ z i k=>?_; refine b8 i λC m=>?_;refine P.add_list a m ?_ (by rw[aZ,aZ,b.len,k.len];exact hz);have:=oT (tk:=s.toks) S (λ_ _ e=>e) (b.append k) h (ae _);simpa using this
end
section
variable{w:NQ}{fi:FI}{d:Nat}{m:b9}{H:List O}
theorem EF(h:WE w fi d m H value λo a=>WE w fi d m a slice λi c=>W2 w d VR c L5 o i Q)(j:autoParam ((subscripted slice true,subscripted slice false)=(λo i=>runValue (.builtin "lifetime.subscript" ⟨[o,i],[]⟩),λo i=>operate [o,i] (getItem o i))) Attribute_Name_._auto_1):WE w fi d m H (.Subscript value slice pos) Q:=λA g F J s n S=>by
  refine Subscript_ (ar (h A g F J s n S) (λo l p=>?_) λ_ _ x=>x);obtain⟨u,a,L,t,z,E,k⟩:=p;refine q9 (ar (k A g F u l n z) (λi G p=>?_) λ_ _ x=>x) λ_ _ x=>x;obtain⟨v,c,K,f,B,D,C⟩:=p;have e:gA value slice o i=(do let r<-L5 o i;letTemporaryGo value o r;pure r):=by
   have j:∀b o i,subscripted slice b o i=match b with|true=>runValue (.builtin "lifetime.subscript" ⟨[o,i],[]⟩)|false=>operate [o,i] (getItem o i):=λb o i=>by
    cases b;·exact congrFun (congrFun (Prod.mk.inj j).2 o) i
    ·exact congrFun (congrFun (Prod.mk.inj j).1 o) i
   unfold gA L5;first| simp only[j,bind_assoc];rfl |simp only[j,bind_assoc]
  rw[e];have I:=t.trans f;refine ac (q9 (lift B λy q T=>C A y v G o i (q▸n) T (E.mono f.1 f.2.1) D) λr M q=>?_);exact ac (wpAny_letTemporaryGo (aq (q.step I)))
end
section
variable{w:NQ}{d:Nat}{H:List O}{Q:QV}
structure EG(A:NT)(s:NR)(u v:NS)(b:Bool):Prop where
 rc:RcAt A s u v b
 ne:RcNeAt A s u v (!b)
 eq:EqAt A s u v b
 same:u=v->b=true
def gY(w:NQ)(H:List O)(k:Nat)(x y:V)(b:Bool):Prop:=∀(A:NT)(F:i5)(ρ:List c8)(s:NR)(u v:NS),A.units+k<cLine->d9 w F ρ H s.heap (gt s)->VR ρ s.heap x u->VR ρ s.heap y v->EG A s u v b
theorem EH(h:RcAt A s u v b)(g:∀x t,u≠.float x t)(f:u=v->b=true):EqAt A s u v b:=λpP w E Q a=>by
 refine bc (wpAny_ite_split (λe=>?_) λ_=>?_);·rw[f (eq_of_beq e)]at a;exact ac (cm (aq a))
 ·have c:aJ (ay pP w) A (do let x<-richCompare .Eq u v;truthOfDropped x) Q E s:=ac (h pP w E _ (by first|exact dX a|exact aq a|exact bc (dX a)|exact ac (dX (aq a))));cases u with|float x t=>exact absurd rfl (g x t)|_=>exact c
noncomputable def j4(xs ys:List V)(e:V->V->Bool)(j:Nat):Bool:=match xs[j]?,ys[j]? with|some x,some y=>e x y|_,_=>true
noncomputable def R2(xs ys:List V)(e:V->V->Bool):Bool:=xs.length==ys.length&&(cH xs.length).all (j4 xs ys e)
section
variable{k:Nat}{xs ys:List V}{e:V->V->Bool}{A:NT}{F:i5}{ρ:List c8}{s:NR}{vs us:List NS}
theorem oV(S:d9 w F ρ H s.heap (gt s))(h:A.units+k<cLine)(i:e5 ρ s.heap xs vs)(l:e5 ρ s.heap ys us)(g:∀x∈xs,∀y∈ys,gY w H k x y (e x y))(j:Nat)(a:j<vs.toArray.size)(b:j<us.toArray.size):EqAt A s vs.toArray[j] us.toArray[j] (j4 xs ys e j)/\(vs.toArray[j]=us.toArray[j]->j4 xs ys e j=true):=by rw[aZ]at a b;refine a9 (i.get' (aw a)) λx c m=>?_;refine a9 (l.get' (aw b)) λy f n=>?_;have z:=g x (aY c) y (aY f) A F ρ s _ _ h S m n;unfold j4;rw[c,f];exact⟨z.eq,z.same⟩
theorem EI(S:d9 w F ρ H s.heap (gt s))(h:A.units+k<cLine)(b:e5 ρ s.heap xs vs)(c:e5 ρ s.heap ys vs)(f:∀x∈xs,∀y∈ys,gY w H k x y (e x y)):R2 xs ys e=true:=by
 unfold R2;rw[<-b.len,<-c.len,beq_self_eq_true,Bool.true_and,List.all_eq_true];intro j g;have a:j<vs.toArray.size:=by rw[aZ];exact List.mem_range.mp g
 exact(oV S h b c f j a a).2 rfl
theorem EJ(b:e5 ρ s.heap xs vs)(a:xs.length=ys.length):R2 xs ys e=(cH vs.toArray.size).all (j4 xs ys e):=by unfold R2;rw[aZ,b.len,a,beq_self_eq_true,Bool.true_and]
theorem EK(a:xs.length≠ys.length):R2 xs ys e=false:=by unfold R2;rw[show(xs.length==ys.length)=false by simpa using a,Bool.false_and]
end
theorem tC(I:H[l]?=some (.list xs))(J:H[r]?=some (.list ys))(C:∀x∈xs,∀y∈ys,gY w H k x y (e x y)):gY w H (k+1) (.ref l) (.ref r) (R2 xs ys e):=λA F U s u v i S R T=>by
 refine a9 R.ref_eq λa B m=>?_;subst m;refine a9 T.ref_eq λb h n=>?_;subst n;refine w6 (S.ob l a _ B I) λP _ N o f=>?_;refine w6 (S.ob r b _ h J) λf2 _ M p t=>?_;have c:A.in1.units+k<cLine:=by show A.units+1+k<cLine;exact yF i
 have L:NS.ref a.a=.ref b.a->R2 xs ys e=true:=λq=>by
  have O:a.a=b.a:=by injection q
  have D:l=r:=gF λE=>lC S.nd B h E (b:=a.a) (by rw[P];exact .head _) (by rw[f2,O];exact .head _);subst D;cases I.symm.trans J;injection B.symm.trans h with h;subst h;exact EI (A:=A.in1) S c f f C
 have G:RcAt A s (.ref a.a) (.ref b.a) (R2 xs ys e)/\RcNeAt A s (.ref a.a) (.ref b.a) (!R2 xs ys e):=by
  by_cases hlen:xs.length=ys.length
  · have g:N.toArray.size=M.toArray.size:=by rw[aZ,aZ,f.len,t.len,hlen]
    rw[EJ (s:=s) f hlen];exact⟨RcAt.lists o.isList p.isList g (by exact lp i) λj g z=>(oV (A:=A.in1) S c f t C j g z).1,RcNeAt.lists o.isList p.isList g (by exact lp i) λj g z=>(oV (A:=A.in1) S c f t C j g z).1⟩
  · rw[EK hlen];have K:(N.toArray.size !=M.toArray.size)=true:=by rw[aZ,aZ,f.len,t.len];simpa using hlen
    exact⟨RcAt.lists_lengths o.isList p.isList K (by exact lp i),RcNeAt.lists_lengths o.isList p.isList K (by exact lp i)⟩
 exact⟨G.1,G.2,EH G.1 (λ_ _ q=>by injection q) L,L⟩
theorem EL(c:k<=150)(h:gY w H k x y b)(e:Q (.bool b) H):W2 w d VR H (cD .Eq) x y Q:=λA F i s u v a S f g=>by have:=a.un;exact(h A F i s u v (by exact rJ c this) S f g).rc pP w _ _ (B4 S C0 e)
theorem tD(c:k<=150)(h:gY w H k x y b)(e:Q (.bool (!b)) H):W2 w d VR H (cD .NotEq) x y Q:=λA F i s u v a S f g=>by have:=a.un;exact(h A F i s u v (by exact rJ c this) S f g).ne pP w _ _ (B4 S C0 e)
end
section
variable{w:NQ}{d:Nat}{H:List O}{Q:QV}
theorem A0.trans(a:A0 fp s s₁)(b:A0 fp s₁ s2):A0 fp s s2:=j8 ⟨b.1.1.trans a.1.1,ad a.1.2 b.1.2⟩ (b.2.1.trans a.2.1) (a.2.2.1.trans b.2.2.1) λx o c e=>b.2.2.2 x o c (a.2.2.2 x o c e)
theorem tE{I:Nat}{g:Nat->List c8->NV->Prop}(m:Q8 w I fp xs G g Md λ_=>True)(y:A.handled=none)(t:G H)(u:∀b∈fp,F.f b=none/\b∉l7 ρ):∀(n i:Nat)(s:NR),i+n=xs.length->d9 w F ρ H s.heap (gt s)->g i ρ s.heap->aJ (ay pP w) A (draw (.ref I) n) (λus s'=>e5 ρ s'.heap (xs.drop i) us/\g xs.length ρ s'.heap/\A0 fp s s') E' s:=by intro n;induction n with|zero=>intro i s c S j;have:xs.drop i=[]:=eX (by exact yX c);rw[this];exact aq (i9 .nil (by rw[<-c];exact j) .refl)|succ n z=>
  intro i s c S j;have p:i<xs.length:=by exact W0 c
  refine ac (ar (m.item A F ρ H s i xs[i] E' y S t j (aw p)) (λr f=>nK λv e C h o=>?_) λ_ _ x=>x);have k:=m.pl (λ_=>trivial) _ _ _ _ h;subst e;have q:=S.chg u o;refine ac (bc (ar (z (i+1) f (by exact lq c) q k) (λus D=>H8 λB l a=>?_) λ_ _ x=>x));rw[dZ p];exact aq (i9 (.cons (C.mono (aA _) a.2.2.1) B) l (o.trans a))
def tF(w:NQ)(H:List O)(v:V):Prop:=∀F ρ(s:NR)u,d9 w F ρ H s.heap (gt s)->VR ρ s.heap v u->∃T r,s.TypeIs u T/\bA (.type T) "__iter__"=pure (some r)
theorem EM{G:List O->Prop}{Q:List V->List O->Prop}(M:M3 w d H v xs G)(B:G H)(P:tF w H v)(h:Q xs H):W1 w d e5 H (λu=>fX u xs.length none) v Q:=λA F i s u l S J=>by
 refine t8 (P F i s u S J) λT r N R=>?_;refine ac ?_;refine ac (di N R (aq ?_));first|with_reducible refine NX (by decide) ?_|simp only[bJ,if_false]
 refine ac (bc (ar (M A F i s u l S J) (λZ a j=>?_) λ_ _ x=>x));refine iF j λI L Y X e t m E n U D=>?_;try clear j
 subst e;have y:d9 w F i H a.heap (gt a):=(S.keeps E).gte n.1 n.2;have f:∀b∈L,F.f b=none/\b∉l7 i:=λb C=>by
  refine⟨?_,λq=>?_⟩;·cases q:F.f b with|none=>rfl|some o=>refine a9 (S.keep _ _ q) λo' K _=>?_;injection (D b C).symm.trans K
  · refine b8 (S.live b q) λo j=>?_;injection (D b C).symm.trans j
 refine ac (bc (ar (tE t l.hd B f xs.length 0 a (by exact rK) y m) (λus W=>H8 λg p c=>?_) λ_ _ x=>x));rw[List.drop_zero]at g;have z:=y.chg f c;refine NX (decide_eq_false (by rw[g.len];exact rL)) ?_;refine ac (bc (ar (t.done A F i H W _ l.hd z B p) (λr s3=>u6 λe k=>?_) λ_ _ x=>x));subst e;first|with_reducible refine NX (by decide) ?_|simp only[Option.isSome_none,bJ,if_false]
 refine aq ⟨i,H,xs,((e8.same (.of_keep E) U (by rw[n.1];exact ae _)).trans c.step).trans k.step,z.chg f k,g.mono (aA _) k.2.2.1,h⟩
theorem EN:tF w H (.tup xs):=λF f s u S r=>by refine i8 r.tup_eq λa e b c _=>?_;subst b;exact G7 "tuple" _ c.typeIs PySem.F.slot_tuple_iter.lookup
theorem D8{n:Nat}{Q:List V->List O->Prop}(a:n=xs.length)(h:Q xs H):W1 w d e5 H (λu=>fX u n none) (.tup xs) Q:=by subst a;exact EM Ei trivial EN h
end
section
variable{w:NQ}{fi:FI}{d:Nat}{m:b9}{H:List O}
theorem oW(b:V->Bool)(f:V->V)(hI:M3 w d H v xs G)(hG:G H)(hsz:xs.length<=aF)(h:∀x∈xs,WA w (ci sc' fi) d (aL sc'++m) H target x λY a=>a=H/\lL w (ci sc' fi) d Y H ifs λr g=>g=H/\r=b x/\(b x=true->WE w (ci sc' fi) d Y H elt λy l=>l=H/\y=f x))(hQ:Q ((xs.filter b).map f) H):oH w fi d m H elt target ifs sc' v Q:=by
 refine yx xs G hI hsz (λi p o=>o=H/\p=((xs.take i).filter b).map f) ⟨rfl,rfl⟩ ?_ ?_ ?_;· intro i p o;refine u6 λI J=>?_;subst I;subst J;refine⟨hG,?_⟩;rw[ak];exact ad (List.length_filter_le _ _) (by rw[dG];exact gM _ _)
 · intro i x p o X;refine u6 λK L=>?_;subst K;subst L;have D:=h x (aY X);have e:(xs.take (i+1)).filter b=(xs.take i).filter b++if b x=true then[x]else[]:=by rw[List.take_add_one,X,gz];cases q:b x<;>simp[q]
   refineλA j F U s u C S r=>ar (D A j F U s u C S r) (λ_ s'=>AQ.el λk a E T t M=>d7 M λZ B=>⟨k,a,E,T,t,?_⟩) λ_ _ z=>z;subst Z;have n:∀(r:Bool)g,g=a/\r=b x/\(b x=true->WE w (ci sc' fi) d E a elt λy l=>l=a/\y=f x) -> if r=true then WE w (ci sc' fi) d E g elt λy l=>l=a/\List.map f ((xs.take i).filter b)++[y]=((xs.take (i+1)).filter b).map f else g=a/\((xs.take i).filter b).map f=((xs.take (i+1)).filter b).map f:=by intro r g;refine H8 λN O hw=>?_;subst N;subst O;cases q:b x with|true=>refine(hw q).mono λy l=>u6 λe3 e4=>⟨e3,?_⟩;rw[e,if_pos q,e4];simp|false=>exact⟨rfl,by rw[e,if_neg (by rw[q];decide),bG]⟩
   cases ifs with|nil=>exact n true _ B|cons c r=>cases r with|cons _ _=>exact B|nil=>exactλA j F U s C S=>ar (B A j F U s C S) (λr s'=>SQ.el λk g W T t rb hq=>⟨k,g,W,T,t,rb,n W g hq⟩) λ_ _ z=>z
 · intro p o;refine u6 λP R=>?_;subst P;subst R;rw[eI];exact hQ
noncomputable def S(l:List Nat):Str:=⟨l.toArray⟩
theorem R3(l:List Nat):(S l).length=l.length:=by show l.toArray.size=_;simp
theorem iZ:S a=S b↔a=b:=⟨λh=>by injection h with h;simpa using h,λh=>by rw[h]⟩
theorem oY(a b:List Nat):(S a==S b)=decide (a=b):=by rw[Bool.eq_iff_iff];simp[iZ]
theorem EO(a:0<=i)(b:l[i.toNat]?=some c):Txt.item (S l) i=S [c]:=PyProof.Rows.item_meets a (by simpa[S]using b)
end
section
variable{w:NQ}{d:Nat}{H:List O}{Q:QV}
theorem tG(f:n<2^61):M3 w d H (.rng 0 (n:Nat)) ((cH n).map λi=>V.int (i:Nat)) λ_=>True:=by
 have:=lJ (w:=w) (d:=d) (H:=H) (a:=0) (b:=(n:Nat)) ⟨by decide,by decide⟩ ⟨Int.le_trans (by decide) (aW n),Int.lt_of_lt_of_le (aQ.mpr f) (by decide)⟩;have e:((n:Int)-0).toNat=n:=by rw[Int.sub_zero];rfl
 rw[e]at this;have c:(λi:Nat=>V.int (0+(i:Int)))=λi:Nat=>V.int (i:Int):=funext λi=>by rw[Int.zero_add]
 rw[c]at this;exact this
theorem tH:M3 w d H (.str (S l)) (l.map λc=>V.str (S [c])) λ_=>True:=by have:=Eh (w:=w) (d:=d) (H:=H) (x:=S l);simpa[S]using this
theorem EP(a:l[k]?=some c)(hz:l.length<=aF)(h:Q (.str (S [c])) H):W2 w d VR H L5 (.str (S l)) (.int (k:Nat)) Q:=by have b:=(ab.mp a).1;refine EC ⟨by rw[R3];exact Int.le_trans (Int.neg_nonpos_of_nonneg (aW _)) (aW _),by rw[R3];exact aQ.mpr (ab.mp a).1⟩ (by rw[R3];exact hz) ?_;rw[EO (aW _) (by simpa using a)];exact h
end
end Mine.Internal
end
section
open PySem PySem.W PyProof.Rows PySem.W.X
namespace Mine.Internal
noncomputable def NN(h:NV)(I:Nat)(x:Str)(t:Tok)(i:Nat):Prop:=h.IsStrIter I "str_ascii_iterator" x t i\/h.IsStrIter I "str_iterator" x t i
end Mine.Internal
end
section
open PySem PySem.W PyProof.Rows PySem.W.X PySem.SeqAt
namespace Mine.Internal
section
variable{w:NQ}{A:NT}{E:VP}{s:NR}
theorem d9.gens(S:d9 w F ρ H h gs)(u:∀(k:Nat)(z:GenState),gs'[k]?=some z->z.bare=true\/gs.a[k]?=some z)(p:∀e∈ρ,e.fp≠[]->∀x z,e.g=some x->gs.a[x.1]?=some z->gs'[x.1]?=some z)(hz:gs.a.size<=gs'.size):d9 w F ρ H h ⟨gs',gs.n⟩:=⟨S.bs,S.keep,S.len,S.ob,S.live,S.nd,S.off,S.gn,λk z hz=>(u k z hz).elim .inl λq=>S.bare k z q,λi e o d l=>by have:=S.gf i e o d l;cases o with|fresh fi r m=>(refine t8 this λg b c f=>?_;try clear this); refine i8 (S.ob i e _ d l) λ_ _ _ j _=>?_;exact G7 g b c (p e (aY d) (by rw[j];exact gc _ _) _ _ c f) |gone=>exactλx v=>aB (this x v) hz|done=>(refine t8 this λg b c f=>?_;try clear this); refine F6 (S.ob i e _ d l) λ_ _ _ _ j _=>?_;exact G7 g b c (p e (aY d) (by rw[j];exact gc _ _) _ _ c f) |slp a fi m rest k y n=>(refine F6 this λg b z c f t=>?_;try clear this); refine fg (S.ob i e _ d l) λ_ _ _ _ j _=>?_;exact Q2 g b z c (p e (aY d) (by rw[j];exact gc _ _) _ _ c f) t |_=>trivial,S.fo,S.tp⟩
end
noncomputable def kc(c d:Nat):Str:=if((⟨#[d]⟩:Str)==" ")=true then if Txt.isspace ⟨#[c]⟩=true then⟨#[c]⟩else⟨#[d]⟩ else⟨#[d]⟩
noncomputable abbrev oZ(a:Array NS)(c:Nat):Obj:={cls:=.type "list",dict:=none,data:=.seq a c,slots:=#[]}
theorem d6.gens(S:d6 w fi env m F ρ H h gs)(a:∀(k:Nat)(z:GenState),gs'[k]?=some z->z.bare=true\/gs.a[k]?=some z)(b:∀e∈ρ,e.fp≠[]->∀x z,e.g=some x->gs.a[x.1]?=some z->gs'[x.1]?=some z)(hz:gs.a.size<=gs'.size):d6 w fi env m F ρ H h ⟨gs',gs.n⟩:=⟨S.hs.gens a b hz,S.es,S.eg,S.eb,S.ec,S.ek,S.ef,S.lo,S.ns,S.cl,S.ce,S.cn,S.cu,S.cd,S.cf⟩
theorem gZ(a:env.frame=some env.locals):n6 env F=env::F.fr:=if_pos a
section
variable(w:NQ)(fi:FI)(d:Nat)
def WJ(m:b9)(H:List O)(a:Str):List Expr->(V->List O->Prop)->Prop|[],Q=>a.length<=aF/\Q (.str a) H|e::c,Q=>WE w fi d m H e λv b=>∃y,v=.str y/\(a++y).length<=aF/\WJ m b (a++y) c Q
end
section
variable{w:NQ}{fi:FI}{d:Nat}{m:b9}{H:List O}
theorem EQ{j:List Expr}{Q:QV}:∀{H:List O}{a:Str},WJ w fi d m H a j Q->∀A env F ρ s,j0 A d (n6 env F)->d6 w fi env m F ρ H s.heap (gt s)->aJ (ay pP w) A (joinParts a (evalEach j env)) (SQ w VR fi env m F ρ s Q) nE s:=by induction j with|nil=>exactλh A env F ρ s k S=>joinParts_nilE (joinParts_nil ⟨ρ,_,.str _,.same (.refl _) rfl,S.tk (aN _),.intro _ rfl,h.2⟩ h.1)|cons e j I=>intro H a h A env F ρ s k S;refine joinParts_consE (joinParts_cons (ar ((show WE w fi d m H e _ from h) A env F ρ s k S) (λu i E=>?_) λ_ _ x=>x));obtain⟨p,z,v,n,B,r,g⟩:=E;refine m9 g λy e G f=>?_;clear g;subst e;refine b8 r.str_eq λt l=>?_;subst l;exact⟨G,ar (I f A env F p i k B) (λv K=>SQ.el λq c b o C J D=>⟨q,c,b,n.trans o,C,J,D⟩) λ_ _ x=>x⟩
theorem ER{a b:Expr}{rest:List Expr}{e:Pos}{Q:QV}(h:WJ w fi d m H Str.empty (a::b::rest) Q):WE w fi d m H (.JoinedStr (a::b::rest) e) Q:=λA c F g s f S=>JoinedStr_many (EQ h A c F g s f S)
theorem ES(hz:out.length<=aF)(h:Q (.str out) H):WJ w fi d m H out [] Q:=⟨hz,h⟩
theorem pa(h:WE w fi d m H e λv a=>∃y,v=.str y/\(out++y).length<=aF/\WJ w fi d m a (out++y) es Q):WJ w fi d m H out (e::es) Q:=h
end
section
set_option tactic.hygienic true
theorem tJ{K:Frag}{h:NV}{N:Nat}{a:Str->Option NS}{n:Str}{v:NS}(X:K.In h)(G:h.Ns N a)(e:nsIn K N n=some (some v)):a n=some v:=by exact sZ X G e
structure W8(KF:Frag)(C N:Nat):Prop where
 cl:∃nm q bs sn sub col dd k0 k1 k2 k3 k5,KF.lookup C=some (excClassObj nm q C N bs [.type "object"] true sn sub false col dd k0 k1 k2 k3 k5 "object.__new__")
 ns:nsOkIn KF N=true
 ga:nsIn KF N "__getattribute__"=some none
 gh:nsIn KF N "__getattr__"=some none
 sa:nsIn KF N "__setattr__"=some none
section
variable{w:NQ}{d:Nat}{H:List O}
theorem W8.nsp(K:W8 (KW w) C N)(B:Bs w h):∃a,h.Ns N a:=⟨_,.of_isNs (isNs_of_in B.k K.ns)⟩
theorem j0.cls(h:j0 A (d+1) l):j0 (A.under (.builtin "type.__call__" ⟨.ref C::rest,[]⟩)) d l:=by
 have e:(Code.builtin "type.__call__" ⟨.ref C::rest,[]⟩).weight<=4:=by
  unfold Code.weight;have a:(Code.builtin "type.__call__" ⟨.ref C::rest,[]⟩).frames=0:=by rfl
  have b:(Code.builtin "type.__call__" ⟨.ref C::rest,[]⟩).isCaller=false:=by rfl
  rw[a,b];split<;>split<;>simp
 have c:(Code.builtin "type.__call__" ⟨.ref C::rest,[]⟩).cUnits<=40:=by
  have a:(Code.builtin "type.__call__" ⟨.ref C::rest,[]⟩).cUnits=1:=by rfl
  rw[a];decide
 refine⟨h.fr,h.hd,?_,?_⟩;·have:=h.dp;exact yZ e this
 ·have:=h.un;exact za c this
theorem pb{C N k:Nat}{Q:QV}(K:W8 (KW w) C N)(hi:nsIn (KW w) N "__init__"=some (some (.ref k)))(z:(KW w).lookup k=some oI)(D:oI.cls=.type "function")(h:j7 w d (H++[.inst C []]) (.st k) (.ref H.length::xs) λv H'=>v=.none/\Q (.ref H.length) H'):j7 w (d+1) H (.st C) xs Q:=λA F Z s u us hA S ru r=>by
  subst ru;obtain⟨hp,g,V,tk,X⟩:=s;have B:Bs w hp:=S.b;refine b8 (K.nsp B) λmN W=>?_;refine kY K.cl λnm q bs sn a1 a0 dd k0 k1 k2 k3 k5 hC=>?_;refine wpAny_call_obj_init PySem.F.objNew (B.k _ _ hC) W (tJ B.k W hi) (B.k _ _ z) D λm x i M=>?_;refine Z0 M.inst λo L hc I t=>?_;have f:=M.dict o L;obtain⟨l,y,c,E⟩:∃l,i≠x/\m.Ns1 i l/\∀n,l n=none:=by
   rcases t with⟨e,_⟩|⟨d',e,J,G⟩;·injection f.symm.trans e
   ·injection f.symm.trans e with e;subst e;exact j5 _ J G λ_=>rfl
  have R:=S.dead M.newX;have U:=S.dead M.newD;have T:=(S.keeps M.keeps).adopt (a:=x) (r:=[i]) (o:=.inst C []) (by simp[bg y]) (λb j=>by
   rcases az.mp j with e|j;·rw[e];exact V8 R.1 R.2 o L
   · rw[af.mp j];refine E5 c λod _ _ hd _=>?_;try clear c
     exact V8 U.1 U.2 od hd) (lm rfl i rfl o l L hc I f c λn=>E n);have p:Z<+:Z++[⟨x,[x,i],none⟩]:=aH _ _;refine ar (h _ F _ ⟨m,g,V,tk,X⟩ (.ref k) (.ref x::us) hA.cls T rfl (.cons (b7 _ (by rw[<-S.len,ao]) rfl) (r.mono p (.of_keep M.keeps)))) (λv s'=>HQ.el λP H' b Y T' rv O=>d7 O λj hq=>?_) λ_ _ x=>x.elim;subst j;refine⟨rv,P,H',_,e8.trans (s₁:=⟨m,g,V,tk,X⟩) (e8.add (.of_keep M.keeps) rfl) Y,T',?_,hq⟩;exact b7 _ (x6 Y.1 (by rw[<-S.len,ao])) rfl
theorem ET:(l7 ρ).Nodup->e∈ρ->e.fp.Nodup:=by induction ρ with|nil=>exactλ_ h=>absurd h List.not_mem_nil|cons x ρ a=>exactλb h=>n8 (dF.mp b) λn1 n2 _=>(az.mp h).elim (λq=>q▸n1) (a n2)
theorem pc{i C:Nat}(S:d9 w F ρ H h gs)(s:H[i]?=some (.inst C fs))(l:ρ[i]?=some e):∃a o c,e.fp=[e.a,a]/\h.get? e.a=some o/\o.dict=some a/\a≠e.a/\h.Inst e.a C c/\h.Ns1 a c/\jQ ρ h fs c:=by
 refine nI (S.ob i e _ l s) λg a m o c f n p j k r=>?_;have b:a≠e.a:=λq=>by have t:=S.nd;have:e.fp.Nodup:=ET t (aY l);rw[m,q]at this;simp at this
 exact yA a o c m f j b (N1 o f n p (.inr (j5 a j b k))) k r
theorem J8{C N i f:Nat}{fs:List (Str×V)}{name:Str}{of:Obj}{y:Option NS}(K:W8 (KW w) C N)(v:nsIn (KW w) N name=some (some (.ref f)))(c:(KW w).lookup f=some of)(b:of.cls=.type "function")(n:bA (.type "object") name=pure y)(z:H[i]?=some (.inst C fs))(k:fs.lookup name=none):I4 w H (.ref i) name (.st f):=λA F ρ s u pl Q J S r h=>by refine a9 r.ref_eq λe t l=>?_;subst l;refine nH (pc S z t) λP o mA x R T U I D j=>?_;obtain⟨E,g,O,tk,os⟩:=s;have B:Bs w E:=S.b;refine b8 (K.nsp B) λmN a=>?_;refine kY K.cl λnm q L sn G m M W X Y Z k5 p=>?_;refine method_of (B.k _ _ p) a (ns_none_of B.k a K.ga) (ns_none_of B.k a K.gh) (tJ B.k a v) (B.k _ _ c) b n I ?_ (h _ rfl);have:=j name;rw[k]at this;exact this
noncomputable def m7:List (Str×V)->Str->V->List (Str×V)|[],n,v=>[(n,v)]|(m,u)::r,n,v=>if m=n then(m,v)::r else(m,u)::m7 r n v
theorem tK:m7 ((m,u)::r) n v=if m=n then(m,v)::r else(m,u)::m7 r n v:=rfl
theorem C2{n k:Str}{v:V}:∀{fs:List (Str×V)},(m7 fs n v).lookup k=if k=n then some v else fs.lookup k:=by
 intro fs;induction fs with|nil=>
  rw[show m7 [] n v=[(n,v)]from rfl,bU];by_cases e:k=n;·rw[if_pos e,e,beq_self_eq_true]
  ·rw[if_neg e,show(k==n)=false by simpa using e]|cons p r a=>
  obtain⟨m,u⟩:=p;rw[tK];by_cases q:m=n
  · rw[if_pos q,bU,bU];by_cases e:k=n;·rw[if_pos e,e,q,beq_self_eq_true]
    ·rw[if_neg e,show(k==m)=false by rw[q];simpa using e]
  · rw[if_neg q,bU,bU,a];by_cases e:k=m;·rw[e,beq_self_eq_true];exact(if_neg q).symm
    ·rw[show(k==m)=false by simpa using e]
theorem E8{C N i:Nat}{Q:Unit->List O->Prop}(K:W8 (KW w) C N)(Z:nsIn (KW w) N name=some none)(hB:bA (.type "object") name=pure none)(W:H[i]?=some (.inst C fs))(hsz:fs.length<=aF)(h:Q () (H.set i (.inst C (m7 fs name v)))):W2 w d gU H (λu v=>setAttr u name v) (.ref i) v Q:=λA F ρ s u x hA S ru rv=>by
 refine a9 ru.ref_eq λe V a4=>?_;subst a4;refine nH (pc S W V) λt o mA m P D h3 I a2 E=>?_;obtain⟨hp,g,dr,tk,os⟩:=s;have B:Bs w hp:=S.b;refine b8 (K.nsp B) λmN X=>?_;refine kY K.cl λnm q bs sn b2 b1 dd k0 k1 k2 k3 k5 hC=>?_;have a3:e.a≠C:=λq=>by
  refine Z0 I λo' a _ a0 _=>?_;try clear I
  rw[q]at a;have:=B.k _ _ hC;injection this.symm.trans a with a;subst a;exact a0 _ rfl
 have hw:PySem.Within mA (fs.map (·.1)):=λy hy=>by
  have:=E y;split at this;·rename_i z hz;exact bp.mpr (b7 _ (mem_of_lookup hz) rfl)
  ·exact absurd this hy
 refine bZ (ae _) (store_attr PySem.F.store_object (B.k _ _ hC) X (ns_none_of B.k X K.sa) (ns_none_of B.k X Z) hB a3 I (λJ b3 I' hk p ht=>?_) hw (by simpa using hsz));refine ai1 (p o P) λf j c1 c2 c3 c4=>?_;have eo:f=o:=by have c4:=c4 t D;cases f;cases o;simp_all
 subst eo;refine Z0 I' λo' a R G U=>?_;try clear I'
 injection j.symm.trans a with a;subst a;obtain⟨a6,c⟩:t≠e.a/\J.Ns1 t λy=>if y=name then some x else mA y:=by
  rcases U with⟨q,_⟩|⟨d',q,a1,Y⟩;·injection D.symm.trans q
  ·injection D.symm.trans q with q;subst q;exact⟨a1,Y⟩
 have l:∀b o,b≠t->hp.get? b=some o->J.get? b=some o:=λb ob k r=>by
  by_cases q:b=e.a;·subst q;injection P.symm.trans r with r;subst r;exact j
  ·exact hk b ob q (λb0 a5 L M=>by injection P.symm.trans L with L;subst L;injection D.symm.trans M with M;subst M;exact k) r
 have tk:TK hp J:=.of_ext l (W4 a2.ns);have T:=S.upd (o':=.inst C (m7 fs name v)) V (h':=J) (λb ob k r=>l b ob (λq=>k (by rw[m,q];exact .tail _ (.head _))) r) (λb k=>by
  rw[m]at k;rcases az.mp k with q|k;·rw[q];exact⟨_,j⟩
  · rw[af.mp k];refine E5 c λod _ _ hd _=>?_;try clear c
    exact⟨od,hd⟩) tk (lm ((S.ob i e _ V W).1) t m f _ j R G D c λn=>by
  rw[C2];by_cases q:n=name;·rw[q,if_pos rfl];exact b7 x (if_pos rfl) (rv.mono (aA _) tk)
  ·rw[if_neg q];have:=E.mono (aA _) tk n;rw[if_neg q];exact this) (hy:=λo h q=>by injection W.symm.trans h with h;subst h;cases q);exact⟨ρ,_,(),.same tk rfl,T.tk ht,trivial,h⟩
end
end
section
variable{w:NQ}{d:Nat}{H:List O}{Q:QV}
theorem EU:gY w H k .none .none true:=λA F e s u v c S a b=>by rw[a.none_eq,b.none_eq];exact⟨.none_none,.none_none,.same _,λ_=>rfl⟩
end
theorem W9{us:List NS}(h:us.length=1):∃a,us=[a]:=List.length_eq_one_iff.mp h
theorem aa5{us:List NS}(h:us.length=2):∃b c,us=[b,c]:=by cases us with|nil=>cases h|cons a us=> refine b8 (W9 (eG h)) λd e=>?_;exact u8 a d (by rw[e])
theorem pd{us:List NS}(h:us.length=3):∃b c d,us=[b,c,d]:=by cases us with|nil=>cases h|cons a us=> refine z9 (aa5 (eG h)) λf g e=>?_;exact M0 a f g (by rw[e])
theorem aK7{us:List NS}(h:us.length=4):∃b c d f,us=[b,c,d,f]:=by cases us with|nil=>cases h|cons a us=> refine J0 (pd (eG h)) λg i j e=>?_;exact fx a g i j (by rw[e])
theorem pe{us:List NS}(h:us.length=5):∃b c d f g,us=[b,c,d,f,g]:=by cases us with|nil=>cases h|cons a us=> refine T8 (aK7 (eG h)) λi j k l e=>?_;exact nL a i j k l (by rw[e])
theorem EV{us:List NS}(h:us.length=6):∃b c d f g i,us=[b,c,d,f,g,i]:=by cases us with|nil=>cases h|cons a us=> refine eZ (pe (eG h)) λj k l m n e=>?_;exact lh a j k l m n (by rw[e])
theorem tM{us:List NS}(h:us.length=7):∃b c d f g i j,us=[b,c,d,f,g,i,j]:=by cases us with|nil=>cases h|cons a us=> refine kX (EV (eG h)) λk l m n o p e=>?_;exact yl a k l m n o p (by rw[e])
section
variable(w:NQ)(fi:FI)(d:Nat)(m:b9)
abbrev EW(c:Operator)(a:V)(Q:QV):V->List O->Prop:=λb H=>W2 w d VR H (eE c) a b Q
abbrev EX(b:Operator)(r:Expr)(Q:QV):V->List O->Prop:=λa H=>WE w fi d m H r (EW w d b a Q)
abbrev EY(c:CmpOp)(a:V)(Q:QV):V->List O->Prop:=λb H=>W2 w d VR H (cD c) a b Q
abbrev tN(b:CmpOp)(r:Expr)(Q:QV):V->List O->Prop:=λa H=>WE w fi d m H r (EY w d b a Q)
abbrev KT(Q:QB):V->List O->Prop:=λc H=>W1 w d N8 H truthy c Q
abbrev KN(Q:QB):Bool->List O->Prop:=λb H=>Q (!b) H
abbrev lO(y:Expr)(r:List Expr)(a:Pos)(Q:QB):Bool->List O->Prop:=λb H=>if b=true then WT w fi d m H (.BoolOp .And (y::r) a) Q else Q false H
abbrev pf(y:Expr)(r:List Expr)(a:Pos)(Q:QB):Bool->List O->Prop:=λb H=>if b=true then Q true H else WT w fi d m H (.BoolOp .Or (y::r) a) Q
abbrev kg(x y:Expr)(Q:QV):Bool->List O->Prop:=λb H=>if b=true then WE w fi d m H x Q else WE w fi d m H y Q
abbrev KL(Q:QV):List V->List O->Prop:=λa H=>a.length<=aF/\Q (.ref H.length) (H++[.list a])
abbrev tO(Q:QV):List V->List O->Prop:=λa H=>a.length<=aF/\Q (.tup a) H
abbrev tP(v:V)(Q:List V->List O->Prop):List V->List O->Prop:=λa H=>Q (v::a) H
abbrev EZ(a:List Expr)(Q:List V->List O->Prop):V->List O->Prop:=λv H=>B2 w fi d m H a (tP v Q)
abbrev Fa(f:V)(Q:QV):List V->List O->Prop:=λa H=>j7 w d H f a Q
abbrev Fb(a:List Expr)(Q:QV):V->List O->Prop:=λf H=>y5 (KW w) f/\B2 w fi d m H a (Fa w d f Q)
abbrev Fc(f x:V)(Q:QV):List V->List O->Prop:=λa H=>j7 w d H f (x::a) Q
abbrev Fd(name:Str)(a:List Expr)(Q:QV):V->List O->Prop:=λx H=>∃f,I4 w H x name f/\y5 (KW w) f/\B2 w fi d m H a (Fc w d f x Q)
abbrev Fe(o:V)(Q:QV):V->List O->Prop:=λi H=>W2 w d VR H L5 o i Q
abbrev Ff(a:Expr)(Q:QV):V->List O->Prop:=λo H=>WE w fi d m H a (Fe w d o Q)
abbrev KM(Q:QN):Unit->List O->Prop:=λ_ H=>Q m H
abbrev Fg(b v:V)(Q:QN):V->List O->Prop:=λa H=>W3 w d gU H setItem b a v (KM m Q)
abbrev Fh(i:Expr)(v:V)(Q:QN):V->List O->Prop:=λa H=>WE w fi d m H i (Fg w d m a v Q)
abbrev Fi(a:Str)(v:V)(Q:QN):V->List O->Prop:=λb H=>W2 w d gU H (λu v=>setAttr u a v) b v (KM m Q)
abbrev Fj(a:List Expr)(Q:QN):List V->List O->Prop:=λb H=>lF w fi d m H a b Q
abbrev tQ(Q:QF):b9->List O->Prop:=λm H=>Q .next m H
abbrev lP(t:Expr)(Q:QF):V->List O->Prop:=λv H=>WA w fi d m H t v (tQ Q)
abbrev Fk(t':Expr)(v:V)(Q:QF):b9->List O->Prop:=λm H=>WA w fi d m H t' v (tQ Q)
abbrev Fm(t t':Expr)(Q:QF):V->List O->Prop:=λv H=>WA w fi d m H t v (Fk w fi d t' v Q)
abbrev Fn(x:Str)(Q:QF):V->List O->Prop:=λc H=>Q .next (u9 m x c) H
abbrev Fo(c:Operator)(a:V)(x:Str)(Q:QF):V->List O->Prop:=λb H=>W2 w d VR H (inplaceOp c) a b (Fn m x Q)
abbrev pg(x y:List NW)(Q:QF):Bool->List O->Prop:=λb H=>if b=true then WB w fi d m H x Q else WB w fi d m H y Q
abbrev Fp(Q:QF):V->List O->Prop:=λv H=>Q (.ret v) m H
abbrev Fq(Q:QF):V->List O->Prop:=λ_ H=>Q .next m H
abbrev lQ(rest:List NW)(Q:QF):Fl->b9->List O->Prop:=λf m H=>match f with|.next=>WB w fi d m H rest Q|f=>Q f m H
abbrev lR(J:Nat->b9->List O->Prop)(i:Nat)(Q:QF):Fl->b9->List O->Prop:=λf m H=>match f with|.next|.cont=>J (i+1) m H|.brk=>Q .next m H|.ret v=>Q (.ret v) m H
abbrev Fs(a:List NW)(J:Nat->b9->List O->Prop)(i:Nat)(Q:QF):b9->List O->Prop:=λm H=>WB w fi d m H a (lR J i Q)
abbrev Ft(a:Expr)(c:List NW)(Q:QF):V->List O->Prop:=λv b=>∃xs G,M3 w d b v xs G/\∃J:Nat->b9->List O->Prop,J 0 m b/\(∀i m H,J i m H->G H)/\(∀i x m H,xs[i]?=some x->J i m H->WA w fi d m H a x (Fs w fi d c J i Q))/\ ∀m H,J xs.length m H->Q .next m H
abbrev hE(Q:QV):Fl->b9->List O->Prop:=λf _ H=>match f with|.ret v=>Q v H|.next=>Q .none H|_=>False
end
section
variable{w:NQ}{fi:FI}{d:Nat}{m:b9}{H:List O}
theorem l0{l r:Expr}{b:Operator}{a:Pos}{Q:QV}(h:WE w fi d m H l (EX w fi d m b r Q)):WE w fi d m H (.BinOp l b r a) Q:=Dz h
theorem Fu{l r:Expr}{a:CmpOp}{b:Pos}{Q:QV}(h:WE w fi d m H l (tN w fi d m a r Q))(c:autoParam (behindInMarks a r=false) Attribute_Name_._auto_1):WE w fi d m H (.Compare l [a] [r] b) Q:=DA h c
theorem j6{l r:Expr}{a:CmpOp}{b:Pos}{Q:QB}(h:WE w fi d m H l (tN w fi d m a r (KT w d Q)))(c:autoParam (behindInMarks a r=false) Attribute_Name_._auto_1):WT w fi d m H (.Compare l [a] [r] b) Q:=DB h c
theorem I5{e:Expr}{Q:QB}(h:WE w fi d m H e (KT w d Q))(b:autoParam (∀env a,isTrue e env a=do let v<-a;dl e.pos;cZ [v] (truthy v)) FunClaim.holds_of_returning._auto_3):WT w fi d m H e Q:=DC h b
theorem ph{x:Expr}{a:Pos}{Q:QB}(h:WT w fi d m H x (KN Q)):WT w fi d m H (.UnaryOp .Not x a) Q:=DD h
theorem C3{x y:Expr}{r:List Expr}{a:Pos}{Q:QB}(h:WT w fi d m H x (lO w fi d m y r a Q)):WT w fi d m H (.BoolOp .And (x::y::r) a) Q:=DE h
theorem tR{x y:Expr}{r:List Expr}{a:Pos}{Q:QB}(h:WT w fi d m H x (pf w fi d m y r a Q)):WT w fi d m H (.BoolOp .Or (x::y::r) a) Q:=DG h
theorem ak5{c x y:Expr}{a:Pos}{Q:QV}(h:WT w fi d m H c (kg w fi d m x y Q)):WE w fi d m H (.IfExp c x y a) Q:=DH h
theorem B5{a:List Expr}{b:Pos}{Q:QV}(h:B2 w fi d m H a (KL Q))(c:autoParam (J7 a) NY._auto_1):WE w fi d m H (.List a b) Q:=DI h c
theorem w0{a:List Expr}{k:Nat}{b:Pos}{Q:QV}(h:B2 w fi d m H a (tO Q))(c:autoParam (J7 a) NY._auto_1):WE w fi d m H (.Tuple a k b) Q:=DJ h c
theorem b6{e:Expr}{a:List Expr}{Q:List V->List O->Prop}(h:WE w fi d m H e (EZ w fi d m a Q)):B2 w fi d m H (e::a) Q:=h
theorem q6{b:Expr}{a:List Expr}{c:Pos}{Q:QV}(h:WE w fi d m H b (Fb w fi d m a Q))(f:autoParam (J7 a) NY._auto_1)(e:autoParam (∀env,eval (.Call b a [] c) env=do dD c (<-eval b env) [] (dW c (eF a env)) (backToKw c (eW [] env))) NY._auto_1):WE w fi d m H (.Call b a [] c) Q:=Eu h f e
theorem o6{o:Expr}{name:Str}{b c:Pos}{a:List Expr}{pl:Env->Sem Bool}{Q:QV}(h:WE w fi d m H o (Fd w fi d m name a Q))(g:autoParam (J7 a) NY._auto_1)(e:autoParam (∀env,eval (.Call (.Attribute o name b) a [] c) env=do
  let ov<-eval o env
  dl b.atName let(f,first)<-cZ [ov] (getMethod ov name (pl env))
  dD c f first (dW c (eF a env)) []) NY._auto_1):WE w fi d m H (.Call (.Attribute o name b) a [] c) Q:=Ew h g e
theorem s5{b a:Expr}{c:Pos}{Q:QV}(h:WE w fi d m H b (Ff w fi d m a Q))(e:autoParam ((subscripted a true,subscripted a false)=(λo i=>runValue (.builtin "lifetime.subscript" ⟨[o,i],[]⟩),λo i=>operate [o,i] (getItem o i))) Attribute_Name_._auto_1):WE w fi d m H (.Subscript b a c) Q:=EF h e
theorem U5{o i:Expr}{a:Pos}{v:V}{Q:QN}(h:WE w fi d m H o (Fh w fi d m i v Q)):WA w fi d m H (.Subscript o i a) v Q:=DK h
theorem E9{o:Expr}{a:Str}{b:Pos}{v:V}{Q:QN}(h:WE w fi d m H o (Fi w d m a v Q)):WA w fi d m H (.Attribute o a b) v Q:=DL h
theorem R4{a:List Expr}{k:Nat}{b:Pos}{v:V}{Q:QN}(h:W1 w d e5 H (λu=>fX u a.length none) v (Fj w fi d m a Q))(c:autoParam (oA a) NY._auto_1):WA w fi d m H (.Tuple a k b) v Q:=DO h c
theorem k7{t a:Expr}{b:Pos}{Q:QF}(h:WE w fi d m H a (lP w fi d m t Q))(e:autoParam (∀env,swapsWithSole [t] a b.line env=pure false) NY._auto_1)(f:autoParam (∀env,bL [t] a env=pure none) NY._auto_1)(c:autoParam (∀env,dY [t] env=[(false,cO t env)]) NY._auto_1):WS w fi d m H (.Assign [t] a b) Q:=DP h e f c
theorem R5{t t' a:Expr}{b:Pos}{Q:QF}(h:WE w fi d m H a (Fm w fi d m t t' Q))(e:autoParam (∀env,bL [t,t'] a env=pure none) NY._auto_1)(c:autoParam (∀env,dY [t,t'] env=[(false,cO t env),(false,cO t' env)]) NY._auto_1):WS w fi d m H (.Assign [t,t'] a b) Q:=DQ h e c
theorem pi{x:Str}{p c:Pos}{e:Operator}{b:Expr}{a:V}{Q:QF}(f:N9 fi x)(g:r9 m x=some a)(h:WE w fi d m H b (Fo w d m e a x Q)):WS w fi d m H (.AugAssign (.Name x p) e b c) Q:=DT f g h
theorem o5{c:Expr}{x y:List NW}{a:Pos}{Q:QF}(h:WT w fi d m H c (pg w fi d m x y Q)):WS w fi d m H (.If c x y a) Q:=DU h
theorem J9{e:Expr}{a:Pos}{Q:QF}(h:WE w fi d m H e (Fp m Q)):WS w fi d m H (.Return (some e) a) Q:=DV h
theorem s4{e:Expr}{a:Pos}{Q:QF}(h:WE w fi d m H e (Fq m Q))(b:autoParam (∀env,swapsWith e none a.line env=pure false) NY._auto_1):WS w fi d m H (.Expr e a) Q:=DZ h b
theorem c9{a:NW}{rest:List NW}{Q:QF}(h:WS w fi d m H a (lQ w fi d rest Q)):WB w fi d m H (a::rest) Q:=D3 (by intro A b F k s g S;exact ar (h A b F k s g S) (λv l=>x9.el λc f i e a T j q=>⟨c,f,i,e,a,T,j,by cases e<;>exact q⟩) λ_ _ x=>x)
theorem be{a c:Expr}{b:List NW}{k:Pos}{Q:QF}(h:WE w fi d m H c (Ft w fi d m a b Q))(D:autoParam (∀env x,cJ c env x=pure x) FunClaim.holds_of_returning._auto_3):WS w fi d m H (.For a c b [] k) Q:=by refine Ec (h.mono λv H=>yj λL G B J p t y z=>Q3 L G B J p t (λi x m H E C=>?_) z) D;intro A env F n s u j S r;refine ar (y i x m H E C A env F n s u j S r) (λ_ K=>AQ.el λe f g l T q=>⟨e,f,g,l,T,?_⟩) λ_ _ x=>x;intro A env F n s j S;exact ar ((show WB w fi d g f b (lR J i Q)from q) A env F n s j S) (λv K=>x9.el λe f g o l T I q=>⟨e,f,g,o,l,T,I,by cases o<;>exact q⟩) λ_ _ x=>x
end
section
variable{w:NQ}{fi:FI}{d:Nat}{m:b9}{H:List O}{b:Bool}
theorem s6{x y:List NW}{Q:QF}(a:b=true)(h:WB w fi d m H x Q):pg w fi d m x y Q b H:=by subst a;exact h
theorem n5{x y:List NW}{Q:QF}(a:¬b=true)(h:WB w fi d m H y Q):pg w fi d m x y Q b H:=by rw[Bool.not_eq_true]at a;subst a;exact h
theorem aL3{x y:Expr}{Q:QV}(a:b=true)(h:WE w fi d m H x Q):kg w fi d m x y Q b H:=by subst a;exact h
theorem ay2{x y:Expr}{Q:QV}(a:¬b=true)(h:WE w fi d m H y Q):kg w fi d m x y Q b H:=by rw[Bool.not_eq_true]at a;subst a;exact h
theorem G8{y:Expr}{r:List Expr}{a:Pos}{Q:QB}(c:b=true)(h:WT w fi d m H (.BoolOp .And (y::r) a) Q):lO w fi d m y r a Q b H:=by subst c;exact h
theorem I6{y:Expr}{r:List Expr}{a:Pos}{Q:QB}(c:¬b=true)(h:Q false H):lO w fi d m y r a Q b H:=by rw[Bool.not_eq_true]at c;subst c;exact h
theorem tS{y:Expr}{r:List Expr}{a:Pos}{Q:QB}(c:b=true)(h:Q true H):pf w fi d m y r a Q b H:=by subst c;exact h
theorem tT{y:Expr}{r:List Expr}{a:Pos}{Q:QB}(c:¬b=true)(h:WT w fi d m H (.BoolOp .Or (y::r) a) Q):pf w fi d m y r a Q b H:=by rw[Bool.not_eq_true]at c;subst c;exact h
end
section
variable(w:NQ)(fi:FI)(d:Nat)
def tU(m:b9)(H:List O)(e:Expr)(Q:QV):Prop:=∀A env F ρ s,j0 A d (n6 env F)->d6 w fi env m F ρ H s.heap (gt s)->g8 (ay pP w) A (eval e env) (SQ w VR fi env m F ρ s Q) nE s
def tV(m:b9)(H:List O)(e:Expr)(Q:QB):Prop:=∀A env F ρ s,j0 A d (n6 env F)->d6 w fi env m F ρ H s.heap (gt s)->g8 (ay pP w) A (isTrue e env (eval e env)) (SQ w N8 fi env m F ρ s Q) nE s
def kh(m:b9)(H:List O)(a:NW)(Q:QF):Prop:=∀A env F ρ s,j0 A d (n6 env F)->d6 w fi env m F ρ H s.heap (gt s)->g8 (ay pP w) A (exec a env) (x9 w fi env F ρ s Q) nE s
def B6(m:b9)(H:List O)(a:List NW)(Q:QF):Prop:=∀A env F ρ s,j0 A d (n6 env F)->d6 w fi env m F ρ H s.heap (gt s)->g8 (ay pP w) A (execs a env) (x9 w fi env F ρ s Q) nE s
end
def ki(w:NQ)(d:Nat)(H:List O)(f:V)(xs:List V)(Q:QV):Prop:=∀A F ρ s u us,j0 A d F.fr->d9 w F ρ H s.heap (gt s)->VR ρ s.heap f u->e5 ρ s.heap xs us->g8 (ay pP w) A (call u us) (HQ w VR F ρ s Q) nE s
section
variable{w:NQ}{fi:FI}{d:Nat}{m:b9}{H:List O}
theorem pj{b:Type}{A:NT}{t:Sem b}{K K':b->NR->Prop}{a:NR}(h:g8 (ay pP w) A t K nE a)(c:∀v s',K v s'->K' v s'):g8 (ay pP w) A t K' nE a:=o0 h c λ_ _ x=>x
theorem lS(h:WT w fi d m H e Q):tV w fi d m H e Q:=λA a F c s b S=>up (h A a F c s b S)
theorem Fv{b:NW}{Q:QF}(h:WS w fi d m H b Q):kh w fi d m H b Q:=λA a F e s c S=>up (h A a F e s c S)
theorem kj{b:List NW}{Q:QF}(h:WB w fi d m H b Q):B6 w fi d m H b Q:=λA a F e s c S=>up (h A a F e s c S)
abbrev pk(w:NQ)(fi:FI)(d:Nat)(rest:List NW)(Q:QF):Fl->b9->List O->Prop:=λf m H=>match f with|.next=>B6 w fi d m H rest Q|f=>Q f m H
theorem R6(h:Q .next m H):B6 w fi d m H [] Q:=kj (e7 h)
theorem hM{p:NW}{rest:List NW}{Q:QF}(h:kh w fi d m H p (pk w fi d rest Q)):B6 w fi d m H (p::rest) Q:=λA g F y s o S=>by rw[execs_cons];refine k8 (o0 (h A g F y s o S) (λf j t=>?_) λ_ _ x=>x);obtain⟨e,a,l,q,c,k,i,b⟩:=t;cases q with|next=>subst i;exact pj ((show B6 w fi d l a rest Q from b) A g F e j o k) λ_ _ x=>x.step c|brk=>subst i;exact q7 ⟨e,a,l,.brk,c,k,rfl,b⟩|cont=>subst i;exact q7 ⟨e,a,l,.cont,c,k,rfl,b⟩|ret v=>(refine a9 i λu n r=>?_;try clear i;subst n);exact q7 ⟨e,a,l,.ret v,c,k,b7 u rfl r,b⟩
theorem R7{a:NW}{rest:List NW}{Q:QF}(h:WS w fi d m H a (pk w fi d rest Q)):B6 w fi d m H (a::rest) Q:=hM (Fv h)
theorem Fw(k:N9 fi x)(h:tU w fi d m H value λv H=>Q .next (u9 m x v) H)(l:autoParam (∀env,swapsWith value (some (.Name x py)) pos.line env=pure false) NY._auto_1):kh w fi d m H (.Assign [.Name x py] value pos) Q:=λA env F n s j S=>by rw[exec_Assign_Name env x py value pos (l env)];refine k8 (J4 (k8 (o0 (h A env F n s j S) (λu g c=>?_) λ_ _ x=>x)));obtain⟨f,a,v,e,i,r,b⟩:=c;refine k8 (J4 (k8 (up (wpAny_bindName (ar (lG i r k) (λ_ o c=>?_) λ_ _ x=>x)))));exact q7 ⟨f,a,_,.next,e.trans c.1,c.2,rfl,b⟩
theorem lT{c:Expr}{x y:List NW}{n:Pos}{Q:QF}(h:tV w fi d m H c λb H=>if b=true then B6 w fi d m H x Q else B6 w fi d m H y Q):kh w fi d m H (.If c x y n) Q:=λA i F r s l S=>by
  rw[exec_If];refine k8 (J4 (k8 (o0 (h A i F r s l S) (λb g p=>?_) λ_ _ x=>x)));obtain⟨k,e,a,j,o,q,f⟩:=p;subst q;cases b;·exact pj ((show B6 w fi d m e y Q from f) A i F k g l o) λ_ _ x=>x.step j
  ·exact pj ((show B6 w fi d m e x Q from f) A i F k g l o) λ_ _ x=>x.step j
end
section
variable{M:Model}{A:NT}{s:NR}
theorem Fx(j:c.quiet=true)(I:Nat->NR->Prop)(b:∀n s,I n s->g8 M (A.under c) (M.den c) (λa s'=>match a with|.done f=>R (.ok f) s'|.again c'=>(c'=c/\∃m,m<n/\I m s')\/ c'.quiet=true/\J3 M A c' R s') (λe s'=>R (.error e) s') s)(n:Nat)(h:I n s):J3 M A c R s:=by induction n using Nat.strongRecOn generalizing s with|ind n k=>refine iM (o0 (b n s h) (λa s' d=>?_) λ_ _ x=>x);cases a with|done f=>exact d|again c'=>
   rcases d with⟨rfl,m,i,g⟩|d;·exact⟨j,k m i g⟩
   ·exact d
theorem tW(h:J3 M A c R s)(k:∀r s,R r s->R' r s):J3 M A c R' s:=λp g e i d=>h p g e i λr a b f q=>d r a b f (k r a q)
end
section
variable{w:NQ}{A:NT}
theorem Fy{a e b env}(I:Nat->NR->Prop)(g:∀n s,I n s->g8 (ay pP w) A (dL e) (λr s₁=>match r with|none=>R (.ok .next) s₁|some v=>g8 (ay pP w) A (fK a e v) (λ_ s₀=>g8 (ay pP w) A (cO a env v) (λ_ p=>g8 (ay pP w) A (execs b env) (λf j=>match f with|.next|.cont=>∃m,m<n/\I m j|.brk=>R (.ok .next) j|.ret v=>R (.ok (.ret v)) j) (λ_ _=>False) p) (λ_ _=>False) s₀) (λ_ _=>False) s₁) (λ_ _=>False) s)(n:Nat)(h:I n s):J3 (ay pP w) A (.forLoop a e b [] env) R s:=by refine Fx rfl I (λn s u=>?_) n h;show g8 _ _ ((forTurn a e b [] env).onRaise λx=>do noteFrame x env;theTreesLotGoes x) _ _ s;refine gp (o0 (Q:=λl o=>match l with|.done f=>R (.ok f) o|.again k=>(k=.forLoop a e b [] env/\∃m,m<n/\I m o)\/ k.quiet=true/\J3 (ay pP w) A k R o) (E:=λ_ _=>False) ?_ (λ_ _ x=>x) λ_ _ x=>x.elim);dsimp only[forTurn];refine k8 (J4 (k8 (gp (o0 (g n s u) (λr s₁ c=>?_) λ_ _ x=>x.elim))));cases r with|none=>exact q7 (.inr ⟨rfl,iM (by show g8 _ _ (do return Fin.done (<-(execs [] env).onRaise λx=>do noteFrame x env;theTreesLotGoes x)) _ _ s₁;exact k8 (gp (up (wpAny_execs_nil (q7 c)))))⟩)|some v=>refine k8 (o0 c (λ_ s₀ q=>?_) λ_ _ d=>d.elim);refine k8 (o0 q (λ_ p t=>k8 (o0 t (λf j i=>?_) λ_ _ d=>d.elim)) λ_ _ d=>d.elim);cases f with|next=>exact q7 (.inl ⟨rfl,i⟩)|cont=>exact q7 (.inl ⟨rfl,i⟩)|brk=>exact q7 i|ret v=>exact q7 i
end
section
variable{w:NQ}{fi:FI}{d:Nat}{m:b9}{H:List O}
abbrev Fz(w:NQ)(fi:FI)(d:Nat)(a:List NW)(J:Nat->b9->List O->Prop)(i:Nat)(Q:QF):b9->List O->Prop:=λm H=>B6 w fi d m H a (lR J i Q)
abbrev tX(w:NQ)(fi:FI)(d:Nat)(m:b9)(a:Expr)(c:List NW)(Q:QF):V->List O->Prop:=λv b=>∃xs G,M3 w d b v xs G/\∃J:Nat->b9->List O->Prop,J 0 m b/\(∀i m H,J i m H->G H)/\(∀i x m H,xs[i]?=some x->J i m H->WA w fi d m H a x (Fz w fi d c J i Q))/\ ∀m H,J xs.length m H->Q .next m H
theorem FA(h:WE w fi d m H iter (tX w fi d m target body Q))(hs:autoParam (∀env x,cJ iter env x=pure x) FunClaim.holds_of_returning._auto_3):kh w fi d m H (.For target iter body [] pos) Q:=λA env F ρ s P S=>by
  rw[exec_For];refine k8 (J4 (k8 (o0 (up (h A env F ρ s P S)) (λu a6 a=>?_) λ_ _ x=>x)));refine SQ.el (λt y v c1 S1 r a3=>?_) a;refine t8 a3 λL G hI a2=>?_;refine Z0 a2 λJ b2 Y hT hD=>?_;clear a2 a3 a h;rw[hs env u];refine k8 (q7 (k8 (J4 (k8 (U2 (o0 (up (hI A _ t a6 u P S1.toH r)) (λit s2 a=>?_) λ_ _ x=>x.elim))))));refine iF a λI fp St Md e T b3 hk hg ho hf=>?_;try clear a
  subst e;have S2:d6 w fi env m F t y s2.heap (gt s2):=(S1.keeps hk).gte hg.1 hg.2;have a1:=S1.fresh hf;have c2:e8 ρ s t s2:=c1.trans (.same (.of_keep hk) ho (by exact hg.1▸ae _));refine gp (o0 (Q:=x9 w fi env F ρ s Q) (E:=λ_ _=>False) ?_ (λ_ _ x=>x) λ_ _ x=>x.elim);refine sS (h:=none) (tW (R:=λr s'=>match r with|.ok f=>x9 w fi env F ρ s Q f s'|.error e=>False) ?_ λr s' a=>?_) λq=>by injection q
  · refine Fy (λk O=>∃i b m3 N,e8 ρ s b O/\d6 w fi env m3 F b N O.heap (gt O)/\St i b O.heap/\y4 fi env F b fp/\J i m3 N/\i<=L.length/\k=L.length+1-i) ?_ (L.length+1) (Z9 0 t m y c2 S2 b3 a1 b2 (bq _) rfl);intro k O;refine rk λi b m3 N a4 S3 z c hJ hi b5=>?_;subst b5;by_cases hlt:i<L.length
    · refine o0 (up (T.item _ _ b N O i L[i] (λ_ _=>False) P.hd S3.toH (Y _ _ _ hJ) z (aw hlt))) (λr K a=>?_) λ_ _ x=>x;refine Z0 a λv e rv Z X=>?_;try clear a
      subst e;have S4:=S3.chg c X;refine o0 (up (T.lot _ (i+1) b K target v (λ_ _=>False) Z trivial)) (λ_ o a=>?_) λ_ _ x=>x;refine d7 a λB c5=>?_;try clear a
      have S5:=S4.chg c c5;have c3:=(a4.trans X.step).trans c5.step;have hl:=T.live _ _ _ B;refine o0 (up (hT i _ m3 N (aw hlt) hJ _ env (F8 F o.heap _) b o v P (S5.rebase c) (rv.mono (aA _) c5.2.2.1))) (λ_ b0 a=>?_) λ_ _ x=>x;obtain⟨c6,H6,a0,l,V,h6⟩:=a;have a5:=c3.trans l;refine o0 ((show B6 w fi d a0 H6 body (lR J i Q)from h6) _ env (F8 F o.heap _) c6 b0 P V) (λf b1 a=>?_) λ_ _ x=>x;obtain⟨p,H7,g,fl,n,W,rf,h7⟩:=a;refine n8 (S5.unbase c hl (l.trans n).1 (l.trans n).2.2.2 W) λU D kU=>?_;have j:=a5.trans n;have C:St (i+1) p b1.heap:=T.frame _ _ _ _ _ B (l.trans n).1 (l.trans n).2.1 kU;cases fl with|next=>subst rf;exact⟨L.length+1-(i+1),by exact iI hlt,i+1,p,g,H7,j,U,C,D,h7,hlt,rfl⟩|cont=>subst rf;exact⟨L.length+1-(i+1),by exact iI hlt,i+1,p,g,H7,j,U,C,D,h7,hlt,rfl⟩|brk=>subst rf;exact⟨p,H7,g,.next,j,U,rfl,h7⟩|ret v=>(refine a9 rf λu c0 r=>?_;try clear rf;subst c0);exact⟨p,H7,g,.ret v,j,U,b7 u rfl r,h7⟩
    · have b4:i=L.length:=Nat.le_antisymm hi (bf hlt);subst b4;refine o0 (up (T.done _ _ b N O (λ_ _=>False) P.hd S3.toH (Y _ _ _ hJ) z)) (λr K a=>?_) λ_ _ x=>x;refine d7 a λe X=>?_;try clear a
      subst e;exact⟨b,N,m3,.next,a4.trans X.step,S3.chg c X,rfl,hD _ _ hJ⟩
  ·cases r with|ok f=>exact q7 (M:=ay pP w) a|error e=>exact a.elim
end
section
set_option backward.match.sparseCases true
section
variable{w:NQ}{A:NT}{s:NR}{R:cz->NR->Prop}
theorem tY(h:g8 (ay pP w) (A.deeper env) (execs body env) (λf s'=>R (.ok (.ret (match f with|.ret v=>v|_=>.none))) s') (λ_ _=>False) s):J3 (ay pP w) A (.func body env) R s:=by refine iM ?_;show g8 _ (A.deeper env) (do point;match<-(execs body env).onRaise (leaving env)with|.ret v=>ret v|_=>ret .none) _ _ s;refine k8 (up (wpAny_point (k8 (gp (o0 h (λf s' a=>?_) λ_ _ x=>x.elim)))));cases f<;>exact q7 a
theorem tZ{E:VP}(f:A.depth<fW)(u:s.heap.get? a=some o)(l:o.data=.func fd)(k:fd.scope.isCoroutine=false)(i:fd.scope.isGenerator=false)(d:fd.body=.stmts body)(g:s.heap.CodeRec fd.code fd.qualname)(h:aJ (ay pP w) A.in1 (bindArgs fd args) (λb s₁=>aJ (ay pP w) A.in1 (newFunctionEnv fd.scope fd.globals fd.closure b (fd.qualname++".<locals>.") (some a) fd.code none fd.builtins) (λenv q=>q.heap.NoLimit/\J3 (ay pP w) A (.func body env) R q) (λe s'=>R (.error e) s') s₁) (λe s'=>R (.error e) s') s):J3 (ay pP w) A (.call (.ref a) args) R s:=by
 refine iM (up ?_);show aJ _ A.in1 (callAny (.ref a) args) _ _ s;dsimp only[callAny];refine ac (wpAny_load u ?_);refine kZ g λc y B z t p n v=>?_;try clear g
 rw[l];dsimp only[callFunction];rw[k,i,d,t];dsimp only;rw[t]at h;refine ac (m:=field (.ref c) 1) (cc p n v (ac (aq ?_)));refine ac (ar h (λb s₁ j=>ac (ar j (λenv q r=>?_) λ_ _ x=>x)) λ_ _ x=>x);exact ac (wpAny_enterFrame r.1 f (aq ⟨rfl,r.2⟩))
theorem kl(h:J3 (ay pP w) A c (λr s'=>match r with|.ok (.ret v)=>Q v s'|.ok _=>False|.error e=>E e s') s):g8 (ay pP w) A (runValue c) Q E s:=by
 unfold runValue;refine k8 ?_;unfold run;refine sS (h:=none) (tW h λr s' a=>?_) λq=>by injection q
 cases r with|error e=>exact lx a|ok f=>cases f with|ret v=>exact q7 (M:=ay pP w) (q7 a)|_=>exact a.elim
end
section
variable{w:NQ}{d:Nat}{H:List O}{a:Nat}{o:Obj}{fd:FuncData}{body:List NW}{sc:Scope}{ps:List Str}{xs:List V}
theorem FB(K:z6 (KW w) a o fd body sc ps)(g:sc.isGenerator=false)(e:xs.length=ps.length)(h:B6 w ⟨sc,true,fd.code⟩ d (u7 sc ps xs) H body (hE Q)):ki w (d+1) H (.st a) xs Q:=λA F W s u J I S V r=>by
  have y:=K.hsc;subst y;subst V;refine d7 (jV K.toFnB S.b) λP t=>?_;have i:J.length=ps.length:=r.len.trans e;refine kl (tZ (E:=λ_ _=>False) I.depth P K.hd K.hco g K.hb t ?_);rw[K.hbd J i,K.hcl];refine aq (bZ (ae _) (du K.hk (λx U=>?_) λL O l X T=>?_))
  · have z:x.1∈ps:=by rw[<-iU i];exact bp.mpr (b7 x U rfl)
    rcases K.hkd x.1 z with q|q;·exact .inl q
    · refine b8 (iW (n:=s.heap.objs.size+1) (mem_of_lookup q)) λc N=>?_;exact .inr ⟨q,by rw[O1 (iV K.hnd) N];rfl⟩
  ·subst O;refine d7 (jU K.toFnB e S r X T) λj D=>?_;refine⟨D.b.lim,tY ?_⟩;refine o0 (h _ _ F W l (I.deeper rfl) D) (λf Z R=>?_) λ_ _ x=>x.elim;obtain⟨m,b,Y,M,k,G,C,p⟩:=R;cases M with|next=>subst C;exact⟨m,b,.none,j.trans k,G.hs,rfl,p⟩|ret v=>(refine a9 C λu B r=>?_;try clear C;subst B);exact⟨m,b,v,j.trans k,G.hs,r,p⟩|brk=>exact p.elim|cont=>exact p.elim
end
end
section
variable{w:NQ}{A:NT}{s:NR}{R:cz->NR->Prop}{E:VP}
theorem FC{id:String}{a:Args}{b:bu}(c:entryFor table id=some b)(h:g8 (ay pP w) (A.under (.builtin id a)) (b a) (lz (ay pP w) A R) (λe s'=>R (.error e) s') s):J3 (ay pP w) A (.builtin id a) R s:=by refine iM ?_;show g8 _ _ (match entryFor table id with|some b=>b a|none=>unsupported ((withoutEnding? id "#data").getD id)) _ _ s;rw[c];exact h
theorem pn{id:String}{a:Args}{b:bu}(d:plainId id=true)(f:entryFor table id=some b)(h:aJ (ay pP w) A.in1 (checkBuiltinCall id a) (λ_ s₁=>g8 (ay pP w) A.in1 (b a) (lz (ay pP w) A R) (λe s'=>R (.error e) s') s₁) (λe s'=>R (.error e) s') s):J3 (ay pP w) A (.call (.builtin id) a) R s:=by refine iM ?_;show g8 _ A.in1 (do checkBuiltinCall id a;again (.builtin id a)) _ _ s;refine k8 (up (ar h (λ_ s₁ c=>?_) λ_ _ x=>x));exact q7 (M:=ay pP w) ⟨plainId_quiet d a,FC f (by rw[dE d a];exact c)⟩
theorem t9{a:Type}{b:Prop}[Decidable b]{x y:Sem a}{Q:a->NR->Prop}(c:¬b)(h:g8 (ay pP w) A y Q E s):g8 (ay pP w) A (if b then x else y) Q E s:=by rw[if_neg c];exact h
theorem FD{a:Type}{b:Prop}[Decidable b]{x y:Sem a}{Q:a->NR->Prop}(c:b)(h:g8 (ay pP w) A x Q E s):g8 (ay pP w) A (if b then x else y) Q E s:=by rw[if_pos c];exact h
end
theorem s9.not_imm{a g k}(x:s9 h a g k):∀o,h.get? a=some o->¬H9 o:=λo b=>by
 refine P9 x λo2 f qn c d e _=>?_;try clear x
 injection c.symm.trans b with b;subst b;rintro(⟨⟨xs,n,q⟩,_⟩|⟨q,_⟩);·injection e.symm.trans q
 ·rw[d]at q;exact absurd q (by decide)
theorem FE:Slot "generator" "close" "generator.close":=.of (owner:="generator") (n:="close") (by rw[bd,aO];kernel_rfl) (by decide+kernel) (by decide+kernel) (by decide+kernel) (by first|exact .inl (by decide+kernel)|exact .inr (by decide+kernel)) (by rw[cp];kernel_rfl)
section
variable{M:Model}{A:NT}{E:VP}{s:NR}
theorem ua(d:s9 s.heap a g 0)(h:Q g s):aJ M A (bu.Generator.genNumber (.ref a)) Q E s:=by
 refine P9 d λo f qn e _ c b=>?_;try clear d
 refine ac (wpAny_load e ?_);rcases b with⟨b,_⟩|b;·rw[b,c];show aJ M A (pure ((g:Int).toNat)) Q E s;rw[cq];exact aq h
 ·rw[b,c];show aJ M A (pure ((g:Int).toNat)) Q E s;rw[cq];exact aq h
theorem ub(m:s9 s.heap a g k)(h:∀h',(∀b o,b≠a->s.heap.get? b=some o->h'.get? b=some o)->s9 h' a g (if more then k+1 else k-1)->Q () {s with heap:=h'}):aJ M A (bu.Generator.sleptOver (.ref a) more) Q E s:=by
 refine P9 m λo t qn i j l c=>?_;try clear m
 unfold bu.Generator.sleptOver;refine ac (wpAny_load i ?_);have f:(o.cls !=.type "generator")=false:=by rw[j];decide
 rw[f];have d:∀n:Int,n=k->aJ M A (setSlotAt a 0 (some (rawInt (if more then n+1 else n-1)))) Q E s:=λn r=>by
  subst r;unfold setSlotAt;dsimp only;refine NX (decide_eq_false (show¬0>=aF by decide)) ?_;refine wpAny_updatePart i (h _ (λb u p e=>(bR _ _ (bg p)).trans e) ?_);refine N3 _ t qn (cb _ i ?_) j l (.inr ?_);·rw[l];rfl
  · rcases c with⟨c,_⟩|c;·show(o.slots++_).setIfInBounds 0 _=_;rw[c];rfl
    ·show(o.slots++_).setIfInBounds 0 _=_;rw[c];rfl
 rcases c with⟨c,q⟩|c;·rw[c];exact d 0 q.symm
 ·rw[c];exact d k rfl
end
section
variable{α:Type}{M:Model}{A:NT}{Y:YP}{R:cz->NR->Prop}{E:VP}{s:NR}
theorem FF(m:s.gens[g]?=some gs)(e:iN M A Y R gs (s.setGen g .running))(w:∀v a s₁,Y v a s₁->g8 M A (k (.yielded v)) Q E (s₁.setGen g a))(u:∀r s₁,R r s₁->g8 M A (k (End.ret r).result) Q E (s₁.setGen g .finished)):g8 M A (.resume g (.send .none) l k) Q E s:=by intro c p f b K H i d j o n;cases gs with|fresh c'=>refine r8 (step_resume_fresh M s c p f (d l) _ m) ?_;exact e p f g (λx=>(k x).wrap K H i d) (d l) c p j b (λv a h t=>w v a h t c p f b K H i d j o n) λr h q=>u r h q c p f b K H i d j o n|suspended y z C B fs D=>refine r8 (step_resume_suspended M s c p f (.send .none) (d l) _ m) ?_;exact e B f g (λx=>(k x).wrap K H i d) (d l) c p j b (λv a h t=>w v a h t c p f b K H i d j o n) λr h q=>u r h q c p f b K H i d j o n|running=>exact e.elim|finished=>exact e.elim
end
def hN(h:NV)(a:Addr):Prop:=∃o b,h.get? a=some o/\o.cls=.type "StopIteration"/\o.data=.fields b/\b[5]?=some .none
section
variable{w:NQ}{A:NT}{Y:YP}{R:cz->NR->Prop}{s:NR}
theorem ay5(h:∀h' e,u0 s.heap h'->hN h' e->Q (.ref e) {s with heap:=h'}):aJ (ay pP w) A (newExc (.type "StopIteration") []) Q E s:=by refine ac (bP ?_ (by size_fits));refine ac (m:=ft _ _) (bM (a:=NS.none) (by first|rfl| rfl) ?_);refine bP ?_ (by size_fits);exact h _ _ (λb o c=>aD _ (aD _ c)) (V9 _ _ (aT _ rfl) rfl rfl rfl)
end
structure ja(fs:List Frame):Prop where
 sp:splitAtGen fs=none
 gd:fs.any Frame.guarded=false
theorem ja.nil:ja []:=⟨rfl,rfl⟩
theorem ja.ret(h:ja fs){k l c p kp}:ja (.ret k none false l c p kp::fs):=⟨by have:=h.sp;dsimp only[splitAtGen];rw[this];rfl,by rw[List.any_cons,h.gd];rfl⟩
section
variable{M:Model}{A:NT}{Y:YP}{R:cz->NR->Prop}{c:Code}{fs:List Frame}{s:NR}
theorem M4{d f:Type}{x:Sem d}{k:d->Sem f}{K:f->Sem Fin}{b:NS->Sem Fin}{gd lv}(h:g8 M (A.over c fs) x (λa s'=>q8 M A Y R c ((k a).wrap K b gd lv) fs s') (λe s'=>q8 M A Y R c (b e) fs s') s):q8 M A Y R c ((x>>=k).wrap K b gd lv) fs s:=by rw[Sem.bind_eq_wrap',Sem.wrap_wrap];exact Q4 h
end
theorem uc{A:NT}{c c':Code}{fs:List Frame}{k:cz->Sem Fin}{g l p kp}:(A.over c' (.ret k none g l c p kp::fs)).handled=(A.over c fs).handled/\(A.over c' (.ret k none g l c p kp::fs)).depth=(A.over c fs).depth+c'.weight/\(A.over c' (.ret k none g l c p kp::fs)).units=(A.over c fs).units+c'.cUnits:=by
 refine i9 rfl ?_ ?_;·show A.depth+frameCount ((c,p)::fs.map Frame.where_)+c'.weight=A.depth+frameCount (fs.map Frame.where_)+c.weight+c'.weight;rw[frameCount_cons];exact zb
 ·have:unitsOf ((c,p)::fs.map Frame.where_)=c.cUnits+unitsOf (fs.map Frame.where_):=rfl;exact zc this
theorem FG(a b:List Env)(x:Option (List Env)):pushEnvs (a++b) x=pushEnvs a (pushEnvs b x):=by rw[pushEnvs_eq,pushEnvs_eq,pushEnvs_eq];cases x with|none=>rfl|some l=>show some (a++b++l)=some (a++(b++l));rw[bz]
theorem ud{A:NT}{c c':Code}{fs:List Frame}{k:cz->Sem Fin}{g l p kp}:(A.over c' (.ret k none g l c p kp::fs)).frames=pushEnvs c'.envs (A.over c fs).frames:=by show pushEnvs c'.envs (pushEnvs (envsOf ((c,p)::fs.map Frame.where_)) A.frames)=pushEnvs c'.envs (pushEnvs c.envs (pushEnvs (envsOf (fs.map Frame.where_)) A.frames));rw[envsOf_cons,FG]
theorem j0.ret{A:NT}{c c':Code}{fs:List Frame}{k:cz->Sem Fin}{g l p kp}{d:Nat}(h:j0 (A.over c fs) d lf)(a:c'.weight=0)(i:c'.cUnits=0):j0 (A.over c' (.ret k none g l c p kp::fs)) d lf:=by
 refine n8 (uc (A:=A) (c:=c) (c':=c') (fs:=fs) (k:=k) (g:=g) (l:=l) (p:=p) (kp:=kp)) λb e f=>?_;refine⟨by exact ud▸Code.envs_of_weight a▸h.fr,b.trans h.hd,?_,?_⟩;·exact e▸a▸h.dp
 ·exact f▸i▸h.un
theorem jb{ρ ρ':List c8}(q:ρ.map (·.a)=ρ'.map (·.a)){i:Nat}{e:c8}(h:ρ[i]?=some e):∃b,ρ'[i]?=some b/\b.a=e.a:=by
 have:(ρ'.map (·.a))[i]?=some e.a:=by rw[<-q,aV,h];rfl
 rw[aV]at this;cases h':ρ'[i]? with|none=>rw[h']at this;injection this|some b=>rw[h']at this;exact b7 b rfl (bV this)
theorem VR.ents{ρ ρ':List c8}{h:NV}(q:ρ.map (·.a)=ρ'.map (·.a)){x:V}:∀{v:NS},VR ρ h x v->VR ρ' h x v:=V.rec (motive_1:=λx=>∀{v},VR ρ h x v->VR ρ' h x v) (motive_2:=λi=>∀{c},e5 ρ h i c->e5 ρ' h i c) (λr=>r) (λ_ _ r=>r) (λ_ _ r=>r) (λ_ _ r=>r) (λ_ _ r=>r) (λ_ _ _ r=>r) (λ_ _ r=>r) (λ_ _ r=>r) (λ_ _ r=>r) (λ_ _ r=>a9 r λ_ m z=>a9 (jb q m) λj k l=>b7 j k (l▸z)) (λ_ _ _ r=>r) (λ_ d _ r=>i8 r λa c z y w=>A9 a c z y (d w)) (λ_ _ d _ r=>i8 r λa c z y w=>A9 a c z y (d w)) (λr=>r) (λ_ _ f g _ r=>i8 r λv q e a b=>A9 v q e (f a) (g b)) x
theorem e5.ents(q:ρ.map (·.a)=ρ'.map (·.a)){b:List NS}(r:e5 ρ h xs b):e5 ρ' h xs b:=e5.ind (P:=e5 ρ' h) .nil (λa _ c=>.cons (VR.ents q a) c) r
theorem K8.ents(q:ρ.map (·.a)=ρ'.map (·.a)):∀{x:Option V}{v:Option NS},K8 ρ h x v->K8 ρ' h x v|none,_,_=>trivial|some _,some _,r=>VR.ents q r|some _,none,r=>r.elim
theorem I0.ents{fi:FI}{env:Env}{m:b9}(f:I0 fi env m ρ h)(q:ρ.map (·.a)=ρ'.map (·.a)):I0 fi env m ρ' h:=⟨f.es,f.eg,f.eb,f.ec,f.ek,f.ef,a9 f.ns λg a b=>b7 g a λx e=>(b x e).ents q,λx c d=>a9 (f.cl x c d) λi a b=>b7 i a (b.ents q),f.ce,f.cn,f.cu,f.cd⟩
theorem OR.ents{F:i5}{ρ ρ':List c8}{h:NV}{e:c8}{o:O}(x:OR F ρ h e o)(q:ρ.map (·.a)=ρ'.map (·.a)):OR F ρ' h e o:=by
 cases o with|list xs=>(refine w6 x λa b v l r=>?_;try clear x);exact fY a b v l (r.ents q) |arr xs=>(refine m6 x λa b B f=>?_;try clear x;obtain⟨v,l,r⟩:=B);exact j8 a b (b7 v l (r.ents q)) f |inst C fs=>
  refine nI x λa E b o K d c j s t J=>?_;try clear x
  refine lm a E b o K d c j s t λn=>?_;have:=J n;split at this;·(refine a9 this λu d c=>?_;try clear this);exact b7 u d (c.ents q)
  ·exact this|tbl P ps=>exact x|fresh fi D m=>(refine nF x λg p d c j s w t=>?_;try clear x);exact nN g p d c j s w (t.ents q) |gone=>exact x|done=>exact x|slp a fi m rest k y n=>(refine jK x λH g p d c j s w t=>?_;try clear x);exact rB H g p d c j s w (t.ents q) |tit I xs i=>(refine nD x λz a b r v d c j=>?_;try clear x);exact rz z a b r v d c (j.ents q) |lit I l i=>
  refine Z5 x λz a b L A d=>?_;try clear x
  refine a9 (jb q A) λG c j=>?_;exact Z7 z a b G c (by exact j▸d) |rit I lo n=>exact x|prd R=>(refine m6 x λa b d c=>?_;try clear x);exact j8 a b (c.ents q d) c |clk n=>exact x
theorem lU{ρ:List c8}{i:Nat}{e f:c8}(h:ρ[i]?=some e)(b:f.a=e.a):(ρ.set i f).map (·.a)=ρ.map (·.a):=by
 refine List.ext_getElem? λj=>?_;rw[aV,aV];by_cases q:i=j;·subst q;exact au (ab.mp h).1▸h▸congrArg some b
 ·rw[ag q]
theorem ue{ρ:List c8}{i:Nat}{e f:c8}(h:ρ[i]?=some e)(a:f.g=e.g):(ρ.set i f).filterMap (·.g)=ρ.filterMap (·.g):=by induction ρ generalizing i with|nil=>injection h|cons x ρ b=>cases i with|zero=>injection h with h;subst h;simp[cS,a]|succ i=>simp only[List.set_cons_succ,cS,b (i:=i) h]
theorem uf(h:ρ[i]?=some f)(a:f.fp=[]):(l7 (ρ.set i e)).Perm (e.fp++l7 ρ):=by induction ρ generalizing i with|nil=>injection h|cons x ρ b=>cases i with|zero=>cases h;show(e.fp++l7 ρ).Perm (e.fp++(f.fp++l7 ρ));exact a▸.refl _|succ i=>show(x.fp++l7 (ρ.set i e)).Perm (e.fp++(x.fp++l7 ρ));refine((b (i:=i) h).append_left x.fp).trans ?_;rw[<-bz,<-bz];exact List.perm_append_comm.append_right _
theorem ug(a:f.fp=[]):(l7 (ρ.set i f)).Sublist (l7 ρ):=by induction ρ generalizing i with|nil=>exact .slnil|cons x ρ b=>cases i with|zero=>show(f.fp++l7 ρ).Sublist (x.fp++l7 ρ);exact a▸List.sublist_append_right _ _|succ i=>exact(List.Sublist.refl x.fp).append b
theorem uh(m:(l7 ρ).Nodup)(h:ρ[i]?=some e)(k:f.fp=[])(g:b∈e.fp):b∉l7 (ρ.set i f):=λq=>by
 refine a9 (List.mem_flatMap.mp q) λx l a=>?_;obtain⟨j,d,rfl⟩:=List.mem_iff_getElem.mp l;have c:=aw d;by_cases z:i=j;·subst z;have:(ρ.set i f)[i]'d=f:=List.getElem_set_self d;rw[this,k]at a;exact absurd a List.not_mem_nil
 ·rw[ag z]at c;exact lC m h c z g a
theorem ui{ρ:List c8}(h:((ρ.filterMap (·.g)).map (·.1)).Nodup){i j:Nat}{e f:c8}(a:ρ[i]?=some e)(c:ρ[j]?=some f)(b:i≠j){x y:Nat×Env}(m:e.g=some x)(hy:f.g=some y):x.1≠y.1:=by induction ρ generalizing i j with|nil=>injection a|cons z ρ r=>
  have d:∀{k:Nat}{u:c8}{v:Nat×Env},ρ[k]?=some u->u.g=some v->v.1∈(ρ.filterMap (·.g)).map (·.1):=λo p=>bp.mpr (b7 _ (List.mem_filterMap.mpr (b7 _ (aY o) p)) rfl);have l:((ρ.filterMap (·.g)).map (·.1)).Nodup:=by cases hz:z.g with|none=>simpa[cS,hz]using h|some w=>exact(ck.mp (by simpa[cS,hz]using h)).2
  have n:∀w,z.g=some w->w.1∉(ρ.filterMap (·.g)).map (·.1):=λw hz=>(ck.mp (by simpa only[cS,hz,bN]using h)).1;cases i with
  |zero=>injection a with a;subst a;cases j with|zero=>exact absurd rfl b|succ j=>exactλq=>n x m (q▸d c hy)
  |succ i=>cases j with|zero=>injection c with c;subst c;exactλq=>n y hy (q▸d a m)|succ j=>exact r l (i:=i) (j:=j) a c λq=>b (congrArg Nat.succ q)
section
variable{w:NQ}{F:i5}{ρ:List c8}{H:List O}{h:NV}{gs:GT}{i:Nat}{e:c8}{fi:FI}{body:List NW}{m:b9}
theorem d9.back(T:d9 w F ρ H h gs){x:Nat×Env}(g:ρ[i]?=some ⟨e.a,[],some x⟩)(t:e.g=some x)(u:e.fp.Nodup)(D:e.a∈e.fp)(s:∀b∈e.fp,b∉l7 ρ/\F.f b=none/\∃o,h.get? b=some o):d9 w F (ρ.set i e) H h gs:=by
 have z:=uf (e:=e) g rfl;have B:=lU (f:=e) g rfl;have A:∀o,H[i]?=some o->o=.gone:=λo p=>by have y:=T.ob i _ o g p;cases o with|list xs=>cases y.1|arr xs=>cases y.2.1|inst C fs=>cases y.1|tbl P ps=>cases y.2.2.1|fresh fi body m=>(refine i8 y λ_ _ _ q _=>?_;try clear y);injection q|gone=>rfl|done=>(refine F6 y λ_ _ _ _ q _=>?_;try clear y);injection q|slp a fi m rest k w n=>(refine fg y λ_ _ _ _ q _=>?_;try clear y);injection q|tit I xs i=>cases y.2.1|lit I l i=>cases y.2.1|rit I lo n=>cases y.2.1|prd R=>cases y.1|clk n=>cases y.1
 refine⟨T.bs,T.keep,by exact ax.trans T.len,λj f o d p=>?_,λb r=>?_,z.nodup_iff.mpr (dF.mpr (i9 u T.nd λb r c E q=>(s b r).1 (q▸E))),λb r=>?_,by exact ue (f:=e) g t▸T.gn,T.bare.ents λj f d=>by
  by_cases q:i=j;·subst q;injection g.symm.trans d with d;subst d;exact b7 e (au (ab.mp g).1) t
  ·exact b7 f (by exact(ag q).trans d) rfl,λj f o d p=>?_,T.fo,T.tp⟩
 · by_cases q:i=j;·subst q;injection (au (ab.mp g).1).symm.trans d with d;subst d;exact A o p▸.inl D
   ·rw[ag q]at d;exact(T.ob j f o d p).ents B.symm
 · rcases aX.mp (z.mem_iff.mp r)with q|q;·exact(s b q).2.2
   ·exact T.live b q
 · rcases aX.mp (z.mem_iff.mp r)with q|q;·exact(s b q).2.1
   ·exact T.off b q
 · by_cases q:i=j;·subst q;injection (au (ab.mp g).1).symm.trans d with d;subst d;exact A o p▸λy v=>by injection t.symm.trans v with v;subst v;exact T.glt (aY g) rfl
   ·rw[ag q]at d;exact T.gf j f o d p
end
theorem uj(d:(l7 ρ).Nodup)(b:e∈ρ):e.fp.Nodup:=by induction ρ with|nil=>exact absurd b List.not_mem_nil|cons x ρ c=>
  have a:(x.fp++l7 ρ).Nodup:=d;refine n8 (dF.mp a) λn1 n2 _=>?_;rcases(az.mp b).imp_left aM with rfl|q;·exact n1
  ·exact c n2 q
section
variable{X:GU}{L:Held}{m:b9}{H:List O}{ρ:List c8}{s:NR}{i:Nat}{fi:FI}{body:List NW}{m':b9}{e:c8}
theorem FH(c:ρ[i]?=some e)(p:ρ.set i f<+:ρ'):ρ<+:ρ'.set i e:=by
 refine b8 p λt a=>?_;try clear p;subst a
 have d:=(ab.mp c).1;rw[List.set_append_left _ _ (by rw[ax];exact d),cP];have:ρ.set i e=ρ:=by refine b8 (ab.mp c) λh b=>?_;subst b;exact List.set_getElem_self h
 rw[this];exact aH _ _
end
theorem uk{s:NR}{g:Nat}{x:GenState}(h:g<s.gens.size):(s.setGen g x).gens[g]?=some x:=by exact Array.getElem?_setIfInBounds_self_of_lt h
theorem lV{s:NR}{g k:Nat}{x:GenState}(h:k≠g):(s.setGen g x).gens[k]?=s.gens[k]?:=by exact Array.getElem?_setIfInBounds_ne (bg h)
theorem jc{s:NR}{g:Nat}{x:GenState}:(s.setGen g x).gens.size=s.gens.size:=by exact Array.size_setIfInBounds
theorem FK:entryFor table "proto.yield_from"=some bu.«proto.yield_from»:=entryFor_of_fast (by kernel_rfl)
theorem lW:plainId "proto.yield_from"=true:=by decide+kernel
section
variable{w:NQ}{A:NT}{E:VP}{s:NR}
theorem FL(b:hN s.heap e)(h:Q true s):aJ (ay pP w) A (bu.Generator.endsTheTurnAsAValue false (.ref e)) Q E s:=by
 refine ai2 b λo j f d i g=>?_;try clear b
 have c:s.TypeIs (.ref e) "StopIteration":=b7 o f d;refine ac (ac (dq c (ac (bM isSubtype_stop (ac (bM (a:=NS.type "type") (by first|rfl|kernel_rfl) ?_))))));exact aq (aq h)
end
section
variable{w:NQ}{fi:FI}{env:Env}{m:b9}{F:i5}{ρ ρ':List c8}{H:List O}{h:NV}{gs:GT}
theorem d6.frame(S:d6 w fi env m F ρ H h gs)(a:env.frame=some env.locals):I0 fi env m ρ h:=⟨S.es,S.eg,S.eb,S.ec,S.ek,a,S.ns,S.cl,S.ce,S.cn,S.cu,S.cd⟩
theorem I0.ext(f:I0 fi env m ρ h)(p:ρ<+:ρ'):I0 fi env m ρ' h:=⟨f.es,f.eg,f.eb,f.ec,f.ek,f.ef,a9 f.ns λg a b=>b7 g a λx e=>(b x e).mono p (.refl _),λx c d=>a9 (f.cl x c d) λi a b=>b7 i a (b.mono p (.refl _)),f.ce,f.cn,f.cu,f.cd⟩
theorem d6.own_nodup(S:d6 w fi env m F ρ H h gs)(d:fi.own=true):(j9 fi env).Nodup:=by
 unfold j9;rw[if_pos d];refine ck.mpr ⟨λq=>?_,?_⟩;· refine a9 (bp.mp q) λa b e=>?_;obtain⟨x,c⟩:=a;exact(S.cu x c b).2 e
 ·exact dg.mpr S.cd
end
section
variable{w:NQ}{d:Nat}{H:List O}{a:Nat}{o:Obj}{fd:FuncData}{body:List NW}{sc:Scope}{ps:List Str}{xs:List V}
theorem R8(K:z6 (KW w) a o fd body sc ps)(v:sc.isGenerator=true)(m:xs.length=ps.length)(h:Q (.ref H.length) (H++[.fresh ⟨sc,true,fd.code⟩ body (u7 sc ps xs)])):j7 w (d+1) H (.st a) xs Q:=λA F ρ s u us hA S ru r=>by
  have O:=K.hsc;subst O;subst ru;refine d7 (jV K.toFnB S.b) λho I=>?_;have C:us.length=ps.length:=r.len.trans m;refine da (codeAny_call_generator hA.depth ho K.hd K.hco v K.hb I ?_);rw[K.hbd _ C,K.hcl];refine aq (bZ (ae _) (du K.hk (λz t=>?_) λY J s3 W ht=>?_))
  · have P:z.1∈ps:=by exact(iU C).symm▸bp.mpr (b7 z t rfl)
    rcases K.hkd z.1 P with q|q;·exact .inl q
    · refine b8 (iW (n:=s.heap.objs.size+1) (mem_of_lookup q)) λc E=>?_;exact .inr ⟨q,by rw[O1 (iV K.hnd) E];rfl⟩
  subst J;refine d7 (jU K.toFnB m S r W ht) λV j=>?_;refine t8 W.done λl g e3 a0=>?_;subst e3;refine⟨j.b.lim,?_⟩;have X:=j.hs.dead (z5 l);have D:u0 l (l.push {cls:=.type "generator",data:=.fields #[.int s.gens.size 0,.str fd.name g,.str fd.qualname (g+1)]}):=λb o e=>aD _ e;have G:∀(k:Nat)z,(s.gens.push (.fresh (.func body (cX fd s.heap.objs.size a))))[k]?=some z->z.bare=true\/s.gens[k]?=some z:=λk z t=>by
   rw[Array.getElem?_push]at t;split at t;·exact(bV t).symm▸.inl rfl
   ·exact .inr t
  have T:=(j.keeps D).gens G (λe Z _ x c p E=>by rw[Array.getElem?_push_lt (S.glt Z p)];rw[gG (S.glt Z p)]at E;exact E) (by rw[gO];exact aN _);have N:l.objs.size∉j9 ⟨fd.scope,true,fd.code⟩ (cX fd s.heap.objs.size a):=λq=>by
   refine b8 (j.own_live _ q) λo R=>?_;obtain⟨i,_⟩|⟨q3,i⟩:=R;·rw[z5]at i;injection i
   ·rw[z5]at i;injection i
  have M:(l.objs.size::j9 ⟨fd.scope,true,fd.code⟩ (cX fd s.heap.objs.size a)).Nodup:=ck.mpr ⟨N,j.own_nodup rfl⟩;have L:(l.push {cls:=.type "generator",data:=.fields #[.int s.gens.size 0,.str fd.name g,.str fd.qualname (g+1)]}).IsGen l.objs.size s.gens.size:=N3 _ _ _ (aT _ rfl) rfl rfl rfl;have B:eV (cX fd s.heap.objs.size a)=false:=by have e:(cX fd s.heap.objs.size a).scope=fd.scope:=rfl;unfold eV;rw[e];simp[K.hk]
  refine⟨_,_,.ref H.length,V.trans ?_,(T.tk (n:=g+2) (aU _ 2)).hs.adoptG (gg:=some (s.gens.size,cX fd s.heap.objs.size a)) (o:=.fresh ⟨fd.scope,true,fd.code⟩ body (u7 fd.scope ps xs)) M (λb G=>?_) (nN _ _ rfl rfl L rfl B (((j.keeps D).frame rfl).ext (aH _ _))) (λx p f hf y hy=>?_) (G7 _ _ rfl (Array.getElem?_push_size ..)),?_,h⟩;·exact .addG (s:=⟨l,s.gens,_,_,_⟩) (.of_keep D) rfl (λx p=>by exact(bV p).symm▸ae _) (by show s.gens.size<=(s.gens.push _).size;rw[gO];exact aN _)
  · rcases az.mp G with q|q;·exact q▸V8 X.1 X.2 _ (aT _ rfl)
    · have lo:=j.lo b q;refine b8 (j.own_live _ q) λo U=>?_;obtain⟨i,_⟩|⟨q3,i⟩:=U;·exact V8 lo.2 lo.1 _ (D _ _ i)
      ·exact V8 lo.2 lo.1 _ (D _ _ i)
  ·exact(bV p).symm▸aP (S.glt hf hy)
  ·exact b7 _ (by rw[<-S.len,ao]) rfl
end
section
variable{w:NQ}{A:NT}{E:VP}{s:NR}
theorem FM(b:s9 s.heap a g k)(h:Q (.ref a) s):aJ (ay pP w) A (pyIter (.ref a)) Q E s:=by refine wpAny_pyIter_slot b.typeIs slot_gen_iter (bK slot_gen_iter b.typeIs entry_gen_iter ?_ (args_gen_iter _));exact aq (rx _ rfl "generator" _ b.typeIs slot_gen_next.lookup h)
end
end Mine.Internal
end
section
open PySem PySem.W PyProof.Rows PySem.Spec PySem.Calls
namespace Mine.Internal
theorem FN{R:cz->NR->Prop}(hz:s.asleep)(h:g8 (ay prog w) callerA t (λa s'=>∃f,a=.done f/\R (.ok f) s'/\AllBare s'.gens) (λe s'=>R (.error e) s'/\AllBare s'.gens) s):∃n r s' b,schedN (denote table) prog w n (.single s ⟨t,.builtin "claim.caller" {},default,[]⟩)=.halted (outcomeOf r) s'/\s'.forget=b.forget/\s'.heap.life=s.heap.life/\R r b:=by
 refine Ev.halts (den:=denote table) (prog:=prog) (w:=w) (R:=R) (s:=s) (t:=⟨t,.builtin "claim.caller" {},default,[]⟩) ?_ hz;have:=h (.builtin "claim.caller" {}) default [] caller_in (K:=.pure) (H:=.raise) (gd:=id) (lv:=id) (Φ:=λs' k=>∃r c p,k=⟨leafOf r,c,p,[]⟩/\leftWithCleanup s'.gens=false/\R r s') ?_ ?_;·rw[sR]at this;exact this
 · intro a i s';refine rh λf j d g=>?_;subst j;exact .now (Q2 (.ok f) _ i rfl (leftWithCleanup_false_of_bare g) d)
 · intro e i s';refine u6 λd g=>?_;exact .now (Q2 (.error e) _ i rfl (leftWithCleanup_false_of_bare g) d)
theorem FO{c:ClaimW}{g:List NS->Sem Fin}{w:NQ}{s:NR}{k:Addr->Prop}{kc:NV->Prop}(hz:s.asleep)(h:s.gens=#[])(A:∀a,c.pre a=true->WData.layableAll a=true->∀ord:List DictEntry->List DictEntry,(∀l,(ord l).Perm l)->∃d s₁,layAllW c.records (classAt s.heap) w.params ord a s=some (d,s₁)/\g8 (ay c.prog w) callerA (g d) (λH s'=>∃f,H=.done f/\(c.Ends s a d s₁ (.ok f) s'/\s'.os=s.os/\kc s'.heap)/\AllBare s'.gens) (λe s'=>(c.Ends s a d s₁ (.error e) s'/\s'.os=s.os/\kc s'.heap)/\AllBare s'.gens) s₁):c.CallFrom (λd=>⟨g d,.builtin "claim.caller" {},default,[]⟩) w k gens kc s:=by
 intro a z p ord t;refine t8 (A a z p ord t) λd s₁ L P=>?_;have m:=layAllW_rest _ _ _ L;refine xX (FN (R:=λr s'=>c.Ends s a d s₁ r s'/\s'.os=s.os/\kc s'.heap) (NR.asleep_of_life m.2.2.2 hz) P) λn r s' U S Q j O u J=>?_;refine L8 (NR.forget_eq Q) λK _ _ N _=>?_;have I:=O.congr K;rw[<-N]at u;refine yB d s₁ L n _ s' S ?_ (λ_ i x M=>by rw[h]at M;simp at M) (by rw[K];exact J) (by rw[j,m.2.2.2]) (NR.rest_eq u);refine I.elim (λq=>.inl ?_) λq=>.inr ?_;·exact xP q λv e C D E F G=>yr v (congrArg outcomeOf e) C D E (λb o y _=>F b o y) G
 ·exact xU q λx T B e C D E F G=>yz x T B (congrArg outcomeOf e) C D E F λb o y _=>G b o y
end Mine.Internal
end
section
open PySem PySem.W PyProof.Rows PySem.W.X PySem.SeqAt
namespace Mine.Internal
section
variable{w:NQ}{fi:FI}{d:Nat}{m:b9}{H:List O}
theorem ul(h:WE w fi d m H e λv a=>∃x,v=.str x/\x.length<=aF/\Q (.str x) a):WE w fi d m H (.FormattedValue e 115 none pos) Q:=λA b F q s l S=>by show aJ _ A (do let v<-eval e b;dl pos;formatted pos (<-cZ [v] (converted 115 v)) none) _ _ s;refine ac (ar (h A b F q s l S) (λu f g=>?_) λ_ _ x=>x);obtain⟨j,a,v,i,k,r,x,e,g,c⟩:=g;subst e;obtain⟨t,rfl⟩:=r.str_eq;refine ac (cM ?_);show aJ _ _ (do let v'<-cZ [.str x t] (habitSame "fstring-hands-on-the-str" (.str x t));formatField v' Str.empty) _ _ f;exact bZ (ae _) (ac (bc (habitSame_str (λy z=>formatField_str (λo p n=>⟨j,a,.str x,i.trans (.same (.refl _) rfl),k.tk n,.intro _ rfl,c⟩) g) g)))
end
section
variable{w:NQ}{fi:FI}{d:Nat}{m:b9}{H:List O}
theorem FP(h:WT w fi d m H test λb a=>b=true/\Q .next m a):WS w fi d m H (.Assert test msg pos) Q:=λA c F o s j S=>wpAny_Assert_holds (ar (h A c F o s j S) (λb f n=>n.ob λe a i l g k q=>⟨(show b=i from k).trans q.1,e,a,m,.next,l,g,rfl,q.2⟩) λ_ _ x=>x)
end
section
variable{w:NQ}{fi:FI}{d:Nat}{m:b9}{H:List O}
theorem um{K:QV}{B:List O->Prop}(h:WE w fi d m H elt K):lL w fi d m H [] λb a=>if b=true then WE w fi d m a elt K else B a:=h
end
theorem FQ(a:0<=i)(hz:i<2^62):bu.List.listFitsIndex i=true:=by exact sC (Int.le_trans (by decide) a) (jN hz)
theorem FR(h:a<b)(hz:b<=aF):(a:Int)<2^62:=by exact Int.lt_trans (aQ.mpr (aB h hz)) (by decide)
theorem uo{a:List NS}{k:Nat}(b:k<a.length):(λxs:Array NS=>xs.eraseIdxIfInBounds k) a.toArray=(a.take k++a.drop (k+1)).toArray:=by
 have c:a=a.take k++a[k]::a.drop (k+1):=by rw[List.getElem_cons_drop,List.take_append_drop]
 have d:(a.take k).length=k:=by rw[dG];exact ss b
 have:=kl_erase (a.take k) (a.drop (k+1)) a[k];rw[d,<-c]at this;exact this
theorem po{h:NV}{l:Nat}{items:Array NS}(f:Array NS->Array NS)(x:h.PlainList l items):(h.update l (bY f)).PlainList l (f items):=by
 refine b8 x λn e=>?_;try clear x
 exact⟨_,cb _ e rfl⟩
section
variable{w:NQ}{d:Nat}{H:List O}{Q:QV}
theorem lX{l:Nat}{name:Str}{id:String}(c:Slot "list" name id)(f:eJ (.builtin id)=pure (.type "method_descriptor"))(k:H[l]?=some (.list xs)):I4 w H (.ref l) name (.bi id):=λA F t s u p K m S r h=>by refine a9 r.ref_eq λe j g=>?_;subst g;refine w6 (S.ob l e _ j k) λ_ _ q i b=>?_; refine b8 i λn a=>?_;exact getMethod_builtin (b7 _ a rfl) PySem.F.plainAttrs_list c f (λo e=>by injection e with e;subst e;exact b7 _ a rfl) (h _ jX)
theorem FU(G:H[l]?=some (.list xs))(O:xs[k]?=some x)(hz:xs.length<=aF)(h:Q x (H.set l (.list (xs.take k++xs.drop (k+1))))):j7 w d H (.bi "list.pop") [.ref l,.int (k:Int)] Q:=λA F W s u us Z S R r=>by
 rw[R.bi_eq];refine i8 r.cons_eq λv q z T P=>?_;subst z;refine i8 P.cons_eq λv' q' B D C=>?_;subst B;rw[C.nil_eq];refine a9 T.ref_eq λe E i=>?_;subst i;refine b8 D.int_eq λV j=>?_;subst j;refine w6 (S.ob l e _ E G) λX Y c a b=>?_;refine b8 (id a) λn I=>?_;refine a9 (b.get O) λy J U=>?_;have f:k<c.length:=(ab.mp J).1;have g:c.length<=aF:=by rw[b.len];exact hz
 have N:=FQ (aW k) (FR f g);have p:seqIndex? (k:Int) c.toArray.size=some k:=by rw[aZ];exact BN f
 have t:c.toArray[k]?=some y:=by simpa using J
 have m:c.toArray.size<=aF:=by rw[aZ];exact g
 refine call_meets PySem.F.slot_list_pop (b7 _ I rfl) PySem.F.entry_list_pop (PySem.F.args_list_pop_2 _ _) (@PySem.MeetsSeq.list_pop_at e.a c.toArray n (k:Int) V k y N p t m) ⟨I,?_⟩
 · refine d7 (S.turn (tk:=s.toks) (h':=s.heap.update e.a (bY λxs:Array NS=>xs.eraseIdxIfInBounds k)) (ys:=xs.take k++xs.drop (k+1)) (us:=c.take k++c.drop (k+1)) G E (λb o M e=>(bR _ _ (bg M)).trans e) (by rw[<-uo f];exact po _ a) ((b.take _).append (b.drop _))) λK L=>?_;exact⟨W,_,x,K,L,U.mono (aA _) K.2.1,h⟩
end
section
variable{α:Type}{M:Model}{A:NT}{E:VP}{s:NR}
theorem bk(c:PlainExc cls)(a:A.handled=none)(h:∀h' tk e t,NV.MadeExc s.heap h' e cls [.str (aa msg) t]->E (.ref e) {s with heap:=h',toks:=tk}):aJ M A (raiseErrorWords cls msg:Sem α) Q E s:=by refine ac (wpAny_mkText (ac (wpAny_newExc_plain c λh' e b=>wpAny_raiseNew_none a ?_)));exact h _ _ _ _ b
end
section
variable{w:NQ}{A:NT}{E:VP}{s:NR}
theorem FV(b:A.handled=none)(d:s.heap.IsList l items)(g:0<=k)(a:(items.size:Int)<=k)(h:k<2^62)(c:∀h' tk e t,NV.MadeExc s.heap h' e "IndexError" [.str (aa "list index out of range") t]->E (.ref e) {s with heap:=h',toks:=tk}):aJ (ay pP w) A (getItem (.ref l) (.int k t)) Q E s:=by
 refine F5 (id d) λo m p q i=>?_;unfold getItem;try with_reducible refine bc ?_
 first|refine ac (aq ?_)|skip
 refine ac (wpAny_sequenceKey d.typeIs (by decide) ?_);refine ac (bX (name:=aa "__getitem__") d.typeIs slot_list_getitem (bK slot_list_getitem d.typeIs entry_list_getitem ?_ (args_list_getitem _ _)));show aJ _ _ (bu.List.listSubscript? (.int k t)>>=_) _ _ s;refine ac (wpAny_listSubscript_int (fitsIndex_both (Int.le_trans (by decide) g) (jN h)) ?_);clear h;refine b8 (Int.eq_ofNat_of_zero_le g) λj f=>?_;subst f;have n:items[j]?=none:=Array.getElem?_eq_none (Int.ofNat_le.mp a);refine ac (ac (wpAny_seqItemAt m i (aq ?_)));rw[n];first|exact ac (cm (bk plainExc_IndexError b c))|exact ac (cm (ac (bk plainExc_IndexError b c)))|exact ac (ac (cm (bk plainExc_IndexError b c)))|exact cm (bk plainExc_IndexError b c)
end
noncomputable def O6(h:NV)(S:List Nat):NV:={h with objs:=h.objs.mapIdx λi o=>if i∈S then{o with data:=.freed}else o}
theorem X0{S:List Nat}{b:Nat}:(O6 h S).get? b=if b∈S then none else h.get? b:=by unfold O6 NV.get?;dsimp only;rw[Array.getElem?_mapIdx];cases q:h.objs[b]? with|none=>exact(ite_self _).symm|some o=>
  dsimp only[Option.map];by_cases z:b∈S;·rw[if_pos z,if_pos z]
  ·rw[if_neg z,if_neg z]
def X1(L:List Nat)(h:NV)(l:List Env):Prop:=∀e∈l,e.scope.kind≠.module/\∃a o,e.frame=some a/\a∈L/\h.get? a=some o/\∃c b,o.data=.dict c b
structure O7(L:List Nat)(e:Nat)(h₁ h:NV):Prop where
 kp:∀b o,b≠e->b∉L->h₁.get? b=some o->h.get? b=some o
 lo:∀b∈L,∀o,h₁.get? b=some o->∃sl,h.get? b=some {o with slots:=sl}
theorem X1.fun{L:List Nat}{h base:NV}:∀{l:List Env},X1 L h l->(∀b∈L,base.get? b=none)->h.FunFrames base l:=by intro l;induction l with|nil=>exactλ_ _=>trivial|cons x l m=>intro f c;obtain⟨d,a,o,e,g,i,p,n,j⟩:=f x (.head _);exact⟨d,⟨a,o,e,c a g,i,λq z=>by rw[j]at z;cases z⟩,m (λy k=>f y (.tail _ k)) c⟩
structure O8(L:List Nat)(e:Nat)(cls a0:NS)(l:List Env)(h₁ h:NV):Prop where
 fl:NV.FlyingW (O6 h₁ (e::L)) l e cls a0 h
 nt:O7 L e h₁ h
 fr:X1 L h₁ l
theorem br(n:O7 L e h₁ h)(u:∀b∈L,∃o g f,h₁.get? b=some o/\o.data=.dict g f)(v:(O6 h₁ (e::L)).StaysIn h')(w:∀b o,h.get? b=some o->(∀d,o.data≠.fields d)->∃k,h'.get? b=some {o with slots:=k}):O7 L e h₁ h':=by
 refine⟨λb o l m p=>v b o ?_,λb i o j=>?_⟩;·rw[X0,if_neg λq=>(az.mp q).elim l m];exact p
 · refine b8 (n.lo b i o j) λk r=>?_;refine E5 (u b i) λo2 g f a s=>?_;injection j.symm.trans a with a;subst a;refine b8 (w b _ r λd z=>by have z:o.data=.fields d:=z;injection s.symm.trans z) λc t=>?_;exact⟨c,t⟩
section
variable{M:Model}{A:NT}{E:VP}{s:NR}{L:List Nat}{e:Nat}{env:Env}{outer:List Env}
theorem FX{d:String}{c:List NS}{Q:Unit->NR->Prop}(i:A.frames=some (env::outer))(y:∀b∈L,∃o p n,s.heap.get? b=some o/\o.data=.dict p n)(g:X1 L s.heap (env::outer))(z:NV.MadeExc h0 s.heap e d c)(h:∀h' t,O8 L e (.type d) (.ref t) outer s.heap h'->s.heap.get? t=some {cls:=.type "tuple",data:=.seq c.toArray}->t≠e->Q () {s with heap:=h'}):aJ M A (leaving env (.ref e)) Q E s:=by
 refine m9 z.there λt u J k=>?_;obtain⟨_,a,o,w,G,H,p,n,I⟩:=g env (.head _);have f:∀b∈L,(O6 s.heap (e::L)).get? b=none:=λb f=>by rw[X0,if_pos (.tail _ f)]
 have j:(O6 s.heap (e::L)).StaysIn s.heap:=λb o q=>by
  rw[X0]at q;split at q;·exact by injection q
  ·exact q
 have l:t≠e:=λq=>by rw[q]at k;exact by injection k.symm.trans u with q;injection q with _ _ q;injection q
 refine wpAny_leaving_firstW (base:=O6 s.heap (e::L)) i (g.fun f) w u j (by rw[X0,if_pos (.head _)]) rfl rfl rfl λh' r=>?_;refine m6 r λv m D F=>?_;try clear r; refine n8 m λK N C=>?_
 have n0:O7 L e s.heap s.heap:=⟨λ_ _ _ _ q=>q,λb _ o q=>⟨o.slots,q⟩⟩;exact h h' t ⟨j8 v (by rw[X0,if_pos (.head _)]) C D,br n0 y v F,λx B=>g x (.tail _ B)⟩ k l
theorem FY(c:A.frames=some (env::outer))(l:env.frame.isSome=true)(k:∀b∈L,∃o i g,h₁.get? b=some o/\o.data=.dict i g)(f:O8 L e cls a0 (env::outer) h₁ s.heap)(h:∀h',O8 L e cls a0 outer h₁ h'->Q () {s with heap:=h'}):aJ M A (leaving env (.ref e)) Q E s:=by refine b8 (cN.mp l) λa j=>?_;exact wpAny_leaves_onW c j f.fl λh' d n=>h h' ⟨d,br f.nt k d.1 n,λx m=>f.fr x (.tail _ m)⟩
end
theorem FZ{b a}(c:o.data=.dict b a):¬H9 o:=by rintro(⟨⟨xs,n,q⟩,_⟩|⟨_,d,q⟩)<;>(injection c.symm.trans q)
section
variable{w:NQ}{F:i5}{ρ:List c8}{H:List O}{h₁ h:NV}{gs:GT}{L:List Nat}{e:Nat}
theorem O7.tk(n:O7 L e h₁ h)(j:∀b∈L,∃o f d,h₁.get? b=some o/\o.data=.dict f d)(k:∀o,h₁.get? e=some o->¬H9 o):TK h₁ h:=λb o c g=>by
 by_cases q:b=e;·subst q;exact absurd g (k o c)
 · by_cases z:b∈L;· refine E5 (j b z) λl f d a i=>?_;injection c.symm.trans a with a;subst a;exact absurd g (FZ i)
   ·exact n.kp b o q z c
theorem d9.noted(S:d9 w F ρ H h₁ gs)(n:O7 L e h₁ h)(G:∀b∈L,∃o E D,h₁.get? b=some o/\o.data=.dict E D)(I:∀o,h₁.get? e=some o->¬H9 o)(c:F.f e=none/\e∉l7 ρ)(A:∀b∈L,b∈F.lo\/∃(j:Nat)(f:c8),ρ[j]?=some f/\H[j]?=some .gone/\b∈f.fp):d9 w F ρ H h gs:=by
 have t:=n.tk G I;have B:Q5 F h:=λb o q=>by
  refine a9 (S.keep b o q) λv y u=>?_;have s:b≠e:=λz=>by rw[z,c.1]at q;injection q
  by_cases z:b∈L
  · rcases A b z with x|⟨j,f,p,_,a⟩;· refine b8 (n.lo b z v y) λC k=>?_;exact b7 _ k (u.trans (.inr (fI x C rfl)))
    ·have:=S.off b (M1 p a);injection this.symm.trans q
  ·exact b7 v (n.kp b v s z y) u
 refine⟨S.bs,B,S.len,λi f o g d=>?_,λb a=>?_,S.nd,S.off,S.gn,S.bare,S.gf,S.fo,S.tp⟩
 · by_cases z:o=.gone;·subst z;exact S.ob i f _ g d
   · refine(S.ob i f o g d).mono (aA _) t S.keep B λb a q J=>n.kp b q (λz=>c.2 (z▸M1 g a)) (λm=>?_) J;rcases A b m with x|⟨j,K,p,r,l⟩;·exact S.fo.off (S.off b (M1 g a)) x
     · by_cases q2:i=j;·subst q2;injection d.symm.trans r with r;subst r;exact z rfl
       ·exact lC S.nd g p q2 a l
 · refine b8 (S.live b a) λo d=>?_;by_cases z:b∈L;· refine b8 (n.lo b z o d) λC k=>?_;exact⟨_,k⟩
   ·exact⟨o,n.kp b o (λq=>c.2 (q▸a)) z d⟩
theorem d6.noted(S:d6 w fi env m F ρ H h₁ gs)(n:O7 L e h₁ h)(c:∀b∈L,∃o p l,h₁.get? b=some o/\o.data=.dict p l)(d:∀o,h₁.get? e=some o->¬H9 o)(a:y4 fi env F ρ [e])(q:∀b∈L,b∈(w4 F h₁ env (j9 fi env)).lo\/∃(j:Nat)(f:c8),ρ[j]?=some f/\H[j]?=some .gone/\b∈f.fp):d6 w fi env m F ρ H h gs:=by refine n8 (a e (.head _)) λg i k=>?_;exact S.ofH (aA _) (n.tk c d) (S.toH.noted n c d ⟨by rw[N7 k];exact g,i⟩ q)
end
section
variable{w:NQ}{fi:FI}{env:Env}{m:b9}{F:i5}{ρ:List c8}{H:List O}{h h':NV}{gs:GT}
theorem d6.setAny(S:d6 w fi env m F ρ H h gs)(s:r9 m x=none)(a:h.Ns env.locals mv)(l:∀x,fi.sc.names.lookup x=some .local->K8 ρ h (r9 m x) (mv x))(n:h'.Ns env.locals λy=>if y=x then some u else mv y)(i:dJ env.locals h h'):d6 w fi env m F ρ H h' gs:=by
 refine d7 (S.own_upd (N5 fi env) (λb o j e=>i.extBut b o j e) (W4 a)) λd t=>?_;refine⟨d,S.es,S.eg,S.eb,S.ec,S.ek,S.ef,S.lo,b7 _ n λy v=>?_,λy c g=>?_,S.ce,S.cn,S.cu,S.cd,S.cf⟩
 · by_cases q:y=x;·rw[q,s];trivial
   ·rw[if_neg q];exact(l y v).mono (aA _) t
 · refine a9 (S.cl y c g) λz f r=>?_; refine a9 f λo p k=>?_;exact b7 z (b7 o (i.extBut c o (S.cu y c (M2 g)).2 p) k) (r.mono (aA _) t)
theorem d6.forget(S:d6 w fi env m F ρ H h gs)(l:h'.Ns env.locals mv)(i:dJ env.locals h h'):d6 w fi env [] F ρ H h' gs:=by refine a9 S.ns λp a _=>?_;refine d7 (S.own_upd (N5 fi env) (λb o j e=>i.extBut b o j e) (W4 a)) λd t=>?_;refine⟨d,S.es,S.eg,S.eb,S.ec,S.ek,S.ef,S.lo,b7 _ l λy s=>trivial,λy c g=>?_,S.ce,S.cn,S.cu,S.cd,S.cf⟩;refine a9 (S.cl y c g) λq f r=>?_; refine a9 f λo n k=>?_;exact b7 q (b7 o (i.extBut c o (S.cu y c (M2 g)).2 n) k) trivial
end
def jd(h:NV)(a:Nat)(X:String)(b:List NS):Prop:=∃t,h.ExcAt a X (.ref t)/\h.TupAt t b
section
variable{w:NQ}{fi:FI}{env:Env}{m:b9}{F:i5}{ρ:List c8}{H:List O}{s:NR}{A:NT}{L:List Nat}{a:Nat}{outer:List Env}{h₁:NV}
theorem O8.exc(f:O8 L a (.type X) (.ref t) l h₁ h)(j:h₁.get? t=some {cls:=.type "tuple",data:=.seq args.toArray})(c:t≠a)(b:t∉L):jd h a X args:=by obtain⟨_,_,_,k,n,T,o,p,i,⟨e,d⟩,g,_⟩:=f.fl;exact b7 t (V9 k n i e g d) (A9 _ _ (f.nt.kp t _ c b j) rfl rfl)
end
structure pq(X T:String)(b:Bool):Prop where
 base:ew (.type T) (.type "BaseException")=pure true
 notup:ew (.type ((Manifest.find? T).elim "type" λx=>x.metatype)) (.type "tuple")=pure false
 sub:ew (.type X) (.type T)=pure b
section
variable{w:NQ}{fi:FI}{env:Env}{m:b9}{F:i5}{ρ:List c8}{H:List O}{s:NR}{A:NT}{L:List Nat}{a:Nat}{outer:List Env}{h₁:NV}{E:VP}
abbrev uq(w:NQ)(fi:FI)(env:Env)(m:b9)(F:i5)(ρ:List c8)(H:List O)(A:NT)(a:Nat)(X:String)(e:List NS)(n:Str)(g:List NW)(s:NR)(Q:Flow->List c8->List O->NR->Prop):Prop:=∀c:NR,c.gens=s.gens->c.os=s.os->d6 w fi env m F ρ H c.heap (gt c)->jd c.heap a X e->(∃i,c.heap.Ns env.locals i/\i n=some (.ref a))->aJ (ay pP w) (A.mark (some (.ref a))) (execs g env) (λf b=>∃d h,e8 ρ c d b/\d6 w fi env m F d h b.heap (gt b)/\Q f d h b) (λ_ _=>False) c
theorem Ga(K:pq X T true)(S:d6 w fi env m F ρ H s.heap (gt s))(hn:fi.sc.names.lookup n=some .local)(hm:r9 m n=none)(hT:fi.sc.names.lookup tn=some .globalImplicit)(eT:nsIn (KW w) bw tn=some none)(bT:bQ tn=some (.type T))(dT:(tn==("__debug__":Str))=false)(nT:tn≠"__name__")(hd:∀b∈L,∃o es ep,h₁.get? b=some o/\o.data=.dict es ep)(f:O8 L a (.type X) (.ref t) (env::outer) h₁ s.heap)(ht:h₁.get? t=some {cls:=.type "tuple",data:=.seq args.toArray})(D:t≠a)(C:t∉L)(W:a≠env.locals)(a3:∀h',O8 L a (.type X) (.ref t) (env::outer) h₁ h'->e8 ρ₀ s₀ ρ {s with heap:=h'}/\d6 w fi env m F ρ H h' (gt s))(h:uq w fi env m F ρ H A a X args n (b₀::suite) s R)(hQ:∀P g M c d,R P g M c->e8 ρ₀ s₀ g d->TK c.heap d.heap->d6 w fi env [] F g M d.heap (gt d)->Q P d):aJ (ay pP w) A (handleBy (.ref a) env (.ExceptHandler (some (.Name tn np)) (some n) (b₀::suite) pos::rest)) Q E s:=by
 refine b8 S.b.g λmg hg=>?_;refine a9 S.b.bi λmb Z Y=>?_;have ex:jd s.heap a X args:=f.exc ht D C;refine wpAny_handleBy_builtin_as K.base K.notup K.sub ?_;refine cF S.kd ((S.kind tn).trans hT) (cW (S.eg▸hg) (iS S.b.k hg eT) (S.eb▸Z) ((Y tn nT).trans bT) (i9 rfl ?_ ?_)) dT
 · refine a9 ex λ_ a4 _=>?_;try clear ex; refine i8 a4 λo vs ho hc _=>?_
   exact b7 o ho hc
 rw[if_pos rfl];refine wpAny_setFlight_noneW f.fl.1 f.fl.2.2.1 f.fl.2.2.2.at λq k1 k2 k3 k4=>?_;have i:O8 L a (.type X) (.ref t) (env::outer) h₁ q:=⟨j8 k1 f.fl.2.1 k2 k3,br f.nt hd k1 λb o u hv=>⟨o.slots,k4 b o u hv⟩,f.fr⟩;refine d7 (a3 q i) λb1 N=>?_;have p:jd q a X args:=i.exc ht D C;refine a9 N.ns λmv k a0=>?_;refine wpAny_storeName_local ((N.kind n).trans hn) k (λU z l=>?_) N.nocls;have S3:=N.setAny hm k a0 z l;have I:TK q U:=.of_ext (λb o u e=>l.extBut b o u e) (W4 k);have V:jd U a X args:=by
  refine a9 p λt' a5 a6=>?_;try clear p; refine t8 a5 λo vs ho r=>?_;obtain⟨o',nn,a2,v,y⟩:=a6
  exact b7 t' (G7 o vs (l.extBut a o W ho) r) (A9 o' nn (I t' o' a2 (.inl ⟨u8 _ _ y,by rw[v];decide⟩)) v y)
 refine ar (h ⟨U,s.gens,s.drawn,s.toks+1,s.os⟩ rfl rfl (S3.tk (aN _)) V ⟨_,z,by rw[if_pos rfl]⟩) (λP c hx=>?_) λ_ _ x=>x.elim;refine i8 hx λg M b0 O G=>?_;try clear hx
 refine a9 O.ns λb3 j _=>?_;refine wpAny_nameGoes ((O.kind n).trans hn) j O.nocls λh5 b2 a1 B=>?_;have J:TK c.heap h5:=.of_ext (λb o u e=>B.extBut b o u e) (W4 j);refine hQ P g M c _ G ?_ J ((O.forget a1 B).tk (aN _));exact(b1.trans (e8.same (s:={s with heap:=q}) (s':=⟨U,s.gens,s.drawn,s.toks+1,s.os⟩) I rfl (ae _))).trans (b0.trans (.same J rfl (ae _)))
end
section
variable{w:NQ}{fi:FI}{env:Env}{m:b9}{F:i5}{ρ:List c8}{H:List O}{s:NR}{A:NT}{a:Nat}{E:VP}
theorem Gb:pq "IndexError" "IndexError" true:=⟨by rw[cp];kernel_rfl,by rw[cp];kernel_rfl,by rw[cp];kernel_rfl⟩
end
section
variable{w:NQ}{A:NT}{Y:YP}{R:cz->NR->Prop}{s:NR}
structure lY(a g:Nat)(x:Nat)(s₁:NR):Prop where
 gen:s9 s₁.heap a g 0
 ty:∃X,s₁.TypeIs (.ref x) X/\ew (.type X) (.type "StopIteration")=pure false
theorem Gc{f:Type}{a g x:Nat}{Q:f->NR->Prop}{E:VP}(l:lY a g x s)(h:E (.ref x) s):aJ M A (bu.Generator.genLeft (.ref a) (.ref x):Sem f) Q E s:=by obtain⟨⟨o,m,qn,j,k,i,_⟩,c⟩:=l;refine a9 c λX e d=>?_;clear c;refine ac (ac (wpAny_load j (aq ?_)));refine ac (cC (b:=false) e d ?_);rw[i];simp;refine ac (cC (b:=false) e d ?_);simp;exact wpAny_throw h
theorem Gd{g:Nat}{Q:VP}{E:VP}(n:A.handled=none)(p:s.heap.NoLimit)(d:A.depth<fW)(m:s9 s.heap a g 0)(f:s.gens[g]?=some gs)(c:iN (ay pP w) A Y R gs (s.setGen g .running))(l:∀v b s₁,Y v b s₁->Q v (s₁.setGen g b))(k:∀r s₁,R r s₁->(r=.ok (.ret .none)/\∀h' e,u0 s₁.heap h'->hN h' e->E (.ref e) {s₁.setGen g .finished with heap:=h'})\/∃x,r=.error (.ref x)/\lY a g x s₁/\E (.ref x) (s₁.setGen g .finished)):g8 (ay pP w) A (bu.Generator.genWake (.ref a) (.send .none)) (λi s'=>∃v,i=.done (.ret v)/\Q v s') E s:=by refine k8 (up (bc (ua m (k8 (up (wpAny_genState f ?_))))));cases gs with|running=>exact c.elim|finished=>exact c.elim|_=>
  refine k8 (up (wpAny_roomToWake p d ?_));refine FF f c (λv b s₁ t=>?_) λx s₁ u=>?_;·exact q7 (b7 v rfl (l v b s₁ t))
  · rcases k _ _ u with⟨rfl,j⟩|⟨x,rfl,h,j⟩;·refine up ?_;show aJ _ A (newExc (.type "StopIteration") []>>=_) _ _ _;refine ac (ay5 λh' e o q=>?_);refine ac (ac (wpAny_handled ?_));rw[n];refine wpAny_throw ?_;exact j _ _ o q
    ·refine up ?_;exact Gc (s:=s₁.setGen g .finished) ⟨h.gen,h.ty⟩ j
end
section
variable{w:NQ}{A:NT}{Y:YP}{R:cz->NR->Prop}{s:NR}
theorem Ge(n:A.handled=none)(o:s.heap.NoLimit)(b:A.depth<fW)(d:s9 s.heap a g 0)(h:s.gens[g]?=some gs)(f:iN (ay pP w) A.in1 Y R gs (s.setGen g .running))(m:∀v c s₁,Y v c s₁->Q (some v) (s₁.setGen g c))(l:∀r s₁,R r s₁->(r=.ok (.ret .none)/\∀h' e,u0 s₁.heap h'->hN h' e->E (.ref e) {s₁.setGen g .finished with heap:=h'})\/∃x,r=.error (.ref x)/\lY a g x s₁/\E (.ref x) (s₁.setGen g .finished)):g8 (ay pP w) A (callSpecial? (.ref a) (aa "__next__")) Q E s:=by
 refine k8 (up (di d.typeIs slot_gen_next.lookup ?_));refine U2 (k8 (up (aq (k8 (kl (pn slot_gen_next.plain entry_gen_next (slot_gen_next.check _ _ _ _ _ _ _ _ d.typeIs (args_gen_next _) (o0 (Gd (Q:=λv t=>Q (some v) t) (A:=A.in1) n o b d h f m l) (λk u j=>?_) λ_ _ q=>q))))))));refine a9 j λv i p=>?_;try clear j;subst i
 exact q7 (M:=ay pP w) p
end
structure km(L:List Nat)(e:Nat)(cls a0:NS)(l:List Env)(a:Nat)(h₁ h:NV):Prop where
 fl:NV.HeldW (O6 h₁ (e::L)) l e cls a0 a h
 nt:O7 L e h₁ h
 fr:X1 L h₁ l
section
variable{M:Model}{A:NT}{E:VP}{s:NR}{L:List Nat}{e:Nat}{env:Env}{outer:List Env}
theorem Gf(f:A.frames=some (env::outer))(l:env.frame=some a)(u:∀b∈L,∃o r p,s.heap.get? b=some o/\o.data=.dict r p)(m:X1 L s.heap (env::outer))(v:NV.MadeExc h0 s.heap e cls args)(h:∀h' t,km L e (.type cls) (.ref t) (env::outer) a s.heap h'->s.heap.get? t=some {cls:=.type "tuple",data:=.seq args.toArray}->t≠e->Q () {s with heap:=h'}):aJ M A (noteFrame (.ref e) env) Q E s:=by
 refine m9 v.there λt d B i=>?_;have c:∀b∈L,(O6 s.heap (e::L)).get? b=none:=λb c=>by rw[X0,if_pos (.tail _ c)]
 have g:(O6 s.heap (e::L)).StaysIn s.heap:=λb o q=>by
  rw[X0]at q;split at q;·exact by injection q
  ·exact q
 have j:t≠e:=λq=>by rw[q]at i;exact by injection i.symm.trans d with q;injection q with _ _ q;injection q
 unfold noteFrame;simp only[l];refine ac (cc d rfl (x:=.none) rfl ?_);refine NX (by decide) ?_;refine wpAny_entryW (base:=O6 s.heap (e::L)) f (m.fun c) l d g (by rw[X0,if_pos (.head _)]) rfl (by show 1<6;decide) rfl λh' k=>?_;refine m6 k λn w y z=>?_;try clear k
 have n0:O7 L e s.heap s.heap:=⟨λ_ _ _ _ q=>q,λb _ o q=>⟨o.slots,q⟩⟩;exact h h' t ⟨j8 n (by rw[X0,if_pos (.head _)]) w y,br n0 u n z,m⟩ i j
theorem Gg(G:env.frame=some a)(H:∀b∈L,∃o B z,h₁.get? b=some o/\o.data=.dict B z)(f:km L e cls a0 (env::outer) a h₁ s.heap)(h:∀h',km L e cls a0 (env::outer) a h₁ h'->Q () {s with heap:=h'}):aJ M A (do
  if(<-field (.ref e) 1)==.none then unsupported "frame.own-activation:exception-without-traceback"
  setFlight (.ref e) env.frame) Q E s:=by
 obtain⟨C,f2,D,I,w,T,J,y,v,r,m,n,t,p,u,j,F⟩:=f.fl;have k:3<y.size:=(cE.mp F).1;have d:∀b,b≠T->(s.heap.update T (Obj.mapFields (·.setIfInBounds 3 (rawInt a)))).get? b=s.heap.get? b:=λb g=>bR _ _ (bg g);have c:∀b o,s.heap.get? b=some o->(∀w,o.data≠.fields w)->b≠T:=λb o g i q=>by rw[q,u]at g;injection g with g;subst g;exact i y j
 refine ac (cc v m n ?_);refine NX (by simp) ?_;try refine ac (aq ?_)
 refine ac (cc v m n ?_);refine wpAny_ite_true (show(NS.ref T !=NS.none)=true from by rfl) ?_;rw[G];refine wpAny_setField u j k (h _ ?_);have x:(O6 h₁ (e::L)).StaysIn (s.heap.update T (Obj.mapFields (·.setIfInBounds 3 (rawInt a)))):=λb o l=>(d b λq=>by rw[q,t]at l;injection l).trans (C b o l);refine⟨j8 x f2 (D.of_keeps λb o g i=>b7 o ((d b (c b o g i)).trans g) rfl) ?_,br f.nt H x λb o g i=>⟨o.slots,(d b (c b o g i)).trans g⟩,f.fr⟩;exact⟨I,w,T,_,_,(d e (bg p)).trans v,r,m,n,t,p,cb _ u (Obj.isFreed_of_fields (Obj.data_mapFields j _)),Obj.data_mapFields j _,by simp[k]⟩
theorem Gh(n:env.frame=some a)(p:∀b∈L,∃o j i,h₁.get? b=some o/\o.data=.dict j i)(f:km L e cls a0 (env::outer) a h₁ s.heap)(h:∀h',O8 L e cls a0 outer h₁ h'->Q () {s with heap:=h'}):aJ M A (leaving env (.ref e)) Q E s:=by
 refine ac (wpAny_noteFrame_againW n f.fl.2.2.2 ?_);refine wpAny_landsW f.fl λh' g r=>h h' ?_;refine m6 g λd k c m=>?_;try clear g; refine n8 c λ_ _ l=>?_
 exact⟨j8 d k l m,br f.nt p d r,λx q=>f.fr x (.tail _ q)⟩
end
def bx:Option Str->List NS->Prop|none,a=>a=[]|some m,a=>∃tk,a=[.str m tk]
def lZ(w:NQ)(fi:FI)(env:Env)(m:b9)(F:i5)(ρ:List c8)(s:NR)(X:String)(msg:Option Str)(Q:List O->Prop)(e:NS)(s':NR):Prop:=∃ρ' H' b x a,e=.ref x/\e8 ρ s ρ' s'/\d6 w fi env m F ρ' H' s'.heap (gt s')/\bx msg a/\NV.MadeExc b s'.heap x X a/\y4 fi env F ρ' [x]/\Q H'
section
variable(w:NQ)(fi:FI)(d:Nat)
def WX(m:b9)(H:List O)(e:Expr)(X:String)(msg:Option Str)(Q:List O->Prop):Prop:=∀A env F ρ s,j0 A d (n6 env F)->d6 w fi env m F ρ H s.heap (gt s)->aJ (ay pP w) A (eval e env) (λ_ _=>False) (lZ w fi env m F ρ s X msg Q) s
end
section
variable{w:NQ}{fi:FI}{d:Nat}{m:b9}{H:List O}{X:String}{msg:Option Str}{Q:List O->Prop}
theorem Gi(h:WX w fi d m H e X msg Q):WX w fi d m H (.FormattedValue e 115 none pos) X msg Q:=λA a F c s b S=>by show aJ _ A (do let v<-eval e a;dl pos;formatted pos (<-cZ [v] (converted 115 v)) none) _ _ s;exact ac (ar (h A a F c s b S) (λ_ _ x=>x.elim) λ_ _ x=>x)
def WJX(w:NQ)(fi:FI)(d:Nat)(m:b9)(H:List O)(X:String)(msg:Option Str)(Q:List O->Prop)(a:Str):List Expr->Prop|[]=>False|e::b=>WX w fi d m H e X msg Q\/∃y,(∀A env F ρ s,j0 A d (n6 env F)->d6 w fi env m F ρ H s.heap (gt s)->aJ (ay pP w) A (eval e env) (λv c=>(∃t,v=.str y t)/\∃tk,c={s with toks:=tk}) (λ_ _=>False) s)/\(a++y).length<=aF/\WJX w fi d m H X msg Q (a++y) b
theorem Gj:∀{a:Str},WJX w fi d m H X msg Q a c->∀A env F ρ s,j0 A d (n6 env F)->d6 w fi env m F ρ H s.heap (gt s)->aJ (ay pP w) A (joinParts a (evalEach c env)) (λ_ _=>False) (lZ w fi env m F ρ s X msg Q) s:=by induction c with|nil=>exactλh=>h.elim|cons e c k=>
  intro a h A env F ρ s f S;refine joinParts_consE (joinParts_cons ?_);rcases h with h|⟨y,h,hy,b⟩;·exact ar (h A env F ρ s f S) (λ_ _ x=>x.elim) λ_ _ x=>x
  ·refine ar (wpAny_toks_of (ae _) (h A env F ρ s f S)) (λu g j=>?_) λ_ _ x=>x.2.elim;obtain⟨i,⟨t,rfl⟩,tk,rfl⟩:=j;exact⟨hy,ar (k b A env F ρ _ f (S.tk i)) (λ_ _ x=>x) λ_ _ x=>x⟩
theorem Gk{a b:Expr}{rest:List Expr}{e:Pos}(h:WJX w fi d m H X msg Q Str.empty (a::b::rest)):WX w fi d m H (.JoinedStr (a::b::rest) e) X msg Q:=λA c F g s f S=>JoinedStr_many (Gj h A c F g s f S)
theorem Gl(hy:(out++y).length<=aF)(h:WJX w fi d m H X msg Q (out++y) es):WJX w fi d m H X msg Q out (.Constant (.str y) k pos::es):=.inr (j5 y (λA a F c s b S=>eP (fI ⟨_,rfl⟩ _ rfl)) hy h)
theorem Gm(c:fi.sc.names.lookup xn=some .local)(l:r9 m xn=some (.str y))(f:(xn==("__debug__":Str))=false)(hz:y.length<=aF)(hy:(out++y).length<=aF)(h:WJX w fi d m H X msg Q (out++y) es):WJX w fi d m H X msg Q out (.FormattedValue (.Name xn xp) 115 none pos::es):=.inr (j5 y (λA a F r s n S=>by show aJ _ A (do let v<-eval (.Name xn xp) a;dl pos;formatted pos (<-cZ [v] (converted 115 v)) none) _ _ s;refine i8 (S.get l c) λo u g e i=>?_;refine ac (cU (dC S.kd ((S.kind xn).trans c) g e ?_) f);refine b8 i.str_eq λt b=>?_;subst b;refine ac (cM ?_);show aJ _ _ (do let v'<-cZ [.str y t] (habitSame "fstring-hands-on-the-str" (.str y t));formatField v' Str.empty) _ _ s;exact ac (bc (habitSame_str (λp q=>formatField_str (λj k=>fI ⟨_,rfl⟩ _ rfl) hz) hz))) hy h)
end
section
variable{α:Type}{M:Model}{A:NT}{E:VP}{s:NR}
theorem Gn(a:s.gens[g]?=some .finished)(h:g8 M A (k .finished) Q E s):g8 M A (.resume g (.send .none) l k) Q E s:=by intro c p e b K H f d m j i;refine r8 (step_resume_finished M s c p e (.send .none) (d l) _ a) ?_;exact h c p e b K H f d m j i
end
section
variable{w:NQ}{A:NT}{s:NR}
theorem Go(d:A.handled=none)(i:s9 s.heap a g 0)(c:s.gens[g]?=some .finished)(h:∀h' e,u0 s.heap h'->hN h' e->E (.ref e) {s with heap:=h'}):g8 (ay pP w) A (bu.Generator.genWake (.ref a) (.send .none)) Q E s:=by
 refine k8 (up (bc (ua i (k8 (up (wpAny_genState c ?_))))));refine Gn c (up ?_);show aJ _ A (newExc (.type "StopIteration") []>>=_) _ _ _;refine ac ?_;dsimp only[newExc,newTuple];refine ac (bP ?_ (by size_fits));refine ac (m:=ft _ _) (bM (a:=NS.none) (by first|rfl| rfl) ?_);refine bP ?_ (by size_fits);first| refine ac (wpAny_handled ?_);rw[d];refine wpAny_throw ?_ | refine ac (ac (wpAny_handled ?_));rw[d];exact aq (wpAny_throw ?_) | refine ac (ac (wpAny_handled ?_));rw[d];refine aq (wpAny_throw ?_)
 exact h _ _ (λb o f=>aD _ (aD _ f)) (V9 _ _ (aT _ rfl) rfl rfl rfl)
theorem Gp(f:A.handled=none)(b:s9 s.heap a g 0)(c:s.gens[g]?=some .finished)(h:∀h' e,u0 s.heap h'->hN h' e->E (.ref e) {s with heap:=h'}):g8 (ay pP w) A (callSpecial? (.ref a) (aa "__next__")) Q E s:=by refine k8 (up (di b.typeIs slot_gen_next.lookup ?_));refine U2 (k8 (up (aq (k8 (kl (pn slot_gen_next.plain entry_gen_next (slot_gen_next.check _ _ _ _ _ _ _ _ b.typeIs (args_gen_next _) (o0 (Go (Q:=λ_ _=>False) (A:=A.in1) f b c h) (λd j i=>i.elim) λ_ _ q=>q))))))))
end
section
variable{w:NQ}{F:i5}{ρ:List c8}{H:List O}{h:NV}{gs:GT}
theorem d9.lows(S:d9 w F ρ H h gs):X1 F.lo h F.fr/\∀b∈F.lo,∃o d c,h.get? b=some o/\o.data=.dict d c:=by
 refine⟨λe f=>?_,λb m=>?_⟩;·obtain⟨l,L,o,a,g,d,c,i⟩:=S.fo e f;refine a9 (S.keep L o g) λk j u=>?_;exact⟨l,L,k,a,List.mem_filterMap.mpr ⟨e,f,a⟩,j,d,c,u.same.2.1.trans i⟩
 · refine a9 (List.mem_filterMap.mp m) λe f n=>?_;obtain⟨l,L,o,a,g,d,c,i⟩:=S.fo e f;injection n.symm.trans a with a;subst a;refine a9 (S.keep b o g) λk j u=>?_;exact gi k d c j (u.same.2.1.trans i)
end
theorem ur{L:List Nat}{h:NV}(g:∀b∈L,∃o e d,h.get? b=some o/\o.data=.dict e d){t:Nat}{a:List NS}(i:h.get? t=some {cls:=.type "tuple",data:=.seq a.toArray}):t∉L:=λq=>by refine E5 (g t q) λo e d c f=>?_;injection i.symm.trans c with c;subst c;cases f
noncomputable abbrev ut(env:Env)(F:i5):List Nat:=(n6 env F).filterMap (·.frame)
structure O9(X:String):Prop where
 stop:ew (.type X) (.type "StopIteration")=pure false
 rng:X≠"range"
 ty:eJ (.type X)=pure (.type "type")
structure X2(w:NQ)(fi:FI)(env:Env)(m:b9)(F:i5)(ρ₀:List c8)(s₀:NR)(H:List O)(ρ:List c8)(L:List Nat)(h₁:NV)(t x:Nat)(args:List NS)(s:NR):Prop where
 dict:∀b∈L,∃o es ep,h₁.get? b=some o/\o.data=.dict es ep
 tup:h₁.get? t=some {cls:=.type "tuple",data:=.seq args.toArray}
 tx:t≠x
 tL:t∉L
 off:y4 fi env F ρ [x]
 land:∀h'',O7 L x h₁ h''->e8 ρ₀ s₀ ρ {s with heap:=h''}/\d6 w fi env m F ρ H h'' (gt s)
section
variable(w:NQ)(fi:FI)(env:Env)(m:b9)(F:i5)(ρ₀:List c8)(s₀:NR)(X:String)(msg:Option Str)(H:List O)(x:Nat)(s:NR)
inductive hO:Prop|mk{ρ:List c8}{L:List Nat}{t:Nat}{args:List NS}{h₀:NV}(ha:bx msg args)(n:X2 w fi env m F ρ₀ s₀ H ρ L s.heap t x args s)(hm:NV.MadeExc h₀ s.heap x X args)(fr:X1 L s.heap (env::F.fr)):hO
inductive U6(l:List Env):Prop|mk{ρ:List c8}{L:List Nat}{h₁:NV}{t:Nat}{args:List NS}(ha:bx msg args)(n:X2 w fi env m F ρ₀ s₀ H ρ L h₁ t x args s)(fl:O8 L x (.type X) (.ref t) l h₁ s.heap):U6 l
inductive bC:Prop|mk{ρ:List c8}{L:List Nat}{h₁:NV}{t:Nat}{args:List NS}(ha:bx msg args)(n:X2 w fi env m F ρ₀ s₀ H ρ L h₁ t x args s)(fl:km L x (.type X) (.ref t) (env::F.fr) env.locals h₁ s.heap):bC
inductive F9:Prop|new(e:hO w fi env m F ρ₀ s₀ X msg H x s):F9|fly(e:U6 w fi env m F ρ₀ s₀ X msg H x s (env::F.fr)):F9|held(e:bC w fi env m F ρ₀ s₀ X msg H x s):F9
end
section
variable{w:NQ}{fi:FI}{env:Env}{m:b9}{F:i5}{ρ₀:List c8}{s₀:NR}{X:String}{msg:Option Str}{H:List O}{x:Nat}{s:NR}{M:Model}{A:NT}{E:VP}
theorem X2.re{ρ:List c8}{L:List Nat}{b h':NV}{t t':Nat}{a:List NS}(n:X2 w fi env m F ρ₀ s₀ H ρ L b t x a s)(c:b.get? t'=some {cls:=.type "tuple",data:=.seq a.toArray})(d:t'≠x):X2 w fi env m F ρ₀ s₀ H ρ L b t' x a {s with heap:=h'}:=⟨n.dict,c,d,ur n.dict c,n.off,n.land⟩
theorem hO.of{ρ:List c8}{v:NV}{a:List NS}(g:env.frame=some env.locals)(y:O9 X)(z:bx msg a)(C:e8 ρ₀ s₀ ρ s)(S:d6 w fi env m F ρ H s.heap (gt s))(j:NV.MadeExc v s.heap x X a)(e:y4 fi env F ρ [x]):hO w fi env m F ρ₀ s₀ X msg H x s:=by
 refine m9 j.there λt d D f=>?_;refine d7 S.toH.lows λi c=>?_;have l:n6 env F=env::F.fr:=gZ g;have i:X1 (ut env F) s.heap (env::F.fr):=by rw[<-l];exact i
 have c:∀b∈ut env F,∃o r p,s.heap.get? b=some o/\o.data=.dict r p:=c;have k:∀o,s.heap.get? x=some o->¬H9 o:=λo h=>by
  injection d.symm.trans h with h;subst h;rintro(⟨⟨xs,n,q⟩,_⟩|⟨q,_⟩);·cases q
  ·exact y.rng (by injection q)
 refine .mk z ⟨c,f,λq=>?_,ur c f,e,λu n=>⟨C.trans (.same (n.tk c k) rfl (ae _)),S.noted n c k e λb B=>.inl B⟩⟩ j i;rw[q]at f;exact by injection f.symm.trans d with q;injection q with _ _ q;injection q
theorem hO.note(b:A.frames=some (env::F.fr))(a:env.frame=some env.locals)(e:hO w fi env m F ρ₀ s₀ X msg H x s)(h:∀h',bC w fi env m F ρ₀ s₀ X msg H x {s with heap:=h'}->Q () {s with heap:=h'}):aJ M A (noteFrame (.ref x) env) Q E s:=by cases e with|mk g n i f=>exact Gf b a n.dict f i λh' k d j c=>h h' (.mk g (n.re j c) d)
theorem U6.note(c:A.frames=some (env::F.fr))(b:env.frame=some env.locals)(e:U6 w fi env m F ρ₀ s₀ X msg H x s (env::F.fr))(h:∀h',bC w fi env m F ρ₀ s₀ X msg H x {s with heap:=h'}->Q () {s with heap:=h'}):aJ M A (noteFrame (.ref x) env) Q E s:=by cases e with|mk f n a=>exact wpAny_looks_onW c b a.fl λh' d g=>h h' (.mk f (n.re n.tup n.tx) ⟨d,br a.nt n.dict d.1 g,a.fr⟩)
theorem F9.note(b:A.frames=some (env::F.fr))(a:env.frame=some env.locals)(e:F9 w fi env m F ρ₀ s₀ X msg H x s)(h:∀h',bC w fi env m F ρ₀ s₀ X msg H x {s with heap:=h'}->Q () {s with heap:=h'}):aJ M A (noteFrame (.ref x) env) Q E s:=by cases e with|new e=>exact e.note b a h|fly e=>exact e.note b a h|held e=>cases e with|mk d n c=>exact wpAny_noteFrame_againW a c.fl.2.2.2 (h s.heap (.mk d n c))
theorem bC.back(b:env.frame=some env.locals)(e:bC w fi env m F ρ₀ s₀ X msg H x s)(h:∀h',bC w fi env m F ρ₀ s₀ X msg H x {s with heap:=h'}->Q () {s with heap:=h'}):aJ M A (do
  if(<-field (.ref x) 1)==.none then unsupported "frame.own-activation:exception-without-traceback"
  setFlight (.ref x) env.frame) Q E s:=by cases e with|mk d n c=>exact Gg b n.dict c λh' a=>h h' (.mk d (n.re n.tup n.tx) a)
theorem F9.leave(f:A.frames=some (env::F.fr))(d:env.frame=some env.locals)(e:F9 w fi env m F ρ₀ s₀ X msg H x s)(h:∀h',U6 w fi env m F ρ₀ s₀ X msg H x {s with heap:=h'} F.fr->Q () {s with heap:=h'}):aJ M A (leaving env (.ref x)) Q E s:=by cases e with
 |new e=>cases e with|mk c n j i=>exact FX f n.dict i j λh' l b k g=>h h' (.mk c (n.re k g) b)
 |fly e=>cases e with|mk c n b=>exact FY f (by rw[d];rfl) n.dict b λh' a=>h h' (.mk c (n.re n.tup n.tx) a)
 |held e=>cases e with|mk c n b=>exact Gh d n.dict b λh' a=>h h' (.mk c (n.re n.tup n.tx) a)
theorem F9.landed(d:A.frames=some (env::F.fr))(c:env.frame=some env.locals)(e:F9 w fi env m F ρ₀ s₀ X msg H x s)(h:∀h',U6 w fi env m F ρ₀ s₀ X msg H x {s with heap:=h'} (env::F.fr)->Q () {s with heap:=h'}):aJ M A (noteFrame (.ref x) env) (λ_ k=>aJ M A (setFlight (.ref x) none) Q E k) E s:=e.note d c λh' g=>by cases g with|mk i n a=>exact wpAny_landsW a.fl λb f j=>h b (.mk i (n.re n.tup n.tx) ⟨f,br a.nt n.dict f.1 j,a.fr⟩)
end
section
variable{w:NQ}{F:i5}{ρ:List c8}{H:List O}{h:NV}{gs gs':GT}{i:Nat}{e:c8}{fi:FI}{m:b9}
theorem GR.gens(x:GR gs e o)(f:∀y,e.g=some y->gs'.a[y.1]?=gs.a[y.1]?)(hz:gs.a.size<=gs'.a.size)(p:gs.n<=gs'.n):GR gs' e o:=by cases o with|fresh fi j m=>(refine t8 x λg b c d=>?_;try clear x);exact G7 g b c ((f _ c).trans d) |gone=>exactλy q=>aB (x y q) hz|done=>(refine t8 x λg b c d=>?_;try clear x);exact G7 g b c ((f _ c).trans d) |slp a fi m rest k y n=>(refine F6 x λg b z c d l=>?_;try clear x);exact Q2 g b z c ((f _ c).trans d) l |clk n=>exact ad x p|_=>exact trivial
theorem d9.outAt(S:d9 w F ρ H s.heap (gt s))(d:ρ[i]?=some e)(A:H[i]?=some o)(u:e.g=some (g,env))(lt:g<s.gens.size):d9 w F (ρ.set i ⟨e.a,[],e.g⟩) (H.set i .gone) s.heap (gt (s.setGen g .running)):=by
 have p:∀b∈l7 (ρ.set i ⟨e.a,[],e.g⟩),b∈l7 ρ:=λb n=>(ug rfl).subset n;have B:=lU (f:=⟨e.a,[],e.g⟩) d rfl;refine⟨S.bs,S.keep,by rw[ax,ax];exact S.len,λj f o a c=>?_,λb n=>S.live b (p b n),S.nd.sublist (ug rfl),λb n=>S.off b (p b n),by rw[ue (f:=⟨e.a,[],e.g⟩) d rfl];exact S.gn,λk z t=>?_,λj f o a c=>?_,S.fo,S.tp⟩
 · by_cases q:i=j;·subst q;rw[au (ab.mp d).1]at a;rw[au (ab.mp A).1]at c;injection a with a;subst a;injection c with c;subst c;exact .inr (by show e.g.isSome=true;rw[u];rfl)
   ·rw[ag q]at a c;exact(S.ob j f o a c).ents B.symm
 · by_cases q:k=g;·subst q;rw[uk lt]at t;rw[<-bV t];exact .inl rfl
   · rw[lV q]at t;refine(S.bare k z t).imp id (iH λj f I l r v C D=>?_);have a:i≠j:=λw=>by subst w;injection d.symm.trans r with r;subst r;cases u.symm.trans v;exact q rfl
     exact Z8 j f I l (by exact(ag a).trans r) v (by exact(ag a).trans C) D
 · by_cases q:i=j;·subst q;rw[au (ab.mp d).1]at a;rw[au (ab.mp A).1]at c;injection a with a;subst a;injection c with c;subst c;exactλx E=>by rw[jc];exact S.glt (aY d) E
   ·rw[ag q]at a c;exact(S.gf j f o a c).gens (λy G=>lV (bg (ui S.gn d a q u G))) (by rw[jc];exact ae _) (ae _)
end
theorem j0.ask(h:j0 A (d+1) F.fr)(b:env.frame=some env.locals)(a:List NW):j0 (A.in1.over (.func a env) []) d (n6 env F):=by
 refine⟨by rw[gZ b];show A.frames.map ([env]++·)=_;rw[h.fr];rfl,h.hd,?_,?_⟩;·have:=h.dp;exact Au this
 ·have:=h.un;exact CW this
inductive D9 where|txt(x:Str)|nothing|err(X:String)(msg:Option Str)
inductive U7(w:NQ)(F:i5)(ρ:List c8)(s:NR)(X:String)(msg:Option Str)(H:List O)(x:Nat)(l:List Env)(s':NR):Prop|mk{ρ':List c8}{L:List Nat}{h₁:NV}{t:Nat}{args:List NS}(ha:bx msg args)(dict:∀b∈L,∃o es ep,h₁.get? b=some o/\o.data=.dict es ep)(tup:h₁.get? t=some {cls:=.type "tuple",data:=.seq args.toArray})(tx:t≠x)(tL:t∉L)(off:F.f x=none/\x∉l7 ρ')(fl:O8 L x (.type X) (.ref t) l h₁ s'.heap)(land:∀h'',O7 L x h₁ h''->e8 ρ s ρ' {s' with heap:=h''}/\d9 w F ρ' H h'' (gt s')):U7 w F ρ s X msg H x l s'
theorem U7.exc{w F ρ s X msg H x l s'}(h:U7 w F ρ s X msg H x l s'):∃o,s'.heap.get? x=some o/\o.cls=.type X:=by cases h with|mk k b a j i g d c=> refine a9 (d.exc a j i) λ_ q _=>?_;refine i8 q λo m f e _=>?_;exact⟨o,f,e⟩
structure r7(w:NQ)(fi:FI)(env:Env)(F:i5)(ρ:List c8)(H:List O)(s:NR)(i:Nat)(e:c8)(g:Nat):Prop where
 S:d9 w F ρ H s.heap (gt s)
 he:ρ[i]?=some e
 hg:e.g=some (g,env)
 lt:g<s.gens.size
 fp:e.fp=e.a::j9 fi env
 gen:s9 s.heap e.a g 0
 int:eV env=false
 fr:env.frame=some env.locals
 sc:env.scope=fi.sc
 own:fi.own=true
section
variable{w:NQ}{fi:FI}{env:Env}{F:i5}{ρ ρ':List c8}{H H':List O}{s s₁:NR}{i:Nat}{e:c8}{g:Nat}{m m':b9}
noncomputable abbrev r7.bF(F:i5)(s:NR)(e:c8):i5:=F8 F s.heap [e.a]
theorem r7.nd(X:r7 w fi env F ρ H s i e g):e.fp.Nodup:=uj X.S.nd (aY X.he)
theorem r7.mem(X:r7 w fi env F ρ H s i e g):e.a∈e.fp:=by rw[X.fp];exact .head _
theorem r7.off(X:r7 w fi env F ρ H s i e g):y4 fi env F (ρ.set i ⟨e.a,[],e.g⟩) [e.a]:=λb a=>by rw[af.mp a];exact i9 (X.S.off _ (M1 X.he X.mem)) (uh X.S.nd X.he rfl X.mem) ((ck.mp (X.fp▸X.nd)).1)
theorem r7.live(X:r7 w fi env F ρ H s i e g):∀b∈[e.a],∃o,s.heap.get? b=some o:=λb a=>by rw[af.mp a]; refine E5 X.gen λo _ _ h _=>?_;exact⟨o,h⟩
theorem r7.T(X:r7 w fi env F ρ H s i e g)(d:H[i]?=some o)(f:I0 fi env m ρ s.heap):d6 w fi env m F (ρ.set i ⟨e.a,[],e.g⟩) (H.set i .gone) s.heap (gt (s.setGen g .running)):=by
 have c:=lU (f:=⟨e.a,[],e.g⟩) X.he rfl;have f:=f.ents c.symm;refine⟨X.S.outAt X.he d X.hg X.lt,f.es,f.eg,f.eb,f.ec,f.ek,.inl f.ef,λb h=>?_,f.ns,f.cl,f.ce,f.cn,f.cu,f.cd,λq=>by rw[X.own]at q;cases q⟩;have a:b∈e.fp:=by rw[X.fp];exact .tail _ h
 exact⟨X.S.off b (M1 X.he a),uh X.S.nd X.he rfl a⟩
theorem r7.start(X:r7 w fi env F ρ H s i e g)(T:d6 w fi env m F (ρ.set i ⟨e.a,[],e.g⟩) (H.set i .gone) s.heap (gt (s.setGen g .running))):d6 w fi env m (r7.bF F s e) (ρ.set i ⟨e.a,[],e.g⟩) (H.set i .gone) (s.setGen g .running).heap (gt (s.setGen g .running)):=T.rebase X.off
theorem Gq(S:d9 w F ρ H h gs)(d:ρ[i]?=some ⟨a,[],some x⟩):H[i]?=some .gone:=by
 have c:i<H.length:=by rw[<-S.len];exact(ab.mp d).1
 have y:=S.ob i _ _ d (aw c);rw[aw c];cases q:H[i]with|list xs=>rw[q]at y;cases y.1|arr xs=>rw[q]at y;cases y.2.1|inst C fs=>rw[q]at y;cases y.1|tbl P ps=>rw[q]at y;cases y.2.2.1|fresh fi b m=>rw[q]at y;(refine i8 y λ_ _ _ z _=>?_;try clear y);injection z|gone=>rfl|done=>rw[q]at y;(refine F6 y λ_ _ _ _ z _=>?_;try clear y);injection z|slp a fi m rest k w n=>rw[q]at y;(refine fg y λ_ _ _ _ z _=>?_;try clear y);injection z|rit I lo n=>rw[q]at y;cases y.2.1|prd R=>rw[q]at y;cases y.1|clk n=>rw[q]at y;cases y.1|tit I xs n=>rw[q]at y;cases y.2.1|lit I l n=>rw[q]at y;cases y.2.1
theorem r7.back(X:r7 w fi env F ρ H s i e g)(v:d6 w fi env m F (ρ.set i ⟨e.a,[],e.g⟩) (H.set i .gone) s.heap (gt (s.setGen g .running)))(r:e8 (ρ.set i ⟨e.a,[],e.g⟩) (s.setGen g .running) ρ' s₁)(T:d6 w fi env m' (r7.bF F s e) ρ' H' s₁.heap (gt s₁))(hz:z.bare=true\/D1 o'=true)(L:s9 s₁.heap e.a g 0->I0 fi env m' (ρ'.set i e) s₁.heap->OR F (ρ'.set i e) s₁.heap e o')(W:(s₁.setGen g z).gens[g]?=some z->GR (gt (s₁.setGen g z)) e o'):d9 w F (ρ'.set i e) (H'.set i o') (s₁.setGen g z).heap (gt (s₁.setGen g z))/\s9 s₁.heap e.a g 0/\I0 fi env m' (ρ'.set i e) s₁.heap/\e8 ρ s (ρ'.set i e) (s₁.setGen g z)/\ρ'[i]?=some ⟨e.a,[],some (g,env)⟩:=by
 refine n8 (d6.unbase v X.off X.live r.1 r.2.2.2 T) λU p Q=>?_;have P:=(ab.mp X.he).1;have d:ρ'[i]?=some ⟨e.a,[],some (g,env)⟩:=by rw[<-X.hg];exact x6 r.1 (au P)
 have K:i<ρ'.length:=(ab.mp d).1;have R:s.gens.size<=s₁.gens.size:=by have:=r.2.2.1.2;rw[jc]at this;exact this
 have J:g<s₁.gens.size:=aB X.lt R;have Z:∀b∈e.fp,b∉l7 ρ'/\F.f b=none/\∃o,s₁.heap.get? b=some o:=λb D=>by
  rw[X.fp]at D;rcases az.mp D with rfl|D;· refine E5 X.gen λo _ _ h _=>?_;exact V8 ((p _ (.head _)).2.1) ((p _ (.head _)).1) o (Q _ (.head _) o h)
  · have lo:=U.lo b D;refine b8 (U.own_live b D) λo M=>?_;obtain⟨A,_⟩|⟨o2,A⟩:=M;·exact V8 lo.2 lo.1 o A
    ·exact V8 lo.2 lo.1 o2 A
 have B:=U.hs.back d X.hg X.nd X.mem Z;have S:=lU (f:=e) d rfl;have Y:Q6 s.gens.size ρ (ρ'.set i e):=λj f a O=>by rw[ag (by exact CX P a)]at O;have:=r.2.2.2 j f (by rw[ax];exact a) O;rw[jc]at this;exact this
 have n:=X.gen.at (Q _ (.head _));have E:=(U.frame X.fr).ents S.symm;have l:(ρ'.set i e)[i]?=some e:=au K;have C:=Gq U.hs d;have t:(H'.set i o')[i]?=some o':=au (ab.mp C).1;have G:(s₁.setGen g z).gens[g]?=some z:=uk J;refine Q0 ⟨B.bs,B.keep,B.len.trans ax.symm,λj f o a c=>?_,B.live,B.nd,B.off,B.gn,λk y u=>?_,λj f o a c=>?_,B.fo,B.tp⟩ n E (j8 (FH X.he r.1) r.2.1 ⟨r.2.2.1.1,by rw[jc];exact R⟩ Y) d
 · by_cases q:i=j;·subst q;rw[l]at a;rw[t]at c;injection a with a;subst a;injection c with c;subst c;exact L n E
   ·rw[ag q]at c;exact B.ob j f o a c
 · by_cases q:k=g;·subst q;injection G.symm.trans u with u;subst u;exact hz.imp id λhz=>Z8 i e o' env l X.hg t hz
   · rw[lV q]at u;refine(B.bare k y u).imp id (iH λj f o x A V I N=>?_);have a:i≠j:=λw=>by subst w;injection C.symm.trans I with I;subst I;injection N
     exact Z8 j f o x A V (by exact(ag a).trans I) N
 · by_cases q:i=j;·subst q;rw[l]at a;rw[t]at c;injection a with a;subst a;injection c with c;subst c;exact W G
   ·rw[ag q]at c;exact(B.gf j f o a c).gens (λy u=>lV (bg (ui B.gn l a q X.hg u))) (by rw[jc];exact ae _) (ae _)
theorem r7.left(X:r7 w fi env F ρ H s i e g)(a:d6 w fi env m F (ρ.set i ⟨e.a,[],e.g⟩) (H.set i .gone) s.heap (gt (s.setGen g .running)))(M:U6 w fi env m' (r7.bF F s e) (ρ.set i ⟨e.a,[],e.g⟩) (s.setGen g .running) Xn msg H' x s₁ F.fr)(O:O9 Xn):lY e.a g x s₁/\U7 w F ρ s Xn msg (H'.set i .done) x F.fr (s₁.setGen g .finished):=by
 cases M with|@mk ρ' L D t C I n r=>?_;refine d7 (n.land s₁.heap r.nt) λR T=>?_;refine L8 (X.back a R T (z:=.finished) (o':=.done) (.inl rfl) (λb _=>Q2 g env (j9 fi env) X.hg X.fp b) λb=>G7 g env X.hg b) λB h K S u=>?_;refine n8 (n.off x (.head _)) λA U V=>?_;refine b8 (X.live _ (.head _)) λW v=>?_;have E:x≠e.a:=λq=>by rw[q,show(r7.bF F s e).f e.a=s.heap.get? e.a from lD (.head _),v]at A;injection A
 have G:F.f x=none:=by have:(r7.bF F s e).f x=F.f x:=iQ λq=>E (af.mp q);exact this.symm.trans A
 have Q:=uf (e:=e) u rfl;refine⟨⟨h,Xn,?_,O.stop⟩,.mk (ρ':=ρ'.set i e) I n.dict n.tup n.tx n.tL ⟨G,λq=>?_⟩ r λd P=>?_⟩;· refine a9 (r.exc n.tup n.tx n.tL) λ_ y _=>?_; refine i8 y λo Y N J _=>?_;exact b7 o N J
 · refine(aX.mp (Q.mem_iff.mp q)).elim (λq=>?_) λq=>?_
   · rw[X.fp]at q;refine(az.mp q).elim (λq=>?_) λq=>?_;·exact E q
     ·exact V q
   ·exact U q
 · refine d7 (n.land d P) λj p=>?_;refine L8 (X.back (s₁:={s₁ with heap:=d}) a j p (z:=.finished) (o':=.done) (.inl rfl) (λb _=>Q2 g env (j9 fi env) X.hg X.fp b) λb=>G7 g env X.hg b) λl k _ c _=>?_;exact⟨c,l⟩
end
inductive je(w:NQ)(F:i5)(ρ:List c8)(s:NR)(a:Nat)(Q:D9->List O->Prop):Option NS->NR->Prop|mk{s':NR}(ρ':List c8)(H':List O)(x:Str)(t:Nat)(st:e8 ρ s ρ' s')(T:d9 w F ρ' H' s'.heap (gt s'))(g:∃g,s9 s'.heap a g 0)(q:Q (.txt x) H'):je w F ρ s a Q (some (.str x t)) s'
inductive hS(w:NQ)(F:i5)(ρ:List c8)(s:NR)(l:List Env)(a:Nat)(Q:D9->List O->Prop):NS->NR->Prop|stop{b:Nat}{s':NR}(ρ':List c8)(H':List O)(hs:hN s'.heap b)(st:e8 ρ s ρ' s')(T:d9 w F ρ' H' s'.heap (gt s'))(g:∃g,s9 s'.heap a g 0)(q:Q .nothing H'):hS w F ρ s l a Q (.ref b) s'|err{b:Nat}{s':NR}(X:String)(msg:Option Str)(H':List O)(fl:U7 w F ρ s X msg H' b l s')(hx:O9 X)(q:Q (.err X msg) H'):hS w F ρ s l a Q (.ref b) s'
def F0(w:NQ)(d:Nat)(H:List O)(i:Nat)(Q:D9->List O->Prop):Prop:=∀A F ρ s e,j0 A (d+1) F.fr->d9 w F ρ H s.heap (gt s)->ρ[i]?=some e->(∃g,s9 s.heap e.a g 0)/\g8 (ay pP w) A (callSpecial? (.ref e.a) (aa "__next__")) (je w F ρ s e.a Q) (hS w F ρ s F.fr e.a Q) s
theorem je.mono{w F ρ s a r s'}(h:je w F ρ s a Q r s')(b:∀a H',Q a H'->Q' a H'):je w F ρ s a Q' r s':=by cases h with|mk ρ' H' x t c T g q=>exact⟨ρ',H',x,t,c,T,g,b _ _ q⟩
theorem hS.mono{w F ρ s l a r s'}(h:hS w F ρ s l a Q r s')(b:∀a H',Q a H'->Q' a H'):hS w F ρ s l a Q' r s':=by cases h with|stop ρ' H' d f T g q=>exact .stop ρ' H' d f T g (b _ _ q)|err X msg H' c e q=>exact .err X msg H' c e (b _ _ q)
theorem F0.mono(h:F0 w d H i Q)(b:∀a H',Q a H'->Q' a H'):F0 w d H i Q':=λA F k s e f S g=>have c:=h A F k s e f S g
 ⟨c.1,o0 c.2 (λr j x=>x.mono b) λv j x=>x.mono b⟩
structure GX where
 w:NQ
 fi:FI
 env:Env
 F:i5
 ρ:List c8
 s:NR
inductive M5 where|yld(x:Str)(rest:List NW)(k:Kt)(y:Option Nat)|ret|exc(X:String)(msg:Option Str)
section
variable(X:GX)(Q:M5->b9->List O->Prop)
inductive G1:NS->GenState->NR->Prop|mk{z:GenState}{s₁:NR}{x:Str}{u:Nat}{ρ':List c8}{m':b9}{H':List O}{rest:List NW}{k:Kt}{y:Option Nat}(hz:z.bare=true\/y.isSome=true)(sl:iO z X.env rest k y)(st:e8 X.ρ X.s ρ' s₁)(S:d6 X.w X.fi X.env m' X.F ρ' H' s₁.heap (gt s₁))(q:Q (.yld x rest k y) m' H'):G1 (.str x u) z s₁
inductive F1:cz->NR->Prop|ret{s₁:NR}{ρ':List c8}{m':b9}{H':List O}(st:e8 X.ρ X.s ρ' s₁)(S:d6 X.w X.fi X.env m' X.F ρ' H' s₁.heap (gt s₁))(q:Q .ret m' H'):F1 (.ok (.ret .none)) s₁|exc{s₁:NR}{x:Nat}{Xn:String}{msg:Option Str}{m':b9}{H':List O}(fl:U6 X.w X.fi X.env m' X.F X.ρ X.s Xn msg H' x s₁ X.F.fr)(hx:O9 Xn)(q:Q (.exc Xn msg) m' H'):F1 (.error (.ref x)) s₁
def GO(A:NT)(c:Code)(fs:List Frame)(m:b9)(H:List O)(t:Sem Fin):Prop:=∀ρ s,e8 X.ρ X.s ρ s->d6 X.w X.fi X.env m X.F ρ H s.heap (gt s)->q8 (ay pP X.w) A (G1 X Q) (F1 X Q) c t fs s
end
structure GX.Is(X:GX)(w:NQ)(fi:FI):Prop where
 hw:X.w=w
 hfi:X.fi=fi
 hfr:X.env.frame=some X.env.locals
 hint:eV X.env=false
 hsc:X.env.scope=fi.sc
def GW(w:NQ)(fi:FI)(d:Nat)(k:Kt)(m:b9)(H:List O)(rest:List NW)(Q:M5->b9->List O->Prop):Prop:=∀(X:GX)A c fs K a,X.Is w fi->j0 A (d+1) X.F.fr->E7 X.env k c fs K a->GO X Q A.in1 c fs m H ((execs rest X.env).wrap K a id id)
theorem E7.room{d:Nat}(i:env.frame=some env.locals)(g:j0 A (d+1) F.fr){K:Flow->Sem Fin}{e:NS->Sem Fin}(h:E7 env k c fs K e):j0 (A.in1.over c fs) d (n6 env F):=by induction h with|top a=>exact j0.ask g i a|loop f j b=>exact j0.ret b rfl rfl|seq f b=>exact b
theorem E7.fok{K:Flow->Sem Fin}{d:NS->Sem Fin}(h:E7 env k c fs K d):ja fs:=by induction h with|top b=>exact .nil|loop e f a=>exact a.ret|seq e a=>exact a
section
variable{X:GX}{Q:M5->b9->List O->Prop}{A:NT}{d:Nat}{m:b9}{H:List O}{s:NR}
theorem E7.exc{f:String}{msg:Option Str}{x:Nat}(a:X.env.frame=some X.env.locals)(p:j0 A (d+1) X.F.fr)(v:O9 f)(u:Q (.exc f msg) m H){k:Kt}{c:Code}{fs:List Frame}{K:Flow->Sem Fin}{l:NS->Sem Fin}(h:E7 X.env k c fs K l):∀{s:NR},F9 X.w X.fi X.env m X.F X.ρ X.s f msg H x s->q8 (ay pP X.w) A.in1 (G1 X Q) (F1 X Q) c (l (.ref x)) fs s:=by induction h with|top b=>exactλ{s}e=>Q4 (up (e.leave ((j0.ask p a b).fr.trans (congrArg some (gZ a))) a λo r=>oo (.error (.ref x)) (.exc r v u)))|loop n i j=>exactλ{s}e=>(i X.w A.in1 (G1 X Q) (F1 X Q) s).er _ (e.note ((E7.room a p (.loop n i)).fr.trans (congrArg some (gZ a))) a λo q=>jP (.error (.ref x)) ((i X.w A.in1 (G1 X Q) (F1 X Q) {s with heap:=o}).ke _ (q.back a λt g=>j (.held g))))|seq n j=>exact j
theorem E7.retn(i:Q .ret m H)(j:e8 X.ρ X.s ρ s)(S:d6 X.w X.fi X.env m X.F ρ H s.heap (gt s)){K:Flow->Sem Fin}{f:NS->Sem Fin}(h:E7 X.env k c fs K f):q8 (ay pP X.w) A (G1 X Q) (F1 X Q) c (K (.ret .none)) fs s:=by induction h with|top b=>exact oo (.ok (.ret .none)) (.ret j S i)|loop g e a=>exact(e X.w A (G1 X Q) (F1 X Q) s).rt _ (jP (.ok (.ret .none)) ((e X.w A (G1 X Q) (F1 X Q) s).kr _ a))|seq g a=>exact a
end
section
set_option backward.match.sparseCases true
def SX(w:NQ)(fi:FI)(d:Nat)(m:b9)(H:List O)(a:NW)(X:String)(msg:Option Str)(Q:List O->Prop):Prop:=∀A env F ρ s,j0 A d (n6 env F)->d6 w fi env m F ρ H s.heap (gt s)->aJ (ay pP w) A (exec a env) (λ_ _=>False) (lZ w fi env m F ρ s X msg Q) s
def l5(w:NQ)(H:List O)(I:Nat)(Q:Option V->List O->Prop):Prop:=∀A F ρ s,A.handled=none->d9 w F ρ H s.heap (gt s)->aJ (ay pP w) A (dL (.ref I)) (λr a=>∃ρ' H' o,e8 ρ s ρ' a/\d9 w F ρ' H' a.heap (gt a)/\(match o with|none=>r=none|some v=>∃u,r=some u/\VR ρ' a.heap v u/\∃ob n,a.heap.get? I=some ob/\ob.cls=.type n/\["enumerate","zip","dict_itemiterator","dict_reverseitemiterator","odict_iterator","itertools.zip_longest","itertools.pairwise"].contains n=false)/\Q o H') (λ_ _=>False) s
def l8(w:NQ)(H:List O)(v:V)(Q:Nat->List O->Prop):Prop:=∀A F ρ s u,d9 w F ρ H s.heap (gt s)->VR ρ s.heap v u->aJ (ay pP w) A (pyIter u) (λb a=>∃ρ' H' I,b=.ref I/\e8 ρ s ρ' a/\d9 w F ρ' H' a.heap (gt a)/\Q I H') (λ_ _=>False) s
section
variable{w:NQ}{fi:FI}{d:Nat}{k:Kt}{m:b9}{H:List O}{rest:List NW}{Q:M5->b9->List O->Prop}
theorem pr(h:Q .ret m H):GW w fi d (.top body) m H [] Q:=λX A c i K g e j a o s f S=>by obtain⟨rfl,rfl,l,n,b⟩:=e;cases a;exact oo (.ok (.ret .none)) (.ret f S h)
theorem uu(h:GW w fi d k m H r Q):GW w fi d (.seq r k) m H [] Q:=λX A c e K b g f a j s i S=>by cases a with|seq a=>exact h X A c e _ b g f a j s i S
theorem E0(h:WS w fi d m H s₀ λf y H'=>match f with|.next=>GW w fi d k y H' rest Q|.ret .none=>Q .ret y H'|_=>False):GW w fi d k m H (s₀::rest) Q:=λX A c D K B t q g I s z S=>by have i:=t;obtain⟨rfl,rfl,E,J,F⟩:=t;rw[execs_cons_wrap];refine Q4 (up (ar (h _ X.env X.F I s (g.room E q) S) (λf e G=>?_) λ_ _ x=>x.elim));obtain⟨n,o,L,C,b,p,l,a⟩:=G;cases C with
 |next=>subst l;exact a X A c D K B i q g n e (z.trans b) p|ret v=>
  refine a9 l λu j r=>?_;try clear l;subst j
  cases v with|none=>subst r;exact E7.retn a (z.trans b) p g|_=>exact a.elim
 |_=>exact a.elim
theorem F9.raised{X:GX}{a:String}{msg:Option Str}{ρ:List c8}{s s':NR}{e:List O->Prop}{v:NS}(j:X.env.frame=some X.env.locals)(o:O9 a)(p:e8 X.ρ X.s ρ s)(h:lZ X.w X.fi X.env m X.F ρ s a msg e v s'):∃x H',v=.ref x/\F9 X.w X.fi X.env m X.F X.ρ X.s a msg H' x s'/\e H':=by obtain⟨ρ',H',q,x,f,rfl,c,g,i,l,b,n⟩:=h;exact⟨x,H',rfl,.new (hO.of j o i (p.trans c) g l b),n⟩
theorem uv{s₀:NW}{a:String}{msg:Option Str}(j:O9 a)(h:SX w fi d m H s₀ a msg λH'=>Q (.exc a msg) m H'):GW w fi d k m H (s₀::rest) Q:=λX A c y K u q i g t s r S=>by obtain⟨rfl,rfl,b,z,p⟩:=q;rw[execs_cons_wrap];refine Q4 (up (ar (h _ X.env X.F t s (g.room b i) S) (λ_ _ x=>x.elim) λv l o=>?_));refine i8 (F9.raised b j r o) λx H' f e n=>?_;subst f;exact g.exc b i j n e
theorem pt(h:WT w fi d m H test λb H'=>GW w fi d (.seq rest k) m H' (if b=true then body else orelse) Q):GW w fi d k m H (.If test body orelse pos::rest) Q:=λX A c p K l r q o C s B S=>by
 have g:=r;obtain⟨rfl,rfl,u,E,v⟩:=r;rw[execs_cons_wrap,exec_If];refine jO ?_;show q8 _ _ _ _ c (((isTrue test X.env (eval test X.env)).bind λb=>if b=true then execs body X.env else execs orelse X.env).wrap _ _ _ _) p s;rw[Sem.bind_eq_wrap,Sem.wrap_wrap];refine Q4 (up (ar (h _ X.env X.F C s (o.room u q) S) (λb e y=>?_) λ_ _ x=>x.elim));obtain⟨j,n,D,i,t,z,a⟩:=y;subst z;have:=a X A c p (λf=>match f with|.next=>(execs rest X.env).wrap K l id id|f=>K f) l g q (.seq o) j e (B.trans i) t;cases b;·exact this
 ·exact this
theorem Gr(g:fi.sc.isCoroutine=false)(h:WE w fi d m H e λv H'=>∃x,v=.str x/\Q (.yld x rest k none) m H'):GW w fi d k m H (.Expr (.Yield (some e) ypos) pos::rest) Q:=λX A c q K t E z a I s G S=>by
 obtain⟨rfl,rfl,B,C,i⟩:=E;rw[execs_cons_wrap,exec_Expr X.env _ pos C rfl];show q8 _ _ _ _ c (.at pos λ_=>((eval e X.env>>=λv=>dl ypos>>=λ_=>yieldOut X.env v)>>=λx=>dropValue (.Yield (some e) ypos) pos x).wrap _ t id id) q s;have hy:∀v,yieldOut X.env v=yieldValue v:=λv=>by simp only[yieldOut,i,g,bJ,if_false]
 simp only[hy];refine jO ?_;rw[Sem.bind_eq_wrap',Sem.bind_eq_wrap',Sem.wrap_wrap,Sem.wrap_wrap];refine Q4 (up (ar (h _ X.env X.F I s (a.room B z) S) (λv r D=>?_) λ_ _ x=>x.elim));obtain⟨J,o,x',n,y,F,f⟩:=D;refine a9 f λx j b=>?_;clear f;subst j;refine b8 F.str_eq λu l=>?_;subst l;refine jO (sV a.fok.sp (Dr a.fok.gd) λp=>?_);exact .mk (.inl (by show(!(false||q.any Frame.guarded))=true;rw[a.fok.gd];rfl)) (.sl a λw A Y R s h=>h) (G.trans n) y b
theorem Gs{e:Expr}{a b:Pos}{g:String}{msg:Option Str}(n:O9 g)(h:WX w fi d m H e g msg λH'=>Q (.exc g msg) m H'):GW w fi d k m H (.Expr (.Yield (some e) a) b::rest) Q:=λX A c q K p z l j C s B S=>by obtain⟨rfl,rfl,i,r,y⟩:=z;rw[execs_cons_wrap,exec_Expr X.env _ b r rfl];show q8 _ _ _ _ c (.at b λ_=>((eval e X.env>>=λv=>dl a>>=λ_=>yieldOut X.env v)>>=λx=>dropValue (.Yield (some e) a) b x).wrap _ p id id) q s;refine jO ?_;rw[Sem.bind_eq_wrap',Sem.bind_eq_wrap',Sem.wrap_wrap,Sem.wrap_wrap];refine Q4 (up (ar (h _ X.env X.F C s (j.room i l) S) (λ_ _ x=>x.elim) λv o u=>?_));refine i8 (F9.raised i n B u) λx H' f e t=>?_;subst f;exact j.exc i l n t e
theorem U8(h:l5 w H I λo H'=>match o with|none=>GW w fi d k m H' rest Q|some v=>WA w fi d m H' tgt v λm' n=>GW w fi d (.loop tgt I lb rest k) m' n lb Q):GW w fi d (.loop tgt I lb rest k) m H [] Q:=λX A c fs K Hd B z J ρ s M S=>by have i:=B;have r:=J.room B.hfr z;obtain⟨rfl,rfl,hf,hi,W⟩:=B;cases J with|@loop _ _ _ _ _ _ _ kf lf p c' y K' t f g=>?_;refine(g X.w A.in1 (G1 X Q) (F1 X Q) s).nx ?_;show q8 _ _ _ _ _ ((forTurn tgt (.ref I) lb [] X.env).onRaise λx=>do noteFrame x X.env;theTreesLotGoes x) _ s;rw[Sem.onRaise_eq_wrap];unfold forTurn;refine M4 (J4 (M4 (gp (up (ar (h _ _ ρ s r.hd S.toH) (λo a l=>?_) λ_ _ x=>x.elim)))));obtain⟨j,E,v,b,O,L,l⟩:=l;have G:=S.ofH b.1 b.2.1 O;cases v with|none=>subst L;refine oh rfl ?_;show q8 _ _ _ _ _ ((execs [] X.env).onRaise _>>=_) _ a;refine J5 (gp (up (wpAny_execs_nil ?_)));refine jP (.ok .next) ((g X.w A.in1 (G1 X Q) (F1 X Q) a).kn ?_);exact l X A c' y K' t i z f j a (M.trans b) G|some v=>obtain⟨u,rfl,ru,ob,nn,V,T,U⟩:=L;refine M4 (up (iT V T U ?_));refine M4 (up (ar (l _ X.env X.F j a u r G ru) (λ_ s2 Z=>?_) λ_ _ x=>x.elim));obtain⟨D,F,m2,C,N,P⟩:=Z;rw[Sem.bind_eq_wrap',Sem.wrap_wrap];refine P X A _ _ _ _ i z (.loop f λw A Y R s=>⟨λq=>oh rfl q,λv q=>q,λe q=>?_,(g w A Y R s).kn,(g w A Y R s).kr,(g w A Y R s).ke⟩) D s2 ((M.trans b).trans C) N;show q8 (ay pP w) A Y R _ ((noteFrame e X.env>>=λ_=>theTreesLotGoes e)>>=λ_=>(Sem.raise e:Sem Fin)) _ s;refine J5 (up (ac (ar q (λ_ s' q'=>wpAny_theTreesLotGoes ?_) λ_ _ x=>x.elim)));exact q'
theorem jf(h:WE w fi d m H iter λv b=>l8 w b v λI H'=>GW w fi d (.loop tgt I lb rest k) m H' [] Q)(M:autoParam (∀env x,cJ iter env x=pure x) FunClaim.holds_of_returning._auto_3):GW w fi d k m H (.For tgt iter lb [] pos::rest) Q:=λX A c J K V o F E U s T S=>by
 have t:=o;have r:=E.room o.hfr F;obtain⟨rfl,rfl,W,Z,N⟩:=o;rw[execs_cons_wrap,exec_For];refine M4 (J4 (M4 (up (ar (h _ X.env X.F U s r S) (λu g n=>?_) λ_ _ x=>x.elim))));obtain⟨z,b,v,y,D,O,a⟩:=n;rw[M X.env u];refine M4 (q7 (M4 (J4 (M4 (U2 (up (ar (a _ _ z g u D.toH O) (λit P n=>?_) λ_ _ x=>x.elim)))))));refine P9 n λB C I l i j L=>?_;try clear n;subst l
 have G:=D.ofH i.1 i.2.1 j;unfold runOwn run;rw[Sem.onRaise_eq_wrap,Sem.wrap_wrap];refine sT λp=>?_;refine L X A (.forLoop tgt (.ref I) lb [] X.env) _ (λf=>match f with|.next=>denote table (.forLoop tgt (.ref I) lb [] X.env)|.ret v=>leafOf (.ok (.ret v))|f=>.pure (.done f)) (λe=>noteFrame e X.env>>=λ_=>leafOf (.error e)) t F (.loop E λw A Y R s=>⟨λq=>q,λv q=>q,λe q=>J5 (up (ar q (λ_ _ x=>x) λ_ _ x=>x.elim)),λq=>q,λv q=>q,λe q=>?_⟩) B P ((T.trans y).trans i) G;show q8 (ay pP w) A Y R _ (Sem.wrap _ _ _ _ ((do
  if(<-field e 1)==.none then unsupported "frame.own-activation:exception-without-traceback"
  setFlight e X.env.frame:Sem Unit)>>=λ_=>(Sem.raise e:Sem Flow))) J s;exact M4 (up (ar q (λ_ g a=>a) λ_ _ x=>x.elim))
end
end
section
variable{w:NQ}{F:i5}{ρ:List c8}{H:List O}{h h':NV}{gs:GT}{i:Nat}{e:c8}
theorem d9.slept{a:Nat}{fi:FI}{m:b9}{r:List NW}{k:Kt}{y:Option Nat}{n n':Int}(S:d9 w F ρ H h gs)(f:ρ[i]?=some e)(p:H[i]?=some (.slp a fi m r k y n))(j:∀b o,b≠e.a->h.get? b=some o->h'.get? b=some o)(E:∀g env,e.g=some (g,env)->s9 h e.a g n->s9 h' e.a g n'):d9 w F ρ (H.set i (.slp a fi m r k y n')) h' gs/\TK h h':=by
 refine jK (S.ob i e _ f p) λB g env u d v x C D=>?_;have t:TK h h':=.of_ext j v.not_imm;have G:(e.a::j9 fi env).Nodup:=d▸uj S.nd (aY f);have A:∀b∈j9 fi env,b≠e.a:=λb c q=>(ck.mp G).1 (q▸c);have l:=E g env u v;refine⟨S.upd f (λb o c q=>j b o (λz=>c (by rw[d,z];exact .head _)) q) (λb c=>?_) t ⟨B,g,env,u,d,l,x,C,D.mono x (aA _) t λb c o q=>j b o (A b c) q⟩ (show GR gs e (.slp a fi m r k y n)from S.gf i e _ f p) λo q z=>by rw[p]at q;cases q;cases y<;>exact z,t⟩;rw[d]at c;rcases az.mp c with rfl|c;·(refine E5 l λo _ _ s _=>?_;try clear l);exact⟨o,s⟩
 · refine b8 (S.live b (M1 f (by rw[d];exact .tail _ c))) λo s=>?_;exact⟨o,j b o (A b c) s⟩
end
section
variable{w:NQ}{A:NT}{E:VP}{s:NR}
theorem Gu{e:Nat}{X:String}{Q:Bool->NR->Prop}(b:s.TypeIs (.ref e) X)(a:O9 X)(h:Q false s):aJ (ay pP w) A (bu.Generator.endsTheTurnAsAValue false (.ref e)) Q E s:=by unfold bu.Generator.endsTheTurnAsAValue bu.Generator.isStopAndMetaclass;refine ac (ac (dq b (ac (bM a.stop ?_))));refine ac (bM a.ty ?_);exact aq (aq h)
end
section
variable{w:NQ}{fi:FI}{env:Env}{m:b9}{F:i5}{ρ ρ₀:List c8}{H H':List O}{s s₀ s':NR}{Xn:String}{msg:Option Str}{x:Nat}{l:List Env}
theorem U7.frame(S:d6 w fi env m F ρ H s.heap (gt s))(u:e8 ρ₀ s₀ ρ s)(h:U7 w (w4 F s.heap env (j9 fi env)) ρ s Xn msg H' x l s'):U6 w fi env m F ρ₀ s₀ Xn msg H' x s' l:=by
 cases h with|mk r e j y v d p a=>?_;have n:x∉j9 fi env:=λq=>by have k:=d.1;rw[gT q]at k;(refine b8 (S.own_live x q) λo i=>?_;obtain⟨g,_⟩|⟨o,g⟩:=i)<;>(rw[k]at g;cases g)
 exact .mk r ⟨e,j,y,v,λb t=>af.mp t▸⟨(N7 (h:=s.heap) (env:=env) n).symm.trans d.1,d.2,n⟩,λc f=>⟨u.trans (a c f).1,S.ofH (a c f).1.1 (a c f).1.2.1 (a c f).2⟩⟩ p
end
theorem j0.yf{A:NT}{c:Code}{fs:List Frame}{a:Nat}{e:cz->Sem Fin}{l p}{d:Nat}{lf:List Env}(h:j0 (A.over c fs) (d+2) lf):j0 (A.over (N4 a) (.ret e none false l c p []::fs)) (d+1) lf:=by
 refine n8 (uc (A:=A) (c:=c) (c':=N4 a) (fs:=fs) (k:=e) (g:=false) (l:=l) (p:=p) (kp:=[])) λf i j=>?_;refine⟨by rw[ud,Code.envs_of_weight (plainId_weight lW _)];exact h.fr,f.trans h.hd,?_,?_⟩;·have b:(N4 a).weight=0:=plainId_weight lW _;have:=h.dp;rw[i,b];exact CY this
 ·have b:(N4 a).cUnits=1:=plainId_units lW _;have:=h.un;rw[j,b];exact CZ this
inductive uw(k:Kt)(m:b9)(rest:List NW)(i:Nat)(Q:M5->b9->List O->Prop)(x:Str)(H':List O):Prop|mk{b:Nat}{fi':FI}{m':b9}{r':List NW}{k':Kt}{y':Option Nat}(hH:H'[i]?=some (.slp b fi' m' r' k' y' 0))(hq:Q (.yld x rest k (some b)) m (H'.set i (.slp b fi' m' r' k' y' 1))):uw k m rest i Q x H'
def hU(w:NQ)(fi:FI)(d:Nat)(k:Kt)(m:b9)(rest:List NW)(i:Nat)(Q:M5->b9->List O->Prop):D9->List O->Prop:=λa b=>match a with|.txt x=>uw k m rest i Q x b|.nothing=>GW w fi d k m b rest Q|.err X c=>Q (.exc X c) m b
section
variable{w:NQ}{fi:FI}{d:Nat}{k:Kt}{m:b9}{H:List O}{rest:List NW}{Q:M5->b9->List O->Prop}
theorem ux{X:GX}{A:NT}{c:Code}{fs:List Frame}{K:Flow->Sem Fin}{N:NS->Sem Fin}{kf:cz->Sem Fin}{lf:List NS}{p:Pos}{i:Nat}{ρ:List c8}{s:NR}{j:c8}(is:X.Is w fi)(T:j0 A (d+2+1) X.F.fr)(z:E7 X.env k c fs K N)(n:∀w A Y R s,sW rest X.env c fs K N kf w A Y R s)(st:e8 X.ρ X.s ρ s)(S:d6 X.w X.fi X.env m X.F ρ H s.heap (gt s))(he:ρ[i]?=some j)(h:F0 w d H i (hU w fi (d+2) k m rest i Q)):q8 (ay pP X.w) A.in1 (G1 X Q) (F1 X Q) (N4 j.a) (denote table (N4 j.a)) (.ret kf none false lf c p []::fs) s:=by
 have a0:=is;have r:=z.room is.hfr T;obtain⟨rfl,rfl,hf,hi,a4⟩:=is;have ef:=gZ (F:=X.F) hf;refine d7 (h (A.in1.over (N4 j.a) (.ret kf none false lf c p []::fs)) _ ρ s j (show j0 _ (d+1) (w4 X.F s.heap X.env (j9 X.fi X.env)).fr from r.yf) S.toH he) λ_ D=>?_;have E:denote table (N4 j.a)=bu.«proto.yield_from» ⟨[.ref j.a,.bool false,.none],[]⟩:=by show(match entryFor table "proto.yield_from"with|some b=>b ⟨[.ref j.a,.bool false,.none],[]⟩|none=>unsupported ((withoutEnding? "proto.yield_from" "#data").getD "proto.yield_from"))=_;rw[FK]
 rw[E];unfold bu.«proto.yield_from»;dsimp only;refine J5 (q7 (J5 (og (U2 ?_))))
 refine t9 (by simp) (FD rfl (k8 (up (cm (k8 (o0 D (λr f l=>?_) λv f l=>?_))))));·cases l with|mk y B x t e L O u=>?_;cases O with|intro g O=>?_;cases u with|@mk b a3 m' r' k' y' hH u=>?_;refine q7 (M:=ay pP X.w) ?_;dsimp only;have G:y[i]?=some j:=x6 e.1 he;obtain⟨hb,g',a1,e1,e2,e3,_⟩:=L.ob i j _ G hH;subst hb;refine J5 (up (dq O.typeIs (J5 (up (bM FE.lookup (J5 (q7 (M:=ay pP X.w) ?_)))))));refine J5 (up (ub e3 λh3 I P=>?_));refine d7 (L.slept (n':=1) G hH I λg2 a2 q _=>by rw[e1]at q;cases q;simpa using P) λC J=>?_;have S3:=S.ofH e.1 (e.2.1.trans J) C;refine sV (k:=λr=>_) z.fok.ret.sp (Ds z.fok.ret.gd P.choose_spec.choose_spec.choose_spec.1 (by refine m6 P.choose_spec.choose_spec.choose_spec λ_ U V _=>?_;unfold Obj.genNumber?;rw[U,V];rfl) true) λp'=>?_;refine .mk (.inr rfl) (.yf (lf:=lf) (p:=p) rfl z (λw A Y R s q=>?_) n) ((st.trans e).trans (.same J rfl (ae _))) S3 u;show q8 (ay pP w) A Y R (N4 j.a) (bu.Generator.sleptOver (.ref j.a) false>>=_) _ s;refine J5 (up (ar q (λ_ s' q'=>J5 (q7 (M:=ay pP w) (oh (plainId_quiet lW _) ?_))) λ_ _ x=>x.elim));exact q'
 ·dsimp only;cases l with|@stop b _ y B hs e L _ u=>
    refine J5 (up (FL hs ?_));simp only[if_true,bJ,if_false];refine ai2 hs λo vs Z hc W h5=>?_;try clear hs
    refine J5 (up (cm (J5 (up (cc Z W h5 ?_)))));exact jP (.ok (.ret .none)) ((n X.w A.in1 (G1 X Q) (F1 X Q) f).rt (u X A c fs K N a0 T z y f (st.trans e) (S.ofH e.1 e.2.1 L)))|@err a _ Xn msg H' fw hx u=>refine J5 (up (Gu (a9 fw.exc λo Z hc=>b7 o Z hc) hx ?_));simp only[bJ,if_false];exact jP (.error (.ref a)) ((n X.w A.in1 (G1 X Q) (F1 X Q) f).er _ (z.exc hf T hx u (.fly (ef▸U7.frame S st fw))))
theorem me{e:Expr}{a b:Pos}(h:WE w fi (d+2) m H e λv f=>∃i,v=.ref i/\F0 w d f i (hU w fi (d+2) k m rest i Q)):GW w fi (d+2) k m H (.Expr (.YieldFrom e a) b::rest) Q:=λX A c F K M o G E V s U S=>by
 have t:=o;have r:=E.room o.hfr G;obtain⟨rfl,rfl,W,O,P⟩:=o;rw[execs_cons_wrap,exec_Expr X.env _ b O rfl];show q8 _ _ _ _ c (.at b λ_=>((eval e X.env>>=λv=>dl a>>=λ_=>yieldFrom X.env v)>>=λx=>dropValue (.YieldFrom e a) b x).wrap _ M id id) F s;refine jO ?_;rw[Sem.bind_eq_wrap',Sem.bind_eq_wrap',Sem.wrap_wrap,Sem.wrap_wrap];refine Q4 (up (ar (h _ X.env X.F V s r S) (λv l T=>?_) λ_ _ x=>x.elim));obtain⟨C,f,x',B,D,L,n⟩:=T;refine a9 n λi u j=>?_;clear n;subst u;refine a9 L λN I y=>?_;try clear L;subst y
 refine d7 (j (A.in1.over c F) _ C l N (show j0 _ (d+1) (w4 X.F l.heap X.env (j9 X.fi X.env)).fr from⟨r.fr,r.hd,by have:=r.dp;exact BP this,by have:=r.un;exact C1 this⟩) D.toH I) λz _=>?_;obtain⟨g,J⟩:=z;refine M4 (J4 ?_);unfold yieldFrom;refine M4 (up (dq J.typeIs ?_));rw[if_neg (by decide)];refine M4 (U2 (up (FM J ?_)));unfold runValue run;rw[Sem.bind_eq_wrap',Sem.wrap_wrap];refine sT λp=>?_;exact ux t G E (λw A Y R s=>⟨λq=>q,λe q=>q⟩) (U.trans B) D I j
end
section
set_option backward.match.sparseCases true
def GQ(Q:D9->List O->Prop)(i a:Nat)(fi:FI):M5->b9->List O->Prop:=λe f c=>match e with|.yld x b k y=>Q (.txt x) (c.set i (.slp a fi f b k y 0))|.ret=>Q .nothing (c.set i .done)|.exc X d=>Q (.err X d) (c.set i .done)
section
variable{w:NQ}{fi:FI}{env:Env}{F:i5}{ρ:List c8}{H:List O}{s:NR}{i:Nat}{e:c8}{g:Nat}{m:b9}{A:NT}{d:Nat}{Q:D9->List O->Prop}
noncomputable abbrev r7.gx(w:NQ)(fi:FI)(env:Env)(F:i5)(ρ:List c8)(s:NR)(i:Nat)(e:c8)(g:Nat):GX:=⟨w,fi,env,r7.bF F s e,ρ.set i ⟨e.a,[],e.g⟩,s.setGen g .running⟩
theorem r7.is(X:r7 w fi env F ρ H s i e g):(r7.gx w fi env F ρ s i e g).Is w fi:=⟨rfl,rfl,X.fr,X.int,X.sc⟩
theorem pu(X:r7 w fi env F ρ H s i e g)(O:H[i]?=some o)(f:I0 fi env m ρ s.heap)(I:j0 A (d+1) F.fr)(D:s.gens[g]?=some z)(C:iN (ay pP w) A.in1 (G1 (r7.gx w fi env F ρ s i e g) (GQ Q i e.a fi)) (F1 (r7.gx w fi env F ρ s i e g) (GQ Q i e.a fi)) z (s.setGen g .running)):g8 (ay pP w) A (callSpecial? (.ref e.a) (aa "__next__")) (je w F ρ s e.a Q) (hS w F ρ s F.fr e.a Q) s:=by
 have b:=X.T O f;refine Ge I.hd X.S.b.lim I.depth X.gen D C (λv K h V=>?_) λr h U=>?_;·cases V with|@mk _ _ x u ρ' J H' rest k y hz p G T n=>?_;refine L8 (X.back b G T (z:=K) (o':=.slp e.a fi J rest k y 0) (hz.imp id λq=>by cases y with|none=>cases q|some _=>rfl) (λj R=>⟨rfl,g,env,X.hg,X.fp,j,X.own,X.int,R⟩) λj=>⟨g,env,K,X.hg,j,p⟩) λB c t l _=>?_;exact .mk _ _ x u l B ⟨g,c⟩ n
 ·cases U with|ret G T n=>refine .inl ⟨rfl,λN a E P=>?_⟩;refine L8 (X.back b G T (z:=.finished) (o':=.done) (.inl rfl) (λj _=>Q2 g env (j9 fi env) X.hg X.fp j) λj=>G7 g env X.hg j) λB c t l _=>?_;exact .stop _ _ P (l.trans (e8.same (s:=h.setGen g .finished) (s':={h.setGen g .finished with heap:=N}) (.of_keep E) rfl (ae _))) (B.keeps E) ⟨g,c.at λo q=>E _ _ q⟩ n|@exc _ x L msg J H' S p n=>exact d7 (X.left b S p) λW M=>.inr ⟨x,rfl,W,.err L msg _ M p n⟩
end
section
variable{w:NQ}{fi:FI}{H:List O}{i:Nat}{m:b9}{d:Nat}{Q:D9->List O->Prop}
theorem mf(l:H[i]?=some (.fresh fi body m))(h:∀a,GW w fi d (.top body) m (H.set i .gone) body (GQ Q i a fi)):F0 w d H i Q:=λA F r s e q S n=>by refine nF (S.ob i e _ n l) λg b p t u x y k=>?_;refine t8 (S.gf i e _ n l) λz o c j=>?_;rw[p]at c;cases c;have X:r7 w fi b F r H s i e g:=⟨S,n,p,(cE.mp j).1,t,.of u,y,k.ef,k.es,x⟩;refine⟨⟨g,X.gen⟩,pu X l k q j ?_⟩;show q8 _ _ _ _ _ (.point [] λ_=>(execs body b).onRaise (leaving b) >>=_) [] _;refine Dp ?_;rw[Sem.onRaise_eq_wrap,Sem.bind_eq_wrap',Sem.wrap_wrap];rw[Sem.wrap_congr (execs body b) _ _ (K':=λf=>.pure (.done (.ret (match f with|.ret v=>v|_=>.none)))) (H':=λe=>(leaving b e).wrap (λ_=>.raise e) .raise id id) λf=>by cases f<;>rfl λe=>by rw[Sem.bind_eq_wrap,Sem.wrap_wrap];rfl];exact h e.a (r7.gx w fi b F r s i e g) A (.func body b) [] _ _ X.is q (.top body) _ _ .refl (X.start (X.T l k))
theorem uy(n:H[i]?=some (.slp a fi m rest k none 0))(h:GW w fi d k m (H.set i .gone) rest (GQ Q i a fi)):F0 w d H i Q:=λA F v s e u S o=>by refine jK (S.ob i e _ o n) λB g b t C D E G l=>?_;refine F6 (S.gf i e _ o n) λI r z f j q=>?_;cases q with|@sl c fs K x y p=>?_;rw[t]at f;cases f;subst B;have X:r7 w fi b F v H s i e g:=⟨S,o,t,(cE.mp j).1,C,D,G,l.ef,l.es,E⟩;refine⟨⟨g,X.gen⟩,pu X n l u j (p _ _ _ _ _ ?_)⟩;exact h (r7.gx w fi b F v s i e g) A c fs K x X.is u y _ _ .refl (X.start (X.T n l))
theorem Gv(l:H[i]?=some .done)(h:Q .nothing H):F0 w d H i Q:=λA F x s e u S n=>by refine F6 (S.ob i e _ n l) λg p r t B c=>?_;refine t8 (S.gf i e _ n l) λy k b f=>?_;rw[t]at b;cases b;refine⟨⟨g,c⟩,Gp u.hd c f λz a j v=>.stop x H v (.same (.of_keep j) rfl (ae _)) (S.keeps j) ⟨g,c.at λo q=>j _ _ q⟩ h⟩
theorem uz(v:i≠j)(C:H[i]?=some (.slp a fi m rest k (some b) 0))(E:H[j]?=some (.slp b fi' m' r' k' y' 1))(h:F0 w d ((H.set i .gone).set j (.slp b fi' m' r' k' y' 0)) j (hU w fi (d+2) k m rest j (GQ Q i a fi))):F0 w (d+2) H i Q:=λA F M s e D S I=>by
 refine jK (S.ob i e _ I C) λZ g n V h2 h3 h4 h5 B=>?_;refine F6 (S.gf i e _ I C) λg' P z o u L=>?_;cases L with|@yf _ c fs K Hd kf lf p _ N J hh=>?_;rw[V]at o;cases o;subst Z;have X:r7 w fi n F M H s i e g:=⟨S,I,V,(cE.mp u).1,h2,h3,h5,B.ef,B.es,h4⟩;have T:=X.start (X.T C B);have G:(H.set i .gone)[j]?=some (.slp b fi' m' r' k' y' 1):=by exact(ag v).trans E
 refine a9 (S.at' E) λO t _=>?_;have f:(M.set i ⟨e.a,[],e.g⟩)[j]?=some O:=by exact(ag v).trans t
 obtain⟨hb,gj,U,j1,j2,j3,_⟩:=S.ob j O _ t E;subst hb;have r:=N.room X.fr (F:=r7.bF F s e) D;refine⟨⟨g,X.gen⟩,pu X C B D u ?_⟩;refine J _ _ _ _ _ (ub j3 λW x Y=>?_);refine d7 (T.toH.slept (n':=0) f G x λg2 R q _=>by rw[j1]at q;cases q;simpa using Y) λl y=>?_;exact ux (X:=r7.gx w fi n F M s i e g) X.is D N hh (.same y rfl (ae _)) (T.ofH (aA _) y l) f h
end
inductive pv(w:NQ)(F:i5)(ρ:List c8)(s:NR)(a:Nat)(Q:D9->List O->Prop):Option NS->NR->Prop|no{s':NR}(ρ':List c8)(H':List O)(st:e8 ρ s ρ' s')(T:d9 w F ρ' H' s'.heap (gt s'))(g:∃g,s9 s'.heap a g 0)(q:Q .nothing H'):pv w F ρ s a Q none s'|mk{s':NR}(ρ':List c8)(H':List O)(x:Str)(t:Nat)(st:e8 ρ s ρ' s')(T:d9 w F ρ' H' s'.heap (gt s'))(g:∃g,s9 s'.heap a g 0)(q:Q (.txt x) H'):pv w F ρ s a Q (some (.str x t)) s'
inductive uA(w:NQ)(F:i5)(ρ:List c8)(s:NR)(l:List Env)(Q:D9->List O->Prop):NS->NR->Prop|mk{b:Nat}{s':NR}(X:String)(msg:Option Str)(H':List O)(fl:U7 w F ρ s X msg H' b l s')(hx:O9 X)(q:Q (.err X msg) H'):uA w F ρ s l Q (.ref b) s'
def jh(w:NQ)(d:Nat)(H:List O)(i:Nat)(Q:D9->List O->Prop):Prop:=∀A F ρ s e,j0 A (d+1) F.fr->d9 w F ρ H s.heap (gt s)->ρ[i]?=some e->(∃g,s9 s.heap e.a g 0)/\g8 (ay pP w) A (dL (.ref e.a)) (pv w F ρ s e.a Q) (uA w F ρ s F.fr Q) s
theorem Gw(h:F0 w d H i Q):jh w d H i Q:=λA F z s e p S q=>by
 refine d7 (h A F z s e p S q) λc y=>?_;refine⟨c,?_⟩;unfold dL;refine k8 (og (o0 y (λr g a=>?_) λv g a=>?_));·cases a with|mk ρ' H' x t l T c f=>exact q7 (M:=ay pP w) (.mk ρ' H' x t l T c f)
 ·cases a with|stop ρ' H' u l T c f=> refine i8 u λo B k j _=>?_;exact up (ac (cC (T:="StopIteration") (b:=true) (b7 _ k j) isSubtype_stop (aq (.no ρ' H' l T c f))))|err X msg H' m n f=>refine up (ac (cC (b:=false) (a9 m.exc λo k j=>b7 o k j) n.stop ?_));exact wpAny_throw (.mk X msg H' m n f)
end
section
variable{w:NQ}{A:NT}{E:VP}{s:NR}
theorem Gx(f:A.handled=none)(a:IsRangeIter s.heap I x n c)(i:n<=0)(h:∀h',u0 s.heap h'->Q none {s with heap:=h'}):aJ (ay pP w) A (dL (.ref I)) Q E s:=by have d:s.TypeIs (.ref I) "range_iterator":=b7 _ a rfl;refine ac (eO (bX (name:=aa "__next__") d F.slot_range_iterator_next (bK F.slot_range_iterator_next d F.entry_range_iterator_next ?_ (F.args_range_iterator_next_1 _))));show aJ _ _ (field (.ref I) 0>>=_) _ _ s;refine ac (cc a rfl (x:=rawInt x) rfl ?_);refine ac (cc a rfl (x:=rawInt n) rfl ?_);refine ac (cc a rfl (x:=rawInt c) rfl ?_);show aJ _ _ (if n<=0 then _ else _) _ _ s;refine wpAny_ite_true (decide_eq_true i) ?_;refine ac (cm (ac ?_));refine ac (ay5 λh' e g k=>?_);refine ac (wpAny_handled ?_);rw[show A.in1.handled=none from f];refine ac (aq (wpAny_throw ?_));refine ac (cC (T:="StopIteration") (b:=true) (t8 k λo l j z=>b7 o j z.1) isSubtype_stop ?_);exact aq (h _ g)
theorem Gy{items}(h:A.handled=none)(a:s.heap.IsTupleIter it t i)(k:s.heap.IsTuple t items)(p:items[i]?=none)(l:∀h',NV.ExtBut it s.heap h'->(∃q,h'.get? it=some q)->Q none {s with heap:=h'}):aJ (ay pP w) A (dL (.ref it)) Q E s:=by
 refine m9 (id a) λo c r d=>?_;refine F5 k λv g _ u f=>?_;try clear k
 refine ac (eO (bX (name:=aa "__next__") a.typeIs cQ (bK cQ a.typeIs F.entry_tuple_iterator_next ?_ (F.args_tuple_iterator_next_1 _))));show aJ _ _ (field (.ref it) 0>>=_) _ _ s;refine ac (cc c d (x:=.ref t) rfl ?_);refine NX (decide_eq_false (show¬ (NS.ref t==NS.none)=true from cA)) ?_;refine ac (cc c d (x:=.int i 0) rfl ?_);refine ac (dA g f ?_);simp only[cq,p];refine ac (cm (ac (wpAny_setField c d (by simp) ?_)));refine ac (ay5 λh' e j n=>?_);refine ac (wpAny_handled ?_);first|rw[show A.in1.handled=none from h]|exact h
 refine ac (aq (wpAny_throw ?_));refine ac (cC (T:="StopIteration") (b:=true) (t8 n λo y c z=>b7 o c z.1) isSubtype_stop ?_);refine aq (l _ (λb o m q=>j _ _ ((cT ..).extBut b o m q)) ⟨_,j _ _ (cb _ c (Obj.isFreed_of_fields (Obj.data_mapFields d _)))⟩)
theorem Gz{items}(h:A.handled=none)(a:s.heap.IsListIter it t i)(k:s.heap.IsList t items)(p:items[i]?=none)(l:∀h',NV.ExtBut it s.heap h'->(∃q,h'.get? it=some q)->Q none {s with heap:=h'}):aJ (ay pP w) A (dL (.ref it)) Q E s:=by
 refine m9 (id a) λo c r d=>?_;refine F5 k λv g _ u f=>?_;try clear k
 refine ac (eO (bX (name:=aa "__next__") a.typeIs slot_listiter_next (bK slot_listiter_next a.typeIs entry_listiter_next ?_ (args_listiter_next _))));show aJ _ _ (field (.ref it) 0>>=_) _ _ s;refine ac (cc c d (x:=.ref t) rfl ?_);refine NX (decide_eq_false (show¬ (NS.ref t==NS.none)=true from cA)) ?_;refine ac (cc c d (x:=.int i 0) rfl ?_);refine ac (dA g f ?_);simp only[cq,p];refine ac (cm (ac (wpAny_setField c d (by simp) ?_)));refine ac (ay5 λh' e j n=>?_);refine ac (wpAny_handled ?_);first|rw[show A.in1.handled=none from h]|exact h
 refine ac (aq (wpAny_throw ?_));refine ac (cC (T:="StopIteration") (b:=true) (t8 n λo y c z=>b7 o c z.1) isSubtype_stop ?_);refine aq (l _ (λb o m q=>j _ _ ((cT ..).extBut b o m q)) ⟨_,j _ _ (cb _ c (Obj.isFreed_of_fields (Obj.data_mapFields d _)))⟩)
end
section
variable{w:NQ}{H:List O}{j I:Nat}{Q:Option V->List O->Prop}
theorem d9.iterUpd{tk:Nat}(S:d9 w F ρ H s.heap (gt s))(g:ρ[j]?=some e)(h:H[j]?=some o)(l:D1 o=false)(a:e.fp=[e.a])(i:∀b q,b≠e.a->s.heap.get? b=some q->h'.get? b=some q)(k:∃q,h'.get? e.a=some q)(t:TK s.heap h')(m:OR F ρ h' e o')(f:autoParam (GR (gt s) e o') jJ._auto_1):e8 ρ s ρ {s with heap:=h',toks:=tk}/\d9 w F ρ (H.set j o') h' (gt s):=⟨.same t rfl (ae _),S.upd g (λb q d c=>i b q (λz=>d (by rw[a,z];exact .head _)) c) (λb d=>by rw[a]at d;rw[af.mp d];exact k) t m f λq c z=>by injection h.symm.trans c with c;subst c;cases l.symm.trans z⟩
theorem ko{lo:Int}{n:Nat}(i:H[j]?=some (.rit I lo n))(x:n=0->Q none H)(y:∀k,n=k+1->Q (some (.int lo)) (H.set j (.rit I (lo+1) k))):l5 w H I Q:=λA F m s C S=>by refine a9 (S.at' i) λe B f=>?_;refine m6 f λt c u g=>?_;clear f;subst t;have z:s.heap.get? e.a=some _:=g;cases n with|zero=>refine Gx C g (by decide) λv l=>N3 m H none (.same (.of_keep l) rfl (ae _)) (S.keeps l) rfl (x rfl) |succ k=>
  refine wpAny_pyNext_range_item g (aQ.mpr (Nat.succ_pos k)) λv a d=>?_;have p:=D2 (s:=s) (tk:=s.toks+1) (aN _) (λb o h e=>d.extBut b o h e) (not_imm g rfl rfl (by decide));have r:((k+1:Nat):Int)-1=k:=by rw[Int.natCast_succ,Int.add_sub_cancel]
  rw[r]at a;refine d7 (S.iterUpd (o':=.rit e.a (lo+1) k) (tk:=s.toks+1) B i rfl c (λb o h q=>d.extBut b o h q) ⟨_,a⟩ p.2.2.1 (j8 rfl c u a)) λD T=>?_;exact⟨m,_,some (.int lo),D,T.tk (aN _),⟨_,rfl,.intro _ rfl,_,_,a,rfl,by decide⟩,y k rfl⟩
theorem px{i:Nat}(r:H[j]?=some (.tit I xs i))(N:xs.length<=i->Q none (H.set j .gone))(O:∀x,xs[i]?=some x->Q (some x) (H.set j (.tit I xs (i+1)))):l5 w H I Q:=λA F K s R S=>by
 refine a9 (S.at' r) λe G m=>?_;refine nD m λL c C a X n t u=>?_;clear m;subst L;refine m9 (id n) λo J D E=>?_;by_cases q:i<xs.length;· refine a9 (u.get (aw q)) λv y z=>?_;refine wpAny_pyNext_tuple_item n t (x:=v) (by simpa using y) λM d l=>?_;have g:=D2 (s:=s) (tk:=s.toks) (ae _) (λb o f e=>l.extBut b o f e) (not_imm J D E (by decide));refine m9 (id d) λW k p P=>?_;refine d7 (S.iterUpd (o':=.tit e.a xs (i+1)) (tk:=s.toks) G r rfl c (λb o f q=>l.extBut b o f q) ⟨_,k⟩ g.2.2.1 ⟨rfl,c,C,a,X,d,iP g.2.2.1 t,u.mono (aA _) g.2.2.1⟩) λB T=>?_;exact⟨K,_,some xs[i],B,T,⟨v,rfl,z.mono (aA _) g.2.2.1,W,_,k,p,by decide⟩,O _ (aw q)⟩
 ·refine Gy R n t (by exact List.getElem?_toArray.trans (List.getElem?_eq_none (by rw[u.len];exact bf q))) λM h U=>?_;have g:=D2 (s:=s) (tk:=s.toks) (ae _) (λb o f e=>h b o f e) (not_imm J D E (by decide));refine d7 (S.iterUpd (o':=.gone) (tk:=s.toks) G r rfl c (λb o f q=>h b o f q) U g.2.2.1 (.inl (by rw[c];exact .head _)) λx V=>by injection C.symm.trans V) λB T=>?_;exact N3 K _ none B T rfl (N (bf q))
theorem uB{l:Nat}{i:Nat}(u:H[j]?=some (.lit I l i))(y:H[l]?=some (.list xs))(R:xs.length<=i->Q none (H.set j .gone))(U:∀x,xs[i]?=some x->Q (some x) (H.set j (.lit I l (i+1)))):l5 w H I Q:=λA F N s W S=>by
 refine a9 (S.at' u) λe K n=>?_;refine Z5 n λO c D E h r=>?_;clear n;subst O;refine w6 (S.ob l E _ h y) λ_ _ Z a M=>?_;refine m9 (id r) λo L G J=>?_;by_cases q:i<xs.length;· refine a9 (M.get (aw q)) λv z B=>?_;refine wpAny_pyNext_list_item r a.isList (x:=v) (by simpa using z) λP d m=>?_;have p:=D2 (s:=s) (tk:=s.toks) (ae _) (λb o f e=>m.extBut b o f e) (not_imm L G J (by decide));refine m9 (id d) λY k t V=>?_;refine d7 (S.iterUpd (o':=.lit e.a l (i+1)) (tk:=s.toks) K u rfl c (λb o f q=>m.extBut b o f q) ⟨_,k⟩ p.2.2.1 (Z7 rfl c D E h d)) λC T=>?_;exact⟨N,_,some xs[i],C,T,⟨v,rfl,B.mono (aA _) p.2.2.1,Y,_,k,t,by decide⟩,U _ (aw q)⟩
 ·refine Gz W r a.isList (by exact List.getElem?_toArray.trans (List.getElem?_eq_none (by rw[M.len];exact bf q))) λP g y=>?_;have p:=D2 (s:=s) (tk:=s.toks) (ae _) (λb o f e=>g b o f e) (not_imm L G J (by decide));refine d7 (S.iterUpd (o':=.gone) (tk:=s.toks) K u rfl c (λb o f q=>g b o f q) y p.2.2.1 (.inl (by rw[c];exact .head _)) λx X=>by injection D.symm.trans X) λC T=>?_;exact N3 N _ none C T rfl (R (bf q))
theorem d9.iterNew{F:i5}{ρ:List c8}{s:NR}{ob:Obj}{o:O}(S:d9 w F ρ H s.heap (gt s))(b:ob.isFreed=false)(c:OR F (ρ++[⟨s.heap.objs.size,[s.heap.objs.size],none⟩]) (s.heap.push ob) ⟨s.heap.objs.size,[s.heap.objs.size],none⟩ o)(a:autoParam (GR (gt s) ⟨s.heap.objs.size,[s.heap.objs.size],none⟩ o) jJ._auto_1):e8 ρ s (ρ++[⟨s.heap.objs.size,[s.heap.objs.size],none⟩]) {s with heap:=s.heap.push ob}/\d9 w F (ρ++[⟨s.heap.objs.size,[s.heap.objs.size],none⟩]) (H++[o]) (s.heap.push ob) (gt s):=by have k:u0 s.heap (s.heap.push ob):=λ_ _ e=>aD _ e;exact⟨.add (s:=s) (s':={s with heap:=s.heap.push ob}) (.of_keep k) rfl (ae _),S.alloc k (z5 _) ⟨ob,aT _ b⟩ c a⟩
theorem pz{a b:Int}{Q:Nat->List O->Prop}(g:-2^61 <=a/\a<2^61)(i:-2^61 <=b/\b<2^61)(h:∀I,Q I (H++[.rit I a (b-a).toNat])):l8 w H (.rng a b) Q:=λA F n s u S r=>by refine a9 r λr f c=>?_;refine J0 c λt u k d=>?_;clear c;subst f;refine d7 (tf g i) λe l=>?_;refine wpAny_pyIter_range d e ?_;rw[l];refine d7 (S.iterNew (ob:={cls:=.type "range_iterator",data:=.fields #[rawInt a,rawInt ((b-a).toNat:Nat),rawInt 1]}) (o:=.rit s.heap.objs.size a (b-a).toNat) rfl (j8 rfl rfl rfl (aT _ rfl))) λm T=>?_;exact N3 _ _ _ rfl m T (h _)
theorem uC{xs:List V}{Q:Nat->List O->Prop}(h:∀I,Q I (H++[.tit I xs 0])):l8 w H (.tup xs) Q:=λA F i s u S r=>by
 refine i8 r λa g b c d=>?_;try clear r;subst b
 refine wpAny_pyIter_tuple c ?_;refine d7 (S.iterNew (ob:={cls:=.type "tuple_iterator",data:=.fields #[.ref a,.int 0 0]}) (o:=.tit s.heap.objs.size xs 0) rfl ⟨rfl,rfl,rfl,a,g,j5 _ (aT _ rfl) rfl rfl,c.push _,d.mono (aH _ _) (.of_keep λ_ _ e=>aD _ e)⟩) λf T=>?_;exact N3 _ _ _ rfl f T (h _)
theorem GA{l:Nat}{xs:List V}{Q:Nat->List O->Prop}(d:H[l]?=some (.list xs))(h:∀I,Q I (H++[.lit I l 0])):l8 w H (.ref l) Q:=λA F k s u S r=>by
 refine a9 r λe c b=>?_;try clear r;subst b
 refine w6 (S.ob l e _ c d) λ_ _ i a g=>?_;refine wpAny_pyIter_list a.isList ?_;refine d7 (S.iterNew (ob:={cls:=.type "list_iterator",data:=.fields #[.ref e.a,.int 0 0]}) (o:=.lit s.heap.objs.size l 0) rfl (Z7 rfl rfl rfl e (x6 (aH _ _) c) (j5 _ (aT _ rfl) rfl rfl))) λf T=>?_;exact N3 _ _ _ rfl f T (h _)
end
section
variable{w:NQ}{A:NT}{E:VP}{s:NR}{env:Env}
theorem GC(h:g8 (ay pP w) A (execs body env) λf s₁=>match f with|.next=>g8 (ay pP w) A (execs orelse env) Q E s₁|f=>Q f s₁
  (λe s₁=>aJ (ay pP w) A (noteFrame e env) (λ_ c=>aJ (ay pP w) A (setFlight e none) (λ_ d=>aJ (ay pP w) A (handleBy e env (h0::hs)) Q E d) E c) E s₁) s):g8 (ay pP w) A (exec (.Try body (h0::hs) orelse [] pos) env) Q E s:=by
 rw[arm_exec_Try];refine k8 (J4 ?_);refine k8 (og (o0 h (λf s₁ a=>?_) λe s₁ a=>up ?_));·cases f<;>first|exact a|exact q7 a
 ·exact ac (ar a (λ_ _ b=>ac b) λ_ _ x=>x)
end
abbrev kq:=String->Option Str->b9->List O->Prop
inductive bH(w:NQ)(fi:FI)(env:Env)(F:i5)(ρ:List c8)(s:NR)(XP:kq):NS->NR->Prop|mk{x:Nat}{Xn:String}{msg:Option Str}{m':b9}{H':List O}{s':NR}(hx:O9 Xn)(e:F9 w fi env m' F ρ s Xn msg H' x s')(q:XP Xn msg m' H'):bH w fi env F ρ s XP (.ref x) s'
section
variable(w:NQ)(fi:FI)(d:Nat)
def pA(m:b9)(H:List O)(a:NW)(Q:QF)(XP:kq):Prop:=∀A env F ρ s,env.frame=some env.locals->j0 A d (n6 env F)->d6 w fi env m F ρ H s.heap (gt s)->g8 (ay pP w) A (exec a env) (x9 w fi env F ρ s Q) (bH w fi env F ρ s XP) s
def hV(m:b9)(H:List O)(a:List NW)(Q:QF)(XP:kq):Prop:=∀A env F ρ s,env.frame=some env.locals->j0 A d (n6 env F)->d6 w fi env m F ρ H s.heap (gt s)->g8 (ay pP w) A (execs a env) (x9 w fi env F ρ s Q) (bH w fi env F ρ s XP) s
def HX(a:String)(msg:Option Str)(m:b9)(H:List O)(b:List ExceptHandler)(Q:QF):Prop:=∀A env F ρ₀ s₀ x s,env.frame=some env.locals->j0 A d (n6 env F)->U6 w fi env m F ρ₀ s₀ a msg H x s (env::F.fr)->aJ (ay pP w) A (handleBy (.ref x) env b) (x9 w fi env F ρ₀ s₀ Q) (λ_ _=>False) s
def Su(X:String)(msg:Option Str)(m:b9)(H:List O)(n:Str)(c:List NW)(v:V):Prop:=∀env F ρ A a b s,j0 A d (n6 env F)->bx msg b->uq w fi env m F ρ H A a X b n c s λf g h e=>lE g e.heap (.ret v) f/\h=H
end
section
variable{w:NQ}{fi:FI}{env:Env}{m:b9}{F:i5}{ρ₀ ρ:List c8}{s₀ s s':NR}{Xn:String}{msg:Option Str}{H:List O}{x:Nat}
theorem X2.step{L d t c}(g:e8 ρ₀ s₀ ρ s)(n:X2 w fi env m F ρ s H ρ' L d t x c s'):X2 w fi env m F ρ₀ s₀ H ρ' L d t x c s':=⟨n.dict,n.tup,n.tx,n.tL,n.off,λe f=>d7 (n.land e f) λa b=>⟨g.trans a,b⟩⟩
theorem F9.step(c:e8 ρ₀ s₀ ρ s)(e:F9 w fi env m F ρ s Xn msg H x s'):F9 w fi env m F ρ₀ s₀ Xn msg H x s':=by cases e with
 |new e=>cases e with|mk a n f d=>exact .new (.mk a (n.step c) f d)
 |fly e=>cases e with|mk a n b=>exact .fly (.mk a (n.step c) b)
 |held e=>cases e with|mk a n b=>exact .held (.mk a (n.step c) b)
theorem bH.no(h:bH w fi env F ρ s (λ_ _ _ _=>False) v s'):False:=by cases h with|mk _ _ q=>exact q
theorem bH.step(b:e8 ρ₀ s₀ ρ s)(h:bH w fi env F ρ s XP v s'):bH w fi env F ρ₀ s₀ XP v s':=by cases h with|mk a e q=>exact .mk a (e.step b) q
end
section
variable{w:NQ}{fi:FI}{d:Nat}{m:b9}{H:List O}{Q:QF}{XP:kq}
theorem uD{t:NW}{rest:List NW}(h:pA w fi d m H t (λf q H'=>match f with|.next=>hV w fi d q H' rest Q XP|f=>Q f q H') XP):hV w fi d m H (t::rest) Q XP:=λA g F B s p o S=>by rw[execs_cons];refine k8 (o0 (h A g F B s p o S) (λf j z=>?_) λ_ _ x=>x);obtain⟨e,a,l,y,c,k,i,b⟩:=z;cases y with|next=>subst i;exact o0 ((show hV w fi d l a rest Q XP from b) A g F e j p o k) (λ_ _ x=>x.step c) λ_ _ x=>x.step c|brk=>subst i;exact q7 ⟨e,a,l,.brk,c,k,rfl,b⟩|cont=>subst i;exact q7 ⟨e,a,l,.cont,c,k,rfl,b⟩|ret v=>(refine a9 i λu n r=>?_;try clear i;subst n);exact q7 ⟨e,a,l,.ret v,c,k,b7 u rfl r,b⟩
theorem GD(h:hV w fi d m H body (λf q H'=>match f with|.next=>hV w fi d q H' orelse Q XP|f=>Q f q H') λD msg q H'=>HX w fi d D msg q H' (h0::hs) Q):pA w fi d m H (.Try body (h0::hs) orelse [] pos) Q XP:=λA j F C s k o S=>by
  refine GC (o0 (h A j F C s k o S) (λf i p=>?_) λv i p=>?_);·obtain⟨g,a,t,z,c,n,l,b⟩:=p;cases z with|next=>subst l;exact o0 ((show hV w fi d t a orelse Q XP from b) A j F g i k o n) (λ_ _ x=>x.step c) λ_ _ x=>x.step c|brk=>subst l;exact⟨g,a,t,.brk,c,n,rfl,b⟩|cont=>subst l;exact⟨g,a,t,.cont,c,n,rfl,b⟩|ret v=>(refine a9 l λu B r=>?_;try clear l;subst B);exact⟨g,a,t,.ret v,c,n,b7 u rfl r,b⟩
  ·cases p with|mk p e E=>?_;refine e.landed (by rw[o.fr,gZ k]) k λG z=>ar (E A j F C s _ _ k o z) (λ_ _ y=>y) λ_ _ y=>y.elim
end
structure GE(KF:Frag)(fi:FI)(tn:Str)(T:String):Prop where
 hT:fi.sc.names.lookup tn=some .globalImplicit
 eT:nsIn KF bw tn=some none
 bT:bQ tn=some (.type T)
 dT:(tn==("__debug__":Str))=false
 nT:tn≠"__name__"
section
variable{w:NQ}{fi:FI}{d:Nat}{m:b9}{H:List O}{Q:QF}{Xn T:String}{msg:Option Str}{n tn:Str}{np pos:Pos}{b₀:NW}{suite:List NW}{rest:List ExceptHandler}
theorem GF(K:pq Xn T true)(N:GE (KW w) fi tn T)(R:fi.sc.names.lookup n=some .local)(P:r9 m n=none)(V:Su w fi d Xn msg m H n (b₀::suite) v)(U:Q (.ret v) [] H):HX w fi d Xn msg m H (.ExceptHandler (some (.Name tn np)) (some n) (b₀::suite) pos::rest) Q:=λA a F b c x s W M e=>by
 cases e with|@mk ρ L i t g O nn B=>?_;have h:∀h',O8 L x (.type Xn) (.ref t) (a::F.fr) i h'->e8 b c ρ {s with heap:=h'}/\d6 w fi a m F ρ H h' (gt s):=λh' J=>nn.land h' J.nt;have S:=(h s.heap B).2;have j:x≠a.locals:=λq=>(nn.off x (.head _)).2.2 (by rw[q];exact N5 fi a);refine Ga (s:=s) (ρ₀:=b) (s₀:=c) K S R P N.hT N.eT N.bT N.dT N.nT nn.dict B nn.tup nn.tx nn.tL j h (V a F ρ A x g s M O) λf z G D E C p y I=>?_;refine d7 C λl o=>?_;try clear C; refine a9 l λu k r=>?_;subst k;subst o
 exact⟨z,G,[],.ret v,p,I,b7 u rfl (r.mono (aA _) y),U⟩
end
noncomputable def bj1:Option Str->Str|none=>Str.empty|some m=>m
def mh(w:NQ)(fi:FI)(m:b9)(H:List O)(X:String)(msg:Option Str)(n:Str)(e:Expr)(y:Str):Prop:=∀(env:Env)(F:i5)(ρ:List c8)(A:NT)(a:Nat)(b:List NS)(s:NR)(Q:VP)(E:VP),A.units+2<cLine->bx msg b->d6 w fi env m F ρ H s.heap (gt s)->jd s.heap a X b->(∃c,s.heap.Ns env.locals c/\c n=some (.ref a))->(∀t tk,s.toks<=tk->Q (.str y t) {s with toks:=tk})->aJ (ay pP w) (A.mark (some (.ref a))) (eval e env) Q E s
section
variable{w:NQ}{fi:FI}{d:Nat}{m:b9}{H:List O}{X nX:String}{msg:Option Str}{n sn:Str}
theorem GG(p:ExcStrFacts X nX)(C:fi.sc.names.lookup n=some .local)(B:(n==("__debug__":Str))=false)(D:fi.sc.names.lookup sn=some .globalImplicit)(eS:nsIn (KW w) bw sn=some none)(x:bQ sn=some (.type "str"))(z:(sn==("__debug__":Str))=false)(G:sn≠"__name__"):mh w fi m H X msg n (.Call (.Name sn p3) [.Name n p4] [] p5) (bj1 msg):=λf F M A a c s Q E u g S q b h=>by
 refine b8 S.b.g λJ r=>?_;refine a9 S.b.bi λI j i=>?_;refine a9 b λK b k=>?_;refine a9 q λt v o=>?_;try clear q
 refine Call_ (cF S.kd ((S.kind sn).trans D) (cW (S.eg▸r) (iS S.b.k r eS) (S.eb▸j) ((i sn G).trans x) ?_) z) (by rfl);show aJ _ _ (dD p5 (.type "str") [] (dW p5 ([Expr.Name n p4].map λe=>(false,eval e f))) []) Q E s;refine fJ W6 (fG (fU ?_));refine cU (dC S.kd ((S.kind n).trans C) b k ?_) B;refine gD ?_;cases msg with|none=>rw[show c=[]from g]at o;exact PySem.P.str_of_exc_none (A:=A.mark (some (.ref a))) p (show(A.mark (some (.ref a))).units+2<cLine from u) v o (h _ _ (by first|exact ae _|exact aN _))|some y=>(refine b8 g λL l=>?_;try clear g;subst l);exact PySem.P.str_of_exc_one (A:=A.mark (some (.ref a))) p (show(A.mark (some (.ref a))).units+2<cLine from u) v o (h _ _ (by first|exact ae _|exact aN _))
theorem GH(h:mh w fi m H X msg n e y)(hz:pre.length+y.length<=aF):mh w fi m H X msg n (.BinOp (.Constant (.str pre) kk p2) .Add e p6) (pre++y):=λc F q A a b s Q E p l S i f j=>by refine wpAny_BinOp (eP ?_);refine h c F q A a b {s with toks:=s.toks+1} _ _ p l (S.tk (aN _)) i f λt u g=>?_;exact bZ (ae _) (PyProof.Rows.add_str (λr k o=>j _ _ (ad (Nat.le_of_succ_le g) o)) hz)
theorem GI(h:mh w fi m H X msg n e y):Su w fi d X msg m H n [.Return (some e) p7] (.str y):=λc F k A a b s o p q r j i l f=>by refine wpAny_execs_cons (wpAny_Return_some ?_);exact h c F k A a b q _ _ (by have:=o.un;exact BR this) p i l f λt u g=>V9 k H (.same (.refl _) rfl (ae _)) (i.tk g) (b7 _ rfl (.intro _ rfl)) rfl
end
noncomputable def G9{b:Type}(lt:Nat->Nat->Bool)(n:Nat):KasT b->Option b|.ret a=>some a|.ask i j k=>if i<n/\j<n then G9 lt n (k (lt i j))else none
theorem GK{e:Type}{c:Nat->Nat->(Bool->NR->Prop)->NR->Prop}{lt:Nat->Nat->Bool}{n:Nat}(f:∀i j,i<n->j<n->∀C:Bool->NR->Prop,C (lt i j) s->c i j C s){Q:e->NR->Prop}(t:KasT e):∀(a:e),G9 lt n t=some a->Q a s->t.kasWp c Q s:=by induction t with|ret b=>intro a h d;injection h with h;exact h▸d|ask i j k g=>
  intro a h d;replace h:(if i<n/\j<n then G9 lt n (k (lt i j))else none)=some a:=h;by_cases q:i<n/\j<n;·rw[if_pos q]at h;exact f i j q.1 q.2 _ (g _ a h d)
  ·rw[if_neg q]at h;injection h
section
variable{w:NQ}{A:NT}{E:VP}{s:NR}{a:Nat}{vs:List NS}{κ:SortKind}{lt:Nat->Nat->Bool}{p:Array Nat}
theorem GL{n:Nat}{P:PySem.Fin->NR->Prop}(K:s.heap.get? a=some (de "list" vs.toArray n))(m:2<=vs.length)(d:vs.length<64)(hk:∀h',(∀b o,b≠a->s.heap.get? b=some o->h'.get? b=some o)->∀Q:SortKind->NR->Prop,Q κ {s with heap:=h'}->aJ (ay pP w) A (keyKind' vs.toArray) Q (λ_ _=>False) {s with heap:=h'})(W:∀h',(∀b o,b≠a->s.heap.get? b=some o->h'.get? b=some o)->∀i j,i<vs.length->j<vs.length->∀C:Bool->NR->Prop,C (lt i j) {s with heap:=h'}->kas_ask pP w A κ vs i j C {s with heap:=h'})(Y:G9 lt vs.length (kas_sort vs.length)=some p)(V:∀h' c,(∀b o,b≠a->s.heap.get? b=some o->h'.get? b=some o)->h'.get? a=some (de "list" (cB (p.toList.map λi=>vs.getD i NS.none)) c)->P (.done (.ret .none)) {s with heap:=h'}):aJ (ay pP w) A (bu.«list.sort» ⟨[.ref a],[]⟩) P E s:=by
 obtain⟨H,u⟩:∃H,(s.heap.update a (bY λ_=>(#[]:Array NS))).get? a=some (de "list" #[] H):=⟨_,get?_update_seq K λ_=>#[]⟩;have B:∀b o,b≠a->s.heap.get? b=some o->(((s.heap.update a (bY λ_=>(#[]:Array NS))).push (de "tuple" vs.toArray 0)).push (de "list" #[] 0)).get? b=some o:=λb o z e=>aD _ (aD _ ((bR _ _ (bg z)).trans e));have l:(((s.heap.update a (bY λ_=>(#[]:Array NS))).push (de "tuple" vs.toArray 0)).push (de "list" #[] 0)).get? a=some (de "list" #[] H):=aD _ (aD _ u);rw[list_sort_plain];refine ac (listItems_at K rfl (ac (listUpdate_at K rfl ?_ (by rw[aZ,sizeLine_eq];exact rI m d) (bq _))));refine ac (seqEpoch_at u rfl (ac (wpAny_newTuple ?_ (by show vs.length<=_;rw[sizeLine_eq];exact rI m d))));refine ac (wpAny_newList ?_ (bq _));refine bc ?_;have t:¬vs.toArray.size<2:=by rw[aZ];exact zd m d
 rw[if_neg t,if_neg t];generalize((s.heap.update a (bY λ_=>(#[]:Array NS))).push (de "tuple" vs.toArray 0)).push (de "list" #[] 0)=g at B l⊢;refine ac (ar (hk g B (λk h=>k=κ/\h={s with heap:=g}) ⟨rfl,rfl⟩) (λk s0 r=>?_) λ_ _ x=>x.elim);refine d7 r λL M=>?_;try clear r;subst L;subst M
 have F:(kas_sort vs.length).kasWp (kas_ask pP w A k vs) (λq h=>q=p/\h={s with heap:=g}) {s with heap:=g}:=GK (λi j Z hj C U=>W g B i j Z hj C U) _ p Y ⟨rfl,rfl⟩;refine ac (ar (kat_run (Q:=λf h=>(p.size=vs.length/\arrOf f=p.map (kas_item (vs.toArray.zip vs.toArray))/\failedOf f=none)/\h={s with heap:=g}) rfl m d (λp' f h S T l D=>⟨i9 (by rw[<-D.1];exact S) (by rw[T,D.1]) l,D.2⟩) F) ?_ λ_ _ e=>e);intro N;obtain⟨⟨⟩,f⟩:=N;intro h;refine u6 λO R=>?_; refine n8 O λy I X=>?_;subst R;dsimp only;have v:=kat_snds rfl I;rw[v];obtain⟨G,J⟩:∃G,(g.update a (bY λ_=>cB (p.toList.map λi=>vs.getD i NS.none))).get? a=some (de "list" (cB (p.toList.map λi=>vs.getD i NS.none)) G):=⟨_,get?_update_seq l λ_=>cB (p.toList.map λi=>vs.getD i NS.none)⟩;refine ac (seqEpoch_at l rfl (ac (listUpdate_at l rfl ?_ (bq _) ?_)));·rw[X];simp only[bne_self_eq_false,bJ,if_false];exact aq (V _ G (λb o z e=>(bR _ _ (bg z)).trans (B b o z e)) J)
 ·rw[aZ,ak,Array.length_toList,y,sizeLine_eq];exact ze m d y
end
abbrev T3:=Int×Int×Int
noncomputable def t3(x:T3):V:=.tup [.int x.1,.int x.2.1,.int x.2.2]
noncomputable def ks(x y:T3):Bool:=if x.1=y.1 then if x.2.1=y.2.1 then decide (x.2.2<y.2.2)else decide (x.2.1<y.2.1) else decide (x.1<y.1)
noncomputable def F2(a:List T3)(i:Nat):T3:=a.getD i (0,0,0)
section
variable{w:NQ}{A:NT}{E:VP}{s:NR}
theorem GM(d:A.handled=none)(i:s.heap.IsList l items)(b:k< -(items.size:Int)\/(items.size:Int)<=k)(c:-2^62 <=k)(a:k<2^62)(f:∀h' tk e t,NV.MadeExc s.heap h' e "IndexError" [.str (aa "list index out of range") t]->E (.ref e) {s with heap:=h',toks:=tk}):aJ (ay pP w) A (getItem (.ref l) (.int k t)) Q E s:=by
 by_cases h0:0<=k
 · refine FV d i h0 ?_ a f;rcases b with h|h;·have:=aW items.size;exact Da c a h0 h
   ·exact h
 refine F5 (id i) λo n p q m=>?_;unfold getItem;try with_reducible refine bc ?_
 first|refine ac (aq ?_)|skip
 refine ac (wpAny_sequenceKey i.typeIs (by decide) ?_);refine ac (bX (name:=aa "__getitem__") i.typeIs slot_list_getitem (bK slot_list_getitem i.typeIs entry_list_getitem ?_ (args_list_getitem _ _)));show aJ _ _ (bu.List.listSubscript? (.int k t)>>=_) _ _ s;refine ac (wpAny_listSubscript_int (fitsIndex_both (Int.le_trans (by decide) c) (jN a)) ?_);clear c a;cases k with|ofNat j=>exact absurd (aW j) h0|negSucc j=>
  have g:seqIndex? (Int.negSucc j) items.size=none:=by
   rcases b with h|h;·exact seqIndex_below h
   ·exact absurd (Int.le_trans (aW _) h) (Int.not_le.mpr (Int.negSucc_lt_zero j))
  refine ac (ac ?_);refine ac (dA n m (aq (aq ?_)));rw[g];first|exact ac (cm (bk plainExc_IndexError d f))|exact ac (cm (ac (bk plainExc_IndexError d f)))|exact ac (ac (cm (bk plainExc_IndexError d f)))|exact cm (bk plainExc_IndexError d f)
end
section
variable{w:NQ}{fi:FI}{d:Nat}{m:b9}{H:List O}{X:String}{msg:Option Str}{Q:List O->Prop}
theorem pB(q:fi.sc.names.lookup xn=some .local)(O:r9 m xn=some (.ref r))(z:(xn==("__debug__":Str))=false)(hy:fi.sc.names.lookup yn=some .local)(P:r9 m yn=some (.int k))(B:(yn==("__debug__":Str))=false)(J:H[r]?=some (.list xs))(I:k< -(xs.length:Int)\/(xs.length:Int)<=k)(j:-2^62 <=k)(hz:k<2^62)(h:Q H):WX w fi d m H (.Subscript (.Name xn xp) (.Name yn yp) pos) "IndexError" (some (aa "list index out of range")) Q:=λA C F R s D S=>by
  refine Subscript_ ?_;refine i8 (S.get O q) λL u g e M=>?_;refine cU (dC S.kd ((S.kind xn).trans q) g e ?_) z;refine i8 (S.get P hy) λL v g e N=>?_;refine cU (dC S.kd ((S.kind yn).trans hy) g e ?_) B;refine a9 M.ref_eq λf G l=>?_;subst l;refine b8 N.int_eq λy n=>?_;subst n;refine a9 (S.hs.list (.inl J) G) λV a b=>?_;have e:gA (.Name xn xp) (.Name yn yp) (.ref f.a) (.int k y)=(do let r<-L5 (.ref f.a) (.int k y);letTemporaryGo (.Name xn xp) (.ref f.a) r;pure r):=by
   have p:∀b o i,subscripted (.Name yn yp) b o i=match b with|true=>runValue (.builtin "lifetime.subscript" ⟨[o,i],[]⟩)|false=>operate [o,i] (getItem o i):=by intro b o i;cases b<;>rfl
   unfold gA L5;first| simp only[p,bind_assoc];rfl |simp only[p,bind_assoc]
  rw[e];refine ac (lN a.typeIs slot_list_getitem.lookup (bZ (ae _) (GM D.hd a (by exact aZ▸b.len▸I) j hz λT U x t c K=>?_)));exact⟨R,H,s.heap,x,_,rfl,.same (.of_keep c.keeps) rfl (ae _),(S.keeps c.keeps).tk K,⟨_,rfl⟩,c,S.fresh λb E=>by exact af.mp E▸c.new,h⟩
end
section
variable{w:NQ}{d:Nat}{H:List O}
structure NO(w:NQ)(i:Nat)(F:i5)(ρ₀:List c8)(s₀:NR)(en:c8)(S:Nat)(s:NR)(ρ:List c8)(H:List O):Prop where
 st:e8 ρ₀ s₀ ρ s
 T:d9 w F ρ H s.heap (gt s)
 he:ρ[i]?=some en
 gen:∃g,s9 s.heap en.a g 0
 fS:F.f S=none
 oS:S∉l7 ρ
 ls:∃acc c,s.heap.get? S=some (oZ acc c)
 nS:S≠en.a
end
section
variable{M:Model}{A:NT}{E:VP}{s:NR}{K:Frag}{pos:Pos}{f:NS}{first:List NS}{Q:VP}
theorem GN{P:NV->Prop}(d:(args.any (·.1)||keywords.any (·.1.isNone))=false)(i:∀h,P h->∃k,(k=Keeper.frame\/k=Keeper.machine\/k=Keeper.boundFrame)/\dk M h (keeperOf f) k)(h:aJ M A (evalArgs f true args keywords) (λa s₁=>P s₁.heap/\g8 M A (call f (first++a.pos) a.kw) Q E s₁) E s):g8 M A (dD pos f first args keywords) Q E s:=by
 refine k8 (U2 (up (ar h (λa s₁ b=>k8 (J4 ?_)) λ_ _ x=>x)));refine a9 (i _ b.1) λk g L=>?_;rw[d];dsimp only;refine k8 (up (L.here ?_));have c:∀{t:Sem NS},g8 M A t Q E s₁->g8 M A (t>>=λr=>cZ [r] point>>=λ_=>pure r) Q E s₁:=λl=>k8 (o0 l (λr n j=>k8 (U2 (up (wpAny_point (q7 j))))) λ_ _ x=>x);have e(m:NS):g8 M A (callMarked m f (first++a.pos) a.kw) Q E s₁:=by unfold callMarked;exact sQ b.2
 rcases g with rfl|rfl|rfl<;>dsimp only<;>first|exact c b.2| split<;>first|exact c b.2|exact c (e _)
end
section
variable{w:NQ}{fi:FI}{d:Nat}{m:b9}{H:List O}
theorem GP{a:Nat}(M:keepIn (KW w) (.ref a)=true)(h:WE w fi d m H func λf c=>f=.st a/\B2 w fi d m c args λE e=>ki w d e (.st a) E Q)(N:autoParam (J7 args) NY._auto_1)(L:autoParam (∀env,eval (.Call func args [] pos) env=do dD pos (<-eval func env) [] (dW pos (eF args env)) (backToKw pos (eW [] env))) NY._auto_1):tU w fi d m H (.Call func args [] pos) Q:=λA env F R s l S=>by
  rw[L env];refine k8 (up (ar (h A env F R s l S) (λu D j=>?_) λ_ _ x=>x));obtain⟨U,c,f,t,I,P,i⟩:=j;refine d7 i λo g=>?_;clear i;subst o;rw[N env];subst P;refine GN (by rw[W6];rfl) (keeps_K (K:=KW w) M) (ar (iX g l I) (λx C j=>?_) λ_ _ x=>x);refine d7 j λn p=>?_;try clear j;obtain⟨B,e,E,y,k,q,J⟩:=p
  refine⟨k.b.k,?_⟩;rw[n];refine o0 (J A _ B C (.ref a) _ (show j0 A d (w4 F C.heap env (j9 fi env)).fr from l) k.toH rfl q) (λv V=>HQ.el λz G b r T q O=>⟨z,G,b,(t.trans y).trans r,k.ofH r.1 r.2.1 T,q,O⟩) λ_ _ x=>x.elim
end
section
variable{w:NQ}{d:Nat}{H:List O}{a:Nat}{o:Obj}{fd:FuncData}{body:List NW}{sc:Scope}{ps:List Str}{xs:List V}
theorem GS(K:z6 (KW w) a o fd body sc ps)(g:sc.isGenerator=false)(e:xs.length=ps.length)(h:hV w ⟨sc,true,fd.code⟩ d (u7 sc ps xs) H body (hE Q) λ_ _ _ _=>False):ki w (d+1) H (.st a) xs Q:=λA F W s u J I S V r=>by
  have z:=K.hsc;subst z;subst V;refine d7 (jV K.toFnB S.b) λP y=>?_;have i:J.length=ps.length:=r.len.trans e;refine kl (tZ (E:=λ_ _=>False) I.depth P K.hd K.hco g K.hb y ?_);rw[K.hbd J i,K.hcl];refine aq (bZ (ae _) (du K.hk (λx U=>?_) λL O m X T=>?_))
  · have B:x.1∈ps:=by exact(iU i).symm▸bp.mpr (b7 x U rfl)
    rcases K.hkd x.1 B with q|q;·exact .inl q
    · refine b8 (iW (n:=s.heap.objs.size+1) (mem_of_lookup q)) λc N=>?_;exact .inr ⟨q,by rw[O1 (iV K.hnd) N];rfl⟩
  ·subst O;refine d7 (jU K.toFnB e S r X T) λk D=>?_;refine⟨D.b.lim,tY ?_⟩;refine o0 (h _ _ F W m rfl (I.deeper rfl) D) (λf Z R=>?_) λ_ _ x=>x.no.elim;obtain⟨p,b,Y,M,l,G,C,t⟩:=R;cases M with|next=>subst C;exact⟨p,b,.none,k.trans l,G.hs,rfl,t⟩|ret v=>(refine a9 C λu j r=>?_;try clear C;subst j);exact⟨p,b,v,k.trans l,G.hs,r,t⟩|brk=>exact t.elim|cont=>exact t.elim
end
section
variable{w:NQ}{fi:FI}{d:Nat}{m:b9}{H:List O}
theorem w1(h:WE w fi d m H value λo a=>W1 w d VR a (λu=>fH u attr true) o Q)(z:autoParam (eval (.Attribute value attr pos)=λenv=>do
  let o<-eval value env
  dl pos.atName let r<-cZ [o] (fH o attr true)
  letTemporaryGo value o r
  pure r) Attribute_Name_._auto_1):WE w fi d m H (.Attribute value attr pos) Q:=λA env F E s l S=>by rw[congrFun z env];refine ac (ar (h A env F E s l S) (λu e f=>?_) λ_ _ x=>x);obtain⟨j,a,o,g,p,B,c⟩:=f;refine ac (cM (ac (bc (q9 (lift p λn q T=>c A n j e u (q▸l) T B) λv G f=>?_))));obtain⟨k,b,D,i,t,C,y⟩:=f;exact ac (wpAny_letTemporaryGo (aq ⟨k,b,D,g.trans i,t,C,y⟩))
end
section
variable{w:NQ}{d:Nat}{H:List O}{Q:QV}
theorem A4(K:W8 (KW w) C N)(m:nsIn (KW w) N name=some none)(D:bA (.type "object") name=pure none)(M:H[i]?=some (.inst C fs))(R:fs.lookup name=some v)(G:∀n,v≠.bi n)(h:Q v H):W1 w d VR H (λu=>fH u name ex) (.ref i) Q:=λA F V s u hA S T=>by
 refine a9 T.ref_eq λe J y=>?_;subst y;refine nH (pc S M J) λZ o mA L h1 h2 h3 I O j=>?_;obtain⟨P,g,Y,tk,os⟩:=s;have B:Bs w P:=S.b;refine b8 (K.nsp B) λmN l=>?_;refine kY K.cl λnm q W sn U z X k0 k1 k2 k3 k5 E=>?_;have p:=j name;rw[R]at p;refine a9 p λx r f=>?_;try clear p
 have k:PySem.handedOut x=pure x:=by cases x with
  |builtin id=>exfalso;cases v with|bi n=>exact G n rfl|none=>injection f|bool b=>injection f|int b=>(refine b8 f λ_ q=>?_;try clear f);injection q|flt b=>(refine a9 f λ_ _ q=>?_;try clear f);injection q|str b=>(refine b8 f λ_ q=>?_;try clear f);injection q|stk b t=>(refine d7 f λ_ q=>?_;try clear f);injection q|ty b=>injection f|st b=>injection f|ref b=>(refine a9 f λ_ _ q=>?_;try clear f);injection q|rng a b=>(refine a9 f λ_ q _=>?_;try clear f);injection q|tup b=>(refine t8 f λ_ _ q _=>?_;try clear f);injection q|sub c b=>(refine t8 f λ_ _ q _=>?_;try clear f);injection q
  |_=>rfl
 exact load_attr (B.k _ _ E) l (ns_none_of B.k l K.ga) (ns_none_of B.k l m) D I r k ⟨V,H,v,.same (.refl _) rfl (ae _),S.tk (aN _),f,h⟩
end
section
variable{K:Type}[DecidableEq K]
def bS{w:NQ}(knd:KeyKind pP w K)(b:List (K×V)):List c8->NV->Nat->Prop:=λc h a=>(a==sysModules)=false/\∃us:List (K×NS),h.DictOf knd a us/\us.map (·.1)=b.map (·.1)/\e5 c h (b.map (·.2)) (us.map (·.2))
noncomputable abbrev dO{w:NQ}(knd:KeyKind pP w K)(a:List (K×V)):O:=.prd (bS knd a)
theorem bS.stab(knd:KeyKind pP w K)(e:List (K×V)):aC (bS knd e)where
 mono:=λp t g=>ri λa f b c d=>ge a f (b.at g) c (d.mono p t)
 ents:=λq=>ri λa f b c d=>ge a f b c (d.ents q)
structure X3{w:NQ}(knd:KeyKind pP w K)(kv:K->V):Prop where is:∀{ρ:List c8}{h:NV}{k:K}{u:NS},VR ρ h (kv k) u->knd.is k u=true
theorem I7:X3 (strKind pP w) V.str:=⟨λr=>by refine b8 r.str_eq λt a=>?_;subst a;exact strKind_is pP w _ _⟩
theorem bj2:X3 (eC pP w) V.int:=⟨λr=>by refine b8 r.int_eq λt a=>?_;subst a;exact intKind_is pP w _ _⟩
noncomputable def A5(a:List (K×V))(k:K):Option V:=(a.find? λb=>b.1=k).map (·.2)
noncomputable def K0(a:List (K×V))(k:K)(v:V):List (K×V):=if a.any λb=>b.1=k then a.map λb=>if b.1=k then(b.1,v)else b else a++[(k,v)]
theorem GV{ρ:List c8}{h:NV}{k:K}:∀{b:List (K×V)}{us:List (K×NS)},us.map (·.1)=b.map (·.1)->e5 ρ h (b.map (·.2)) (us.map (·.2))-> A5 b k=none/\valueAt us k=none \/∃v u,A5 b k=some v/\valueAt us k=some u/\VR ρ h v u:=by intro b;induction b with
 |nil=>intro us q r;cases us with|nil=>exact .inl ⟨rfl,rfl⟩|cons a us=>injection q
 |cons p b j=>intro us q r;cases us with|nil=>injection q|cons l us=>
  obtain⟨f,d⟩:=p;obtain⟨g,i⟩:=l;refine i8 (e5.cons_eq (show e5 ρ h (d::b.map (·.2)) (i::us.map (·.2))from r)) λv o e m n=>?_;by_cases c:g=k
  · refine .inr ⟨d,i,?_,?_,(List.cons.inj e).1▸m⟩;·unfold A5;rw[dH (by simpa using(List.cons.inj q).1.symm.trans c)];rfl
    ·unfold valueAt;rw[dH (by simpa using c)];rfl
  ·have:=j (List.cons.inj q).2 ((List.cons.inj e).2▸n);unfold A5 valueAt at this⊢;rw[dI (by have z:f≠k:=λz=>c ((List.cons.inj q).1.trans z);simpa using z),dI (by simpa using c)];exact this
theorem ji{ρ:List c8}{h:NV}{k:K}{a:List (K×V)}{us:List (K×NS)}(b:us.map (·.1)=a.map (·.1))(c:e5 ρ h (a.map (·.2)) (us.map (·.2))){G:Prop}(n:A5 a k=none->valueAt us k=none->G)(f:∀v u,A5 a k=some v->valueAt us k=some u->VR ρ h v u->G):G:=(GV b c).elim (λq=>n q.1 q.2) λq=>i8 q f
theorem uE{k:K}{v:V}{u:NS}(r:VR ρ h v u)(q:us.map (·.1)=d.map (·.1))(s:e5 ρ h (d.map (·.2)) (us.map (·.2))):(stored us k u).map (·.1)=(K0 d k v).map (·.1)/\e5 ρ h ((K0 d k v).map (·.2)) ((stored us k u).map (·.2)):=by
 have i:(us.any λf=>decide (f.1=k))=d.any λf=>decide (f.1=k):=by
  have:∀{z:Type}(l:List (K×z)),(l.any λf=>decide (f.1=k))=(l.map (·.1)).any λx=>decide (x=k):=λl=>by rw[List.any_map];rfl
  rw[this,this,q]
 unfold stored K0;rw[i];split
 · have m:∀{d:List (K×V)}{us:List (K×NS)},us.map (·.1)=d.map (·.1)->e5 ρ h (d.map (·.2)) (us.map (·.2))->(us.map λf=>if f.1=k then(f.1,u)else f).map (·.1)=(d.map λf=>if f.1=k then(f.1,v)else f).map (·.1)/\e5 ρ h ((d.map λf=>if f.1=k then(f.1,v)else f).map (·.2)) ((us.map λf=>if f.1=k then(f.1,u)else f).map (·.2)):=by intro d;induction d with
    |nil=>intro us q s;cases us with|nil=>exact⟨rfl,.nil⟩|cons _ _=>injection q
    |cons x d o=>intro us q s;cases us with|nil=>injection q|cons y us=>
      obtain⟨n,j⟩:=x;obtain⟨g,w⟩:=y;simp only[bN,List.cons.injEq]at q;obtain⟨rfl,q⟩:=q;obtain⟨B,A,e,p,t⟩:=e5.cons_eq (show e5 ρ h (j::d.map (·.2)) (w::us.map (·.2))from s);cases e;obtain⟨a,b⟩:=o q t;simp only[bN];refine⟨?_,?_⟩;·rw[a];by_cases c:g=k<;>simp[c]
      · by_cases c:g=k;·rw[if_pos c,if_pos c];exact .cons r b
        ·rw[if_neg c,if_neg c];exact .cons p b
   exact m q s
 ·rw[bm,bm,bm,bm,q];exact⟨rfl,s.append (.cons r .nil)⟩
theorem uF{ρ:List c8}{h:NV}{a:List (K×V)}{us:List (K×NS)}(q:us.map (·.1)=a.map (·.1)):us.length=a.length:=by have:=congrArg List.length q;rwa[ak,ak]at this
section
variable{w:NQ}{d:Nat}{H:List O}{knd:KeyKind pP w K}{kv:K->V}{kvs:List (K×V)}{i:Nat}{k:K}{Q:QV}
theorem d9.dict(S:d9 w F ρ H h gs)(f:H[i]?=some (dO knd kvs))(c:ρ[i]?=some e):e.fp=[e.a]/\bS knd kvs ρ h e.a:=m6 (S.ob i e _ c f) λa _ b _=>⟨a,b⟩
theorem d9.dictTurn{tk:Nat}(S:d9 w F ρ H s.heap (gt s))(x:H[i]?=some (dO knd kvs))(v:ρ[i]?=some e)(y:dJ e.a s.heap h')(u:bS knd kvs' ρ h' e.a):e8 ρ s ρ {s with heap:=h',toks:=tk}/\d9 w F ρ (H.set i (dO knd kvs')) h' (gt s):=by
 refine m6 (S.ob i e _ v x) λa b c J=>?_;refine U0 c λ_ L p _=>?_;try clear c;obtain⟨o,I,G,C,l,j,_⟩:=p
 refine U0 (id u) λ_ E r _=>?_;obtain⟨o',B,A,m,_⟩:=r;have t:TK s.heap h':=.of_ext (a:=e.a) (λb o f q=>(y.2 b f).trans q) λo2 g=>by
  rw[C]at g;injection g with g;subst g;rintro(⟨⟨xs,n,q⟩,_⟩|⟨q,_⟩);·rw[j]at q;injection q
  ·rw[l.1]at q;exact absurd q (by decide)
 refine⟨.same t rfl (ae _),S.upd v (λb q f D=>(y.2 b λz=>f (by rw[a,z];exact .head _)).trans D) (λb f=>?_) t (j8 a b u (bS.stab _ _)) trivial λo h q=>by rw[x]at h;injection h with h;subst h;cases q⟩;rw[a]at f;rw[af.mp f];exact⟨o',m⟩
theorem ar7(h:Q (.ref H.length) (H++[dO knd []])):WE w fi d m H (.Dict [] [] pos) Q:=λA j F t s p S=>by
 rw[eval_Dict_empty];refine ac (cM ?_);refine bP ?_ (by size_fits);have f:u0 s.heap (s.heap.push {cls:=.type "dict",data:=.dict #[]}):=λ_ _ e=>aD _ e;have g:=NV.DictOf.new (knd:=knd) s.heap;have b:(s.heap.objs.size==sysModules)=false:=by refine b8 S.b.g λr a=>?_;refine E5 a λo n l c _=>?_;clear a;have:=fR c;refine beq_eq_false_iff_ne.mpr λq=>?_;rw[q]at this;exact absurd this (by decide)
 refine E5 (id g) λo _ _ c _=>?_;have T:=S.toH.alloc (o:=dO knd []) f (z5 _) ⟨o,c⟩ (j8 rfl rfl (ge b ([]) g rfl .nil) (bS.stab _ _));refine⟨_,_,.ref H.length,.add (s:=s) (.of_keep f) rfl (ae _),S.ofH (aH _ _) (.of_keep f) T,?_,h⟩;exact b7 _ (by rw[<-S.hs.len,ao]) rfl
theorem mj{name:Str}{id:String}(b:Slot "dict" name id)(c:eJ (.builtin id)=pure (.type "method_descriptor"))(l:H[i]?=some (dO knd kvs)):I4 w H (.ref i) name (.bi id):=λA F q s u o n m S r h=>by refine a9 r.ref_eq λe j f=>?_;subst f;refine d7 (S.dict l j) λ_ a=>?_;refine U0 a λ_ p g _=>?_;clear a;exact getMethod_builtin g.typeIs PySem.F.plainAttrs_dict b c g.mapOf.noDict (h _ jX)
theorem pC{x:V}(E:X3 knd kv)(G:H[i]?=some (dO knd kvs))(h:Q ((A5 kvs k).getD x) H):j7 w d H (.bi "dict.get") [.ref i,kv k,x] Q:=λA F C s u R T S O r=>by
 rw[O.bi_eq];refine i8 r.cons_eq λv q n P N=>?_;subst n;refine i8 N.cons_eq λW U f p o=>?_;subst f;refine i8 o.cons_eq λt M g m l=>?_;subst g;rw[l.nil_eq];refine a9 P.ref_eq λe D j=>?_;subst j;refine ff (S.dict G D) λ_ L R B I J=>?_;refine call_meetsIn dN B.typeIs PySem.F.entry_dict_get (PySem.F.args_dict_get_3 _ _ _) (meets_dict_get_default knd e.a (E.is p) L t) (b7 _ B.mapOf ?_);refine ji (k:=k) I J (λa b=>?_) λy z a b c=>?_;·rw[b];rw[a]at h;exact⟨C,H,x,.same (.refl _) rfl (ae _),S.tk (aN _),m,h⟩
 ·rw[b];rw[a]at h;exact⟨C,H,y,.same (.refl _) rfl (ae _),S.tk (aN _),c,h⟩
theorem mn{v:V}(n:X3 knd kv)(o:H[i]?=some (dO knd kvs))(g:A5 kvs k=some v)(h:Q v H):W2 w d VR H L5 (.ref i) (kv k) Q:=λA F t s u C x S r j=>by
 refine a9 r.ref_eq λe m f=>?_;subst f;refine ff (S.dict o m) λ_ B D l p q=>?_;refine ji (k:=k) p q (λa b=>?_) λy z a b c=>?_;·rw[a]at g;injection g
 ·cases a.symm.trans g;exact lN l.typeIs slot_dict_getitem.lookup (wpAny_getItem_of (n.is j) l.mapOf b ⟨t,H,v,.same (.refl _) rfl (ae _),S.tk (aN _),c,h⟩)
theorem hW{Q:Unit->List O->Prop}(J:X3 knd kv)(y:H[i]?=some (dO knd kvs))(hz:kvs.length<=aF)(h:Q () (H.set i (dO knd (K0 kvs k v)))):W3 w d gU H setItem (.ref i) (kv k) v Q:=λA F C s u u' V Y S R p g=>by
 refine a9 R.ref_eq λe x f=>?_;subst f;refine ff (S.dict y x) λ_ P us r z N=>?_;refine wpAny_setItem_pairs (hsz:=by rw[uF (ρ:=C) (h:=s.heap) z];exact hz) (J.is p) r λG c B=>?_;refine E5 (id c) λZ E D M _=>?_;refine P9 (id r) λo X W L m l _=>?_;have t:TK s.heap G:=.of_ext (a:=e.a) (λb o I q=>(B.2 b I).trans q) λo2 j=>by
  rw[L]at j;injection j with j;subst j;rintro(⟨⟨xs,n,q⟩,_⟩|⟨q,_⟩);·rw[l]at q;injection q
  ·rw[m.1]at q;exact absurd q (by decide)
 refine d7 (uE (k:=k) (g.mono (aA _) t) z (N.mono (aA _) t)) λa b=>?_;refine d7 (S.dictTurn (tk:=s.toks+1) y x B (ge P _ c a b)) λU T=>?_;exact⟨C,_,(),U,T.tk (aN _),trivial,h⟩
theorem GY{x:V}(hk:X3 knd kv)(U:H[i]?=some (dO knd kvs))(hz:kvs.length<=aF)(h1:∀v,A5 kvs k=some v->Q v H)(f:A5 kvs k=none->Q x (H.set i (dO knd (K0 kvs k x)))):j7 w d H (.bi "dict.setdefault") [.ref i,kv k,x] Q:=λA F P s u us hA S ru r=>by
 rw[ru.bi_eq];refine i8 r.cons_eq λv q j rv rq=>?_;subst j;refine i8 rq.cons_eq λv' q' l N M=>?_;subst l;refine i8 M.cons_eq λO a0 m C B=>?_;subst m;rw[B.nil_eq];refine a9 rv.ref_eq λe R p=>?_;subst p;refine ff (S.dict U R) λ_ Y us E D L=>?_;refine P9 (id E) λo es ep ho J I _=>?_;refine call_meetsIn PySem.F.slot_dict_setdefault E.typeIs PySem.F.entry_dict_setdefault (by rfl) (kt_meets_setdefault knd e.a (hk.is N) Y O) (N1 us E (by rw[uF (ρ:=P) (h:=s.heap) D];exact hz) (λy g=>?_) λW h' G X=>?_)
 · refine ji (k:=k) D L (λa b=>?_) λy' z a b c=>?_;·rw[b]at g;injection g
   ·rw[b]at g;injection g with g;subst g;exact⟨P,H,y',.same (.refl _) rfl (ae _),S.tk (aN _),c,h1 _ a⟩
 · refine ji (k:=k) D L (λa b=>?_) λy' z a b c=>?_
   · have t:TK s.heap h':=.of_ext (a:=e.a) (λb o hb q=>(X.2 b hb).trans q) λo2 f=>by
      rw[ho]at f;injection f with f;subst f;rintro(⟨⟨xs,n,q⟩,_⟩|⟨q,_⟩);·rw[I]at q;injection q
      ·rw[J.1]at q;exact absurd q (by decide)
     have Z:=C.mono (aA _) t;refine d7 (uE (k:=k) Z D (L.mono (aA _) t)) λa' b'=>?_;refine d7 (S.dictTurn (tk:=s.toks+1) U R X (ge Y _ G a' b')) λst T=>?_;exact⟨P,_,x,st,T.tk (aN _),Z,f a⟩
   ·rw[b]at W;injection W
end
end
theorem uG:entryFor table "dict.__getattribute__"=some bu.«object.__getattribute__»:=entryFor_alias (id':="object.__getattribute__") (by kernel_rfl) (by decide+kernel) (by decide+kernel) (by kernel_rfl)
theorem aM8:bA (.type "method_descriptor") "__get__"=pure (some (.builtin "method_descriptor.__get__")):=by rw[bd,aO];kernel_rfl
theorem aM9:bA (.type "method_descriptor") "__set__"=pure none:=by rw[bd,aO];kernel_rfl
theorem aN0:bA (.type "method_descriptor") "__delete__"=pure none:=by rw[bd,aO];kernel_rfl
theorem pD:entryFor table "method_descriptor.__get__"=some bu.«method_descriptor.__get__»:=entryFor_of_tree (by kernel_rfl)
theorem jj:Slot "method_descriptor" "__get__" "method_descriptor.__get__":=.of (owner:="method_descriptor") (n:="__get__") (by rw[bd,aO];kernel_rfl) (by decide+kernel) (by decide+kernel) (by decide+kernel) (by first|exact .inl (by decide+kernel)|exact .inr (by decide+kernel)) (by rw[cp];kernel_rfl)
theorem pF(a b c:NS):argsOk "method_descriptor.__get__" ⟨[a,b,c],[]⟩:=by unfold argsOk;kernel_rfl
noncomputable abbrev K1(id:String)(a:Nat):Obj:={cls:=.type "builtin_function_or_method",data:=.fields #[.builtin id,.ref a]}
section
variable{w:NQ}{A:NT}{E:VP}{s:NR}{a:Addr}{Q:Fin->NR->Prop}{T id:String}{name:Str}
theorem uH:ew (.type "dict") (.type "dict")=pure true:=by rw[cp];kernel_rfl
theorem GZ(b:s.TypeIs (.ref a) "dict")(h:s.heap.get? s.heap.objs.size=none->Q (.done (.ret (.ref s.heap.objs.size))) {s with heap:=s.heap.push (K1 "dict.get" a)}):aJ (ay pP w) A (bu.«method_descriptor.__get__» ⟨[.builtin "dict.get",.ref a,.type "dict"],[]⟩) Q E s:=by
 repeat any_goals first|assumption|wp_step
 rw[show ".".intercalate ("dict.get".cutAt '.').dropLast="dict"by decide+kernel];refine bM uH ?_;first|with_reducible refine NX (by decide) ?_|dsimp only[Bool.not_true,bJ,if_false]
 refine aq (ac ?_);refine bP ?_ (by size_fits);exact aq (h (z5 _))
theorem Ha{e d k}{Q:VP}(j:s.heap.get? a=some ⟨.type "dict",none,.dict e d,k⟩)(h:∀tk,s.heap.get? s.heap.objs.size=none->Q (.ref s.heap.objs.size) {s with heap:=s.heap.push (K1 "dict.get" a),toks:=tk}):aJ (ay pP w) A (fH (.ref a) "get" true) Q E s:=by
 have b:∀c,({s with toks:=c}:NR).TypeIs (.ref a) "dict":=λ_=>b7 _ j rfl;have f:=cY.lookup;have l:=cY.bind (.ref a);have m:bA (.type "dict") "get"=pure (some (.builtin "dict.get")):=dN.lookup;have g:eJ (.builtin "dict.get")=pure (.type "method_descriptor"):=fv;have n:=aM8;have o:=aM9;have p:=aN0;refine ac (wpAny_mkText (bc (ac (dq (b _) (ac (bM f ?_))))));dsimp only;refine NX (by decide) ?_;repeat any_goals first|assumption|exact b _| (with_reducible show aJ _ _ (call (NS.builtin "dict.__getattribute__") _ _) _ _ _);refine bK cY (b _) uG ?_ (F.args_dict_getattribute_2 _ _) |wp_step
 refine db jj.plain pD (jj.check _ _ _ _ _ _ _ _ (show({s with toks:=s.toks+1}:NR).TypeIs (.builtin "dict.get") "method_descriptor"from g) (pF _ _ _) (GZ (b _) λi=>?_));refine aq (b7 _ rfl ?_);exact aq (h _ i)
end
def kt(id:String)(i:Nat):List c8->NV->Nat->Prop:=λb h a=>∃e,b[i]?=some e/\h.get? a=some (K1 id e.a)
noncomputable abbrev bO(id:String)(i:Nat):O:=.prd (kt id i)
theorem kt.stab(id:String)(i:Nat):aC (kt id i)where
 mono:=λp t g=>A8 λe a b=>b7 e (x6 p a) (g _ b)
 ents:=λq=>A8 λe a b=>a9 (jb q a) λc d f=>b7 c d (by rw[f];exact b)
section
variable{w:NQ}{d:Nat}{H:List O}{Q:QV}{K:Type}[DecidableEq K]{knd:KeyKind pP w K}{kv:K->V}{kvs:List (K×V)}{i j:Nat}{k:K}
theorem Hb(v:H[i]?=some (dO knd kvs))(h:Q (.ref H.length) (H++[bO "dict.get" i])):W1 w d VR H (λu=>fH u "get" true) (.ref i) Q:=λA F R s u I S B=>by
 refine a9 B.ref_eq λe p g=>?_;subst g;refine d7 (S.dict v p) λ_ f=>?_;refine U0 f λM P l J=>?_;clear f;obtain⟨⟨c,C,D,N⟩,G,E,y,b,a,L⟩:=l;refine n8 b λm n t=>?_;try clear b
 dsimp only at m n t a;subst m n a;refine bZ (ae _) (Ha y λO x z=>?_);have r:u0 s.heap (s.heap.push (K1 "dict.get" e.a)):=λ_ _ q=>aD _ q;have T:=S.alloc (o:=bO "dict.get" i) r x ⟨_,aT _ rfl⟩ (j8 rfl rfl (b7 e (x6 (aH _ _) p) (aT _ rfl)) (kt.stab _ _));refine⟨_,_,.ref H.length,.add (s:=s) (.of_keep r) rfl (ae _),T.tk z,?_,h⟩;exact b7 _ (by rw[<-S.len,ao]) rfl
theorem uI:ew (.type "dict") (.type "module")=pure false:=by rw[cp];kernel_rfl
theorem ct8(v x y:NS):(match dm "dict.get"with|some a=>Bind.checkArgs "dict.get" {a with full:=toString (Bind.lastOf "dict")++toString "."++toString (Bind.lastOf "dict.get")} ⟨[v,x,y],[]⟩|none=>pure ())=(pure ():Sem Unit):=by kernel_rfl
theorem Hc:eY "dict.get"=some .method:=by kernel_rfl
theorem He:Manifest.varargsMethods.contains "dict.get"=false:=by decide+kernel
theorem Hf{A:NT}{E:VP}{s:NR}{p a:Addr}{x y:NS}{S:PySem.Spec}{Q:VP}(u:s.heap.get? p=some (K1 "dict.get" a)){t r B}(q:s.heap.get? a=some ⟨.type "dict",none,.dict t r,B⟩)(g:MeetsIn pP w (bu.«dict.get» ⟨[.ref a,x,y],[]⟩) S)(h:S A (wants Q E) s):aJ (ay pP w) A (call (.ref p) [x,y]) Q E s:=by
 have o:s.TypeIs (.ref a) "dict":=b7 _ q rfl;refine da (codeAny_of_tree ?_);refine nd_load u ?_;show aJ _ _ (fy "dict.get" ⟨[.ref a,x,y],[]⟩>>=λ_=>again (.builtin "dict.get" ⟨[.ref a,x,y],[]⟩)) _ _ _;have c:=ct8 (.ref a) x y;have n:aJ (ay pP w) (A.under (Code.call (.ref p) ⟨[x,y],[]⟩)) (again (.builtin "dict.get" ⟨[.ref a,x,y],[]⟩)) (λl b=>match l with|.done f=>wants Q E (.ok f) b|.again m=>m.quiet=true/\fq (ay pP w) A m (wants Q E) b) (λe b=>wants Q E (.error e) b) s:=by refine aq ⟨eR _ (by decide+kernel),eU PySem.F.entry_dict_get ?_⟩;rw[dE (by decide+kernel) _];exact g A (wants Q E) s h
 refine ac ?_;unfold fy;cases v:dm "dict.get"with|none=>exact aq n|some z=>rw[v]at c;rw[Hc];dsimp only at c⊢;refine NX (by decide) ?_;refine ac (cC o uI ?_);rw[He];refine NX (by decide) ?_;refine ac ?_;refine ac (wpAny_loadPart_at q (aq ?_));dsimp only;refine NX (by decide) ?_;refine ac (dq o ?_);exact bM c n
theorem Hg(P:X3 knd kv)(O:H[j]?=some (bO "dict.get" i))(R:H[i]?=some (dO knd kvs))(h:Q ((A5 kvs k).getD x) H):j7 w d H (.ref j) [kv k,x] Q:=λA F J s u us hA S Z r=>by
 refine a9 Z.ref_eq λL n o=>?_;subst o;refine i8 r.cons_eq λv' q' p C B=>?_;subst p;refine i8 B.cons_eq λD Y q m l=>?_;subst q;rw[l.nil_eq];refine m6 (S.ob j L _ n O) λ_ _ t _=>?_;obtain⟨e,N,U⟩:=t;refine ff (S.dict R N) λ_ X us I V W=>?_;refine P9 (id I) λv es ep T g f _=>?_;obtain⟨c,dc,dt,sl⟩:=v;refine n8 g λE G M=>?_;try clear g
 dsimp only at E G M f;subst E G f;refine Hf U T (meets_dict_get_default knd e.a (P.is C) X D) (b7 _ I.mapOf ?_);refine ji (k:=k) V W (λa b=>?_) λy z a b c=>?_;·rw[b];rw[a]at h;exact⟨J,H,x,.same (.refl _) rfl (ae _),S.tk (aN _),m,h⟩
 ·rw[b];rw[a]at h;exact⟨J,H,y,.same (.refl _) rfl (ae _),S.tk (aN _),c,h⟩
end
section
variable{w:NQ}{fi:FI}{d:Nat}{m:b9}{H:List O}
theorem Hh{p a:Addr}{id:String}(h:NV)(X:h.get? p=some (K1 id a)):∃k,(k=Keeper.frame\/k=Keeper.machine\/k=Keeper.boundFrame)/\dk M h (keeperOf (.ref p)) k:= b7 .machine (.inr (.inl rfl)) ((dR (part:=none) X).andThen .now)
theorem jl{Q:QV}(h:WE w fi d m H func λf c=>∃j,f=.ref j/\B2 w fi d m c args λL b=>(∃id i,b[j]?=some (bO id i))/\j7 w d b (.ref j) L Q)(W:autoParam (J7 args) NY._auto_1)(V:autoParam (∀env,eval (.Call func args [] pos) env=do dD pos (<-eval func env) [] (dW pos (eF args env)) (backToKw pos (eW [] env))) NY._auto_1):WE w fi d m H (.Call func args [] pos) Q:=λA env F ρ s r S=>by
  refine Call_ (ar (h A env F ρ s r S) (λu K p=>?_) λ_ _ x=>x) (V env);obtain⟨a0,c,f,G,N,Y,l⟩:=p;refine a9 l λj z k=>?_;clear l;subst z;rw[W env];refine a9 Y.ref_eq λe t B=>?_;subst B;refine callWith_of (P:=λh=>∃id a,h.get? e.a=some (K1 id a)) (by rw[W6];rfl) (λh=>lc λid a X=>Hh h X) (ar (iX k r N) (λx s2 p=>?_) λ_ _ x=>x);refine d7 p λv C=>?_;try clear p;obtain⟨I,b,L,o,J,Z,n⟩:=C;refine d7 n λD R=>?_;clear n;obtain⟨id,i,U⟩:=D
  have g:=x6 o.1 t;refine m6 (J.hs.ob j e _ g U) λ_ _ E _=>?_;obtain⟨O,_,y⟩:=E;refine⟨u8 id O.a y,?_⟩;rw[v];exact q9 (lift J λM q T=>R A M I s2 (.ref e.a) _ (q▸r) T (b7 e g rfl) Z) λ_ _ x=>x.step (G.trans o)
end
theorem VR.stk_eq(r:VR ρ h (.stk x t) v):t≠0/\v=.str x t:=by exact r
theorem az9(a:t≠0):VR ρ h (.stk x t) (.str x t):=And.intro a rfl
theorem VR.weak(r:VR ρ h (.stk x t) v):VR ρ h (.str x) v:=by rw[r.stk_eq.2];exact oM
section
variable{w:NQ}{d:Nat}{H:List O}{Q:QV}
noncomputable def K2:V->Option Bool|.none=>some true|.str _=>some false|.stk _ _=>some false|.ref _=>some false|.int _=>some false|.tup _=>some false|.sub _ _=>some false|.st _=>some false|_=>none
theorem uJ(k:K2 x=some b)(a:VR ρ h x u):plainIs u .none=true/\(u==.none)=b:=by
 cases x<;>first|cases k|skip
 ·subst a;exact⟨rfl,rfl⟩
 ·(refine b8 a λ_ c=>?_;try clear a;subst c);exact⟨rfl,rfl⟩
 ·(refine b8 a λ_ e=>?_;try clear a;subst e);exact⟨rfl,rfl⟩
 ·(refine d7 a λ_ f=>?_;try clear a;subst f);exact⟨rfl,rfl⟩
 ·subst a;exact⟨rfl,rfl⟩
 ·(refine a9 a λ_ _ g=>?_;try clear a;subst g);exact⟨rfl,rfl⟩
 ·(refine t8 a λ_ _ i _=>?_;try clear a;subst i);exact⟨rfl,rfl⟩
 ·(refine t8 a λ_ _ j _=>?_;try clear a;subst j);exact⟨rfl,rfl⟩
theorem cg(e:K2 x=some b)(h:Q (.bool b) H):W2 w d VR H (cD .Is) x .none Q:=λA F j s u v i S f g=>by refine d7 (uJ e f) λa c=>?_;rw[g.none_eq];exact wpAny_is_plain a (by rw[c];exact B4 S C0 h)
theorem mq(e:K2 x=some b)(h:Q (.bool (!b)) H):W2 w d VR H (cD .IsNot) x .none Q:=λA F j s u v i S f g=>by refine d7 (uJ e f) λa c=>?_;rw[g.none_eq];exact wpAny_isNot_plain a (by rw[c];exact B4 S C0 h)
theorem uK(m:nsIn (KW w) cStatics sharingNotToldKey=some none)(i:t=t'\/x=y->Q (.bool true) H)(h:t≠t'->Q (.bool false) H):W2 w d VR H (cD .Is) (.stk x t) (.stk y t') Q:=λA F z s u v B S p r=>by
 refine d7 p.stk_eq λn f=>?_;subst f;refine d7 r.stk_eq λc g=>?_;subst g;refine a9 S.b.dig λo k _=>?_;have j:NoneBooked s.heap:=b7 o k (ns_none_of S.b.k k m);have l:¬(t==0||t'==0)=true:=by simp[n,c]
 show aJ _ _ (do return NS.bool (<-isSame.created (x==y) t t')) _ _ s;refine ac ?_;unfold isSame.created;refine NX (decide_eq_false l) ?_;by_cases e:t=t';·refine wpAny_ite_true (by simpa using e) ?_;exact aq (aq (B4 S C0 (i (.inl e))))
 · refine NX (by simpa using e) ?_;by_cases q:x=y
   · refine NX (by simp[q]) ?_;refine ac (wpAny_sharingNotTold_none j ?_);refine NX (decide_eq_false cA) ?_;refine ac (wpAny_sharingNotTold_none j ?_);refine NX (decide_eq_false cA) ?_;refine ac (cm (ac (wpAny_askSetting (aq ?_))));have a:∀b:Bool,aJ (ay pP w) A (pure (NS.bool b)) (HQ w VR F z s Q) nE s:=λb=>by
      cases b;·exact aq (B4 S C0 (h e))
      ·exact aq (B4 S C0 (i (.inr q)))
     exact a _
   ·refine wpAny_ite_true (by simpa using q) ?_;exact aq (aq (B4 S C0 (h e)))
theorem d9.tick(S:d9 w F ρ H s.heap (gt s))(i:u0 s.heap h')(a:H[c]?=some (.clk n)):n<=s.toks/\s.toks≠0/\d9 w F ρ (H.set c (.clk (s.toks+1))) h' ⟨s.gens,s.toks+1⟩:=by refine a9 (S.at' a) λe f _=>?_;have T:=(S.keeps i).tk (n:=s.toks+1) (aN _);exact i9 (S.gf c e _ f a) (cG S.tp) (T.upd (o':=.clk (s.toks+1)) f (λ_ _ _ q=>q) (λb g=>T.live b (M1 f g)) (.refl _) (show OR F ρ h' e (.clk n)from T.ob c e _ f a) (ae _) λo h q=>by injection a.symm.trans h with h;subst h;cases q)
end
theorem ku{b d:Type}{lt:Nat->Nat->Bool}{n:Nat}{f:b->KasT d}:∀(t:KasT b),G9 lt n (t.bind f)=(G9 lt n t).bind λa=>G9 lt n (f a):=by intro t;induction t with|ret a=>rfl|ask i j k c=>
  show(if i<n/\j<n then G9 lt n ((k (lt i j)).bind f)else none)=Option.bind (if i<n/\j<n then G9 lt n (k (lt i j))else none) _;split;·exact c (lt i j)
  ·rfl
section
variable{n:Nat}{r:Nat->Nat}
noncomputable def ky(r:Nat->Nat)(p:Array Nat)(i:Nat):Nat:=r (p.getD i 0)
noncomputable def R9(r:Nat->Nat)(i j:Nat):Bool:=decide (r i<r j)
structure z7(n:Nat)(p:Array Nat):Prop where
 sz:p.size=n
 pm:p.Perm (cH n).toArray
theorem z7.get{p:Array Nat}(h:z7 n p){i:Nat}(a:i<n):p.getD i 0<n/\p[i]?=some (p.getD i 0):=by
 have b:i<p.size:=by rw[h.sz];exact a
 have e:p[i]?=some (p.getD i 0):=by simp[Array.getD,b]
 refine⟨?_,e⟩;have:=h.pm.mem_iff.mp (Array.mem_of_getElem? e);simpa using this
theorem z7.inj{p:Array Nat}(h:z7 n p){i j:Nat}(c:i<n)(d:j<n)(e:p.getD i 0=p.getD j 0):i=j:=by have g:p.toList.Nodup:=(Array.perm_iff_toList_perm.mp h.pm).nodup_iff.mpr (by simpa using List.nodup_range);have a:=(h.get c).2;have b:=(h.get d).2;rw[<-Array.getElem?_toList]at a b;have f:i<p.toList.length:=(ab.mp a).1;exact(fh f g).mp (a.trans (by rw[e];exact b.symm))
theorem z7.of{p q:Array Nat}(h:z7 n p)(a:q.Perm p):z7 n q:=⟨(Array.Perm.size_eq a).trans h.sz,a.trans h.pm⟩
theorem pG{p:Array Nat}(b:∀i j,i<n->j<n->r i=r j->i=j)(h:z7 n p){i j:Nat}(c:i<n)(d:j<n)(a:i≠j):ky r p i≠ky r p j:=λe=>a (h.inj c d (b _ _ (h.get c).1 (h.get d).1 e))
theorem kz{c:Type}{p:Array Nat}(h:z7 n p){i j:Nat}(a:i<n)(b:j<n){k:Bool->KasT c}:G9 (R9 r) n (.ask (p.getD i 0) (p.getD j 0) k)=G9 (R9 r) n (k (decide (ky r p i<ky r p j))):=by show(if p.getD i 0<n/\p.getD j 0<n then _ else none)=_;rw[if_pos ⟨(h.get a).1,(h.get b).1⟩];rfl
def Up(r:Nat->Nat)(p:Array Nat)(m:Nat):Prop:=∀i j,i<j->j<m->ky r p i<ky r p j
def hZ(r:Nat->Nat)(p:Array Nat)(m:Nat):Prop:=∀i j,i<j->j<m->ky r p j<ky r p i
theorem Up.step{p:Array Nat}{m:Nat}(h:Up r p m)(c:1<=m)(b:ky r p (m-1)<ky r p m):Up r p (m+1):=λi j a d=>by
 by_cases e:j=m
 · subst e;by_cases q:i=j-1;·rw[q];exact b
   ·exact fk (h i (j-1) (by exact rM a c q) (by exact rN c)) b
 ·exact h i j a (by exact lr d e)
theorem hZ.step{p:Array Nat}{m:Nat}(h:hZ r p m)(c:1<=m)(b:ky r p m<ky r p (m-1)):hZ r p (m+1):=λi j a d=>by
 by_cases e:j=m
 · subst e;by_cases q:i=j-1;·rw[q];exact b
   ·exact fk b (h i (j-1) (by exact rM a c q) (by exact rN c))
 ·exact h i j a (by exact lr d e)
variable(inj:∀i j,i<n->j<n->r i=r j->i=j)
include inj
theorem uL{p:Array Nat}(h:z7 n p):∀(f m:Nat),1<=m->m+f=n->Up r p m->∃k,G9 (R9 r) n (kas_asc p f m)=some k/\m<=k/\k<=n/\Up r p k/\(k<n->ky r p k<ky r p (k-1)):=by intro f;induction f with|zero=>exactλm _ a d=>lj m rfl (ae _) (by exact rO a) d λq=>by exact zf a q |succ f o=>
  intro m b a d;rw[show kas_asc p (f+1) m=.ask (p.getD m 0) (p.getD (m-1) 0) λc=>if c=true then .ret m else kas_asc p f (m+1)from rfl,kz h (by exact W0 a) (by exact jM b a)];by_cases c:ky r p m<ky r p (m-1);·rw[if_pos (by simpa using c)];exact lj m rfl (ae _) (by exact rP a) d λ_=>c
  ·rw[if_neg (by simpa using c)];have s:=pG inj h (i:=m) (j:=m-1) (by exact W0 a) (by exact jM b a) (by exact rQ b a);refine m9 (o (m+1) (by exact nU b a) (by exact lq a) (d.step b (by exact nV c s))) λk e g l=>?_;exact j5 k e (by exact rR a g) l
theorem Hi{p:Array Nat}(h:z7 n p):∀(f m:Nat),1<=m->m+f=n->hZ r p m->∃k,G9 (R9 r) n (kas_desc f p m 0)=some (p,k,0)/\m<=k/\k<=n/\hZ r p k:=by intro f;induction f with|zero=>exactλm _ a e=>N1 m rfl (ae _) (by exact rO a) e |succ f q=>
  intro m b a e;rw[show kas_desc (f+1) p m 0=.ask (p.getD m 0) (p.getD (m-1) 0) λc=>if c=true then if 0>0 then kas_desc f (kas_rev p (m-(0+1)) m) (m+1) 0 else kas_desc f p (m+1) 0 else .ask (p.getD (m-1) 0) (p.getD m 0) λd=>if d=true then .ret (p,m,0)else kas_desc f p (m+1) (0+1)from rfl,kz h (by exact W0 a) (by exact jM b a)];by_cases c:ky r p m<ky r p (m-1);·rw[if_pos (by simpa using c),if_neg (by exact rS)];refine m9 (q (m+1) (by exact nU b a) (by exact lq a) (e.step b c)) λk g l o=>?_;exact j5 k g (by exact rR a l) o
  ·rw[if_neg (by simpa using c),kz h (by exact jM b a) (by exact W0 a)];have s:=pG inj h (i:=m) (j:=m-1) (by exact W0 a) (by exact jM b a) (by exact rQ b a);rw[if_pos (by simp;exact nV c s)];exact N1 m rfl (ae _) (by exact rP a) e
omit inj in theorem pH{p:Array Nat}(h:z7 n p)(m:Nat):z7 n (kas_rev p 0 m):=h.of (mirror_perm _ _ _ _)
omit inj in theorem uM{p:Array Nat}(h:z7 n p){m:Nat}(hm:m<=n){i:Nat}(hi:i<m):ky r (kas_rev p 0 m) i=ky r p (m-1-i):=by have e:=getElem?_mirror_all (xs:=p) (i:=0) (j:=m) (by rw[h.sz];exact hm) i;rw[if_pos ⟨bq _,hi⟩,fQ]at e;have h1:=((pH h m).get (i:=i) (by exact zg hm hi)).2;have h2:=(h.get (i:=m-1-i) (by exact zh hm hi)).2;have h1':(mirror p 0 m ((m-0)/2))[i]?=some ((kas_rev p 0 m).getD i 0):=h1;rw[e,h2]at h1';unfold ky;rw[bV h1']
omit inj in theorem Hj{p:Array Nat}(h:z7 n p){m:Nat}(hm:m<=n)(hd:hZ r p m):Up r (kas_rev p 0 m) m:=λi j hij hj=>by rw[uM h hm (by exact rT hij hj),uM h hm hj];exact hd _ _ (by exact zi hij hj) (by exact zj hij hj)
theorem Hl{p:Array Nat}(h:z7 n p)(d:2<=n):∃m g,G9 (R9 r) n (kas_count n p)=some (m,g)/\z7 n g/\1<=m/\m<=n/\Up r g m:=by
 refine ai1 (uL inj h (n-1) 1 (ae _) (by exact zk d) λi j a b=>by exact zl a b) λk v q e f w=>?_;unfold kas_count;rw[ku,v,eD];by_cases c:k=n;·rw[if_pos (by simpa using c)];exact nM k p rfl h q e f
 · rw[if_neg (by simpa using c)];by_cases c1:k>1;·rw[if_pos c1,kz h (by exact zm d) (by exact zn e c1),if_pos (by simpa using f 0 (k-1) (by exact zo c1) (by exact zq c1))];exact nM k p rfl h q e f
   · rw[if_neg c1];have x:k=1:=by omega
     subst x;have s:hZ r p 2:=λi j a b=>by
      have:i=0:=by exact zr a b
      have:j=1:=by exact zs a b this
      subst_vars;exact w (by exact zt d)
     refine Z0 (Hi inj h (n-2) 2 (by exact zu) (by exact zv d) s) λm t l o u=>?_;unfold kas_descPart;rw[ku,show n-(1+1)=n-2 from rfl,t,eD,if_neg (show¬(0:Nat)>0 by exact rS)];unfold kas_tail3;refine ai1 (uL inj (pH h m) (n-m) m (by exact zw l) (by exact yG o) (Hj h o u)) λC y z A B _=>?_;rw[ku,y,eD];exact nM C _ rfl (pH h m) (by exact zx l z) A B
theorem Hm{p:Array Nat}(h:z7 n p){k:Nat}(t:k<n):∀(f l b:Nat),l<=b->b<=k->b-l<=f->(∀i,i<l->ky r p i<ky r p k)->(∀i,b<=i->i<k->ky r p k<ky r p i)->Up r p k->∃x,G9 (R9 r) n (kas_place p k f l b)=some x/\x<=k/\(∀i,i<x->ky r p i<ky r p k)/\∀i,x<=i->i<k->ky r p k<ky r p i:=by intro f;induction f with|zero=>exactλl b g a m o s _=>N1 l rfl (by exact nW g a) o λi d=>s i (by exact zy g m d) |succ f y=>
  intro l b g a m o s u;unfold kas_place;by_cases c:l>=b;·rw[if_pos c];exact N1 l rfl (by exact zz g a c) o λi d=>s i (by exact zA g c d)
  · rw[if_neg c,kz h t (by exact rU t a c)]
    by_cases q:ky r p k<ky r p ((l+b)/2);·rw[if_pos (by simpa using q)];exact y l ((l+b)/2) (by exact zB c) (by exact zC a c) (by exact zD m c) o (λi d v=>by
       by_cases e:i=(l+b)/2;·rw[e];exact q
       ·exact fk q (u _ _ (by exact zE d e) v)) u
    ·rw[if_neg (by simpa using q)];have w:=pG inj h (i:=k) (j:=(l+b)/2) t (by exact rU t a c) (by exact zF a c);exact y ((l+b)/2+1) b (by exact zG c) a (by exact zH m c q w) (λi d=>by
       by_cases e:i=(l+b)/2;·rw[e];exact nV q w
       ·exact fk (u i ((l+b)/2) (by exact zI d e) (by exact zJ a c)) (by exact zK q w d e)) s u
omit inj in theorem uN{p:Array Nat}(h:z7 n p){k x:Nat}(hk:k<n)(hx:x<=k){i:Nat}(hi:i<n):ky r (bubble p k (k-x)) i=if i=x then ky r p k else if x<i/\i<=k then ky r p (i-1)else ky r p i:=by
 have e:=getElem?_bubble (xs:=p) (src:=k) (by rw[h.sz];exact hk) (k-x) (by exact zL hx) i;rw[show k-(k-x)=x by exact zM hx]at e;have hg:z7 n (bubble p k (k-x)):=h.of (bubble_perm _ _ _);rw[(hg.get hi).2]at e;unfold ky;split at e;·rename_i q;rw[(h.get hk).2]at e;rw[if_pos q,bV e]
 · rename_i q;rw[if_neg q];split at e;·rename_i q2;rw[(h.get (i:=i-1) (by exact zN hi q2)).2]at e;rw[if_pos q2,bV e]
   ·rename_i q2;rw[(h.get hi).2]at e;rw[if_neg q2,bV e]
theorem Hn:∀(f:Nat)(p:Array Nat)(k:Nat),z7 n p->1<=k->k+f=n->Up r p k->∃u,G9 (R9 r) n (kas_bin f p k)=some u/\z7 n u/\Up r u n:=by intro f;induction f with|zero=>exactλp k h _ g o=>j5 p rfl h (by rw[<-g];exact o) |succ f A=>
  intro p k h v g o;rw[show kas_bin (f+1) p k=(kas_place p k k 0 k).bind λl=>kas_bin f (bubble p k (k-l)) (k+1)from rfl];refine Z0 (Hm inj h (k:=k) (by exact W0 g) k 0 k (bq _) (ae _) (by exact zO v g) (λi s=>by exact zP s) (λi s t=>by exact zQ g s t) o) λx w q y z=>?_;rw[ku,w,eD];refine A _ (k+1) (h.of (bubble_perm _ _ _)) (by exact nU v g) (by exact lq g) λi j e m=>?_;rw[uN h (by exact W0 g) q (by exact zR g e m),uN h (by exact W0 g) q (by exact zS g m)];by_cases a:i=x;·rw[if_pos a,if_neg (by exact zT e a),if_pos (by exact zU g e m a)];exact z _ (by exact zV e a) (by exact zW g e m a)
  · rw[if_neg a];by_cases b:j=x;·rw[if_pos b,if_neg (by exact zX e b)];exact y _ (by exact zY e b)
    · rw[if_neg b];by_cases c:x<i/\i<=k;·rw[if_pos c,if_pos (by exact zZ g e m c)];exact o _ _ (by exact z3 e c) (by exact rV g e m)
      · rw[if_neg c];by_cases d:x<j/\j<=k;·rw[if_pos d];exact o _ _ (by exact z4 g e m a b c d) (by exact rV g e m)
        ·rw[if_neg d];exact o _ _ e (by exact Aa g q e m b c d)
theorem Ho(v:2<=n):∃p,G9 (R9 r) n (kas_sort n)=some p/\p.toList.Perm (cH n)/\p.toList.Pairwise λi j=>r i<r j:=by
 have s:z7 n (cH n).toArray:=⟨by simp,.refl _⟩;refine xR (Hl inj s v) λm p t g h u k=>?_;have d:∀a,z7 n a->Up r a n->a.toList.Perm (cH n)/\a.toList.Pairwise λi j=>r i<r j:=λa f w=>by
  refine⟨by simpa using Array.perm_iff_toList_perm.mp f.pm,fM.mpr λi j A l e=>?_⟩;have b:j<n:=by rw[Array.length_toList,f.sz]at l;exact l
  have:=w i j e b;have o:a.getD i 0=a.toList[i]:=by rw[Array.getElem_toList];unfold Array.getD;rw[dif_pos (show i<a.size by rw[f.sz];exact rT e b)];rfl
  have q:a.getD j 0=a.toList[j]:=by rw[Array.getElem_toList];unfold Array.getD;rw[dif_pos (show j<a.size by rw[f.sz];exact Ab b)];rfl
  unfold ky at this;rw[o,q]at this;exact this
 unfold kas_sort;rw[ku,t,eD];by_cases c:m<n;·rw[if_pos c];refine m9 (Hn inj (n-max m 1) p (max m 1) g (by exact Ac) (by exact Ad h c) (by rw[show max m 1=m by exact Ae h];exact k)) λa x y z=>?_;exact b7 a x (d a y z)
 ·rw[if_neg c];exact b7 p rfl (d p g (by rw[show n=m by exact Af u c];exact k))
end
section
set_option tactic.hygienic true
noncomputable def cj(xs:List V):List V:=xs.zipIdx.map λp=>.tup [.int (p.2:Nat),p.1]
theorem mr:(cj xs).length=xs.length:=by unfold cj;rw[ak,List.length_zipIdx]
theorem ms{i:Nat}(h:(cj xs)[i]?=some y):∃x,xs[i]?=some x/\y=.tup [.int i,x]:=by unfold cj at h;rw[aV,List.getElem?_zipIdx]at h;cases e:xs[i]? with|none=>rw[e]at h;injection h|some x=>rw[e]at h;injection h with h;subst h;exact b7 x rfl (by rw[fQ])
noncomputable abbrev uO(x:Str):List V:=x.cps.toList.map λc=>V.str ⟨#[c]⟩
def as1:Expr->Prop|.Tuple ..=>True|_=>False
section
variable{w:NQ}{d:Nat}{H:List O}{Q:QV}
theorem mu{h:NV}{e:Nat}{b:Array NS}(a:h.get? e=some {cls:=.type "enumerate",dict:=none,data:=.fields b,slots:=#[]}):∀o,h.get? e=some o->¬H9 o:=not_imm a rfl rfl (by decide)
theorem uP{h:NV}{a i:Nat}{c:String}{x:Str}{t:Tok}(b:c="str_ascii_iterator"\/c="str_iterator")(e:h.IsStrIter a c x t i):∀o,h.get? a=some o->¬H9 o:=by
 refine m9 e λo j f g=>?_;try clear e
 exact not_imm j f g (by rcases b with rfl|rfl<;>decide)
theorem Hp{e g:Nat}{G:String}{x:Str}(B:G="str_ascii_iterator"\/G="str_iterator")(C:e≠g):Q8 w e [e,g] (cj (uO x)) (λ_=>True) (λi _ h=>(∃f,IsEnum h e g (i:Nat) f)/\h.IsStrIter g G x t i) (λv i _ h=>(∃f a,v=.ref a/\IsEnumOut h e g (i:Nat) f a)/\h.IsStrIter g G x t i) as1 where
 frame:=λi J h b1 V m _ _ k=>b8 m.1 λf a=>a9 m.2 λo b r=>⟨⟨f,k e (.head _) _ a⟩,o,k g (.tail _ (.head _)) _ b,r⟩
 live:=λi J h m b j=>by
  refine d7 m λa1 T=>?_;try clear m;refine a9 T λo c r=>?_;clear T; refine b8 a1 λf a=>?_
  rcases(az.mp j).imp_left aM with rfl|j;·exact⟨_,a⟩
  ·exact af.mp j▸⟨_,c⟩
 lot:=λA i J s tg v L md Z=>by
  refine d7 md λa2 U=>?_;try clear md;refine a9 U λo c r=>?_;clear U; refine t8 a2 λf a a0 n=>?_;subst a0
  cases tg;case Tuple es k p=>refine wpAny_letOwnedTupleGo_enum n λV X E=>⟨⟨⟨f,X⟩,o,E.extBut _ _ (bg C) c,r⟩,⟨rfl,ae _⟩,rfl,.of_ext (λb o j q=>E.extBut b o j q) (mu n),λb o j q=>E.extBut b o (λz=>j (by exact z▸.head _)) q⟩
  all_goals exact Z.elim
 item:=λA F J H s i y L O S _ m hy=>by
  refine a9 (ms hy) λc hc a3=>?_;subst a3;rw[aV]at hc;refine a9 (bE.mp hc) λc' N a4=>?_;subst a4;have hi:i<x.cps.size:=by have:=(ab.mp N).1;simpa using this
  have hx:x.cps[i]?=some c':=by simpa using N
  refine d7 m λa5 l=>?_;try clear m; refine b8 a5 λf n=>?_
  have M:∀D:Draws pP w A.in1 g [g] x.cps.size (λi v=>∃c u,x.cps[i]?=some c/\v=.str ⟨#[c]⟩ u) λi h=>h.IsStrIter g G x t i,aJ (ay pP w) A (dL (.ref e)) (λr I=>∃v,r=some v/\VR J I.heap (.tup [.int i,.str ⟨#[c']⟩]) v/\((∃f a,v=.ref a/\IsEnumOut I.heap e g ((i+1:Nat):Int) f a)/\I.heap.IsStrIter g G x t (i+1))/\A0 [e,g] s I) L s:=λD=>by
   refine bZ (ae _) (wpAny_pyNext_enum_itemD D n l hi C (λq=>C (af.mp q)) λv V tk hv ho P Z hz R Y=>?_);refine t8 hv λc2 u W a6=>?_;try clear hv;subst a6
   injection hx.symm.trans W with W;subst W;refine⟨_,rfl,?_,⟨G7 _ _ rfl (by simpa using ho),P⟩,⟨rfl,Y⟩,rfl,λb o j im=>R b o (λq=>?_) (λq=>?_) j,λb o j q=>R b o (λz=>j (by exact z▸.head _)) (λz=>j (by exact z▸.tail _ (.head _))) q⟩;·exact A9 _ ([_,_]) rfl (Z6 _ Z rfl _ rfl) (.cons (.intro _ rfl) (.cons (.intro _ rfl) .nil))
   ·exact mu n o (q▸j) im
   ·exact uP B l o (q▸j) im
  rcases B with rfl|rfl;·exact M (Draws.strAscii (A:=A.in1) O g x t)
  ·exact M (Draws.strWide (A:=A.in1) O g x t)
 pl:=λh=>(h (.Slice none none none default)).elim
 done:=λA F J H s L O S _ m=>by
  refine d7 m λb0 l=>?_;try clear m; refine b8 b0 λf n=>?_
  have hn:(cj (uO x)).length=x.cps.size:=by rw[mr];simp
  rw[hn]at n l;have M:∀D:Draws pP w A.in1 g [g] x.cps.size (λi v=>∃c u,x.cps[i]?=some c/\v=.str ⟨#[c]⟩ u) λi h=>h.IsStrIter g G x t i,aJ (ay pP w) A (dL (.ref e)) (λr I=>r=none/\A0 [e,g] s I) L s:=λD=>wpAny_pyNext_enum_endD D n l λV R=>⟨rfl,⟨rfl,ae _⟩,rfl,.of_ext (λb o j q=>R b o j q) (uP B l),λb o j q=>R b o (λz=>j (by exact z▸.tail _ (.head _))) q⟩;rcases B with rfl|rfl;·exact M (Draws.strAscii (A:=A.in1) O g x t)
  ·exact M (Draws.strWide (A:=A.in1) O g x t)
 self:=λA i J s K L m hK=>b8 m.1 λ_ n=>wpAny_pyIter_enum n hK
end
section
variable{w:NQ}{fi:FI}{d:Nat}{m:b9}{H:List O}
theorem mw(l:fi.sc.names.lookup x=some .local)(n:r9 m x=some (.stk s t))(h:Q (.str s) H)(k:autoParam ((x==("__debug__":Str))=false) cU._auto_1):WE w fi d m H (.Name x pos) Q:=λA c F p b j S=>ar (a7 (Q:=λv g=>v=.stk s t/\g=H) l n ⟨rfl,rfl⟩ k A c F p b j S) (λu q=>SQ.el λf g v o T r a=>d7 a λe i=>by subst e i;exact⟨f,_,.str s,o,T,r.weak,h⟩) λ_ _ x=>x
theorem Hq{Q:QF}(hs:fi.sc.names.lookup sn=some .globalImplicit)(eS:nsIn (KW w) bw sn=some none)(Z:bQ sn=some (.type "enumerate"))(dS:(sn==("__debug__":Str))=false)(nS:sn≠"__name__")(ht:as1 target)(h:WE w fi d m H b λv g=>∃x,v=.str x/\∃J:Nat->b9->List O->Prop,J 0 m g/\(∀i c m H,x.cps[i]?=some c->J i m H->WA w fi d m H target (.tup [.int i,.str ⟨#[c]⟩]) λm2 k=>WB w fi d m2 k body λf L z=>match f with|.next|.cont=>J (i+1) L z|.brk=>Q .next L z|.ret v=>Q (.ret v) L z)/\ ∀m H,J x.cps.size m H->Q .next m H)(hp:autoParam (J7 [b]) NY._auto_1)(he:autoParam (∀env,eval (.Call (.Name sn p1) [b] [] p2) env=do dD p2 (<-eval (.Name sn p1) env) [] (dW p2 (eF [b] env)) (backToKw p2 (eW [] env))) NY._auto_1)(hf:autoParam (∀env x,cJ (.Call (.Name sn p1) [b] [] p2) env x=pure x) FunClaim.holds_of_returning._auto_3):WS w fi d m H (.For target (.Call (.Name sn p1) [b] [] p2) body [] pos) Q:=λA env F ρ s T S=>by
  refine b8 S.b.g λmg V=>?_;refine a9 S.b.bi λmb I D=>?_;refine wpAny_For (Call_ (cF S.kd ((S.kind sn).trans hs) (cW (S.eg▸V) (iS S.b.k V eS) (S.eb▸I) ((D sn nS).trans Z) ?_) dS) (he env)) (hf env);rw[hp env];refine fJ W6 (fG (fU (ar (h A env F ρ s T S) (λu a hx=>?_) λ_ _ x=>x)));obtain⟨p,g,v,N,P,r,j⟩:=hx;refine xQ j λx e J B hT hD=>?_;clear j;subst e;refine b8 r.str_eq λt l=>?_;subst l;refine gD (call_enumerate_str λR X G a0 W=>wpAny_pyIter_enum X ?_);have hn:a.heap.objs.size+1≠a.heap.objs.size:=Nat.succ_ne_self _;have K:strIterType x="str_ascii_iterator"\/strIterType x="str_iterator":=by unfold strIterType;split<;>simp
  have Y:d6 w fi env m F p g R (gt a):=P.keeps W;have M:y4 fi env F p [a.heap.objs.size+1,a.heap.objs.size]:=P.fresh λb C=>by
   rcases(az.mp C).imp_left aM with rfl|C;·exact NV.get?_none_of_le (aN _)
   ·exact af.mp C▸z5 _
  refine oF T (N.trans (.same (s':={a with heap:=R}) (.of_keep W) rfl (ae _))) Y (Hp K hn) ⟨⟨_,X⟩,G⟩ M ht J B (λ_ _ _ _=>trivial) (λi y m H hy q=>?_) λm H q=>hD m H (by rw[mr,ak,Array.length_toList]at q;exact q);refine a9 (ms hy) λc U n=>?_;subst n;rw[aV]at U;refine a9 (bE.mp U) λc' E o=>?_;subst o;exact hT i c' m H (by simpa using E) q
end
end
theorem Hr:ew (.type "set") (.type "set")=pure true:=by rw[cp];kernel_rfl
theorem Hs:ew (.type "set") (.type "module")=pure false:=by rw[cp];kernel_rfl
theorem Ht:entryFor table "set.__getattribute__"=some bu.«object.__getattribute__»:=entryFor_alias (id':="object.__getattribute__") (by kernel_rfl) (by decide+kernel) (by decide+kernel) (by kernel_rfl)
theorem cv5(v x:NS):(match dm "dict.__contains__"with|some a=>Bind.checkArgs "dict.__contains__" {a with full:=toString (Bind.lastOf "dict")++toString "."++toString (Bind.lastOf "dict.__contains__")} ⟨[v,x],[]⟩|none=>pure ())=(pure ():Sem Unit):=by kernel_rfl
theorem Hu:eY "dict.__contains__"=some .method:=by kernel_rfl
theorem Hv:Manifest.varargsMethods.contains "dict.__contains__"=false:=by decide+kernel
theorem cv8(v x:NS):(match dm "set.__contains__"with|some a=>Bind.checkArgs "set.__contains__" {a with full:=toString (Bind.lastOf "set")++toString "."++toString (Bind.lastOf "set.__contains__")} ⟨[v,x],[]⟩|none=>pure ())=(pure ():Sem Unit):=by kernel_rfl
theorem Hw:eY "set.__contains__"=some .method:=by kernel_rfl
theorem Hx:Manifest.varargsMethods.contains "set.__contains__"=false:=by decide+kernel
theorem cw1:eJ (.builtin "set.__contains__")=pure (.type "method_descriptor"):=by show builtinType _=_;rw[builtinType_eq_fast];kernel_rfl
section
variable{w:NQ}{A:NT}{E:VP}{s:NR}{a:Addr}{Q:Fin->NR->Prop}{T id:String}{name:Str}
theorem Hy(b:s.TypeIs (.ref a) "dict")(h:s.heap.get? s.heap.objs.size=none->Q (.done (.ret (.ref s.heap.objs.size))) {s with heap:=s.heap.push (K1 "dict.__contains__" a)}):aJ (ay pP w) A (bu.«method_descriptor.__get__» ⟨[.builtin "dict.__contains__",.ref a,.type "dict"],[]⟩) Q E s:=by
 repeat any_goals first|assumption|wp_step
 rw[show ".".intercalate ("dict.__contains__".cutAt '.').dropLast="dict"by decide+kernel];refine bM uH ?_;first|with_reducible refine NX (by decide) ?_|simp only[Bool.not_true,bJ,if_false]
 refine aq (ac ?_);refine bP ?_ (by size_fits);exact aq (h (z5 _))
theorem Hz{e d k}{Q:VP}(j:s.heap.get? a=some ⟨.type "dict",none,.dict e d,k⟩)(h:∀tk,s.heap.get? s.heap.objs.size=none->Q (.ref s.heap.objs.size) {s with heap:=s.heap.push (K1 "dict.__contains__" a),toks:=tk}):aJ (ay pP w) A (fH (.ref a) "__contains__" true) Q E s:=by
 have b:∀c,({s with toks:=c}:NR).TypeIs (.ref a) "dict":=λ_=>b7 _ j rfl;have f:=cY.lookup;have l:=cY.bind (.ref a);have m:bA (.type "dict") "__contains__"=pure (some (.builtin "dict.__contains__")):=F.slot_dict_contains.lookup;have g:eJ (.builtin "dict.__contains__")=pure (.type "method_descriptor"):=PySem.F.type_dict_contains;have n:=aM8;have o:=aM9;have p:=aN0;refine ac (wpAny_mkText (bc (ac (dq (b _) (ac (bM f ?_))))));dsimp only;rw[if_neg (by simp[onTheHeap])];repeat any_goals first|assumption|exact b _| (with_reducible show aJ _ _ (call (NS.builtin "dict.__getattribute__") _ _) _ _ _);refine bK cY (b _) uG ?_ (F.args_dict_getattribute_2 _ _) |wp_step
 refine db jj.plain pD (jj.check _ _ _ _ _ _ _ _ (show({s with toks:=s.toks+1}:NR).TypeIs (.builtin "dict.__contains__") "method_descriptor"from g) (pF _ _ _) (Hy (b _) λi=>?_));refine aq (b7 _ rfl ?_);exact aq (h _ i)
theorem HA{A:NT}{E:VP}{s:NR}{p a:Addr}{x:NS}{S:PySem.Spec}{Q:VP}(o:s.heap.get? p=some (K1 "dict.__contains__" a)){n m t}(l:s.heap.get? a=some ⟨.type "dict",none,.dict n m,t⟩)(g:MeetsIn pP w (bu.«dict.__contains__» ⟨[.ref a,x],[]⟩) S)(h:S A (wants Q E) s):aJ (ay pP w) A (call (.ref p) [x]) Q E s:=by
 have k:s.TypeIs (.ref a) "dict":=b7 _ l rfl;refine da (codeAny_of_tree ?_);refine nd_load o ?_;show aJ _ _ (fy "dict.__contains__" ⟨[.ref a,x],[]⟩>>=λ_=>again (.builtin "dict.__contains__" ⟨[.ref a,x],[]⟩)) _ _ _;have c:=cv5 (.ref a) x;have j:aJ (ay pP w) (A.under (Code.call (.ref p) ⟨[x],[]⟩)) (again (.builtin "dict.__contains__" ⟨[.ref a,x],[]⟩)) (λd b=>match d with|.done f=>wants Q E (.ok f) b|.again i=>i.quiet=true/\fq (ay pP w) A i (wants Q E) b) (λe b=>wants Q E (.error e) b) s:=by refine aq ⟨eR _ (by decide+kernel),eU PySem.F.entry_dict_contains ?_⟩;rw[dE (by decide+kernel) _];exact g A (wants Q E) s h
 refine ac ?_;unfold fy;cases q:dm "dict.__contains__"with|none=>exact aq j|some r=>rw[q]at c;rw[Hu];dsimp only at c⊢;rw[if_neg (by decide)];refine ac (cC k uI ?_);rw[Hv];rw[if_neg (by decide)];refine ac ?_;refine ac (wpAny_loadPart_at l (aq ?_));dsimp only;rw[if_neg (by decide)];refine ac (dq k ?_);exact bM c j
theorem HB(b:s.TypeIs (.ref a) "set")(h:s.heap.get? s.heap.objs.size=none->Q (.done (.ret (.ref s.heap.objs.size))) {s with heap:=s.heap.push (K1 "set.__contains__" a)}):aJ (ay pP w) A (bu.«method_descriptor.__get__» ⟨[.builtin "set.__contains__",.ref a,.type "set"],[]⟩) Q E s:=by
 repeat any_goals first|assumption|wp_step
 rw[show ".".intercalate ("set.__contains__".cutAt '.').dropLast="set"by decide+kernel];refine bM Hr ?_;first|with_reducible refine NX (by decide) ?_|simp only[Bool.not_true,bJ,if_false]
 refine aq (ac ?_);refine bP ?_ (by size_fits);exact aq (h (z5 _))
theorem HC{e d l k}{Q:VP}(j:s.heap.get? a=some ⟨.type "set",none,.set e d l,k⟩)(h:∀tk,s.heap.get? s.heap.objs.size=none->Q (.ref s.heap.objs.size) {s with heap:=s.heap.push (K1 "set.__contains__" a),toks:=tk}):aJ (ay pP w) A (fH (.ref a) "__contains__" true) Q E s:=by
 have b:∀c,({s with toks:=c}:NR).TypeIs (.ref a) "set":=λ_=>b7 _ j rfl;have f:=F.slot_set_getattribute.lookup;have m:=F.slot_set_getattribute.bind (.ref a);have n:bA (.type "set") "__contains__"=pure (some (.builtin "set.__contains__")):=F.slot_set_contains.lookup;have g:eJ (.builtin "set.__contains__")=pure (.type "method_descriptor"):=cw1;have o:=aM8;have p:=aM9;have q:=aN0;refine ac (wpAny_mkText (bc (ac (dq (b _) (ac (bM f ?_))))));dsimp only;rw[if_neg (by simp[onTheHeap])];repeat any_goals first|assumption|exact b _| (with_reducible show aJ _ _ (call (NS.builtin "set.__getattribute__") _ _) _ _ _);refine bK F.slot_set_getattribute (b _) Ht ?_ (F.args_set_getattribute_2 _ _) |wp_step
 refine db jj.plain pD (jj.check _ _ _ _ _ _ _ _ (show({s with toks:=s.toks+1}:NR).TypeIs (.builtin "set.__contains__") "method_descriptor"from g) (pF _ _ _) (HB (b _) λi=>?_));refine aq (b7 _ rfl ?_);exact aq (h _ i)
theorem HD{A:NT}{E:VP}{s:NR}{p a:Addr}{x:NS}{S:PySem.Spec}{Q:VP}(o:s.heap.get? p=some (K1 "set.__contains__" a)){n m u t}(l:s.heap.get? a=some ⟨.type "set",none,.set n m u,t⟩)(g:MeetsIn pP w (bu.«frozenset.__contains__» ⟨[.ref a,x],[]⟩) S)(h:S A (wants Q E) s):aJ (ay pP w) A (call (.ref p) [x]) Q E s:=by
 have k:s.TypeIs (.ref a) "set":=b7 _ l rfl;refine da (codeAny_of_tree ?_);refine nd_load o ?_;show aJ _ _ (fy "set.__contains__" ⟨[.ref a,x],[]⟩>>=λ_=>again (.builtin "set.__contains__" ⟨[.ref a,x],[]⟩)) _ _ _;have c:=cv8 (.ref a) x;have j:aJ (ay pP w) (A.under (Code.call (.ref p) ⟨[x],[]⟩)) (again (.builtin "set.__contains__" ⟨[.ref a,x],[]⟩)) (λd b=>match d with|.done f=>wants Q E (.ok f) b|.again i=>i.quiet=true/\fq (ay pP w) A i (wants Q E) b) (λe b=>wants Q E (.error e) b) s:=by refine aq ⟨eR _ (by decide+kernel),eU entry_set_contains ?_⟩;rw[dE (by decide+kernel) _];exact g A (wants Q E) s h
 refine ac ?_;unfold fy;cases q:dm "set.__contains__"with|none=>exact aq j|some r=>rw[q]at c;rw[Hw];dsimp only at c⊢;rw[if_neg (by decide)];refine ac (cC k Hs ?_);rw[Hx];rw[if_neg (by decide)];refine ac ?_;refine ac (wpAny_loadPart_at l (aq ?_));dsimp only;rw[if_neg (by decide)];refine ac (dq k ?_);exact bM c j
end
def aA5{w:NQ}{K:Type}[DecidableEq K](knd:KeyKind pP w K)(S:K->Bool)(n:Nat):List c8->NV->Nat->Prop:=λ_ h a=>h.SetOf knd a S n
noncomputable abbrev sO{w:NQ}{K:Type}[DecidableEq K](knd:KeyKind pP w K)(S:K->Bool)(n:Nat):O:=.prd (aA5 knd S n)
theorem aA5.stab{K:Type}[DecidableEq K](knd:KeyKind pP w K)(S:K->Bool)(n:Nat):aC (aA5 knd S n)where
 mono:=λ_ _ c=>yi λo b a t d r=>ll o b a t (c _ d) r
 ents:=λ_ x=>x
section
variable{w:NQ}{d:Nat}{H:List O}{Q:QV}{K:Type}[DecidableEq K]{knd:KeyKind pP w K}{kv:K->V}{kvs:List (K×V)}{i j:Nat}{k:K}{S:K->Bool}{n:Nat}
theorem d9.set(T:d9 w F ρ H h gs)(c:H[i]?=some (sO knd S n))(a:ρ[i]?=some e):h.SetOf knd e.a S n:=m6 (T.ob i e _ a c) λ_ _ b _=>b
theorem uQ(knd:KeyKind pP w K)(h:Q (.ref H.length) (H++[sO knd (λ_=>false) 0])):j7 w d H (.ty "set") [] Q:=λA F p s u m l T g r=>by rw[g.ty_eq,r.nil_eq];refine call_set_0 λa=>?_;have c:u0 s.heap (s.heap.push {cls:=.type "set",dict:=none,data:=.set #[] 0 (.fresh 0 0 a)}):=λ_ _ q=>aD _ q;have b:(s.heap.push {cls:=.type "set",dict:=none,data:=.set #[] 0 (.fresh 0 0 a)}).get? s.heap.objs.size=some {cls:=.type "set",dict:=none,data:=.set #[] 0 (.fresh 0 0 a)}:=aT _ rfl;have U:=T.alloc (o:=sO knd (λ_=>false) 0) c (z5 _) ⟨_,b⟩ (j8 rfl rfl (bD0 _ (#[]) 0 _ b (i9 rfl rfl rfl) rfl (λe f=>by simp at f) λk=>by simp (by decide) (by rfl) rfl) (aA5.stab _ _ _));refine⟨_,_,.ref H.length,.add (s:=s) (s':={s with heap:=s.heap.push {cls:=.type "set",dict:=none,data:=.set #[] 0 (.fresh 0 0 a)}}) (.of_keep c) rfl (ae _),U,?_,h⟩;exact b7 _ (by rw[<-T.len,ao]) rfl
theorem uR{id:String}{tk:Nat}(T:d9 w F ρ H s.heap (gt s))(b:ρ[i]?=some e)(c:s.toks<=tk)(h:Q (.ref H.length) (H++[bO id i])):HQ w VR F ρ s Q (.ref s.heap.objs.size) {s with heap:=s.heap.push (K1 id e.a),toks:=tk}:=by have a:u0 s.heap (s.heap.push (K1 id e.a)):=λ_ _ q=>aD _ q;have U:=T.alloc (o:=bO id i) a (z5 _) ⟨_,aT _ rfl⟩ (j8 rfl rfl (b7 e (x6 (aH _ _) b) (aT _ rfl)) (kt.stab _ _));refine⟨_,_,.ref H.length,.add (s:=s) (.of_keep a) rfl (ae _),U.tk c,?_,h⟩;exact b7 _ (by rw[<-T.len,ao]) rfl
theorem cw8(r:H[i]?=some (dO knd kvs))(h:Q (.ref H.length) (H++[bO "dict.__contains__" i])):W1 w d VR H (λu=>fH u "__contains__" true) (.ref i) Q:=λA F O s u D T x=>by
 refine a9 x.ref_eq λe p g=>?_;subst g;refine d7 (T.dict r p) λ_ f=>?_;refine U0 f λJ N l G=>?_;clear f;obtain⟨⟨c,y,z,L⟩,C,B,t,b,a,I⟩:=l;refine n8 b λm o q=>?_;try clear b
 dsimp only at m o q a;subst m o a;exact bZ (ae _) (Hz t λM E v=>uR T p v h)
theorem HE(q:H[i]?=some (sO knd S n))(h:Q (.ref H.length) (H++[bO "set.__contains__" i])):W1 w d VR H (λu=>fH u "__contains__" true) (.ref i) Q:=λA F L s u C T v=>by
 refine a9 v.ref_eq λe o f=>?_;subst f;refine kZ (T.set q o) λg B z J r b a E=>?_;obtain⟨c,x,y,G⟩:=g;refine n8 b λl m p=>?_;try clear b
 dsimp only at l m p a;subst l m a;exact bZ (ae _) (HC r λI D t=>uR T o t h)
theorem HF(L:X3 knd kv)(J:H[j]?=some (bO "dict.__contains__" i))(M:H[i]?=some (dO knd kvs))(h:Q (.bool (A5 kvs k).isSome) H):j7 w d H (.ref j) [kv k] Q:=λA F D s u W hA T V r=>by
 refine a9 V.ref_eq λE l m=>?_;subst m;refine i8 r.cons_eq λv' q' o v t=>?_;subst o;rw[t.nil_eq];refine m6 (T.ob j E _ l J) λ_ _ p _=>?_;obtain⟨e,I,O⟩:=p;refine ff (T.dict M I) λ_ U W C P R=>?_;refine P9 (id C) λq es Z N g f _=>?_;obtain⟨c,X,Y,sl⟩:=q;refine n8 g λx B G=>?_;try clear g
 dsimp only at x B G f;subst x B f;refine HA O N (meets_dict_contains knd e.a (L.is v) U) (b7 _ C.mapOf ?_);refine ji (k:=k) P R (λa b=>?_) λy z a b c=>?_;·rw[b];rw[a]at h;exact⟨D,H,_,.same (.refl _) rfl (ae _),T.tk (aN _),C0,h⟩
 ·rw[b];rw[a]at h;exact⟨D,H,_,.same (.refl _) rfl (ae _),T.tk (aN _),C0,h⟩
theorem HG(D:X3 knd kv)(P:∀(k:K)ρ h u,VR ρ h (kv k) u->u.scannable=true)(J:H[j]?=some (bO "set.__contains__" i))(L:H[i]?=some (sO knd S n))(h:Q (.bool (S k)) H):j7 w d H (.ref j) [kv k] Q:=λA F ρ s u us hA T U r=>by
 refine a9 U.ref_eq λE v l=>?_;subst l;refine i8 r.cons_eq λV q' m a x=>?_;subst m;rw[x.nil_eq];refine m6 (T.ob j E _ v J) λ_ _ o _=>?_;obtain⟨e,I,N⟩:=o;have C:=T.set L I;refine kZ (id C) λp Z Y tt M g b _=>?_;obtain⟨c,W,X,sl⟩:=p;refine n8 g λz B G=>?_;try clear g
 dsimp only at z B G b;subst z B b;refine HD (S:=λA R s=>aJ (ay pP w) A.in1 (bu.«frozenset.__contains__» ⟨[.ref e.a,V],[]⟩) (λt q=>match t with|.done f=>R (.ok f) q|.again y=>y.quiet=true/\fq (ay pP w) A y R q) (λe q=>R (.error e) q) s) N M (λ_ _ _ h=>h) ?_;unfold bu.«frozenset.__contains__»bu.Frozenset.oneOther;simp only[List.isEmpty_nil,bind_assoc];refine ac (aq ?_);try dsimp only
 refine ac (aq ?_);try dsimp only
 refine ac (wpAny_tryCatch (bc (ac (knd.pyHash (D.is a) (ac (wpAny_setFind_of (s:={s with toks:=s.toks+1}) (D.is a) (P _ _ _ _ a) C λr O=>aq ?_))))));rw[O];exact aq ⟨ρ,H,_,.same (.refl _) rfl (ae _),T.tk (aN _),C0,h⟩
theorem HH(k:Str)(ρ:List c8)(h:NV)(u:NS)(r:VR ρ h (.str k) u):u.scannable=true:=by refine b8 r.str_eq λt a=>?_;subst a;rfl
end
noncomputable abbrev M6(C N:Nat)(f q:Str)(a b c d e:Option NS):Obj:=⟨.type "type",none,.cls ⟨f,[.type "tuple"],[.ref C,.type "tuple",.type "object"],N,q,false,[],[],false,none,false⟩,#[a,b,c,d,some .none,e]⟩
section
variable{M:Model}{h:NV}{C N:Nat}{nm q:Str}{k0 k1 k2 k3 k5:Option NS}
theorem mx(a:h.get? C=some (M6 C N nm q k0 k1 k2 k3 k5)):dk M h (mroOf (.ref C)) [.ref C,.type "tuple",.type "object"]:=((dR (part:=none) a).andThen .now).andThen .now
theorem pI(a:h.get? C=some (M6 C N nm q k0 k1 k2 k3 k5)):dk M h (Bind.madeBy (.ref C)) none:=by intro A Q E s k b;refine ac (mx a A _ E s k ?_);rw[dh];refine ac (ac (ac (ac (wpAny_loadPart (k _ _ a) (aq ?_)))));exact aq (aq (aq b))
theorem HI:bu.Slots.bestBase [.type "tuple"]=pure (.type "tuple"):=by kernel_rfl
theorem pJ:Bind.madeBy (.type "tuple")=pure (some "tuple.__new__"):=F.called_tuple.made
theorem uS(a:h.get? C=some (M6 C N nm q k0 k1 k2 k3 k5)):dk M h (Bind.staticBase (.ref C)) (.type "tuple"):=by intro A Q E s k b;refine ac (mx a A _ E s k ?_);rw[dh];refine ac (ac (ac (pI a A _ E s k ?_)));refine NX (by decide) ?_;refine ac (ac (wpAny_loadPart (k _ _ a) (aq ?_)));refine ac (bM HI (aq ?_));dsimp only;rw[dh];refine ac (ac (bM pJ ?_));exact aq (aq (aq b))
theorem HK(a:h.get? C=some (M6 C N nm q k0 k1 k2 k3 k5)):dk M h (Bind.madeHere "tuple.__new__" (.ref C)) ():=by exact(uS a).andThen (dk.of_pure (by rw[pJ];simp only[pure_bind,gL,bne_self_eq_false,bJ,if_false]))
theorem af8(a:h.get? C=some (M6 C N nm q k0 k1 k2 k3 k5))(c:b=.ref C\/b=.type "tuple"\/b=.type "object"):dk M h (ew (.ref C) b) true:=by
 intro A Q E s k d;refine ac (mx a A _ E s k ?_);have e:[.ref C,.type "tuple",.type "object"].contains b=true:=by rcases c with rfl|rfl|rfl<;>simp
 dsimp only;rw[if_neg λq=>by injection q,e];exact aq d
end
theorem HL:eY "tuple.__new__"=some .builtinFn:=by decide+kernel
theorem HM:splitId "tuple.__new__"=some ("tuple","__new__"):=by decide+kernel
theorem HN(xs:Args):(Code.builtin "tuple.__new__" xs).quiet=true:=eR _ (by decide+kernel)
theorem HO(a x:NS):argsOk "tuple.__new__" ⟨[a,x],[]⟩:=by unfold argsOk;kernel_rfl
section
variable{w:NQ}{A:NT}{s:NR}{R:cz->NR->Prop}{E:VP}{C N:Nat}{nm q:Str}{k0 k1 k2 k3 k5:Option NS}
theorem HP(a:s.heap.get? C=some (M6 C N nm q k0 k1 k2 k3 k5))(m:dk (ay pP w) s.heap (bA (.ref C) "__init__") (some (.builtin "object.__init__")))(k:s.heap.IsTuple x vs)(hz:vs.size<=aF)(h:∀h' l,u0 s.heap h'->R (.ok (.ret (.ref h'.objs.size))) {s with heap:=h'.push ⟨.ref C,some l,.seq vs 0,#[]⟩}):fq (ay pP w) A (.call (.builtin "tuple.__new__") ⟨[.ref C,.ref x],[]⟩) R s:=by
 obtain⟨p,g,r,tk,y⟩:=s;refine F5 k λo c f n i=>?_;try clear k
 dsimp only at a m c h;refine codeAny_call_builtin_code (HN _) ?_;have b:=uS (M:=ay pP w) a;have z:=af8 (M:=ay pP w) a (.inr (.inl rfl));have u:=HK (M:=ay pP w) a;have t:=HO (.ref C) (.ref x);unfold checkBuiltinCall;rw[HL,HM];dsimp only;have v:dk (ay pP w) p (Bind.madeBy (.type "tuple")) (some "tuple.__new__"):=dk.of_pure pJ;refine wpAny_ite_true (by decide) ?_;repeat first|with_reducible refine NX (by decide) ?_|lk
 refine eU F.entry_tuple_new ?_;repeat first|with_reducible refine NX (by decide) ?_|with_reducible refine wpAny_ite_true (by decide) ?_| with_reducible refine wpAny_collect_seq (hsz:=hz) x (.inr rfl) c f i λh' j=>?_ | (with_reducible show aJ _ _ (collect _>>=_) _ _ _);refine ac ?_ |lk
 rw[Array.toArray_toList,if_neg (bl.mpr hz)];have d:=aD (⟨.ref C,some h'.objs.size,.seq vs 0,#[]⟩:Obj) (aD ({cls:=.type "dict",data:=.dict #[]}:Obj) (j _ _ a));refine ac (wpAny_alloc (ac (ac (wpAny_load d (aq ?_)))));exact aq (aq (h _ _ λb o e=>aD _ (j b o e)))
theorem HR(a:s.heap.get? C=some (M6 C N nm q k0 k1 k2 k3 k5))(f:dk (ay pP w) s.heap (bA (.ref C) "__init__") (some (.builtin "object.__init__")))(hy:s.heap.get? y=some o)(b:o.cls=.ref C)(us:List NS)(c:Q .none s):aJ (ay pP w) A (call (.builtin "object.__init__") (.ref y::us)) Q E s:=by
 obtain⟨d,g,j,tk,l⟩:=s;dsimp only at a f hy;have k:=pI (M:=ay pP w) a;have h:dk (ay pP w) d (eJ (.ref y)) (.ref C):=(dR hy).andThen (by rw[b];exact .now);have i:dk (ay pP w) d (gH (.ref y) (.type "object")) true:=h.andThen (af8 a (.inr (.inr rfl)));have e:argsOk "object.__init__" ⟨.ref y::us,[]⟩:=by unfold argsOk;kernel_rfl
 refine da (db oi_plain entry_oi (@check_slot (ay pP w) _ _ _ "object.__init__" "object" "__init__" (.ref y) us [] _ oi_kind oi_split i e ?_));cases us with|nil=>exact aq c|cons u us=>
  repeat first|dsimp only[bne_self_eq_false,bJ,if_false,beq_self_eq_true,if_true,List.isEmpty_cons,Bool.not_false,Bool.true_or]|lk
  exact c
end
structure cr(KF:Frag)(C N f:Nat):Prop where
 cl:∃nm q k0 k1 k2 k3 k5,KF.lookup C=some (M6 C N nm q k0 k1 k2 k3 k5)
 call:specialIn KF (.ref C) "__call__"=some (some (.builtin "type.__call__"))
 typ:instIn KF (.ref C) (.type "type")=some true
 rd:readsIn KF C (.type "type")=true
 nw:∃p rest,findCls KF (.ref C) (.type "type") "__new__"=some (.get (.builtin "staticmethod.__get__") (.ref p) .none (.ref C))/\recIn KF p "staticmethod"=some (.ref f::rest)
 it:fZ KF (.ref C) "__init__"=some (some (.builtin "object.__init__"))
section
variable{w:NQ}{d:Nat}{H:List O}{Q:QV}{C N f:Nat}{xs:List V}
theorem uT(K:cr (KW w) C N f)(hz:xs.length<=aF)(h:Q (.sub C xs) H):j7 w d H (.bi "tuple.__new__") [.st C,.tup xs] Q:=λA F G s u V I S D r=>by rw[D.bi_eq];refine i8 r.cons_eq λv q c E B=>?_;subst c;refine i8 B.cons_eq λW T g k j=>?_;subst g;rw[j.nil_eq];subst E;refine i8 k.tup_eq λx l i z p=>?_;subst i;refine P8 K.cl λR U J L M O P t=>?_;refine da (HP (S.b.k _ _ t) (fz S.b.k K.it) z (by simpa using p.len▸hz) λn m y=>?_);have a:u0 s.heap (n.push ⟨.ref C,some m,.seq l.toArray 0,#[]⟩):=λb o e=>aD _ (y b o e);refine⟨G,H,.sub C xs,.same (s':={s with heap:=n.push ⟨.ref C,some m,.seq l.toArray 0,#[]⟩}) (.of_keep a) rfl (ae _),S.keeps a,?_,h⟩;exact A9 _ l rfl (Z6 _ (aT _ rfl) rfl _ rfl) (p.mono (aA _) (.of_keep a))
theorem HS(K:cr (KW w) C N f)(h:j7 w d H (.st f) (.st C::xs) λv H'=>(∃ys,v=.sub C ys)/\Q v H'):j7 w (d+1) H (.st C) xs Q:=λA F ρ s u t I S W r=>by
 subst W;refine P8 K.cl λnm qq k0 k1 k2 k3 k5 z=>?_;refine t8 K.nw λp D O R=>?_;have X:=S.b.k;have c:=X _ _ z;refine da (codeAny_of_tree ?_);refine nd_load c ?_;show aJ _ _ (callAny.viaDunder (.ref C) _) _ _ _;unfold callAny.viaDunder;refine ac ((looks_specialIn X K.call).at ?_);dsimp only;rw[tc_bind];refine ac (aq (ac (aq (aq (a:=Fin.again (.call (.builtin "type.__call__") ⟨.ref C::t,[]⟩)) (And.intro rfl (codeAny_call_builtin_at (eR _ (by decide+kernel)) entry_typeCall (check_slot tc_kind tc_split (looks_instIn X K.typ) (tc_args _ _ _) ?_)))))));unfold bu.«type.__call__»;have L:=mx (M:=ay pP w) c;have J:=pI (M:=ay pP w) c;dsimp only;refine NX (by simp) ?_;refine ac (L.at ?_);dsimp only[List.isEmpty_cons];refine NX (decide_eq_false (by decide)) ?_;refine ac (J.at ?_);refine ac (cls_bind (s:=s) X K.rd O (da (sm_get (s:={s with toks:=s.toks+1}) X R (handed_on (by rfl) (ac (bc (ar (h _ F ρ {s with toks:=s.toks+1} (.ref f) (.ref C::t) I.cls (S.tk (aN _)) rfl (.cons rfl r)) (λv Y V=>?_) λ_ _ x=>x.elim)))))));obtain⟨ρ',H',b,Z,T,E,j⟩:=V;refine d7 j λm U=>?_;clear j; refine b8 m λys e=>?_;subst e;have k:=E;refine i8 k λy vs n q _=>?_;try clear k;subst n; refine m9 q λo B i P=>?_
 have l:=T.b.k;have g:=l _ _ z;have G:dk (ay pP w) Y.heap (eJ (.ref y)) (.ref C):=(dR B).andThen (by rw[i];exact .now);refine ac (ac (G.here ((af8 g (.inl rfl)).here ?_)));refine NX (by decide) ?_;refine ac (bc ?_);refine ac (ac (G.here ((fz l K.it).here ?_)));refine bc ?_;rw[oi_bind];refine ac (aq (ac (HR g (fz l K.it) B i t (aq ?_))));exact aq ⟨ρ',H',.sub C ys,(e8.same (s:=s) (s':={s with toks:=s.toks+1}) (.refl _) rfl (ae _)).trans Z,T,E,U⟩
end
section
variable{w:NQ}{fi:FI}{d:Nat}{m:b9}{H:List O}
def pL(w:NQ)(H:List O)(x:V)(name:Str)(f:V):Prop:=∀A F ρ(s:NR)u(pl:Sem Bool)(K:NS×List NS->NR->Prop)(b:VP),d9 w F ρ H s.heap (gt s)->VR ρ s.heap x u->(∀a,VR ρ s.heap f a->K (a,[]) {s with toks:=s.toks+1})->aJ (ay pP w) A (getMethod u name pl) K b s
theorem uU{pl:Env->Sem Bool}{Q:QV}(h:WE w fi d m H o λx b=>∃f,pL w b x name f/\y5 (KW w) f/\B2 w fi d m b args λB c=>j7 w d c f B Q)(t:autoParam (J7 args) NY._auto_1)(p:autoParam (∀env,eval (.Call (.Attribute o name apos) args [] pos) env=do
  let ov<-eval o env
  dl apos.atName let(f,first)<-cZ [ov] (getMethod ov name (pl env))
  dD pos f first (dW pos (eF args env)) []) NY._auto_1):WE w fi d m H (.Call (.Attribute o name apos) args [] pos) Q:=λA env F C s n S=>by refine MethodCall_ (pl:=pl env) (ar (h A env F C s n S) (λu a v=>?_) λ_ _ x=>x) (p env);obtain⟨i,b,x,j,l,z,g⟩:=v;refine m9 g λf r q e=>?_;clear g;refine r A _ i a u _ _ _ l.toH z λD y=>?_;rw[t env];have k:=j.trans (e8.same (ρ:=i) (s:=a) (s':={a with toks:=a.toks+1}) (.refl _) rfl (ae _));exact q9 (oK (s:={a with toks:=a.toks+1}) (first:=[]) q e n (l.tk (aN _)) y .nil) λ_ _ x=>x.step k
theorem HT:eJ (.type "tuple")=pure (.type "type"):=by first|rfl|kernel_rfl
theorem HU:findCls [] (.type "tuple") (.type "type") "__new__"=some (.val (.builtin "tuple.__new__")):=by kernel_rfl
theorem HV{T id:String}{name:Str}(f:eJ (.type T)=pure (.type "type"))(g:Manifest.isStub T=false)(i:findCls [] (.type T) (.type "type") name=some (.val (.builtin id)))(j:handedIn (.builtin id)=true):pL w H (.ty T) name (.bi id):=λA F t s u r K q S p h=>by rw[p.ty_eq];refine b8 S.b.g λn k=>?_;obtain⟨c,a,l⟩:∃c:NV,Fr c bw s.heap n/\Frag.In [] c:=⟨{objs:=#[]},⟨k,λb o e=>by simp[NV.get?]at e,bq _⟩,λ_ _ e=>by injection e⟩;exact method_type a l f g i j (h (.builtin id) jX)
theorem uV:pL w H (.ty "tuple") "__new__" (.bi "tuple.__new__"):=HV HT (by decide+kernel) HU (by decide+kernel)
end
section
variable{w:NQ}{A:NT}{s:NR}{E:VP}{C N x y:Nat}{nm q:Str}{k0 k1 k2 k3 k5:Option NS}
theorem uW(a:NS):bindSpecial (.builtin "tuple.__lt__") a=pure (.builtin "tuple.__lt__",[a]):=PySem.F.slot_tuple_lt.bind a
theorem HW:eY "tuple.__lt__"=some .slot:=by decide+kernel
theorem HY:splitId "tuple.__lt__"=some ("tuple","__lt__"):=by decide+kernel
theorem pM(c:s.heap.get? a=some o)(b:o.data=.seq vs n)(h:Q vs s):aJ (ay pP w) A (gC (.ref a)) Q E s:=by refine ac (ac (wpAny_load c ?_));exact b▸aq (aq h)
theorem pN(h:Q (.bool (decide (a<b))) s):aJ (ay pP w) A (richCompare .Lt (.int a t) (.int b u)) Q E s:=PySem.P.lt_int h
theorem pO{ρ:List c8}{h:NV}{X:T3}{v:NS}(r:VR ρ h (.sub C [.int X.1,.int X.2.1,.int X.2.2]) v):∃a g i t3,v=.ref a/\N6 h a C #[.int X.1 g,.int X.2.1 i,.int X.2.2 t3]:=by
 refine i8 r λa t c j b=>?_;try clear r;subst c
 obtain⟨v1,n,rfl,k,b⟩:=b.cons_eq;obtain⟨v2,o,rfl,l,b⟩:=b.cons_eq;obtain⟨v3,p,rfl,m,b⟩:=b.cons_eq;have:=b.nil_eq;subst this;refine b8 k.int_eq λg d=>?_;subst d;refine b8 l.int_eq λi e=>?_;subst e;refine b8 m.int_eq λt3 f=>?_;subst f;exact ll a g i t3 rfl j
theorem uX(d:s.heap.get? C=some (M6 C N nm q k0 k1 k2 k3 k5))(m:N6 s.heap x C #[.int X.1 t1,.int X.2.1 t2,.int X.2.2 t3'])(hy:N6 s.heap y C #[.int Y.1 u1,.int Y.2.1 u2,.int Y.2.2 u3])(h:Q (.bool (ks X Y)) s):aJ (ay pP w) A (call (.builtin "tuple.__lt__") [.ref x,.ref y]) Q E s:=by
 obtain⟨c,g,o,tk,u⟩:=s;refine F5 m λv a e r i=>?_;try clear m
 refine F5 hy λz b f t j=>?_;try clear hy
 dsimp only at d a b;have k:dk (ay pP w) c (eJ (.ref x)) (.ref C):=(dR a).andThen (by exact e▸.now);have l:dk (ay pP w) c (eJ (.ref y)) (.ref C):=(dR b).andThen (by exact f▸.now);have n:dk (ay pP w) c (gH (.ref x) (.type "tuple")) true:=k.andThen (af8 d (.inr (.inl rfl)));have p:dk (ay pP w) c (gH (.ref y) (.type "tuple")) true:=l.andThen (af8 d (.inr (.inl rfl)));refine da (db PySem.F.slot_tuple_lt.plain PySem.F.entry_tuple_lt (@check_slot (ay pP w) _ _ _ "tuple.__lt__" "tuple" "__lt__" (.ref x) [.ref y] [] _ HW HY n (PySem.F.args_tuple_lt_2 _ _) ?_));unfold bu.«tuple.__lt__»;iterate 12 try lk
 refine NX (by decide) ?_;refine ac (pM a i (ac (pM b j (ac ?_))));show aJ _ _ (forIn [(NS.int X.1 t1,NS.int Y.1 u1),(NS.int X.2.1 t2,NS.int Y.2.1 u2),(NS.int X.2.2 t3',NS.int Y.2.2 u3)] _ _) _ _ _;unfold ks at h;rw[dh];refine ac (ac (wpAny_eqBool_int ?_));by_cases e1:X.1=Y.1;case neg=>rw[if_neg e1]at h;rw[show(X.1==Y.1)=false from beq_eq_false_iff_ne.mpr e1,if_pos (by decide)];exact ac (cm (ac (pN (ac (aq (aq (aq (aq h))))))))
 rw[if_pos e1]at h;rw[show(X.1==Y.1)=true from beq_iff_eq.mpr e1,if_neg (by decide)];refine aq ?_;dsimp only;rw[dh];refine ac (ac (wpAny_eqBool_int ?_));by_cases e2:X.2.1=Y.2.1;case neg=>rw[if_neg e2]at h;rw[show(X.2.1==Y.2.1)=false from beq_eq_false_iff_ne.mpr e2,if_pos (by decide)];exact ac (cm (ac (pN (ac (aq (aq (aq (aq h))))))))
 rw[if_pos e2]at h;rw[show(X.2.1==Y.2.1)=true from beq_iff_eq.mpr e2,if_neg (by decide)];refine aq ?_;dsimp only;rw[dh];refine ac (ac (wpAny_eqBool_int ?_));by_cases e3:X.2.2=Y.2.2;case neg=>rw[show(X.2.2==Y.2.2)=false from beq_eq_false_iff_ne.mpr e3,if_pos (by decide)];exact ac (cm (ac (pN (ac (aq (aq (aq (aq h))))))))
 rw[show(X.2.2==Y.2.2)=true from beq_iff_eq.mpr e3,if_neg (by decide)];refine aq ?_;rw[e3,decide_eq_false (Int.lt_irrefl _)]at h;exact aq (aq h)
theorem HZ{K:Frag}{X Y:T3}{u v:NS}{ρ:List c8}(B:K.In s.heap)(f:s.heap.get? C=some (M6 C N nm q k0 k1 k2 k3 k5))(i:fZ K (.ref C) "__lt__"=some (some (.builtin "tuple.__lt__")))(j:A.units<cLine)(k:VR ρ s.heap (.sub C [.int X.1,.int X.2.1,.int X.2.2]) u)(l:VR ρ s.heap (.sub C [.int Y.1,.int Y.2.1,.int Y.2.2]) v){Q:Bool->NR->Prop}(h:Q (ks X Y) s):aJ (ay pP w) A (keyLt' oneType' u v) Q (λ_ _=>False) s:=by
 refine nC (pO k) λx o p t3 d c=>?_;subst d;refine nC (pO l) λy r t z e g=>?_;subst e;refine m9 (id c) λn b a _=>?_;have m:dk (ay pP w) s.heap (eJ (.ref x)) (.ref C):=(dR b).andThen (by exact a▸.now);rw[keyLt'_oneType,oneLt'_eq];first|with_reducible refine wpAny_ite_true (by decide) ?_|simp only[if_true]
 refine ac (wpAny_cRoomFor j ?_);refine ac (bc (ac (ac (ac (m.here ((fz B i).here (ac (wpAny_askSetting (wpAny_ite ?_)))))))));split;·exact ac (bM (uW _) (aq (ac (uX f c g (aq (dX h))))))
 ·exact wpAny_tryCatch (ac (bM (uW _) (aq (ac (uX f c g (aq (dX h)))))))
end
section
variable{w:NQ}{A:NT}{E:VP}{s:NR}{a:Nat}{vs:List NS}
theorem H0(p:s.heap.get? a=some (de "list" vs.toArray n))(i:vs.length<2)(t:∀h' c,(∀b o,b≠a->s.heap.get? b=some o->h'.get? b=some o)->h'.get? a=some (de "list" vs.toArray c)->P (.done (.ret .none)) {s with heap:=h'}):aJ (ay pP w) A (bu.«list.sort» ⟨[.ref a],[]⟩) P E s:=by
 obtain⟨l,f⟩:∃l,(s.heap.update a (bY λ_=>(#[]:Array NS))).get? a=some (de "list" #[] l):=⟨_,get?_update_seq p λ_=>#[]⟩;have q:∀b o,b≠a->s.heap.get? b=some o->(((s.heap.update a (bY λ_=>(#[]:Array NS))).push (de "tuple" vs.toArray 0)).push (de "list" #[] 0)).get? b=some o:=λb o j e=>aD _ (aD _ ((bR _ _ (bg j)).trans e));have h:(((s.heap.update a (bY λ_=>(#[]:Array NS))).push (de "tuple" vs.toArray 0)).push (de "list" #[] 0)).get? a=some (de "list" #[] l):=aD _ (aD _ f);rw[list_sort_plain];refine ac (listItems_at p rfl (ac (listUpdate_at p rfl ?_ (by exact aZ▸sizeLine_eq▸rX i) (bq _))));refine ac (seqEpoch_at f rfl (ac (wpAny_newTuple ?_ (by show vs.length<=_;exact sizeLine_eq▸rX i))));refine ac (wpAny_newList ?_ (bq _));refine bc ?_;have d:vs.toArray.size<2:=by exact aZ▸Ag i
 rw[if_pos d,if_pos d];generalize((s.heap.update a (bY λ_=>(#[]:Array NS))).push (de "tuple" vs.toArray 0)).push (de "list" #[] 0)=r at q h⊢;refine ac (aq (ac (aq ?_)));dsimp only;have g:(arrOf (SortSt.mk' general' (vs.toArray.zip vs.toArray) #[] 7 none)).map (·.2)=vs.toArray:=by show(vs.toArray.zip vs.toArray).map (·.2)=vs.toArray;rw[List.zip_toArray,List.map_toArray];congr 1;exact List.map_snd_zip (ae _)
 rw[g];obtain⟨k,m⟩:∃k,(r.update a (bY λ_=>vs.toArray)).get? a=some (de "list" vs.toArray k):=⟨_,get?_update_seq h λ_=>vs.toArray⟩;refine ac (seqEpoch_at h rfl (ac (listUpdate_at h rfl ?_ (bq _) (by exact aZ▸sizeLine_eq▸Ah i))));first|with_reducible refine NX (by decide) ?_|simp only[bne_self_eq_false,bJ,if_false]
 exact aq (t _ k (λb o j e=>(bR _ _ (bg j)).trans (q b o j e)) m)
end
noncomputable abbrev S6(C:Nat)(m:T3):V:=.sub C [.int m.1,.int m.2.1,.int m.2.2]
theorem e5.getS(r:e5 ρ h (ts.map (S6 C)) vs)(a:i<vs.length):VR ρ h (S6 C (F2 ts i)) (vs.getD i NS.none):=by
 have c:vs.length=ts.length:=by rw[r.len,ak]
 refine a9 (r.get' (aw a)) λx b d=>?_;rw[aV,aw (c▸a)]at b;injection b with b;subst b;unfold F2;rw[dw,dw,aw a,aw (c▸a)];exact d
section
variable{w:NQ}{d:Nat}{H:List O}{Q:QV}{C N f:Nat}
theorem Ia{c:Type}{R:c->c->Prop}{l:List c}(h:l.length<2):l.Pairwise R:=by cases l with|nil=>exact .nil|cons a r=>cases r with|nil=>exact List.pairwise_singleton _ _|cons b r=>exact absurd (show r.length+1+1<2 from h) (by exact Ai)
theorem Ib{l:Nat}{a:List T3}(K:cr (KW w) C N f)(a1:fZ (KW w) (.ref C) "__lt__"=some (some (.builtin "tuple.__lt__")))(hl:H[l]?=some (.list (a.map (S6 C))))(Y:a.length<64)(L:∀i,i<a.length->0<=(F2 a i).1)(U:∀i j,i<a.length->j<a.length->(F2 a i).1=(F2 a j).1->i=j)(h:∀k:List T3,k.Perm a->k.Pairwise (λx y=>x.1<y.1)->Q .none (H.set l (.list (k.map (S6 C))))):j7 w d H (.bi "list.sort") [.ref l] Q:=λA F X s u us hA S ru r=>by
 rw[ru.bi_eq];refine i8 r.cons_eq λv q a3 rv rq=>?_;subst a3;rw[rq.nil_eq];refine a9 rv.ref_eq λe he a4=>?_;subst a4;refine P8 K.cl λnm qq k0 k1 k2 k3 k5 hC=>?_;refine w6 (S.ob l e _ he hl) λea eg W R b=>?_;refine b8 (id R) λc ho=>?_;have g:W.length=a.length:=by rw[b.len,ak]
 have O:∀(h':NV)(c':Nat)(k:List T3)(J:List NS),(∀b o,b≠e.a->s.heap.get? b=some o->h'.get? b=some o)->h'.get? e.a=some (de "list" J.toArray c')->e5 X s.heap (k.map (S6 C)) J->k.Perm a->k.Pairwise (λx y=>x.1<y.1)->HQ w VR F X s Q .none {s with heap:=h'}:=λh' c' k J z P I hp hs=>by refine d7 (S.turn (tk:=s.toks) hl he z ⟨c',P⟩ I) λst T=>?_;exact⟨X,_,.none,st,T,tA,h k hp hs⟩
 have V:∀h',(∀b o,b≠e.a->s.heap.get? b=some o->h'.get? b=some o)->TK s.heap h':=λh' z=>.of_ext z (oy R.isList);have bb:∀h',(∀b o,b≠e.a->s.heap.get? b=some o->h'.get? b=some o)->Bs w h':=λh' z=>S.bs h' λb o q=>by refine a9 (S.keep b o q) λo' e' u=>?_;exact b7 o' (z b o' (λm=>by rw[S.off b (M1 he (by exact ea▸m▸.head _))]at q;injection q) e') u
 refine bK slot_list_sort (b7 _ ho rfl) entry_list_sort ?_ (args_list_sort _);by_cases G:W.length<2;·exact H0 ho G λh' c z P=>b7 _ rfl (O h' c a W z P b (List.Perm.refl _) (Ia (g▸G)))
 have G:2<=W.length:=bl.mp G;refine m9 (Ho (n:=a.length) (r:=λi=>(F2 a i).1.toNat) (λi j t D q=>U i j t D ((Int.toNat_of_nonneg (L i t)).symm.trans ((congrArg Int.ofNat q).trans (Int.toNat_of_nonneg (L j D))))) (by exact g.symm▸G)) λp hp pm pw=>?_;have E:∀i∈p.toList,i<a.length:=λi t=>List.mem_range.mp (pm.mem_iff.mp t);refine GL (κ:=oneType') (lt:=R9 λi=>(F2 a i).1.toNat) ho G (by exact g▸Y) (λh' z Q' hq=>?_) (λh' z i j t D C' Z=>?_) (by exact g▸hp) λh' c z P=>?_
 · refine kas_kind (T:=.ref C) G (λv hv=>?_) (by rfl) (by simp) hq;obtain⟨i,t,rfl⟩:=List.mem_iff_getElem.mp hv;have I:=(b.mono (aA _) (V h' z)).getS t;rw[dw,aw t,Option.getD_some]at I;refine nC (pO I) λx t1 t2 t3 e1 hx=>?_;rw[e1];refine m9 hx λox a2 a0 _=>?_;try clear hx
   exact(dR a2).andThen (by exact a0▸.now)
 · have I:=b.mono (aA _) (V h' z);have B:=bb h' z;refine HZ (s:={s with heap:=h'}) (K:=KW w) B.k (B.k _ _ hC) a1 ?_ (I.getS t) (I.getS D) ?_;·have:=hA.un;exact Aj this
   · have e:ks (F2 a i) (F2 a j)=R9 (λi=>(F2 a i).1.toNat) i j:=by
      rw[g]at t D;have z1:=L i t;have z2:=L j D;unfold R9 ks;by_cases q:(F2 a i).1=(F2 a j).1;·have:=U i j t D q;subst this;simp
      ·exact if_neg q▸decide_eq_decide.mpr (sB z1 z2)
     exact e▸Z
 · have a5:∀M:List Nat,(∀i∈M,i<a.length)->e5 X s.heap ((M.map (F2 a)).map (S6 C)) (M.map λi=>W.getD i NS.none):=by intro M;induction M with|nil=>intro _;exact .nil|cons i M ih=>intro t;exact .cons (b.getS (by exact g▸t i (.head _))) (ih λj D=>t j (.tail _ D))
   refine b7 _ rfl (O h' c (p.toList.map (F2 a)) _ z P (a5 p.toList E) ?_ ?_)
   · have:=pm.map (F2 a);have e:(cH a.length).map (F2 a)=a:=by refine List.ext_getElem (by simp) λi h1 G=>?_;rw[List.getElem_map,List.getElem_range];unfold F2;rw[dw,aw G];rfl
     rw[e]at this;exact this
   ·rw[dg];refine gJ (λ{i j}t D q=>?_) pw;have z1:=L i (E i t);have z2:=L j (E j D);exact(sB z1 z2).mpr q
end
section
variable{w:NQ}{A:NT}{E:VP}{s:NR}{C N a:Nat}{nm q:Str}{k0 k1 k2 k3 k5:Option NS}
theorem uY(b:NS):bindSpecial (.builtin "tuple.__iter__") b=pure (.builtin "tuple.__iter__",[b]):=PySem.F.slot_tuple_iter.bind b
theorem cz1:eY "tuple.__iter__"=some .slot:=by decide+kernel
theorem cz2:splitId "tuple.__iter__"=some ("tuple","__iter__"):=by decide+kernel
theorem uZ(b:s.heap.get? C=some (M6 C N nm q k0 k1 k2 k3 k5))(d:s.heap.get? a=some o)(c:o.cls=.ref C)(h:Q (.ref s.heap.objs.size) {s with heap:=s.heap.push {cls:=.type "tuple_iterator",data:=.fields #[.ref a,.int 0 0]}}):aJ (ay pP w) A (call (.builtin "tuple.__iter__") [.ref a]) Q E s:=by have e:dk (ay pP w) s.heap (gH (.ref a) (.type "tuple")) true:=((dR d).andThen (by exact c▸.now)).andThen (af8 b (.inr (.inl rfl)));refine da (db PySem.F.slot_tuple_iter.plain PySem.F.entry_tuple_iter (@check_slot (ay pP w) _ _ _ "tuple.__iter__" "tuple" "__iter__" (.ref a) [] [] _ cz1 cz2 e (PySem.F.args_tuple_iter_1 _) ?_));show aJ _ _ (do ret (<-newFields "tuple_iterator" [.ref a,rawInt 0])) _ _ s;exact ac (bP (aq h))
theorem Ic{K:Frag}{o:Obj}{Q:VP}(X:K.In s.heap)(f:s.heap.get? C=some (M6 C N nm q k0 k1 k2 k3 k5))(c:fZ K (.ref C) "__iter__"=some (some (.builtin "tuple.__iter__")))(d:s.heap.get? a=some o)(b:o.cls=.ref C)(h:Q (.ref s.heap.objs.size) {s with heap:=s.heap.push {cls:=.type "tuple_iterator",data:=.fields #[.ref a,.int 0 0]}}):aJ (ay pP w) A (pyIter (.ref a)) Q E s:=by
 have i:dk (ay pP w) s.heap (eJ (.ref a)) (.ref C):=(dR d).andThen (by exact b▸.now);have sp:dk (ay pP w) s.heap (specialOf (.ref a) "__iter__") (some (.builtin "tuple.__iter__")):=i.andThen (fz X c);refine ac (sp.here ?_);refine ac (bc (ac (ac (sp.here ?_))));have g:∀s':NR,s'.heap=s.heap.push {cls:=.type "tuple_iterator",data:=.fields #[.ref a,.int 0 0]}->s'.TypeIs (.ref s.heap.objs.size) "tuple_iterator":=λs' e=>b7 _ (by exact e▸aT _ rfl) rfl;refine ac (wpAny_askSetting (wpAny_ite ?_));split;·refine ac (bM (uY _) (aq ?_));dsimp only;refine NX (by decide) ?_;refine ac (uZ f d b (aq ?_));exact ac (di (g _ rfl) PySem.F.slot_tuple_iterator_next.lookup (aq h))
 ·refine wpAny_tryCatch (ac (bM (uY _) (aq ?_)));dsimp only;refine NX (by decide) ?_;refine ac (uZ f d b (aq ?_));exact ac (di (g _ rfl) PySem.F.slot_tuple_iterator_next.lookup (aq h))
theorem Id(b:s.heap.IsTupleIter it t i)(g:N6 s.heap t C items)(k:items[i]?=some x)(h:∀h',h'.IsTupleIter it t (i+1)->dJ it s.heap h'->Q (some x) {s with heap:=h'}):aJ (ay pP w) A (dL (.ref it)) Q E s:=by
 refine m9 (id b) λo d j c=>?_;refine F5 g λm f _ l e=>?_;try clear g
 refine ac (eO (bX (name:=aa "__next__") b.typeIs cQ (bK cQ b.typeIs F.entry_tuple_iterator_next ?_ (F.args_tuple_iterator_next_1 _))));show aJ _ _ (field (.ref it) 0>>=_) _ _ s;refine ac (cc d c (x:=.ref t) rfl ?_);refine NX (decide_eq_false (show¬ (NS.ref t==NS.none)=true from cA)) ?_;refine ac (cc d c (x:=.int i 0) rfl ?_);refine ac (dA f e ?_);simp only[cq,k];refine ac (wpAny_setField d c (by simp) (aq (b7 x rfl (aq (h _ ?_ (cT ..))))));exact j5 _ (cb _ d (Obj.isFreed_of_fields (Obj.data_mapFields c _))) ((Obj.cls_mapFields ..).trans j) (by rw[Obj.data_mapFields c];simp[rawInt])
theorem Ie(h:A.handled=none)(c:s.heap.IsTupleIter it t i)(j:N6 s.heap t C items)(l:items[i]?=none)(k:∀h',NV.ExtBut it s.heap h'->Q none {s with heap:=h'}):aJ (ay pP w) A (dL (.ref it)) Q E s:=by
 refine m9 (id c) λo f n d=>?_;refine F5 j λr g _ p e=>?_;try clear j
 refine ac (eO (bX (name:=aa "__next__") c.typeIs cQ (bK cQ c.typeIs F.entry_tuple_iterator_next ?_ (F.args_tuple_iterator_next_1 _))));show aJ _ _ (field (.ref it) 0>>=_) _ _ s;refine ac (cc f d (x:=.ref t) rfl ?_);refine NX (decide_eq_false (show¬ (NS.ref t==NS.none)=true from cA)) ?_;refine ac (cc f d (x:=.int i 0) rfl ?_);refine ac (dA g e ?_);simp only[cq,l];refine ac (cm (ac (wpAny_setField f d (by simp) ?_)));refine ac ?_;simp only[newExc,newTuple];refine ac (bP ?_ (by size_fits));refine ac (m:=ft _ _) (bM (a:=NS.none) (by first|rfl| simp only[ft];rfl) (bP ?_ (by size_fits)));refine ac (wpAny_handled ?_);first|rw[show A.in1.handled=none from h]|rw[h]
 refine ac (aq (wpAny_throw ?_));refine ac (cC (T:="StopIteration") (b:=true) (b7 _ (aT _ rfl) rfl) isSubtype_stop ?_);exact aq (k _ (((cT ..).extBut.push _).push _))
end
section
variable{w:NQ}{d:Nat}{H:List O}{C N f:Nat}
theorem Ig:Q8 w I [I] xs (λ_=>True) (λi ρ h=>∃a j,h.IsTupleIter I a i/\N6 h a C (cB j)/\e5 ρ h xs j) (λ_=>λi ρ h=>∃a j,h.IsTupleIter I a i/\N6 h a C (cB j)/\e5 ρ h xs j) λ_=>True where
 frame:=λi ρ h X G x p T k=>t8 x λa j y z=>a9 y λo l r=>⟨a,j,⟨o,k I (.head _) o l,r⟩,lB T z.1,z.2.mono p T⟩
 live:=λi ρ h=>fu λa j P _=>m9 P λo l m q b n=>by exact af.mp n▸⟨o,l⟩
 lot:=λA i ρ s t v E g _=>by refine t8 (id g) λa j Q _=>?_;obtain⟨o,l,m,q⟩:=Q;exact iT l m (by decide) ⟨g,.refl⟩
 item:=λA F ρ H s i x E R S U g W=>by refine i8 g λa j g B D=>?_;refine a9 (D.get W) λv M O=>?_;refine m9 (id g) λo l m q=>?_;refine Id g B (x:=v) (by simpa using M) λG u L=>?_;have c:A0 [I] s {s with heap:=G,toks:=s.toks}:=D2 (ae _) (λb o n e=>L.extBut b o n e) (not_imm l m q (by decide));exact N1 v rfl (O.mono (aA _) c.2.2.1) (A9 a j u (lB c.2.2.1 B) (D.mono (aA _) c.2.2.1)) c
 pl:=λ_ _ _ _ _ x=>x
 done:=λA F ρ H s E R S U g=>by refine i8 g λa j g B D=>?_;refine m9 (id g) λo l m q=>?_;exact Ie R g B (by simp[D.len]) λG J=>⟨rfl,D2 (tk:=s.toks) (ae _) (λb o n e=>J b o n e) (not_imm l m q (by decide))⟩
 self:=λA i ρ s K E=>fu λa j g _ V=>wpAny_pyIter_tupleiter g V
theorem Ih(K:cr (KW w) C N f)(c:fZ (KW w) (.ref C) "__iter__"=some (some (.builtin "tuple.__iter__"))):M3 w d H (.sub C xs) xs λ_=>True:=λA F E s u q S r=>by
 refine i8 r λa p g h n=>?_;try clear r;subst g
 refine P8 K.cl λB D t v x y z i=>?_;refine m9 (id h) λo m l _=>?_;have k:u0 s.heap (s.heap.push {cls:=.type "tuple_iterator",data:=.fields #[.ref a,.int 0 0]}):=λ_ _ e=>aD _ e;exact Ic S.b.k (S.b.k _ _ i) c m l (Z9 _ ([_]) _ _ rfl (Ig (C:=C)) (A9 a p (j5 _ (aT _ rfl) rfl rfl) (lB (.of_keep k) h) (n.mono (aA _) (.of_keep k))) k ⟨rfl,ae _⟩ rfl λb j=>by exact af.mp j▸z5 _)
theorem pQ(K:cr (KW w) C N f)(m:fZ (KW w) (.ref C) "__iter__"=some (some (.builtin "tuple.__iter__")))(V:n=xs.length)(h:Q xs H):W1 w d e5 H (λu=>fX u n none) (.sub C xs) Q:=λA F k s u q S O=>by
 subst V;have T:=Ih (w:=w) (d:=d) (H:=H) (xs:=xs) K m A F k s u q S O;obtain⟨a,B,P,X,hv⟩:∃a B,u=.ref a/\N6 s.heap a C (cB B)/\e5 k s.heap xs B:=by exact O
 subst P;refine m9 (id X) λo W U _=>?_;have sp:dk (ay pP w) s.heap (specialOf (.ref a) "__iter__") (some (.builtin "tuple.__iter__")):=dk.andThen (a:=.ref C) ((dR W).andThen (by exact U▸.now)) (fz S.b.k m);refine ac ?_;refine ac (sp.here (aq ?_));first|with_reducible refine NX (by decide) ?_|simp only[bJ,if_false]
 refine ac (bc (ar T (λit c M=>?_) λ_ _ x=>x));refine iF M λI R St Z e D t L v y J=>?_;try clear M
 subst e;have E:d9 w F k H c.heap (gt c):=(S.keeps L).gte v.1 v.2;have g:∀b∈R,F.f b=none/\b∉l7 k:=λb l=>⟨(S.dead (J b l)).2,(S.dead (J b l)).1⟩;refine ac (bc (ar (tE D q.hd trivial (λb l=>⟨(g b l).1,(g b l).2⟩) xs.length 0 c (by exact rK) E t) (λus Y=>H8 λj z i=>?_) λ_ _ x=>x));rw[List.drop_zero]at j;have G:=E.chg g i;refine NX (decide_eq_false (by exact j.len▸rL)) ?_;refine ac (bc (ar (D.done A F k H Y _ q.hd G trivial z) (λr s3=>u6 λe p=>?_) λ_ _ x=>x));subst e;first|with_reducible refine NX (by decide) ?_|simp only[Option.isSome_none,bJ,if_false]
 exact aq ⟨k,H,xs,((e8.same (.of_keep L) y (by exact v.1▸ae _)).trans i.step).trans p.step,G.chg g p,j.mono (aA _) p.2.2.1,h⟩
theorem vb(D:H[l]?=some (.list (xs++[x])))(hz:xs.length<aF)(h:Q x (H.set l (.list xs))):j7 w d H (.bi "list.pop") [.ref l] Q:=λA F I s u X W S P r=>by
 rw[P.bi_eq];refine i8 r.cons_eq λv q p R O=>?_;subst p;rw[O.nil_eq];refine a9 R.ref_eq λe B t=>?_;subst t;refine w6 (S.ob l e _ B D) λU V g a b=>?_;refine b8 (id a) λn E=>?_;have c:g.length=xs.length+1:=by rw[b.len,aK];rfl
 refine a9 (b.get (i:=xs.length) (x:=x) (by simp)) λy M T=>?_;have k:xs.length<g.length:=by exact su c
 have j:g.toArray.size-1=xs.length:=by exact aZ▸yH c
 have m:g.toArray[g.toArray.size-1]?=some y:=by rw[j];simpa using M
 refine call_meets PySem.F.slot_list_pop (b7 _ E rfl) PySem.F.entry_list_pop (PySem.F.args_list_pop_1 _) (@PySem.MeetsSeq.list_pop_last e.a g.toArray n y m (by exact aZ▸Ak hz c j)) ⟨E,?_⟩;rw[j];have K:e5 I s.heap xs (g.take xs.length++g.drop (xs.length+1)):=by have:=b.take xs.length;rw[List.take_left]at this;rw[eX (by exact Al c),bG];exact this
 refine d7 (S.turn (tk:=s.toks) (h':=s.heap.update e.a (bY λz:Array NS=>z.eraseIdxIfInBounds xs.length)) (ys:=xs) (us:=g.take xs.length++g.drop (xs.length+1)) D B (λb o L e=>(bR _ _ (bg L)).trans e) (by exact(uo k).symm▸po _ a) K) λG J=>?_;exact⟨I,_,x,G,J,T.mono (aA _) G.2.1,h⟩
end
section
variable{w:NQ}{fi:FI}{d:Nat}{m:b9}{H:List O}
theorem Ii(h:WE w fi d m H value λv b=>WA w fi d m b t v λB c=>WA w fi d B c t' v λC z=>WA w fi d C z t'' v λk j=>Q .next k j)(O:autoParam (∀env,bL [t,t',t''] value env=pure none) NY._auto_1)(N:autoParam (∀env,dY [t,t',t''] env=[(false,cO t env),(false,cO t' env),(false,cO t'' env)]) NY._auto_1):WS w fi d m H (.Assign [t,t',t''] value pos) Q:=λA env F U s i S=>by refine wpAny_Assign_stores (ar (h A env F U s i S) (λu g P=>?_) λ_ _ x=>x) rfl (O env);obtain⟨o,b,v,l,E,r,f⟩:=P;rw[N env];show aJ _ A (do cZ [u] (cO t env u);cZ [u] (cO t' env u);cO t'' env u) _ _ _;refine ac (bc (q9 (ar (f A env F o g u i E r) (λ_ R=>AQ.el λp c B a G K=>?_) λ_ _ x=>x) λ_ _ x=>x));refine ac (bc (q9 (ar (K A env F p R u i G (r.mono a.1 a.2.1)) (λ_ T=>AQ.el λq z C e I L=>?_) λ_ _ x=>x) λ_ _ x=>x));exact q9 (L A env F q T u i I ((r.mono a.1 a.2.1).mono e.1 e.2.1)) λ_ D=>AQ.el λy j k n J M=>⟨y,j,k,.next,((l.trans a).trans e).trans n,J,rfl,M⟩
end
section
variable{w:NQ}{d:Nat}{H:List O}
def kA(w:NQ)(d:Nat)(H:List O)(f:V)(xs:List V)(Q:QV):Prop:=∀A F ρ s u us,j0 A d F.fr->d9 w F ρ H s.heap (gt s)->VR ρ s.heap f u->e5 ρ s.heap xs us->fq (ay pP w) A (.call u ⟨us,[]⟩) (λr a=>match r with|.ok (.ret v)=>HQ w VR F ρ s Q v a|.ok _=>False|.error e=>False) s
theorem Ij(K:z6 (KW w) a o fd body sc ps)(g:sc.isGenerator=false)(e:xs.length=ps.length)(h:WB w ⟨sc,true,fd.code⟩ d (u7 sc ps xs) H body λf W H'=>match f with|.ret v=>Q v H'|.next=>Q .none H'|_=>False):kA w (d+1) H (.st a) xs Q:=λA F V s u L J S U r=>by
  have y:=K.hsc;subst y;subst U;have B:=S.b;refine d7 (jV K.toFnB B) λR t=>?_;have i:L.length=ps.length:=r.len.trans e;refine codeAny_call_function J.depth R K.hd K.hco g K.hb t (BindsTo.of_eq (K.hbd L i) _ _ _ _ ?_);rw[K.hcl];refine bZ (ae _) (du K.hk (λx z=>?_) λM P l X T=>?_)
  · have C:x.1∈ps:=by rw[<-iU i];exact bp.mpr (b7 x z rfl)
    rcases K.hkd x.1 C with q|q;·exact .inl q
    · refine b8 (iW (n:=s.heap.objs.size+1) (mem_of_lookup q)) λc O=>?_;exact .inr ⟨q,by rw[O1 (iV K.hnd) O];rfl⟩
  ·subst P;refine d7 (jU K.toFnB e S r X T) λj G=>?_;refine⟨G.b.lim,codeAny_func (ar (h _ _ F V l (J.deeper rfl) G) (λf Z z=>?_) λ_ _ x=>x.elim)⟩;obtain⟨m,b,Y,N,k,I,E,p⟩:=z;cases N with|next=>subst E;exact⟨m,b,.none,j.trans k,I.hs,rfl,p⟩|ret v=>(refine a9 E λu D r=>?_;try clear E;subst D);exact⟨m,b,v,j.trans k,I.hs,r,p⟩|brk=>exact p.elim|cont=>exact p.elim
def my(f C:Nat):List c8->NV->Nat->Prop:=λb h a=>h.get? a=some (methodObj (.ref f) (.ref C))
noncomputable abbrev S7(f C:Nat):O:=.prd (my f C)
theorem my.stab(f C:Nat):aC (my f C)where
 mono:=λp t a h=>a _ h
 ents:=λq h=>h
def kB(l k:Nat):List c8->NV->Nat->Prop:=λb h a=>∃e,b[l]?=some e/\h.IsListIter a e.a k
noncomputable abbrev C4(l k:Nat):O:=.prd (kB l k)
theorem kB.stab(l k:Nat):aC (kB l k)where
 mono:=λp t i=>A8 λe a b=>a9 b λo j r=>⟨e,x6 p a,o,i _ j,r⟩
 ents:=λq=>A8 λe a f=>a9 (jb q a) λc g h=>b7 c g (by rw[h];exact f)
def mz(i j:Nat):List c8->NV->Nat->Prop:=λe h a=>∃b c t,e[i]?=some b/\e[j]?=some c/\h.IsTuple t #[.ref b.a]/\h.get? a=some {cls:=.type "map",data:=.fields #[.ref t,.ref c.a]}
noncomputable abbrev X4(i j:Nat):O:=.prd (mz i j)
theorem mz.stab(i j:Nat):aC (mz i j)where
 mono:=λp t o=>rj λg h f a b c e=>N3 g h f (x6 p a) (x6 p b) (iP t c) (o _ e)
 ents:=λq=>rj λg h f a b c e=>a9 (jb q a) λk m n=>a9 (jb q b) λl r s=>N3 k l f m r (by rw[n];exact c) (by rw[s];exact e)
theorem Ik(K:cr (KW w) C N f)(b:findCls (KW w) (.ref C) (.type "type") name=some (.get (.builtin "classmethod.__get__") (.ref p) .none (.ref C)))(c:recIn (KW w) p "classmethod"=some (.ref f'::rest))(h:Q (.ref H.length) (H++[S7 f' C])):W1 w d VR H (λu=>fH u name true) (.st C) Q:=λA F i s u g S e=>by subst e;refine cls_bind (s:=s) S.b.k K.rd b (da (cm_get (s:={s with toks:=s.toks+1}) S.b.k c (handed_on (by rfl) ?_)));have a:u0 s.heap (s.heap.push (methodObj (.ref f') (.ref C))):=λ_ _ q=>aD _ q;have U:=S.alloc (o:=S7 f' C) a (z5 _) ⟨_,aT _ rfl⟩ (j8 rfl rfl (aT _ rfl) (my.stab _ _));refine⟨_,_,.ref H.length,.add (s:=s) (s':={s with heap:=s.heap.push (methodObj (.ref f') (.ref C)),toks:=s.toks+1}) (.of_keep a) rfl (ae _),U.tk (aN _),?_,h⟩;exact b7 _ (by rw[<-S.len,ao]) rfl
end
theorem Il:Slot "map" "__init__" "object.__init__":=.of (owner:="object") (n:="__init__") (by rw[bd,aO];kernel_rfl) (by decide+kernel) (by decide+kernel) (by decide+kernel) (by first|exact .inl (by decide+kernel)|exact .inr (by decide+kernel)) (by rw[cp];kernel_rfl)
theorem vc:Slot "map" "__iter__" "map.__iter__":=.of (owner:="map") (n:="__iter__") (by rw[bd,aO];kernel_rfl) (by decide+kernel) (by decide+kernel) (by decide+kernel) (by first|exact .inl (by decide+kernel)|exact .inr (by decide+kernel)) (by rw[cp];kernel_rfl)
theorem as4:Slot "map" "__next__" "map.__next__":=.of (owner:="map") (n:="__next__") (by rw[bd,aO];kernel_rfl) (by decide+kernel) (by decide+kernel) (by decide+kernel) (by first|exact .inl (by decide+kernel)|exact .inr (by decide+kernel)) (by rw[cp];kernel_rfl)
theorem vd:entryFor table "map.__next__"=some bu.«map.__next__»:=entryFor_of_tree (by kernel_rfl)
theorem ve(a:NS):argsOk "map.__next__" ⟨[a],[]⟩:=by unfold argsOk;kernel_rfl
theorem Im(a:NS):argsOk "map.__iter__" ⟨[a],[]⟩:=by unfold argsOk;kernel_rfl
theorem Io:entryFor table "map.__iter__"=some bu.«dict_keyiterator.__iter__»:=entryFor_alias (id':="dict_keyiterator.__iter__") (by kernel_rfl) (by first|rfl|decide+kernel| simp+decide[String.splitOnAux]) (by decide+kernel) (by kernel_rfl)
theorem vf:mroOf (.type "map")=pure [.type "map",.type "object"]:=by rw[mroOf_type];kernel_rfl
theorem Ip:bA (.type "map") "__new__"=pure (some (.builtin "map.__new__")):=by rw[bd,aO];kernel_rfl
theorem Iq:TypeCalled "map" "map.__new__" "object.__init__":=⟨by decide+kernel,by decide+kernel,u8 _ _ vf,madeBy_type vf Ip (by decide+kernel),by decide+kernel,by rw[cp];kernel_rfl,Il⟩
theorem Ir(a b:NS):checkTypeCall "map" ⟨[a,b],[]⟩=pure ():=by kernel_rfl
theorem It(a b:NS):checkBuiltinCall "map.__new__" ⟨[.type "map",a,b],[]⟩=pure ():=by kernel_rfl
theorem Iu:entryFor table "map.__new__"=some bu.«map.__new__»:=entryFor_of_tree (by kernel_rfl)
theorem Iv:ew (.type "map") (.type "map")=pure true:=by rw[cp];kernel_rfl
theorem cB0:bA (.type "map") "__len__"=pure none:=by rw[bd,aO];kernel_rfl
theorem cB1:bA (.type "map") "__length_hint__"=pure none:=by rw[bd,aO];kernel_rfl
noncomputable abbrev al6(h:NV)(l:Addr):NV:=h.push {cls:=.type "list_iterator",data:=.fields #[.ref l,.int 0 0]}
noncomputable abbrev U9(h:NV)(l:Addr):NV:=(al6 h l).push {cls:=.type "tuple",data:=.seq #[.ref h.objs.size]}
noncomputable abbrev al7(h:NV)(l:Addr)(f:NS):NV:=(U9 h l).push {cls:=.type "map",data:=.fields #[.ref (al6 h l).objs.size,f]}
theorem Iw(l:Addr)(f:NS)(xs:Array NS):Meets (bu.«map.__new__» ⟨[.type "map",f,.ref l],[]⟩) λ_ R s=>s.heap.IsList l xs/\R (.ok (.ret (.ref (U9 s.heap l).objs.size))) {s with heap:=al7 s.heap l f} :=.of_wp λb w A R s h=>by obtain⟨i,g,d,tk,j⟩:=s; refine d7 h λe h=>?_;have a:=Iv;have c:NV.IsList (NR.heap ⟨i,g,d,tk,j⟩) l xs:=e;wp_walk using wpAny_pyIter_list c;exact b7 _ rfl h
section
variable{w:NQ}{d:Nat}{H:List O}{j l:Nat}{xs:List V}
theorem Ix(O:H[l]?=some (.list xs))(h:Q (.ref (H.length+1)) (H++[C4 l 0]++[X4 H.length j])):j7 w d H (.ty "map") [.ref j,.ref l] Q:=λA F f s u us Y S R r=>by
 rw[R.ty_eq];refine i8 r.cons_eq λv q k T P=>?_;subst k;refine i8 P.cons_eq λv' Z m y t=>?_;subst m;rw[t.nil_eq];refine a9 T.ref_eq λc N n=>?_;subst n;refine a9 y.ref_eq λe C p=>?_;subst p;refine w6 (S.ob l e _ C O) λW X U a b=>?_;refine callType_new Iq (by decide) (Ir _ _) (It _ _) (λi=>PySem.F.args_object_init_3 i _ _) Iu (Iw e.a (.ref c.a) U.toArray) ⟨a.isList,?_⟩;have V:(al6 s.heap e.a).objs.size=s.heap.objs.size+1:=gS ..;have z:(U9 s.heap e.a).objs.size=s.heap.objs.size+2:=by rw[gS,V]
 have E:u0 s.heap (al7 s.heap e.a (.ref c.a)):=λb o x=>aD _ (aD _ (aD _ x));have g:(al7 s.heap e.a (.ref c.a)).get? (U9 s.heap e.a).objs.size=some {cls:=.type "map",data:=.fields #[.ref (al6 s.heap e.a).objs.size,.ref c.a]}:=aT _ rfl;have K:(al7 s.heap e.a (.ref c.a)).get? (al6 s.heap e.a).objs.size=some {cls:=.type "tuple",data:=.seq #[.ref s.heap.objs.size]}:=aD _ (aT _ rfl);have B:(al7 s.heap e.a (.ref c.a)).get? s.heap.objs.size=some {cls:=.type "list_iterator",data:=.fields #[.ref e.a,.int 0 0]}:=aD _ (aD _ (aT _ rfl));have I:=S.alloc (o:=C4 l 0) E (z5 _) ⟨_,B⟩ (j8 rfl rfl ⟨e,x6 (aH _ _) C,_,B,rfl,rfl⟩ (kB.stab _ _));have G:(U9 s.heap e.a).objs.size∉l7 (f++[⟨s.heap.objs.size,[s.heap.objs.size],none⟩])/\F.f (U9 s.heap e.a).objs.size=none:=by
  have:=S.dead (b:=(U9 s.heap e.a).objs.size) (NV.get?_none_of_le (by rw[z];exact yI));refine⟨λD=>?_,this.2⟩;rw[show l7 (f++[⟨s.heap.objs.size,[s.heap.objs.size],none⟩])=l7 f++[s.heap.objs.size]by simp[l7]]at D;rcases aX.mp D with q|q;·exact this.1 q
  ·rw[af.mp q]at z;exact Am z
 have M:(f++[⟨s.heap.objs.size,[s.heap.objs.size],none⟩]:List c8)[H.length]?=some ⟨s.heap.objs.size,[s.heap.objs.size],none⟩:=by rw[<-S.len,ao]
 have J:=I.adopt (a:=(U9 s.heap e.a).objs.size) (r:=[]) (o:=X4 H.length j) (ck.mpr ⟨λq=>absurd q List.not_mem_nil,gR⟩) λb L=>by rw[af.mp L];exact V8 G.1 G.2 _ g
  (j8 rfl rfl (N3 ⟨s.heap.objs.size,[s.heap.objs.size],none⟩ c ((al6 s.heap e.a).objs.size) (x6 (aH _ _) M) (x6 (aH _ _) (x6 (aH _ _) N)) (Z6 _ K rfl _ rfl) g) (mz.stab _ _));refine⟨b7 _ g rfl,_,_,.ref (H.length+1),(e8.add (s:=s) (s':={s with heap:=al7 s.heap e.a (.ref c.a)}) (.of_keep E) rfl (ae _)).trans (e8.add (.refl _) rfl (ae _)),J,?_,h⟩;refine b7 ⟨(U9 s.heap e.a).objs.size,[(U9 s.heap e.a).objs.size],none⟩ ?_ rfl;rw[show H.length+1=(f++[⟨s.heap.objs.size,[s.heap.objs.size],none⟩]:List c8).length by rw[aK,S.len];rfl,ao]
end
theorem j0.in1(h:j0 A (d+1) l):j0 A.in1 d l:=⟨h.fr,h.hd,by have:=h.dp;exact An this,by have:=h.un;exact Ao this⟩
section
variable{w:NQ}{d:Nat}{H:List O}{i j l k mm f C:Nat}{xs:List V}{x:V}
theorem d9.litUp(S:d9 w F ρ H s.heap (gt s))(y:H[i]?=some (C4 l k))(u:ρ[i]?=some e)(A:∃m,ρ[l]?=some m/\h'.IsListIter e.a m.a n)(B:dJ e.a s.heap h'):e8 ρ s ρ {s with heap:=h'}/\d9 w F ρ (H.set i (C4 l n)) h' (gt s):=by refine m6 (S.ob i e _ u y) λa b r _=>?_;obtain⟨m,I,o,J,E,G⟩:=r;refine a9 (id A) λD v g=>?_;refine a9 g λM p L=>?_;clear g;have t:TK s.heap h':=.of_ext (a:=e.a) (λb o c q=>B.extBut b o c q) (not_imm J E G (by decide));exact⟨.same t rfl (ae _),S.upd u (λb q c K=>B.extBut b q (λz=>c (by rw[a,z];exact .head _)) K) (λb c=>by rw[a]at c;rw[af.mp c];exact⟨M,p⟩) t (j8 a b A (kB.stab _ _)) trivial λo h q=>by rw[y]at h;injection h with h;subst h;cases q⟩
theorem Iy(hA:j0 A (d+1) F.fr)(S:d9 w F ρ H s.heap (gt s))(X:H[i]?=some (C4 l k))(hm:H[mm]?=some (X4 i j))(hj:H[j]?=some (S7 f C))(hl:H[l]?=some (.list xs))(a1:i≠j)(hx:xs[k]?=some x)(he:ρ[mm]?=some em)(hc:kA w d (H.set i (C4 l (k+1))) (.st f) [.st C,x] R):aJ (ay pP w) A (dL (.ref em.a)) (λr s'=>∃v,r=some v/\HQ w VR F ρ s R v s') (λ_ _=>False) s:=by
 refine m6 (S.ob mm em _ he hm) λ_ _ P _=>?_;obtain⟨G,m,t,o,K,⟨ot,L,a0,nt,J⟩,b⟩:=P;refine m6 (S.ob j m _ K hj) λ_ _ a _=>?_;refine m6 (S.ob i G _ o X) λia ib Q _=>?_;obtain⟨V,p,c⟩:=Q;refine w6 (S.ob l V _ p hl) λ_ _ vs M O=>?_;refine a9 (O.get hx) λv hv rv=>?_;have W:s.TypeIs (.ref em.a) "map":=b7 _ b rfl;refine ac (eO (bX (name:=aa "__next__") W as4 (bK as4 W vd ?_ (ve _))));show aJ _ _ (field (.ref em.a) 0>>=_) _ _ s;refine ac (cc b rfl (x:=.ref t) rfl ?_);refine ac (dA L J ?_);dsimp only;rw[<-Array.forIn_toList];rw[dh];refine ac (ac ?_);refine ac (bc (wpAny_nextOf_list_item c M.isList (x:=v) (by simpa using hv) λI u g=>aq ?_));dsimp only;rw[List.forIn_nil];refine aq ?_;refine d7 (S.litUp X o (b7 V p u) g) λE Y=>?_;refine m9 c λoi z n _=>?_;try clear c
 have n1:em.a≠G.a:=λq=>by rw[q,z]at b;injection b with b;subst b;exact absurd n (by simp)
 have n2:m.a≠G.a:=λq=>by have a:s.heap.get? m.a=some (methodObj (.ref f) (.ref C)):=a;rw[q,z]at a;injection a with a;subst a;exact absurd n (by simp)
 have D:=g.extBut _ _ n1 b;have B:I.get? m.a=some (methodObj (.ref f) (.ref C)):=g.extBut _ _ n2 a;refine ac (cc D rfl (x:=.ref m.a) rfl (ac (bc (da (method_call (s:={s with heap:=I}) B (codeAny_mono (hc A.in1 F ρ {s with heap:=I} (.ref f) [.ref C,v] hA.in1 Y rfl (.cons rfl (.cons (rv.mono (aA _) E.2.1) .nil))) λr s2 N=>?_))))));cases r with|error e=>exact N.elim|ok fl=>cases fl with|ret y=>obtain⟨U,h,y',T,Z,ry,hR⟩:=N;refine ac (wpAny_letGo (aq (b7 _ rfl (aq ⟨y,rfl,U,h,y',E.trans T,Z,ry,hR⟩))))|_=>exact N.elim
theorem Iz(p:A.handled=none)(b:s.heap.IsListIter it l i)(q:s.heap.IsList l items)(t:items[i]?=none)(r:∀h' e,NV.ExtBut it s.heap h'->(∃o,h'.get? it=some o)->(∃o,h'.get? e=some o/\o.cls=.type "StopIteration")->E (.ref e) {s with heap:=h'}):aJ (ay pP w) A (Builtin.SmallTypes.nextOf (.ref it)) Q E s:=by
 refine m9 (id b) λo g u c=>?_;refine F5 q λy n _ v h=>?_;try clear q
 refine ac (bX (name:=aa "__next__") b.typeIs slot_listiter_next (bK slot_listiter_next b.typeIs entry_listiter_next ?_ (args_listiter_next _)));show aJ _ _ (field (.ref it) 0>>=_) _ _ s;refine ac (cc g c (x:=.ref l) rfl ?_);refine NX (decide_eq_false (show¬ (NS.ref l==NS.none)=true from cA)) ?_;refine ac (cc g c (x:=.int i 0) rfl ?_);refine ac (dA n h ?_);simp only[cq,t];refine ac (cm (ac (wpAny_setField g c (by simp) ?_)));refine ac ?_;simp only[newExc,newTuple];refine ac (bP ?_ (by size_fits));refine ac (m:=ft _ _) (bM (a:=NS.none) (by first|rfl| simp only[ft];rfl) (bP ?_ (by size_fits)));refine ac (wpAny_handled ?_);first|rw[show A.in1.handled=none from p]|exact p
 refine ac (aq (wpAny_throw ?_));exact r _ _ (((cT ..).extBut.push _).push _) ⟨_,aD _ (aD _ (cb _ g (Obj.isFreed_of_fields (Obj.data_mapFields c _))))⟩ (b7 _ (aT _ rfl) rfl)
def mB:List c8->NV->Nat->Prop:=λ_ _ _=>True
noncomputable abbrev ic:O:=.prd mB
theorem mB.stab:aC mB where
 mono:=λ_ _ _ _=>trivial
 ents:=λ_ _=>trivial
theorem IA(Q:A.handled=none)(S:d9 w F ρ H s.heap (gt s))(V:H[i]?=some (C4 l xs.length))(hm:H[mm]?=some (X4 i j))(hl:H[l]?=some (.list xs))(Z:ρ[mm]?=some em):aJ (ay pP w) A (dL (.ref em.a)) (λr s'=>r=none/\e8 ρ s ρ s'/\d9 w F ρ (H.set i ic) s'.heap (gt s')) (λ_ _=>False) s:=by
 refine m6 (S.ob mm em _ Z hm) λ_ _ M _=>?_;obtain⟨O,ej,t,g,a0,⟨ot,I,Y,nt,y⟩,n⟩:=M;refine m6 (S.ob i O _ g V) λL ib N _=>?_;obtain⟨X,B,m⟩:=N;refine w6 (S.ob l X _ B hl) λ_ _ vs J K=>?_;have U:s.TypeIs (.ref em.a) "map":=b7 _ n rfl;refine ac (eO (bX (name:=aa "__next__") U as4 (bK as4 U vd ?_ (ve _))));show aJ _ _ (field (.ref em.a) 0>>=_) _ _ s;refine ac (cc n rfl (x:=.ref t) rfl ?_);refine ac (dA I y ?_);dsimp only;rw[<-Array.forIn_toList];rw[dh];refine ac (ac ?_);refine ac (bc (Iz (by first|exact Q| exact Q) m J.isList (by simp[K.len]) λP e W D R=>?_));refine a9 R λoe E p=>?_;try clear R
 refine ac (cC (T:="StopIteration") (b:=true) (b7 oe E p) isSubtype_stop ?_);refine m9 (id m) λoi G u v=>?_;have t:TK s.heap P:=.of_ext (a:=O.a) (λb o c q=>W b o c q) (not_imm G u v (by decide));exact aq (i9 rfl (e8.same (s':={s with heap:=P}) t rfl (ae _)) (S.upd g (λb q c hq=>W b q (λz=>c (by rw[L,z];exact .head _)) hq) (λb c=>by rw[L]at c;rw[af.mp c];exact D) t (j8 L ib trivial mB.stab) trivial λo h q=>by rw[V]at h;injection h with h;subst h;cases q))
theorem y6{n:Nat}(h:H[n]?=some o):(H++L)[n]?=some o:=by exact(aI (ab.mp h).1).trans h
theorem cB7(h:H[n]?=some o):H.set n o=H:=List.ext_getElem? λm=>by
 by_cases e:n=m;·subst e;rw[au (ab.mp h).1,h]
 ·exact ag e
theorem vg(h:n<H.length):(H++L).set n o=H.set n o++L:=by exact List.set_append_left _ _ h
theorem cB8{F:i5}{A:NT}{em eS:c8}{g:V->V}{H₀:List O}{R:cz->NR->Prop}{P:NS}(hA:j0 A (d+2) F.fr)(Z:i<H₀.length)(a1:i≠mm)(a0:i≠l)(I:i≠j)(hm:H₀[mm]?=some (X4 i j))(hj:H₀[j]?=some (S7 f C))(hl:H₀[l]?=some (.list xs))(hz:xs.length<=aF)(hc:∀x∈xs,∀H',kA w d H' (.st f) [.st C,x] λy X=>y=g x/\X=H'){ρ₀:List c8}{s₀:NR}(hR:∀ρ s,e8 ρ₀ s₀ ρ s->d9 w F ρ (H₀.set i ic++[.list (xs.map g)]) s.heap (gt s)->R (.ok (.ret P)) s):∀(q n:Nat)(ρ:List c8)(s:NR),xs.length-n=q->n<=xs.length->e8 ρ₀ s₀ ρ s->d9 w F ρ (H₀.set i (C4 l n)++[.list ((xs.take n).map g)]) s.heap (gt s)->ρ[mm]?=some em->ρ[H₀.length]?=some eS->fq (ay pP w) A (.builtin "list.extend.loop" ⟨[.ref eS.a,.ref em.a,P],[]⟩) R s:=by
 have D:∀n,(H₀.set i (C4 l n)++[.list ((xs.take n).map g)])[i]?=some (C4 l n):=λn=>y6 (au Z);have am:∀n,(H₀.set i (C4 l n)++[.list ((xs.take n).map g)])[mm]?=some (X4 i j):=λn=>y6 (by exact(ag a1).trans hm);have aj:∀n,(H₀.set i (C4 l n)++[.list ((xs.take n).map g)])[j]?=some (S7 f C):=λn=>y6 (by exact(ag I).trans hj);have al:∀n,(H₀.set i (C4 l n)++[.list ((xs.take n).map g)])[l]?=some (.list xs):=λn=>y6 (by exact(ag a0).trans hl);have aS:∀n m,(H₀.set i (C4 l n)++[.list ((xs.take m).map g)])[H₀.length]?=some (.list ((xs.take m).map g)):=λn m=>by rw[show H₀.length=(H₀.set i (C4 l n)).length by rw[ax],ao]
 intro q;induction q with|zero=>
  intro n ρ s T Q st S t E;have a2:n=xs.length:=by exact yJ T Q
  subst a2;refine eU PySem.F.entry_extend_loop ?_;rw[dE ee _];refine ac (ar (IA (A:=A.in1) (i:=i) (j:=j) hA.hd S (D _) (am _) (al _) t) (λr U K=>?_) λ_ _ x=>x.elim);refine n8 K λa3 p B=>?_;try clear K;subst a3
  rw[vg (by rw[ax];exact Z),cP,eI]at B;exact aq (hR ρ U (st.trans p) B)|succ q ih=>
  intro n ρ s T Q st S t E;have a:n<xs.length:=by exact yK T Q
  refine eU PySem.F.entry_extend_loop ?_;rw[dE ee _];refine ac (ar (Iy (A:=A.in1) (d:=d) hA.in1 S (D _) (am _) (aj _) (al _) I (aw a) t (hc _ (gm a) _)) (λr U K=>?_) λ_ _ x=>x.elim);refine a9 K λv a4 a5=>?_;try clear K;obtain⟨ρ',H',y,p,B,ry,u⟩:=a5;refine d7 u λL M=>?_;clear u;subst a4;subst L;subst M
  rw[vg (by rw[ax];exact Z),cP]at B;have G:=x6 p.1 t;have h:=x6 p.1 E;refine w6 (B.ob H₀.length eS _ h (aS _ _)) λe1 e2 W N J=>?_;obtain⟨c,ho⟩:=N;have z:W.length=n:=by rw[J.len,ak,dG,gN Q]
  refine ac (fL ho rfl ?_ (by rw[aZ];exact Ap hz a z) (by show(W.toArray.push v).size<=aF+1;rw[gO,aZ];exact Aq hz a z));have hp:(U.heap.update eS.a (bY (·.push v))).PlainList eS.a (W++[v]).toArray:=by have:=po (λxs:Array NS=>xs.push v) ⟨c,ho⟩;simpa using this
  refine d7 (B.turn (tk:=U.toks) (ys:=(xs.take (n+1)).map g) (us:=W++[v]) (aS _ _) h (λb o hb e=>(bR _ _ (bg hb)).trans e) hp (by rw[gq a,bm];exact J.append (.cons ry .nil))) λa6 Y=>?_;refine aq ⟨plainId_quiet ee _,ih (n+1) ρ' _ (by exact Ar T a z) a ((st.trans p).trans a6) ?_ G h⟩;rw[dP _ _ (by rw[ax];exact ae _)]at Y;rw[show H₀.length-(H₀.set i (C4 l (n+1))).length=0 by rw[ax];exact As]at Y;exact Y
theorem IB{g:V->V}{Q:QV}(hi:H[i]?=some (C4 l 0))(hm:H[mm]?=some (X4 i j))(hj:H[j]?=some (S7 f C))(hl:H[l]?=some (.list xs))(a2:i≠mm)(a1:i≠l)(a0:i≠j)(hz:xs.length<=aF)(hc:∀x∈xs,∀H',kA w d H' (.st f) [.st C,x] λy Z=>y=g x/\Z=H')(h:Q (.ref H.length) (H.set i ic++[.list (xs.map g)])):j7 w (d+3) H (.ty "list") [.ref mm] Q:=λA F Y s u us hA S ru r=>by
 rw[ru.ty_eq];refine i8 r.cons_eq λv q P rv rq=>?_;subst P;rw[rq.nil_eq];refine a9 rv.ref_eq λc J R=>?_;subst R;refine callType_codes (Q₁:=λN n=>N=.ref s.heap.objs.size/\n={s with heap:=s.heap.push {cls:=.type "list",data:=.seq #[]}}) PySem.F.called_list (PySem.F.typeCall_list_1 _) PySem.F.entry_list_init (code_list_new _ ⟨rfl,rfl⟩) λN n m=>?_;refine d7 m λT U=>?_;try clear m;subst T;subst U
 have D:(s.heap.push {cls:=.type "list",data:=.seq #[]}).get? s.heap.objs.size=some {cls:=.type "list",data:=.seq #[]}:=aT _ rfl;refine i9 (b7 _ D rfl) (PySem.F.args_list_init_2 _ _) ?_;have kk:u0 s.heap (s.heap.push {cls:=.type "list",data:=.seq #[]}):=λ_ _ x=>aD _ x;have S1:=S.alloc (o:=.list ((xs.take 0).map g)) kk (z5 _) ⟨_,D⟩ (fY rfl rfl ([]) ⟨0,D⟩ .nil);have z:(Y++[⟨s.heap.objs.size,[s.heap.objs.size],none⟩]:List c8)[H.length]?=some ⟨s.heap.objs.size,[s.heap.objs.size],none⟩:=by rw[<-S.len,ao]
 have K:=x6 (aH Y [⟨s.heap.objs.size,[s.heap.objs.size],none⟩]) J;have a4:=e8.add (ρ:=Y) (s:=s) (s':={s with heap:=s.heap.push {cls:=.type "list",data:=.seq #[]}}) (a:=s.heap.objs.size) (r:=[]) (.of_keep kk) rfl (ae _);refine m6 (S.ob mm c _ J hm) λ_ _ W _=>?_;obtain⟨ei,ej,t,b0,b1,_,M⟩:=W;have L:s.heap.objs.size≠c.a:=cG (fR M);have hT:∀h':NV,(∀b o,b≠s.heap.objs.size->(s.heap.push {cls:=.type "list",data:=.seq #[]}).get? b=some o->h'.get? b=some o)->({s with heap:=h'}:NR).TypeIs (.ref c.a) "map":=λh' hk=>b7 _ (hk _ _ L.symm (kk _ _ M)) rfl;show aJ _ _ (do let old<-gQ (.ref s.heap.objs.size);bu.List.listUpdate (.ref s.heap.objs.size) λ_=>#[];letGo old.toList.reverse;fB (.ref s.heap.objs.size) (.ref c.a) .none) _ _ _;refine ac ?_;unfold gQ;refine ac (dA D rfl (aq ?_));show aJ _ _ (updateSeq s.heap.objs.size (λ_=>#[])>>=λ_=>letGo (#[]:Array NS).toList.reverse>>=λ_=>fB (.ref s.heap.objs.size) (.ref c.a) .none) _ _ _;refine ac (fL D rfl (ac (wpAny_letGo ?_)));have p:=cb (a:=s.heap.objs.size) (bY λ_=>(#[]:Array NS)) D rfl;have o1:∀b o,b≠s.heap.objs.size->(s.heap.push {cls:=.type "list",data:=.seq #[]}).get? b=some o->((s.heap.push {cls:=.type "list",data:=.seq #[]}).update s.heap.objs.size (bY λ_=>(#[]:Array NS))).get? b=some o:=λb o I e=>(bR _ _ (bg I)).trans e;generalize(s.heap.push {cls:=.type "list",data:=.seq #[]}).update s.heap.objs.size (bY λ_=>(#[]:Array NS))=h1 at p o1⊢;unfold fB;have B:=hT h1 o1;refine ac (dq B ?_);have e1:gK (.ref s.heap.objs.size) (.ref c.a)=false:=by simp[gK,L]
 have e2:(NS.type "map"==NS.type "list")=false:=by decide
 have e3:(NS.type "map"==NS.type "tuple")=false:=by decide
 simp only[e1,e2,e3,Bool.or_false,bJ,if_false];refine ac (wpAny_pyIter_slot B vc (bK vc B Io ?_ (Im _)));show aJ _ _ (ret (.ref c.a)) _ _ _;refine aq (rx _ rfl "map" _ B as4.lookup (ac (bc ?_)));unfold bu.List.listLengthHint;refine ac (di B cB0 ?_);show aJ _ _ (specialOf (NS.ref c.a) (aa "__length_hint__")>>=_) _ _ _;refine ac (di B cB1 (aq ?_));show aJ _ _ (rule "list.extend.makes-room">>=λ_=>bu.List.listTouch (.ref s.heap.objs.size)>>=λ_=>again (.builtin "list.extend.loop" ⟨[.ref s.heap.objs.size,.ref c.a,.none],[]⟩)) _ _ _;refine ac (cm (ac ?_));show aJ _ _ (updateSeq s.heap.objs.size (·.push .none)>>=λ_=>updateSeq s.heap.objs.size (·.pop)) _ _ _;refine ac (fL p rfl ?_);have E:=cb (bY (·.push NS.none)) p rfl;refine fL (hz:=by seq_fits) E rfl ?_;have G:=cb (bY (·.pop)) E rfl;have o3:∀b o,b≠s.heap.objs.size->(s.heap.push {cls:=.type "list",data:=.seq #[]}).get? b=some o->((h1.update s.heap.objs.size (bY (·.push NS.none))).update s.heap.objs.size (bY (·.pop))).get? b=some o:=λb o I e=>(bR _ _ (bg I)).trans ((bR _ _ (bg I)).trans (o1 b o I e));generalize(h1.update s.heap.objs.size (bY (·.push NS.none))).update s.heap.objs.size (bY (·.pop))=h3 at G o3⊢;refine d7 (S1.turn (s:={s with heap:=s.heap.push {cls:=.type "list",data:=.seq #[]}}) (tk:=s.toks) (ys:=(xs.take 0).map g) (us:=[]) ao z o3 ⟨_,G⟩ .nil) λa5 S3=>?_;rw[dP _ _ (ae _),Nat.sub_self]at S3;rw[show H++[O.list ((xs.take 0).map g)].set 0 (O.list ((xs.take 0).map g))=H++[O.list ((xs.take 0).map g)]from rfl,show H++[O.list ((xs.take 0).map g)]=H.set i (C4 l 0)++[O.list ((xs.take 0).map g)]by rw[cB7 hi]]at S3;refine aq ⟨plainId_quiet ee _,?_⟩;have a3:=(ab.mp hi).1;refine cB8 (A:=A.in1) (em:=c) (eS:=⟨s.heap.objs.size,[s.heap.objs.size],none⟩) (H₀:=H) (ρ₀:=Y++[⟨s.heap.objs.size,[s.heap.objs.size],none⟩]) (s₀:={s with heap:=s.heap.push {cls:=.type "list",data:=.seq #[]}}) hA.in1 a3 a2 a1 a0 hm hj hl hz hc (λa6 s' X S'=>?_) xs.length 0 _ _ (by exact At) (bq _) a5 S3 K z;refine⟨rfl,a6,_,.ref H.length,a4.trans X,S',?_,h⟩;exact b7 _ (x6 X.1 z) rfl
end
theorem IC(a:NS):bindSpecial (.builtin "tuple.__len__") a=pure (.builtin "tuple.__len__",[a]):=PySem.F.slot_tuple_len.bind a
theorem ID:eY "tuple.__len__"=some .slot:=by decide+kernel
theorem IE:splitId "tuple.__len__"=some ("tuple","__len__"):=by decide+kernel
theorem IF(a:NS):argsOk "tuple.__len__" ⟨[a],[]⟩:=by unfold argsOk;kernel_rfl
section
variable{w:NQ}{A:NT}{E:VP}{s:NR}{C N a:Nat}{nm q:Str}{k0 k1 k2 k3 k5:Option NS}
theorem IG{K:Frag}{o:Obj}{name:Str}{id:String}{us:List NS}{Q:Option NS->NR->Prop}(X:K.In s.heap)(e:fZ K (.ref C) name=some (some (.builtin id)))(c:∀b,bindSpecial (.builtin id) b=pure (.builtin id,[b]))(f:s.heap.get? a=some o)(d:o.cls=.ref C)(h:aJ (ay pP w) A (call (.builtin id) (.ref a::us)) (λv=>Q (some v)) E s):aJ (ay pP w) A (callSpecial? (.ref a) name us) Q E s:=by have g:dk (ay pP w) s.heap (eJ (.ref a)) (.ref C):=(dR f).andThen (by rw[d];exact .now);refine ac ((g.andThen (fz X e)).here ?_);refine bc ?_;rw[c];refine ac (aq ?_);exact ac (ar h (λ_ _ z=>aq z) λ_ _ z=>z)
theorem IH(d:s.heap.get? C=some (M6 C N nm q k0 k1 k2 k3 k5))(b:N6 s.heap a C items)(h:Q (.int items.size s.toks) {s with toks:=s.toks+1}):aJ (ay pP w) A (call (.builtin "tuple.__len__") [.ref a]) Q E s:=by
 refine F5 b λo c e n f=>?_;try clear b
 have g:dk (ay pP w) s.heap (gH (.ref a) (.type "tuple")) true:=((dR c).andThen (by rw[e];exact .now)).andThen (af8 d (.inr (.inl rfl)));refine da (db PySem.F.slot_tuple_len.plain PySem.F.entry_tuple_len (@check_slot (ay pP w) _ _ _ "tuple.__len__" "tuple" "__len__" (.ref a) [] [] _ ID IE g (IF _) ?_));show aJ _ _ (gC (.ref a)>>=_) _ _ s;refine ac (pM c f ?_);exact ac (wpAny_mkInt (aq h))
end
section
variable{w:NQ}{d:Nat}{H:List O}{Q:QV}{C N f:Nat}{xs:List V}
theorem II(K:cr (KW w) C N f)(b:fZ (KW w) (.ref C) "__len__"=some (some (.builtin "tuple.__len__")))(hz:xs.length<=aF)(h:Q (.int xs.length) H):j7 w d H (.bi "len") [.sub C xs] Q:=λA F P s u M y S x r=>by
 rw[x.bi_eq];refine i8 r.cons_eq λv q e k t=>?_;subst e;rw[t.nil_eq];refine i8 k λa O g i c=>?_;try clear k;subst g
 refine P8 K.cl λJ L B D E G I l=>?_;refine m9 (id i) λo p n _=>?_;have z:aF=2^24:=rfl;have j:=c.len;refine Calls.call_function_entry PySem.kind_len PySem.plain_len PySem.entry_len (PySem.args_len1 _) ?_;refine ac (m:=oneArg "len" _) (aq (ac (m:=callSpecial? (.ref a) (aa "__len__")) (IG S.b.k b IC p n (IH (S.b.k _ _ l) i (ac (bc (aq (ac (wpAny_letGo ?_)))))))));refine NX (decide_eq_false (Int.not_lt.mpr (aW _))) ?_;refine NX (decide_eq_false (by rw[aZ,j];exact Int.not_le.mpr (Int.lt_of_le_of_lt (Int.ofNat_le.mpr hz) (by decide)))) ?_;rw[aZ,j];exact ac (wpAny_mkInt (aq (b7 _ rfl (L3 S Q9 h (bW (aN _))))))
end
noncomputable def P0(m n:Nat):UInt64:=Float64.ofFrac false (2*m) n
noncomputable def vh:UInt64:=4611686018427387904
theorem IJ:∀m:Fin 26,∀n:Fin 51,Float64.div (Float64.mul vh (dU (m.val:Int))) (dU ((n.val:Nat)+1:Int))=P0 m.val (n.val+1)/\Float64.isInf (P0 m.val (n.val+1))=false/\(gw (P0 m.val (n.val+1)) (P0 m.val (n.val+1))==some .eq)=true:=by decide+kernel
theorem pR:∀n:Fin 52,Float64.isInf (dU (n.val:Int))=false/\(n.val≠0->Float64.isZero (dU (n.val:Int))=false):=by decide+kernel
section
variable{w:NQ}{d:Nat}{H:List O}{Q:QV}
theorem pS(a:t≠0):VR ρ h (.flt x) (.float x t):=b7 t a rfl
theorem VR.flt_eq(r:VR ρ h (.flt x) v):∃t,t≠0/\v=.float x t:=by exact r
theorem pT(h:Q (.flt x) H):WE w fi d m H (.Constant (.float x) k pos) Q:=λA a F b s c S=>AutoFloatOps.wpAny_Constant_float ⟨b,H,_,.refl,S.tk (aN _),pS (cG S.hs.tp),h⟩
theorem IK{n:Nat}(e:n<=51)(h:Q (.flt (Float64.mul a (dU (n:Int)))) H):W2 w d VR H (eE .Mult) (.flt a) (.int (n:Nat)) Q:=λA F l s u v i S f g=>by refine a9 f.flt_eq λt j b=>?_;subst b; refine b8 g.int_eq λk c=>?_;subst c;exact AutoFloatOps.mul_fi_1 (by rw[(pR ⟨n,by exact nY e⟩).1];exact cA) (L3 S (pS (cG S.tp)) h (aN _))
theorem IL{n:Nat}(e:n<=51)(f:n≠0)(h:Q (.flt (Float64.div a (dU (n:Int)))) H):W2 w d VR H (eE .Div) (.flt a) (.int (n:Nat)) Q:=λA F m s u v j S g i=>by refine a9 g.flt_eq λt k b=>?_;subst b; refine b8 i.int_eq λl c=>?_;subst c;exact AutoFloatOps.truediv_fi_2 (by rw[(pR ⟨n,by exact nY e⟩).1];exact cA) (by rw[(pR ⟨n,by exact nY e⟩).2 f];exact cA) (L3 S (pS (cG S.tp)) h (aN _))
end
section
set_option tactic.hygienic true
section
variable{w:NQ}{fi:FI}{d:Nat}{m:b9}{H:List O}
noncomputable abbrev lastOf(x:Str)(a b c e:Pos)(k:Nat):Expr:=.Subscript (.Name x a) (.UnaryOp .USub (.Constant (.int 1) k b) c) e
end
end
section
variable{w:NQ}{fi:FI}{d:Nat}{m:b9}{H:List O}
theorem IM(f:H[c]?=some (.clk n))(h:∀t,n<=t->t≠0->Q (.stk i t) (H.set c (.clk (t+1)))):WE w fi d m H (.Constant (.str i) k pos) Q:=λA b F g s j S=>eP (by refine n8 (S.toH.tick (λ_ _ q=>q) f) λe a T=>?_;exact⟨g,_,.stk i s.toks,.same (.refl _) rfl (ae _),S.ofH (aA _) (.refl _) T,az9 a,h _ e a⟩)
end
section
set_option backward.match.sparseCases true
structure DX where
 w:NQ
 fi:FI
 env:Env
 F:i5
 a:Nat
 g:Nat
 S:Nat
 ρI:List c8
 sI:NR
structure SI(X:DX)(m:b9)(H:List O)(ρ:List c8)(s:NR):Prop where
 st:e8 X.ρI X.sI ρ s
 sim:d6 X.w X.fi X.env m X.F ρ H s.heap (gt s)
 off:y4 X.fi X.env X.F ρ [X.S,X.a]
 ls:∃acc c,s.heap.get? X.S=some (oZ acc c)
 gen:s.heap.IsGen X.a X.g
 gs:X.g<s.gens.size
 gx:∀e∈ρ,∀x,e.g=some x->x.1≠X.g
 ne:X.S≠X.a
structure Lk(X:DX)(s s':NR):Prop where
 old:∀b o,b≠X.S->s.heap.get? b=some o->s'.heap.get? b=some o
 ls:∃acc c,s'.heap.get? X.S=some (oZ acc c)
 os:s'.os=s.os
 bare:∀(k:Nat)(z:GenState),s'.gens[k]?=some z->z.bare=true\/s.gens[k]?=some z
 sz:s.gens.size<=s'.gens.size
 gk:∀k,k≠X.g->∀z,s.gens[k]?=some z->s'.gens[k]?=some z
 tk:s.toks<=s'.toks
noncomputable def NP(X:DX)(s s':NR):Prop:=∀o,s.heap.get? X.S=some o->s'.heap.get? X.S=some o
end
section
set_option backward.match.sparseCases true
end
end Mine.Internal
end
section
open PySem PySem.W PyProof.Rows PySem.Spec PySem.Calls
namespace Mine.Internal
def IN(tk:Nat)(q:Program)(loose:List Str)(XP:(Str->Option NS)->NV->Prop)(YP:NQ->NV->Prop)(r:RowW)(d:DefRec)(g:List (Str×Expr)):Prop:=∀(w:NQ)(s₀ s₁:NR)(h n:Str->Option NS),Ground q loose r.records XP w s₀ h n s₁.heap->YP w s₁.heap->∀(a:Addr)(o:Obj)(p k f l m:NS),s₁.heap.get? a=some o->o.data=.func {docDef d.name d.params d.body d.scope p k f with defaults:=l,kwdefaults:=m}->s₁.heap.CodeRec k d.name->Dflts h s₁.heap d.params g l m->h d.name=some (.ref a)->s₁.gens=#[]->tk<=s₁.toks->∀(b:List WData)(c:List NS)(j:List Addr),r.claim.pre b=true->WData.layableAll b=true->ReadsAllW r.records (classAt s₀.heap) s₁.heap c b j->WellAll w.params s₁.heap c b->(∀a∈j,(a==sysModules)=false)->g8 (ay r.prog w) callerA (PySem.call (.ref a) c) (λv i=>GoodWG r.claim (classAt s₀.heap) (ExcName.means s₀.heap) b s₁ (.ok (.ret v)) i) (λe i=>GoodWG r.claim (classAt s₀.heap) (ExcName.means s₀.heap) b s₁ (.error e) i) s₁
theorem holds_T{tk:Nat}{r:OpenRow}{q:Program}{loose:List Str}{Xt:NR->Bool}{XP:(Str->Option NS)->NV->Prop}{α:Type}{Yf:NR->α}{Ya:NQ->α}{YP:NQ->NV->Prop}{N:Nat}(left:LeftO r.prog q loose Xt Yf Ya N)(hY:∀w s,Yf s=Ya w->YP w s.heap)(a1:∀w s,Yf s=Ya w->tk<=s.toks)(U:∀w h h',YP w h->(∀b o,h.get? b=some o->h'.get? b=some o)->YP w h')(hX:∀s,Xt s=true->XP (s.heap.nsMap bw) s.heap)(T:∀O h h',XP O h->(∀b o,h.get? b=some o->h'.get? b=some o)->XP O h')(m:defOf q r.name=some (d,kwd))(hp:r.prog.theDef r.name=some (d.params,d.body,d.scope))(hk:kwWritten? d.params.kwonlyargs d.params.kw_defaults=some kwd)(S:∀s,Xt s=true->RecFacts r.records s.heap)(I:(!r.writes||r.records.isEmpty)=true)(k1:r.wellSaid=true)(ok:(chainsOk q&&opensWell r.prog&&(frees r.toRowW&&r.within.isEmpty))=true)(hb:r.prog.bare)(hw:r.toRowW.promised)(B:IN tk q loose XP YP r.toRowW d kwd):r.Holds:=by
 refine d7 (fF.mp ok) λok k5=>?_;refine d7 (fF.mp ok) λE o1=>?_;refine d7 (fF.mp k5) λk5 k6=>?_;refine L8 (frees_parts k5) λp hu ha V hm=>?_;refine⟨k1,hw,i9 hb o1 (by show r.toRowW.makers.map _=[];rw[hm];rfl),hw.witness,λw=>⟨(left.behind hX E w).1,λs' a0=>?_⟩⟩;refine xV ((left.behind (XP:=λO h=>XP O h/\RecFacts r.records h) (λs hs=>⟨hX s hs,S s hs⟩) E w).2 s' a0) λK hf X s hT hz j W f y=>?_;have G0:Ground q loose [] XP w s (s.heap.nsMap bw) (s.heap.nsMap gr) s.heap:=⟨f.T,f.B,f.D,f.TE,f.TD,f.W,f.X.1,f.cls,f.has,f.apart,f.once,f.K⟩;have Q:=f.X.2;have C:=hT;have j:s.gens=#[]:=Array.eq_empty_of_size_eq_zero (beq_iff_eq.mp j);have G:Ground q loose r.records XP w s _ _ s.heap:=Q.ground G0;refine yw K hf X s hT (λn hn=>?_) Q.1 Q.2.1 (FO (c:=r.toRowW.claim) hz j λl x t J u=>?_)
 · obtain rfl:n=r.name:=by split at hn<;>simp_all
   exact pinned_of_view W G0 m hp hk
 refine b8 (cN.mp (layAllW_isSome (P:=w.params) (ord:=J) G.has l r.toRowW.args s (pre_splitW x).1)) λa2 A=>?_;obtain⟨vs,s₁⟩:=a2;have i:=layAllW_keeps _ _ _ A;have D:=layAllW_rest _ _ _ A;refine m9 (reads_layAllW u _ _ _ A t s₁.heap λ_ _ e=>e) λas Z Y F=>?_;have L:Laid r.records w s s₁ l vs as:=⟨b7 J u A,Z,Y,F,i,D.1.trans j,D.2.2.1⟩;have k:=G.keeps T i;refine xY (k.fn m) λa o pm cd R dV kV h1 h2 h3 h4 h5=>?_;have h:=B w s s₁ _ _ k (U _ _ _ (hY w s y) i) a o pm cd R dV kV h2 h3 h4 h5 (defOf_name m▸h1) L.gens (ad (a1 w s y) (layAllW_grows _ _ _ A).toks) l vs as x t L.reads L.well (L.low G.low);have hi:=ident_freeW hu ha V;have H:r.toRowW.claim.within=[]:=List.isEmpty_iff.mp k6;refine G7 vs s₁ A (k8 (up (wpAny_nsGet k.T.g ?_)));rw[h1];refine k8 (o0 h (λv s' g=>q7 (M:=ay r.prog w) (b7 _ rfl ?_)) λe s' g=>?_);·have z:=g.laid (c:=r.toRowW.claim) p H hi L;exact⟨i9 z.1 z.2.1 λq=>⟨namesKept_of C W _ i g.2.1.old,noTable I q⟩,z.2.2⟩
 ·have z:=g.laid (c:=r.toRowW.claim) p H hi L;exact⟨i9 z.1 z.2.1 λq=>⟨namesKept_of C W _ i g.2.1.old,noTable I q⟩,z.2.2⟩
end Mine.Internal
end
section
open PySem PySem.W PyProof.Rows PySem.W.X PySem.SeqAt
namespace Mine.Internal
def MM(a b:List Nat)(i j:Nat):Prop:=∃c,a[i]?=some c/\b[j]?=some c
structure Rows(a b:List Nat):Prop where
 na:a.Nodup
 nb:b.Nodup
 mo:∀i j i' j',MM a b i j->MM a b i' j'->i<i'->j<j'
section
variable{a b:List Nat}
theorem MM.lt(h:MM a b i j):i<a.length/\j<b.length:=a9 h λ_ c d=>⟨(ab.mp c).1,(ab.mp d).1⟩
theorem Rows.fn(R:Rows a b)(h:MM a b i j)(h':MM a b i j'):j=j':=by refine a9 h λc f e=>?_;clear h;refine a9 h' λk d g=>?_;clear h';injection f.symm.trans d with d;have d:=d.symm;subst d;exact(fh (ab.mp e).1 R.nb).mp (e.trans g.symm)
theorem Rows.iff(R:Rows a b)(h:MM a b i j)(h':MM a b i' j'):i<i'↔j<j':=by
 refine⟨R.mo _ _ _ _ h h',λq=>?_⟩;rcases Nat.lt_trichotomy i i' with e|e|e;·exact e
 ·have e:=e.symm;subst e;have:=R.fn h h';exact Aw q this
 ·have:=R.mo _ _ _ _ h' h e;exact Ax q this
def S8(a b:List Nat)(i j k:Nat):Prop:=∀t,t<k->MM a b (i+t) (j+t)
structure I8(a b:List Nat)(alo ahi blo bhi:Nat):Prop where
 a1:alo<=ahi
 a2:ahi<=a.length
 b1:blo<=bhi
 b2:bhi<=b.length
 iff:∀i j,MM a b i j->(alo<=i/\i<ahi↔blo<=j/\j<bhi)
structure K3(a b:List Nat)(alo ahi blo bhi i j k:Nat):Prop where
 d:S8 a b i j k
 a1:alo<=i
 a2:i+k<=ahi
 b1:blo<=j
 b2:j+k<=bhi
 no:k=0->∀i' j',MM a b i' j'->alo<=i'->i'<ahi->blo<=j'->j'<bhi->False
structure G2(a b:List Nat)(alo blo bhi i:Nat)(bi bj bs:Nat)(r:Option (Nat×Nat)):Prop where
 d:S8 a b bi bj bs
 a1:alo<=bi
 a2:bi+bs<=i
 b1:blo<=bj
 b2:bj+bs<=bhi
 no:bs=0->∀i' j',MM a b i' j'->alo<=i'->i'<i->blo<=j'->j'<bhi->False
 r:∀j k,r=some (j,k)->1<=k/\alo+k<=i/\blo+k<=j+1/\j<bhi/\S8 a b (i-k) (j+1-k) k
theorem G2.start(h:blo<=bhi):G2 a b alo blo bhi alo alo blo 0 none:=⟨λt e=>absurd e (dQ _),ae _,ae _,ae _,h,λ_ _ _ _ c d=>absurd d (bl.mpr c),λ_ _ q=>by injection q⟩
theorem G2.skip{alo blo c i d f g:Nat}{r:Option (Nat×Nat)}(F:G2 a b alo blo c i d f g r)(h:∀j,MM a b i j->blo<=j->j<c->False):G2 a b alo blo c (i+1) d f g none:=⟨F.d,F.a1,bW F.a2,F.b1,F.b2,λq n o m p s k l=>by
  by_cases e:n=i;·have e:=e.symm;subst e;exact h o m k l
  ·exact F.no q n o m p (by exact lr s e) k l,λ_ _ q=>by injection q⟩
noncomputable def C5(r:Option (Nat×Nat))(j:Nat):Nat:=match r with|some (c,k)=>if c+1=j then k else 0|none=>0
theorem G2.run{alo blo d i x y z j:Nat}{r:Option (Nat×Nat)}(F:G2 a b alo blo d i x y z r)(w:MM a b i j)(u:alo<=i)(v:blo<=j)(o:j<d):1<=C5 r j+1/\alo+(C5 r j+1)<=i+1/\blo+(C5 r j+1)<=j+1/\j<d/\S8 a b (i+1-(C5 r j+1)) (j+1-(C5 r j+1)) (C5 r j+1):=by
 have g:S8 a b (i+1-(0+1)) (j+1-(0+1)) (0+1):=λt s=>by
  have:t=0:=by exact Ay s
  have this:=this.symm;subst this;exact w
 cases r with|none=>exact Q0 (bo (bq _)) (bo u) (bo v) o g |some p=>
  obtain⟨f,k⟩:=p;refine L8 (F.r f k rfl) λB m n D C=>?_;by_cases e:f+1=j
  · have c:C5 (some (f,k)) j=k:=if_pos e;rw[c];refine Q0 (by exact Az B c) (by exact AA m c) (by exact AB n e c) o λt s=>?_;by_cases q:t<k
    · have:=C t q;have h:i+1-(k+1)=i-k:=by exact AC m c
      have l:j+1-(k+1)=f+1-k:=by exact AD n e c
      rw[h,l];exact this
    · have A:k=t:=Nat.le_antisymm (bf q) (Nat.le_of_lt_succ s);subst A;have h:i+1-(k+1)+k=i:=by rw[Nat.add_sub_add_right];exact Nat.sub_add_cancel (ad (Nat.le_add_left k alo) m)
      have l:j+1-(k+1)+k=j:=by rw[Nat.add_sub_add_right];exact Nat.sub_add_cancel (e▸ad (Nat.le_add_left k blo) n)
      rw[h,l];exact w
  ·have c:C5 (some (f,k)) j=0:=if_neg e;rw[c];exact Q0 (by exact AE) (by exact rY u) (by exact rY v) o g
theorem G2.better{alo blo c i l m f j:Nat}{r:Option (Nat×Nat)}(F:G2 a b alo blo c i l m f r)(t:MM a b i j)(p:alo<=i)(s:blo<=j)(k:j<c)(u:f<C5 r j+1):G2 a b alo blo c (i+1) (i+1-(C5 r j+1)) (j+1-(C5 r j+1)) (C5 r j+1) (some (j,C5 r j+1)):=by have g:=F.run t p s k;refine L8 g λn d e o h=>?_;clear g;refine⟨h,by exact rZ d,by exact AF d,by exact rZ e,by exact AG k e,λq=>absurd q (Nat.succ_ne_zero _),λv w q=>?_⟩;cases q;exact Q0 n d e o h
theorem G2.same{alo blo c i e f d j:Nat}{r:Option (Nat×Nat)}(F:G2 a b alo blo c i e f d r)(n:MM a b i j)(h:alo<=i)(k:blo<=j)(l:j<c)(m:¬d<C5 r j+1):G2 a b alo blo c (i+1) e f d (some (j,C5 r j+1)):=by have g:=F.run n h k l;refine⟨F.d,F.a1,bW F.a2,F.b1,F.b2,λq=>absurd (q▸Nat.succ_pos _) m,λo p q=>?_⟩;cases q;exact g
theorem G2.done{alo c blo d e f g:Nat}{r:Option (Nat×Nat)}(F:G2 a b alo blo d c e f g r):K3 a b alo c blo d e f g:=⟨F.d,F.a1,F.a2,F.b1,F.b2,F.no⟩
theorem K3.left(F:K3 a b alo ahi blo bhi i j k)(c:alo<i)(d:blo<j)(g:MM a b (i-1) (j-1)):K3 a b alo ahi blo bhi (i-1) (j-1) (k+1):=by have:=F.a2;have:=F.b2;refine⟨λt h=>?_,by exact r0 c,by exact se c (by assumption),by exact r0 d,by exact se d this,λq=>absurd q (Nat.succ_ne_zero _)⟩;cases t with|zero=>exact g|succ t=>
  have e:i-1+(t+1)=i+t:=by exact sg c
  have f:j-1+(t+1)=j+t:=by exact sg d
  rw[e,f];exact F.d t (by exact AH h)
theorem K3.right(F:K3 a b alo ahi blo bhi i j k)(c:i+k<ahi)(d:j+k<bhi)(f:MM a b (i+k) (j+k)):K3 a b alo ahi blo bhi i j (k+1):=by
 refine⟨λt g=>?_,F.a1,by exact sh c,F.b1,by exact sh d,λq=>absurd q (Nat.succ_ne_zero _)⟩;by_cases e:t=k;·have e:=e.symm;subst e;exact f
 ·exact F.d t (by exact lr g e)
theorem I8.l(R:Rows a b)(W:I8 a b alo ahi blo bhi)(F:K3 a b alo ahi blo bhi i j k)(l:k≠0):I8 a b alo i blo j:=by have h:=F.d 0 (Nat.pos_of_ne_zero l);refine⟨F.a1,ad (ad (aU i k) F.a2) W.a2,F.b1,ad (ad (aU j k) F.b2) W.b2,λf g e=>?_⟩;have c:=W.iff f g e;have d:f<i↔g<j:=R.iff e h;exact⟨λp=>⟨(c.mp ⟨p.1,aB p.2 (ad (aU i k) F.a2)⟩).1,d.mp p.2⟩,λp=>⟨(c.mpr ⟨p.1,aB p.2 (ad (aU j k) F.b2)⟩).1,d.mpr p.2⟩⟩
theorem I8.r(R:Rows a b)(W:I8 a b alo ahi blo bhi)(F:K3 a b alo ahi blo bhi i j k)(l:k≠0):I8 a b (i+k) ahi (j+k) bhi:=by cases k with|zero=>exact absurd rfl l|succ k=>have h:=F.d k (ch k);refine⟨F.a2,W.a2,F.b2,W.b2,λf g e=>?_⟩;have c:=W.iff f g e;have d:i+k<f↔j+k<g:=R.iff h e;exact⟨λp=>⟨d.mp p.1,(c.mp ⟨ad F.a1 (ad (aU i _) p.1),p.2⟩).2⟩,λp=>⟨d.mpr p.1,(c.mpr ⟨ad F.b1 (ad (aU j _) p.1),p.2⟩).2⟩⟩
theorem I8.start(a b:List Nat):I8 a b 0 a.length 0 b.length:=⟨bq _,ae _,bq _,ae _,λi j h=>by have:=h.lt;exact AI this⟩
end
abbrev Bl:=Nat×Nat×Nat
abbrev Wd:=Nat×Nat×Nat×Nat
noncomputable def V0(m:Bl):Nat×Nat:=(m.1,m.1+m.2.2)
noncomputable def P1(w:Wd):Nat×Nat:=(w.1,w.2.1)
def L6(x y:Nat×Nat):Prop:=x.2<=y.1\/y.2<=x.1
theorem L6.symm(h:L6 x y):L6 y x:=h.elim .inr .inl
structure P2(a b:List Nat)(q:List Wd)(f:List Bl):Prop where
 w:∀x∈q,I8 a b x.1 x.2.1 x.2.2.1 x.2.2.2
 d:∀m∈f,S8 a b m.1 m.2.1 m.2.2/\m.2.2≠0
 c:∀i j,MM a b i j->(∃m∈f,m.1<=i/\i<m.1+m.2.2)\/∃x∈q,x.1<=i/\i<x.2.1
 ap:(f.map V0++q.map P1).Pairwise L6
noncomputable def C6(q:List Wd):Nat:=(q.map λx=>2*(x.2.1-x.1)+1).sum
section
variable{a b:List Nat}
theorem P2.start(a b:List Nat):P2 a b [(0,a.length,0,b.length)] []:=⟨λx d=>by rw[af.mp d];exact I8.start a b,λm c=>absurd c List.not_mem_nil,λi j h=>.inr (j5 _ (.head _) (bq _) h.lt.1),by simp⟩
theorem vi{f:List Bl}{q:List Wd}{x:Nat×Nat}(h:(f.map V0++(q++[(x.1,x.2,0,0)]).map P1).Pairwise L6):(f.map V0++q.map P1).Pairwise L6/\∀y∈f.map V0++q.map P1,L6 y x:=by rw[bm,<-bz,eu]at h;exact⟨h.1,λy c=>h.2.2 y c _ (.head _)⟩
theorem P2.none{q:List Wd}{f:List Bl}{alo c blo d i j:Nat}(Z:P2 a b (q++[(alo,c,blo,d)]) f)(F:K3 a b alo c blo d i j 0):P2 a b q f:=by
 have W:I8 a b alo c blo d:=Z.w _ (bD _ (.head _));refine⟨λx e=>Z.w x (bB _ e),Z.d,λm n l=>?_,(vi (x:=(alo,c)) (by have:=Z.ap;rw[bm]at this⊢;exact this)).1⟩;rcases Z.c m n l with h|⟨x,e,g,k⟩;·exact .inl h
 · rcases aX.mp e with e|e;·exact .inr (j5 x e g k)
   ·rw[af.mp e]at g k;have:=(W.iff m n l).mp ⟨g,k⟩;exact(F.no rfl m n l g k this.1 this.2).elim
noncomputable def G3(alo blo i j:Nat):List Wd:=if alo<i/\blo<j then[(alo,i,blo,j)]else[]
noncomputable def K4(c d i j:Nat):List Wd:=if i<c/\j<d then[(i,c,j,d)]else[]
theorem pU:∀y∈(G3 alo blo i j).map P1,y=(alo,i):=by
 unfold G3;split;·exactλy c=>af.mp c
 ·exactλy c=>absurd c List.not_mem_nil
theorem vj:∀y∈(K4 ahi bhi i j).map P1,y=(i,ahi):=by
 unfold K4;split;·exactλy c=>af.mp c
 ·exactλy c=>absurd c List.not_mem_nil
theorem P2.some{q:List Wd}{f:List Bl}{alo d blo e i j k:Nat}(R:Rows a b)(Z:P2 a b (q++[(alo,d,blo,e)]) f)(F:K3 a b alo d blo e i j k)(p:k≠0):P2 a b (q++G3 alo blo i j++K4 d e (i+k) (j+k)) (f++[(i,j,k)]):=by
 have W:I8 a b alo d blo e:=Z.w _ (bD _ (.head _));have A:=vi (x:=(alo,d)) (f:=f) (q:=q) (by have:=Z.ap;rw[bm]at this⊢;exact this);refine d7 A λw z=>?_;clear A;have s:=F.a1;have f2:=F.a2;refine⟨λx c=>?_,λm l=>?_,λo r l=>?_,?_⟩
 · rcases aX.mp c with c|c
   · rcases aX.mp c with c|c;·exact Z.w x (bB _ c)
     · unfold G3 at c;split at c;·rw[af.mp c];exact W.l R F p
       ·exact absurd c List.not_mem_nil
   · unfold K4 at c;split at c;·rw[af.mp c];exact W.r R F p
     ·exact absurd c List.not_mem_nil
 · rcases aX.mp l with l|l;·exact Z.d m l
   ·rw[af.mp l];exact⟨F.d,p⟩
 · rcases Z.c o r l with⟨m,h,g⟩|⟨x,c,g,n⟩;·exact .inl (b7 m (bB _ h) g)
   · rcases aX.mp c with c|c;·exact .inr (j5 x (bB _ (bB _ c)) g n)
     · rw[af.mp c]at g n;dsimp only at g n;have v:=(W.iff o r l).mp ⟨g,n⟩;have D:=(W.l R F p).iff o r l;have E:=(W.r R F p).iff o r l;by_cases e1:o<i;·have:=D.mp ⟨g,e1⟩;refine .inr (j5 (alo,i,blo,j) (bB _ (bD _ ?_)) g e1);unfold G3;rw[if_pos ⟨by exact AJ s g e1,by exact AK v this⟩];exact .head _
       · by_cases e2:o<i+k;·exact .inl (j5 (i,j,k) (bD _ (.head _)) (by show i<=o;exact rH e1) e2)
         ·have:=E.mp ⟨by exact sj e2,n⟩;refine .inr (j5 (i+k,d,j+k,e) (bD _ ?_) (by show i+k<=o;exact sj e2) n);unfold K4;rw[if_pos ⟨by exact AL f2 n e2,by exact AM v this⟩];exact .head _
 · have t:(f.map V0++q.map P1++([(i,i+k)]++(G3 alo blo i j).map P1++(K4 d e (i+k) (j+k)).map P1)).Pairwise L6:=by
    have u:∀y∈[(i,i+k)]++(G3 alo blo i j).map P1++(K4 d e (i+k) (j+k)).map P1,alo<=y.1/\y.2<=d:=λy hy=>by
     have B:=ad (aU i k) f2;have C:=ad s (aU i k);rcases aX.mp hy with hy|hy
     · rcases aX.mp hy with hy|hy;·rw[af.mp hy];exact⟨s,f2⟩
       ·rw[pU y hy];exact⟨ae _,B⟩
     ·rw[vj y hy];exact⟨C,ae _⟩
    refine eu.mpr (i9 w ?_ λx c y hy=>?_)
    · refine eu.mpr ⟨eu.mpr ⟨List.pairwise_singleton _ _,?_,λx c y hy=>?_⟩,?_,λx c y hy=>?_⟩
      · unfold G3;split;·exact List.pairwise_singleton _ _
        ·exact .nil
      ·rw[af.mp c,pU y hy];exact .inr (ae _)
      · unfold K4;split;·exact List.pairwise_singleton _ _
        ·exact .nil
      · rw[vj y hy];rcases aX.mp c with c|c;·rw[af.mp c];exact .inl (ae _)
        ·rw[pU x c];exact .inl (aU _ _)
    ·have g:=z x c;have n:=u y hy;unfold L6 at g⊢;dsimp only at g;exact AN g n
   refine(List.Perm.pairwise_iff (λh=>L6.symm h) ?_).mp t;simp only[bm,bN,List.map_nil,bz];refine List.Perm.append_left _ ?_;rw[<-bz (q.map P1),<-bz [V0 (i,j,k)]];exact List.Perm.append_right _ List.perm_append_comm
theorem mD(q r:List Wd):C6 (q++r)=C6 q+C6 r:=by unfold C6;rw[bm,List.sum_append]
theorem pV{q:List Wd}{w:Wd}:C6 q<C6 (q++[w]):=by rw[mD];exact AO
theorem IO{q:List Wd}{alo c blo d i j k:Nat}(F:K3 a b alo c blo d i j k)(f:k≠0):C6 (q++G3 alo blo i j++K4 c d (i+k) (j+k))<C6 (q++[(alo,c,blo,d)]):=by
 have:=F.a1;have:=F.a2;rw[mD,mD,mD];have e:C6 [(alo,c,blo,d)]=2*(c-alo)+1:=by unfold C6;simp
 have l:C6 (G3 alo blo i j)<=2*(i-alo)+1:=by unfold G3;split<;>(unfold C6;simp)
 have r:C6 (K4 c d (i+k) (j+k))<=2*(c-(i+k))+1:=by unfold K4;split<;>(unfold C6;simp)
 rw[e];exact AP f (by assumption) this l r
end
def y7(a b:List Nat):Nat->Nat->List Bl->Prop|i,j,[]=>i<=a.length/\j<=b.length/\∀c d,MM a b c d->c<i|i,j,m::r=>i<=m.1/\j<=m.2.1/\(∀c d,MM a b c d->i<=c->m.1<=c)/\S8 a b m.1 m.2.1 m.2.2/\m.1+m.2.2<=a.length/\m.2.1+m.2.2<=b.length/\y7 a b (m.1+m.2.2) (m.2.1+m.2.2) r
section
variable{a b:List Nat}
theorem IP(R:Rows a b):∀(g:List Bl)(i j:Nat),(∀m∈g,S8 a b m.1 m.2.1 m.2.2/\m.2.2≠0)->g.Pairwise (λx y=>x.1+x.2.2<=y.1)->(∀m∈g,i<=m.1/\j<=m.2.1)->(∀e l,MM a b e l->e<i\/∃m∈g,m.1<=e/\e<m.1+m.2.2)->i<=a.length->j<=b.length->y7 a b i j g:=by intro g;induction g with|nil=>exactλi j _ _ _ n E F=>i9 E F λe l d=>(n e l d).elim id (A8 λm d _=>absurd d List.not_mem_nil) |cons p r I=>
  obtain⟨x,y,k⟩:=p;intro i j A o H n E F;refine d7 (H _ (.head _)) λz D=>?_;refine d7 (A _ (.head _)) λt u=>?_;dsimp only at z D t u;rw[List.pairwise_cons]at o;have h:=t (k-1) (by exact yP u);have lt:=h.lt;refine Q1 z D (λe l d B=>?_) t (by show x+k<=_;exact sk lt) (by show y+k<=_;exact sm lt) (I (x+k) (y+k) (λm d=>A m (.tail _ d)) o.2 (λm d=>?_) (λe l d=>?_) (by exact sk lt) (by exact sm lt))
  · rcases n e l d with q|⟨m,c,s,C⟩;·exact absurd q (bl.mpr B)
    · rcases az.mp c with rfl|c;·exact s
      ·have:=o.1 m c;exact ad (ad (aU x k) this) s
  ·have w:=o.1 m d;dsimp only at w;refine⟨w,?_⟩;refine d7 (A m (.tail _ d)) λG v=>?_;have f:=G 0 (by exact yO v);have:=(R.iff h f).mp (by exact AR u w v);exact AS v this
  · rcases n e l d with q|⟨m,c,s,C⟩;·exact .inl (by exact AT z q)
    · rcases az.mp c with rfl|c;·exact .inl C
      ·exact .inr (j5 m c s C)
theorem IQ(R:Rows a b)(Z:P2 a b [] f)(n:g.Perm f)(r:g.Pairwise λx y=>x.1<y.1):y7 a b 0 0 g:=by
 have o:∀m∈g,S8 a b m.1 m.2.1 m.2.2/\m.2.2≠0:=λm l=>Z.d m (n.mem_iff.mp l);refine IP R g 0 0 o ?_ (λm _=>⟨bq _,bq _⟩) (λi j l=>?_) (bq _) (bq _)
 · have q:(f.map V0).Pairwise L6:=by have:=Z.ap;simpa using this
   have c:(g.map V0).Pairwise L6:=(List.Perm.pairwise_iff (λh=>L6.symm h) (n.map V0)).mpr q;rw[dg]at c;have d:=c.and r;refine gJ (λ{x y}p s h=>?_) d;refine d7 h λe k=>?_;clear h;have:=(o y s).2;unfold L6 V0 at e;dsimp only at e;exact AU e k this
 · rcases Z.c i j l with⟨m,e,k⟩|⟨x,p,_⟩;·exact .inr (b7 m (n.mem_iff.mpr e) k)
   ·exact absurd p List.not_mem_nil
theorem IR{x y k c:Nat}{r:List Bl}:∀{d:List Bl}{i j:Nat},y7 a b i j (d++(x,y,k)::(x+k,y+k,c)::r)->y7 a b i j (d++(x,y,k+c)::r):=by
 intro d;induction d with|nil=>
  intro i j h;refine xO h λo p s u B C w z A f g l n=>?_;clear h;dsimp only at*;refine Q1 o p s (λt e=>?_) (by show x+(k+c)<=_;exact so g) (by show y+(k+c)<=_;exact so l) ?_
  · have e:t<k+c:=e;by_cases q:t<k;·exact u t q
    ·have:=f (t-k) (by exact AV e q);rw[show x+k+(t-k)=x+t by exact sq q,show y+k+(t-k)=y+t by exact sq q]at this;exact this
  ·rw[<-Nat.add_assoc,<-Nat.add_assoc];exact n|cons m d v=>intro i j h;exact Q1 h.1 h.2.1 h.2.2.1 h.2.2.2.1 h.2.2.2.2.1 h.2.2.2.2.2.1 (v h.2.2.2.2.2.2)
theorem vk{x y:Nat}{r:List Bl}:∀{g:List Bl}{i j:Nat},y7 a b i j (g++(x,y,0)::r)->y7 a b i j (g++r):=by intro g;induction g with
 |nil=>intro i j h;refine fe h λn o p D A B c=>?_;clear h;dsimp only at*;rw[Nat.add_zero,Nat.add_zero]at c;cases r with
  |nil=>exact i9 (by have:=c.1;exact sr n A) (by have:=c.2.1;exact sr o B) (λd f e=>by
   have k:=c.2.2 d f e;by_cases q:d<i;·exact q
   ·have:=p d f e (by exact rH q);exact AW k this) |cons m r=> refine fe c λk s t u v w z=>?_;clear c;exact Q1 (by exact nW n k) (by exact nW o s) (λd f e l=>t d f e (p d f e l)) u v w z
 |cons m g C=>intro i j h;exact Q1 h.1 h.2.1 h.2.2.1 h.2.2.2.1 h.2.2.2.2.1 h.2.2.2.2.2.1 (C h.2.2.2.2.2.2)
theorem IS:∀{i j:Nat},y7 a b i j e->y7 a b i j (e++[(a.length,b.length,0)]):=by induction e with|nil=>exactλh=>⟨h.1,h.2.1,λf g d c=>absurd (h.2.2 f g d) (bl.mpr c),λt k=>absurd k (dQ _),ae _,ae _,ae _,ae _,λf g d=>d.lt.1⟩|cons m e l=>exactλh=>Q1 h.1 h.2.1 h.2.2.1 h.2.2.2.1 h.2.2.2.2.1 h.2.2.2.2.2.1 (l h.2.2.2.2.2.2)
theorem IU(h:y7 a b 0 0 g):y7 a b 0 0 ([]++(0,0,0)::g):=Q1 (ae _) (ae _) (λ_ _ _ _=>bq _) (λt c=>absurd c (dQ _)) (bq _) (bq _) h
end
theorem IV(w:NQ):z6 (KW w) 82 (nz w.params) (o9 (nz w.params)) (e9 (d0 3 4)) (i7 (d0 3 4)) ["_cls","a","b","size"]where
 hsc:=by rfl
 hK:=by kernel_rfl
 hd:=by rfl
 hb:=by rfl
 hg:=by rfl
 hbl:=by rfl
 hcl:=by rfl
 hcd:=⟨81,qP w.params,_,_,by rfl,by kernel_rfl,by rfl,by rfl⟩
 hbd:=λg b=>by refine T8 (aK7 b) λc d e f a=>?_;subst a;rfl
 hps:=by decide
 hnd:=by decide
 hkd:=by decide
 hco:=by rfl
 hk:=by rfl
 hnf:=by decide
theorem IW(w:NQ):z6 (KW w) 89 (nA w.params) (o9 (nA w.params)) (e9 (d0 3 5)) (i7 (d0 3 5)) ["cls","iterable"]where
 hsc:=by rfl
 hK:=by kernel_rfl
 hd:=by rfl
 hb:=by rfl
 hg:=by rfl
 hbl:=by rfl
 hcl:=by rfl
 hcd:=⟨88,qQ w.params,_,_,by rfl,by kernel_rfl,by rfl,by rfl⟩
 hbd:=λe b=>by refine z9 (aa5 b) λc d a=>?_;subst a;rfl
 hps:=by decide
 hnd:=by decide
 hkd:=by decide
 hco:=by rfl
 hk:=by rfl
 hnf:=by decide
theorem IX(w:NQ):z6 (KW w) 145 (aE9 w.params) (o9 (aE9 w.params)) (e9 (m8 4)) (i7 (m8 4)) ["matches","length"]where
 hsc:=by rfl
 hK:=by kernel_rfl
 hd:=by rfl
 hb:=by rfl
 hg:=by rfl
 hbl:=by rfl
 hcl:=by rfl
 hcd:=⟨144,aS2 w.params,_,_,by rfl,by kernel_rfl,by rfl,by rfl⟩
 hbd:=λe b=>by refine z9 (aa5 b) λc d a=>?_;subst a;rfl
 hps:=by decide
 hnd:=by decide
 hkd:=by decide
 hco:=by rfl
 hk:=by rfl
 hnf:=by decide
theorem pW(w:NQ):y5 (KW w) (.st 145):=by show keepIn _ _=true;kernel_rfl
theorem bm5(w:NQ):FnB (KW w) 160 (Y9 w.params) (o9 (Y9 w.params)) (e9 (d0 5 1)) (i7 (d0 5 1)) ["self","isjunk","a","b","autojunk"]where
 hsc:=by rfl
 hK:=by kernel_rfl
 hd:=by rfl
 hb:=by rfl
 hg:=by rfl
 hbl:=by rfl
 hcl:=by rfl
 hcd:=⟨159,aS3 w.params,_,_,by rfl,by kernel_rfl,by rfl,by rfl⟩
 hps:=by decide
 hnd:=by decide
 hkd:=by decide
 hco:=by rfl
 hk:=by rfl
 hnf:=by decide
theorem IY(w:NQ):z6 (KW w) 167 (au0 w.params) (o9 (au0 w.params)) (e9 (d0 5 2)) (i7 (d0 5 2)) ["self","a","b"]where
 hsc:=by rfl
 hK:=by kernel_rfl
 hd:=by rfl
 hb:=by rfl
 hg:=by rfl
 hbl:=by rfl
 hcl:=by rfl
 hcd:=⟨166,aS4 w.params,_,_,by rfl,by kernel_rfl,by rfl,by rfl⟩
 hbd:=λf b=>by refine J0 (pd b) λc d e a=>?_;subst a;rfl
 hps:=by decide
 hnd:=by decide
 hkd:=by decide
 hco:=by rfl
 hk:=by rfl
 hnf:=by decide
theorem IZ(w:NQ):y5 (KW w) (.st 167):=by show keepIn _ _=true;kernel_rfl
theorem Ja(w:NQ):z6 (KW w) 174 (ah8 w.params) (o9 (ah8 w.params)) (e9 (d0 5 3)) (i7 (d0 5 3)) ["self","a"]where
 hsc:=by rfl
 hK:=by kernel_rfl
 hd:=by rfl
 hb:=by rfl
 hg:=by rfl
 hbl:=by rfl
 hcl:=by rfl
 hcd:=⟨173,aS5 w.params,_,_,by rfl,by kernel_rfl,by rfl,by rfl⟩
 hbd:=λe b=>by refine z9 (aa5 b) λc d a=>?_;subst a;rfl
 hps:=by decide
 hnd:=by decide
 hkd:=by decide
 hco:=by rfl
 hk:=by rfl
 hnf:=by decide
theorem vl(w:NQ):y5 (KW w) (.st 174):=by show keepIn _ _=true;kernel_rfl
theorem Jb(w:NQ):z6 (KW w) 181 (ah9 w.params) (o9 (ah9 w.params)) (e9 (d0 5 4)) (i7 (d0 5 4)) ["self","b"]where
 hsc:=by rfl
 hK:=by kernel_rfl
 hd:=by rfl
 hb:=by rfl
 hg:=by rfl
 hbl:=by rfl
 hcl:=by rfl
 hcd:=⟨180,aS6 w.params,_,_,by rfl,by kernel_rfl,by rfl,by rfl⟩
 hbd:=λe b=>by refine z9 (aa5 b) λc d a=>?_;subst a;rfl
 hps:=by decide
 hnd:=by decide
 hkd:=by decide
 hco:=by rfl
 hk:=by rfl
 hnf:=by decide
theorem vm(w:NQ):y5 (KW w) (.st 181):=by show keepIn _ _=true;kernel_rfl
theorem Jc(w:NQ):z6 (KW w) 188 (ao0 w.params) (o9 (ao0 w.params)) (e9 (d0 5 5)) (i7 (d0 5 5)) ["self"]where
 hsc:=by rfl
 hK:=by kernel_rfl
 hd:=by rfl
 hb:=by rfl
 hg:=by rfl
 hbl:=by rfl
 hcl:=by rfl
 hcd:=⟨187,aS7 w.params,_,_,by rfl,by kernel_rfl,by rfl,by rfl⟩
 hbd:=λd b=>by refine b8 (W9 b) λc a=>?_;subst a;rfl
 hps:=by decide
 hnd:=by decide
 hkd:=by decide
 hco:=by rfl
 hk:=by rfl
 hnf:=by decide
theorem Jd(w:NQ):y5 (KW w) (.st 188):=by show keepIn _ _=true;kernel_rfl
theorem Je(w:NQ):FnB (KW w) 196 (ai0 w.params) (o9 (ai0 w.params)) (e9 (d0 5 6)) (i7 (d0 5 6)) ["self","alo","ahi","blo","bhi"]where
 hsc:=by rfl
 hK:=by kernel_rfl
 hd:=by rfl
 hb:=by rfl
 hg:=by rfl
 hbl:=by rfl
 hcl:=by rfl
 hcd:=⟨195,aS9 w.params,_,_,by rfl,by kernel_rfl,by rfl,by rfl⟩
 hps:=by decide
 hnd:=by decide
 hkd:=by decide
 hco:=by rfl
 hk:=by rfl
 hnf:=by decide
theorem Jf(w:NQ):y5 (KW w) (.st 196):=by show keepIn _ _=true;kernel_rfl
theorem Jg(w:NQ):z6 (KW w) 203 (ao1 w.params) (o9 (ao1 w.params)) (e9 (d0 5 7)) (i7 (d0 5 7)) ["self"]where
 hsc:=by rfl
 hK:=by kernel_rfl
 hd:=by rfl
 hb:=by rfl
 hg:=by rfl
 hbl:=by rfl
 hcl:=by rfl
 hcd:=⟨202,aT0 w.params,_,_,by rfl,by kernel_rfl,by rfl,by rfl⟩
 hbd:=λd b=>by refine b8 (W9 b) λc a=>?_;subst a;rfl
 hps:=by decide
 hnd:=by decide
 hkd:=by decide
 hco:=by rfl
 hk:=by rfl
 hnf:=by decide
theorem Jh(w:NQ):y5 (KW w) (.st 203):=by show keepIn _ _=true;kernel_rfl
theorem Ji(w:NQ):z6 (KW w) 210 (ao2 w.params) (o9 (ao2 w.params)) (e9 (d0 5 8)) (i7 (d0 5 8)) ["self"]where
 hsc:=by rfl
 hK:=by kernel_rfl
 hd:=by rfl
 hb:=by rfl
 hg:=by rfl
 hbl:=by rfl
 hcl:=by rfl
 hcd:=⟨209,aT1 w.params,_,_,by rfl,by kernel_rfl,by rfl,by rfl⟩
 hbd:=λd b=>by refine b8 (W9 b) λc a=>?_;subst a;rfl
 hps:=by decide
 hnd:=by decide
 hkd:=by decide
 hco:=by rfl
 hk:=by rfl
 hnf:=by decide
theorem Jj(w:NQ):y5 (KW w) (.st 210):=by show keepIn _ _=true;kernel_rfl
theorem Jk(w:NQ):z6 (KW w) 232 (ao3 w.params) (o9 (ao3 w.params)) (e9 (d0 5 11)) (i7 (d0 5 11)) ["self"]where
 hsc:=by rfl
 hK:=by kernel_rfl
 hd:=by rfl
 hb:=by rfl
 hg:=by rfl
 hbl:=by rfl
 hcl:=by rfl
 hcd:=⟨231,aT2 w.params,_,_,by rfl,by kernel_rfl,by rfl,by rfl⟩
 hbd:=λd b=>by refine b8 (W9 b) λc a=>?_;subst a;rfl
 hps:=by decide
 hnd:=by decide
 hkd:=by decide
 hco:=by rfl
 hk:=by rfl
 hnf:=by decide
theorem Jl(w:NQ):y5 (KW w) (.st 232):=by show keepIn _ _=true;kernel_rfl
theorem Jm(w:NQ):z6 (KW w) 239 (au1 w.params) (o9 (au1 w.params)) (e9 (d0 5 12)) (i7 (d0 5 12)) ["self"]where
 hsc:=by rfl
 hK:=by kernel_rfl
 hd:=by rfl
 hb:=by rfl
 hg:=by rfl
 hbl:=by rfl
 hcl:=by rfl
 hcd:=⟨238,aT3 w.params,_,_,by rfl,by kernel_rfl,by rfl,by rfl⟩
 hbd:=λd b=>by refine b8 (W9 b) λc a=>?_;subst a;rfl
 hps:=by decide
 hnd:=by decide
 hkd:=by decide
 hco:=by rfl
 hk:=by rfl
 hnf:=by decide
theorem Jn(w:NQ):y5 (KW w) (.st 239):=by show keepIn _ _=true;kernel_rfl
theorem Jo(w:NQ):FnB (KW w) 268 (ao4 w.params) (o9 (ao4 w.params)) (e9 (d0 7 1)) (i7 (d0 7 1)) ["self","linejunk","charjunk"]where
 hsc:=by rfl
 hK:=by kernel_rfl
 hd:=by rfl
 hb:=by rfl
 hg:=by rfl
 hbl:=by rfl
 hcl:=by rfl
 hcd:=⟨267,aT5 w.params,_,_,by rfl,by kernel_rfl,by rfl,by rfl⟩
 hps:=by decide
 hnd:=by decide
 hkd:=by decide
 hco:=by rfl
 hk:=by rfl
 hnf:=by decide
theorem vn(w:NQ):z6 (KW w) 275 (ao5 w.params) (o9 (ao5 w.params)) (e9 (d0 7 2)) (i7 (d0 7 2)) ["self","a","b"]where
 hsc:=by rfl
 hK:=by kernel_rfl
 hd:=by rfl
 hb:=by rfl
 hg:=by rfl
 hbl:=by rfl
 hcl:=by rfl
 hcd:=⟨274,aT6 w.params,_,_,by rfl,by kernel_rfl,by rfl,by rfl⟩
 hbd:=λf b=>by refine J0 (pd b) λc d e a=>?_;subst a;rfl
 hps:=by decide
 hnd:=by decide
 hkd:=by decide
 hco:=by rfl
 hk:=by rfl
 hnf:=by decide
theorem vo(w:NQ):y5 (KW w) (.st 275):=by show keepIn _ _=true;kernel_rfl
theorem ie(w:NQ):z6 (KW w) 282 (ao6 w.params) (o9 (ao6 w.params)) (e9 (d0 7 3)) (i7 (d0 7 3)) ["self","tag","x","lo","hi"]where
 hsc:=by rfl
 hK:=by kernel_rfl
 hd:=by rfl
 hb:=by rfl
 hg:=by rfl
 hbl:=by rfl
 hcl:=by rfl
 hcd:=⟨281,aT7 w.params,_,_,by rfl,by kernel_rfl,by rfl,by rfl⟩
 hbd:=λh b=>by refine eZ (pe b) λc d e f g a=>?_;subst a;rfl
 hps:=by decide
 hnd:=by decide
 hkd:=by decide
 hco:=by rfl
 hk:=by rfl
 hnf:=by decide
theorem ig(w:NQ):y5 (KW w) (.st 282):=by show keepIn _ _=true;kernel_rfl
theorem Jp(w:NQ):z6 (KW w) 289 (ao7 w.params) (o9 (ao7 w.params)) (e9 (d0 7 4)) (i7 (d0 7 4)) ["self","a","alo","ahi","b","blo","bhi"]where
 hsc:=by rfl
 hK:=by kernel_rfl
 hd:=by rfl
 hb:=by rfl
 hg:=by rfl
 hbl:=by rfl
 hcl:=by rfl
 hcd:=⟨288,aT8 w.params,_,_,by rfl,by kernel_rfl,by rfl,by rfl⟩
 hbd:=λj b=>by refine P8 (tM b) λc d e f g h i a=>?_;subst a;rfl
 hps:=by decide
 hnd:=by decide
 hkd:=by decide
 hco:=by rfl
 hk:=by rfl
 hnf:=by decide
theorem Jq(w:NQ):y5 (KW w) (.st 289):=by show keepIn _ _=true;kernel_rfl
theorem Jr(w:NQ):z6 (KW w) 296 (ao8 w.params) (o9 (ao8 w.params)) (e9 (d0 7 5)) (i7 (d0 7 5)) ["self","a","alo","ahi","b","blo","bhi"]where
 hsc:=by rfl
 hK:=by kernel_rfl
 hd:=by rfl
 hb:=by rfl
 hg:=by rfl
 hbl:=by rfl
 hcl:=by rfl
 hcd:=⟨295,aT9 w.params,_,_,by rfl,by kernel_rfl,by rfl,by rfl⟩
 hbd:=λj b=>by refine P8 (tM b) λc d e f g h i a=>?_;subst a;rfl
 hps:=by decide
 hnd:=by decide
 hkd:=by decide
 hco:=by rfl
 hk:=by rfl
 hnf:=by decide
theorem Js(w:NQ):y5 (KW w) (.st 296):=by show keepIn _ _=true;kernel_rfl
theorem Jt(w:NQ):z6 (KW w) 322 (kR w.params) (o9 (kR w.params)) (e9 (m8 9)) (i7 (m8 9)) ["old","new"]where
 hsc:=by rfl
 hK:=by kernel_rfl
 hd:=by rfl
 hb:=by rfl
 hg:=by rfl
 hbl:=by rfl
 hcl:=by rfl
 hcd:=⟨321,qR w.params,_,_,by rfl,by kernel_rfl,by rfl,by rfl⟩
 hbd:=λe b=>by refine z9 (aa5 b) λc d a=>?_;subst a;rfl
 hps:=by decide
 hnd:=by decide
 hkd:=by decide
 hco:=by rfl
 hk:=by rfl
 hnf:=by decide
theorem Ju(w:NQ):y5 (KW w) (.st 322):=by show keepIn _ _=true;kernel_rfl
theorem Jv(w:NQ):z6 (KW w) 329 (kT w.params) (o9 (kT w.params)) (e9 (m8 10)) (i7 (m8 10)) ["state","lists"]where
 hsc:=by rfl
 hK:=by kernel_rfl
 hd:=by rfl
 hb:=by rfl
 hg:=by rfl
 hbl:=by rfl
 hcl:=by rfl
 hcd:=⟨328,qU w.params,_,_,by rfl,by kernel_rfl,by rfl,by rfl⟩
 hbd:=λe b=>by refine z9 (aa5 b) λc d a=>?_;subst a;rfl
 hps:=by decide
 hnd:=by decide
 hkd:=by decide
 hco:=by rfl
 hk:=by rfl
 hnf:=by decide
theorem Jw(w:NQ):y5 (KW w) (.st 329):=by show keepIn _ _=true;kernel_rfl
theorem Jx(w:NQ):z6 (KW w) 336 (nB w.params) (o9 (nB w.params)) (e9 (m8 11)) (i7 (m8 11)) ["reader"]where
 hsc:=by rfl
 hK:=by kernel_rfl
 hd:=by rfl
 hb:=by rfl
 hg:=by rfl
 hbl:=by rfl
 hcl:=by rfl
 hcd:=⟨335,qW w.params,_,_,by rfl,by kernel_rfl,by rfl,by rfl⟩
 hbd:=λd b=>by refine b8 (W9 b) λc a=>?_;subst a;rfl
 hps:=by decide
 hnd:=by decide
 hkd:=by decide
 hco:=by rfl
 hk:=by rfl
 hnf:=by decide
theorem Jy(w:NQ):z6 (KW w) 341 (kW w.params) (o9 (kW w.params)) (e9 (m8 12)) (i7 (m8 12)) ["script"]where
 hsc:=by rfl
 hK:=by kernel_rfl
 hd:=by rfl
 hb:=by rfl
 hg:=by rfl
 hbl:=by rfl
 hcl:=by rfl
 hcd:=⟨340,qX w.params,_,_,by rfl,by kernel_rfl,by rfl,by rfl⟩
 hbd:=λd b=>by refine b8 (W9 b) λc a=>?_;subst a;rfl
 hps:=by decide
 hnd:=by decide
 hkd:=by decide
 hco:=by rfl
 hk:=by rfl
 hnf:=by decide
theorem vp(w:NQ):nsIn (KW w) bw "_calculate_ratio"=some (some (.ref 145)):=by kernel_rfl
theorem vq(w:NQ):nsIn (KW w) bw "SequenceMatcher"=some (some (.ref 242)):=by kernel_rfl
theorem vr(w:NQ):nsIn (KW w) bw "Match"=some (some (.ref 135)):=by kernel_rfl
theorem Jz(w:NQ):nsIn (KW w) bw "_law_plan"=some (some (.ref 322)):=by kernel_rfl
theorem JA(w:NQ):nsIn (KW w) bw "_law_due"=some (some (.ref 329)):=by kernel_rfl
theorem JB(w:NQ):nsIn (KW w) bw "_law_told"=some (some (.ref 336)):=by kernel_rfl
theorem JC(w:NQ):nsIn (KW w) bw "Differ"=some (some (.ref 313)):=by kernel_rfl
theorem G4(w:NQ):nsIn (KW w) bw "len"=some none:=by kernel_rfl
theorem G5:bQ "len"=some (.builtin "len"):=by kernel_rfl
theorem cv(w:NQ):nsIn (KW w) bw "range"=some none:=by kernel_rfl
theorem cy:bQ "range"=some (.type "range"):=by kernel_rfl
theorem JD(w:NQ):nsIn (KW w) bw "enumerate"=some none:=by kernel_rfl
theorem JE:bQ "enumerate"=some (.type "enumerate"):=by kernel_rfl
theorem vt(w:NQ):nsIn (KW w) bw "set"=some none:=by kernel_rfl
theorem vu:bQ "set"=some (.type "set"):=by kernel_rfl
theorem JF(w:NQ):nsIn (KW w) bw "list"=some none:=by kernel_rfl
theorem JG:bQ "list"=some (.type "list"):=by kernel_rfl
theorem JH(w:NQ):nsIn (KW w) bw "map"=some none:=by kernel_rfl
theorem JI:bQ "map"=some (.type "map"):=by kernel_rfl
theorem JJ(w:NQ):nsIn (KW w) bw "min"=some none:=by kernel_rfl
theorem JK:bQ "min"=some (.builtin "min"):=by kernel_rfl
theorem vv(w:NQ):nsIn (KW w) bw "tuple"=some none:=by kernel_rfl
theorem vw:bQ "tuple"=some (.type "tuple"):=by kernel_rfl
theorem JL(w:NQ):nsIn (KW w) bw "next"=some none:=by kernel_rfl
theorem JM:bQ "next"=some (.builtin "next"):=by kernel_rfl
theorem vx(w:NQ):nsIn (KW w) bw "chr"=some none:=by kernel_rfl
theorem vy:bQ "chr"=some (.builtin "chr"):=by kernel_rfl
theorem JN(w:NQ):nsIn (KW w) bw "str"=some none:=by kernel_rfl
theorem JO:bQ "str"=some (.type "str"):=by kernel_rfl
theorem l6(w:NQ):W8 (KW w) 242 241 where
 cl:=⟨"SequenceMatcher","SequenceMatcher",[.type "object"],[],[],none,none,none,none,some (.str (aa "SequenceMatcher") 389),some (.str (aa "SequenceMatcher") 397),some (.bool true),by kernel_rfl⟩
 ns:=by kernel_rfl
 ga:=by kernel_rfl
 gh:=by kernel_rfl
 sa:=by kernel_rfl
theorem kC(w:NQ):y5 (KW w) (.st 242):=by show keepIn _ _=true;kernel_rfl
theorem pX(w:NQ):y5 (KW w) (.st 135):=by show keepIn _ _=true;kernel_rfl
theorem X5(w:NQ):cr (KW w) 135 134 82 where
 cl:=⟨"Match","Match",some (.ref 65),none,some (.str (aa "Match") 253),some (.str (aa "Match") 261),some (.bool false),by kernel_rfl⟩
 call:=by kernel_rfl
 typ:=by kernel_rfl
 rd:=by kernel_rfl
 nw:=⟨136,[],by kernel_rfl,by kernel_rfl⟩
 it:=by kernel_rfl
theorem vz:bA (.type "object") "isjunk"=pure none:=by rw[bd,aO];kernel_rfl
theorem vA(w:NQ):nsIn (KW w) 241 "isjunk"=some none:=by kernel_rfl
theorem cI:bA (.type "object") "a"=pure none:=by rw[bd,aO];kernel_rfl
theorem dx(w:NQ):nsIn (KW w) 241 "a"=some none:=by kernel_rfl
theorem X6:bA (.type "object") "b"=pure none:=by rw[bd,aO];kernel_rfl
theorem X7(w:NQ):nsIn (KW w) 241 "b"=some none:=by kernel_rfl
theorem vB:bA (.type "object") "autojunk"=pure none:=by rw[bd,aO];kernel_rfl
theorem vC(w:NQ):nsIn (KW w) 241 "autojunk"=some none:=by kernel_rfl
theorem jm:bA (.type "object") "matching_blocks"=pure none:=by rw[bd,aO];kernel_rfl
theorem jn(w:NQ):nsIn (KW w) 241 "matching_blocks"=some none:=by kernel_rfl
theorem as6:bA (.type "object") "opcodes"=pure none:=by rw[bd,aO];kernel_rfl
theorem as7(w:NQ):nsIn (KW w) 241 "opcodes"=some none:=by kernel_rfl
theorem aB1:bA (.type "object") "fullbcount"=pure none:=by rw[bd,aO];kernel_rfl
theorem aB2(w:NQ):nsIn (KW w) 241 "fullbcount"=some none:=by kernel_rfl
theorem vD:bA (.type "object") "b2j"=pure none:=by rw[bd,aO];kernel_rfl
theorem vE(w:NQ):nsIn (KW w) 241 "b2j"=some none:=by kernel_rfl
theorem bo5:bA (.type "object") "bjunk"=pure none:=by rw[bd,aO];kernel_rfl
theorem bo6(w:NQ):nsIn (KW w) 241 "bjunk"=some none:=by kernel_rfl
theorem JP:bA (.type "object") "bpopular"=pure none:=by rw[bd,aO];kernel_rfl
theorem JQ(w:NQ):nsIn (KW w) 241 "bpopular"=some none:=by kernel_rfl
theorem JR(w:NQ):nsIn (KW w) 241 "set_seqs"=some (some (.ref 167)):=by kernel_rfl
theorem JS:bA (.type "object") "set_seqs"=pure none:=by rw[bd,aO];kernel_rfl
theorem vF(w:NQ):nsIn (KW w) 241 "set_seq1"=some (some (.ref 174)):=by kernel_rfl
theorem vG:bA (.type "object") "set_seq1"=pure none:=by rw[bd,aO];kernel_rfl
theorem vH(w:NQ):nsIn (KW w) 241 "set_seq2"=some (some (.ref 181)):=by kernel_rfl
theorem vI:bA (.type "object") "set_seq2"=pure none:=by rw[bd,aO];kernel_rfl
theorem JT(w:NQ):nsIn (KW w) 241 "_SequenceMatcher__chain_b"=some (some (.ref 188)):=by kernel_rfl
theorem JU:bA (.type "object") "_SequenceMatcher__chain_b"=pure none:=by rw[bd,aO];kernel_rfl
theorem JV(w:NQ):nsIn (KW w) 241 "find_longest_match"=some (some (.ref 196)):=by kernel_rfl
theorem JW:bA (.type "object") "find_longest_match"=pure none:=by rw[bd,aO];kernel_rfl
theorem JX(w:NQ):nsIn (KW w) 241 "get_matching_blocks"=some (some (.ref 203)):=by kernel_rfl
theorem JY:bA (.type "object") "get_matching_blocks"=pure none:=by rw[bd,aO];kernel_rfl
theorem JZ(w:NQ):nsIn (KW w) 241 "get_opcodes"=some (some (.ref 210)):=by kernel_rfl
theorem Ka:bA (.type "object") "get_opcodes"=pure none:=by rw[bd,aO];kernel_rfl
theorem Kb(w:NQ):nsIn (KW w) 241 "quick_ratio"=some (some (.ref 232)):=by kernel_rfl
theorem Kc:bA (.type "object") "quick_ratio"=pure none:=by rw[bd,aO];kernel_rfl
theorem Kd(w:NQ):nsIn (KW w) 241 "real_quick_ratio"=some (some (.ref 239)):=by kernel_rfl
theorem Ke:bA (.type "object") "real_quick_ratio"=pure none:=by rw[bd,aO];kernel_rfl
section
set_option tactic.hygienic true
section
variable{w:NQ}{d:Nat}{H:List O}{Q:QV}
theorem pY{l:Nat}(S:d9 w F ρ H h gs)(i:ρ[l]?=some e)(f:H[l]?=some (.list xs)\/H[l]?=some (.arr xs)):∃c:List NS,h.IsList e.a c.toArray/\e5 ρ h xs c:=by
 rcases f with f|f;· refine w6 (S.ob l e _ i f) λ_ _ c a b=>?_;exact b7 c a.isList b
 · refine m6 (S.ob l e _ i f) λ_ _ g _=>?_; refine a9 g λc a b=>?_;clear g;exact b7 c a b
theorem Kf{e I l:Nat}(J:e≠I):Q8 w e [e,I] (cj xs) (λH=>H[l]?=some (.list xs)\/H[l]?=some (.arr xs)) (λi ρ h=>(∃g,IsEnum h e I (i:Nat) g)/\∃j,ρ[l]?=some j/\h.IsListIter I j.a i) (λv i ρ h=>(∃g a,v=.ref a/\IsEnumOut h e I (i:Nat) g a)/\∃j,ρ[l]?=some j/\h.IsListIter I j.a i) as1 where
 frame:=λi ρ h b2 Z D p _ k=>b8 D.1 λg a=>a9 D.2 λj n y=>a9 y λo b r=>⟨⟨g,k e (.head _) _ a⟩,j,x6 p n,o,k I (.tail _ (.head _)) _ b,r⟩
 live:=λi ρ h D b m=>by
  refine U0 D λa6 j n X=>?_;try clear D;refine a9 X λo c r=>?_;clear X; refine b8 a6 λg a=>?_
  rcases(az.mp m).imp_left aM with rfl|m;·exact⟨_,a⟩
  ·rw[af.mp m];exact⟨_,c⟩
 lot:=λA i ρ s tg v E' md ht=>by
  refine U0 md λb0 j u Y=>?_;try clear md;refine a9 Y λo c r=>?_;clear Y; refine t8 b0 λg a a5 n=>?_;subst a5
  cases tg;case Tuple es k p=>refine wpAny_letOwnedTupleGo_enum n λZ a0 M=>⟨⟨⟨g,a0⟩,j,u,o,M.extBut _ _ (bg J) c,r⟩,⟨rfl,ae _⟩,rfl,.of_ext (λb o m q=>M.extBut b o m q) (mu n),λb o m q=>M.extBut b o (λz=>m (by rw[z];exact .head _)) q⟩
  all_goals exact ht.elim
 item:=λA F ρ H s i y E' hh S hG D hy=>by
  refine a9 (ms hy) λx hx O=>?_;subst O;refine U0 D λO j u B=>?_;try clear D; refine b8 O λg n=>?_
  refine a9 (pY S u hG) λP U hv=>?_;refine a9 (hv.get hx) λv W a3=>?_;have hi:i<P.toArray.size:=by rw[aZ];exact(ab.mp W).1
  refine m9 (id B) λoi E G L=>?_;refine m9 (id U) λol f C a1=>?_;have N:j.a≠I:=λq=>by rw[q,E]at f;injection f with f;subst f;rw[G]at C;injection C with z;exact absurd z (by decide)
  have a4:e≠j.a:=λq=>by rw[<-q]at f;injection n.symm.trans f with f;subst f;injection C with z;exact absurd z (by decide)
  refine bZ (ae _) (wpAny_pyNext_enum_itemD (Draws.list (A:=A.in1) hh I j.a N P.toArray) n ⟨B,U⟩ hi J (λq=>by
   rcases az.mp q with q|q;·exact J q
   ·exact a4 (af.mp q)) λv' Z tk V ho R ht hz T a2=>?_);have ev:v'=v:=by
   have:P.toArray[i]?=some v:=by simpa using W
   rw[this]at V;exact(bV V).symm
  subst ev;have t:TK s.heap Z:=λb o m im=>T b o (λq=>mu n o (q▸m) im) (λq=>not_imm E G L (by decide) o (q▸m) im) m;refine⟨_,rfl,?_,rn (G7 _ _ rfl (by simpa using ho)) j u R.1,⟨rfl,a2⟩,rfl,t,λb o m q=>T b o (λz=>m (by rw[z];exact .head _)) (λz=>m (by rw[z];exact .tail _ (.head _))) q⟩;exact A9 _ ([_,_]) rfl (Z6 _ ht rfl _ rfl) (.cons (.intro _ rfl) (.cons (a3.mono (aA _) t) .nil))
 pl:=λh=>(h (.Slice none none none default)).elim
 done:=λA F ρ H s E' hh S hG D=>by
  refine U0 D λb1 j u B=>?_;try clear D; refine b8 b1 λg n=>?_
  refine a9 (pY S u hG) λP U hv=>?_;refine m9 (id B) λoi E G L=>?_;refine m9 (id U) λol f C a1=>?_;have N:j.a≠I:=λq=>by rw[q,E]at f;injection f with f;subst f;rw[G]at C;injection C with z;exact absurd z (by decide)
  have hn:(cj xs).length=P.toArray.size:=by rw[mr,aZ,hv.len]
  rw[hn]at n B;exact wpAny_pyNext_enum_endD (Draws.list (A:=A.in1) hh I j.a N P.toArray) n ⟨B,U⟩ λZ T=>⟨rfl,⟨rfl,ae _⟩,rfl,.of_ext (λb o m q=>T b o m q) (not_imm E G L (by decide)),λb o m q=>T b o (λz=>m (by rw[z];exact .tail _ (.head _))) q⟩
 self:=λA i ρ s K E' D hK=>b8 D.1 λ_ n=>wpAny_pyIter_enum n hK
end
section
variable{w:NQ}{fi:FI}{d:Nat}{m:b9}{H:List O}
theorem Kg{Q:QF}(hs:fi.sc.names.lookup sn=some .globalImplicit)(eS:nsIn (KW w) bw sn=some none)(X:bQ sn=some (.type "enumerate"))(Y:(sn==("__debug__":Str))=false)(nS:sn≠"__name__")(ht:as1 target)(h:WE w fi d m H b λv e=>∃l xs,v=.ref l/\(e[l]?=some (.list xs)\/e[l]?=some (.arr xs))/\∃J:Nat->b9->List O->Prop,J 0 m e/\(∀i m H,J i m H->H[l]?=some (.list xs)\/H[l]?=some (.arr xs))/\(∀i x m H,xs[i]?=some x->J i m H->WA w fi d m H target (.tup [.int i,x]) λm2 g=>WB w fi d m2 g body λf I q=>match f with|.next|.cont=>J (i+1) I q|.brk=>Q .next I q|.ret v=>Q (.ret v) I q)/\ ∀m H,J xs.length m H->Q .next m H)(hp:autoParam (J7 [b]) NY._auto_1)(he:autoParam (∀env,eval (.Call (.Name sn p1) [b] [] p2) env=do dD p2 (<-eval (.Name sn p1) env) [] (dW p2 (eF [b] env)) (backToKw p2 (eW [] env))) NY._auto_1)(hf:autoParam (∀env x,cJ (.Call (.Name sn p1) [b] [] p2) env x=pure x) FunClaim.holds_of_returning._auto_3):WS w fi d m H (.For target (.Call (.Name sn p1) [b] [] p2) body [] pos) Q:=λA env F ρ s R S=>by
  refine b8 S.b.g λmg T=>?_;refine a9 S.b.bi λmb G D=>?_;refine wpAny_For (Call_ (cF S.kd ((S.kind sn).trans hs) (cW (S.eg▸T) (iS S.b.k T eS) (S.eb▸G) ((D sn nS).trans X) ?_) Y) (he env)) (hf env);rw[hp env];refine fJ W6 (fG (fU (ar (h A env F ρ s R S) (λu a hx=>?_) λ_ _ x=>x)));obtain⟨o,e,v,N,t,r,n⟩:=hx;refine nG n λl xs L hG J z B hT hD=>?_;clear n;subst L;refine a9 r λZ j M=>?_;try clear r;subst M
  refine a9 (pY t.hs j hG) λvs hl hv=>?_;refine gD (call_enumerate_list hl λP V E a0 U=>wpAny_pyIter_enum V ?_);have hn:a.heap.objs.size+1≠a.heap.objs.size:=Nat.succ_ne_self _;have W:d6 w fi env m F o e P (gt a):=t.keeps U;have K:y4 fi env F o [a.heap.objs.size+1,a.heap.objs.size]:=t.fresh λb C=>by
   rcases(az.mp C).imp_left aM with rfl|C;·exact NV.get?_none_of_le (aN _)
   ·rw[af.mp C];exact z5 _
  refine oF R (N.trans (.same (s':={a with heap:=P}) (.of_keep U) rfl (ae _))) W (Kf hn) (rn ⟨_,V⟩ Z j E) K ht J z B (λi y m H hy p=>?_) λm H p=>hD m H (by rw[mr]at p;exact p);refine a9 (ms hy) λc hc k=>?_;subst k;exact hT i c m H hc p
end
end
noncomputable def l9(p:Nat×Nat):V:=.stk (S [p.1]) p.2
inductive s7(H:List O):V->List Nat->Prop|txt{xs:List Nat}{t:Nat}:s7 H (.stk (S xs) t) xs|lst{l:Nat}{L:List (Nat×Nat)}(h:H[l]?=some (.list (L.map l9))):s7 H (.ref l) (L.map (·.1))
def pZ(v:V)(c:Nat):Prop:=v=.str (S [c])\/∃t,v=.stk (S [c]) t
theorem s7.up(h:s7 H v xs)(k:∀(l:Nat)(ys:List V),H[l]?=some (.list ys)->H'[l]?=some (.list ys)):s7 H' v xs:=by cases h with|txt=>exact .txt|lst h=>exact .lst (k _ _ h)
theorem s7.nbi(h:s7 H v xs):∀n,v≠.bi n:=by cases h<;>exactλn q=>by injection q
section
variable{w:NQ}{d:Nat}{H:List O}
theorem Kh(h:j7 w d H f [.str x] Q):j7 w d H f [.stk x t] Q:=λA F i s u j b S e r=>by refine i8 r.cons_eq λv q a g c=>?_;subst a;exact h A F i s u _ b S e (.cons g.weak c)
theorem kD(h:s7 H v xs)(hz:xs.length<=aF)(q:Q (.int xs.length) H):j7 w d H (.bi "len") [v] Q:=by cases h with|txt=>exact Kh (oQ (by rw[R3];exact hz) (by rw[R3];exact q))|lst h=>exact R1 (.inl h) (by rw[ak]at hz⊢;exact hz) (by rw[ak]at q⊢;exact q)
theorem aB3(h:W2 w d VR H op (.str x) y Q):W2 w d VR H op (.stk x t) y Q:=λA F e s u v a S b c=>h A F e s u v a S b.weak c
theorem vJ(h:W2 w d VR H op y z λv H'=>v=.stk x t/\Q (.str x) H'):W2 w d VR H op y z Q:=λA F k s u v f S g i=>ar (h A F k s u v f S g i) (λ_ _=>HQ.el λb H' v j T r a=>d7 a λc e=>by subst c;exact⟨b,_,.str x,j,T,r.weak,e⟩) λ_ _ x=>x
theorem X8(h:s7 H v xs)(a:xs[k]?=some c)(hz:xs.length<=aF)(q:Q (.str (S [c])) H):W2 w d VR H L5 v (.int (k:Nat)) Q:=by cases h with|txt=>exact aB3 (EP a hz q)|@lst l L h=>rw[aV]at a;refine a9 (bE.mp a) λp b e=>?_;subst e;rw[ak]at hz;have f:k<L.length:=(ab.mp b).1;exact vJ (D6 (.inl h) (aW k) (Int.lt_of_lt_of_le (aQ.mpr (aB f hz)) (by decide)) (x:=l9 p) (by rw[aV];show L[k]?.map l9=_;rw[b];rfl) ⟨rfl,q⟩)
end
section
variable{w:NQ}{fi:FI}{d:Nat}{m:b9}{H:List O}
theorem Ki(b:fi.sc.names.lookup x=some .local)(e:r9 m x=some v)(f:pZ v c)(h:Q (.str (S [c])) H)(a:autoParam ((x==("__debug__":Str))=false) cU._auto_1):WE w fi d m H (.Name x pos) Q:=by
 rcases f with rfl|⟨t,rfl⟩;·exact a7 b e h a
 ·exact mw b e h a
theorem Kj(C:fi.sc.names.lookup sn=some .globalImplicit)(eS:nsIn (KW w) bw sn=some none)(q:bQ sn=some (.type "enumerate"))(r:(sn==("__debug__":Str))=false)(G:sn≠"__name__")(D:as1 target)(A:fi.sc.names.lookup bn=some .local)(E:r9 m bn=some v)(u:(bn==("__debug__":Str))=false)(M:s7 H v xs)(J:Nat->b9->List O->Prop)(g:J 0 m H)(k:∀i m H',J i m H'->∀(l:Nat)(ys:List V),H[l]?=some (.list ys)->H'[l]?=some (.list ys))(t:∀i c e m H,xs[i]?=some c->pZ e c->J i m H->WA w fi d m H target (.tup [.int i,e]) λK b=>WB w fi d K b body λf o j=>match f with|.next|.cont=>J (i+1) o j|.brk=>Q .next o j|.ret v=>Q (.ret v) o j)(s:∀m H,J xs.length m H->Q .next m H)(B:autoParam (J7 [Expr.Name bn p0]) NY._auto_1)(y:autoParam (∀env,eval (.Call (.Name sn p1) [.Name bn p0] [] p2) env=do dD p2 (<-eval (.Name sn p1) env) [] (dW p2 (eF [.Name bn p0] env)) (backToKw p2 (eW [] env))) NY._auto_1)(z:autoParam (∀env x,cJ (.Call (.Name sn p1) [.Name bn p0] [] p2) env x=pure x) FunClaim.holds_of_returning._auto_3):WS w fi d m H (.For target (.Call (.Name sn p1) [.Name bn p0] [] p2) body [] pos) Q:=by
 cases M with|txt=>
  refine Hq C eS q r G D (mw A E ⟨S xs,rfl,J,g,λi c m H' I a=>?_,λm H' a=>?_⟩ u) B y z;·exact t i c _ m H' (by simpa[S]using I) (.inl rfl) a
  ·have hz:(S xs).cps.size=xs.length:=rfl;rw[hz]at a;exact s m H' a|@lst l L h=>
  refine Kg C eS q r G D (a7 A E ⟨l,L.map l9,rfl,.inl h,J,g,λi m H' a=>.inl (k i m H' a _ _ h),λi x m H' F a=>?_,λm H' a=>?_⟩ u) B y z;·rw[aV]at F;refine a9 (bE.mp F) λp n e=>?_;subst e;exact t i p.1 _ m H' (by rw[aV,n];rfl) (.inr ⟨p.2,rfl⟩) a
  ·rw[ak]at a;exact s m H' (by rw[ak];exact a)
end
theorem Kk(h:Q (.sub 135 [x,y,z]) H):j7 w (d+1) H (.st 82) [.st 135,x,y,z] Q:=by
 refine O2 (IV w) (by rfl) (by rfl) ?_;have e:u7 (i7 (d0 3 4)) ["_cls","a","b","size"] [.st 135,x,y,z]=[nv "_cls" (.st 135),nv "a" x,nv "b" y,nv "size" z]:=by rfl
 rw[e];refine c9 (s4 (l4 (c9 (J9 (uU (pl:=λ_=>_) (K9 rfl (vv _) vw (j5 _ uV trivial (b6 (a7 rfl rfl (b6 (w0 (b6 (a7 rfl rfl (b6 (a7 rfl rfl (b6 (a7 rfl rfl (d8 ⟨by show 3<=aF;decide,d8 ?_⟩))))))))))))))))));exact uT (X5 w) (by show 3<=aF;decide) h
theorem Kl(h:Q (.sub 135 [x,y,z]) H):j7 w (d+2) H (.st 135) [x,y,z] Q:=HS (X5 w) (Kk ⟨⟨_,rfl⟩,h⟩)
noncomputable def F3(a b f g d c e h:V):List (Str×V):=[("isjunk",.none),("a",a),("b",b),("autojunk",.bool true),("matching_blocks",f),("opcodes",g),("fullbcount",d),("b2j",c),("bjunk",e),("bpopular",h)]
noncomputable def x7(b:List Nat)(p:Nat->Nat):List (Str×V):=b.zipIdx.map λx=>(S [x.1],.ref (p x.2))
structure w5(w:NQ)(H:List O)(mi:Nat)(a b:List Nat)(ta tb:V)(mb oc fc:V)(bj jk pp:Nat)(p:Nat->Nat):Prop where
 o:H[mi]?=some (.inst 242 (F3 ta tb mb oc fc (.ref bj) (.ref jk) (.ref pp)))
 d:H[bj]?=some (dO (strKind pP w) (x7 b p))
 l:∀j,j<b.length->H[p j]?=some (.list [.int (j:Nat)])
 s:H[jk]?=some (sO (strKind pP w) (λ_=>false) 0)
 sa:s7 H ta a
 sb:s7 H tb b
theorem jo:S [c]=S [e]↔c=e:=by rw[iZ];simp
theorem vK{p:Nat->Nat}:∀{b:List Nat}{n:Nat}{c:Nat},b.Nodup->A5 ((b.zipIdx n).map λx=>(S [x.1],V.ref (p x.2))) (S [c])=match b.findIdx? (·==c)with|some j=>some (.ref (p (n+j)))|none=>none:=by intro b;induction b with|nil=>exactλ_=>rfl|cons e b a=>
  intro n c f;rw[List.zipIdx_cons,bN];unfold A5;by_cases q:e=c;·subst q;rw[dH (by simp),List.findIdx?_cons];simp
  ·have d:=a (n:=n+1) (c:=c) (ck.mp f).2;unfold A5 at d;rw[dI (by simpa[jo]using q),d,List.findIdx?_cons,if_neg (by simpa using q)];cases b.findIdx? (·==c)with|none=>rfl|some j=>simp only[gL];rw[Nat.add_right_comm,Nat.add_assoc]
theorem Km{p:Nat->Nat}{b:List Nat}{j c:Nat}(f:b.Nodup)(h:b[j]?=some c):A5 (x7 b p) (S [c])=some (.ref (p j)):=by
 unfold x7;rw[vK f];have a:=(ab.mp h).1;have e:b.findIdx? (·==c)=some j:=by
  rw[List.findIdx?_eq_some_iff_getElem];refine b7 a (by rw[(ab.mp h).2];simp) λk d=>?_;have:b[k]?≠b[j]?:=λq=>by have:=(fh (by exact sw a d) f).mp q;exact AZ d this
  rw[aw (by exact sw a d),h]at this;simpa using this
 rw[e];show some (V.ref (p (0+j)))=_;rw[fQ]
theorem vL{p:Nat->Nat}{b:List Nat}{c:Nat}(d:b.Nodup)(h:c∉b):A5 (x7 b p) (S [c])=none:=by
 unfold x7;rw[vK d];have e:b.findIdx? (·==c)=none:=by rw[List.findIdx?_eq_none_iff];intro x a;simpa usingλq:x=c=>h (q▸a)
 rw[e]
section
variable{w:NQ}{d:Nat}{H:List O}
theorem mE(K:W8 (KW w) C N)(a:nsIn (KW w) N name=some none)(g:bA (.type "object") name=pure none)(j:H[i]?=some (.inst C fs))(k:fs.lookup name=some (.stk x t))(h:Q (.str x) H):W1 w d VR H (λu=>fH u name ex) (.ref i) Q:=λA F n s u f S l=>ar (A4 (Q:=λv c=>v=.stk x t/\c=H) K a g j k (λ_ q=>by injection q) ⟨rfl,rfl⟩ A F n s u f S l) (λ_ _ x=>x.ob λb c v m T r e=>by cases e.1;cases e.2;exact⟨b,_,.str _,m,T,r.weak,h⟩) λ_ _ x=>x
end
theorem as9(b:fi.sc.names.lookup x=some .local)(hy:fi.sc.names.lookup y=some .local)(hz:fi.sc.names.lookup z=some .local):∀u∈[x,y,z],N9 fi u:=λu a=>by
 rcases(az.mp a).imp_left aM with rfl|a;·exact .inl b
 · rcases(az.mp a).imp_left aM with rfl|a;·exact .inl hy
   ·rw[af.mp a];exact .inl hz
section
variable{w:NQ}{H:List O}{d mi:Nat}{a b:List Nat}{ta tb:V}{mb oc fc:V}{bj jk pp:Nat}{p:Nat->Nat}{alo ahi blo bhi:Nat}{Q:QV}
theorem Kn(w:NQ)(s:NR)(us:List NS)(B:Bs w s.heap)(e:us.length=5):BindsTo s (o9 (ai0 w.params)) ⟨us,[]⟩ ((["self","alo","ahi","blo","bhi"]:List Str).zip (us++[])):=by refine eZ (pe e) λf g h i j c=>?_;subst c;exact BindsTo.of_defaults (T:=189) (o:=aS8 w.params) (n:=0) (items:=#[.int 0 464,.none,.int 0 465,.none]) (by rfl) (B.k _ _ (by kernel_rfl)) (by rfl) (by rfl) (by rfl)
noncomputable abbrev jp(mi alo ahi blo bhi:Nat)(c e dv l x y z j2 h i f g j k:Option V):b9:=[nv "self" (.ref mi),nv "alo" (.int (alo:Nat)),nv "ahi" (.int (ahi:Nat)),nv "blo" (.int (blo:Nat)),nv "bhi" (.int (bhi:Nat)),("a",c),("b",e),("b2j",dv),("isbjunk",l),("besti",x),("bestj",y),("bestsize",z),("j2len",j2),("nothing",h),("i",i),("j2lenget",f),("newj2len",g),("j",j),("k",k)]
noncomputable abbrev rD(r:Option (Nat×Nat)):List (Int×V):=match r with|none=>[]|some (j,k)=>[((j:Int),.int (k:Nat))]
theorem Ko{r:Option (Nat×Nat)}{j:Nat}:(A5 (rD r) ((j:Int)-1)).getD (.int 0)=.int (C5 r j:Nat):=by cases r with|none=>rfl|some x=>
  obtain⟨c,k⟩:=x;rw[show C5 (some (c,k)) j=if c+1=j then k else 0 from rfl];unfold A5 rD;dsimp only;by_cases e:c+1=j;·rw[if_pos e,dH (by exact decide_eq_true (sE.mpr e))];rfl
  ·rw[if_neg e,dI (by exactλq=>e (sE.mp (of_decide_eq_true q)))];rfl
theorem w5.mono(c:w5 w H mi a b ta tb mb oc fc bj jk pp p)(h:H<+:H'):w5 w H' mi a b ta tb mb oc fc bj jk pp p:=by refine b8 h λL f=>?_;clear h;subst f;have k:∀{i:Nat}{o:O},H[i]?=some o->(H++L)[i]?=some o:=λe=>(aI (ab.mp e).1).trans e;exact⟨k c.o,k c.d,λj g=>k (c.l j g),k c.s,c.sa.up λ_ _ e=>k e,c.sb.up λ_ _ e=>k e⟩
theorem n7(h:H<+:H'){i:Nat}(e:H[i]?=some o):H'[i]?=some o:=by refine b8 h λL c=>?_;clear h;subst c;exact(aI (ab.mp e).1).trans e
theorem M7(h:H<+:H'):H<+:H'++[o]:=h.trans (aH _ _)
theorem S9(h:H<+:H')(e:H.length<=i):H<+:H'.set i o:=by refine b8 h λL c=>?_;clear h;subst c;rw[dP _ _ e];exact aH _ _
inductive FJ(w:NQ)(mi:Nat)(a b:List Nat)(ta tb:V)(alo ahi blo bhi bj sb no:Nat)(H:List O)(i:Nat):b9->List O->Prop|mk{H':List O}{bi bt bs:Nat}{x y z:Int}{nj iv jg jv kv:Option V}{dj:Nat}{r:Option (Nat×Nat)}(pre:H<+:H')(ex:x=(bi:Nat))(ey:y=(bt:Nat))(ez:z=(bs:Nat))(hd:H'[dj]?=some (dO (eC pP w) (rD r)))(F:G2 a b alo blo bhi i bi bt bs r):FJ w mi a b ta tb alo ahi blo bhi bj sb no H i (jp mi alo ahi blo bhi (some ta) (some tb) (some (.ref bj)) (some (.ref sb)) (some (.int x)) (some (.int y)) (some (.int z)) (some (.ref dj)) (some (.ref no)) iv jg nj jv kv) H'
inductive FT(w:NQ)(mi:Nat)(a b:List Nat)(ta tb:V)(alo ahi blo bhi bj sb no:Nat)(H:List O)(i:Nat):b9->List O->Prop|mk{H':List O}{bi bt bs:Nat}{x y z:Int}{j2 iv jg jv kv:Option V}{dj:Nat}{r:Option (Nat×Nat)}(pre:H<+:H')(ex:x=(bi:Nat))(ey:y=(bt:Nat))(ez:z=(bs:Nat))(hd:H'[dj]?=some (dO (eC pP w) (rD r)))(F:G2 a b alo blo bhi i bi bt bs r):FT w mi a b ta tb alo ahi blo bhi bj sb no H i (jp mi alo ahi blo bhi (some ta) (some tb) (some (.ref bj)) (some (.ref sb)) (some (.int x)) (some (.int y)) (some (.int z)) j2 (some (.ref no)) iv jg (some (.ref dj)) jv kv) H'
noncomputable abbrev js(w:NQ):FI:=⟨i7 (d0 5 6),true,(o9 (ai0 w.params)).code⟩
noncomputable def p8(s:NW):Expr×List NW×List NW:=by cases s with|For t _ b e _=>exact(t,b,e)|While _ b e _=>exact(.Name "" default,b,e)|If _ b e _=>exact(.Name "" default,b,e)|_=>exact(.Name "" default,[],[])
noncomputable def C7(s:NW):List NW:=(p8 s).2.1
noncomputable def r6(k:Nat)(l:List NW):NW:=l[k]?.getD (.Pass ⟨0,0,0,0⟩)
noncomputable def vM:List NW:=C7 (r6 7 (e9 (d0 5 6)))
theorem vN{f e i:Nat}(J:FT w mi a b ta tb alo ahi blo bhi bj f e H i m H'){Q:QF}(k:∀m H',FJ w mi a b ta tb alo ahi blo bhi bj f e H i m H'->Q .next m H'):WB w (js w) d m H' (vM.drop 3) Q:=by obtain⟨c,g,h,j,l,F⟩:=J;refine c9 (k7 (a7 rfl rfl (e6 (.inl rfl) (e7 ?_))));exact k _ _ (.mk c g h j l F)
theorem Kq(R:Rows a b)(t:w5 w H mi a b ta tb mb oc fc bj jk pp p)(W:I8 a b alo ahi blo bhi)(ha:a.length<=100)(hb:b.length<=100){K D i c:Nat}(I:H[D]?=some (.list []))(S:a[i]?=some c)(O:alo<=i)(J:FJ w mi a b ta tb alo ahi blo bhi bj K D H i m H'){Q:QF}(P:∀m H',FJ w mi a b ta tb alo ahi blo bhi bj K D H (i+1) m H'->Q .next m H'):WB w (js w) d (u9 m "i" (.int (i:Nat))) H' vM Q:=by
 obtain@⟨H',bi,bt,Y,x,y,z,a2,iv,a1,jv,kv,u,r,g,ex,ey,ez,T,F⟩:=J;subst ex ey ez;refine c9 (k7 (w1 (a7 rfl rfl (Hb T (e6 (.inl rfl) (c9 (k7 (ar7 (knd:=eC pP w) (e6 (.inl rfl) (c9 ?_))))))))));have q1:∃l,l=H'++[bO "dict.get" u]++[dO (eC pP w) (rD none)]:=⟨_,rfl⟩;refine b8 q1 λl v=>?_;clear q1;have h:H<+:l:=by rw[v];exact M7 (M7 g)
 have M:l[H'.length]?=some (bO "dict.get" u):=by rw[v];exact n7 (aH _ _) ao
 have A:l[(H'++[bO "dict.get" u]).length]?=some (dO (eC pP w) (rD none)):=by rw[v];exact ao
 have g3:=n7 (H':=l) (by rw[v];exact M7 (aH _ _)) T;have Z:H.length<=(H'++[bO "dict.get" u]).length:=(M7 g).length_le;rw[<-v];generalize(H'++[bO "dict.get" u]).length=L at A Z⊢;generalize H'.length=jg at M⊢;clear v T g;clear H';refine be (o6 (pl:=λ_=>_) (a7 rfl rfl (j5 _ (mj dN fv (n7 h t.d)) trivial (b6 (s5 (a7 rfl rfl (a7 rfl rfl (X8 (t.sa.up λ_ _ e=>n7 h e) S (ad ha (by decide)) (b6 (a7 rfl rfl (d8 (pC I7 (n7 h t.d) ?_))))))))))));by_cases hcb:c∈b
 · refine b8 (gu hcb) λj U=>?_;have E:MM a b i j:=b7 c S U;have s:=(ab.mp U).1;rw[Km R.nb U,Option.getD_some];refine Q3 _ _ (aG (.inl (n7 h (t.l j s)))) (λn m f=>n=0/\m=jp mi alo ahi blo bhi (some ta) (some tb) (some (.ref bj)) (some (.ref K)) (some (.int (bi:Nat))) (some (.int (bt:Nat))) (some (.int (Y:Nat))) (some (.ref u)) (some (.ref D)) (some (.int (i:Nat))) (some (.ref jg)) (some (.ref L)) jv kv/\f=l \/ n=1/\FT w mi a b ta tb alo ahi blo bhi bj K D H (i+1) m f) (.inl (i9 rfl rfl rfl)) ?_ ?_ ?_
   · rintro n m f(⟨_,rfl,rfl⟩|⟨_,g,_⟩);·exact .inl (n7 h (t.l j s))
     ·exact .inl (n7 g (t.l j s))
   · rintro n x m f C(⟨rfl,rfl,rfl⟩|⟨rfl,_⟩)
     · injection C with C;subst C;refine e6 (.inl rfl) (c9 (o5 (j6 (a7 rfl rfl (a7 rfl rfl (D4 (g9 ?_)))))));by_cases c1:j<blo;·refine s6 (decide_eq_true (aQ.mpr c1)) ?_;refine c9 (DY ?_);exact .inr ⟨rfl,.mk h rfl rfl rfl A (F.skip λj' B k _=>absurd (R.fn E B▸c1) (bl.mpr k))⟩
       refine n5 (λq=>c1 (aQ.mp (of_decide_eq_true q))) (e7 (c9 (o5 (j6 (a7 rfl rfl (a7 rfl rfl (oP (g9 ?_))))))));by_cases c2:bhi<=j;·refine s6 (decide_eq_true (Int.ofNat_le.mpr c2)) ?_;refine c9 (DW (c9 (k7 (a7 rfl rfl (e6 (.inl rfl) (e7 ?_))))));exact P _ _ (.mk h rfl rfl rfl A (F.skip λj' B _ k=>absurd (R.fn E B▸c2) (Nat.not_le.mpr k)))
       refine n5 (λq=>c2 (Int.ofNat_le.mp (of_decide_eq_true q))) (e7 (c9 (R5 (l0 (jl (a7 rfl rfl (b7 _ rfl (b6 (l0 (a7 rfl rfl (i6 (O3 (b6 (i6 (d8 ⟨u8 _ _ M,Hg bj2 M g3 ?_⟩)))))))))))))));rw[Ko];refine i6 (w7 (e6 (.inl rfl) (U5 (a7 rfl rfl (a7 rfl rfl (hW bj2 A (by show 0<=aF;decide) ?_))))));have N:(f.set L (dO (eC pP w) (K0 (rD none) (j:Int) (.int ((C5 r j:Nat)+1)))))[L]?=some (dO (eC pP w) (rD (some (j,C5 r j+1)))):=au (ab.mp A).1;have V:=S9 (o:=dO (eC pP w) (K0 (rD none) (j:Int) (.int ((C5 r j:Nat)+1)))) h Z;generalize f.set L _=H3 at N V⊢;refine c9 (o5 (j6 (a7 rfl rfl (a7 rfl rfl (W7 (g9 ?_))))));by_cases c3:Y<C5 r j+1;·refine s6 (decide_eq_true (aQ.mpr c3)) ?_;refine c9 (O0 (xs:=["besti","bestj","bestsize"]) (as9 (by rfl) (by rfl) (by rfl)) ?_ λa0 he=>by unfold bL ca cw;rw[he];rfl);refine w0 (b6 (l0 (l0 (a7 rfl rfl (a7 rfl rfl (O3 (i6 (w7 (b6 (l0 (l0 (a7 rfl rfl (a7 rfl rfl (O3 (i6 (w7 (b6 (a7 rfl rfl (d8 ⟨by show 3<=aF;decide,D8 rfl ⟨rfl,e7 (e7 ?_)⟩⟩)))))))))))))))))));have G:=F.better E O (bl.mp c1) (Nat.not_le.mp c2) c3;have r1:=F.run E O (bl.mp c1) (Nat.not_le.mp c2);exact .inr ⟨rfl,.mk V (sy (ad (Nat.le_add_left _ _) r1.2.1)) (sy (ad (Nat.le_add_left _ _) r1.2.2.1)) rfl N G⟩
       ·refine n5 (λq=>c3 (aQ.mp (of_decide_eq_true q))) ?_;refine e7 (e7 ?_);exact .inr ⟨rfl,.mk V rfl rfl rfl N (F.same E O (bl.mp c1) (Nat.not_le.mp c2) c3)⟩
     ·injection C
   · rintro m f(⟨q,_⟩|⟨_,J⟩);·injection q
     ·exact vN J P
 · rw[vL R.nb hcb];refine Q3 _ _ (aG (.inl (n7 h I))) (λn m f=>FT w mi a b ta tb alo ahi blo bhi bj K D H (i+1) m f) (.mk h rfl rfl rfl A (F.skip λj B _ _=>?_)) ?_ ?_ ?_;· refine a9 B λc' k h2=>?_;clear B;rw[S]at k;injection k with k;subst k;exact hcb (aY h2)
   · intro n m f;intro X;obtain⟨g,_⟩:=X;exact .inl (n7 g I)
   ·rintro n x m f C _;injection C
   ·rintro m f J;exact vN J P
end
section
variable{w:NQ}{H:List O}{d mi:Nat}{a b:List Nat}{ta tb:V}{mb oc fc:V}{bj jk pp:Nat}{p:Nat->Nat}{alo ahi blo bhi:Nat}{Q:QV}
inductive FW(mi:Nat)(a b:List Nat)(ta tb:V)(alo ahi blo bhi bj sb no:Nat)(H:List O):Nat->Nat->Nat->b9->List O->Prop|mk{H':List O}{i j k:Nat}{x y z:Int}{j2 nj iv jg jv kv:Option V}(pre:H<+:H')(ex:x=(i:Nat))(ey:y=(j:Nat))(ez:z=(k:Nat))(F:K3 a b alo ahi blo bhi i j k):FW mi a b ta tb alo ahi blo bhi bj sb no H i j k (jp mi alo ahi blo bhi (some ta) (some tb) (some (.ref bj)) (some (.ref sb)) (some (.int x)) (some (.int y)) (some (.int z)) j2 (some (.ref no)) iv jg nj jv kv) H'
theorem FW.el{i j k:Nat}{P:b9->Prop}(J:FW mi a b ta tb alo ahi blo bhi bj sb no H i j k m H')(g:∀{j2 l e f h kv},H<+:H'->K3 a b alo ahi blo bhi i j k->P (jp mi alo ahi blo bhi (some ta) (some tb) (some (.ref bj)) (some (.ref sb)) (some (.int (i:Nat))) (some (.int (j:Nat))) (some (.int (k:Nat))) j2 (some (.ref no)) e f l h kv)):P m:=by obtain⟨c,rfl,rfl,rfl,F⟩:=J;exact g c F
theorem vO(f:a[i]?=some c)(g:b[j]?=some e)(h:(S [c]==S [e])=true):MM a b i j:=by
 rw[oY]at h;have:c=e:=by simpa using h
 exact b7 c f (this▸g)
theorem mF(e:H<+:H')(f:H[sb]?=some (bO "set.__contains__" jk))(g:H[jk]?=some (sO (strKind pP w) (λ_=>false) 0))(h:Q (.bool false) H'):j7 w d H' (.ref sb) [.str (S [c])] Q:=HG (kv:=V.str) I7 HH (n7 e f) (n7 e g) h
section
variable(S0:w5 w H mi a b ta tb mb oc fc bj jk pp p)(W:I8 a b alo ahi blo bhi)(ha:a.length<=100)(hb:b.length<=100){sb no:Nat}(hsb:H[sb]?=some (bO "set.__contains__" jk)){i j k:Nat}{m:b9}{H':List O}(J:FW mi a b ta tb alo ahi blo bhi bj sb no H i j k m H'){Q:QF}(hQ:∀m H' i j k,FW mi a b ta tb alo ahi blo bhi bj sb no H i j k m H'->Q .next m H')
include S0 W ha hb hsb J hQ
theorem Kr:WS w (js w) d m H' (r6 8 (e9 (d0 5 6))) Q:=by
 refine jR (λn m H'=>∃j k,FW mi a b ta tb alo ahi blo bhi bj sb no H n j k m H') i (u8 j k J) ?_;intro n m H';intro f;refine z9 f λj k g=>?_;clear f;apply g.el;intro _ _ _ _ _ _ c F;clear g;refine C3 (j6 (a7 rfl rfl (a7 rfl rfl (W7 (g9 ?_)))));by_cases c1:alo<n;case neg=>exact I6 (λq=>c1 (aQ.mp (of_decide_eq_true q))) (hQ _ _ _ _ _ (.mk c rfl rfl rfl F))
 refine G8 (decide_eq_true (aQ.mpr c1)) (C3 (j6 (a7 rfl rfl (a7 rfl rfl (W7 (g9 ?_))))));by_cases c2:blo<j;case neg=>exact I6 (λq=>c2 (aQ.mp (of_decide_eq_true q))) (hQ _ _ _ _ _ (.mk c rfl rfl rfl F))
 refine G8 (decide_eq_true (aQ.mpr c2)) ?_;have l:n-1<a.length:=nZ (Nat.zero_lt_of_lt c1) F.a2 W.a2;have h:j-1<b.length:=nZ (Nat.zero_lt_of_lt c2) F.b2 W.b2;refine C3 (ph (I5 (jl (a7 rfl rfl (b7 _ rfl (b6 (s5 (a7 rfl rfl (l0 (a7 rfl rfl (i6 (O3 ?_))))))))))));rw[iK (by exact iJ c2)];refine X8 (S0.sb.up λ_ _ e=>n7 c e) (aw h) (ad hb (by decide)) ?_;refine⟨u8 _ _ (n7 c hsb),mF c hsb S0.s (g9 (G8 rfl (W5 (j6 (s5 (a7 rfl rfl (l0 (a7 rfl rfl (i6 (O3 ?_))))))))))⟩;rw[iK (by exact iJ c1)];refine X8 (S0.sa.up λ_ _ e=>n7 c e) (aw l) (ad ha (by decide)) ?_;refine s5 (a7 rfl rfl (l0 (a7 rfl rfl (i6 (O3 ?_)))));rw[iK (by exact iJ c2)];refine X8 (S0.sb.up λ_ _ e=>n7 c e) (aw h) (ad hb (by decide)) ?_;refine L4 (g9 ?_);split;·rename_i q;refine c9 (O0 (xs:=["besti","bestj","bestsize"]) (as9 (by rfl) (by rfl) (by rfl)) ?_ λo r=>by unfold bL ca cw;rw[r];rfl);refine w0 (b6 (l0 (a7 rfl rfl (i6 (O3 (b6 (l0 (a7 rfl rfl (i6 (O3 (b6 (l0 (a7 rfl rfl (i6 (w7 (d8 ⟨by show 3<=aF;decide,D8 rfl ⟨rfl,e7 ?_⟩⟩))))))))))))))));exact yq (n-1) (Nat.sub_lt (Nat.zero_lt_of_lt c1) Nat.one_pos) (j-1) (k+1) (.mk c (iK (by exact iJ c1)) (iK (by exact iJ c2)) rfl (F.left c1 c2 (vO (aw l) (aw h) q)))
 ·exact hQ _ _ _ _ _ (.mk c rfl rfl rfl F)
theorem Ks:WS w (js w) d m H' (r6 9 (e9 (d0 5 6))) Q:=by
 refine jR (λn m H'=>∃i j k,n=ahi-(i+k)/\FW mi a b ta tb alo ahi blo bhi bj sb no H i j k m H') (ahi-(i+k)) (gi i j k rfl J) ?_;intro n m H';intro f;refine E5 f λi j k o g=>?_;clear f;subst o;apply g.el;intro _ _ _ _ _ _ c F;clear g;refine C3 (j6 (l0 (a7 rfl rfl (a7 rfl rfl (w7 (a7 rfl rfl (D4 (g9 ?_))))))));by_cases c1:i+k<ahi;case neg=>exact I6 (λq=>c1 (aQ.mp (of_decide_eq_true q))) (hQ _ _ _ _ _ (.mk c rfl rfl rfl F))
 refine G8 (decide_eq_true (aQ.mpr c1)) (C3 (j6 (l0 (a7 rfl rfl (a7 rfl rfl (w7 (a7 rfl rfl (D4 (g9 ?_)))))))));by_cases c2:j+k<bhi;case neg=>exact I6 (λq=>c2 (aQ.mp (of_decide_eq_true q))) (hQ _ _ _ _ _ (.mk c rfl rfl rfl F))
 refine G8 (decide_eq_true (aQ.mpr c2)) ?_;have l:i+k<a.length:=aB c1 W.a2;have h:j+k<b.length:=aB c2 W.b2;refine C3 (ph (I5 (jl (a7 rfl rfl (b7 _ rfl (b6 (s5 (a7 rfl rfl (l0 (a7 rfl rfl (a7 rfl rfl (w7 (X8 (k:=j+k) (S0.sb.up λ_ _ e=>n7 c e) (aw h) (ad hb (by decide)) ?_)))))))))))));refine⟨u8 _ _ (n7 c hsb),mF c hsb S0.s (g9 (G8 rfl (W5 (j6 (s5 (a7 rfl rfl (l0 (a7 rfl rfl (a7 rfl rfl (w7 (X8 (k:=i+k) (S0.sa.up λ_ _ e=>n7 c e) (aw l) (ad ha (by decide)) ?_)))))))))))⟩;refine s5 (a7 rfl rfl (l0 (a7 rfl rfl (a7 rfl rfl (w7 (X8 (k:=j+k) (S0.sb.up λ_ _ e=>n7 c e) (aw h) (ad hb (by decide)) ?_))))));refine L4 (g9 ?_);split;·rename_i q;refine c9 (pi (.inl rfl) rfl (i6 (oN (e7 ?_))));exact yt _ (by show ahi-(i+(k+1))<ahi-(i+k);exact A1 c1) i j (k+1) rfl (.mk c rfl rfl rfl (F.right c1 c2 (vO (aw l) (aw h) q)))
 ·exact hQ _ _ _ _ _ (.mk c rfl rfl rfl F)
theorem Ku:WS w (js w) d m H' (r6 10 (e9 (d0 5 6))) Q:=by
 refine jR (λn m H'=>∃i j k,FW mi a b ta tb alo ahi blo bhi bj sb no H i j k m H') 0 (M0 i j k J) ?_;intro n m H';intro f;refine J0 f λn j k g=>?_;clear f;apply g.el;intro _ _ _ _ _ _ c F;clear g;refine C3 (j6 (a7 rfl rfl (a7 rfl rfl (W7 (g9 ?_)))));by_cases c1:alo<n;case neg=>exact I6 (λq=>c1 (aQ.mp (of_decide_eq_true q))) (hQ _ _ _ _ _ (.mk c rfl rfl rfl F))
 refine G8 (decide_eq_true (aQ.mpr c1)) (C3 (j6 (a7 rfl rfl (a7 rfl rfl (W7 (g9 ?_))))));by_cases c2:blo<j;case neg=>exact I6 (λq=>c2 (aQ.mp (of_decide_eq_true q))) (hQ _ _ _ _ _ (.mk c rfl rfl rfl F))
 refine G8 (decide_eq_true (aQ.mpr c2)) ?_;have h:j-1<b.length:=nZ (Nat.zero_lt_of_lt c2) F.b2 W.b2;refine C3 (I5 (jl (a7 rfl rfl (b7 _ rfl (b6 (s5 (a7 rfl rfl (l0 (a7 rfl rfl (i6 (O3 ?_)))))))))));rw[iK (by exact iJ c2)];refine X8 (S0.sb.up λ_ _ e=>n7 c e) (aw h) (ad hb (by decide)) ?_;refine⟨u8 _ _ (n7 c hsb),mF c hsb S0.s (g9 ?_)⟩;exact I6 (λq=>by injection q) (hQ _ _ _ _ _ (.mk c rfl rfl rfl F))
theorem Kv:WS w (js w) d m H' (r6 11 (e9 (d0 5 6))) Q:=by
 refine jR (λn m H'=>∃i j k,FW mi a b ta tb alo ahi blo bhi bj sb no H i j k m H') 0 (M0 i j k J) ?_;intro n m H';intro f;refine J0 f λi j k g=>?_;clear f;apply g.el;intro _ _ _ _ _ _ c F;clear g;refine C3 (j6 (l0 (a7 rfl rfl (a7 rfl rfl (w7 (a7 rfl rfl (D4 (g9 ?_))))))));by_cases c1:i+k<ahi;case neg=>exact I6 (λq=>c1 (aQ.mp (of_decide_eq_true q))) (hQ _ _ _ _ _ (.mk c rfl rfl rfl F))
 refine G8 (decide_eq_true (aQ.mpr c1)) (C3 (j6 (l0 (a7 rfl rfl (a7 rfl rfl (w7 (a7 rfl rfl (D4 (g9 ?_)))))))));by_cases c2:j+k<bhi;case neg=>exact I6 (λq=>c2 (aQ.mp (of_decide_eq_true q))) (hQ _ _ _ _ _ (.mk c rfl rfl rfl F))
 refine G8 (decide_eq_true (aQ.mpr c2)) ?_;have h:j+k<b.length:=aB c2 W.b2;refine C3 (I5 (jl (a7 rfl rfl (b7 _ rfl (b6 (s5 (a7 rfl rfl (l0 (a7 rfl rfl (a7 rfl rfl (w7 (X8 (k:=j+k) (S0.sb.up λ_ _ e=>n7 c e) (aw h) (ad hb (by decide)) ?_))))))))))));refine⟨u8 _ _ (n7 c hsb),mF c hsb S0.s (g9 ?_)⟩;exact I6 (λq=>by injection q) (hQ _ _ _ _ _ (.mk c rfl rfl rfl F))
end
theorem Kw(R:Rows a b)(c:w5 w H mi a b ta tb mb oc fc bj jk pp p)(W:I8 a b alo ahi blo bhi)(g:a.length<=100)(t:b.length<=100)(h:∀H' i j k,H<+:H'->K3 a b alo ahi blo bhi i j k->Q (.sub 135 [.int (i:Nat),.int (j:Nat),.int (k:Nat)]) H'):j7 w (d+3) H (.st 196) [.ref mi,.int (alo:Nat),.int (ahi:Nat),.int (blo:Nat),.int (bhi:Nat)] Q:=by
 refine jW (ds:=[]) (dv:=[]) (Je w) (by rfl) (by rfl) (λY h=>.nil) (λs U B P=>Kn w s U B P) ?_;have e:u7 (i7 (d0 5 6)) ["self","alo","ahi","blo","bhi"] ([.ref mi,.int (alo:Nat),.int (ahi:Nat),.int (blo:Nat),.int (bhi:Nat)]++[])=jp mi alo ahi blo bhi none none none none none none none none none none none none none none:=by rfl
 rw[e];refine c9 (s4 (l4 (c9 (k7 (w0 (b6 (w1 (a7 rfl rfl (A4 (l6 w) (dx w) cI c.o (by rfl) c.sa.nbi (b6 (w1 (a7 rfl rfl (A4 (l6 w) (X7 w) X6 c.o (by rfl) c.sb.nbi (b6 (w1 (a7 rfl rfl (A4 (l6 w) (vE w) vD c.o (by rfl) (by intro _ q;injection q) (b6 (w1 (w1 (a7 rfl rfl (A4 (l6 w) (bo6 w) bo5 c.o (by rfl) (by intro _ q;injection q) ?_))))))))))))))))))))));refine HE c.s (d8 ⟨by show 4<=aF;decide,R4 (D8 rfl (e6 (.inl (by rfl)) (e6 (.inl (by rfl)) (e6 (.inl (by rfl)) (e6 (.inl (by rfl)) (c9 (o5 (j6 (a7 rfl rfl (J6 (cg (b:=false) rfl (g9 (n5 (by decide) (e7 (c9 (o5 (j6 (a7 rfl rfl (J6 (cg (b:=false) rfl (g9 (n5 (by decide) (e7 (c9 (O0 (xs:=["besti","bestj","bestsize"]) (as9 (by rfl) (by rfl) (by rfl)) ?_ λG M=>by unfold bL ca cw;rw[M];rfl)))))))))))))))))))))))))⟩);refine w0 (b6 (a7 rfl rfl (b6 (a7 rfl rfl (b6 (i6 (d8 ⟨by show 3<=aF;decide,D8 rfl ⟨rfl,c9 (k7 (ar7 (knd:=eC pP w) (e6 (.inl rfl) (c9 (k7 (B5 (d8 ⟨by show 0<=aF;decide,e6 (.inl rfl) (c9 ?_)⟩)))))))⟩⟩)))))));obtain⟨f,n⟩:∃f,f=H++[bO "set.__contains__" jk]++[dO (eC pP w) (rD none)]++[O.list []]:=⟨_,rfl⟩;have E:H<+:f:=by exact n▸M7 (M7 (aH _ _))
 have r:f[H.length]?=some (bO "set.__contains__" jk):=by exact n▸n7 (M7 (aH _ _)) ao
 have A:f[(H++[bO "set.__contains__" jk]).length]?=some (dO (eC pP w) (rD none)):=by exact n▸n7 (aH _ _) ao
 have C:f[(H++[bO "set.__contains__" jk]++[dO (eC pP w) (rD none)]).length]?=some (.list []):=by exact n▸ao
 rw[<-n];generalize(H++[bO "set.__contains__" jk]++[dO (eC pP w) (rD none)]).length=S at C⊢;generalize(H++[bO "set.__contains__" jk]).length=j2 at A⊢;generalize H.length=T at r⊢;have o:=c.mono E;clear n;refine be (q6 (K9 rfl (cv _) cy ⟨trivial,b6 (a7 rfl rfl (b6 (a7 rfl rfl (d8 (iY (Q3 _ _ (lJ (sA (by have:=W.a1;have:=W.a2;exact A2 g (by assumption) this)) (sA (by have:=W.a2;exact Ba g this))) (λk m H'=>FJ w mi a b ta tb alo ahi blo bhi bj T S f (alo+k) m H') (.mk (aA _) rfl rfl rfl A (G2.start W.b1)) (λ_ _ _ _=>trivial) ?_ ?_))))))⟩));·intro k x m H' D J;rw[aV]at D;refine a9 (bE.mp D) λX y z=>?_;subst z;refine b8 (ab.mp y) λu v=>?_;rw[List.getElem_range]at v;subst v;rw[cL]at u;have N:alo+k<a.length:=aB (Nat.add_lt_of_lt_sub' (Int.toNat_sub ahi alo▸u)) W.a2;refine e6 (.inl (by rfl)) ?_;exact Kq R o W g t C (aw N) (aU _ _) J λm H' J=>J
 ·intro m H' J;rw[ak,cL,show alo+((ahi:Int)-(alo:Int)).toNat=ahi by rw[Int.toNat_sub];exact Nat.add_sub_of_le W.a1]at J;obtain⟨l,I,K,L,V,F⟩:=J;refine c9 (Kr o W g t r (.mk l I K L F.done) λm H' i j k J=>c9 (Ks o W g t r J λm H' i j k J=>c9 (Ku o W g t r J λm H' i j k J=>c9 (Kv o W g t r J λm H' i j k J=>?_))));apply J.el;intro _ _ _ _ _ _ l F;clear J;refine c9 (J9 (q6 (U4 rfl (vr _) ⟨by first|exact pX _|exact pW _|exact kC _,b6 (a7 rfl rfl (b6 (a7 rfl rfl (b6 (a7 rfl rfl (d8 ?_))))))⟩)));exact Kl (h _ _ _ _ (E.trans l) F)
end
theorem p9(w:NQ):fZ (KW w) (.ref 135) "__iter__"=some (some (.builtin "tuple.__iter__")):=by kernel_rfl
theorem sub_lt(w:NQ):fZ (KW w) (.ref 135) "__lt__"=some (some (.builtin "tuple.__lt__")):=by kernel_rfl
noncomputable abbrev tI(m:Bl):T3:=((m.1:Int),(m.2.1:Int),(m.2.2:Int))
noncomputable abbrev y8(m:Bl):V:=S6 135 (tI m)
noncomputable abbrev E1(m:Bl):V:=t3 (tI m)
noncomputable abbrev P3(x:Wd):V:=.tup [.int (x.1:Nat),.int (x.2.1:Nat),.int (x.2.2.1:Nat),.int (x.2.2.2:Nat)]
noncomputable abbrev jt(g:Nat)(la lb qu ml alo a blo b i j k x c j1 e h d j2 f:Option V):b9:=[nv "self" (.ref g),("la",la),("lb",lb),("queue",qu),("matching_blocks",ml),("alo",alo),("ahi",a),("blo",blo),("bhi",b),("i",i),("j",j),("k",k),("x",x),("i1",c),("j1",j1),("k1",e),("non_adjacent",h),("i2",d),("j2",j2),("k2",f)]
noncomputable abbrev ii(w:NQ):FI:=⟨i7 (d0 5 7),true,(o9 (ao1 w.params)).code⟩
section
variable{w:NQ}{H:List O}{d mi:Nat}{a b:List Nat}{ta tb:V}{mb oc fc:V}{bj jk pp:Nat}{p:Nat->Nat}{qu ml:Nat}
inductive GJ(mi:Nat)(a b:List Nat)(qu ml:Nat)(H:List O):Nat->b9->List O->Prop|mk{H':List O}{q:List Wd}{f:List Bl}{alo ahi blo bhi i j k x:Option V}(pre:H<+:H')(hq:H'[qu]?=some (.list (q.map P3)))(hf:H'[ml]?=some (.list (f.map y8)))(Z:P2 a b q f)(le:f.length+C6 q<=51):GJ mi a b qu ml H (C6 q) (jt mi (some (.int (a.length:Nat))) (some (.int (b.length:Nat))) (some (.ref qu)) (some (.ref ml)) alo ahi blo bhi i j k x none none none none none none none) H'
theorem qa(q:List Wd):q.length<=C6 q:=by unfold C6;induction q with|nil=>exact ae _|cons x q c=>rw[bN,List.sum_cons,eK];exact Bb c
theorem B7(c:i≠j)(h:H[j]?=some o):(H.set i o')[j]?=some o:=(ag c).trans h
theorem u5(h:H[i]?=some o):(H.set i o')[i]?=some o':=au (ab.mp h).1
noncomputable def vP:List NW:=C7 (r6 2 (C7 (r6 5 (e9 (d0 5 7)))))
section
variable{alo ahi blo bhi i j k:Nat}{x:V}{q:List Wd}{f:List Bl}{H':List O}{la lb:V}
noncomputable abbrev mG(mi:Nat)(la lb:V)(qu ml alo ahi blo bhi i j k:Nat)(x:V):b9:=jt mi (some la) (some lb) (some (.ref qu)) (some (.ref ml)) (some (.int (alo:Nat))) (some (.int (ahi:Nat))) (some (.int (blo:Nat))) (some (.int (bhi:Nat))) (some (.int (i:Nat))) (some (.int (j:Nat))) (some (.int (k:Nat))) (some x) none none none none none none none
theorem Kx(m:H.length<=qu)(l:qu≠ml)(c:H<+:H')(e:H'[qu]?=some (.list (q.map P3)))(h:H'[ml]?=some (.list (f.map y8)))(hz:q.length<=60)(g:∀H',H<+:H'->H'[qu]?=some (.list ((q++G3 alo blo i j).map P3))->H'[ml]?=some (.list (f.map y8))->Q .next (mG mi la lb qu ml alo ahi blo bhi i j k x) H'):WS w (ii w) (d+3) (mG mi la lb qu ml alo ahi blo bhi i j k x) H' (r6 1 vP) Q:=by
 refine o5 (C3 (j6 (a7 rfl rfl (a7 rfl rfl (D4 (g9 ?_))))));by_cases c1:alo<i;case neg=>refine I6 (λq=>c1 (aQ.mp (of_decide_eq_true q))) (n5 (by decide) (e7 (g _ c ?_ h)));unfold G3;rw[if_neg λz=>c1 z.1,bG];exact e
 refine G8 (decide_eq_true (aQ.mpr c1)) (W5 (j6 (a7 rfl rfl (a7 rfl rfl (D4 (g9 ?_))))));by_cases c2:blo<j;case neg=>refine n5 (λq=>c2 (aQ.mp (of_decide_eq_true q))) (e7 (g _ c ?_ h));unfold G3;rw[if_neg λz=>c2 z.2,bG];exact e
 refine s6 (decide_eq_true (aQ.mpr c2)) (c9 (s4 (o6 (pl:=λ_=>_) (a7 rfl rfl (j5 _ (O5 e) trivial (b6 (w0 (b6 (a7 rfl rfl (b6 (a7 rfl rfl (b6 (a7 rfl rfl (b6 (a7 rfl rfl (d8 ⟨by show 4<=aF;decide,d8 (O4 e (by rw[ak];exact ad hz (by decide)) (e7 (g _ (S9 c m) ?_ (B7 l h))))⟩))))))))))))))));unfold G3;rw[if_pos ⟨c1,c2⟩,bm];exact u5 e
theorem Ky(m:H.length<=qu)(l:qu≠ml)(c:H<+:H')(e:H'[qu]?=some (.list (q.map P3)))(h:H'[ml]?=some (.list (f.map y8)))(hz:q.length<=60)(g:∀H',H<+:H'->H'[qu]?=some (.list ((q++K4 ahi bhi (i+k) (j+k)).map P3))->H'[ml]?=some (.list (f.map y8))->Q .next (mG mi la lb qu ml alo ahi blo bhi i j k x) H'):WS w (ii w) (d+3) (mG mi la lb qu ml alo ahi blo bhi i j k x) H' (r6 2 vP) Q:=by
 refine o5 (C3 (j6 (l0 (a7 rfl rfl (a7 rfl rfl (w7 (a7 rfl rfl (D4 (g9 ?_)))))))));by_cases c1:i+k<ahi;case neg=>refine I6 (λq=>c1 (aQ.mp (of_decide_eq_true q))) (n5 (by decide) (e7 (g _ c ?_ h)));unfold K4;rw[if_neg λz=>c1 z.1,bG];exact e
 refine G8 (decide_eq_true (aQ.mpr c1)) (W5 (j6 (l0 (a7 rfl rfl (a7 rfl rfl (w7 (a7 rfl rfl (D4 (g9 ?_)))))))));by_cases c2:j+k<bhi;case neg=>refine n5 (λq=>c2 (aQ.mp (of_decide_eq_true q))) (e7 (g _ c ?_ h));unfold K4;rw[if_neg λz=>c2 z.2,bG];exact e
 refine s6 (decide_eq_true (aQ.mpr c2)) (c9 (s4 (o6 (pl:=λ_=>_) (a7 rfl rfl (j5 _ (O5 e) trivial (b6 (w0 (b6 (l0 (a7 rfl rfl (a7 rfl rfl (w7 (b6 (a7 rfl rfl (b6 (l0 (a7 rfl rfl (a7 rfl rfl (w7 (b6 (a7 rfl rfl (d8 ⟨by show 4<=aF;decide,d8 (O4 e (by rw[ak];exact ad hz (by decide)) (e7 (g _ (S9 c m) ?_ (B7 l h))))⟩))))))))))))))))))))));unfold K4;rw[if_pos ⟨c1,c2⟩,bm];exact u5 e
end
theorem Kz(R:Rows a b)(S0:w5 w H mi a b ta tb mb oc fc bj jk pp p)(ha:a.length<=25)(hb:b.length<=25)(y:H.length<=qu)(X:H.length<=ml)(s:qu≠ml)(J:GJ mi a b qu ml H n m H')(hQ:∀m H',GJ mi a b qu ml H 0 m H'->Q .next m H'):WS w (ii w) (d+3) m H' (r6 5 (e9 (d0 5 7))) Q:=by
 refine jR (λn m H'=>GJ mi a b qu ml H n m H') n J ?_;rintro n m H'@⟨H',q,f,alo,a1,blo,a2,i,j,k,x,C,t,P,Z,B⟩;refine I5 (a7 rfl rfl (ED (.inl t) (by rw[ak];exact ad (ad (qa q) (ad (Nat.le_add_left _ _) B)) (by decide)) ?_));rcases List.eq_nil_or_concat q with rfl|⟨q,w',rfl⟩;·exact hQ _ _ (.mk C t P Z B)
 rw[List.concat_eq_append]at t Z B⊢;rw[if_pos (by simp)];obtain⟨c,g,e,h⟩:=w';rw[bm]at t;have hz:q.length<=51:=ad (ad (Nat.le_of_lt (Nat.lt_of_le_of_lt (qa q) pV)) (Nat.le_add_left _ _)) B;refine c9 (k7 (o6 (pl:=λ_=>_) (a7 rfl rfl (j5 _ (lX PySem.F.slot_list_pop PySem.F.type_list_pop t) trivial (d8 (vb t (by rw[ak];exact Nat.lt_of_le_of_lt hz (by decide)) (R4 (D8 rfl (e6 (.inl (by rfl)) (e6 (.inl (by rfl)) (e6 (.inl (by rfl)) (e6 (.inl (by rfl)) ?_))))))))))));have l:=S9 (o:=.list (q.map P3)) C y;have I:=u5 (o':=.list (q.map P3)) t;have E:=B7 (o':=.list (q.map P3)) s P;generalize H'.set qu (.list (q.map P3))=H1 at l I E⊢;clear t P C;have W:I8 a b c g e h:=Z.w _ (bD _ (.head _));have S1:=S0.mono l;refine c9 (R5 (o6 (pl:=λ_=>_) (a7 rfl rfl (j5 _ (J8 (l6 w) (JV w) (by kernel_rfl:(KW w).lookup 196=some (ai0 w.params)) rfl JW S1.o (by rfl)) (Jf w) ?_))));refine b6 (a7 rfl rfl (b6 (a7 rfl rfl (b6 (a7 rfl rfl (b6 (a7 rfl rfl (d8 (Kw R S1 W (ad ha (by decide)) (ad hb (by decide)) λH2 z A D p2 F=>?_)))))))));have u:=l.trans p2;have K:=n7 p2 I;have r:=n7 p2 E;refine R4 (pQ (X5 w) (p9 w) rfl (e6 (.inl (by rfl)) (e6 (.inl (by rfl)) (e6 (.inl (by rfl)) (e6 (.inl (by rfl)) (c9 (o5 (I5 (a7 rfl rfl (jZ ?_))))))))));by_cases hk:D=0;·refine n5 (by rw[hk];decide) ?_;refine e7 (e7 ?_);subst hk;have O:=Z.none F;exact b7 (C6 q) pV (.mk u K r O (by have:=pV (q:=q) (w:=(c,g,e,h));exact Bc B this))
 refine s6 (by simp[hk]) ?_;have O:=Z.some R F hk;have lt:_<C6 (q++[(c,g,e,h)]):=IO (q:=q) F hk;have U:f.length<=51:=by exact Bd B
 refine c9 (s4 (o6 (pl:=λ_=>_) (a7 rfl rfl (j5 _ (O5 r) trivial (b6 (a7 rfl rfl (d8 (O4 r (by rw[ak];exact ad U (by decide)) ?_))))))));have v:=S9 (o:=.list (f.map y8++[y8 (z,A,D)])) u X;have G:(H2.set ml (.list (f.map y8++[y8 (z,A,D)])))[ml]?=some (.list ((f++[(z,A,D)]).map y8)):=by rw[bm];exact u5 r
 have L:=B7 (o':=.list (f.map y8++[y8 (z,A,D)])) s.symm K;generalize H2.set ml (.list (f.map y8++[y8 (z,A,D)]))=H3 at v G L⊢;refine c9 ?_;have V:(q++G3 c e z A).length<=60:=by
  rw[aK];have:(G3 c e z A).length<=1:=by unfold G3;split<;>simp
  exact Be hz this
 refine Kx y s v L G (by exact Bf hz) λH4 M Y S=>c9 (Ky y s M Y S V λH5 N a0 T=>e7 (e7 ?_));exact b7 _ lt (.mk N a0 T O (by rw[aK];rw[Nat.add_right_comm];exact ad (Nat.add_lt_add_left lt _) B))
end
def M8(N:List Bl)(n:Nat):Prop:=N.length<=n/\∀m∈N,m.2.2≠0
theorem M8.mono(h:M8 N n)(e:n<=n'):M8 N n':=⟨ad h.1 e,h.2⟩
theorem M8.push(h:M8 N n)(c:z≠0):M8 (N++[(x,y,z)]) (n+1):=⟨by rw[aK];exact bo h.1,λm a=>by
 rcases aX.mp a with q|q;·exact h.2 m q
 ·rw[af.mp q];exact c⟩
def V1(a b:List Nat)(c:List Bl):Prop:=c.length<=53/\(∀m∈c,m.2.2=0->m.1=a.length/\m.2.1=b.length)/\(a.length,b.length,0)∈c
theorem M8.ends(h:M8 N 52):V1 a b (N++[(a.length,b.length,0)]):=⟨by rw[aK];exact bo h.1,λm c q=>by
 rcases aX.mp c with e|e;·exact absurd q (h.2 m e)
 ·rw[af.mp e];exact⟨rfl,rfl⟩,bD _ (.head _)⟩
section
variable{w:NQ}{H:List O}{d mi:Nat}{a b:List Nat}{ta tb:V}{mb oc fc:V}{bj jk pp:Nat}{p:Nat->Nat}{qu ml na:Nat}
inductive MJ(mi:Nat)(a b:List Nat)(qu ml na:Nat)(H:List O)(g:List Bl):Nat->b9->List O->Prop|mk{H':List O}{n:Nat}{N:List Bl}{m:Bl}{x y z:Int}{alo ahi blo bhi i j k x' i2 j2 k2:Option V}(pre:H<+:H')(hn:H'[na]?=some (.list (N.map E1)))(hf:H'[ml]?=some (.list (g.map y8)))(ex:x=(m.1:Nat))(ey:y=(m.2.1:Nat))(ez:z=(m.2.2:Nat))(C:y7 a b 0 0 (N++m::g.drop n))(le:M8 N n):MJ mi a b qu ml na H g n (jt mi (some (.int (a.length:Nat))) (some (.int (b.length:Nat))) (some (.ref qu)) (some (.ref ml)) alo ahi blo bhi i j k x' (some (.int x)) (some (.int y)) (some (.int z)) (some (.ref na)) i2 j2 k2) H'
noncomputable def vQ:List NW:=C7 (r6 9 (e9 (d0 5 7)))
noncomputable def vS(s:NW):List NW:=(p8 s).2.2
noncomputable def vT:List NW:=vS (r6 0 vQ)
noncomputable abbrev vU(mi:Nat)(a b:List Nat)(qu ml na:Nat)(alo c blo e i j k x':Option V)(m q:Bl):b9:=jt mi (some (.int (a.length:Nat))) (some (.int (b.length:Nat))) (some (.ref qu)) (some (.ref ml)) alo c blo e i j k x' (some (.int (m.1:Nat))) (some (.int (m.2.1:Nat))) (some (.int (m.2.2:Nat))) (some (.ref na)) (some (.int (q.1:Nat))) (some (.int (q.2.1:Nat))) (some (.int (q.2.2:Nat)))
theorem vV{g:List Bl}{n:Nat}{q m:Bl}{N:List Bl}{alo h blo l i j k x':Option V}(u:n<51)(v:H.length<=na)(A:na≠ml)(e:H<+:H')(f:H'[na]?=some (.list (N.map E1)))(t:H'[ml]?=some (.list (g.map y8)))(C:y7 a b 0 0 (N++m::q::g.drop (n+1)))(r:M8 N n){Q:QF}(E:∀m H',MJ mi a b qu ml na H g (n+1) m H'->Q .next m H'):WB w (ii w) (d+3) (vU mi a b qu ml na alo h blo l i j k x' m q) H' vT Q:=by
 obtain⟨x,y,z⟩:=m;have B:=r.1;have o:∀(s:List Bl)(H':List O),H<+:H'->H'[na]?=some (.list (s.map E1))->H'[ml]?=some (.list (g.map y8))->y7 a b 0 0 (s++q::g.drop (n+1))->M8 s (n+1)->WB w (ii w) (d+3) (vU mi a b qu ml na alo h blo l i j k x' (x,y,z) q) H' (vT.drop 1) Q:=λs H' e f t C r=>by refine c9 (O0 (xs:=["i1","j1","k1"]) (as9 (by rfl) (by rfl) (by rfl)) ?_ λD F=>by unfold bL ca cw;rw[F];rfl);refine w0 (b6 (a7 rfl rfl (b6 (a7 rfl rfl (b6 (a7 rfl rfl (d8 ⟨by show 3<=aF;decide,D8 rfl ⟨rfl,e7 ?_⟩⟩)))))));exact E _ _ (.mk e f t rfl rfl rfl C r)
 refine c9 (o5 (I5 (a7 rfl rfl (jZ ?_))));by_cases c:z=0;·refine n5 (by simp[c]) ?_;subst c;exact e7 (o N H' e f t (vk C) (r.mono (aN n)))
 ·refine s6 (by simp[c]) ?_;refine c9 (s4 (o6 (pl:=λ_=>_) (a7 rfl rfl (j5 _ (O5 f) trivial (b6 (w0 (b6 (a7 rfl rfl (b6 (a7 rfl rfl (b6 (a7 rfl rfl (d8 ⟨by show 3<=aF;decide,d8 (O4 f (by rw[ak];exact ad (show N.length<=51 by exact Bg u B) (by decide)) (e7 (o (N++[(x,y,z)]) _ (S9 e v) ?_ (B7 A t) (by rw[bz];exact C) (r.push c))))⟩)))))))))))));rw[bm];exact u5 f
theorem KA{g:List Bl}{n:Nat}{q:Bl}{m:b9}(u:g[n]?=some q)(f:g.length<=51)(h:H.length<=na)(l:na≠ml)(J:MJ mi a b qu ml na H g n m H'){Q:QF}(o:∀m H',MJ mi a b qu ml na H g (n+1) m H'->Q .next m H'):WB w (ii w) (d+3) (u9 (u9 (u9 m "i2" (.int (q.1:Nat))) "j2" (.int (q.2.1:Nat))) "k2" (.int (q.2.2:Nat))) H' vQ Q:=by
 obtain@⟨H',n,N,⟨x,y,z⟩,O,P,R,alo,D,blo,E,i,j,k,x',L,j2,M,e,s,r,G,I,K,C,t⟩:=J;subst G I K;obtain⟨v,A,B⟩:=q;dsimp only at C⊢;have c:=(ab.mp u).1;have F:g.drop n=(v,A,B)::g.drop (n+1):=by rw[dZ c,(ab.mp u).2]
 rw[F]at C;refine c9 (o5 (C3 (j6 (l0 (a7 rfl rfl (a7 rfl rfl (w7 (a7 rfl rfl (jY (g9 ?_))))))))));by_cases c1:x+z=v;case neg=>refine I6 (λq=>c1 (Int.ofNat_inj.mp (by simpa using q))) (n5 (by decide) ?_);exact vV (by exact sx f c) h l e s r C t λm H' J=>e7 (o m H' J)
 refine G8 (decide_eq_true (sD c1)) (W5 (j6 (l0 (a7 rfl rfl (a7 rfl rfl (w7 (a7 rfl rfl (jY (g9 ?_)))))))));by_cases c2:y+z=A;case neg=>refine n5 (λq=>c2 (Int.ofNat_inj.mp (by simpa using q))) ?_;exact vV (by exact sx f c) h l e s r C t λm H' J=>e7 (o m H' J)
 refine s6 (decide_eq_true (sD c2)) ?_;subst c1 c2;refine c9 (pi (.inl rfl) rfl (a7 rfl rfl (oN (e7 (e7 ?_)))));exact o _ _ (.mk (m:=(x,y,z+B)) e s r rfl rfl rfl (IR C) (t.mono (aN n)))
end
theorem KB(w:NQ):fZ (KW w) (.ref 135) "__len__"=some (some (.builtin "tuple.__len__")):=by kernel_rfl
theorem KC(w:NQ):findCls (KW w) (.ref 135) (.type "type") "_make"=some (.get (.builtin "classmethod.__get__") (.ref 91) .none (.ref 135)):=by kernel_rfl
theorem KD(w:NQ):recIn (KW w) 91 "classmethod"=some [.ref 89,.bool false]:=by kernel_rfl
theorem KG:kA w (d+1) H (.st 89) [.st 135,E1 m] λy a=>y=y8 m/\a=H:=by
 refine Ij (IW w) (by rfl) (by rfl) ?_;have e:u7 (i7 (d0 3 5)) ["cls","iterable"] [.st 135,E1 m]=[nv "cls" (.st 135),nv "iterable" (E1 m),nn "result"]:=by rfl
 rw[e];refine c9 (s4 (l4 (c9 (k7 (uU (pl:=λ_=>_) (K9 rfl (vv _) vw (j5 _ uV trivial (b6 (a7 rfl rfl (b6 (a7 rfl rfl (d8 (uT (X5 w) (by show 3<=aF;decide) (e6 (.inl rfl) (c9 (o5 (j6 (q6 (B3 rfl (G4 _) G5 ⟨trivial,b6 (a7 rfl rfl (d8 (II (X5 w) (KB w) (by show 3<=aF;decide) (i6 (Ex (g9 (n5 (by simp) (e7 (c9 (J9 (a7 rfl rfl ?_)))))))))))⟩)))))))))))))))))));exact⟨rfl,rfl⟩
def k9(H H':List O)(a:Nat):Prop:=∀i o,i≠a->H[i]?=some o->H'[i]?=some o
theorem k9.pre(h:H<+:H')(a:Nat):k9 H H' a:=λi o _ e=>n7 h e
theorem k9.set(h:k9 H H' mi)(o:O):k9 H (H'.set mi o) mi:=λi b a e=>B7 (bg a) (h i b a e)
theorem k9.trans(h:k9 H H' mi)(g:k9 H' H'' mi):k9 H H'' mi:=λi o a e=>g i o a (h i o a e)
def dy(H:List O)(a b:List Nat)(d:V):Prop:=d=.none\/∃x c,d=.ref x/\H[x]?=some (.list (c.map y8))/\y7 a b 0 0 c/\V1 a b c
theorem ag3(b:fi.sc.names.lookup x=some .local)(hy:fi.sc.names.lookup y=some .local):∀u∈[x,y],N9 fi u:=λu a=>by
 rcases(az.mp a).imp_left aM with rfl|a;·exact .inl b
 ·rw[af.mp a];exact .inl hy
section
variable{w:NQ}{H:List O}{d mi:Nat}{a b:List Nat}{ta tb:V}{mb oc fc:V}{bj jk pp:Nat}{p:Nat->Nat}{Q:QV}
theorem w5.put(c:w5 w H mi a b ta tb mb oc fc bj jk pp p)(h:k9 H H' mi)(k:H'[mi]?=some (.inst 242 (F3 ta tb mb' oc' fc' (.ref bj) (.ref jk) (.ref pp)))):w5 w H' mi a b ta tb mb' oc' fc' bj jk pp p:=by
 have f:∀{i:Nat}{o:O},H[i]?=some o->(∀C fs,o≠.inst C fs)->i≠mi:=λe l q=>by subst q;injection c.o.symm.trans e with e;subst e;exact l _ _ rfl
 exact⟨k,h _ _ (f c.d λ_ _ q=>by injection q) c.d,λj g=>h _ _ (f (c.l j g) λ_ _ q=>by injection q) (c.l j g),h _ _ (f c.s λ_ _ q=>by injection q) c.s,c.sa.up λ_ _ e=>h _ _ (f e λ_ _ q=>by injection q) e,c.sb.up λ_ _ e=>h _ _ (f e λ_ _ q=>by injection q) e⟩
theorem KH(h:ts.Perm (f.map tI)):∃g:List Bl,g.Perm f/\ts=g.map tI:=by
 refine b7 (ts.map λt=>(t.1.toNat,t.2.1.toNat,t.2.2.toNat)) ?_ ?_;·have:=h.map λt:T3=>(t.1.toNat,t.2.1.toNat,t.2.2.toNat);rw[cV]at this;rwa[show (λt:T3=>(t.1.toNat,t.2.1.toNat,t.2.2.toNat))∘tI=id from funext λm=>rfl,List.map_id]at this
 · rw[cV];have:∀t∈ts,(tI∘λt:T3=>(t.1.toNat,t.2.1.toNat,t.2.2.toNat)) t=t:=λt e=>by refine a9 (bp.mp (h.mem_iff.mp e)) λm _ c=>?_;subst c;rfl
   rw[List.map_congr_left this];exact(List.map_id _).symm
theorem qb{f:List Bl}{i:Nat}(h:i<f.length):F2 (f.map tI) i=tI f[i]:=by unfold F2;rw[dw,aV,aw h];rfl
theorem KI{q:List Wd}{f:List Bl}(Z:P2 a b q f){i j:Nat}(c:i<f.length)(g:j<f.length)(e:f[i].1=f[j].1):i=j:=by
 have l:=(eu.mp Z.ap).1;have h:∀i j(c:i<f.length)(g:j<f.length),i<j->f[i].1=f[j].1->False:=λi j c g k e=>by have:=fM.mp l i j (by simpa using c) (by simpa using g) k;rw[List.getElem_map,List.getElem_map]at this;have m:=(Z.d _ (gm c)).2;have n:=(Z.d _ (gm g)).2;exact this.elim (λq=>bl.mpr q (Nat.lt_of_le_of_lt (Nat.le_of_eq e.symm) (Nat.lt_add_of_pos_right (Nat.pos_of_ne_zero m)))) λq=>bl.mpr q (Nat.lt_of_le_of_lt (Nat.le_of_eq e) (Nat.lt_add_of_pos_right (Nat.pos_of_ne_zero n)))
 rcases Nat.lt_trichotomy i j with q|q|q;·exact(h i j c g q e).elim
 ·exact q
 ·exact(h j i g c q e.symm).elim
noncomputable def mH:V->V|.tup c=>.sub 135 c|v=>v
theorem vW(A:w5 w H mi a b ta tb mb oc fc bj jk pp p)(X:a.length<=25)(K:H<+:H')(B:H'[na]?=some (.list (N.map E1)))(D:H.length<=na)(T:M8 N 52)(C:y7 a b 0 0 N)(h:∀H' x s,mb=.ref x\/H.length<=x ->k9 H H' mi->w5 w H' mi a b ta tb (.ref x) oc fc bj jk pp p->H'[x]?=some (.list (s.map y8))->y7 a b 0 0 s->V1 a b s->Q (.ref x) H'):WB w (ii w) (d+4) (jt mi (some (.int (a.length:Nat))) (some (.int (b.length:Nat))) (some (.ref qu)) (some (.ref ml)) alo ahi blo bhi i j k x i1 j1 k1 (some (.ref na)) i2 j2 k2) H' ((e9 (d0 5 7)).drop 11) (hE Q):=by
 refine c9 (s4 (o6 (pl:=λ_=>_) (a7 rfl rfl ⟨_,O5 B,trivial,b6 (w0 (b6 (a7 rfl rfl (b6 (a7 rfl rfl (b6 (i6 (d8 ⟨by show 3<=aF;decide,d8 (O4 B (by rw[ak];exact ad T.1 (by decide)) ?_)⟩))))))))⟩)));have n:=S9 (o:=.list (N.map E1++[E1 (a.length,b.length,0)])) K D;have r:(H'.set na (.list (N.map E1++[E1 (a.length,b.length,0)])))[na]?=some (.list ((N++[(a.length,b.length,0)]).map E1)):=by rw[u5 B,bm];rfl
 have P:=IS C;have u:V1 a b (N++[(a.length,b.length,0)]):=T.ends;show WB _ _ _ _ (H'.set na (.list (N.map E1++[E1 (a.length,b.length,0)]))) _ _;generalize H'.set na (.list (N.map E1++[E1 (a.length,b.length,0)]))=c at n r⊢;generalize N++[(a.length,b.length,0)]=s at r P u;refine c9 (k7 (q6 (K9 rfl (JF _) JG ⟨trivial,b6 (q6 (K9 rfl (JH _) JI ⟨trivial,b6 (w1 (U4 rfl (vr _) (Ik (X5 w) (KC w) (KD w) (b6 (a7 rfl rfl (d8 (Ix (y6 r) ?_)))))))⟩))⟩)));have G:na<c.length:=(ab.mp r).1;obtain⟨e,t⟩:∃e,e=c++[S7 89 135]++[C4 na 0]++[X4 (c++[S7 89 135]).length c.length]:=⟨_,rfl⟩;have y:(c++[S7 89 135]).length=c.length+1:=by rw[aK];rfl
 rw[<-t,y];rw[y]at t;have I:c<+:e:=by rw[t];exact M7 (M7 (aH _ _))
 have W:e[c.length+1]?=some (C4 na 0):=by rw[t,<-y];exact y6 ao
 have qm:e[c.length+1+1]?=some (X4 (c.length+1) c.length):=by rw[t,show c.length+1+1=(c++[S7 89 135]++[C4 na 0]).length by rw[aK,y];rfl];exact ao
 have qj:e[c.length]?=some (S7 89 135):=by rw[t];exact y6 (y6 ao)
 have l3:c.length+1<e.length:=(ab.mp W).1;clear t;refine d8 (IB (f:=89) (C:=135) (l:=na) (g:=mH) W qm qj (n7 I r) (by exact Bh) (by exact Bi G y) (by exact Av) (by rw[ak];exact ad u.1 (by decide)) (λx Y H'=>?_) ?_);· refine a9 (bp.mp Y) λm _ M=>?_;subst M;exact KG
 have Z:H<+:e.set (c.length+1) ic:=S9 (n.trans I) (bW n.length_le);have L:(e.set (c.length+1) ic++[O.list ((s.map E1).map mH)])[e.length]?=some (.list (s.map y8)):=by rw[show e.length=(e.set (c.length+1) ic).length by rw[ax],ao,cV];rfl
 have J:=M7 (o:=O.list ((s.map E1).map mH)) Z;have F:H.length<=e.length:=(n.trans I).length_le;generalize e.set (c.length+1) ic++[O.list ((s.map E1).map mH)]=z at J L⊢;generalize e.length=v at L F⊢;have R:=A.mono J;refine E9 (a7 rfl rfl (E8 (l6 w) (jn w) jm R.o (by show 10<=aF;decide) ?_));have E:=(k9.pre J mi).set (.inst 242 (m7 (F3 ta tb mb oc fc (.ref bj) (.ref jk) (.ref pp)) "matching_blocks" (.ref v)));have V:(z.set mi (.inst 242 (m7 (F3 ta tb mb oc fc (.ref bj) (.ref jk) (.ref pp)) "matching_blocks" (.ref v))))[mi]?=some (.inst 242 (F3 ta tb (.ref v) oc fc (.ref bj) (.ref jk) (.ref pp))):=u5 R.o;have U:(z.set mi (.inst 242 (m7 (F3 ta tb mb oc fc (.ref bj) (.ref jk) (.ref pp)) "matching_blocks" (.ref v))))[v]?=some (.list (s.map y8)):=B7 (aP (aB (ab.mp A.o).1 F)) L;generalize z.set mi _=H5 at E V U⊢;have S:=A.put E V;refine c9 (J9 (w1 (a7 rfl rfl (A4 (l6 w) (jn w) jm S.o (by rfl) (by intro _ q;cases q) ?_))));exact h _ v s (.inr F) E S U P u
theorem KO(R:Rows a b)(r:w5 w H mi a b ta tb mb oc fc bj jk pp p)(S:dy H a b mb)(L:a.length<=25)(hb:b.length<=25)(h:∀H' x G,mb=.ref x\/H.length<=x ->k9 H H' mi->w5 w H' mi a b ta tb (.ref x) oc fc bj jk pp p->H'[x]?=some (.list (G.map y8))->y7 a b 0 0 G->V1 a b G->Q (.ref x) H'):j7 w (d+5) H (.st 203) [.ref mi] Q:=by
 refine O2 (Jg w) (by rfl) (by rfl) ?_;have e:u7 (i7 (d0 5 7)) ["self"] [.ref mi]=jt mi none none none none none none none none none none none none none none none none none none none:=by rfl
 rw[e];refine c9 (s4 (l4 (c9 (o5 (j6 (w1 (a7 rfl rfl (A4 (l6 w) (jn w) jm r.o (by rfl) (by rcases S with rfl|⟨x,G,rfl,_⟩<;>(intro _ q;cases q)) (J6 ?_)))))))));rcases S with rfl|⟨x,G,rfl,X,hC,hl⟩;case inr=>refine mq (b:=false) rfl (g9 (s6 rfl (c9 (J9 (w1 (a7 rfl rfl (A4 (l6 w) (jn w) jm r.o (by rfl) (by intro _ q;cases q) ?_)))))));exact h H x G (.inl rfl) (.pre (aA _) _) r X hC hl
 refine mq (b:=true) rfl (g9 (n5 (by decide) (e7 (c9 (O0 (xs:=["la","lb"]) (ag3 (by rfl) (by rfl)) ?_ λb0 he=>by unfold bL ca cw;rw[he];rfl)))));refine w0 (b6 (q6 (B3 rfl (G4 _) G5 ⟨trivial,b6 (w1 (a7 rfl rfl (A4 (l6 w) (dx w) cI r.o (by rfl) r.sa.nbi (d8 (kD r.sa (ad L (by decide)) ?_)))))⟩)));refine b6 (q6 (B3 rfl (G4 _) G5 ⟨trivial,b6 (w1 (a7 rfl rfl (A4 (l6 w) (X7 w) X6 r.o (by rfl) r.sb.nbi (d8 (kD r.sb (ad hb (by decide)) ?_)))))⟩));refine d8 ⟨by show 2<=aF;decide,D8 rfl ⟨rfl,c9 (k7 (B5 (b6 (w0 (b6 (i6 (b6 (a7 rfl rfl (b6 (i6 (b6 (a7 rfl rfl (d8 ⟨by show 4<=aF;decide,d8 ⟨by show 1<=aF;decide,e6 (.inl rfl) (c9 (k7 (B5 (d8 ⟨by show 0<=aF;decide,e6 (.inl (by rfl)) (c9 ?_)⟩))))⟩⟩)))))))))))))⟩⟩;have Z:=P2.start a b;refine Kz (d:=d+1) R r L hb (qu:=H.length) (ml:=(H++[O.list [P3 (0,a.length,0,b.length)]]).length) (ae _) (by rw[aK];exact aU _ _) (by rw[aK];exact aP (ch _)) (.mk (q:=[(0,a.length,0,b.length)]) (f:=[]) (M7 (aH _ _)) (y6 ao) ao Z (by unfold C6;simp;exact Bj L)) λm H' J=>?_;have T:H.length<(H++[O.list [P3 (0,a.length,0,b.length)]]).length:=by rw[aK];exact ch _
 generalize(H++[O.list [P3 (0,a.length,0,b.length)]]).length=ml at J T;obtain⟨z,hz,J⟩:∃z,(0:Nat)=z/\GJ mi a b H.length ml H z m H':=⟨_,rfl,J⟩;obtain@⟨H',q,f,alo,a0,blo,a1,i,j,k,x,u,hq,I,Z,le⟩:=J;have a2:q=[]:=List.length_eq_zero_iff.mp (Nat.le_zero.mp (hz▸qa q));subst a2;have M:f.length<=51:=ad (aU _ _) le;have B:H'[ml]?=some (.list ((f.map tI).map (S6 135))):=by rw[cV];exact I
 refine c9 (s4 (o6 (pl:=λ_=>_) (a7 rfl rfl (j5 _ (lX PySem.F.slot_list_sort PySem.F.type_list_sort B) trivial (d8 (Ib (X5 w) (sub_lt w) B (by rw[ak];exact Bk M) (λi K=>?_) (λi j K hj e=>?_) λts hp hs=>?_))))));·rw[ak]at K;rw[qb K];exact aW _
 ·rw[ak]at K hj;rw[qb K,qb hj]at e;exact KI Z K hj (Int.ofNat_inj.mp e)
 refine a9 (KH hp) λg hg a4=>?_;subst a4;rw[dg]at hs;have C:=IQ R Z hg (hs.imp λh=>aQ.mp h);have l:=S9 (o:=.list ((g.map tI).map (S6 135))) u (Nat.le_of_lt T);have s:(H'.set ml (.list ((g.map tI).map (S6 135))))[ml]?=some (.list (g.map y8)):=by rw[u5 I,cV];rfl
 generalize H'.set ml (.list ((g.map tI).map (S6 135)))=A at l s⊢;have P:g.length<=51:=by rw[hg.length_eq];exact M
 clear I B hq u hp hs Z;refine c9 (Ii (i6 (e6 (.inl rfl) (e6 (.inl rfl) (e6 (.inl rfl) (c9 (k7 (B5 (d8 ⟨by show 0<=aF;decide,e6 (.inl rfl) (c9 ?_)⟩)))))))));have v:=M7 (o:=O.list []) l;have D:(A++[O.list []])[ml]?=some (.list (g.map y8)):=y6 s;have E:(A++[O.list []])[A.length]?=some (.list (([]:List Bl).map E1)):=ao;have t:H.length<=A.length:=l.length_le;have V:A.length≠ml:=λq=>by rw[<-q]at s;simp at s
 generalize A++[O.list []]=H2 at v D E⊢;generalize A.length=na at t V E⊢;clear s l;refine be (a7 rfl rfl (Q3 _ _ (aG (.inl D)) (λn m H'=>MJ mi a b H.length ml na H g n m H') (.mk (N:=[]) (m:=(0,0,0)) v E D rfl rfl rfl (IU C) ⟨ae _,λ_ h=>absurd h List.not_mem_nil⟩) ?_ ?_ ?_));· intro n m H';intro a5;obtain⟨_,_,I,_⟩:=a5;exact .inl I
 ·intro n x m H' X J;rw[aV]at X;refine a9 (bE.mp X) λq hq a6=>?_;subst a6;refine R4 (pQ (X5 w) (p9 w) rfl (e6 (.inl (by rfl)) (e6 (.inl (by rfl)) (e6 (.inl (by rfl)) ?_))));exact KA (d:=d+1) hq P t V J λm H' J=>J
 · intro m H' J;rw[ak]at J;obtain⟨n,U,J⟩:∃n,g.length=n/\MJ mi a b H.length ml na H g n m H':=⟨_,rfl,J⟩;obtain@⟨H',n,N,⟨x,y,z⟩,x0,y0,z0,alo,a0,blo,a1,i,j,k,x',i2,j2,k2,u,W,I,ex,ey,ez,Y,a3⟩:=J;subst ex ey ez;rw[eX (Nat.le_of_eq U)]at Y;dsimp only;have F:M8 N 51:=a3.mono (U▸P);refine c9 (o5 (I5 (a7 rfl rfl (jZ ?_))));by_cases c:z=0;·refine n5 (by simp[c]) ?_;subst c;exact e7 (vW (d:=d) r L u W t (F.mono (by decide)) (by have:=vk Y;rwa[bG]at this) h)
   ·refine s6 (by simp[c]) ?_;refine c9 (s4 (o6 (pl:=λ_=>_) (a7 rfl rfl (j5 _ (O5 W) trivial (b6 (w0 (b6 (a7 rfl rfl (b6 (a7 rfl rfl (b6 (a7 rfl rfl (d8 ⟨by show 3<=aF;decide,d8 (O4 W (by rw[ak];exact ad F.1 (by decide)) (e7 (vW (d:=d) (N:=N++[(x,y,z)]) r L (S9 u t) ?_ t (F.push c) Y h)))⟩)))))))))))));rw[bm];exact u5 W
end
abbrev Op:=Str×Nat×Nat×Nat×Nat
noncomputable def A6(i x j y:Nat):Str:=if i<x then if j<y then"replace"else"delete" else if j<y then"insert"else""
noncomputable def ij(i j:Nat)(m:Bl):List Op:=(if A6 i m.1 j m.2.1≠("":Str)then[(A6 i m.1 j m.2.1,i,m.1,j,m.2.1)]else[])++if m.2.2≠0 then[(("equal":Str),m.1,m.1+m.2.2,m.2.1,m.2.1+m.2.2)]else[]
noncomputable def G6:Nat->Nat->List Bl->List Op|_,_,[]=>[]|i,j,m::r=>ij i j m++G6 (m.1+m.2.2) (m.2.1+m.2.2) r
noncomputable abbrev X9(o:Op):V:=.tup [.str o.1,.int (o.2.1:Nat),.int (o.2.2.1:Nat),.int (o.2.2.2.1:Nat),.int (o.2.2.2.2:Nat)]
def kE(H:List O)(a b:List Nat)(d:V):Prop:=d=.none\/∃an c,d=.ref an/\H[an]?=some (.list ((G6 0 0 c).map X9))/\y7 a b 0 0 c/\V1 a b c
noncomputable abbrev qd(d:Nat)(i j an b c a tag:Option V):b9:=[nv "self" (.ref d),("i",i),("j",j),("answer",an),("ai",b),("bj",c),("size",a),("tag",tag)]
noncomputable abbrev mI(w:NQ):FI:=⟨i7 (d0 5 8),true,(o9 (ao2 w.params)).code⟩
section
variable{w:NQ}{H:List O}{d mi an:Nat}{bs:List Bl}
inductive CJ(mi an:Nat)(H:List O)(bs:List Bl)(n:Nat):b9->List O->Prop|mk{H':List O}{i j:Nat}{x y:Int}{A:List Op}{ai bj size tag:Option V}(kx:k9 H H' an)(ha:H'[an]?=some (.list (A.map X9)))(ex:x=(i:Nat))(ey:y=(j:Nat))(eq:A++G6 i j (bs.drop n)=G6 0 0 bs)(le:A.length<=2*n):CJ mi an H bs n (qd mi (some (.int x)) (some (.int y)) (some (.ref an)) ai bj size tag) H'
noncomputable def mJ:List NW:=C7 (r6 4 (e9 (d0 5 8)))
noncomputable abbrev mK(mi:Nat)(i j:Nat)(an:Nat)(q:Bl)(tag:Str):b9:=qd mi (some (.int (i:Nat))) (some (.int (j:Nat))) (some (.ref an)) (some (.int (q.1:Nat))) (some (.int (q.2.1:Nat))) (some (.int (q.2.2:Nat))) (some (.str tag))
theorem KP{i j:Nat}{q:Bl}{H':List O}{Q:QF}(a:Q .next (mK mi i j an q (A6 i q.1 j q.2.1)) H'):WS w (mI w) d (mK mi i j an q "") H' (r6 1 mJ) Q:=by
 obtain⟨x,y,z⟩:=q;skip;refine o5 (C3 (j6 (a7 rfl rfl (a7 rfl rfl (D4 (g9 ?_))))));by_cases c1:i<x
 · refine G8 (decide_eq_true (aQ.mpr c1)) ?_;refine W5 (j6 (a7 rfl rfl (a7 rfl rfl (D4 (g9 ?_)))));by_cases c2:j<y;·refine s6 (decide_eq_true (aQ.mpr c2)) ?_;refine c9 (k7 (l4 (e6 (.inl rfl) (e7 ?_))));rw[show A6 i x j y="replace"by unfold A6;rw[if_pos c1,if_pos c2]]at a;exact a
   ·refine n5 (λq=>c2 (aQ.mp (of_decide_eq_true q))) ?_;refine c9 (o5 (j6 (a7 rfl rfl (a7 rfl rfl (D4 (g9 (s6 (decide_eq_true (aQ.mpr c1)) (c9 (k7 (l4 (e6 (.inl rfl) (e7 (e7 ?_)))))))))))));rw[show A6 i x j y="delete"by unfold A6;rw[if_pos c1,if_neg c2]]at a;exact a
 · refine I6 (λq=>c1 (aQ.mp (of_decide_eq_true q))) (n5 (by decide) ?_);refine c9 (o5 (j6 (a7 rfl rfl (a7 rfl rfl (D4 (g9 (n5 (λq=>c1 (aQ.mp (of_decide_eq_true q))) (c9 (o5 (j6 (a7 rfl rfl (a7 rfl rfl (D4 (g9 ?_))))))))))))));by_cases c2:j<y;·refine s6 (decide_eq_true (aQ.mpr c2)) ?_;refine c9 (k7 (l4 (e6 (.inl rfl) (e7 (e7 (e7 ?_))))));rw[show A6 i x j y="insert"by unfold A6;rw[if_neg c1,if_pos c2]]at a;exact a
   ·refine n5 (λq=>c2 (aQ.mp (of_decide_eq_true q))) ?_;refine e7 (e7 (e7 ?_));rw[show A6 i x j y=""by unfold A6;rw[if_neg c1,if_neg c2]]at a;exact a
theorem KQ(i x j y:Nat):((A6 i x j y).length !=0)=decide (A6 i x j y≠("":Str)):=by unfold A6;split<;>split<;>decide
theorem KR{i j n:Nat}{q:Bl}{H':List O}{A:List Op}(h:n<53)(f:k9 H H' an)(b:H'[an]?=some (.list (A.map X9)))(a:A++(ij i j q++G6 (q.1+q.2.2) (q.2.1+q.2.2) (bs.drop (n+1)))=G6 0 0 bs)(e:A.length<=2*n){Q:QF}(g:∀m H',CJ mi an H bs (n+1) m H'->Q .next m H'):WB w (mI w) d (mK mi i j an q (A6 i q.1 j q.2.1)) H' (mJ.drop 2) Q:=by
 obtain⟨x,y,z⟩:=q;skip;have hz:A.length<=106:=by exact Bm h e
 have rest:∀(H':List O)(A':List Op),k9 H H' an->H'[an]?=some (.list (A'.map X9))->A'.length<=2*n+1->A'++((if z≠0 then[(("equal":Str),x,x+z,y,y+z)]else[])++G6 (x+z) (y+z) (bs.drop (n+1)))=G6 0 0 bs->WB w (mI w) d (mK mi i j an (x,y,z) (A6 i x j y)) H' (mJ.drop 3) Q:=λH' A' f b e a=>by
  refine c9 (O0 (xs:=["i","j"]) (ag3 (by rfl) (by rfl)) ?_ λk l=>by unfold bL ca cw;rw[l];rfl);refine w0 (b6 (l0 (a7 rfl rfl (a7 rfl rfl (w7 (b6 (l0 (a7 rfl rfl (a7 rfl rfl (w7 (d8 ⟨by show 2<=aF;decide,D8 rfl ⟨rfl,c9 (o5 (I5 (a7 rfl rfl (jZ ?_))))⟩⟩)))))))))));by_cases c:z=0;·refine n5 (by simp[c]) ?_;refine e7 (e7 ?_);rw[if_neg λq=>q c,gP]at a;exact g _ _ (.mk (i:=x+z) (j:=y+z) f b rfl rfl a (by exact Bn e))
  ·refine s6 (by simp[c]) ?_;refine c9 (s4 (o6 (pl:=λ_=>_) (a7 rfl rfl (j5 _ (O5 b) trivial (b6 (w0 (b6 (l4 (b6 (a7 rfl rfl (b6 (a7 rfl rfl (b6 (a7 rfl rfl (b6 (a7 rfl rfl (d8 ⟨by show 5<=aF;decide,d8 (O4 b (by rw[ak];exact ad (show A'.length<=107 by exact Bo h e) (by decide)) (e7 (e7 ?_)))⟩)))))))))))))))));rw[if_pos c,<-bz]at a;exact g _ _ (.mk (i:=x+z) (j:=y+z) (A:=A'++[(("equal":Str),x,x+z,y,y+z)]) (f.set _) (by rw[bm];exact u5 b) rfl rfl a (by rw[aK];show A'.length+1<=_;exact Bp e))
 refine c9 (o5 (I5 (a7 rfl rfl (Ez (by unfold A6;split<;>split<;>decide) ?_))));rw[KQ];by_cases c:A6 i x j y=("":Str);·refine n5 (by simp[c]) ?_;refine e7 (rest H' A f b (by exact Bq e) ?_);unfold ij at a;dsimp only at a;rw[if_neg λq=>q c,gP]at a;exact a
 ·refine s6 (decide_eq_true c) ?_;refine c9 (s4 (o6 (pl:=λ_=>_) (a7 rfl rfl (j5 _ (O5 b) trivial (b6 (w0 (b6 (a7 rfl rfl (b6 (a7 rfl rfl (b6 (a7 rfl rfl (b6 (a7 rfl rfl (b6 (a7 rfl rfl (d8 ⟨by show 5<=aF;decide,d8 (O4 b (by rw[ak];exact ad hz (by decide)) (e7 (rest _ (A++[(A6 i x j y,i,x,j,y)]) (f.set _) (by rw[bm];exact u5 b) (by rw[aK];exact bo e) ?_)))⟩)))))))))))))))));unfold ij at a;dsimp only at a;rw[if_pos c]at a;simpa only[bz]using a
theorem KS{n:Nat}{q:Bl}{m:b9}{H':List O}(c:bs[n]?=some q)(s:bs.length<=53)(J:CJ mi an H bs n m H'){Q:QF}(p:∀m H',CJ mi an H bs (n+1) m H'->Q .next m H'):WB w (mI w) d (u9 (u9 (u9 m "ai" (.int (q.1:Nat))) "bj" (.int (q.2.1:Nat))) "size" (.int (q.2.2:Nat))) H' mJ Q:=by
 obtain@⟨H',i,j,x,y,A,v,z,e,tag,t,r,l,o,b,u⟩:=J;subst l o;obtain⟨f,g,h⟩:=q;have a:=(ab.mp c).1;have k:bs.drop n=(f,g,h)::bs.drop (n+1):=by rw[dZ a,(ab.mp c).2]
 rw[k]at b;refine c9 (k7 (l4 (e6 (.inl (by rfl)) (c9 (KP (q:=(f,g,h)) ?_)))));exact KR (by exact Br s a) t r b u p
end
section
variable{w:NQ}{H:List O}{d mi:Nat}{a b:List Nat}{ta tb:V}{mb oc fc:V}{bj jk pp:Nat}{p:Nat->Nat}{Q:QV}
theorem s7.lt(h:s7 H v xs):∀l,v=.ref l->l<H.length:=λl q=>by cases h with|txt=>injection q|lst h=>injection q with q;subst q;exact(ab.mp h).1
theorem s7.kp(h:s7 H v xs)(k:k9 H H' an)(e:∀l,v=.ref l->l<n)(c:n<=an):s7 H' v xs:=by cases h with|txt=>exact .txt|lst h=>exact .lst (k _ _ (aP (aB (e _ rfl) c)) h)
theorem w5.lt(c:w5 w H mi a b ta tb mb oc fc bj jk pp p):mi<H.length/\bj<H.length/\jk<H.length/\(∀j,j<b.length->p j<H.length)/\(∀l,ta=.ref l->l<H.length)/\∀l,tb=.ref l->l<H.length:= j8 ((ab.mp c.o).1) ((ab.mp c.d).1) ((ab.mp c.s).1) ⟨λj e=>(ab.mp (c.l j e)).1,c.sa.lt,c.sb.lt⟩
theorem w5.kp(c:w5 w H mi a b ta tb mb oc fc bj jk pp p)(h:k9 H H' an)(e:mi<n/\bj<n/\jk<n/\(∀j,j<b.length->p j<n)/\(∀l,ta=.ref l->l<n)/\∀l,tb=.ref l->l<n)(f:n<=an):w5 w H' mi a b ta tb mb oc fc bj jk pp p:=⟨h _ _ (aP (aB e.1 f)) c.o,h _ _ (aP (aB e.2.1 f)) c.d,λj g=>h _ _ (by have:=e.2.2.2.1 j g;exact Bt f this) (c.l j g),h _ _ (aP (aB e.2.2.1 f)) c.s,c.sa.kp h e.2.2.2.2.1 f,c.sb.kp h e.2.2.2.2.2 f⟩
theorem KU(R:Rows a b)(l:w5 w H mi a b ta tb mb oc fc bj jk pp p)(s:dy H a b mb)(z:kE H a b oc)(ha:a.length<=25)(hb:b.length<=25)(h:∀H' F an c,k9 H H' mi->w5 w H' mi a b ta tb F (.ref an) fc bj jk pp p->dy H' a b F->H'[an]?=some (.list ((G6 0 0 c).map X9))->y7 a b 0 0 c->V1 a b c->(oc=.none->H.length<=an)->Q (.ref an) H'):j7 w (d+6) H (.st 210) [.ref mi] Q:=by
 refine O2 (Ji w) (by rfl) (by rfl) ?_;have e:u7 (i7 (d0 5 8)) ["self"] [.ref mi]=qd mi none none none none none none none:=by rfl
 rw[e];refine c9 (s4 (l4 (c9 (o5 (j6 (w1 (a7 rfl rfl (A4 (l6 w) (as7 w) as6 l.o (by rfl) (by rcases z with rfl|⟨x,c,rfl,_⟩<;>(intro _ q;exact by injection q)) (J6 ?_)))))))));rcases z with rfl|⟨x,c,rfl,P,hC,v⟩;case inr=>refine mq (b:=false) rfl (g9 (s6 rfl (c9 (J9 (w1 (a7 rfl rfl (A4 (l6 w) (as7 w) as6 l.o (by rfl) (by intro _ q;exact by injection q) ?_)))))));exact h H mb x c (.pre (aA _) _) l s P hC v λq=>by injection q
 refine mq (b:=true) rfl (g9 (n5 (by decide) (e7 (c9 (R5 (i6 (e6 (.inl rfl) (e6 (.inl rfl) (c9 (R5 (B5 (d8 ⟨by show 0<=aF;decide,E9 (a7 rfl rfl ?_)⟩))))))))))));have W:=l.mono (aH H [O.list []]);refine E8 (l6 w) (as7 w) as6 W.o (by show 10<=aF;decide) ?_;have g:=(k9.pre (aH H [O.list []]) mi).set (.inst 242 (m7 (F3 ta tb mb .none fc (.ref bj) (.ref jk) (.ref pp)) "opcodes" (.ref H.length)));have lt:=l.lt;have t:((H++[O.list []]).set mi (.inst 242 (m7 (F3 ta tb mb .none fc (.ref bj) (.ref jk) (.ref pp)) "opcodes" (.ref H.length))))[mi]?=some (.inst 242 (F3 ta tb mb (.ref H.length) fc (.ref bj) (.ref jk) (.ref pp))):=u5 W.o;have r:((H++[O.list []]).set mi (.inst 242 (m7 (F3 ta tb mb .none fc (.ref bj) (.ref jk) (.ref pp)) "opcodes" (.ref H.length))))[H.length]?=some (.list []):=B7 (aP lt.1) ao;have k:((H++[O.list []]).set mi (.inst 242 (m7 (F3 ta tb mb .none fc (.ref bj) (.ref jk) (.ref pp)) "opcodes" (.ref H.length)))).length=H.length+1:=by rw[ax,aK];rfl
 generalize(H++[O.list []]).set mi _=H1 at g t r k⊢;obtain⟨an,f⟩:∃an,an=H.length:=⟨_,rfl⟩;rw[<-f]at t r k lt⊢;have X:=l.put g t;have T:dy H1 a b mb:=by
  rcases s with e|⟨x,c,e,u,h2,h3⟩;·exact .inl e
  ·refine .inr (V9 x c e (g _ _ (λq=>?_) u) h2 h3);rw[q,l.o]at u;exact by injection u with q;injection q
 refine e6 (.inl rfl) (c9 (be (o6 (pl:=λ_=>_) (a7 rfl rfl (j5 _ (J8 (l6 w) (JX w) (by kernel_rfl:(KW w).lookup 203=some (ao1 w.params)) rfl JY X.o (by rfl)) (Jh w) ?_)))));refine d8 (KO (d:=d) R X T ha hb λG x c P E S3 S C v=>?_);have B:x≠an:=by
  rcases P with e|e
  · rcases s with K|⟨x',a2,K,u,_⟩;·exact by injection K.symm.trans e
    ·injection K.symm.trans e with e;subst e;exact aP (f▸(ab.mp u).1)
  ·exact(aP (aB (k▸ch _) e)).symm
 have I:G[an]?=some (.list (([]:List Op).map X9)):=E _ _ (aP lt.1).symm r;refine Q3 _ _ (aG (.inl S)) (λn m H'=>CJ mi an G c n m H') (.mk (A:=[]) (i:=0) (j:=0) (λ_ _ _ e=>e) I rfl rfl rfl (bq _)) ?_ ?_ ?_;· intro n m H';intro U;obtain⟨D,_⟩:=U;exact .inl (D _ _ B S)
 ·intro n y m H' Z J;rw[aV]at Z;refine a9 (bE.mp Z) λq hq V=>?_;subst V;refine R4 (pQ (X5 w) (p9 w) rfl (e6 (.inl (by rfl)) (e6 (.inl (by rfl)) (e6 (.inl (by rfl)) ?_))));exact KS (d:=d+5) hq v.1 J λm H' J=>J
 · intro m H' J;rw[ak]at J;obtain⟨n,N,J⟩:∃n,c.length=n/\CJ mi an G c n m H':=⟨_,rfl,J⟩;obtain@⟨H',i,j,x1,y1,A,ai,a1,a0,tag,D,hA,ex,ey,L,le⟩:=J;subst ex ey;rw[eX (Nat.le_of_eq N)]at L;rw[show G6 i j []=[]from rfl,bG]at L;subst L;refine c9 (J9 (a7 rfl rfl ?_));have S4:=S3.kp D lt (ae _);refine h _ (.ref x) an c ?_ S4 (.inr (V9 x c rfl (D _ _ B S) C v)) hA C v λ_=>Nat.le_of_eq f.symm;intro i o Y e;have M:i<an:=by rw[f];exact(ab.mp e).1
   exact D _ _ (by exact Bu k f M) (E _ _ Y (g _ _ Y e))
end
theorem vX(c:m<=25)(b:n<=51)(a:n≠0)(h:Q (.flt (P0 m n)) H):j7 w (d+1) H (.st 145) [.int (m:Nat),.int (n:Nat)] Q:=by
 refine O2 (IX w) (by rfl) (by rfl) ?_;have e:u7 (i7 (m8 4)) ["matches","length"] [.int (m:Nat),.int (n:Nat)]=[nv "matches" (.int (m:Nat)),nv "length" (.int (n:Nat))]:=by rfl
 rw[e];refine c9 (o5 (I5 (a7 rfl rfl (jZ (s6 (by simp[a]) (c9 (J9 (l0 (l0 (pT (a7 rfl rfl (IK (by exact Bv c) (a7 rfl rfl (IL b a ?_))))))))))))));have f:=(IJ ⟨m,by exact yL c⟩ ⟨n-1,by exact yM b⟩).1;rw[show n-1+1=n by exact yN b a,BK a]at f;show Q (.flt (Float64.div (Float64.mul vh (dU (m:Int))) (dU (n:Int)))) H;rw[f];exact h
section
variable{w:NQ}{H:List O}{d mi:Nat}{a b:List Nat}{ta tb:V}{mb oc fc:V}{bj jk pp:Nat}{p:Nat->Nat}{Q:QV}
theorem KV(c:w5 w H mi a b ta tb mb oc fc bj jk pp p)(f:a.length<=25)(g:b.length<=25)(j:a.length≠0)(h:Q (.flt (P0 (min a.length b.length) (a.length+b.length))) H):j7 w (d+2) H (.st 239) [.ref mi] Q:=by
 refine O2 (Jm w) (by rfl) (by rfl) ?_;have e:u7 (i7 (d0 5 12)) ["self"] [.ref mi]=[nv "self" (.ref mi),nn "la",nn "lb"]:=by rfl
 rw[e];refine c9 (s4 (l4 (c9 (O0 (xs:=["la","lb"]) (ag3 (by rfl) (by rfl)) ?_ λi k=>by unfold bL ca cw;rw[k];rfl))));refine w0 (b6 (q6 (B3 rfl (G4 _) G5 ⟨trivial,b6 (w1 (a7 rfl rfl (A4 (l6 w) (dx w) cI c.o (by rfl) c.sa.nbi (d8 (kD c.sa (ad f (by decide)) ?_)))))⟩)));refine b6 (q6 (B3 rfl (G4 _) G5 ⟨trivial,b6 (w1 (a7 rfl rfl (A4 (l6 w) (X7 w) X6 c.o (by rfl) c.sb.nbi (d8 (kD c.sb (ad g (by decide)) ?_)))))⟩));refine d8 ⟨by show 2<=aF;decide,D8 rfl ⟨rfl,c9 (J9 (q6 (U4 rfl (vp _) ⟨by first|exact pX _|exact pW _|exact kC _,b6 (q6 (B3 rfl (JJ _) JK ⟨trivial,b6 (a7 rfl rfl (b6 (a7 rfl rfl (d8 (EB (b6 (l0 (a7 rfl rfl (a7 rfl rfl (w7 (d8 ?_)))))))))))⟩))⟩)))⟩⟩;rw[show min ((a.length:Nat):Int) ((b.length:Nat):Int)=((min a.length b.length:Nat):Int)from BJ _ _];refine vX (m:=min a.length b.length) (n:=a.length+b.length) (by exact AX f g) (by exact sv f g) (by exact Bw f g j) ?_;exact h
end
noncomputable def E2(f:Nat->V)(l:List Nat):List (Str×V):=l.map λc=>(S [c],f c)
theorem qf{f:Nat->V}{c:Nat}:∀{l:List Nat},A5 (E2 f l) (S [c])=if c∈l then some (f c)else none:=by intro l;induction l with|nil=>rfl|cons e l a=>
  unfold E2 A5;rw[bN];by_cases q:e=c;·subst q;rw[dH (by simp),if_pos (.head _)];rfl
  · unfold E2 A5 at a;rw[dI (by simpa[jo]using q),a];by_cases r:c∈l;·rw[if_pos r,if_pos (.tail _ r)]
    ·rw[if_neg r,if_neg λz=>(az.mp z).elim (λz=>q z.symm) r]
theorem vY(h:c∉l):K0 (E2 f l) (S [c]) (f c)=E2 f (l++[c]):=by
 unfold K0;rw[if_neg];·unfold E2;rw[bm];rfl
 ·intro q;refine a9 (List.any_eq_true.mp q) λx d e=>?_;refine a9 (bp.mp d) λg a b=>?_;subst b;have:=jo.mp (of_decide_eq_true e);exact h (this▸a)
theorem vZ:(E2 f l).length=l.length:=ak _
noncomputable abbrev ju:Nat->V:=λ_=>.int (0+1)
def jw(w:NQ)(H:List O)(b:List Nat)(a:V):Prop:=a=.none\/∃x,a=.ref x/\H[x]?=some (dO (strKind pP w) (E2 ju b))
theorem qg{l:List Nat}(d:l.Nodup){n c:Nat}(h:l[n]?=some c):c∉l.take n/\l.take (n+1)=l.take n++[c]:=by
 have a:=(ab.mp h).1;have e:l.take (n+1)=l.take n++[c]:=by rw[gq a,(ab.mp h).2]
 refine⟨λb=>?_,e⟩;have:(l.take (n+1)).Nodup:=d.sublist (List.take_sublist _ _);rw[e,dF]at this;exact this.2.2 c b c (.head _) rfl
theorem dy.kp(h:dy H a b mb)(i:H[mi]?=some (.inst C fs))(k:k9 H H' mi):dy H' a b mb:=by
 rcases h with e|⟨x,d,e,c,f,g⟩;·exact .inl e
 ·exact .inr (V9 x d e (k _ _ (λq=>by rw[q,i]at c;exact by injection c with q;injection q) c) f g)
theorem kE.kp(h:kE H a b oc)(i:H[mi]?=some (.inst C fs))(k:k9 H H' mi):kE H' a b oc:=by
 rcases h with e|⟨x,d,e,c,f,g⟩;·exact .inl e
 ·exact .inr (V9 x d e (k _ _ (λq=>by rw[q,i]at c;exact by injection c with q;injection q) c) f g)
theorem jw.kp(h:jw w H b fc)(c:H[mi]?=some (.inst C fs))(k:k9 H H' mi):jw w H' b fc:=by
 rcases h with e|⟨x,e,a⟩;·exact .inl e
 ·exact .inr (b7 x e (k _ _ (λq=>by rw[q,c]at a;exact by injection a with q;injection q) a))
noncomputable abbrev Y0(a b:List Nat):Nat:=(a.filter (·∈b)).length
section
variable{w:NQ}{H:List O}{d mi:Nat}{a b:List Nat}{ta tb:Nat}{mb oc fc:V}{bj jk pp:Nat}{p:Nat->Nat}{Q:QV}
noncomputable abbrev mL(mi:Nat)(g c f e h i:Option V):b9:=[nv "self" (.ref mi),("fullbcount",g),("elt",c),("avail",f),("availhas",e),("matches",h),("numb",i)]
noncomputable abbrev wa(w:NQ):FI:=⟨i7 (d0 5 11),true,(o9 (ao3 w.params)).code⟩
noncomputable abbrev gB(b:List Nat)(c:Nat):Nat:=if c∈b then 1 else 0
noncomputable abbrev f2(b:List Nat):Nat->V:=λc=>.int ((gB b c:Int)-1)
theorem KY{b:List Nat}{c:Nat}:(A5 (E2 ju b) (S [c])).getD (.int 0)=.int (gB b c:Nat):=by rw[qf];split<;>rfl
inductive KJ(w:NQ)(mi:Nat)(a b:List Nat)(x y ah:Nat)(H:List O)(n:Nat):b9->List O->Prop|mk{H':List O}{elt nu:Option V}{ma:Int}(pre:H<+:H')(hy:H'[y]?=some (dO (strKind pP w) (E2 (f2 b) (a.take n))))(hah:H'[ah]?=some (bO "dict.__contains__" y))(em:ma=((Y0 (a.take n) b:Nat):Int)):KJ w mi a b x y ah H n (mL mi (some (.ref x)) elt (some (.ref y)) (some (.ref ah)) (some (.int ma)) nu) H'
theorem KZ(R:Rows a b){x y j n c:Nat}(u:H[x]?=some (dO (strKind pP w) (E2 ju b)))(l:H.length<=y)(k:y≠j)(A:a[n]?=some c)(z:a.length<=25)(J:KJ w mi a b x y j H n m H'){Q:QF}(t:∀m H',KJ w mi a b x y j H (n+1) m H'->Q .next m H'):WB w (wa w) (d+1) (u9 m "elt" (.str (S [c]))) H' (C7 (r6 5 (e9 (d0 5 11)))) Q:=by
 obtain@⟨H',v,E,D,g,hy,e,em⟩:=J;subst em;refine d7 (qg R.na A) λh f=>?_;have B:(E2 (f2 b) (a.take n)).length<=25:=by rw[vZ,dG];exact Bx z
 refine c9 (o5 (I5 (jl (a7 rfl rfl (b7 _ rfl (b6 (a7 rfl rfl (d8 ⟨u8 _ _ e,HF I7 e hy ?_⟩))))))));rw[qf,if_neg h];refine g9 (n5 (by decide) (c9 (k7 (o6 (pl:=λ_=>_) (a7 rfl rfl (j5 _ (mj dN fv (n7 g u)) trivial (b6 (a7 rfl rfl (b6 (i6 (d8 (pC I7 (n7 g u) ?_))))))))))));rw[KY];refine e6 (.inl rfl) (e7 (c9 (k7 (l0 (a7 rfl rfl (i6 (O3 (U5 (a7 rfl rfl (a7 rfl rfl (hW I7 hy (ad B (by decide)) ?_)))))))))));have r:=S9 (o:=dO (strKind pP w) (K0 (E2 (f2 b) (a.take n)) (S [c]) (.int ((gB b c:Nat)-1)))) g l;have s:(H'.set y (dO (strKind pP w) (K0 (E2 (f2 b) (a.take n)) (S [c]) (.int ((gB b c:Nat)-1)))))[y]?=some (dO (strKind pP w) (E2 (f2 b) (a.take (n+1)))):=by rw[f,<-vY h];exact u5 hy
 have i:=B7 (o':=dO (strKind pP w) (K0 (E2 (f2 b) (a.take n)) (S [c]) (.int ((gB b c:Nat)-1)))) k e;generalize H'.set y _=C at r s i⊢;refine c9 (o5 (j6 (a7 rfl rfl (i6 (W7 (g9 ?_))))));by_cases q:c∈b;·refine s6 (by unfold gB;rw[if_pos q];decide) ?_;refine c9 (k7 (l0 (a7 rfl rfl (i6 (w7 (e6 (.inl rfl) (e7 (e7 ?_))))))));exact t _ _ (.mk r s i (by unfold Y0;rw[f,gz,List.filter_cons_of_pos (by simpa using q),aK];rfl))
 ·refine n5 (by unfold gB;rw[if_neg q];decide) ?_;refine e7 (e7 ?_);exact t _ _ (.mk r s i (by unfold Y0;rw[f,gz,List.filter_cons_of_neg (by simpa using q),aK];rfl))
theorem wb(R:Rows a b)(i:w5 w H mi a b (.stk (S a) ta) (.stk (S b) tb) mb oc fc bj jk pp p)(r:fc=.ref x)(G:H[x]?=some (dO (strKind pP w) (E2 ju b)))(f:a.length<=25)(l:b.length<=25)(C:a.length≠0)(h:∀H',H<+:H'->Q (.flt (P0 (Y0 a b) (a.length+b.length))) H'):WB w (wa w) (d+1) (mL mi fb k none none none none) H ((e9 (d0 5 11)).drop 2) (hE Q):=by
 subst r;refine c9 (k7 (w1 (a7 rfl rfl (A4 (l6 w) (aB2 w) aB1 i.o (by rfl) (by intro _ q;injection q) (e6 (.inl rfl) (c9 (k7 (ar7 (knd:=strKind pP w) (e6 (.inl rfl) (c9 (O0 (xs:=["availhas","matches"]) (ag3 (by rfl) (by rfl)) ?_ λB F=>by unfold bL ca cw;rw[F];rfl)))))))))));refine w0 (b6 (w1 (a7 rfl rfl (cw8 ao ?_))));refine b6 (i6 (d8 ⟨by show 2<=aF;decide,D8 rfl ⟨rfl,?_⟩⟩));have s:H<+:H++[dO (strKind pP w) []]++[bO "dict.__contains__" H.length]:=M7 (aH _ _);have z:(H++[dO (strKind pP w) []]++[bO "dict.__contains__" H.length])[H.length]?=some (dO (strKind pP w) (E2 (f2 b) (a.take 0))):=y6 ao;have j:(H++[dO (strKind pP w) []]++[bO "dict.__contains__" H.length])[(H++[dO (strKind pP w) []]).length]?=some (bO "dict.__contains__" H.length):=ao;have e:H.length≠(H++[dO (strKind pP w) []]).length:=by rw[aK];exact aP (ch _)
 generalize H++[dO (strKind pP w) []]++[bO "dict.__contains__" H.length]=I at s z j⊢;generalize(H++[dO (strKind pP w) []]).length=A at j e⊢;refine c9 (be (w1 (a7 rfl rfl (mE (l6 w) (dx w) cI (i.mono s).o (by rfl) (Q3 _ _ tH (λn m H'=>KJ w mi a b x H.length A H n m H') (.mk s z j rfl) (λ_ _ _ _=>trivial) ?_ ?_)))));·intro n v m H' y J;rw[aV]at y;refine a9 (bE.mp y) λc E t=>?_;subst t;refine e6 (.inl (by rfl)) ?_;exact KZ R G (ae _) e E f J λm H' J=>J
 ·intro m H' J;rw[ak]at J;obtain@⟨H',k,L,K,g,hy,D,em⟩:=J;subst em;rw[eI];have u:=i.mono g;refine c9 (J9 (q6 (U4 rfl (vp _) ⟨by first|exact pX _|exact pW _|exact kC _,b6 (a7 rfl rfl (b6 (l0 (q6 (B3 rfl (G4 _) G5 ⟨trivial,b6 (w1 (a7 rfl rfl (mE (l6 w) (dx w) cI u.o (by rfl) (d8 (oQ (by rw[R3];exact ad f (by decide)) ?_)))))⟩)))))⟩)));rw[R3];refine q6 (B3 rfl (G4 _) G5 ⟨trivial,b6 (w1 (a7 rfl rfl (mE (l6 w) (X7 w) X6 u.o (by rfl) (d8 (oQ (by rw[R3];exact ad l (by decide)) ?_)))))⟩);rw[R3];refine w7 (d8 (vX (m:=Y0 a b) (n:=a.length+b.length) (ad (List.length_filter_le _ _) f) (by exact sv f l) (by exact AY f l C e) ?_));exact h _ g
end
section
variable{w:NQ}{H:List O}{d mi:Nat}{a b:List Nat}{ta tb:Nat}{mb oc fc:V}{bj jk pp:Nat}{p:Nat->Nat}{Q:QV}
inductive QJ(w:NQ)(mi:Nat)(b:List Nat)(x:Nat)(H:List O)(n:Nat):b9->List O->Prop|mk{H':List O}{elt:Option V}(kx:k9 H H' x)(hx:H'[x]?=some (dO (strKind pP w) (E2 ju (b.take n)))):QJ w mi b x H n (mL mi (some (.ref x)) elt none none none none) H'
theorem La(R:Rows a b)(r:w5 w H mi a b (.stk (S a) ta) (.stk (S b) tb) mb oc fc bj jk pp p)(t:jw w H b fc)(M:a.length<=25)(C:b.length<=25)(L:a.length≠0)(h:∀H' s,k9 H H' mi->w5 w H' mi a b (.stk (S a) ta) (.stk (S b) tb) mb oc s bj jk pp p->jw w H' b s->Q (.flt (P0 (Y0 a b) (a.length+b.length))) H'):j7 w (d+2) H (.st 232) [.ref mi] Q:=by
 refine O2 (Jk w) (by rfl) (by rfl) ?_;have e:u7 (i7 (d0 5 11)) ["self"] [.ref mi]=mL mi none none none none none none:=by rfl
 rw[e];refine c9 (s4 (l4 (c9 (o5 (j6 (w1 (a7 rfl rfl (A4 (l6 w) (aB2 w) aB1 r.o (by rfl) (by rcases t with rfl|⟨x,rfl,_⟩<;>(intro _ q;cases q)) (J6 ?_)))))))));rcases t with rfl|⟨x,rfl,f⟩;case inr=>refine cg (b:=false) rfl (g9 (n5 (by decide) (e7 ?_)));exact wb (d:=d) R r rfl f M C L λH' g=>h H' _ (.pre g _) (r.mono g) (.inr (b7 x rfl (n7 g f)))
 refine cg (b:=true) rfl (g9 (s6 rfl (c9 (R5 (ar7 (knd:=strKind pP w) (E9 (a7 rfl rfl ?_)))))));have G:=r.mono (aH H [dO (strKind pP w) []]);have lt:=r.lt;refine E8 (l6 w) (aB2 w) aB1 G.o (by show 10<=aF;decide) ?_;have j:=(k9.pre (aH H [dO (strKind pP w) []]) mi).set (.inst 242 (m7 (F3 (.stk (S a) ta) (.stk (S b) tb) mb oc .none (.ref bj) (.ref jk) (.ref pp)) "fullbcount" (.ref H.length)));have k:((H++[dO (strKind pP w) []]).set mi (.inst 242 (m7 (F3 (.stk (S a) ta) (.stk (S b) tb) mb oc .none (.ref bj) (.ref jk) (.ref pp)) "fullbcount" (.ref H.length))))[mi]?=some (.inst 242 (F3 (.stk (S a) ta) (.stk (S b) tb) mb oc (.ref H.length) (.ref bj) (.ref jk) (.ref pp))):=u5 G.o;have l:((H++[dO (strKind pP w) []]).set mi (.inst 242 (m7 (F3 (.stk (S a) ta) (.stk (S b) tb) mb oc .none (.ref bj) (.ref jk) (.ref pp)) "fullbcount" (.ref H.length))))[H.length]?=some (dO (strKind pP w) (E2 ju (b.take 0))):=B7 (aP lt.1) ao;generalize(H++[dO (strKind pP w) []]).set mi _=O at j k l⊢;obtain⟨x,B⟩:∃x,x=H.length:=⟨_,rfl⟩;rw[<-B]at k l lt⊢;have I:=r.put j k;refine e6 (.inl rfl) (c9 (be (w1 (a7 rfl rfl (mE (l6 w) (X7 w) X6 I.o (by rfl) (Q3 _ _ tH (λn m H'=>QJ w mi b x O n m H') (.mk (λ_ _ _ e=>e) l) (λ_ _ _ _=>trivial) ?_ ?_))))));·intro n v m H' N J;rw[aV]at N;refine a9 (bE.mp N) λc P F=>?_;subst F;obtain@⟨H',A,y,f⟩:=J;refine d7 (qg R.nb P) λu E=>?_;refine e6 (.inl (by rfl)) (c9 (k7 (l0 (o6 (pl:=λ_=>_) (a7 rfl rfl (j5 _ (mj dN fv f) trivial (b6 (a7 rfl rfl (b6 (i6 (d8 (pC I7 f ?_))))))))))));rw[qf,if_neg u,Option.getD_none];refine i6 (w7 (U5 (a7 rfl rfl (a7 rfl rfl (hW I7 f (by rw[vZ,dG];exact ad (ad (gI _ _) C) (by decide)) (e7 ?_))))));exact .mk (y.set _) (by rw[E,<-vY u];exact u5 f)
 · intro m H' J;rw[ak]at J;obtain@⟨H',A,y,f⟩:=J;rw[eI]at f;have K:=I.kp y lt (ae _);refine e7 (wb (d:=d) R K rfl f M C L λz g=>h z (.ref x) (λi o T e=>?_) (K.mono g) (.inr (b7 x rfl (n7 g f))));have D:i<x:=by rw[B];exact(ab.mp e).1
   exact n7 g (y _ _ (by exact By B D) (j _ _ T e))
end
theorem Lb:x7 (b++[c]) p=x7 b p++[(S [c],.ref (p b.length))]:=by unfold x7;rw[List.zipIdx_append,bm];simp[List.zipIdx]
theorem Lc:(x7 b p).length=b.length:=by unfold x7;rw[ak,List.length_zipIdx]
theorem Ld(h:c∉b):K0 (x7 b p) (S [c]) (.ref (p b.length))=x7 (b++[c]) p:=by rw[Lb];unfold K0;rw[if_neg];intro q;refine a9 (List.any_eq_true.mp q) λx f e=>?_;refine a9 (bp.mp f) λy g a=>?_;subst a;have:=jo.mp (of_decide_eq_true e);obtain⟨i,j⟩:=y;have d:=List.mem_zipIdx g;simp only at this d;exact h (by rw[<-this,d.2.2];exact gm _)
section
variable{w:NQ}{H:List O}{d mi:Nat}{b:List Nat}{tb:V}{fs:List (Str×V)}{Q:QV}
noncomputable abbrev wc(mi:Nat)(b c i e f a g h n k j:Option V):b9:=[nv "self" (.ref mi),("b",b),("b2j",c),("i",i),("elt",e),("indices",f),("junk",a),("isjunk",g),("popular",h),("n",n),("ntest",k),("idxs",j)]
noncomputable abbrev Le(w:NQ):FI:=⟨i7 (d0 5 5),true,(o9 (ao0 w.params)).code⟩
inductive HJ(w:NQ)(mi:Nat)(b:List Nat)(tb:V)(bj L0:Nat)(H:List O)(n:Nat):b9->List O->Prop|mk{H':List O}{i elt ind:Option V}(ln:H'.length=L0+n)(kx:k9 H H' bj)(hd:H'[bj]?=some (dO (strKind pP w) (x7 (b.take n) (L0+·))))(hl:∀j,j<n->H'[L0+j]?=some (.list [.int (j:Nat)])):HJ w mi b tb bj L0 H n (wc mi (some tb) (some (.ref bj)) i elt ind none none none none none none) H'
theorem Lf(F:b.Nodup)(r:b.length<=25){a L0 n c:Nat}(K:pZ ev c)(h:a<L0)(s:H.length<=L0)(D:b[n]?=some c)(J:HJ w mi b tb a L0 H n m H'){Q:QF}(I:∀m H',HJ w mi b tb a L0 H (n+1) m H'->Q .next m H'):WB w (Le w) d (u9 (u9 m "i" (.int (n:Nat))) "elt" ev) H' (C7 (r6 2 (e9 (d0 5 5)))) Q:=by
 obtain@⟨H',i,G,N,k,P,t,L⟩:=J;refine d7 (qg F D) λp z=>?_;have f:=(ab.mp D).1;have g:(b.take n).length=n:=dG.trans (ss f);refine c9 (k7 (o6 (pl:=λ_=>_) (a7 rfl rfl (j5 _ (mj PySem.F.slot_dict_setdefault PySem.F.type_dict_setdefault t) trivial (b6 (Ki rfl rfl K (b6 (B5 (d8 ⟨by show 0<=aF;decide,d8 ?_⟩)))))))));rw[k];refine GY (x:=.ref (L0+n)) I7 (y6 t) (by rw[Lc,g];exact ad (show n<=25 by exact Bz r f g) (by decide)) (λv M=>?_) λ_=>?_;·injection (vL (F.sublist (List.take_sublist _ _)) p).symm.trans M
 have A:K0 (x7 (b.take n) (L0+·)) (S [c]) (.ref (L0+n))=x7 (b.take (n+1)) (L0+·):=by rw[z,<-Ld p,g]
 rw[A];have l:((H'++[O.list []]).set a (dO (strKind pP w) (x7 (b.take (n+1)) (L0+·)))).length=L0+(n+1):=by rw[ax,aK,k];rfl
 have B:((H'++[O.list []]).set a (dO (strKind pP w) (x7 (b.take (n+1)) (L0+·))))[a]?=some (dO (strKind pP w) (x7 (b.take (n+1)) (L0+·))):=u5 (y6 t);have n1:((H'++[O.list []]).set a (dO (strKind pP w) (x7 (b.take (n+1)) (L0+·))))[L0+n]?=some (.list []):=B7 (by exact BA r h k f g l) (by rw[<-k];exact ao);have E:k9 H ((H'++[O.list []]).set a (dO (strKind pP w) (x7 (b.take (n+1)) (L0+·)))) a:=k9.set (λi o u e=>y6 (P i o u e)) _;have C:∀j,j<n->((H'++[O.list []]).set a (dO (strKind pP w) (x7 (b.take (n+1)) (L0+·))))[L0+j]?=some (.list [.int (j:Nat)]):=λj y=>B7 (by exact BB h k g l) (y6 (L j y));generalize(H'++[O.list []]).set a _=R at l B n1 E C⊢;refine e6 (.inl rfl) (c9 (s4 (o6 (pl:=λ_=>_) (a7 rfl rfl (j5 _ (O5 n1) trivial (b6 (a7 rfl rfl (d8 (O4 n1 (by show 0<=aF;decide) (e7 (I _ _ (.mk (ax.trans l) (λi o u e=>?_) (B7 (by exact BC r h k f g l) B) λj y=>?_))))))))))));·have:i<H.length:=(ab.mp e).1;exact B7 (by exact BD r s k f g l this) (E i o u e)
 · by_cases q:j=n;·subst q;exact u5 n1
   ·exact B7 (by exact BE g q) (C j (by exact BF g y q))
end
theorem T2{n:Str}{v:V}:∀{fs:List (Str×V)},(m7 fs n v).length<=fs.length+1:=by intro fs;induction fs with|nil=>exact ae _|cons p r a=>
  obtain⟨m,u⟩:=p;rw[tK];split;·exact aN _
  ·rw[eK,eK];exact bo a
section
variable{w:NQ}{H:List O}{d mi:Nat}{b:List Nat}{tb:V}{fs:List (Str×V)}{Q:QV}
noncomputable abbrev chF(fs:List (Str×V))(a c e:Nat):List (Str×V):=m7 (m7 (m7 fs "b2j" (.ref a)) "bjunk" (.ref c)) "bpopular" (.ref e)
theorem Lg(nd:b.Nodup)(K:b.length<=25)(z:H[mi]?=some (.inst 242 fs))(S:s7 H tb b)(f1:fs.lookup (aa "b")=some tb)(f2:fs.lookup (aa "isjunk")=some .none)(f3:fs.lookup (aa "autojunk")=some (.bool true))(hsz:fs.length<=20)(h:∀H' a k pp p,k9 H H' mi->H'[mi]?=some (.inst 242 (chF fs a k pp))->H'[a]?=some (dO (strKind pP w) (x7 b p))->(∀j,j<b.length->H'[p j]?=some (.list [.int (j:Nat)]))->H'[k]?=some (sO (strKind pP w) (λ_=>false) 0)->Q .none H'):j7 w (d+2) H (.st 188) [.ref mi] Q:=by
 refine O2 (Jc w) (by rfl) (by rfl) ?_;have e:u7 (i7 (d0 5 5)) ["self"] [.ref mi]=wc mi none none none none none none none none none none none:=by rfl
 rw[e];have g:=(ab.mp z).1;refine c9 (k7 (w1 (a7 rfl rfl (A4 (l6 w) (X7 w) X6 z f1 S.nbi (e6 (.inl rfl) (c9 (R5 (ar7 (knd:=strKind pP w) (E9 (a7 rfl rfl ?_))))))))));have o1:(H++[dO (strKind pP w) []])[mi]?=some (.inst 242 fs):=y6 z;refine E8 (l6 w) (vE w) vD o1 (ad hsz (by decide)) ?_;have N:=(k9.pre (aH H [dO (strKind pP w) []]) mi).set (.inst 242 (m7 fs "b2j" (.ref H.length)));have P:=u5 (o':=.inst 242 (m7 fs "b2j" (.ref H.length))) o1;have E:((H++[dO (strKind pP w) []]).set mi (.inst 242 (m7 fs "b2j" (.ref H.length))))[H.length]?=some (dO (strKind pP w) (x7 (b.take 0) (H.length+1+·))):=B7 (by exact bT1 g) ao;have G:((H++[dO (strKind pP w) []]).set mi (.inst 242 (m7 fs "b2j" (.ref H.length)))).length=H.length+1:=by rw[ax,aK];rfl
 generalize(H++[dO (strKind pP w) []]).set mi _=W at N P E G⊢;obtain⟨a,f⟩:∃a,a=H.length:=⟨_,rfl⟩;rw[<-f]at P E G⊢;have T:s7 W tb b:=S.up λl ys e=>N l _ (λq=>by rw[q,z]at e;exact by injection e with q;injection q) e;refine e6 (.inl (by rfl)) (c9 (Kj (by rfl) (JD w) JE (by decide) (by decide) trivial (by rfl) (by rfl) (by decide) T (λn m H'=>HJ w mi b tb a (a+1) W n m H') (.mk (by rw[G]) (λ_ _ _ e=>e) E λj y=>absurd y (dQ _)) (λn m H' J l ys e=>?_) ?_ ?_));·obtain@⟨H',i,I,M,x,B,F,t⟩:=J;exact B l _ (λq=>by rw[q,E]at e;exact by injection e with q;injection q) e
 ·intro n c ev m H' hc he J;refine R4 (D8 rfl (e6 (.inl (by rfl)) (e6 (.inl (by rfl)) ?_)));exact Lf (d:=d+1) nd K he (ch _) (by rw[G];exact ae _) hc J λm H' J=>J
 · intro m H' J;obtain@⟨H',i,I,M,x,B,F,t⟩:=J;rw[eI]at F;have m2:=B _ _ (show mi≠a by exact BG g f rfl x) P;refine c9 (R5 (q6 (K9 rfl (vt _) vu ⟨trivial,d8 (uQ (strKind pP w) (E9 (a7 rfl rfl ?_)))⟩)));have C:∀{n:Str}{v u:V},n≠"b2j"->fs.lookup n=some u->(m7 fs "b2j" v).lookup n=some u:=λhn e=>C2.trans ((if_neg hn).trans e);obtain⟨k,s⟩:∃k,k=H'.length:=⟨_,rfl⟩;have o3:(H'++[sO (strKind pP w) (λ_=>false) 0])[mi]?=some (.inst 242 (m7 fs "b2j" (.ref a))):=y6 m2;refine E8 (l6 w) (bo6 w) bo5 o3 (ad T2 (ad (bo hsz) (by decide))) ?_;have D:=u5 (o':=.inst 242 (m7 (m7 fs "b2j" (.ref a)) "bjunk" (.ref H'.length))) o3;have X:((H'++[sO (strKind pP w) (λ_=>false) 0]).set mi (.inst 242 (m7 (m7 fs "b2j" (.ref a)) "bjunk" (.ref H'.length))))[a]?=some (dO (strKind pP w) (x7 b (a+1+·))):=B7 (by exact bT3 g f rfl x s) (y6 F);have A:((H'++[sO (strKind pP w) (λ_=>false) 0]).set mi (.inst 242 (m7 (m7 fs "b2j" (.ref a)) "bjunk" (.ref H'.length))))[H'.length]?=some (sO (strKind pP w) (λ_=>false) 0):=B7 (by exact bT4 K g f rfl x s) ao;have p3:∀j,j<b.length->((H'++[sO (strKind pP w) (λ_=>false) 0]).set mi (.inst 242 (m7 (m7 fs "b2j" (.ref a)) "bjunk" (.ref H'.length))))[a+1+j]?=some (.list [.int (j:Nat)]):=λj y=>B7 (by exact bT5 g f rfl x s) (y6 (t j y));have k3:k9 H ((H'++[sO (strKind pP w) (λ_=>false) 0]).set mi (.inst 242 (m7 (m7 fs "b2j" (.ref a)) "bjunk" (.ref H'.length)))) mi:=k9.set (λi o L e=>y6 (B i o (by have:=(ab.mp e).1;exact bT6 f rfl x s this) (N i o L e))) _;have l3:((H'++[sO (strKind pP w) (λ_=>false) 0]).set mi (.inst 242 (m7 (m7 fs "b2j" (.ref a)) "bjunk" (.ref H'.length)))).length=H'.length+1:=by rw[ax,aK];rfl
   generalize(H'++[sO (strKind pP w) (λ_=>false) 0]).set mi _=r at D X A p3 k3 l3⊢;rw[<-s]at D A l3⊢;clear B F t m2 o3 x;refine e6 (.inl rfl) (c9 (k7 (w1 (a7 rfl rfl (A4 (l6 w) (vA w) vz D (C2.trans ((if_neg (by decide)).trans (C (by decide) f2))) (by intro _ q;contradiction) (e6 (.inl rfl) (c9 (o5 (I5 (a7 rfl rfl (Ey (n5 (by decide) (e7 (c9 (R5 (q6 (K9 rfl (vt _) vu ⟨trivial,d8 (uQ (strKind pP w) (E9 (a7 rfl rfl ?_)))⟩)))))))))))))))));have o4:(r++[sO (strKind pP w) (λ_=>false) 0])[mi]?=some (.inst 242 (m7 (m7 fs "b2j" (.ref a)) "bjunk" (.ref k))):=y6 D;refine E8 (l6 w) (JQ w) JP o4 (ad T2 (ad (bo T2) (ad (bo (bo hsz)) (by decide)))) ?_;have R:=u5 (o':=.inst 242 (chF fs a k r.length)) o4;have Y:((r++[sO (strKind pP w) (λ_=>false) 0]).set mi (.inst 242 (chF fs a k r.length)))[a]?=some (dO (strKind pP w) (x7 b (a+1+·))):=B7 (by exact BH g f) (y6 X);have Z:((r++[sO (strKind pP w) (λ_=>false) 0]).set mi (.inst 242 (chF fs a k r.length)))[k]?=some (sO (strKind pP w) (λ_=>false) 0):=B7 (λq=>by rw[<-q,D]at A;exact by injection A with q;injection q) (y6 A);have p4:∀j,j<b.length->((r++[sO (strKind pP w) (λ_=>false) 0]).set mi (.inst 242 (chF fs a k r.length)))[a+1+j]?=some (.list [.int (j:Nat)]):=λj y=>B7 (by exact BI g f) (y6 (p3 j y));have O:k9 H ((r++[sO (strKind pP w) (λ_=>false) 0]).set mi (.inst 242 (chF fs a k r.length))) mi:=k9.set (λi o L e=>y6 (k3 i o L e)) _;generalize(r++[sO (strKind pP w) (λ_=>false) 0]).set mi (.inst 242 (chF fs a k r.length))=H4 at R Y Z p4 O⊢;have U:s7 H4 tb b:=S.up λl ys e=>O l _ (λq=>by rw[q,z]at e;exact by injection e with q;injection q) e;refine e6 (.inl rfl) (c9 (k7 (q6 (B3 rfl (G4 _) G5 ⟨trivial,b6 (a7 rfl rfl (d8 (kD U (ad K (by decide)) ?_)))⟩))));refine e6 (.inl rfl) (c9 (o5 (C3 (I5 (w1 (a7 rfl rfl (A4 (l6 w) (vC w) vB R (C2.trans ((if_neg (by decide)).trans (C2.trans ((if_neg (by decide)).trans (C (by decide) f3))))) (by intro _ q;contradiction) (g9 (G8 rfl (W5 (j6 (a7 rfl rfl (i6 (oP (g9 (n5 (by simp;omega) (e7 (e7 ?_))))))))))))))))));exact h _ a k r.length (a+1+·) O R Y p4 Z
end
theorem wd(w:NQ):nsIn (KW w) cStatics sharingNotToldKey=some none:=by kernel_rfl
section
variable{w:NQ}{H:List O}{d mi:Nat}{xv va:V}{fs:List (Str×V)}{Q:QV}
noncomputable abbrev V2(fs:List (Str×V))(n:Str)(x:V):List (Str×V):=m7 (m7 (m7 fs n x) "matching_blocks" .none) "opcodes" .none
theorem we(c:H[mi]?=some (.inst 242 fs))(h:fs.lookup (aa "a")=some va)(j:K2 xv=some false)(g:va=.none\/∃y t' x t,va=.stk y t'/\xv=.stk x t)(hsz:fs.length<=12)(k:∀x t y t',xv=.stk x t->va=.stk y t'-> t=t'\/x=y ->Q .none H)(i:(∀x t y t',xv=.stk x t->va=.stk y t'->t≠t')->Q .none (H.set mi (.inst 242 (V2 fs "a" xv)))):j7 w (d+1) H (.st 174) [.ref mi,xv] Q:=by
 refine O2 (Ja w) (by rfl) (by rfl) ?_;have e:u7 (i7 (d0 5 3)) ["self","a"] [.ref mi,xv]=[nv "self" (.ref mi),nv "a" xv]:=by rfl
 rw[e];have rest:(∀x t y t',xv=.stk x t->va=.stk y t'->t≠t')->WB w ⟨i7 (d0 5 3),true,(o9 (ah8 w.params)).code⟩ d [nv "self" (.ref mi),nv "a" xv] H ((e9 (d0 5 3)).drop 2) (hE Q):=λa=>by refine c9 (k7 (a7 rfl rfl (E9 (a7 rfl rfl (E8 (l6 w) (dx w) cI c (ad hsz (by decide)) (c9 (R5 (J6 (E9 (a7 rfl rfl (E8 (l6 w) (jn w) jm (u5 c) (ad T2 (ad (bo hsz) (by decide))) ?_)))))))))));rw[cP];refine E9 (a7 rfl rfl (E8 (l6 w) (as7 w) as6 (u5 c) (ad T2 (ad (bo T2) (ad (bo (bo hsz)) (by decide)))) ?_));rw[cP];refine e7 ?_;exact i a
 refine c9 (s4 (l4 (c9 (o5 (j6 (a7 rfl rfl (w1 (a7 rfl rfl (A4 (l6 w) (dx w) cI c h (by rcases g with rfl|⟨_,_,_,_,rfl,_⟩<;>(intro _ q;cases q)) ?_)))))))));rcases g with rfl|⟨y,t',x,t,rfl,rfl⟩;·refine cg (b:=false) j ?_;refine g9 (n5 (by decide) (e7 ?_));exact rest λ_ _ _ _ _ q=>by injection q
 · refine uK (wd w) (λf=>?_) λa=>?_;·refine g9 ?_;refine s6 rfl (c9 (oE ?_));exact k x t y t' rfl rfl f
   ·refine g9 ?_;refine n5 (by decide) (e7 ?_);exact rest λ_ _ _ _ p q=>by cases p;cases q;exact a
theorem wg(L:b.Nodup)(E:b.length<=25)(a:H[mi]?=some (.inst 242 fs))(A:fs.lookup (aa "b")=some va)(M:s7 H xv b)(G:K2 xv=some false)(o:va=.none\/∃y t' x t,va=.stk y t'/\xv=.stk x t)(f2:fs.lookup (aa "isjunk")=some .none)(v:fs.lookup (aa "autojunk")=some (.bool true))(z:fs.lookup (aa "_SequenceMatcher__chain_b")=none)(hsz:fs.length<=12)(I:∀x t y t',xv=.stk x t->va=.stk y t'-> t=t'\/x=y ->Q .none H)(F:(∀x t y t',xv=.stk x t->va=.stk y t'->t≠t')->∀H' g h n p,k9 H H' mi->H'[mi]?=some (.inst 242 (chF (m7 (V2 fs "b" xv) "fullbcount" .none) g h n))->H'[g]?=some (dO (strKind pP w) (x7 b p))->(∀j,j<b.length->H'[p j]?=some (.list [.int (j:Nat)]))->H'[h]?=some (sO (strKind pP w) (λ_=>false) 0)->Q .none H'):j7 w (d+3) H (.st 181) [.ref mi,xv] Q:=by
 refine O2 (Jb w) (by rfl) (by rfl) ?_;have e:u7 (i7 (d0 5 4)) ["self","b"] [.ref mi,xv]=[nv "self" (.ref mi),nv "b" xv]:=by rfl
 rw[e];have rest:(∀x t y t',xv=.stk x t->va=.stk y t'->t≠t')->WB w ⟨i7 (d0 5 4),true,(o9 (ah9 w.params)).code⟩ (d+2) [nv "self" (.ref mi),nv "b" xv] H ((e9 (d0 5 4)).drop 2) (hE Q):=λc=>by
  refine c9 (k7 (a7 rfl rfl (E9 (a7 rfl rfl (E8 (l6 w) (X7 w) X6 a (ad hsz (by decide)) (c9 (R5 (J6 (E9 (a7 rfl rfl (E8 (l6 w) (jn w) jm (u5 a) (ad T2 (ad (bo hsz) (by decide))) ?_)))))))))));rw[cP];refine E9 (a7 rfl rfl ?_);have r:(m7 (m7 fs "b" xv) "matching_blocks" .none).length<=14:=ad T2 (bo (ad T2 (bo hsz)));have s:(V2 fs "b" xv).length<=15:=ad T2 (bo r);refine E8 (l6 w) (as7 w) as6 (u5 a) (ad r (by decide)) ?_;rw[cP];refine c9 (k7 (J6 (E9 (a7 rfl rfl (E8 (l6 w) (aB2 w) aB1 (u5 a) (ad s (by decide)) ?_)))));rw[cP];have m:=u5 (o':=.inst 242 (m7 (V2 fs "b" xv) "fullbcount" .none)) a;have k:=(k9.pre (aA H) mi).set (.inst 242 (m7 (V2 fs "b" xv) "fullbcount" .none));have f:=M.up (H':=H.set mi (.inst 242 (m7 (V2 fs "b" xv) "fullbcount" .none))) λl O e=>k l _ (λq=>by rw[q,a]at e;cases e) e;generalize H.set mi _=N at m k f⊢;refine c9 (s4 (o6 (pl:=λ_=>_) (a7 rfl rfl (j5 _ (J8 (l6 w) (JT w) (by kernel_rfl:(KW w).lookup 188=some (ao0 w.params)) rfl JU m ?_) (Jd w) ?_))));·rw[C2,if_neg (by decide),C2,if_neg (by decide),C2,if_neg (by decide),C2,if_neg (by decide)];exact z
  refine d8 (Lg (d:=d) L E m f (by rw[C2,if_neg (by decide),C2,if_neg (by decide),C2,if_neg (by decide),C2,if_pos rfl]) (C2.trans ((if_neg (by decide)).trans (C2.trans ((if_neg (by decide)).trans (C2.trans ((if_neg (by decide)).trans (C2.trans ((if_neg (by decide)).trans f2)))))))) (C2.trans ((if_neg (by decide)).trans (C2.trans ((if_neg (by decide)).trans (C2.trans ((if_neg (by decide)).trans (C2.trans ((if_neg (by decide)).trans v)))))))) (ad T2 (ad (bo s) (by decide))) λu g h n p J K B C D=>e7 ?_);exact F c u g h n p (k.trans J) K B C D
 refine c9 (s4 (l4 (c9 (o5 (j6 (a7 rfl rfl (w1 (a7 rfl rfl (A4 (l6 w) (X7 w) X6 a A (by rcases o with rfl|⟨_,_,_,_,rfl,_⟩<;>(intro _ q;cases q)) ?_)))))))));rcases o with rfl|⟨y,t',x,t,rfl,rfl⟩;·refine cg (b:=false) G ?_;refine g9 (n5 (by decide) (e7 ?_));exact rest λ_ _ _ _ _ q=>by injection q
 · refine uK (wd w) (λi=>?_) λc=>?_;·refine g9 ?_;refine s6 rfl (c9 (oE ?_));exact I x t y t' rfl rfl i
   ·refine g9 ?_;refine n5 (by decide) (e7 ?_);exact rest λ_ _ _ _ p q=>by cases p;cases q;exact c
end
structure z8(w:NQ)(H:List O)(mi:Nat)(a b:List Nat)(ta tb:V):Prop where ex:∃mb oc fc bj jk pp p,w5 w H mi a b ta tb mb oc fc bj jk pp p/\dy H a b mb/\kE H a b oc/\jw w H b fc
def ik(w:NQ)(H:List O)(e:Nat)(a b:List Nat)(g h:V):Prop:=∃c d f p,w5 w H e a b g h .none .none .none c d f p
theorem ik.smi(h:ik w H mi a b ta tb):z8 w H mi a b ta tb:=T8 h λd e f p c=>⟨_,_,_,d,e,f,p,c,.inl rfl,.inl rfl,.inl rfl⟩
section
variable{w:NQ}{H:List O}{d mi:Nat}{a b:List Nat}{ta tb:V}{Q:QV}
theorem aP8:k9 H (H.set mi o) mi:=(k9.pre (aA H) mi).set _
theorem io(h:s7 H v xs)(c:H[mi]?=some (.inst C fs))(k:k9 H H' mi):s7 H' v xs:=h.up λl f e=>k l _ (λq=>by rw[q,c]at e;exact by injection e with q;injection q) e
theorem Lh(c:w5 w H mi a b ta tb mb oc fc bj jk pp p)(k:k9 H H' mi)(h:H'[mi]?=some (.inst 242 (F3 ta' tb mb' oc' fc' (.ref bj) (.ref jk) (.ref pp))))(m:s7 H' ta' a'):w5 w H' mi a' b ta' tb mb' oc' fc' bj jk pp p:=by
 have f:∀{i:Nat}{o:O},H[i]?=some o->(∀C fs,o≠.inst C fs)->i≠mi:=λe l q=>by subst q;injection c.o.symm.trans e with e;subst e;exact l _ _ rfl
 exact⟨h,k _ _ (f c.d λ_ _ q=>by injection q) c.d,λj g=>k _ _ (f (c.l j g) λ_ _ q=>by injection q) (c.l j g),k _ _ (f c.s λ_ _ q=>by injection q) c.s,m,io c.sb c.o k⟩
theorem Li(I:z8 w H mi a b (.stk (S a) t) tb)(A:u=t->a'=a)(h:∀H' t',k9 H H' mi->z8 w H' mi a' b (.stk (S a') t') tb-> t'=u\/t'=t/\a'=a ->Q .none H'):j7 w (d+1) H (.st 174) [.ref mi,.stk (S a') u] Q:=by
 refine iG I.ex λl m g f i j p c B C v=>?_;refine we c.o (by rfl) (by rfl) (.inr (ll _ _ _ _ rfl rfl)) (by show 10<=12;decide) (λx E y F o r z=>?_) λD=>?_;·cases o;cases r;have s:a'=a:=z.elim A λq=>iZ.mp q;subst s;exact h H t (.pre (aA _) _) I (.inr ⟨rfl,rfl⟩)
 ·have e:k9 H (H.set mi (.inst 242 (V2 (F3 (.stk (S a) t) tb l m g (.ref f) (.ref i) (.ref j)) "a" (.stk (S a') u)))) mi:=aP8;have k:(H.set mi (.inst 242 (V2 (F3 (.stk (S a) t) tb l m g (.ref f) (.ref i) (.ref j)) "a" (.stk (S a') u))))[mi]?=some (.inst 242 (F3 (.stk (S a') u) tb .none .none g (.ref f) (.ref i) (.ref j))):=u5 c.o;generalize H.set mi _=n at e k⊢;exact h n u e ⟨_,_,_,_,_,_,_,Lh c e k .txt,.inl rfl,.inl rfl,v.kp c.o e⟩ (.inl rfl)
theorem Lj(I:z8 w H mi a b ta (.stk (S b) t))(A:b'.Nodup)(r:b'.length<=25)(v:u=t->b'=b)(h:∀H' t',k9 H H' mi->z8 w H' mi a b' ta (.stk (S b') t')-> t'=u\/t'=t/\b'=b ->Q .none H'):j7 w (d+3) H (.st 181) [.ref mi,.stk (S b') u] Q:=by
 refine iG I.ex λL M D C K N p c E F G=>?_;refine wg A r c.o (by rfl) .txt (by rfl) (.inr (ll _ _ _ _ rfl rfl)) (by rfl) (by rfl) (by rfl) (by show 10<=12;decide) (λx O y P j k s=>?_) λJ H' e f g B i z m n o=>?_;·cases j;cases k;have l:b'=b:=s.elim v λq=>iZ.mp q;subst l;exact h H t (.pre (aA _) _) I (.inr ⟨rfl,rfl⟩)
 ·exact h H' u i ⟨_,_,_,e,f,g,B,⟨z,m,n,o,io c.sa c.o i,.txt⟩,.inl rfl,.inl rfl,.inl rfl⟩ (.inl rfl)
theorem Ll(I:z8 w H mi a b ta tb)(f:a.length<=25)(g:b.length<=25)(e:a.length≠0)(h:Q (.flt (P0 (min a.length b.length) (a.length+b.length))) H):j7 w (d+2) H (.st 239) [.ref mi] Q:=by refine iG I.ex λo q j i n r p c k l m=>?_;exact KV c f g e h
theorem Lm(R:Rows a b)(I:z8 w H mi a b (.stk (S a) t) (.stk (S b) u))(n:a.length<=25)(o:b.length<=25)(i:a.length≠0)(h:∀H',k9 H H' mi->z8 w H' mi a b (.stk (S a) t) (.stk (S b) u)->Q (.flt (P0 (Y0 a b) (a.length+b.length))) H'):j7 w (d+2) H (.st 232) [.ref mi] Q:=by refine iG I.ex λv x r q s y p c j l m=>?_;exact La R c m n o i λH' g k e f=>h H' k ⟨_,_,_,_,_,_,_,e,j.kp c.o k,l.kp c.o k,f⟩
noncomputable abbrev fs4:List (Str×V):=[("isjunk",.none),("a",.none),("b",.none),("autojunk",.bool true)]
theorem Ln(v:b.Nodup)(r:b.length<=25)(y:s7 H ta a)(k:s7 H tb b)(u:K2 ta=some false)(j:K2 tb=some false)(c:H[mi]?=some (.inst 242 fs4))(h:∀H',k9 H H' mi->ik w H' mi a b ta tb->Q .none H'):j7 w (d+4) H (.st 167) [.ref mi,ta,tb] Q:=by
 refine O2 (IY w) (by rfl) (by rfl) ?_;have e:u7 (i7 (d0 5 2)) ["self","a","b"] [.ref mi,ta,tb]=[nv "self" (.ref mi),nv "a" ta,nv "b" tb]:=by rfl
 rw[e];refine c9 (s4 (l4 (c9 (s4 (o6 (pl:=λ_=>_) (a7 rfl rfl (j5 _ (J8 (l6 w) (vF w) (by kernel_rfl:(KW w).lookup 174=some (ah8 w.params)) rfl vG c (by rfl)) (vl w) ?_)))))));refine b6 (a7 rfl rfl (d8 (we c (by rfl) u (.inl rfl) (by decide) (λ_ _ _ _ _ q=>by injection q) λ_=>?_)));have f:k9 H (H.set mi (.inst 242 (V2 fs4 "a" ta))) mi:=aP8;have i:=u5 (o':=.inst 242 (V2 fs4 "a" ta)) c;generalize H.set mi _=z at f i⊢;refine c9 (s4 (o6 (pl:=λ_=>_) (a7 rfl rfl (j5 _ (J8 (l6 w) (vH w) (by kernel_rfl:(KW w).lookup 181=some (ah9 w.params)) rfl vI i (by rfl)) (vm w) ?_))));refine b6 (a7 rfl rfl (d8 (wg v r i (by rfl) (io k c f) j (.inl rfl) (by rfl) (by rfl) (by rfl) (by show 6<=12;decide) (λ_ _ _ _ _ q=>by injection q) λ_ H' l s x p g t m n o=>e7 ?_)));exact h H' (f.trans g) ⟨l,s,x,p,t,m,n,o,io y c (f.trans g),io k c (f.trans g)⟩
theorem wh{mi':Nat}(l:b.Nodup)(i:b.length<=25)(m:s7 H ta a)(n:s7 H tb b)(k:K2 ta=some false)(f:K2 tb=some false)(c:H[mi]?=some (.inst 242 []))(h:∀H',k9 H H' mi->ik w H' mi a b ta tb->Q .none H'):WB w ⟨i7 (d0 5 1),true,(o9 (Y9 w.params)).code⟩ (d+4) [nv "self" (.ref mi),nv "isjunk" .none,nv "a" ta,nv "b" tb,nv "autojunk" (.bool true)] H (e9 (d0 5 1)) (hE Q):=by refine c9 (s4 (l4 (c9 (k7 (a7 rfl rfl (E9 (a7 rfl rfl (E8 (l6 w) (vA w) vz c (by decide) (c9 (R5 (J6 (E9 (a7 rfl rfl (E8 (l6 w) (dx w) cI (u5 c) (by decide) ?_))))))))))))));rw[cP];refine E9 (a7 rfl rfl (E8 (l6 w) (X7 w) X6 (u5 c) (by decide) ?_));rw[cP];refine c9 (k7 (a7 rfl rfl (E9 (a7 rfl rfl (E8 (l6 w) (vC w) vB (u5 c) (by decide) ?_)))));rw[cP];refine c9 (s4 (o6 (pl:=λ_=>_) (a7 rfl rfl ?_)));have g:(H.set mi (.inst 242 fs4))[mi]?=some (.inst 242 fs4):=u5 c;have e:k9 H (H.set mi (.inst 242 fs4)) mi:=aP8;refine j5 _ (J8 (l6 w) (JR w) (by kernel_rfl:(KW w).lookup 167=some (au0 w.params)) rfl JS g (by rfl)) (IZ w) ?_;refine b6 (a7 rfl rfl (b6 (a7 rfl rfl (d8 (Ln (d:=d) l i (io m c e) (io n c e) k f g λH' j I=>e7 ?_)))));exact h H' (e.trans j) I
theorem cO8(w:NQ)(s:NR)(us:List NS)(B:Bs w s.heap)(e:us.length=2):BindsTo s (o9 (Y9 w.params)) ⟨us,[]⟩ ((["self","isjunk","a","b","autojunk"]:List Str).zip (us++[.str "" 404,.str "" 405,.bool true])):=by refine z9 (aa5 e) λf g c=>?_;subst c;exact BindsTo.of_defaults (T:=153) (o:=aF0 w.params) (n:=0) (items:=#[.none,.str "" 404,.str "" 405,.bool true]) (by rfl) (B.k _ _ (by kernel_rfl)) (by rfl) (by rfl) (by rfl)
theorem Lo(w:NQ)(s:NR)(us:List NS)(B:Bs w s.heap)(e:us.length=4):BindsTo s (o9 (Y9 w.params)) ⟨us,[]⟩ ((["self","isjunk","a","b","autojunk"]:List Str).zip (us++[.bool true])):=by refine T8 (aK7 e) λf g h i c=>?_;subst c;exact BindsTo.of_defaults (T:=153) (o:=aF0 w.params) (n:=0) (items:=#[.none,.str "" 404,.str "" 405,.bool true]) (by rfl) (B.k _ _ (by kernel_rfl)) (by rfl) (by rfl) (by rfl)
theorem Lp(c:H[mi]?=some (.inst 242 []))(h:∀H',k9 H H' mi->z8 w H' mi [] [] (.stk (S []) 404) (.stk (S []) 405)->Q .none H'):j7 w (d+5) H (.st 160) [.ref mi,.none] Q:=by
 refine jW (ds:=[.stk "" 404,.stk "" 405,.bool true]) (dv:=[.str "" 404,.str "" 405,.bool true]) (bm5 w) (by rfl) (by rfl) (λi h=>.cons (az9 (by decide)) (.cons (az9 (by decide)) (.cons rfl .nil))) (λs g B f=>cO8 w s g B f) ?_;have e:u7 (i7 (d0 5 1)) ["self","isjunk","a","b","autojunk"] ([.ref mi,.none]++[.stk "" 404,.stk "" 405,.bool true])=[nv "self" (.ref mi),nv "isjunk" .none,nv "a" (.stk (S []) 404),nv "b" (.stk (S []) 405),nv "autojunk" (.bool true)]:=by rfl
 rw[e];exact wh (mi':=0) .nil (bq _) .txt .txt rfl rfl c λH' k I=>h H' k I.smi
theorem Lq(k:b.Nodup)(f:b.length<=25)(l:s7 H ta a)(m:s7 H tb b)(j:K2 ta=some false)(c:K2 tb=some false)(g:H[mi]?=some (.inst 242 []))(h:∀H',k9 H H' mi->ik w H' mi a b ta tb->Q .none H'):j7 w (d+5) H (.st 160) [.ref mi,.none,ta,tb] Q:=by
 refine jW (ds:=[.bool true]) (dv:=[.bool true]) (bm5 w) (by rfl) (by rfl) (λo h=>.cons rfl .nil) (λs n B i=>Lo w s n B i) ?_;have e:u7 (i7 (d0 5 1)) ["self","isjunk","a","b","autojunk"] ([.ref mi,.none,ta,tb]++[.bool true])=[nv "self" (.ref mi),nv "isjunk" .none,nv "a" ta,nv "b" tb,nv "autojunk" (.bool true)]:=by rfl
 rw[e];exact wh (mi':=0) k f l m j c g h
theorem Lr(R:Rows a b)(I:ik w H mi a b ta tb)(i:a.length<=25)(j:b.length<=25)(h:∀H' an c,k9 H H' mi->z8 w H' mi a b ta tb->H'[an]?=some (.list ((G6 0 0 c).map X9))->y7 a b 0 0 c->V1 a b c->H.length<=an->Q (.ref an) H'):j7 w (d+6) H (.st 210) [.ref mi] Q:=by
 refine T8 I λq r s p f=>?_;try clear I
 exact KU R f (.inl rfl) (.inl rfl) i j λH' o an c k g m l C e n=>h H' an c k ⟨_,_,_,_,_,_,_,g,m,.inr (V9 an c rfl l C e),.inl rfl⟩ l C e (n rfl)
theorem Lu(h:∀H',k9 (H++[.inst 242 []]) H' H.length->z8 w H' H.length [] [] (.stk (S []) 404) (.stk (S []) 405)->Q (.ref H.length) H'):j7 w (d+6) H (.st 242) [.none] Q:=pb (oI:=Y9 w.params) (l6 w) (by kernel_rfl:nsIn (KW w) 241 "__init__"=some (some (.ref 160))) (by kernel_rfl) (by rfl) (Lp (d:=d) ao λH' k I=>⟨rfl,h H' k I⟩)
theorem Lv(i:b.Nodup)(f:b.length<=25)(j:s7 H ta a)(l:s7 H tb b)(g:K2 ta=some false)(c:K2 tb=some false)(h:∀H',k9 (H++[.inst 242 []]) H' H.length->ik w H' H.length a b ta tb->Q (.ref H.length) H'):j7 w (d+6) H (.st 242) [.none,ta,tb] Q:=pb (oI:=Y9 w.params) (l6 w) (by kernel_rfl:nsIn (KW w) 241 "__init__"=some (some (.ref 160))) (by kernel_rfl) (by rfl) (Lq (d:=d) i f (j.up λ_ _ e=>n7 (aH _ _) e) (l.up λ_ _ e=>n7 (aH _ _) e) g c ao λH' k I=>⟨rfl,h H' k I⟩)
end
theorem Y1(w:NQ):W8 (KW w) 313 312 where
 cl:=⟨"Differ","Differ",[.type "object"],[],[],none,none,none,none,some (.str "Differ" 602),some (.str "Differ" 610),some (.bool true),by kernel_rfl⟩
 ns:=by kernel_rfl
 ga:=by kernel_rfl
 gh:=by kernel_rfl
 sa:=by kernel_rfl
noncomputable def I9:List (Str×V):=[("linejunk",.none),("charjunk",.none)]
theorem wi:bA (.type "object") "linejunk"=pure none:=by rw[bd,aO];kernel_rfl
theorem wj:bA (.type "object") "charjunk"=pure none:=by rw[bd,aO];kernel_rfl
theorem Lw(w:NQ):nsIn (KW w) 312 "linejunk"=some none:=by kernel_rfl
theorem Lx(w:NQ):nsIn (KW w) 312 "charjunk"=some none:=by kernel_rfl
theorem Ly:bA (.type "object") "_dump"=pure none:=by rw[bd,aO];kernel_rfl
theorem Lz:bA (.type "object") "_plain_replace"=pure none:=by rw[bd,aO];kernel_rfl
theorem LC:bA (.type "object") "_fancy_replace"=pure none:=by rw[bd,aO];kernel_rfl
theorem LE:bA (.type "object") "compare"=pure none:=by rw[bd,aO];kernel_rfl
theorem ip(a:H[i]?=some (.inst 313 I9)):I4 w H (.ref i) "_dump" (.st 282):=J8 (of:=ao6 w.params) (Y1 w) (by kernel_rfl) (by kernel_rfl) (by rfl) Ly a (by rfl)
theorem LF(a:H[i]?=some (.inst 313 I9)):I4 w H (.ref i) "_plain_replace" (.st 289):=J8 (of:=ao7 w.params) (Y1 w) (by kernel_rfl) (by kernel_rfl) (by rfl) Lz a (by rfl)
theorem LG(a:H[i]?=some (.inst 313 I9)):I4 w H (.ref i) "_fancy_replace" (.st 296):=J8 (of:=ao8 w.params) (Y1 w) (by kernel_rfl) (by kernel_rfl) (by rfl) LC a (by rfl)
theorem wk(a:H[i]?=some (.inst 313 I9)):I4 w H (.ref i) "compare" (.st 275):=J8 (of:=ao5 w.params) (Y1 w) (by kernel_rfl) (by kernel_rfl) (by rfl) LE a (by rfl)
theorem LH(w:NQ):y5 (KW w) (.st 313):=by show keepIn _ _=true;kernel_rfl
theorem LI(I:z8 w H mi a b ta tb):I4 w H (.ref mi) "set_seq1" (.st 174):=by refine iE I.ex λg h e d f i p c _=>?_;exact J8 (l6 w) (vF w) (by kernel_rfl:(KW w).lookup 174=some (ah8 w.params)) rfl vG c.o (by rfl)
theorem LJ(I:z8 w H mi a b ta tb):I4 w H (.ref mi) "set_seq2" (.st 181):=by refine iE I.ex λg h e d f i p c _=>?_;exact J8 (l6 w) (vH w) (by kernel_rfl:(KW w).lookup 181=some (ah9 w.params)) rfl vI c.o (by rfl)
theorem LK(I:z8 w H mi a b ta tb):I4 w H (.ref mi) "real_quick_ratio" (.st 239):=by refine iE I.ex λg h e d f i p c _=>?_;exact J8 (l6 w) (Kd w) (by kernel_rfl:(KW w).lookup 239=some (au1 w.params)) rfl Ke c.o (by rfl)
theorem LL(I:z8 w H mi a b ta tb):I4 w H (.ref mi) "quick_ratio" (.st 232):=by refine iE I.ex λg h e d f i p c _=>?_;exact J8 (l6 w) (Kb w) (by kernel_rfl:(KW w).lookup 232=some (ao3 w.params)) rfl Kc c.o (by rfl)
theorem LM(I:z8 w H mi a b ta tb):I4 w H (.ref mi) "get_opcodes" (.st 210):=by refine iE I.ex λg h e d f i p c _=>?_;exact J8 (l6 w) (JZ w) (by kernel_rfl:(KW w).lookup 210=some (ao2 w.params)) rfl Ka c.o (by rfl)
section
variable{w:NQ}{d:Nat}{H:List O}{Q:QV}
theorem wl(e:(gw x y==some .gt)=b)(h:Q (.bool b) H):W2 w d VR H (cD .Gt) (.flt x) (.flt y) Q:=λA F m s u v j S g i=>by refine a9 g.flt_eq λt k a=>?_;subst a;refine a9 i.flt_eq λl f c=>?_;subst c;exact AutoFloatOps.gt_0 (by rw[e];exact B4 S C0 h)
theorem LN(e:(gw x y==some .lt)=b)(h:Q (.bool b) H):W2 w d VR H (cD .Lt) (.flt x) (.flt y) Q:=λA F m s u v j S g i=>by refine a9 g.flt_eq λt k a=>?_;subst a;refine a9 i.flt_eq λl f c=>?_;subst c;exact AutoFloatOps.lt_0 (by rw[e];exact B4 S C0 h)
end
section
variable{w:NQ}{fi:FI}{d:Nat}{m:b9}{H:List O}{X:String}{msg:Option Str}{Q:List O->Prop}
theorem wm(h:WX w fi d m H e X msg Q)(b:autoParam (∀env,swapsWithSole [t] e pos.line env=pure false) NY._auto_1)(c:autoParam (∀env,bL [t] e env=pure none) NY._auto_1):SX w fi d m H (.Assign [t] e pos) X msg Q:=λA env F f s a S=>wpAny_Assign_stores (ar (h A env F f s a S) (λ_ _ x=>x.elim) λ_ _ x=>x) (b env) (c env)
end
section
variable{w:NQ}{fi:FI}{d:Nat}{m:b9}{H:List O}
theorem wo(z:∀env:Env,env.scope=fi.sc->bL [t] value env=pure none)(h:WE w fi d m H value λv b=>WA w fi d m b t v λf a=>Q .next f a)(y:autoParam (∀env,swapsWithSole [t] value pos.line env=pure false) NY._auto_1)(q:autoParam (∀env,dY [t] env=[(false,cO t env)]) NY._auto_1):WS w fi d m H (.Assign [t] value pos) Q:=λA env F C s l S=>by refine wpAny_Assign_stores (ar (h A env F C s l S) (λu e B=>?_) λ_ _ x=>x) (y env) (z env S.es);obtain⟨j,b,v,g,n,r,c⟩:=B;rw[q env];exact q9 (c A env F j e u l n r) λ_ D=>AQ.el λk a f i o p=>⟨k,a,f,.next,g.trans i,o,rfl,p⟩
end
theorem wq(k:k9 H H' mi)(h:mi<H'.length):H.length<=H'.length:=by refine bf λq=>?_;have a:H'.length≠mi:=bg (aP h);have b:=k _ _ a (aw q);exact absurd (ab.mp b).1 (Nat.lt_irrefl _)
section
variable{w:NQ}{d:Nat}{m:b9}{H:List O}{Q:QV}{fi:FI}
theorem qh{a:Nat}{K:List (NS×NS)->NR->Prop}(h:WE w fi d m H v Q)(g:j0 A d (n6 env F))(S:d6 w fi env m F ρ H s.heap (gt s))(i:∀t ρ' H' x u s',e8 ρ s ρ' s'->d6 w fi env m F ρ' H' s'.heap (gt s')->VR ρ' s'.heap x u->Q x H'->aJ (ay pP w) A (evalPairs rest) (λo l=>K ((.str k t,u)::o) l) nE s'):aJ (ay pP w) A (evalPairs ((eval (.Constant (.str k) a p) env,do let x<-eval v env;dl pos;pure x)::rest)) K nE s:=by refine evalPairs_cons (eP ?_);have n:e8 ρ s ρ {s with toks:=s.toks+1}:=.same (.refl _) rfl (ae _);refine ac (ar (h A env F ρ {s with toks:=s.toks+1} g (S.tk (aN _))) (λu e j=>?_) λ_ _ x=>x);obtain⟨y,c,x,b,f,r,q⟩:=j;exact ac (cM (aq (i _ _ _ _ _ _ (n.trans b) f r q)))
theorem wr{g i j:Str}{a1 a2 a3:Nat}{p1 p2 p3 k:Pos}{v1 v2 v3:Expr}(hm:g≠i/\g≠j/\i≠j)(h:WE w fi d m (H++[dO (strKind pP w) []]) v1 λB H1=>WE w fi d m H1 v2 λC H2=>WE w fi d m H2 v3 λD K=>K[H.length]?=some (dO (strKind pP w) [])/\Q (.ref H.length) (K.set H.length (dO (strKind pP w) [(g,B),(i,C),(j,D)]))):WE w fi d m H (.Dict [some (.Constant (.str g) a1 p1),some (.Constant (.str i) a2 p2),some (.Constant (.str j) a3 p3)] [v1,v2,v3] k) Q:=λA c F J s O S=>by
 refine wpAny_Dict_pairs (knd:=strKind pP w) (pairs:=[(eval (.Constant (.str g) a1 p1) c,do let x<-eval v1 c;dl k;pure x),(eval (.Constant (.str i) a2 p2) c,do let x<-eval v2 c;dl k;pure x),(eval (.Constant (.str j) a3 p3) c,do let x<-eval v3 c;dl k;pure x)]) rfl (by simp) (by simp) ?_;have X:u0 s.heap (s.heap.push {cls:=.type "dict",data:=.dict #[]}):=λ_ _ e=>aD _ e;have hD:=NV.DictOf.new (knd:=strKind pP w) s.heap;have u:(s.heap.objs.size==sysModules)=false:=by refine b8 S.b.g λmg v=>?_;refine E5 v λo es ep U _=>?_;clear v;have:=fR U;refine beq_eq_false_iff_ne.mpr λq=>?_;rw[q]at this;exact absurd this (by decide)
 refine E5 (id hD) λo _ _ U _=>?_;have T:=S.toH.alloc (o:=dO (strKind pP w) []) X (z5 _) ⟨o,U⟩ (j8 rfl rfl (ge u ([]) hD rfl .nil) (bS.stab _ _));have S0:=S.ofH (aH _ _) (.of_keep X) T;have Y:e8 J s (J++[⟨s.heap.objs.size,[s.heap.objs.size],none⟩]) {s with heap:=s.heap.push {cls:=.type "dict",data:=.dict #[]}}:=.add (.of_keep X) rfl (ae _);have a4:∀{ρ':List c8}{s':NR}{e:NS}{y:NR},e8 J s ρ' s'->nE e y->nE e y:=λst x=>x;refine ar (qh h O S0 λt1 a5 H1 B E s1 z S1 r1 h1=>ar (qh h1 O S1 λt2 a6 H2 C G s2 l S2 r2 r=>ar (qh r O S2 λt3 Z K D I s3 f L r3 N=>evalPairs_nil ?_) (λ_ _ x=>x) λ_ _ x=>x) (λ_ _ x=>x) λ_ _ x=>x) (λ_ _ x=>x) λ_ _ x=>x;have el:(J++[⟨s.heap.objs.size,[s.heap.objs.size],none⟩]:List c8)[H.length]?=some ⟨s.heap.objs.size,[s.heap.objs.size],none⟩:=by rw[<-S.hs.len,ao]
 have M:=x6 ((z.trans l).trans f).1 el;refine ff (L.toH.dict N.1 M) λ_ a0 us t W _=>?_;cases us with|cons a b=>injection W|nil=>
 refine j5 ([(g,E),(i,G),(j,I)]) ⟨strKind_is pP w _ _,rfl,strKind_is pP w _ _,rfl,strKind_is pP w _ _,rfl,trivial⟩ t λh' hd hs=>?_;have em:merged ([]:List (Str×NS)) [(g,E),(i,G),(j,I)]=[(g,E),(i,G),(j,I)]:=by
  refine n8 hm λB C D=>?_;try clear hm
  simp[merged,stored,B,C,D]
 rw[em]at hd;refine P9 (id t) λo3 es ep V R P _=>?_;have tk:TK s3.heap h':=.of_ext (a:=s.heap.objs.size) (λb o hb q=>(hs.2 b hb).trans q) λo2 r=>by
  injection V.symm.trans r with r;subst r;rintro(⟨⟨xs,n,q⟩,_⟩|⟨q,_⟩);·injection P.symm.trans q
  ·rw[R.1]at q;exact absurd q (by decide)
 refine d7 (L.toH.dictTurn (tk:=s3.toks+3) N.1 M hs (kvs':=[(g,B),(i,C),(j,D)]) (ge u ([(g,E),(i,G),(j,I)]) hd rfl (.cons ((r1.mono l.1 l.2.1).mono f.1 (f.2.1.trans tk)) (.cons (r2.mono f.1 (f.2.1.trans tk)) (.cons (r3.mono (aA _) tk) .nil))))) λp T4=>?_;refine⟨Z,_,.ref H.length,Y.trans (z.trans (l.trans (f.trans p))),(L.ofH p.1 p.2.1 T4).tk (aU _ _),?_,N.2⟩;exact b7 _ M rfl
end
section
variable{w:NQ}{d:Nat}{H:List O}{Q:QV}
theorem mM{ρ:List c8}{h:NV}{L:List (Nat×Nat)}:∀{us:List NS},e5 ρ h (L.map l9) us->StrsAre us (L.map λp=>S [p.1]):=by induction L with|nil=>exactλr=>r.nil_eq▸.nil|cons y ys c=>exactλr=>i8 r.cons_eq λv q e a b=>e▸d7 a λ_ f=>f▸.cons _ _ (c b)
theorem LO{l c t:Nat}{L:List (Nat×Nat)}(q:gX H l (L.map l9))(h:Q (.bool (decide (c∈L.map (·.1)))) H):W2 w d VR H (cD .In) (.stk (S [c]) t) (.ref l) Q:=λA F B s u v y T n r=>by
 refine d7 n λ_ i=>?_;try clear n;subst i
 refine a9 r.ref_eq λe o j=>?_;subst j;refine a9 (T.list q o) λz a b=>?_;refine in_list_strs a (mM b) (B4 T C0 ?_);have:(L.map λp=>S [p.1]).any (·==S [c])=decide (c∈L.map (·.1)):=by
  rw[Bool.eq_iff_iff,List.any_eq_true,decide_eq_true_iff];constructor;· refine A8 λx g e=>?_;refine a9 (bp.mp g) λp f k=>?_;subst k;exact bp.mpr (b7 p f (jo.mp (by simpa using e)))
  ·intro g;refine a9 (bp.mp g) λp f m=>?_;subst m;exact b7 _ (bp.mpr (b7 p f rfl)) (by simp)
 rw[this];exact h
theorem bs2(i:H[l]?=some (.list xs)):I4 w H (.ref l) "index" (.bi "list.index"):=λA F o s u k K j S r h=>by refine a9 r.ref_eq λe g c=>?_;subst c;refine w6 (S.ob l e _ g i) λ_ _ m f b=>?_; refine b8 f λn a=>?_;exact getMethod_builtin (b7 _ a rfl) PySem.F.plainAttrs_list PySem.F.slot_list_index (by kernel_rfl) (λ_ q=>by injection q with q;subst q;exact b7 _ a rfl) (h _ jX)
noncomputable def mO(x:Str):NS->Bool|.str y _=>y.cps.toList==x.cps.toList|_=>false
theorem LP(h:StrsAre us ys):∀y,y∈us->MeetsSeq.EqGives y (.str x t) (mO x y):=by induction h with|nil=>intro y hy;exact absurd hy List.not_mem_nil|cons z u _ a=>
  intro y hy;rcases az.mp hy with rfl|hy;·exact SeqRoads2.EqGives.str _ _ _ _
  ·exact a y hy
theorem ws{c:Nat}{us:List NS}{xs:List Str}(h:StrsAre us xs):∀{L:List (Nat×Nat)},(L.map λp=>S [p.1])=xs->∀j(h:j<us.length),mO (S [c]) us[j]=decide ((L.map (·.1))[j]?=some c):=by induction h with
 |nil=>exactλ_ j a=>absurd a (dQ j)|cons y t r b=>intro L e j a;cases L with|nil=>cases e|cons p L=>cases j with|zero=>
    rw[<-(List.cons.inj e).1];have:mO (S [c]) (.str (S [p.1]) t)=(p.1==c):=by show([p.1]==[c])=(p.1==c);simp
    refine this.trans ?_;rw[show((p::L).map (·.1))[0]?=some p.1 from rfl,Bool.eq_iff_iff,decide_eq_true_iff,beq_iff_eq,Option.some_inj]|succ j=>exact b (List.cons.inj e).2 j (Nat.lt_of_succ_lt_succ a)
theorem bs4{l c t j:Nat}{L:List (Nat×Nat)}(K:H[l]?=some (.list (L.map l9)))(hz:L.length<=aF)(E:(L.map (·.1))[j]?=some c)(B:∀i,i<j->(L.map (·.1))[i]?≠some c)(h:Q (.int (j:Int)) H):j7 w d H (.bi "list.index") [.ref l,.stk (S [c]) t] Q:=λA F R s u W U T O r=>by
 rw[O.bi_eq];refine i8 r.cons_eq λv q C P N=>?_;subst C;refine i8 N.cons_eq λX V k x D=>?_;subst k;rw[D.nil_eq];refine a9 P.ref_eq λe I m=>?_;subst m;refine d7 x λ_ o=>?_;try clear x;subst o
 refine w6 (T.ob l e _ I K) λ_ _ G p b=>?_; refine b8 p λn a=>?_;have f:G.length=L.length:=by rw[b.len,ak]
 have g:j<L.length:=by have:=(ab.mp E).1;rwa[ak]at this
 rw[sizeLine_eq]at hz;refine call_meets PySem.F.slot_list_index (b7 _ a rfl) PySem.F.entry_list_index (PySem.F.args_list_index_2 _ _) (MeetsSeq.list_index e.a G.toArray n (.str (S [c]) t) (mO (S [c])) (λy M=>LP (mM b) y (by simpa using M)) j (by simpa[f]using g) (Int.lt_of_lt_of_le (aQ.mpr g) (Int.le_trans (Int.ofNat_le.mpr hz) (by decide))) (by have:=ws (c:=c) (mM b) rfl j (by exact CU f g);simpa[E]using this) λi J z=>by have:=ws (c:=c) (mM b) rfl i (Nat.lt_of_lt_of_eq J aZ);rw[decide_eq_false (B i z)]at this;simpa using this) ⟨a,?_⟩;exact⟨R,H,.int j,.same (.refl _) rfl (ae _),T.tk (aN _),Q9,h⟩
end
section
set_option tactic.hygienic true
def GB(g a:Array GenState):Prop:=∀(k:Nat)(z:GenState),a[k]?=some z->z.bare=false->g[k]?=some z
theorem GB.refl{g:Array GenState}:GB g g:=λ_ _ h _=>h
theorem GB.trans{g d c:Array GenState}(a:GB g d)(b:GB d c):GB g c:=λk z h e=>a k z (b k z h e) e
theorem GB.set{s:NR}{g:Nat}{x:GenState}(b:x.bare=true):GB s.gens (s.setGen g x).gens:=λk z h a=>by
 have h:(s.gens.setIfInBounds g x)[k]?=some z:=h;rw[Array.getElem?_setIfInBounds]at h;by_cases q:g=k
 · rw[if_pos q]at h;by_cases q':g<s.gens.size;·rw[if_pos q']at h;cases h;rw[b]at a;cases a
   ·rw[if_neg q']at h;cases h
 ·rwa[if_neg q]at h
theorem GB.push{g:Array GenState}{c:Code}:GB g (g.push (.fresh c)):=λk z h a=>by
 rw[Array.getElem?_push]at h;by_cases q:k=g.size;·rw[if_pos q]at h;cases h;cases a
 ·rwa[if_neg q]at h
theorem Runs.gb{M:Model}{Γ:Ctx}{p:Pos}{t:Sem Fin}{fs:List Frame}{s s':NR}{e:End}(h:Runs M Γ p t fs s e s'):GB s.gens s'.gens:=by
 induction h;all_goals first|exact .refl|assumption| rename_i a b;exact GB.trans a b |skip
 case newGen d=>exact GB.trans .push d
 case resumeFresh c _ a b=>exact(GB.set rfl).trans (a.trans ((GB.set (End.bare_of_quiet c)).trans b))
 case resumeSuspended c _ a b=>exact(GB.set rfl).trans (a.trans ((GB.set (End.bare_of_quiet c)).trans b))
 case resumeThrowFresh d=>exact(GB.set rfl).trans d
 case segGen a b=>exact a.trans ((GB.set rfl).trans b)
 case segSuspGen c _ a b=>exact a.trans ((GB.set (End.bare_of_quiet c)).trans b)
theorem Wakes.gb{M:Model}{Γ:Ctx}{p:Pos}{g:Nat}{r:Resume}{s s':NR}{d:GenResult}(h:Wakes M Γ p g r s d s'):GB s.gens s'.gens:=by unfold Wakes at h;cases q:s.gens[g]? with|none=>rw[q]at h;exact h.elim|some i=>rw[q]at h;cases i with
  |fresh _=>cases r with
   |send v=>cases v<;>first|exact ai2 h λf a c b _ e=>e▸(GB.set rfl).trans ((Runs.gb c).trans (GB.set (End.bare_of_quiet b)))|exact h.2▸.refl
   |throw _=>exact h.2▸GB.set rfl
  |suspended _ _ _ _ _ _=>exact ai2 h λf a c b _ e=>e▸(GB.set rfl).trans ((Runs.gb c).trans (GB.set (End.bare_of_quiet b)))|running=>exact h.2▸.refl|finished=>exact h.2▸.refl
theorem LQ{v:Type}(M:Model)(Γ:Ctx)(l:Array GenState)(t:Sem v):∀(Q:v->Pos->NR->Prop)(E:NS->Pos->NR->Prop)(p:Pos)(s:NR),GB l s.gens->Sem.wp M Γ t Q E p s->Sem.wp M Γ t (λa i s'=>GB l s'.gens/\Q a i s') (λe i s'=>GB l s'.gens/\E e i s') p s:=by induction t with|pure a=>exactλQ E p s b h=>⟨b,h⟩|raise e=>exactλQ E p s b h=>⟨b,h⟩|unsupported _=>exactλQ E p s _ h=>h|finish _=>exactλQ E p s _ h=>h|rule _ k d=>exactλQ E p s b h=>d () Q E p s b h|«at»i k d=>exactλQ E p s b h=>d () Q E i s b h|load a _ k d=>exactλQ E p s b=>A8 λo w h=>b7 o w (d o Q E p s b h) |update a _ f k d=>exactλQ E p s b h=>⟨h.1,d () Q E p _ b h.2⟩|loadIfAlive a k d=>exactλQ E p s b h=>d _ Q E p s b h|point _ k d=>exactλQ E p s b h=>d () Q E p s b h|register _ _=>exactλQ E p s _ h=>h|alloc o k d=>exactλQ E p s b h=>d _ Q E p _ b h|fresh k d=>exactλQ E p s b h=>d _ Q E p _ b h|ask k d=>exactλQ E p s b h=>d _ Q E p s b h|choose src m k d=>exactλQ E p s b h=>⟨h.1,d _ Q E p _ b h.2⟩|os q _ k d=>exactλQ E p s b h=>d _ Q E p _ b h|call c z _ _ k d=>exactλQ E p s b=>fu λr s' n h=>G7 r s' n (d r Q E p s' (b.trans (Runs.gb n)) h) |handled own k d=>exactλQ E p s b h=>d _ Q E p s b h|genState g k d=>exactλQ E p s b=>A8 λy x h=>b7 y x (d _ Q E p s b h) |newGen c k d=>exactλQ E p s b h=>d _ Q E p _ (b.trans .push) h|resume g r _ k d=>exactλQ E p s b=>fu λj s' u h=>G7 j s' u (d j Q E p s' (b.trans (Wakes.gb u)) h) |yield _ _ _ _=>exactλQ E p s _ h=>h|stack k d=>exactλQ E p s b h=>d _ Q E p s b h|fork _ _=>exactλQ E p s _ h=>h|thread k d=>exactλQ E p s b h=>d _ Q E p s b h|await _ _ _ _ _=>exactλQ E p s _ h=>h
theorem LR{d:Type}{M:Model}{A:NT}{s:NR}{t:Sem d}{Q:d->NR->Prop}{E:VP}(h:aJ M A t Q E s):aJ M A t (λa s'=>GB s.gens s'.gens/\Q a s') (λe s'=>GB s.gens s'.gens/\E e s') s:=λc p b=>LQ M c s.gens t _ _ p s .refl (h c p b)
def YY(H:List O)(k:Nat):Prop:=∃x,H[k]?=some x/\D1 x=true
def iq(H H':List O):Prop:=∀k,YY H' k->YY H k
theorem LS{ρ:List c8}(h:((ρ.filterMap (·.g)).map (·.1)).Nodup){i j:Nat}{e f:c8}{g:Nat}{x y:Env}(m:ρ[i]?=some e)(n:ρ[j]?=some f)(o:e.g=some (g,x))(p:f.g=some (g,y)):i=j:=by induction ρ generalizing i j with|nil=>cases m|cons a ρ s=>
  have l:∀{k:Nat}{e:c8}{z:Env},ρ[k]?=some e->e.g=some (g,z)->g∈(ρ.filterMap (·.g)).map (·.1):=λr c=>bp.mpr (b7 _ (List.mem_filterMap.mpr (b7 _ (aY r) c)) rfl);have d:((ρ.filterMap (·.g)).map (·.1)).Nodup/\∀z,a.g=some (g,z)->g∉(ρ.filterMap (·.g)).map (·.1):=by
   rw[cS]at h;split at h;·rename_i q;exact⟨h,λz c=>by rw[q]at c;cases c⟩
   ·rename_i b q;rw[bN,ck]at h;exact⟨h.2,λz c=>by rw[q]at c;cases c;exact h.1⟩
  cases i with
  |zero=>cases m;cases j with|zero=>rfl|succ j=>exact absurd (l n p) (d.2 x o)
  |succ i=>cases j with|zero=>cases n;exact absurd (l m o) (d.2 y p)|succ j=>rw[s d.1 m n]
theorem LT{w:NQ}{F u:i5}{ρ ρ':List c8}{H H':List O}{h h':NV}{l c:GT}(S:d9 w F ρ H h l)(T:d9 w u ρ' H' h' c)(p:ρ<+:ρ')(B:GB l.a c.a):iq H H':=λk=>A8 λx s t=>by
 have G:k<ρ'.length:=by rw[T.len];exact(ab.mp s).1
 have f:=aw G;generalize ρ'[k]=e at f;have y:=T.gf k e x f s;cases x with
 |slp a fi m rest P N n=>cases N with|none=>cases t|some b=>
   refine F6 y λg A z C D d=>?_;try clear y;have r:=d.nb;clear d
   have E:=B g z D r;rcases S.bare g z E with q|⟨i,v,o,j,I,J,K,L⟩;·rw[r]at q;cases q
   ·have M:ρ'[i]?=some v:=x6 p I;have:i=k:=LS T.gn M f J C;subst this;exact b7 o K L
 |_=>cases t
theorem ir{w:NQ}{d:Nat}{H:List O}{f:V}{xs:List V}{Q:QV}(h:j7 w d H f xs λv H'=>iq H H'->Q v H'):j7 w d H f xs Q:=λA F k s u j e S g r=>ar (LR (h A F k s u j e S g r)) (λv l x=>x.2.ob λa H' b c T i q=>⟨a,H',b,c,T,i,q (LT S T c.1 x.1)⟩) λ_ _ x=>x.2
end
noncomputable def t5(p:Str×Nat):V:=.stk p.1 p.2
noncomputable def sp:Str:=⟨#[32]⟩
abbrev E3:=List (Str×Nat)->List (Str×Nat)->Prop
structure Ls(P:E3)(sf la lb:Nat)(A B:List (Str×Nat))(H:List O):Prop where
 f:H[sf]?=some (.inst 313 I9)
 a:H[la]?=some (.list (A.map t5))
 b:H[lb]?=some (.list (B.map t5))
 na:A.length<=1000/\∀p∈A,p.1.length<=1000
 nb:B.length<=1000/\∀p∈B,p.1.length<=1000
 ok:P A B
structure r5 where
 tag:Str
 sd:Bool
 p:Nat
 na:Nat
 nb:Nat
noncomputable def y9(A B:List (Str×Nat))(s:r5):Option Str:=if s.na<=A.length/\s.nb<=B.length then (if s.sd=true then B else A)[s.p]?.map λq=>s.tag++sp++q.1 else none
def Kp(own:List Nat)(H H':List O):Prop:=H.length<=H'.length/\∀k∈own,H'[k]?=H[k]?
def Fr(own:List Nat)(H H':List O):Prop:=H.length<=H'.length/\∀k x,k∉own->H[k]?=some x->H'[k]?=some x
theorem Kp.refl:Kp own H H:=⟨ae _,λ_ _=>rfl⟩
theorem Kp.trans(a:Kp own H H')(b:Kp own H' H''):Kp own H H'':=⟨ad a.1 b.1,λk c=>(b.2 k c).trans (a.2 k c)⟩
theorem Fr.refl:Fr own H H:=⟨ae _,λ_ _ _ e=>e⟩
theorem Fr.trans(a:Fr own H H')(d:∀k∈own',k∈own\/H.length<=k)(b:Fr own' H' H''):Fr own H H'':=⟨ad a.1 b.1,λk x c e=>b.2 k x (λq=>(d k q).elim c λz=>absurd (ab.mp e).1 (bl.mpr z)) (a.2 k x c e)⟩
theorem Fr.set(a:Fr own H H')(d:i∈own\/H.length<=i):Fr own H (H'.set i o):=⟨by rw[ax];exact a.1,λk x c e=>by
 have b:i≠k:=λq=>by subst q;exact d.elim c λz=>absurd (ab.mp e).1 (bl.mpr z)
 rw[ag b];exact a.2 k x c e⟩
theorem Fr.app(a:Fr own H H'):Fr own H (H'++[o]):=⟨by rw[aK];exact bW a.1,λk x b e=>by have:=a.2 k x b e;rw[aI (ab.mp this).1];exact this⟩
theorem Ls.fr(l:Ls P sf la lb A B H)(h:Fr own H H')(a:sf∉own/\la∉own/\lb∉own):Ls P sf la lb A B H':=⟨h.2 _ _ a.1 l.f,h.2 _ _ a.2.1 l.a,h.2 _ _ a.2.2 l.b,l.na,l.nb,l.ok⟩
def Yf(own a:List Nat)(H H':List O):Prop:=∀k,YY H' k->k∈a\/ k∉own/\YY H k
section
variable{own own' o₁ o₂:List Nat}{H H' H'':List O}{i k:Nat}{o:O}
theorem B8(e:H[k]?=some o)(h:D1 o=false):¬YY H k:=A8 λx a b=>by injection e.symm.trans a with a;subst a;cases h.symm.trans b
theorem YY.of_set(h:YY (H.set i o) k):k=i/\D1 o=true \/YY H k:=by
 refine a9 h λx a b=>?_;try clear h
 by_cases q:i=k;·subst q;rw[au (by have:=(ab.mp a).1;rwa[ax]at this)]at a;injection a with a;subst a;exact .inl ⟨rfl,b⟩
 ·rw[ag q]at a;exact .inr (b7 x a b)
theorem YY.of_app(h:YY (H++[o]) k)(c:D1 o=false):YY H k:=by
 refine a9 h λx a b=>?_;try clear h
 by_cases q:k<H.length;·rw[aI q]at a;exact b7 x a b
 ·rw[List.getElem?_append_right (bf q)]at a;rw[af.mp (aY a),c]at b;injection b
theorem Yf.refl:Yf own own H H:=λk h=>(Classical.em (k∈own)).imp id λq=>⟨q,h⟩
theorem Yf.set(a:Yf own o₁ H H')(b:autoParam (D1 o=false) NT.under_of_weight._auto_1):Yf own o₁ H (H'.set i o):=λk h=>h.of_set.elim (λq=>by rw[b]at q;cases q.2) (a k)
theorem Yf.put(a:Yf own o₁ H H')(b:i∈o₁):Yf own o₁ H (H'.set i o):=λk h=>h.of_set.elim (λq=>.inl (q.1▸b)) (a k)
theorem Yf.app(a:Yf own o₁ H H')(b:autoParam (D1 o=false) NT.under_of_weight._auto_1):Yf own o₁ H (H'++[o]):=λk h=>a k (h.of_app b)
theorem Yf.ny(a:Yf own o₁ H H')(n:iq H' H''):Yf own o₁ H H'':=λk h=>a k (n k h)
theorem Yf.trans(a:Yf own o₁ H H')(b:Yf own' o₂ H' H'')(h:∀k∈o₁,k∈own'\/k∈o₂):Yf own o₂ H H'':=λk y=>(b k y).elim .inl λq=>(a k q.2).elim (λz=>(h k z).elim (λz=>absurd z q.1) .inl) .inr
theorem Yf.out(a:Yf own o₁ H H')(h:∀k∈o₁,k∈o₂\/¬YY H' k):Yf own o₂ H H':=λk y=>(a k y).elim (λq=>(h k q).elim .inl λz=>absurd y z) .inr
end
def wt(P:List Nat->List O->Prop)(i:Nat)(own:List Nat)(H:List O)(y:Str):D9->List O->Prop:=λc b=>c=.txt y/\Fr own H b/\(∃a fi m r k z,b[i]?=some (.slp a fi m r k z 0))/\∃own',((∀k∈own',k∈own\/H.length<=k)/\Yf own own' H b)/\P own' b
def iu(a:D9)(i:Nat)(own:List Nat)(H:List O):D9->List O->Prop:=λc b=>c=a/\Fr own H b/\b[i]?=some .done/\Yf own [] H b
noncomputable abbrev wu:D9:=.err "IndexError" (some (aa "list index out of range"))
structure Wf(sf la lb i:Nat)(own:List Nat)(H:List O):Prop where
 i:i∈own
 lt:∀k∈own,k<H.length
 n:sf∉own/\la∉own/\lb∉own
def o7(P:E3)(w:NQ)(d b la lb i:Nat):List r5->List Nat->List O->Prop|[],a,H=>Wf b la lb i a H/\∀A B H',Kp a H H'->Ls P b la lb A B H'->F0 w d H' i (iu .nothing i a H')|s::L,a,H=>Wf b la lb i a H/\∀A B H',Kp a H H'->Ls P b la lb A B H'->F0 w d H' i (match y9 A B s with|none=>iu wu i a H'|some y=>wt (o7 P w d b la lb i L) i a H' y)
def BQ(P:E3)(w:NQ)(d a la lb i:Nat)(L:List r5)(own:List Nat)(A B:List (Str×Nat))(H:List O):D9->List O->Prop:=match L with|[]=>iu .nothing i own H|s::L=>match y9 A B s with|none=>iu wu i own H|some y=>wt (o7 P w d a la lb i L) i own H y
section
variable{P:E3}{w:NQ}{d sf la lb i j:Nat}{L R:List r5}{own own':List Nat}{A B:List (Str×Nat)}{H H' H₁ H₂:List O}
theorem o7.iff:o7 P w d sf la lb i L own H↔Wf sf la lb i own H/\∀A B H',Kp own H H'->Ls P sf la lb A B H'->F0 w d H' i (BQ P w d sf la lb i L own A B H'):=by cases L<;>exact Iff.rfl
theorem o7.wf(h:o7 P w d sf la lb i L own H):Wf sf la lb i own H:=(o7.iff.mp h).1
theorem o7.kp(h:o7 P w d sf la lb i L own H)(k:Kp own H H'):o7 P w d sf la lb i L own H':=by rw[o7.iff]at h⊢;exact⟨⟨h.1.i,λx b=>aB (h.1.lt x b) k.1,h.1.n⟩,λA B a c l=>h.2 A B a (k.trans c) l⟩
theorem BQ.mono(f:Fr own H H₁)(g:∀k∈own',k∈own\/H.length<=k)(y:Yf own own' H H₁)(h:BQ P w d sf la lb i L own' A B H₁ ans H₂):BQ P w d sf la lb i L own A B H ans H₂:=by have m:∀{a:D9},iu a i own' H₁ ans H₂->iu a i own H ans H₂:=λh=>j8 h.1 (f.trans g h.2.1) h.2.2.1 (y.trans h.2.2.2 λk b=>.inl b);cases L with|nil=>exact m h|cons s L=>unfold BQ at h⊢;dsimp only at h⊢;cases e:y9 A B s with|none=>rw[e]at h;exact m h|some u=>
   rw[e]at h;refine Z5 h λn o p c l r=>?_;try clear h; refine d7 l λq t=>?_
   exact Z7 n (f.trans g o) p c ⟨λk b=>(q k b).elim (g k) λz=>.inr (ad f.1 z),y.trans t λk b=>.inl b⟩ r
end
section
variable{P:E3}{w:NQ}{d sf la lb i j a:Nat}{L R:List r5}{X:List Nat}{fi:FI}{m:b9}{rest:List NW}{k:Kt}
theorem GQ.mono(h:GQ Q i a fi ga m' H')(c:∀b H,Q b H->Q' b H):GQ Q' i a fi ga m' H':=by cases ga<;>exact c _ _ h
theorem G1.mono{X:GX}{Q Q':M5->b9->List O->Prop}(b:∀g m H,Q g m H->Q' g m H){v:NS}{z:GenState}{s:NR}(h:G1 X Q v z s):G1 X Q' v z s:=by cases h with|mk hz c e S q=>exact .mk hz c e S (b _ _ _ q)
theorem F1.mono{X:GX}{Q Q':M5->b9->List O->Prop}(b:∀g m H,Q g m H->Q' g m H){r:cz}{s:NR}(h:F1 X Q r s):F1 X Q' r s:=by cases h with|ret f S q=>exact .ret f S (b _ _ _ q)|exc c e q=>exact .exc c e (b _ _ _ q)
theorem GW.mono(h:GW w fi d k m H rest Q)(b:∀g m H,Q g m H->Q' g m H):GW w fi d k m H rest Q':=λX A c l K e o n f q s p S=>Dq (h X A c l K e o n f q s p S) (λ_ _ _ y=>G1.mono b y) λ_ _ r=>F1.mono b r
theorem Y2{l:List Nat}{x y:Nat}(h:x∉l)(hy:y∈l):x≠y:=λq=>h (q▸hy)
theorem mP{H:List O}{n:Nat}(h:n<H.length):∃o,H[n]?=some o:=⟨_,aw h⟩
structure Y3(sf la lb i:Nat)(X oj:List Nat)(n:Nat):Prop where
 x:∀x∈X,x<n/\x∉oj/\x≠i/\x≠sf/\x≠la/\x≠lb
 i:i<n/\i∉oj/\i≠sf/\i≠la/\i≠lb
theorem Y3.own(p:Y3 sf la lb i X oj n)(h:∀y∈oj',y∈oj\/n<=y)(c:n<=n'):Y3 sf la lb i X oj' n':=⟨λx b=>i9 (aB (p.x x b).1 c) (λq=>(h x q).elim (p.x x b).2.1 λz=>absurd (p.x x b).1 (bl.mpr z)) ((p.x x b).2.2),aB p.i.1 c,λq=>(h i q).elim p.i.2.1 λz=>absurd p.i.1 (bl.mpr z),p.i.2.2⟩
theorem Y3.wf(p:Y3 sf la lb i X oj H.length)(h:Wf sf la lb j oj H):Wf sf la lb i (i::(X++oj)) H:=by
 refine⟨.head _,λy hy=>?_,?_⟩
 · rcases(az.mp hy).imp_left aM with rfl|hy;·exact p.i.1
   ·exact(aX.mp hy).elim (λz=>(p.x y z).1) (h.lt y)
 · have n:∀y,(∀x∈X,x≠y)->i≠y->y∉oj->y∉i::(X++oj):=λy c e f q=>by
    rcases az.mp q with q|q;·exact e q.symm
    ·exact(aX.mp q).elim (λz=>c y z rfl) f
   exact i9 (n _ (λx b=>(p.x x b).2.2.2.1) p.i.2.2.1 h.n.1) (n _ (λx b=>(p.x x b).2.2.2.2.1) p.i.2.2.2.1 h.n.2.1) (n _ (λx b=>(p.x x b).2.2.2.2.2) p.i.2.2.2.2 h.n.2.2)
def mQ(P:E3)(w:NQ)(d sf la lb i a:Nat)(fi:FI)(m:b9)(rest:List NW)(k:Kt)(X:List Nat)(R:List r5)(H:List O):Prop:=∀A B b,Ls P sf la lb A B b->H.length<=b.length->(∀x∈X,b[x]?=H[x]?)->b[i]?=some .gone->GW w fi (d+2) k m b rest (GQ (BQ P w (d+2) sf la lb i R (i::X) A B b) i a fi)
theorem LU:∀(L:List r5){n:List Nat}{H:List O}{b:Nat}{p:FI}{I:b9}{J:List NW}{G:Kt}{K:Option Nat},H[i]?=some (.slp a fi m rest k (some b) 0)->H[j]?=some (.slp b p I J G K 1)->o7 P w d sf la lb j L n (H.set j (.slp b p I J G K 0))->Y3 sf la lb i X n H.length->(∀x∈X,¬YY H x)->mQ P w d sf la lb i a fi m rest k X R H->o7 P w (d+2) sf la lb i (L++R) (i::(X++n)) H:=by
 intro L;induction L with|nil=>
  intro n H b p I J G K hi hj r C nX ct;have F:i≠j:=λq=>C.i.2.1 (q▸r.wf.i);have c:Wf sf la lb j n H:=⟨r.wf.i,λx h=>by have:=r.wf.lt x h;rwa[ax]at this,r.wf.n⟩;have wf:=C.wf c;have E:∀y∈n,y∈i::(X++n):=λy hy=>.tail _ (bD _ hy);refine o7.iff.mpr ⟨wf,λA B v t l=>?_⟩;refine uz F ((t.2 i (.head _)).trans hi) ((t.2 j (E j c.i)).trans hj) ?_;have Z:Fr (i::(X++n)) v ((v.set i .gone).set j (.slp b p I J G K 0)):=(Fr.refl.set (.inl (.head _))).set (.inl (E j c.i));have y1:Yf (i::(X++n)) (i::(X++n)) v ((v.set i .gone).set j (.slp b p I J G K 0)):=(Yf.refl.put (.head _)).put (E j c.i);have oi:∀{M:List Nat},∀y∈i::(X++n),y∈n\/y∈i::(X++M):=λy hy=>(az.mp hy).elim (λq=>.inr (q▸.head _)) λq=>(aX.mp q).elim (λq=>.inr (.tail _ (bB _ q))) .inl;have oX:∀y∈i::(X++n),y∈n\/y∈i::X:=λy hy=>(az.mp hy).elim (λq=>.inr (q▸.head _)) λq=>(aX.mp q).elim (λq=>.inr (.tail _ q)) .inl;have V:Kp n (H.set j (.slp b p I J G K 0)) ((v.set i .gone).set j (.slp b p I J G K 0)):=⟨by rw[ax,ax,ax];exact t.1,λx h=>by
   by_cases q:j=x;·subst q;rw[au (c.lt j h),au (by rw[ax];exact aB (c.lt j h) t.1)]
   ·rw[ag q,ag q,ag (Y2 C.i.2.1 h)];exact t.2 x (E x h)⟩;refine((o7.iff.mp r).2 A B _ V (l.fr Z wf.n)).mono λa1 Q q=>?_;refine m6 q λa6 f2 dn Y=>?_;try clear q;subst a6
  have f:=Z.trans (λy hy=>.inl (E y hy)) f2;have N:Yf (i::(X++n)) (i::X) v Q:=y1.trans (Y.out λ_ q=>absurd q List.not_mem_nil) oX;have g2:Q[i]?=some .gone:=f2.2 i _ C.i.2.1 ((ag (bg F)).trans (au (aB C.i.1 t.1)));refine(ct A B Q (l.fr f wf.n) (ad t.1 f.1) (λx h=>?_) g2).mono λg m1 H3 z=>z.mono λa1 H4 z=>BQ.mono f (λy hy=>?_) N z;·have D:=C.x x h;refine b8 (mP D.1) λo ho=>?_;rw[ho];refine f2.2 x o D.2.1 ?_;rw[ag (bg (Y2 D.2.1 c.i)),ag (bg D.2.2.1)];exact(t.2 x (.tail _ (bB _ h))).trans ho
  · rcases(az.mp hy).imp_left aM with rfl|hy;·exact .inl (.head _)
    ·exact .inl (.tail _ (bB _ hy))|cons s L ih=>
  intro n H b p I J G K hi hj r C nX ct;have F:i≠j:=λq=>C.i.2.1 (q▸r.wf.i);have c:Wf sf la lb j n H:=⟨r.wf.i,λx h=>by have:=r.wf.lt x h;rwa[ax]at this,r.wf.n⟩;have wf:=C.wf c;have E:∀y∈n,y∈i::(X++n):=λy hy=>.tail _ (bD _ hy);refine o7.iff.mpr ⟨wf,λA B v t l=>?_⟩;refine uz F ((t.2 i (.head _)).trans hi) ((t.2 j (E j c.i)).trans hj) ?_;have Z:Fr (i::(X++n)) v ((v.set i .gone).set j (.slp b p I J G K 0)):=(Fr.refl.set (.inl (.head _))).set (.inl (E j c.i));have y1:Yf (i::(X++n)) (i::(X++n)) v ((v.set i .gone).set j (.slp b p I J G K 0)):=(Yf.refl.put (.head _)).put (E j c.i);have oi:∀{M:List Nat},∀y∈i::(X++n),y∈n\/y∈i::(X++M):=λy hy=>(az.mp hy).elim (λq=>.inr (q▸.head _)) λq=>(aX.mp q).elim (λq=>.inr (.tail _ (bB _ q))) .inl;have oX:∀y∈i::(X++n),y∈n\/y∈i::X:=λy hy=>(az.mp hy).elim (λq=>.inr (q▸.head _)) λq=>(aX.mp q).elim (λq=>.inr (.tail _ q)) .inl;have V:Kp n (H.set j (.slp b p I J G K 0)) ((v.set i .gone).set j (.slp b p I J G K 0)):=⟨by rw[ax,ax,ax];exact t.1,λx h=>by
   by_cases q:j=x;·subst q;rw[au (c.lt j h),au (by rw[ax];exact aB (c.lt j h) t.1)]
   ·rw[ag q,ag q,ag (Y2 C.i.2.1 h)];exact t.2 x (E x h)⟩;refine((o7.iff.mp r).2 A B _ V (l.fr Z wf.n)).mono λa1 Q q=>?_;have a3:((v.set i .gone).set j (.slp b p I J G K 0)).length=v.length:=by rw[ax,ax]
  unfold BQ at q⊢;dsimp only[List.cons_append]at q⊢;cases e:y9 A B s with|none=>
   rw[e]at q;refine m6 q λb0 f2 dn Y=>?_;try clear q;subst b0
   have f:=Z.trans (λy hy=>.inl (E y hy)) f2;have N:Yf (i::(X++n)) (i::X) v Q:=y1.trans (Y.out λ_ q=>absurd q List.not_mem_nil) oX;refine j8 rfl (f.set (.inl (.head _))) (au (aB (aB C.i.1 t.1) f.1)) (Yf.out (Yf.set N) λx h=>.inr λz=>?_);rcases z.of_set with z|z;·cases z.2
   · have z:=(Y x z).resolve_left List.not_mem_nil;rcases z.2.of_set with u|u;·exact z.1 (u.1▸c.i)
     · rcases u.of_set with u|u;·cases u.2
       · rcases(az.mp h).imp_left aM with rfl|h;· refine a9 (z.2) λo T h2=>?_;rw[ag (bg F),au (aB C.i.1 t.1)]at T;injection T with T;subst T;cases h2
         · refine a9 u λo T h2=>?_;try clear u
           exact nX x h (b7 o ((t.2 x (.tail _ (bB _ h))).symm.trans T) h2)|some y=>
   rw[e]at q;refine Z5 q λb1 f2 b3 W b4 bh=>?_;try clear q;subst b1; refine kX b3 λb2 b5 m2 r2 k2 z2 hs=>?_;obtain⟨ho,Y⟩:=b4
   have f:=Z.trans (λy hy=>.inl (E y hy)) f2;have N:Yf (i::(X++n)) (i::(X++W)) v Q:=y1.trans (Y.out λy hy=>.inl (.tail _ (bD _ hy))) oi;have S:Y3 sf la lb i X W Q.length:=C.own (λy hy=>(ho y hy).imp id λz=>by rw[a3]at z;exact ad t.1 z) (ad t.1 f.1);have l2:i<Q.length:=S.i.1;have a2:j<Q.length:=(ab.mp hs).1;refine .mk hs ⟨rfl,(f.set (.inl (E j c.i))).set (.inl (.head _)),⟨_,_,_,_,_,_,au (by rw[ax];exact l2)⟩,i::(X++W),⟨λy hy=>?_,(N.put (.tail _ (bD _ bh.wf.i))).put (.head _)⟩,?_⟩
   · rcases(az.mp hy).imp_left aM with rfl|hy;·exact .inl (.head _)
     · rcases aX.mp hy with z|z;·exact .inl (.tail _ (bB _ z))
       ·exact(ho y z).imp (E y) λz=>by rwa[a3]at z
   · refine ih (au (by rw[ax];exact l2)) (by rw[ag F];exact au a2) (bh.kp ⟨by rw[ax,ax,ax];exact ae _,λx h=>?_⟩) (by rw[ax,ax];exact S) (λx h z=>?_) ?_
     · by_cases q:j=x;·subst q;rw[au (by rw[ax,ax];exact a2)];exact hs.symm
       ·rw[ag q,ag (Y2 S.i.2.1 h),ag q]
     · have D:=C.x x h;have a5:=S.x x h;rcases z.of_set with z|z;·exact D.2.2.1 z.1
       · rcases z.of_set with z|z;·exact a5.2.1 (z.1▸bh.wf.i)
         · have z:=(Y x z).resolve_left a5.2.1;rcases z.2.of_set with u|u;·exact D.2.1 (u.1▸c.i)
           · rcases u.of_set with u|u;·exact D.2.2.1 u.1
             · refine a9 u λo T h2=>?_;try clear u
               exact nX x h (b7 o ((t.2 x (.tail _ (bB _ h))).symm.trans T) h2)
     ·intro A' B' a0 l' U hX hg;refine ct A' B' a0 l' (ad (ad t.1 f.1) (by rw[ax,ax]at U;exact U)) (λx h=>(hX x h).trans ?_) hg;have D:=C.x x h;refine b8 (mP D.1) λo a4=>?_;rw[ag (bg D.2.2.1),ag (bg (Y2 D.2.1 c.i)),a4];refine f2.2 x o D.2.1 ?_;rw[ag (bg (Y2 D.2.1 c.i)),ag (bg D.2.2.1)];exact(t.2 x (.tail _ (bB _ h))).trans a4
end
section
variable{P:E3}{w:NQ}{d sf la lb i j a:Nat}{L R:List r5}{X oj own:List Nat}{fi:FI}{m:b9}{rest:List NW}{k:Kt}{A B:List (Str×Nat)}{H₀ H:List O}
theorem mR(c:o7 P w d sf la lb j L oj H)(l:Ls P sf la lb A B H)(p:Y3 sf la lb i X oj H.length)(hg:H[i]?=some .gone)(N:Fr own H₀ H)(u:∀y∈i::(X++oj),y∈own\/H₀.length<=y)(y0:Yf own (i::(X++oj)) H₀ H)(nX:∀x∈X,¬YY H x)(ct:mQ P w d sf la lb i a fi m rest k X R H):F0 w d H j (hU w fi (d+2) k m rest j (GQ (BQ P w (d+2) sf la lb i (L++R) own A B H₀) i a fi)):=by have U:i≠j:=Y2 p.i.2.1 c.wf.i;have J:∀y∈oj,y∈own\/H₀.length<=y:=λy hy=>u y (.tail _ (bD _ hy));have oi:∀{K:List Nat},∀y∈i::(X++oj),y∈oj\/y∈i::(X++K):=λy hy=>(az.mp hy).elim (λq=>.inr (q▸.head _)) λq=>(aX.mp q).elim (λq=>.inr (.tail _ (bB _ q))) .inl;have oX:∀y∈i::(X++oj),y∈oj\/y∈i::X:=λy hy=>(az.mp hy).elim (λq=>.inr (q▸.head _)) λq=>(aX.mp q).elim (λq=>.inr (.tail _ q)) .inl;refine((o7.iff.mp c).2 A B _ .refl l).mono λQ t q=>?_;cases L with
 |nil=>
  refine m6 q λW f2 dn C=>?_;try clear q;subst W
  have f:=N.trans J f2;have h:Yf own (i::X) H₀ t:=y0.trans (C.out λ_ q=>absurd q List.not_mem_nil) oX;refine(ct A B t (l.fr f2 c.wf.n) f2.1 (λx b=>?_) (f2.2 i _ p.i.2.1 hg)).mono λg m1 H3 z=>z.mono λQ H4 z=>BQ.mono f (λy hy=>?_) h z;· refine b8 (mP (p.x x b).1) λo G=>?_;rw[G];exact f2.2 x o (p.x x b).2.1 G
  · rcases az.mp hy with rfl|hy;·exact u _ (.head _)
    ·exact u _ (.tail _ (bB _ hy))|cons s L=>unfold BQ at q⊢;dsimp only[List.cons_append]at q⊢;cases e:y9 A B s with
  |none=>
   rw[e]at q;refine m6 q λY f2 dn C=>?_;try clear q;subst Y
   have h:Yf own (i::X) H₀ t:=y0.trans (C.out λ_ q=>absurd q List.not_mem_nil) oX;refine j8 rfl ((N.trans J f2).set (u i (.head _))) (au (aB p.i.1 f2.1)) (Yf.out (Yf.set h) λx b=>.inr λz=>?_);rcases z.of_set with z1|z1;·cases z1.2
   · have O:=((C x z1).resolve_left List.not_mem_nil).2;rcases az.mp b with q|b;·rw[q]at O;exact B8 hg rfl O
     ·exact nX x b O|some y=>
   rw[e]at q;refine Z5 q λZ f2 a0 v a1 S=>?_;try clear q;subst Z;refine kX a0 λb2 a2 m2 r2 k2 O V=>?_;obtain⟨G,C⟩:=a1
   have f:=N.trans J f2;have h:Yf own (i::(X++v)) H₀ t:=y0.trans (C.out λy hy=>.inl (.tail _ (bD _ hy))) oi;have n:Y3 sf la lb i X v t.length:=p.own G f2.1;have l2:i<t.length:=n.i.1;have F:j<t.length:=(ab.mp V).1;refine .mk V ⟨rfl,(f.set (J j c.wf.i)).set (u i (.head _)),⟨_,_,_,_,_,_,au (by rw[ax];exact l2)⟩,i::(X++v),⟨λy hy=>?_,(h.put (.tail _ (bD _ S.wf.i))).put (.head _)⟩,?_⟩
   · rcases az.mp hy with rfl|hy;·exact u _ (.head _)
     · rcases aX.mp hy with z|z;·exact u _ (.tail _ (bB _ z))
       ·exact(G y z).elim (J y) λq=>.inr (ad N.1 q)
   · refine LU L (au (by rw[ax];exact l2)) (by rw[ag U];exact au F) (S.kp ⟨by rw[ax,ax,ax];exact ae _,λx b=>?_⟩) (by rw[ax,ax];exact n) (λx b z=>?_) ?_
     · by_cases q:j=x;·subst q;rw[au (by rw[ax,ax];exact F)];exact V.symm
       ·rw[ag q,ag (Y2 n.i.2.1 b),ag q]
     · have D:=p.x x b;have M:=n.x x b;rcases z.of_set with z|z;·exact D.2.2.1 z.1
       · rcases z.of_set with z|z;·exact M.2.1 (z.1▸S.wf.i)
         ·exact nX x b ((C x z).resolve_left M.2.1).2
     ·intro A' B' E l' r hX T;refine ct A' B' E l' (ad f2.1 (by rw[ax,ax]at r;exact r)) (λx b=>(hX x b).trans ?_) T;have D:=p.x x b;refine b8 (mP D.1) λo I=>?_;rw[ag (bg D.2.2.1),ag (bg (Y2 D.2.1 c.wf.i)),I];exact f2.2 x o D.2.1 I
end
noncomputable abbrev mS(w:NQ):FI:=⟨i7 (d0 7 3),true,(o9 (ao6 w.params)).code⟩
noncomputable abbrev Y4(c l:Nat)(tag:Str)(lo a:Int)(b:Option V):b9:=[nv "self" (.ref c),nv "tag" (.str tag),nv "x" (.ref l),nv "lo" (.int lo),nv "hi" (.int a),("i",b)]
theorem mT(x:Str):Str.empty++x=x:=by obtain⟨c⟩:=x;show Str.mk (#[]++c)=_;rw[Array.empty_append]
theorem qi:O9 "IndexError":=⟨by rw[cp];kernel_rfl,by decide,by rfl⟩
noncomputable def kG(s:NW):Expr:=(p8 s).1
noncomputable def wv:NW:=(e9 (d0 7 3)).getD 1 (.Pass default)
noncomputable abbrev dK(I:Nat):Kt:=.loop (kG wv) I (C7 wv) [] (.top (e9 (d0 7 3)))
noncomputable def o8(tag:Str)(sd:Bool):Nat->Nat->List r5|_,0=>[]|a,n+1=>⟨tag,sd,a,0,0⟩::o8 tag sd (a+1) n
noncomputable abbrev t6(la lb:Nat)(sd:Bool):Nat:=if sd=true then lb else la
section
variable{P:E3}{w:NQ}{H:List O}{d i j I sf la lb l n:Nat}{lo:Nat}{lo₀ hi:Int}{tag:Str}{T:List (Str×Nat)}{iv:Option V}
theorem ww{q:Str×Nat}{Q:QV}(b:H[l]?=some (.list (T.map t5)))(a:T.length<=1000)(c:T[lo]?=some q)(h:Q (.str q.1) H):W2 w d VR H L5 (.ref l) (.int (lo:Nat)) Q:=vJ (D6 (xs:=T.map t5) (.inl b) (aW _) (Int.lt_of_lt_of_le (aQ.mpr (aB (ab.mp c).1 a)) (by decide)) (x:=t5 q) (by rw[aV];show T[lo]?.map t5=_;rw[c];rfl) ⟨rfl,h⟩)
theorem qk{Q:M5->b9->List O->Prop}(s:H[l]?=some (.list (T.map t5)))(f:H[j]?=some (.rit I lo n))(A:T.length<=1000)(B:∀x∈T,x.1.length<=1000)(o:tag.length<=1000)(m:lo<=1000)(C:n=0->Q .ret (Y4 sf l tag lo₀ hi iv) H)(D:∀a q,n=a+1->T[lo]?=some q->Q (.yld (tag++sp++q.1) [] (dK I) none) (Y4 sf l tag lo₀ hi (some (.int lo))) (H.set j (.rit I ((lo+1:Nat):Int) a)))(qe:∀a,n=a+1->T[lo]?=none->Q (.exc "IndexError" (some (aa "list index out of range"))) (Y4 sf l tag lo₀ hi (some (.int lo))) (H.set j (.rit I ((lo+1:Nat):Int) a))):GW w (mS w) d (dK I) (Y4 sf l tag lo₀ hi iv) H [] Q:=by
 have k:j≠l:=λq=>by subst q;rw[s]at f;cases f
 refine U8 (ko f (λh=>pr (C h)) λa r=>?_);refine e6 (.inl (by rfl)) ?_;have e:(H.set j (.rit I ((lo:Int)+1) a))[l]?=some (.list (T.map t5)):=(ag k).trans s;have em:u9 (Y4 sf l tag lo₀ hi iv) "i" (.int lo)=Y4 sf l tag lo₀ hi (some (.int lo)):=by rfl
 rw[em];have p:tag.length<=aF:=ad o (by decide);have t:(aa " ").length=1:=by rfl
 have u:(Str.empty++tag).length<=aF:=by rw[mT];exact p
 have v:(Str.empty++tag++aa " ").length<=aF:=by rw[mT,strLen_append,t];exact ad (Nat.add_le_add_right o 1) (by decide)
 cases c:T[lo]? with|some y=>
  have b:y.1.length<=1000:=B _ (aY c);have z:(Str.empty++tag++aa " "++y.1).length<=aF:=by rw[mT,strLen_append,strLen_append,t];exact ad (Nat.add_le_add (Nat.add_le_add_right o 1) b) (by decide)
  refine Gr (by rfl) ?_;refine ER (pa (ul ?_));refine a7 rfl rfl ?_;refine rs _ rfl p _ rfl u (pa ?_);refine l4 ?_;refine j5 _ rfl v (pa (ul ?_));refine s5 (a7 rfl rfl (a7 rfl rfl ?_));refine ww e A c ?_;refine rs _ rfl (ad b (by decide)) _ rfl z (ES z (b7 _ rfl ?_));rw[mT];exact D a y r c|none=>
  refine Gs (msg:=some (aa "list index out of range")) qi ?_;have g:T.length<=lo:=List.getElem?_eq_none_iff.mp c;refine Gk (Gm (by rfl) (by rfl) (by rfl) p u (Gl v (.inl (Gi (pB (xs:=T.map t5) (by rfl) (by rfl) (by rfl) (by rfl) (by rfl) (by rfl) e ?_ ?_ ?_ (qe a r c))))));·rw[ak];right;exact Int.ofNat_le.mpr g
  ·exact Int.le_trans (by decide) (aW _)
  ·exact Int.lt_of_le_of_lt (Int.ofNat_le.mpr m) (by decide)
end
noncomputable abbrev kH(A B:List (Str×Nat))(sd:Bool):List (Str×Nat):=if sd=true then B else A
section
variable{P:E3}{w:NQ}{H:List O}{d i j I sf la lb n lo:Nat}{sd:Bool}{tag:Str}{A B:List (Str×Nat)}
theorem Ls.at(l:Ls P sf la lb A B H)(sd:Bool):H[t6 la lb sd]?=some (.list ((kH A B sd).map t5))/\(kH A B sd).length<=1000/\∀x∈kH A B sd,x.1.length<=1000:=by
 cases sd;·exact⟨l.a,l.na⟩
 ·exact⟨l.b,l.nb⟩
theorem qo(h:i≠la/\i≠lb)(sd:Bool):i≠t6 la lb sd:=by
 cases sd;·exact h.1
 ·exact h.2
theorem kI(a:s.na=0)(b:s.nb=0):y9 A B s=(kH A B s.sd)[s.p]?.map λq=>s.tag++sp++q.1:=by unfold y9;rw[a,b,if_pos ⟨bq _,bq _⟩]
theorem LV(N:tag.length<=1000):∀(n:Nat){lo:Nat}{H:List O}{a:Nat}{e F:Int}{J:Option V},H[i]?=some (.slp a (mS w) (Y4 sf (t6 la lb sd) tag e F J) [] (dK I) none 0)->H[j]?=some (.rit I lo n)-> i≠sf/\i≠la/\i≠lb -> j≠sf/\j≠la/\j≠lb ->lo+n<=1000->
 o7 P w d sf la lb i (o8 tag sd lo n) [i,j] H:=by intro n;induction n with|zero=>
  intro lo H a e F J c m f r v;have g:i≠j:=λq=>by subst q;rw[c]at m;cases m
  have L:Wf sf la lb i [i,j] H:=⟨.head _,λk b=>by
   rcases(az.mp b).imp_left aM with rfl|b;·exact(ab.mp c).1
   ·rw[af.mp b];exact(ab.mp m).1,by simp[f.1.symm,r.1.symm],by simp[f.2.1.symm,r.2.1.symm],by simp[f.2.2.symm,r.2.2.symm]⟩;refine o7.iff.mpr ⟨L,λA B p u l=>?_⟩;have s:=(u.2 i (.head _)).trans c;have t:=(u.2 j (.tail _ (.head _))).trans m;have y:Yf [i,j] [] p p:=Yf.refl.out λk b=>.inr ((az.mp b).elim (λq=>q▸B8 s rfl) λq=>af.mp q▸B8 t rfl);refine n8 (l.at sd) λz C D=>?_;refine uy s ?_;refine qk (j:=j) (lo:=lo) (n:=0) ((ag (qo f.2 sd)).trans z) ((ag g).trans t) C D N (ad (aU _ _) v) (λ_=>?_) (λK q b=>by injection b) λK b=>by injection b
  exact j8 rfl ((Fr.refl.set (.inl (.head _))).set (.inl (.head _))) (au (by rw[ax];exact(ab.mp s).1)) y.set.set |succ n R=>
  intro lo H a e F J c m f r v;have g:i≠j:=λq=>by subst q;rw[c]at m;cases m
  have L:Wf sf la lb i [i,j] H:=⟨.head _,λk b=>by
   rcases(az.mp b).imp_left aM with rfl|b;·exact(ab.mp c).1
   ·rw[af.mp b];exact(ab.mp m).1,by simp[f.1.symm,r.1.symm],by simp[f.2.1.symm,r.2.1.symm],by simp[f.2.2.symm,r.2.2.symm]⟩;refine o7.iff.mpr ⟨L,λA B p u l=>?_⟩;have s:=(u.2 i (.head _)).trans c;have t:=(u.2 j (.tail _ (.head _))).trans m;have y:Yf [i,j] [] p p:=Yf.refl.out λk b=>.inr ((az.mp b).elim (λq=>q▸B8 s rfl) λq=>af.mp q▸B8 t rfl);have Q:=(ab.mp s).1;have j1:=(ab.mp t).1;refine n8 (l.at sd) λz C D=>?_;have M:∀o x:O,Fr [i,j] p (((p.set i .gone).set j x).set i o):=λo x=>((Fr.refl.set (.inl (.head _))).set (.inl (.tail _ (.head _)))).set (.inl (.head _));have E:∀o x:O,(((p.set i .gone).set j x).set i o)[i]?=some o:=λo x=>au (by rw[ax,ax];exact Q);refine uy s ?_;refine qk (j:=j) (lo:=lo) (n:=n+1) ((ag (qo f.2 sd)).trans z) ((ag g).trans t) C D N (ad (aU _ _) v) (λh=>by injection h) (λK q b G=>?_) λK b G=>?_;·cases b;show BQ _ _ _ _ _ _ _ (_::_) _ _ _ _ _ _;unfold BQ;dsimp only;rw[kI rfl rfl];rw[G];refine Z7 rfl (M _ _) ⟨_,_,_,_,_,_,E _ _⟩ ([i,j]) ⟨λk b=>.inl b,y.set.set.set.out λ_ q=>absurd q List.not_mem_nil⟩ ?_;exact R (E _ _) (by rw[ag g];exact au (by rw[ax];exact j1)) f r (by rw[Nat.add_right_comm];exact v)
  ·show BQ _ _ _ _ _ _ _ (_::_) _ _ _ _ _ _;unfold BQ;dsimp only;rw[kI rfl rfl];rw[G];exact j8 rfl (M _ _) (E _ _) y.set.set.set
theorem kJ(E:tag.length<=1000)(g:H[i]?=some (.fresh (mS w) (e9 (d0 7 3)) (Y4 sf (t6 la lb sd) tag (lo:Nat) ((lo+n:Nat):Int) none)))(m:i≠sf/\i≠la/\i≠lb)(r:lo+n<=1000):o7 P w (d+1) sf la lb i (o8 tag sd lo n) [i] H:=by
 have S:Wf sf la lb i [i] H:=⟨.head _,λk e=>by rw[af.mp e];exact(ab.mp g).1,by simp[m.1.symm],by simp[m.2.1.symm],by simp[m.2.2.symm]⟩;refine o7.iff.mpr ⟨S,λA B b N l=>?_⟩;have t:=(N.2 i (.head _)).trans g;have F:=(ab.mp t).1;refine n8 (l.at sd) λz K L=>?_;have R:=(ab.mp z).1;have M:(((lo+n:Nat):Int)-(lo:Int)).toNat=n:=by rw[Int.toNat_sub];exact Nat.add_sub_cancel_left lo n
 refine mf t λa=>?_;refine E0 ?_;refine s4 (l4 ?_);refine jf ?_;refine q6 (K9 rfl (cv _) cy ⟨by first|exact trivial| kernel_rfl,b6 (a7 rfl rfl (b6 (a7 rfl rfl (d8 (iY ?_)))))⟩);refine pz ⟨Int.le_trans (by decide) (aW _),Int.lt_of_le_of_lt (Int.ofNat_le.mpr (ad (aU lo n) r)) (by decide)⟩ ⟨Int.le_trans (by decide) (aW _),Int.lt_of_le_of_lt (Int.ofNat_le.mpr r) (by decide)⟩ λI=>?_;rw[M];have c:(b.set i .gone).length=b.length:=ax;have p:Fr [i] b (b.set i .gone++[O.rit I lo n]):=(Fr.refl.set (.inl (.head _))).app;have s:Yf [i] [] b (b.set i .gone++[O.rit I lo n]):=(Yf.set (Yf.refl.out λk e=>.inr (af.mp e▸B8 t rfl))).app;have v:(b.set i .gone++[O.rit I lo n])[b.length]?=some (.rit I lo n):=by rw[List.getElem?_append_right (by rw[c];exact ae _),c,Nat.sub_self];rfl
 have D:(b.set i .gone++[O.rit I lo n])[t6 la lb sd]?=some (.list ((kH A B sd).map t5)):=by rw[aI (by rw[c];exact R),ag (qo m.2 sd)];exact z
 have f:i<(b.set i .gone++[O.rit I lo n]).length:=by rw[aK,c];exact Nat.lt_add_right _ F
 generalize b.set i .gone++[O.rit I lo n]=J at p s v D f⊢;have u:i≠b.length:=aP F;have Q:b.length≠sf/\b.length≠la/\b.length≠lb:=i9 (bg (aP (ab.mp l.f).1)) (bg (aP (ab.mp l.a).1)) (bg (aP (ab.mp l.b).1));refine qk (j:=b.length) (lo:=lo) (n:=n) D v K L E (ad (aU _ _) r) (λh=>?_) (λG q e y=>?_) λG e y=>?_;·subst h;exact j8 rfl (p.set (.inl (.head _))) (au f) s.set
 · subst e;show BQ _ _ _ _ _ _ _ (_::_) _ _ _ _ _ _;unfold BQ;dsimp only;rw[kI rfl rfl];rw[y];have C:∀o x:O,((J.set b.length x).set i o)[i]?=some o:=λo x=>au (by rw[ax];exact f);refine Z7 rfl ((p.set (.inr (ae _))).set (.inl (.head _))) ⟨_,_,_,_,_,_,C _ _⟩ ([i,b.length]) ⟨λk e=>?_,s.set.set.out λ_ q=>absurd q List.not_mem_nil⟩ ?_
   · rcases(az.mp e).imp_left aM with rfl|e;·exact .inl (.head _)
     ·rw[af.mp e];exact .inr (ae _)
   ·exact LV E G (C _ _) (by rw[ag u];exact au (ab.mp v).1) m Q (by rw[Nat.add_right_comm];exact r)
 ·subst e;show BQ _ _ _ _ _ _ _ (_::_) _ _ _ _ _ _;unfold BQ;dsimp only;rw[kI rfl rfl];rw[y];exact j8 rfl ((p.set (.inr (ae _))).set (.inl (.head _))) (au (by rw[ax];exact f)) s.set.set
end
noncomputable abbrev T5(w:NQ):FI:=⟨i7 (d0 7 4),true,(o9 (ao7 w.params)).code⟩
noncomputable abbrev L7(c la:Nat)(alo a:Int)(lb:Nat)(blo b:Int)(f s g:Option V):b9:=[nv "self" (.ref c),nv "a" (.ref la),nv "alo" (.int alo),nv "ahi" (.int a),nv "b" (.ref lb),nv "blo" (.int blo),nv "bhi" (.int b),("first",f),("second",s),("g",g)]
noncomputable def wx:NW:=(e9 (d0 7 4)).getD 2 (.Pass default)
noncomputable abbrev pK(I:Nat):Kt:=.loop (kG wx) I (C7 wx) [] (.top (e9 (d0 7 4)))
noncomputable def pSt(alo a blo b:Nat):List r5:=if b<a then o8 "+" true blo b++o8 "-" false alo a else o8 "-" false alo a++o8 "+" true blo b
section
variable{P:E3}{w:NQ}{H:List O}{d i T I j1 j2 sf la lb a:Nat}{alo ahi blo bhi:Int}{f s gv:Option V}{L1 L2:List r5}
theorem LW(h:H[T]?=some (.tit I [.ref j1,.ref j2] 2)):mQ P w d sf la lb i a (T5 w) (L7 sf la alo ahi lb blo bhi f s gv) [] (pK I) [T] [] H:=λA B c l g j e=>by have b:=(j T (.head _)).trans h;refine U8 (px b (λ_=>pr ?_) λx n=>by injection n);exact j8 rfl ((Fr.refl.set (.inl (.tail _ (.head _)))).set (.inl (.head _))) (au (by rw[ax];exact(ab.mp e).1)) (Yf.set (Yf.set (Yf.refl.out λk m=>.inr ((az.mp m).elim (λq=>q▸B8 e rfl) λq=>af.mp q▸B8 b rfl))))
theorem LX(D:H[T]?=some (.tit I [.ref j1,.ref j2] 1))(z:o7 P w d sf la lb j2 L2 [j2] H)(n2:j2≠i)(e:T≠i/\T≠sf/\T≠la/\T≠lb)(p:i≠sf/\i≠la/\i≠lb)(j:j2≠T):mQ P w d sf la lb i a (T5 w) (L7 sf la alo ahi lb blo bhi f s gv) [] (pK I) [j2,T] L2 H:=λA B b l o v C=>by
 have g:=(v T (.tail _ (.head _))).trans D;have t:=(ab.mp g).1;have E:=(ab.mp C).1;refine U8 (px g (λq=>nomatch Nat.le_of_succ_le_succ q) λx c=>?_);injection c with c;subst c;refine e6 (.inl (by rfl)) ?_;have em:u9 (L7 sf la alo ahi lb blo bhi f s gv) "g" (.ref j2)=L7 sf la alo ahi lb blo bhi f s (some (.ref j2)):=by rfl
 rw[em];refine me (a7 (by rfl) (by rfl) (b7 j2 rfl ?_));have u:Fr [i,j2,T] b (b.set T (.tit I [.ref j1,.ref j2] 2)):=Fr.refl.set (.inl (.tail _ (.tail _ (.head _))));have r:o7 P w d sf la lb j2 L2 [j2] (b.set T (.tit I [.ref j1,.ref j2] 2)):=z.kp ⟨by rw[ax];exact o,λx c=>by rw[af.mp c,ag (bg j)];exact v j2 (.head _)⟩;have F:sf∉[i,j2,T]/\la∉[i,j2,T]/\lb∉[i,j2,T]:=by have h:=z.wf.n;simp only[af]at h;simp[p.1.symm,p.2.1.symm,p.2.2.symm,h.1,h.2.1,h.2.2,e.2.1.symm,e.2.2.1.symm,e.2.2.2.symm]
 have:=mR (R:=[]) (X:=[T]) (own:=[i,j2,T]) (a:=a) (fi:=T5 w) (m:=L7 sf la alo ahi lb blo bhi f s (some (.ref j2))) (rest:=[]) (k:=pK I) r (l.fr u F) ⟨λx c=>by rw[af.mp c];exact j8 (by rw[ax];exact t) (by simp[j.symm]) e.1 e.2,by rw[ax];exact E,by simp[n2.symm],p⟩ (by rw[ag e.1];exact C) u (λy hy=>.inl (by
  rcases(az.mp hy).imp_left aM with rfl|hy;·exact .head _
  · rcases(az.mp hy).imp_left aM with rfl|hy;·exact .tail _ (.tail _ (.head _))
    ·rw[af.mp hy];exact .tail _ (.head _))) (Yf.set (Yf.refl.out λk n=>.inl (by
  rcases(az.mp n).imp_left aM with rfl|n;·exact .head _
  · rcases(az.mp n).imp_left aM with rfl|n;·exact .tail _ (.tail _ (.head _))
    ·rw[af.mp n];exact .tail _ (.head _)))) (λx c=>by rw[af.mp c];exact B8 (au t) rfl) (LW (I:=I) (j1:=j1) (j2:=j2) (au t));rw[bG]at this;exact this
end
section
variable{P:E3}{w:NQ}{H H₀:List O}{d i T I j1 j2 sf la lb a:Nat}{alo ahi blo bhi:Int}{f s gv:Option V}{L1 L2:List r5}{A B:List (Str×Nat)}
theorem wy(C:H[T]?=some (.tit I [.ref j1,.ref j2] 0))(G:o7 P w d sf la lb j1 L1 [j1] H)(p:o7 P w d sf la lb j2 L2 [j2] H)(l:Ls P sf la lb A B H)(D:H[i]?=some .gone)(J:Fr [i] H₀ H)(Q:Yf [i] [] H₀ H)(L:¬YY H j2)(v:H₀.length<=j1)(r:H₀.length<=j2)(e:H₀.length<=T)(M:i<H₀.length)(u:j1≠j2)(g:j1≠T)(m:j2≠T)(n:T≠sf/\T≠la/\T≠lb)(F:i≠sf/\i≠la/\i≠lb):GW w (T5 w) (d+2) (pK I) (L7 sf la alo ahi lb blo bhi f s gv) H [] (GQ (BQ P w (d+2) sf la lb i (L1++L2) [i] A B H₀) i a (T5 w)):=by
 have t:=(ab.mp C).1;have O:=(ab.mp D).1;have c:∀{k:Nat},H₀.length<=k->k≠i:=λh=>cG (aB M h);refine U8 (px C (λq=>nomatch q) λx b=>?_);injection b with b;subst b;refine e6 (.inl (by rfl)) ?_;have em:u9 (L7 sf la alo ahi lb blo bhi f s gv) "g" (.ref j1)=L7 sf la alo ahi lb blo bhi f s (some (.ref j1)):=by rfl
 rw[em];refine me (a7 (by rfl) (by rfl) (b7 j1 rfl ?_));have K:Fr [i] H₀ (H.set T (.tit I [.ref j1,.ref j2] 1)):=J.set (.inr e);have E:∀{j:Nat},j≠T->Kp [j] H (H.set T (.tit I [.ref j1,.ref j2] 1)):=λh=>⟨by rw[ax];exact ae _,λx b=>by rw[af.mp b,ag (bg h)]⟩;have N:Ls P sf la lb A B (H.set T (.tit I [.ref j1,.ref j2] 1)):=⟨(ag n.1).trans l.f,(ag n.2.1).trans l.a,(ag n.2.2).trans l.b,l.na,l.nb,l.ok⟩;have o:=p.wf.n;simp only[af]at o;refine mR (R:=L2) (X:=[j2,T]) (own:=[i]) (G.kp (E g)) N ⟨λx b=>?_,by rw[ax];exact O,by simp[(c v).symm],F⟩ (by rw[ag (c e)];exact D) K (λy hy=>?_) (Yf.set (Q.out λ_ q=>absurd q List.not_mem_nil)) (λx b=>?_) (LX (j1:=j1) (au t) (p.kp (E m)) (c r) ⟨c e,n⟩ F m)
 · rw[ax];rcases(az.mp b).imp_left aM with rfl|b;·exact V7 (p.wf.lt _ (.head _)) (by simp[u.symm]) (c r) (bg o.1) (bg o.2.1) (bg o.2.2)
   ·rw[af.mp b];exact j8 t (by simp[g.symm]) (c e) n
 · rcases(az.mp hy).imp_left aM with rfl|hy;·exact .inl (.head _)
   · right;rcases(az.mp hy).imp_left aM with rfl|hy;·exact r
     · rcases(az.mp hy).imp_left aM with rfl|hy;·exact e
       ·rw[af.mp hy];exact v
 · rcases(az.mp b).imp_left aM with rfl|b;·exactλz=>z.of_set.elim (λq=>by cases q.2) L
   ·rw[af.mp b];exact B8 (au t) rfl
theorem LY{alo p blo r:Nat}(u:H[i]?=some (.fresh (T5 w) (e9 (d0 7 4)) (L7 sf la (alo:Nat) ((alo+p:Nat):Int) lb (blo:Nat) ((blo+r:Nat):Int) none none none)))(N:0<p)(Q:0<r)(t:i≠sf/\i≠la/\i≠lb)(D:alo+p<=1000)(E:blo+r<=1000):o7 P w (d+3) sf la lb i (pSt alo p blo r) [i] H:=by
 have K:Wf sf la lb i [i] H:=⟨.head _,λk C=>by rw[af.mp C];exact(ab.mp u).1,by simp[t.1.symm],by simp[t.2.1.symm],by simp[t.2.2.symm]⟩;refine o7.iff.mpr ⟨K,λA B h U l=>?_⟩;have z:=(U.2 i (.head _)).trans u;have y:=(ab.mp z).1;have R:(alo:Int)<((alo+p:Nat):Int):=aQ.mpr (Nat.lt_add_of_pos_right N);have S:(blo:Int)<((blo+r:Nat):Int):=aQ.mpr (Nat.lt_add_of_pos_right Q);have g:(h.set i .gone).length=h.length:=ax;have v:∀b c e:O,Fr [i] h (h.set i .gone++[b]++[c]++[e]):=λb c e=>(((Fr.refl.set (.inl (.head _))).app).app).app;have M:∀{b c e:O},D1 b=false->D1 c=false->D1 e=false->Yf [i] [] h (h.set i .gone++[b]++[c]++[e]):=λV W X=>(((Yf.set (Yf.refl.out λk C=>.inr (af.mp C▸B8 z rfl))).app V).app W).app X;have F:∀(b c e:O),(h.set i .gone++[b]++[c]++[e])[h.length]?=some b:=λb c e=>by rw[bz,bz,List.getElem?_append_right (by rw[g];exact ae _),g,Nat.sub_self];rfl
 have x:∀(b c e:O),(h.set i .gone++[b]++[c]++[e])[h.length+1]?=some c:=λb c e=>by rw[bz,bz,List.getElem?_append_right (by rw[g];exact aN _),g,Nat.add_sub_cancel_left];rfl
 have G:∀(b c e:O),(h.set i .gone++[b]++[c]++[e])[h.length+2]?=some e:=λb c e=>by rw[bz,bz,List.getElem?_append_right (by rw[g];exact aU _ _),g,Nat.add_sub_cancel_left];rfl
 have gg:∀(b c e:O),(h.set i .gone++[b]++[c]++[e])[i]?=some .gone:=λb c e=>by rw[bz,bz,aI (by rw[g];exact y)];exact au y
 have m:(h.set i .gone)[sf]?=some (.inst 313 I9):=(ag t.1).trans l.f;have j:∀{o:O},(h.set i .gone++[o])[sf]?=some (.inst 313 I9):=λ{o}=>(aI (ab.mp m).1).trans m;have nn:∀n,h.length+n≠sf/\h.length+n≠la/\h.length+n≠lb:=λn=>i9 (bg (aP (Nat.lt_add_right n (ab.mp l.f).1))) (bg (aP (Nat.lt_add_right n (ab.mp l.a).1))) (bg (aP (Nat.lt_add_right n (ab.mp l.b).1)));have L:sf∉[i]/\la∉[i]/\lb∉[i]:=K.n;refine mf z λa=>?_;refine E0 ?_;refine FP ?_;refine C3 (j6 (a7 rfl rfl (a7 rfl rfl (D4 (g9 ?_)))));unfold lO;rw[if_pos (decide_eq_true R)];refine W5 (j6 (a7 rfl rfl (a7 rfl rfl (D4 (g9 ?_)))));refine⟨decide_eq_true S,?_⟩;refine pt ?_;refine j6 (l0 (a7 rfl rfl (a7 rfl rfl (O3 (l0 (a7 rfl rfl (a7 rfl rfl (O3 (D4 (g9 ?_))))))))));have J:((blo+r:Nat):Int)-(blo:Nat)<((alo+p:Nat):Int)-(alo:Nat)↔r<p:=BO;unfold pSt;by_cases c3:r<p;·rw[if_pos c3,decide_eq_true (J.mpr c3)];refine E0 ?_;refine k7 (o6 (pl:=λ_=>_) (a7 rfl rfl ?_));refine j5 _ (ip m) (ig _) ?_;refine b6 (l4 (b6 (a7 rfl rfl (b6 (a7 rfl rfl (b6 (a7 rfl rfl (d8 ?_))))))));refine R8 (ie _) (by rfl) (by rfl) ?_;refine e6 (.inl rfl) ?_;refine E0 ?_;refine k7 (o6 (pl:=λ_=>_) (a7 rfl rfl ?_));refine j5 _ (ip j) (ig _) ?_;refine b6 (l4 (b6 (a7 rfl rfl (b6 (a7 rfl rfl (b6 (a7 rfl rfl (d8 ?_))))))));refine R8 (ie _) (by rfl) (by rfl) ?_;refine e6 (.inl rfl) ?_;refine uu ?_;refine jf ?_;refine w0 (b6 (a7 rfl rfl (b6 (a7 rfl rfl (d8 ?_)))));unfold tP tO;refine⟨by show 2<=aF;decide,?_⟩;refine uC λI=>?_;rw[aK,List.length_singleton,g];refine wy (d:=d+1) (T:=h.length+2) (j1:=h.length) (j2:=h.length+1) (G _ _ _) (kJ (sd:=true) (by decide) (F _ _ _) (nn 0) E) (kJ (sd:=false) (by decide) (x _ _ _) (nn 1) D) (l.fr (v _ _ _) L) (gg _ _ _) (v _ _ _) (M rfl rfl rfl) (B8 (x _ _ _) rfl) (ae _) (aN _) (aU _ _) y (aP (ch _)) (aP (Nat.lt_add_of_pos_right (by decide))) (aP (ch _)) (nn 2) t
 ·rw[if_neg c3,decide_eq_false λq=>c3 (J.mp q)];refine E0 ?_;refine k7 (o6 (pl:=λ_=>_) (a7 rfl rfl ?_));refine j5 _ (ip m) (ig _) ?_;refine b6 (l4 (b6 (a7 rfl rfl (b6 (a7 rfl rfl (b6 (a7 rfl rfl (d8 ?_))))))));refine R8 (ie _) (by rfl) (by rfl) ?_;refine e6 (.inl rfl) ?_;refine E0 ?_;refine k7 (o6 (pl:=λ_=>_) (a7 rfl rfl ?_));refine j5 _ (ip j) (ig _) ?_;refine b6 (l4 (b6 (a7 rfl rfl (b6 (a7 rfl rfl (b6 (a7 rfl rfl (d8 ?_))))))));refine R8 (ie _) (by rfl) (by rfl) ?_;refine e6 (.inl rfl) ?_;refine uu ?_;refine jf ?_;refine w0 (b6 (a7 rfl rfl (b6 (a7 rfl rfl (d8 ?_)))));refine⟨by show 2<=aF;decide,?_⟩;refine uC λI=>?_;rw[aK,List.length_singleton,g];refine wy (d:=d+1) (T:=h.length+2) (j1:=h.length) (j2:=h.length+1) (G _ _ _) (kJ (sd:=false) (by decide) (F _ _ _) (nn 0) D) (kJ (sd:=true) (by decide) (x _ _ _) (nn 1) E) (l.fr (v _ _ _) L) (gg _ _ _) (v _ _ _) (M rfl rfl rfl) (B8 (x _ _ _) rfl) (ae _) (aN _) (aU _ _) y (aP (ch _)) (aP (Nat.lt_add_of_pos_right (by decide))) (aP (ch _)) (nn 2) t
end
noncomputable abbrev jx(w:NQ):FI:=⟨i7 (d0 7 5),true,(o9 (ao8 w.params)).code⟩
noncomputable abbrev qr:UInt64:=4604840546993784750
noncomputable abbrev LZ:UInt64:=4604930618986332160
noncomputable abbrev qs(l la:Nat)(alo a:Int)(lb:Nat)(blo b:Int)(e f g h k j d i c:Option V):b9:=[nv "self" (.ref l),nv "a" (.ref la),nv "alo" (.int alo),nv "ahi" (.int a),nv "b" (.ref lb),nv "blo" (.int blo),nv "bhi" (.int b),("best_ratio",e),("cutoff",f),("cruncher",g),("eqi",h),("eqj",k),("j",j),("bj",d),("i",i),("ai",c),nn "best_i",nn "best_j",nn "aelt",nn "belt",nn "atags",nn "btags",nn "tag",nn "ai1",nn "ai2",nn "bj1",nn "bj2",nn "la",nn "lb"]
noncomputable abbrev V3(f la:Nat)(alo a:Int)(lb:Nat)(blo b:Int)(e:Nat)(j d i c:Option V):b9:=qs f la alo a lb blo b (some (.flt qr)) (some (.flt LZ)) (some (.ref e)) (some .none) (some .none) j d i c
noncomputable def qt:NW:=r6 4 (e9 (d0 7 5))
noncomputable def wz:NW:=r6 2 (C7 qt)
structure jy(alo ahi blo bhi:Nat)(A B:List (Str×Nat)):Prop where
 one:∀p∈A++B,∃c,p.1=S [c]
 tok:∀p∈A++B,∀q∈A++B,p.2=q.2->p.1=q.1
 big:∀p∈A++B,405<p.2
 ne:∀p q x y,alo<=p->p<ahi->blo<=q->q<bhi->A[p]?=some x->B[q]?=some y->x.1≠y.1
def Y5(z:Nat)(A B:List (Str×Nat))(a:List Nat)(t:Nat):Prop:=t=z/\a=[] \/∃p∈A++B,t=p.2/\S a=p.1
theorem Y5.hu(h:Y5 z A B a t)(F:jy alo ahi blo bhi A B)(hz:z<=405)(c:p∈A++B)(e:S a'=p.1):p.2=t->a'=a:=λq=>by
 rcases h with⟨b,_⟩|⟨r,f,b,d⟩;·exact absurd (F.big p c) (bl.mpr (ad (Nat.le_of_eq (q.trans b)) hz))
 ·exact iZ.mp (e.trans ((F.tok p c r f (q.trans b)).trans d.symm))
theorem Y5.next(h:Y5 z A B a t)(b:p∈A++B)(e:S a'=p.1)(c:t'=p.2\/t'=t/\a'=a):Y5 z A B a' t':=by
 rcases c with rfl|⟨rfl,rfl⟩;·exact .inr (j5 p b rfl e)
 ·exact h
structure FS(P:E3)(w:NQ)(sf la lb i mi:Nat)(A B:List (Str×Nat))(H₀ H:List O)(a b:List Nat)(ta tb:Nat):Prop where
 l:Ls P sf la lb A B H
 g:H[i]?=some .gone
 f:Fr [i] H₀ H
 y:Yf [i] [] H₀ H
 hm:H₀.length<=mi
 I:z8 w H mi a b (.stk (S a) ta) (.stk (S b) tb)
 ka:Y5 404 A B a ta
 kb:Y5 405 A B b tb
theorem z8.at(I:z8 w H mi a b ta tb):∃fs,H[mi]?=some (.inst 242 fs):=by refine iE I.ex λg h e d f i p c _=>?_;exact⟨_,c.o⟩
theorem FS.kp(Z:FS P w sf la lb i mi A B H₀ H a b ta tb)(k:k9 H H' mi)(n:iq H H')(I:z8 w H' mi a' b' (.stk (S a') ta') (.stk (S b') tb'))(l:Y5 404 A B a' ta')(m:Y5 405 A B b' tb'):FS P w sf la lb i mi A B H₀ H' a' b' ta' tb':=by
 refine b8 Z.I.at λfs f=>?_;have d:∀{k:Nat}{o:O},H[k]?=some o->(∀fs,o≠.inst 242 fs)->k≠mi:=λe h q=>by subst q;injection f.symm.trans e with e;subst e;exact h _ rfl
 refine b8 I.at λg c=>?_;refine⟨⟨k _ _ (d Z.l.f λ_ q=>by cases q) Z.l.f,k _ _ (d Z.l.a λ_ q=>by injection q) Z.l.a,k _ _ (d Z.l.b λ_ q=>by injection q) Z.l.b,Z.l.na,Z.l.nb,Z.l.ok⟩,k _ _ (d Z.g λ_ q=>by injection q) Z.g,⟨ad Z.f.1 (wq k (ab.mp c).1),λx o j e=>k _ _ (λq=>?_) (Z.f.2 x o j e)⟩,Z.y.ny n,Z.hm,I,l,m⟩;subst q;exact absurd (ab.mp e).1 (bl.mpr Z.hm)
theorem FS.set{h la lb i d j:Nat}{f g:Nat}{I I':Nat}(Z:FS P w h la lb i d A B H₀ H a b f g)(m:H[j]?=some (.rit I x n))(hz:H₀.length<=j)(l:z8 w (H.set j (.rit I' x' n')) d a b (.stk (S a) f) (.stk (S b) g)):FS P w h la lb i d A B H₀ (H.set j (.rit I' x' n')) a b f g:=by
 have c:∀{k:Nat}{o:O},H[k]?=some o->(∀I x n,o≠.rit I x n)->(H.set j (.rit I' x' n'))[k]?=some o:=λe p=>by rw[ag λq=>by subst q;injection m.symm.trans e with e;subst e;exact p _ _ _ rfl];exact e
 exact⟨⟨c Z.l.f λ_ _ _ q=>by injection q,c Z.l.a λ_ _ _ q=>by injection q,c Z.l.b λ_ _ _ q=>by injection q,Z.l.na,Z.l.nb,Z.l.ok⟩,c Z.g λ_ _ _ q=>by injection q,Z.f.set (.inr hz),Z.y.set,Z.hm,l,Z.ka,Z.kb⟩
theorem z8.rit(Z:z8 w H mi a b (.stk (S a) ta) (.stk (S b) tb))(g:H[j]?=some (.rit I x n)):z8 w (H.set j (.rit I' x' n')) mi a b (.stk (S a) ta) (.stk (S b) tb):=by
 refine iG Z.ex λz A u t v B p d i l m=>?_;have c:∀{k:Nat}{o:O},H[k]?=some o->(∀I x n,o≠.rit I x n)->(H.set j (.rit I' x' n'))[k]?=some o:=λe s=>by rw[ag λq=>by subst q;injection g.symm.trans e with e;subst e;exact s _ _ _ rfl];exact e
 refine⟨_,_,_,_,_,_,_,⟨c d.o λ_ _ _ q=>by injection q,c d.d λ_ _ _ q=>by injection q,λj g=>c (d.l j g) λ_ _ _ q=>by injection q,c d.s λ_ _ _ q=>by injection q,.txt,.txt⟩,?_,?_,?_⟩
 · rcases i with h|⟨y,f,h,h',r⟩;·exact .inl h
   ·exact .inr (A9 y f h (c h' λ_ _ _ q=>by injection q) r)
 · rcases l with h|⟨y,f,h,h',r⟩;·exact .inl h
   ·exact .inr (A9 y f h (c h' λ_ _ _ q=>by injection q) r)
 · rcases m with h|⟨y,h,h'⟩;·exact .inl h
   ·exact .inr (b7 y h (c h' λ_ _ _ q=>by injection q))
theorem L9(h:MM [c1] [c2] i j):c1=c2:=by
 refine a9 h λc a b=>?_;try clear h
 cases i with
 |zero=>cases j with|zero=>injection a with a;subst a;injection b with b;subst b;rfl|succ j=>injection b
 |succ i=>injection a
theorem Ma(h:c1≠c2):Rows [c1] [c2]:=⟨by simp,by simp,λ_ _ _ _ m _=>absurd (L9 m) h⟩
theorem Mb(h:c1≠c2):Y0 [c1] [c2]=0:=by unfold Y0;simp[h]
section
variable{P:E3}{w:NQ}{d sf la lb i mi alo ahi blo bhi J1 J2 I2 jq c2:Nat}{o1:O}{A B:List (Str×Nat)}{H₀:List O}{kO:Kt}{q:Str×Nat}{Q:M5->b9->List O->Prop}
theorem wA{H:List O}{l lo:Nat}{T:List (Str×Nat)}{q:Str×Nat}{Q:QV}(b:H[l]?=some (.list (T.map t5)))(a:T.length<=1000)(c:T[lo]?=some q)(h:Q (t5 q) H):W2 w d VR H L5 (.ref l) (.int (lo:Nat)) Q:=D6 (xs:=T.map t5) (.inl b) (aW _) (Int.lt_of_lt_of_le (aQ.mpr (aB (ab.mp c).1 a)) (by decide)) (x:=t5 q) (by rw[aV];show T[lo]?.map t5=_;rw[c];rfl) h
theorem Mc(F:jy alo ahi blo bhi A B)(hq:B[jq]?=some q)(eq:q.1=S [c2])(jr:blo<=jq/\jq<bhi)(M:J1≠J2)(z2:H₀.length<=J2)(f:J1≠mi)(b1:ahi<=1000)(u:∀H' a' W Y r e,(alo<ahi->ahi<=A.length)->FS P w sf la lb i mi A B H₀ H' a' [c2] W Y->H'[J1]?=some o1->GW w (jx w) (d+5) kO (V3 sf la (alo:Nat) (ahi:Nat) lb (blo:Nat) (bhi:Nat) mi (some (.int (jq:Nat))) (some (t5 q)) r e) H' [] Q)(v:A.length<ahi->∀m H',Fr [i] H₀ H'->Yf [i] [] H₀ H'->H'[i]?=some .gone->Q (.exc "IndexError" (some (aa "list index out of range"))) m H'):∀(n:Nat){lo:Nat}{H:List O}{a:List Nat}{U X:Nat}{r e:Option V},FS P w sf la lb i mi A B H₀ H a [c2] U X->H[J1]?=some o1->H[J2]?=some (.rit I2 (lo:Nat) n)->alo<=lo->(alo<lo->lo<=A.length)->lo+n=ahi->GW w (jx w) (d+5) (.loop (kG wz) I2 (C7 wz) [] kO) (V3 sf la (alo:Nat) (ahi:Nat) lb (blo:Nat) (bhi:Nat) mi (some (.int (jq:Nat))) (some (t5 q)) r e) H [] Q:=by intro n;induction n with|zero=>intro lo H a U X r e Z G j k hl D;rw[Nat.add_zero]at D;exact U8 (ko j (λ_=>u _ _ _ _ _ _ (D▸hl) Z G) λk' x=>by injection x)|succ n ih=>
  intro lo H a U X r e Z G j k hl D;have l:lo<ahi:=by rw[<-D];exact Nat.lt_add_of_pos_right (Nat.succ_pos n)
  refine U8 (ko j (λh=>by injection h) λk' x=>?_);injection x with x;subst x;have c:=Z.set (I':=I2) (x':=(lo:Int)+1) (n':=n) j z2 (Z.I.rit j);have L:(H.set J2 (.rit I2 ((lo:Int)+1) n))[J1]?=some o1:=(ag (bg M)).trans G;have s:(H.set J2 (.rit I2 ((lo:Int)+1) n))[J2]?=some (.rit I2 ((lo+1:Nat):Int) n):=au (ab.mp j).1;generalize H.set J2 (.rit I2 ((lo:Int)+1) n)=H1 at c L s⊢;clear Z G j;refine e6 (.inl (by rfl)) ?_;have em:u9 (V3 sf la (alo:Nat) (ahi:Nat) lb (blo:Nat) (bhi:Nat) mi (some (.int (jq:Nat))) (some (t5 q)) r e) "i" (.int lo)=V3 sf la (alo:Nat) (ahi:Nat) lb (blo:Nat) (bhi:Nat) mi (some (.int (jq:Nat))) (some (t5 q)) (some (.int (lo:Nat))) e:=by rfl
  rw[em];cases t:A[lo]? with|none=>
   have y:A.length<=lo:=List.getElem?_eq_none_iff.mp t;refine uv qi (wm (pB (xs:=A.map t5) (by rfl) (by rfl) (by rfl) (by rfl) (by rfl) (by rfl) c.l.a ?_ ?_ ?_ ?_));·rw[ak];right;exact Int.ofNat_le.mpr y
   ·exact Int.le_trans (by decide) (aW _)
   ·exact Int.lt_of_le_of_lt (Int.ofNat_le.mpr (ad (Nat.le_of_lt l) b1)) (by decide)
   ·exact v (Nat.lt_of_le_of_lt y l) _ _ c.f c.y c.g|some p=>
   have T:p∈A++B:=bB _ (aY t);refine b8 (F.one p T) λc1 E=>?_;have o:c1≠c2:=λz=>F.ne lo jq p q k l jr.1 jr.2 t hq (by rw[E,eq,z]);refine E0 ?_;refine k7 (s5 (a7 rfl rfl (a7 rfl rfl ?_)));refine wA c.l.a c.l.na.1 t ?_;refine e6 (.inl rfl) ?_;show GW _ _ _ _ (V3 sf la (alo:Nat) (ahi:Nat) lb (blo:Nat) (bhi:Nat) mi (some (.int (jq:Nat))) (some (t5 q)) (some (.int (lo:Nat))) (some (t5 p))) _ _ _;have J:t5 p=.stk (S [c1]) p.2:=by unfold t5;rw[E]
   have K:t5 q=.stk (S [c2]) q.2:=by unfold t5;rw[eq]
   rw[J];refine E0 ?_;refine o5 ?_;refine j6 ?_;refine mw (by rfl) (by rfl) ?_;refine mw (by rfl) (by show some (t5 q)=some (.stk (S [c2]) q.2);rw[K]) ?_;refine L4 (g9 (n5 (λz=>o (jo.mp (by simpa using z))) (e7 ?_)));have C:J2≠mi:=λz=>by refine b8 c.I.at λfs N=>?_;rw[z,N]at s;exact by injection s with q;injection q
   refine E0 (s4 (o6 (pl:=λ_=>_) (a7 rfl rfl (j5 _ (LI c.I) (vl w) (b6 (a7 rfl rfl (d8 (ir (Li (d:=d+4) c.I (c.ka.hu F (by decide) T E.symm) λH2 t' I I2 ht n2=>?_)))))))));have g:=c.kp I n2 I2 (c.ka.next T E.symm ht) c.kb;have g3:=I _ _ f L;have g4:=I _ _ C s;clear c L s I I2 n2;refine E0 (o5 (C3 (j6 (o6 (pl:=λ_=>_) (a7 rfl rfl (j5 _ (LK g.I) (Jn w) (d8 (Ll (d:=d+3) g.I (show 1<=25 by decide) (show 1<=25 by decide) (show 1≠0 by decide) (a7 rfl rfl (wl (b:=true) (show(gw (P0 1 2) qr==some .gt)=true by decide+kernel) (g9 (G8 rfl ?_)))))))))))) 
   refine C3 (j6 (o6 (pl:=λ_=>_) (a7 rfl rfl (j5 _ (LL g.I) (Jl w) (d8 (ir (Lm (d:=d+3) (Ma o) g.I (show 1<=25 by decide) (show 1<=25 by decide) (show 1≠0 by decide) λH3 R I3 n3=>?_)))))));rw[Mb o];refine a7 rfl rfl (wl (b:=false) (show(gw (P0 0 2) qr==some .gt)=false by decide+kernel) (g9 (I6 (by decide) (n5 (by decide) (e7 ?_)))));exact ih (g.kp R n3 I3 g.ka g.kb) (R _ _ f g3) (R _ _ C g4) (bW k) (λ_=>(ab.mp t).1) (by rw[Nat.add_right_comm];exact D)
end
section
variable{P:E3}{w:NQ}{d sf la lb i mi alo ahi blo bhi J1 I1:Nat}{A B:List (Str×Nat)}{H₀:List O}{k0:Kt}{rest:List NW}{Q:M5->b9->List O->Prop}
theorem FS.app(Z:FS P w sf la lb i mi A B H₀ H a b ta tb)(h:autoParam (D1 o=false) NT.under_of_weight._auto_1):FS P w sf la lb i mi A B H₀ (H++[o]) a b ta tb:=Z.kp (k9.pre (aH _ _) _) (λ_ q=>q.of_app h) (by refine iG Z.I.ex λm n k j l r p c e f g=>?_;exact⟨_,_,_,_,_,_,_,c.mono (aH _ _),e.kp c.o (k9.pre (aH _ _) _),f.kp c.o (k9.pre (aH _ _) _),g.kp c.o (k9.pre (aH _ _) _)⟩) Z.ka Z.kb
theorem Me(F:jy alo ahi blo bhi A B)(z1:H₀.length<=J1)(J:ahi<=1000)(b2:bhi<=1000)(K:alo<ahi)(u:∀H' W b' D E p j f c,(blo<bhi->bhi<=B.length/\ahi<=A.length)->FS P w sf la lb i mi A B H₀ H' W b' D E->GW w (jx w) (d+5) k0 (V3 sf la (alo:Nat) (ahi:Nat) lb (blo:Nat) (bhi:Nat) mi p j f c) H' rest Q)(g:A.length<ahi\/B.length<bhi->∀m H',Fr [i] H₀ H'->Yf [i] [] H₀ H'->H'[i]?=some .gone->Q (.exc "IndexError" (some (aa "list index out of range"))) m H'):∀(n:Nat){lo:Nat}{H:List O}{a b:List Nat}{N R:Nat}{p j f c:Option V},FS P w sf la lb i mi A B H₀ H a b N R->H[J1]?=some (.rit I1 (lo:Nat) n)->blo<=lo->(blo<lo->lo<=B.length/\ahi<=A.length)->lo+n=bhi->GW w (jx w) (d+5) (.loop (kG qt) I1 (C7 qt) rest k0) (V3 sf la (alo:Nat) (ahi:Nat) lb (blo:Nat) (bhi:Nat) mi p j f c) H [] Q:=by intro n;induction n with|zero=>intro lo H a b N R p j f c Z k l Y C;rw[Nat.add_zero]at C;exact U8 (ko k (λ_=>u _ _ _ _ _ _ _ _ _ (C▸Y) Z) λk' v=>by injection v)|succ n ih=>
  intro lo H a b N R p j f c Z k l Y C;have o:lo<bhi:=by rw[<-C];exact Nat.lt_add_of_pos_right (Nat.succ_pos n)
  refine U8 (ko k (λh=>by injection h) λk' v=>?_);injection v with v;subst v;have e:=Z.set (I':=I1) (x':=(lo:Int)+1) (n':=n) k z1 (Z.I.rit k);have s:(H.set J1 (.rit I1 ((lo:Int)+1) n))[J1]?=some (.rit I1 ((lo+1:Nat):Int) n):=au (ab.mp k).1;generalize H.set J1 (.rit I1 ((lo:Int)+1) n)=H1 at e s⊢;clear Z k;refine e6 (.inl (by rfl)) ?_;have em:u9 (V3 sf la (alo:Nat) (ahi:Nat) lb (blo:Nat) (bhi:Nat) mi p j f c) "j" (.int lo)=V3 sf la (alo:Nat) (ahi:Nat) lb (blo:Nat) (bhi:Nat) mi (some (.int (lo:Nat))) j f c:=by rfl
  rw[em];cases t:B[lo]? with|none=>
   have x:B.length<=lo:=List.getElem?_eq_none_iff.mp t;refine uv qi (wm (pB (xs:=B.map t5) (by rfl) (by rfl) (by rfl) (by rfl) (by rfl) (by rfl) e.l.b ?_ ?_ ?_ ?_));·rw[ak];right;exact Int.ofNat_le.mpr x
   ·exact Int.le_trans (by decide) (aW _)
   ·exact Int.lt_of_le_of_lt (Int.ofNat_le.mpr (ad (Nat.le_of_lt o) b2)) (by decide)
   ·exact g (.inr (Nat.lt_of_le_of_lt x o)) _ _ e.f e.y e.g|some q=>
   have qm:q∈A++B:=bD _ (aY t);refine b8 (F.one q qm) λc2 G=>?_;refine E0 ?_;refine k7 (s5 (a7 rfl rfl (a7 rfl rfl ?_)));refine wA e.l.b e.l.nb.1 t ?_;refine e6 (.inl rfl) ?_;show GW _ _ _ _ (V3 sf la (alo:Nat) (ahi:Nat) lb (blo:Nat) (bhi:Nat) mi (some (.int (lo:Nat))) (some (t5 q)) f c) _ _ _;have r:t5 q=.stk (S [c2]) q.2:=by unfold t5;rw[G]
   have y:J1≠mi:=λz=>by refine b8 e.I.at λfs L=>?_;rw[z,L]at s;exact by injection s with q;injection q
   refine E0 (s4 (o6 (pl:=λ_=>_) (a7 rfl rfl (j5 _ (LJ e.I) (vm w) (b6 (a7 rfl rfl (d8 ?_)))))));rw[r];refine ir (Lj (d:=d+2) e.I (by simp) (show 1<=25 by decide) (e.kb.hu F (by decide) qm G.symm) λT t' M I ht n2=>?_);have U:=e.kp M n2 I e.ka (e.kb.next qm G.symm ht);have X:=M _ _ y s;clear e s M I n2;rw[<-r];refine jf ?_;refine q6 (K9 rfl (cv _) cy ⟨by first|exact trivial| show keepIn _ _=true;kernel_rfl,b6 (a7 rfl rfl (b6 (a7 rfl rfl (d8 (iY ?_)))))⟩);refine pz ⟨Int.le_trans (by decide) (aW _),Int.lt_of_le_of_lt (Int.ofNat_le.mpr (ad (Nat.le_of_lt K) J)) (by decide)⟩ ⟨Int.le_trans (by decide) (aW _),Int.lt_of_le_of_lt (Int.ofNat_le.mpr J) (by decide)⟩ λI=>?_;rw[Int.toNat_sub];have l2:J1<T.length:=(ab.mp X).1;refine Mc (J1:=J1) (J2:=T.length) F t G ⟨l,o⟩ (aP l2) U.f.1 y J (λH' W D E f c hA Z' g'=>ih (lo:=lo+1) Z' g' (bW l) (λ_=>⟨(ab.mp t).1,hA K⟩) (by rw[Nat.add_right_comm];exact C)) (λh=>g (.inl h)) (ahi-alo) (lo:=alo) U.app (by rw[aI l2];exact X) ao (ae _) (λh=>absurd h (Nat.lt_irrefl _)) (Nat.add_sub_of_le (Nat.le_of_lt K))
end
noncomputable def needs(a b:Nat):List r5->List r5|[]=>[]|s::L=>{s with na:=a,nb:=b}::L
theorem Mf(e:0<c)(f:0<d):∃s L,pSt alo c blo d=s::L/\s.na=0/\s.nb=0:=by
 refine b8 (Nat.exists_eq_succ_of_ne_zero (cG e)) λc a=>?_;subst a;refine b8 (Nat.exists_eq_succ_of_ne_zero (cG f)) λd b=>?_;subst b;unfold pSt;split;·exact A9 _ _ rfl rfl rfl
 ·exact A9 _ _ rfl rfl rfl
section
variable{P:E3}{w:NQ}{d i sf la lb alo na blo nb:Nat}{H:List O}{A B:List (Str×Nat)}{own:List Nat}
theorem Mg(a:s.na=0)(b:s.nb=0)(h:x<=A.length/\y<=B.length):y9 A B {s with na:=x,nb:=y}=y9 A B s:=by rw[kI a b];unfold y9;dsimp only;rw[if_pos h]
theorem BQ.needs(e:L=s::M)(a:s.na=0)(b:s.nb=0)(h:x<=A.length/\y<=B.length)(q:BQ P w d sf la lb i L own A B H ans H'):BQ P w d sf la lb i (needs x y L) own A B H ans H':=by subst e;unfold BQ at q⊢;unfold Mine.Internal.needs;dsimp only at q⊢;rw[Mg a b h];exact q
theorem hU.mono(h:hU w fi d k m rest j Q ans H')(a:∀g m H,Q g m H->Q' g m H):hU w fi d k m rest j Q' ans H':=by cases ans with
 |txt x=>cases h with|mk b c=>exact .mk b (a _ _ _ c)
 |nothing=>exact GW.mono h a|err X msg=>exact a _ _ _ h
theorem Mh(hP:∀A B,P A B->jy alo (alo+na) blo (blo+nb) A B)(u:H[i]?=some (.fresh (jx w) (e9 (d0 7 5)) (qs sf la (alo:Nat) ((alo+na:Nat):Int) lb (blo:Nat) ((blo+nb:Nat):Int) none none none none none none none none none)))(K:0<na)(M:0<nb)(E:i≠sf/\i≠la/\i≠lb)(ba:alo+na<=1000)(D:blo+nb<=1000):o7 P w (d+6) sf la lb i (needs (alo+na) (blo+nb) (pSt alo na blo nb)) [i] H:=by
 have wf:Wf sf la lb i [i] H:=⟨.head _,λk f=>by rw[af.mp f];exact(ab.mp u).1,by simp[E.1.symm],by simp[E.2.1.symm],by simp[E.2.2.symm]⟩;refine o7.iff.mpr ⟨wf,λA B n kp l=>?_⟩;have F:=hP A B l.ok;have N:=(kp.2 i (.head _)).trans u;have i1:=(ab.mp N).1;have wn:sf∉[i]/\la∉[i]/\lb∉[i]:=wf.n;refine i8 (Mf (alo:=alo) (blo:=blo) K M) λC a1 eL z1 z2=>?_;refine mf N λa=>?_;have s:Fr [i] n (n.set i .gone):=Fr.refl.set (.inl (.head _));have W:Yf [i] [] n (n.set i .gone):=Yf.set (Yf.refl.out λk f=>.inr (af.mp f▸B8 N rfl));have S:(n.set i .gone)[i]?=some .gone:=au i1;have j:=l.fr s wn;generalize n.set i .gone=G at s W S j⊢;refine E0 ?_;refine s4 (l4 ?_);refine E0 (wo λQ U=>by unfold bL ca cw;rw[U];rfl ?_);refine w0 (b6 (pT (b6 (pT (d8 ?_)))));refine⟨by show 2<=aF;decide,?_⟩;refine R4 ?_;refine D8 rfl (e6 (.inl (by rfl)) (e6 (.inl (by rfl)) ?_));refine E0 (k7 (q6 (U4 rfl (vq _) ⟨kC _,b6 (w1 (a7 rfl rfl (A4 (Y1 w) (Lx w) wj j.f (by rfl) (by intro _ q;cases q) (d8 (ir (Lu (d:=d) λI k2 J n2=>?_))))))⟩)));have Z:FS P w sf la lb i G.length A B n I [] [] 404 405:=by
  have v:∀{k:Nat}{o:O},G[k]?=some o->I[k]?=some o:=λ{k o}e=>by have f:=(ab.mp e).1;exact k2 _ _ (aP f) ((aI f).trans e)
  have hm:=(ab.mp (J.at).choose_spec).1;exact⟨⟨v j.f,v j.a,v j.b,j.na,j.nb,j.ok⟩,v S,⟨ad s.1 (Nat.le_of_lt hm),λk x f e=>v (s.2 k x f e)⟩,W.ny n2,s.1,J,.inl ⟨rfl,rfl⟩,.inl ⟨rfl,rfl⟩⟩
 generalize G.length=mi at Z⊢;clear k2 J n2 S j s W;refine e6 (.inl (by rfl)) ?_;refine E0 (wo λQ U=>by unfold bL ca cw;rw[U];rfl ?_);refine w0 (b6 (J6 (b6 (J6 (d8 ?_)))));refine⟨by show 2<=aF;decide,?_⟩;refine R4 ?_;refine D8 rfl (e6 (.inl (by rfl)) (e6 (.inl (by rfl)) ?_));refine jf ?_;refine q6 (K9 rfl (cv _) cy ⟨by first|exact trivial| kernel_rfl,b6 (a7 rfl rfl (b6 (a7 rfl rfl (d8 (iY ?_)))))⟩);refine pz ⟨Int.le_trans (by decide) (aW _),Int.lt_of_le_of_lt (Int.ofNat_le.mpr (ad (aU blo nb) D)) (by decide)⟩ ⟨Int.le_trans (by decide) (aW _),Int.lt_of_le_of_lt (Int.ofNat_le.mpr D) (by decide)⟩ λI1=>?_;rw[Int.toNat_sub];have V:∀{x y},¬(x<=A.length/\y<=B.length)->y9 A B {C with na:=x,nb:=y}=none:=λh=>by unfold y9;rw[if_neg h]
 refine Me (d:=d+1) (J1:=I.length) F Z.f.1 ba D (Nat.lt_add_of_pos_right K) (λc a' b' a3 a4 jv bv iv a2 T p=>?_) (λh m c f3 y3 g3=>?_) (blo+nb-blo) (lo:=blo) Z.app ao (ae _) (λh=>absurd h (Nat.lt_irrefl _)) (Nat.add_sub_of_le (aU _ _))
 · have t:=T (Nat.lt_add_of_pos_right M);refine pt ?_;refine j6 (a7 rfl rfl (a7 rfl rfl (LN (b:=true) (by decide+kernel) (g9 ?_))));refine pt ?_;refine j6 (a7 rfl rfl (J6 (cg (b:=true) rfl (g9 ?_))));refine me ?_;refine o6 (pl:=λ_=>_) (a7 rfl rfl ?_);refine j5 _ (LF p.l.f) (Jq _) ?_;refine b6 (a7 rfl rfl (b6 (a7 rfl rfl (b6 (a7 rfl rfl (b6 (a7 rfl rfl (b6 (a7 rfl rfl (b6 (a7 rfl rfl (d8 ?_))))))))))));refine R8 (Jp _) (by rfl) (by rfl) ?_;refine b7 c.length rfl ?_;have r:=p.app (o:=.fresh (T5 w) (e9 (d0 7 4)) (L7 sf la (alo:Nat) ((alo+na:Nat):Int) lb (blo:Nat) ((blo+nb:Nat):Int) none none none));have g4:(c++[O.fresh (T5 w) (e9 (d0 7 4)) (L7 sf la (alo:Nat) ((alo+na:Nat):Int) lb (blo:Nat) ((blo+nb:Nat):Int) none none none)])[c.length]?=some (.fresh (T5 w) (e9 (d0 7 4)) (L7 sf la (alo:Nat) ((alo+na:Nat):Int) lb (blo:Nat) ((blo+nb:Nat):Int) none none none)):=ao;have nj:c.length≠sf/\c.length≠la/\c.length≠lb:=i9 (bg (aP (ab.mp p.l.f).1)) (bg (aP (ab.mp p.l.a).1)) (bg (aP (ab.mp p.l.b).1));have hj:i≠c.length:=aP (ab.mp p.g).1;show F0 _ _ (c++[O.fresh (T5 w) (e9 (d0 7 4)) (L7 sf la (alo:Nat) ((alo+na:Nat):Int) lb (blo:Nat) ((blo+nb:Nat):Int) none none none)]) _ _;generalize c++[O.fresh (T5 w) (e9 (d0 7 4)) (L7 sf la (alo:Nat) ((alo+na:Nat):Int) lb (blo:Nat) ((blo+nb:Nat):Int) none none none)]=H4 at r g4⊢;have b:=LY (P:=P) (d:=d+1) g4 K M nj ba D;refine(mR (R:=[]) (X:=[]) (own:=[i]) (H₀:=n) b r.l ⟨λx hx=>absurd hx List.not_mem_nil,(ab.mp r.g).1,by simp[hj],E⟩ r.g r.f (λy hy=>?_) (r.y.out λ_ q=>absurd q List.not_mem_nil) (λ_ q=>absurd q List.not_mem_nil) ?_).mono λL H5 z=>z.mono λg m1 H6 z=>GQ.mono z λL H7 z=>?_
   · rcases(az.mp hy).imp_left aM with rfl|hy;·exact .inl (.head _)
     ·rw[af.mp hy];exact .inr p.f.1
   ·intro A' B' Y l' _ _ hg;refine E0 (oE ?_);exact j8 rfl (Fr.refl.set (.inl (.head _))) (au (ab.mp hg).1) (Yf.set (Yf.refl.out λk f=>.inr (af.mp f▸B8 hg rfl)))
   ·rw[bG]at z;exact z.needs eL z1 z2 ⟨t.2,t.1⟩
 ·rw[eL];show BQ _ _ _ _ _ _ _ (_::_) _ _ _ _ _ _;unfold BQ;dsimp only;rw[V λq=>h.elim (λz=>absurd q.1 (Nat.not_le.mpr z)) λz=>absurd q.2 (Nat.not_le.mpr z)];exact j8 rfl (f3.set (.inl (.head _))) (au (ab.mp g3).1) y3.set
end
noncomputable abbrev dz(w:NQ):FI:=⟨i7 (d0 7 2),true,(o9 (ao5 w.params)).code⟩
noncomputable abbrev iw(d la lb:Nat)(c tag alo a blo b g:Option V):b9:=[nv "self" (.ref d),nv "a" (.ref la),nv "b" (.ref lb),("cruncher",c),("tag",tag),("alo",alo),("ahi",a),("blo",blo),("bhi",b),("g",g)]
noncomputable def qw:NW:=r6 2 (e9 (d0 7 2))
noncomputable abbrev cK(I:Nat):Kt:=.loop (kG qw) I (C7 qw) [] (.top (e9 (d0 7 2)))
noncomputable def P4(o:Op):List r5:=if o.1="replace"then needs o.2.2.1 o.2.2.2.2 (pSt o.2.1 (o.2.2.1-o.2.1) o.2.2.2.1 (o.2.2.2.2-o.2.2.2.1))else if o.1="delete"then o8 "-" false o.2.1 (o.2.2.1-o.2.1)else if o.1="insert"then o8 "+" true o.2.2.2.1 (o.2.2.2.2-o.2.2.2.1)else o8 " " false o.2.1 (o.2.2.1-o.2.1)
structure mU(P:E3)(o:Op):Prop where
 tag:o.1="replace"/\o.2.1<o.2.2.1/\o.2.2.2.1<o.2.2.2.2\/o.1="delete"\/o.1="insert"\/o.1="equal"
 a:o.2.1<=o.2.2.1/\o.2.2.1<=1000
 b:o.2.2.2.1<=o.2.2.2.2/\o.2.2.2.2<=1000
 p:o.1="replace"->∀A B,P A B->jy o.2.1 o.2.2.1 o.2.2.2.1 o.2.2.2.2 A B
section
variable{P:E3}{w:NQ}{d i sf la lb T an a I:Nat}{A B:List (Str×Nat)}{ops:List Op}
theorem Mi(f:i1<i2)(g:j1<j2)(k:∀A B,P A B->jy i1 i2 j1 j2 A B)(b:H[i]?=some (.fresh (jx w) (e9 (d0 7 5)) (qs sf la (i1:Nat) (i2:Nat) lb (j1:Nat) (j2:Nat) none none none none none none none none none)))(l:i≠sf/\i≠la/\i≠lb)(h:i2<=1000)(j:j2<=1000):o7 P w (d+6) sf la lb i (needs i2 j2 (pSt i1 (i2-i1) j1 (j2-j1))) [i] H:=by refine b8 (Nat.exists_eq_add_of_le (Nat.le_of_lt f)) λn c=>?_;subst c;refine b8 (Nat.exists_eq_add_of_le (Nat.le_of_lt g)) λm e=>?_;subst e;rw[Nat.add_sub_cancel_left,Nat.add_sub_cancel_left];exact Mh k b (Nat.lt_add_right_iff_pos.mp f) (Nat.lt_add_right_iff_pos.mp g) l h j
theorem qx{sd:Bool}{lo b:Nat}(g:tag.length<=1000)(h:lo<=b)(c:H[i]?=some (.fresh (mS w) (e9 (d0 7 3)) (Y4 sf (t6 la lb sd) tag (lo:Nat) (b:Nat) none)))(j:i≠sf/\i≠la/\i≠lb)(f:b<=1000):o7 P w (d+1) sf la lb i (o8 tag sd lo (b-lo)) [i] H:=by refine b8 (Nat.exists_eq_add_of_le h) λn e=>?_;subst e;rw[Nat.add_sub_cancel_left];exact kJ g c j f
noncomputable def T6(b:List Op):List r5:=b.flatMap P4
theorem Mj(ok:∀o∈ops,mU P o)(ni:i≠sf/\i≠la/\i≠lb)(Q:T≠i/\T≠sf/\T≠la/\T≠lb)(a5:an≠i/\an≠sf/\an≠la/\an≠lb)(a0:T≠an):∀(c:List Op){A B:List (Str×Nat)}{idx:Nat}{H H₀:List O}{own:List Nat}{E tag alo s blo t g:Option V},ops.drop idx=c->Ls P sf la lb A B H->H[i]?=some .gone->H[T]?=some (.lit I an idx)->H[an]?=some (.list (ops.map X9))->Fr own H₀ H->Yf own [] H₀ H->(∀y∈[i,T,an],y∈own\/H₀.length<=y)->GW w (dz w) (d+8) (cK I) (iw sf la lb E tag alo s blo t g) H [] (GQ (BQ P w (d+8) sf la lb i (T6 c) own A B H₀) i a (dz w)):=by
 intro c;induction c with|nil=>
  intro A B idx H H₀ own E tag alo s blo t g z l W J p f y u;refine U8 (uB J p (λ_=>pr ?_) λx j=>?_);·exact j8 rfl ((f.set (u T (.tail _ (.head _)))).set (u i (.head _))) (au (by rw[ax];exact(ab.mp W).1)) y.set.set
  ·rw[aV,List.getElem?_eq_none (List.drop_eq_nil_iff.mp z)]at j;injection j|cons o c ih=>
  intro A B idx H H₀ own E tag alo s blo t g z l W J p f y u;have a3:idx<ops.length:=bI λq=>by rw[List.drop_eq_nil_of_le q]at z;injection z
  have ho:ops[idx]?=some o:=by
   have:(ops.drop idx)[0]?=some o:=by rw[z];rfl
   rw[List.getElem?_drop]at this;exact this
  have a4:ops.drop (idx+1)=c:=by rw[<-List.drop_drop,z];rfl
  have om:=ok o (aY ho);refine U8 (uB J p (λh=>absurd a3 (bl.mpr (by rw[ak]at h;exact h))) λx j=>?_);rw[aV,ho]at j;injection j with j;subst j;have K:=(ab.mp J).1;have f1:Fr own H₀ (H.set T (.lit I an (idx+1))):=f.set (u T (.tail _ (.head _)));have y1:Yf own [] H₀ (H.set T (.lit I an (idx+1))):=y.set;have m:Ls P sf la lb A B (H.set T (.lit I an (idx+1))):=⟨(ag Q.2.1).trans l.f,(ag Q.2.2.1).trans l.a,(ag Q.2.2.2).trans l.b,l.na,l.nb,l.ok⟩;have S:(H.set T (.lit I an (idx+1)))[i]?=some .gone:=(ag Q.1).trans W;have D:(H.set T (.lit I an (idx+1)))[T]?=some (.lit I an (idx+1)):=au K;have v:(H.set T (.lit I an (idx+1)))[an]?=some (.list (ops.map X9)):=(ag a0).trans p;generalize H.set T (.lit I an (idx+1))=n at f1 y1 m S D v⊢;clear l W J p f y K;refine R4 (D8 rfl (e6 (.inl (by rfl)) (e6 (.inl (by rfl)) (e6 (.inl (by rfl)) (e6 (.inl (by rfl)) (e6 (.inl (by rfl)) ?_))))));show GW _ _ _ _ (iw sf la lb E (some (.str o.1)) (some (.int (o.2.1:Nat))) (some (.int (o.2.2.1:Nat))) (some (.int (o.2.2.2.1:Nat))) (some (.int (o.2.2.2.2:Nat))) g) _ _ _
  -- what follows once the generator stands at the end
  have G:∀(F:O)(g':Option V),D1 F=false-> o7 P w (d+6) sf la lb n.length (P4 o) [n.length] (n++[F]) ->g'=some (.ref n.length)->GW w (dz w) (d+8) (cK I) (iw sf la lb E (some (.str o.1)) (some (.int (o.2.1:Nat))) (some (.int (o.2.2.1:Nat))) (some (.int (o.2.2.2.1:Nat))) (some (.int (o.2.2.2.2:Nat))) g') (n++[F]) ((C7 qw).drop 1) (GQ (BQ P w (d+8) sf la lb i (T6 (o::c)) own A B H₀) i a (dz w)):=by
   intro F g' a2 b eg;subst eg;have r:∀{k:Nat}{x:O},n[k]?=some x->(n++[F])[k]?=some x:=λe=>(aI (ab.mp e).1).trans e;have lt:∀{k:Nat}{x:O},n[k]?=some x->k<n.length:=λe=>(ab.mp e).1;refine me (a7 (by rfl) (by rfl) (b7 n.length rfl ?_));refine mR (L:=P4 o) (R:=T6 c) (X:=[T,an]) (own:=own) (H₀:=H₀) b ⟨r m.f,r m.a,r m.b,m.na,m.nb,m.ok⟩ ⟨λx j=>?_,?_,?_,ni⟩ (r S) f1.app (λy hy=>?_) ((y1.app a2).out λ_ q=>absurd q List.not_mem_nil) (λx j=>?_) ?_
   · rw[aK];rcases(az.mp j).imp_left aM with rfl|j;·exact i9 (Nat.lt_add_right _ (lt D)) (by simp[aP (lt D)]) Q
     ·exact af.mp j▸i9 (Nat.lt_add_right _ (lt v)) (by simp[aP (lt v)]) a5
   ·exact aK▸Nat.lt_add_right _ (lt S)
   ·simp[aP (lt S)]
   · rcases(az.mp hy).imp_left aM with rfl|hy;·exact u _ (.head _)
     · rcases(az.mp hy).imp_left aM with rfl|hy;·exact u _ (.tail _ (.head _))
       · rcases(az.mp hy).imp_left aM with rfl|hy;·exact u _ (.tail _ (.tail _ (.head _)))
         ·exact af.mp hy▸.inr f1.1
   · rcases(az.mp j).imp_left aM with rfl|j;·exact B8 (r D) rfl
     ·exact af.mp j▸B8 (r v) rfl
   ·intro A' B' a6 l' b0 U M;exact ih a4 l' M ((U T (.head _)).trans (r D)) ((U an (.tail _ (.head _))).trans (r v)) .refl (Yf.refl.out λk N=>.inr (by
      rcases(az.mp N).imp_left aM with rfl|N;·exact B8 M rfl
      · rcases(az.mp N).imp_left aM with rfl|N;·exact B8 ((U _ (.head _)).trans (r D)) rfl
        ·exact af.mp N▸B8 ((U an (.tail _ (.head _))).trans (r v)) rfl)) λy hy=>.inl hy
  have Z:n.length≠sf/\n.length≠la/\n.length≠lb:=i9 (bg (aP (ab.mp m.f).1)) (bg (aP (ab.mp m.a).1)) (bg (aP (ab.mp m.b).1));obtain⟨tg,i1,i2,j1,j2⟩:=o;obtain⟨mt,C,Y,mp⟩:=om;dsimp only at mt C Y mp G⊢;refine E0 ?_;refine o5 (j6 (a7 rfl rfl (l4 (L4 (g9 ?_)))));rcases mt with⟨rfl,h1,h2⟩|rfl|rfl|rfl;·refine s6 (by decide) ?_;refine c9 (k7 (o6 (pl:=λ_=>_) (a7 rfl rfl ?_)));refine j5 _ (LG m.f) (Js _) ?_;refine b6 (a7 rfl rfl (b6 (a7 rfl rfl (b6 (a7 rfl rfl (b6 (a7 rfl rfl (b6 (a7 rfl rfl (b6 (a7 rfl rfl (d8 ?_))))))))))));refine R8 (Jr _) (by rfl) (by rfl) ?_;refine e6 (.inl rfl) (e7 ?_);exact G _ _ rfl (Mi h1 h2 (mp rfl) ao Z C.2 Y.2) rfl
  ·refine n5 (by decide) ?_;refine c9 (o5 (j6 (a7 rfl rfl (l4 (L4 (g9 ?_))))));refine s6 (by decide) ?_;refine c9 (k7 (o6 (pl:=λ_=>_) (a7 rfl rfl ?_)));refine j5 _ (ip m.f) (ig _) ?_;refine b6 (l4 (b6 (a7 rfl rfl (b6 (a7 rfl rfl (b6 (a7 rfl rfl (d8 ?_))))))));refine R8 (ie _) (by rfl) (by rfl) ?_;refine e6 (.inl rfl) (e7 (e7 ?_));exact G _ _ rfl (qx (d:=d+5) (sd:=false) (by decide) C.1 ao Z C.2) rfl
  ·refine n5 (by decide) ?_;refine c9 (o5 (j6 (a7 rfl rfl (l4 (L4 (g9 ?_))))));refine n5 (by decide) ?_;refine c9 (o5 (j6 (a7 rfl rfl (l4 (L4 (g9 ?_))))));refine s6 (by decide) ?_;refine c9 (k7 (o6 (pl:=λ_=>_) (a7 rfl rfl ?_)));refine j5 _ (ip m.f) (ig _) ?_;refine b6 (l4 (b6 (a7 rfl rfl (b6 (a7 rfl rfl (b6 (a7 rfl rfl (d8 ?_))))))));refine R8 (ie _) (by rfl) (by rfl) ?_;refine e6 (.inl rfl) (e7 (e7 (e7 ?_)));exact G _ _ rfl (qx (d:=d+5) (sd:=true) (by decide) Y.1 ao Z Y.2) rfl
  ·refine n5 (by decide) ?_;refine c9 (o5 (j6 (a7 rfl rfl (l4 (L4 (g9 ?_))))));refine n5 (by decide) ?_;refine c9 (o5 (j6 (a7 rfl rfl (l4 (L4 (g9 ?_))))));refine n5 (by decide) ?_;refine c9 (o5 (j6 (a7 rfl rfl (l4 (L4 (g9 ?_))))));refine s6 (by decide) ?_;refine c9 (k7 (o6 (pl:=λ_=>_) (a7 rfl rfl ?_)));refine j5 _ (ip m.f) (ig _) ?_;refine b6 (l4 (b6 (a7 rfl rfl (b6 (a7 rfl rfl (b6 (a7 rfl rfl (d8 ?_))))))));refine R8 (ie _) (by rfl) (by rfl) ?_;refine e6 (.inl rfl) (e7 (e7 (e7 (e7 ?_))));exact G _ _ rfl (qx (d:=d+5) (sd:=false) (by decide) C.1 ao Z C.2) rfl
end
noncomputable abbrev m5(p:Nat×Nat):Str×Nat:=(S [p.1],p.2)
theorem kK{L:List (Nat×Nat)}:(L.map m5).map t5=L.map l9:=by rw[cV];rfl
section
variable{P:E3}{w:NQ}{d i sf la lb:Nat}{H:List O}{LA LB:List (Nat×Nat)}{Qa:D9->List O->Prop}
theorem Mk(U:H[i]?=some (.fresh (dz w) (e9 (d0 7 2)) (iw sf la lb none none none none none none none)))(l:Ls P sf la lb (LA.map m5) (LB.map m5) H)(R:Rows (LA.map (·.1)) (LB.map (·.1)))(ha:LA.length<=25)(hb:LB.length<=25)(M:i≠sf/\i≠la/\i≠lb)(hP:∀b,y7 (LA.map (·.1)) (LB.map (·.1)) 0 0 b->V1 (LA.map (·.1)) (LB.map (·.1)) b->∀o∈G6 0 0 b,mU P o)(h:∀b,y7 (LA.map (·.1)) (LB.map (·.1)) 0 0 b->V1 (LA.map (·.1)) (LB.map (·.1)) b->∀t H',BQ P w (d+8) sf la lb i (T6 (G6 0 0 b)) [i] (LA.map m5) (LB.map m5) H t H'->Qa t H'):F0 w (d+8) H i Qa:=by
 have i1:=(ab.mp U).1;refine mf U λa=>?_;have B:Fr [i] H (H.set i .gone):=Fr.refl.set (.inl (.head _));have X:Yf [i] [] H (H.set i .gone):=Yf.set (Yf.refl.out λk r=>.inr (af.mp r▸B8 U rfl));have N:(H.set i .gone)[i]?=some .gone:=au i1;have wn:sf∉[i]/\la∉[i]/\lb∉[i]:=by simp[M.1.symm,M.2.1.symm,M.2.2.symm]
 have f:=l.fr B wn;generalize H.set i .gone=D at B X N f⊢;refine E0 ?_;refine s4 (l4 ?_);have sa:s7 D (.ref la) (LA.map (·.1)):=.lst (by rw[<-kK];exact f.a);have sb:s7 D (.ref lb) (LB.map (·.1)):=.lst (by rw[<-kK];exact f.b);refine E0 (k7 (q6 (U4 rfl (vq _) ⟨kC _,?_⟩)));refine b6 (w1 (a7 rfl rfl (A4 (Y1 w) (Lw w) wi f.f (by rfl) (by intro _ q;cases q) ?_)));refine b6 (a7 rfl rfl (b6 (a7 rfl rfl (d8 ?_))));refine ir (Lv (d:=d+2) R.nb (by rw[ak];exact hb) sa sb rfl rfl λE W A n2=>?_);have y2:=X.ny n2;have c:∀{k:Nat}{o:O},D[k]?=some o->E[k]?=some o:=λ{k o}e=>by have r:=(ab.mp e).1;exact W _ _ (aP r) ((aI r).trans e)
 have V:=(ab.mp (A.smi.at).choose_spec).1;have n:Ls P sf la lb (LA.map m5) (LB.map m5) E:=⟨c f.f,c f.a,c f.b,f.na,f.nb,f.ok⟩;have f2:Fr [i] H E:=⟨ad B.1 (Nat.le_of_lt V),λk x r e=>c (B.2 k x r e)⟩;have Q:=c N;have hz:H.length<=D.length:=B.1;clear c sa sb;generalize D.length=mi at W A V hz⊢;clear W B N f X n2;refine e6 (.inl (by rfl)) ?_;refine jf ?_;refine o6 (pl:=λ_=>_) (a7 rfl rfl (j5 _ (LM A.smi) (Jj w) (d8 (ir (Lr (d:=d+2) R A (by rw[ak];exact ha) (by rw[ak];exact hb) λm s b L Y u C G v n3=>?_)))));have c:∀{k:Nat}{o:O},E[k]?=some o->(∀fs,o≠.inst 242 fs)->m[k]?=some o:=λ{k o}e hn=>by refine b8 A.smi.at λfs S=>?_;exact L _ _ (λq=>by subst q;injection S.symm.trans e with e;subst e;exact hn _ rfl) e
 have p:Ls P sf la lb (LA.map m5) (LB.map m5) m:=⟨c n.f λ_ q=>(by cases q),c n.a λ_ q=>by injection q,c n.b λ_ q=>by injection q,n.na,n.nb,n.ok⟩;have g3:=c Q λ_ q=>by injection q
 have y3:=y2.ny n3;have J:=(ab.mp (Y.at).choose_spec).1;have Z:Fr [i] H m:=⟨ad f2.1 (wq L J),λk x r e=>L _ _ (aP (aB (ab.mp e).1 hz)) (f2.2 k x r e)⟩;have j:s≠i/\s≠sf/\s≠la/\s≠lb/\H.length<=s:=by have lt:∀{k:Nat}{x:O},E[k]?=some x->s≠k:=λe=>bg (aP (aB (ab.mp e).1 v));exact Q0 (lt Q) (lt n.f) (lt n.a) (lt n.b) (ad f2.1 v)
 clear c L Y A V J hz n f2 Q v y2 n3;refine GA u λI=>?_;have F:∀{k:Nat}{x o:O},m[k]?=some x->(m++[o])[k]?=some x:=λe=>(aI (ab.mp e).1).trans e;have lt:∀{k:Nat}{x:O},m[k]?=some x->k<m.length:=λe=>(ab.mp e).1;have K:∀{k:Nat}{x:O},m[k]?=some x->m.length≠k:=λe=>bg (aP (lt e));refine(Mj (d:=d) (T:=m.length) (an:=s) (a:=a) (ops:=G6 0 0 b) (hP b C G) M (j8 (K g3) (K p.f) (K p.a) (K p.b)) (j8 j.1 j.2.1 j.2.2.1 j.2.2.2.1) (K u) (G6 0 0 b) (idx:=0) rfl ⟨F p.f,F p.a,F p.b,p.na,p.nb,p.ok⟩ (F g3) ao (F u) Z.app y3.app λy hy=>?_).mono λg m1 H4 z=>z.mono λt H5 z=>h b C G _ _ z;rcases(az.mp hy).imp_left aM with rfl|hy;·exact .inl (.head _)
 · rcases(az.mp hy).imp_left aM with rfl|hy;·exact .inr Z.1
   ·rw[af.mp hy];exact .inr j.2.2.2.2
end
noncomputable def w3(i x j y:Nat):List r5:=if i<x then if j<y then needs x y (pSt i (x-i) j (y-j))else o8 "-" false i (x-i) else o8 "+" true j (y-j)
noncomputable def B9(la lb:Nat):Nat->Nat->List (Nat×Nat)->List r5|i,j,[]=>w3 i la j lb|i,j,p::r=>w3 i p.1 j p.2++⟨" ",false,p.1,0,0⟩::B9 la lb (p.1+1) (p.2+1) r
def PP(a b:List Nat):Nat->List (Nat×Nat)->Prop|i,[]=>∀c d,MM a b c d->c<i|i,p::r=>i<=p.1/\MM a b p.1 p.2/\(∀c d,MM a b c d->i<=c->p.1<=c)/\PP a b (p.1+1) r
section
variable{a b:List Nat}{la lb:Nat}
theorem qy:w3 i i j j=[]:=by unfold w3;rw[if_neg (Nat.lt_irrefl _),Nat.sub_self];rfl
theorem Ml:T6 (if A6 i x j y≠("":Str)then[(A6 i x j y,i,x,j,y)]else[])=w3 i x j y:=by
 unfold A6 w3 T6;by_cases h1:i<x
 · rw[if_pos h1,if_pos h1];by_cases h2:j<y;·rw[if_pos h2,if_pos h2,if_pos (by decide)];show P4 ("replace",i,x,j,y)++[]=_;rw[bG];unfold P4;rw[if_pos rfl]
   ·rw[if_neg h2,if_neg h2,if_pos (by decide)];show P4 ("delete",i,x,j,y)++[]=_;rw[bG];unfold P4;rw[if_neg (show¬("delete":Str)="replace"by decide),if_pos rfl]
 · rw[if_neg h1,if_neg h1];by_cases h2:j<y;·rw[if_pos h2,if_pos (by decide)];show P4 ("insert",i,x,j,y)++[]=_;rw[bG];unfold P4;rw[if_neg (show¬("insert":Str)="replace"by decide),if_neg (show¬("insert":Str)="delete"by decide),if_pos rfl]
   ·rw[if_neg h2,if_neg (by decide),Nat.sub_eq_zero_of_le (bf h2)];rfl
theorem wB:T6 (x++y)=T6 x++T6 y:=List.flatMap_append
theorem Mm:P4 ("equal",x,x+k,y,y+k)=o8 " " false x k:=by unfold P4;rw[if_neg (show¬("equal":Str)="replace"by decide),if_neg (show¬("equal":Str)="delete"by decide),if_neg (show¬("equal":Str)="insert"by decide)];dsimp only;rw[Nat.add_sub_cancel_left]
theorem Mn(R:Rows a b):∀(k:Nat){x y i j:Nat}{ps:List (Nat×Nat)},0<k->S8 a b x y k->i<=x->(∀q D,MM a b q D->i<=q->x<=q)->PP a b i ps->∃r,PP a b (x+k) r/\B9 la lb i j ps=w3 i x j y++o8 " " false x k++B9 la lb (x+k) (y+k) r:=by intro k;induction k with|zero=>intro x y i j ps h;exact absurd h (Nat.lt_irrefl _)|succ k C=>intro x y i j ps _ v e f o;have s:MM a b x y:=v 0 (Nat.succ_pos k);cases ps with|nil=>exact absurd (o x y s) (bl.mpr e)|cons p r=>
   refine m6 o λz l A m=>?_;try clear o
   have g:p.1=x:=Nat.le_antisymm (A x y s e) (f _ _ l z);have u:p.2=y:=by rw[g]at l;exact R.fn l s
   obtain⟨c,d⟩:=p;dsimp only at g u m;subst g u;by_cases hk:k=0;·subst hk;refine b7 r m ?_;rw[bz];rfl
   · have n:S8 a b (c+1) (d+1) k:=λt B=>by have:=v (t+1) (Nat.succ_lt_succ B);rwa[show c+(t+1)=c+1+t from Nat.add_right_comm c t 1,show d+(t+1)=d+1+t from Nat.add_right_comm d t 1]at this
     refine a9 (C (j:=d+1) (Nat.pos_of_ne_zero hk) n (ae _) (λ_ _ _ h=>h) m) λF w E=>?_;refine b7 F (by rw[Nat.add_right_comm]at w;exact w) ?_;show w3 i c j d++⟨" ",false,c,0,0⟩::B9 la lb (c+1) (d+1) r=_;rw[E,qy,gP,bz,Nat.add_right_comm c 1 k,Nat.add_right_comm d 1 k];rfl
theorem Mo(R:Rows a b):∀{c:List Bl}{i j:Nat}{ps:List (Nat×Nat)},y7 a b i j c->(∀m∈c,m.2.2=0->m.1=a.length/\m.2.1=b.length)-> (a.length,b.length,0)∈c\/i=a.length/\j=b.length ->PP a b i ps->T6 (G6 i j c)=B9 a.length b.length i j ps:=by intro c;induction c with
 |nil=>
  intro i j ps C _ o d;rcases o with h|⟨rfl,rfl⟩;·cases h
  ·cases ps with|nil=>show[]=w3 _ _ _ _;rw[qy]|cons p r=>exact absurd d.2.1.lt.1 (bl.mpr d.1)
 |cons m c B=>
  intro i j ps C A o d;obtain⟨x,y,k⟩:=m;refine fe C λl u n v w z g=>?_;try clear C
  dsimp only at l u n v w z g;have f:∀m∈c,m.2.2=0->m.1=a.length/\m.2.1=b.length:=λm F=>A m (.tail _ F);show T6 (ij i j (x,y,k)++G6 (x+k) (y+k) c)=_;unfold ij;rw[wB,wB,Ml];by_cases hk:k=0
  · have e:=A _ (.head _) hk;dsimp only at e;rw[if_neg λq=>q hk];subst hk;rw[e.1,e.2]at g⊢;have t:ps=[]:=by cases ps with|nil=>rfl|cons p r=>have:=n _ _ d.2.1 d.1;rw[e.1]at this;exact absurd d.2.1.lt.1 (bl.mpr this)
    subst t;rw[B (ps:=[]) g f (.inr ⟨rfl,rfl⟩) λI J h=>h.lt.1];show w3 i a.length j b.length++[]++w3 _ _ _ _=w3 i a.length j b.length;rw[Nat.add_zero,Nat.add_zero,qy,bG,bG]
  · rw[if_pos hk];refine a9 (Mn (la:=a.length) (lb:=b.length) R k (j:=j) (Nat.pos_of_ne_zero hk) v l n d) λr G H=>?_;have s:(a.length,b.length,0)∈c\/x+k=a.length/\y+k=b.length:=by
     rcases o with h|⟨D,E⟩
     · rcases az.mp h with e|h;·cases e;exact absurd rfl hk
       ·exact .inl h
     ·exact .inr ⟨Nat.le_antisymm w (ad (Nat.le_of_eq D.symm) (ad l (aU _ _))),Nat.le_antisymm z (ad (Nat.le_of_eq E.symm) (ad u (aU _ _)))⟩
    rw[B g f s G,H];show w3 i x j y++(P4 ("equal",x,x+k,y,y+k)++[])++_=_;rw[Mm,bG]
end
structure Mp(A B:List (Str×Nat)):Prop where
 one:∀p∈A++B,∃c,p.1=S [c]
 tok:∀p∈A++B,∀q∈A++B,p.2=q.2->p.1=q.1
 big:∀p∈A++B,405<p.2
noncomputable def eh(a b:List Nat):E3:=λA B=>Mp A B/\∀p q x y,p<a.length->q<b.length->¬MM a b p q->A[p]?=some x->B[q]?=some y->x.1≠y.1
section
variable{a b:List Nat}
theorem Mq(n:a.length<=1000)(r:b.length<=1000)(v:i<=m.1)(w:j<=m.2.1)(z:∀g F,MM a b g F->i<=g->m.1<=g)(k:m.1+m.2.2<=a.length)(l:m.2.1+m.2.2<=b.length):∀o∈ij i j m,mU (eh a b) o:=by
 intro o c;have t:m.1<=a.length:=ad (aU _ _) k;have u:m.2.1<=b.length:=ad (aU _ _) l;rcases aX.mp c with c|c
 · split at c
   · rename_i f;rw[af]at c;subst c;refine⟨?_,⟨v,ad t n⟩,⟨w,ad u r⟩,λs A B h=>?_⟩
     · dsimp only;unfold A6 at f⊢;by_cases e:i<m.1
       · by_cases d:j<m.2.1;·left;rw[if_pos e,if_pos d];exact i9 rfl e d
         ·right;left;rw[if_pos e,if_neg d]
       · by_cases d:j<m.2.1;·right;right;left;rw[if_neg e,if_pos d]
         ·rw[if_neg e,if_neg d]at f;exact absurd rfl f
     ·exact⟨h.1.one,h.1.tok,h.1.big,λp q x y e d _ C D E=>h.2 p q x y (aB d t) (aB C u) (λG=>absurd d (bl.mpr (z p q G e))) D E⟩
   ·exact absurd c List.not_mem_nil
 · split at c;·rw[af]at c;subst c;exact⟨.inr (.inr (.inr rfl)),⟨aU _ _,ad k n⟩,⟨aU _ _,ad l r⟩,λs=>absurd s (show¬("equal":Str)="replace"by decide)⟩
   ·exact absurd c List.not_mem_nil
theorem Mr(n:a.length<=1000)(p:b.length<=1000):∀{d:List Bl}{i j:Nat},y7 a b i j d->∀o∈G6 i j d,mU (eh a b) o:=by intro d;induction d with|nil=>intro i j _ o c;exact absurd c List.not_mem_nil|cons m d q=>
  intro i j C o c;refine fe C λe f g r h k l=>?_;try clear C
  rcases aX.mp c with c|c;·exact Mq n p e f g h k o c
  ·exact q l o c
end
section
variable{w:NQ}{d i sf la lb:Nat}{H:List O}{LA LB:List (Nat×Nat)}{Qa:D9->List O->Prop}{ps:List (Nat×Nat)}
theorem Ms(k:H[i]?=some (.fresh (dz w) (e9 (d0 7 2)) (iw sf la lb none none none none none none none)))(l:Ls (eh (LA.map (·.1)) (LB.map (·.1))) sf la lb (LA.map m5) (LB.map m5) H)(R:Rows (LA.map (·.1)) (LB.map (·.1)))(m:PP (LA.map (·.1)) (LB.map (·.1)) 0 ps)(e:LA.length<=25)(f:LB.length<=25)(n:i≠sf/\i≠la/\i≠lb)(h:∀a H',BQ (eh (LA.map (·.1)) (LB.map (·.1))) w (d+8) sf la lb i (B9 LA.length LB.length 0 0 ps) [i] (LA.map m5) (LB.map m5) H a H'->Qa a H'):F0 w (d+8) H i Qa:=by have b:(LA.map (·.1)).length=LA.length:=ak ..;have c:(LB.map (·.1)).length=LB.length:=ak ..;refine Mk k l R e f n (λj C _=>Mr (by rw[b];exact ad e (by decide)) (by rw[c];exact ad f (by decide)) C) λj C g a H' q=>h a H' ?_;rw[Mo R C g.2.1 (.inl g.2.2) m,b,c]at q;exact q
end
section
set_option backward.match.sparseCases true
section
variable{w:NQ}{A:NT}{s:NR}{E:VP}
theorem cU1{id:String}{a:List NS}{Q:VP}(n:eY id=none)(o:plainId id=true)(l:entryFor table id=some b)(i:argsOk id ⟨a,[]⟩)(m:g8 (ay pP w) A.in1 (b ⟨a,[]⟩) (λd s'=>∃v,d=.done (.ret v)/\Q v s') E s):g8 (ay pP w) A (call (.builtin id) a) Q E s:=by refine kl (pn o l ?_);have c:=o0 m (Q':=lz (ay pP w) A λr s'=>match r with|.ok (.ret v)=>Q v s'|.ok _=>False|.error e=>E e s') (λd s' h=>by(refine a9 h λv j p=>?_;try clear h;subst j);exact p) λ_ _ h=>h;unfold checkBuiltinCall;rw[n];dsimp only;cases f:dm id with|none=>exact aq c|some g=>unfold argsOk at i;rw[f]at i;have k:Bind.checkArgs id g ⟨a,[]⟩=pure ():=i;show aJ _ A.in1 (Bind.checkArgs id g ⟨a,[]⟩) _ _ s;rw[k];exact aq c
theorem Mt{a:Addr}{g:Nat}{b:NS}{Q:VP}(c:s9 s.heap a g 0)(h:g8 (ay pP w) A.in1 (dL (.ref a)) (λr s'=>Q (r.getD b) s') E s):g8 (ay pP w) A (call (.builtin "next") [.ref a,b]) Q E s:=by refine cU1 (by decide+kernel) (by decide+kernel) kdk_entry_next (kdk_args_next2 _ _) ?_;unfold bu.«next»;refine k8 (up (bM (t:=someArgs "next" 1 2 ⟨[NS.ref a,b],[]⟩) (a:=[NS.ref a,b]) (by first|rfl|kernel_rfl!) ?_));dsimp only;refine k8 (up (di (name:=aa "__next__") c.typeIs slot_gen_next.lookup ?_));refine t9 (by decide) ?_;refine k8 (o0 h (λr s' q=>?_) λ_ _ q=>q);exact q7 (M:=ay pP w) (b7 _ rfl q)
end
end
section
variable{M:Model}{A:NT}{E:VP}{s:NR}
theorem Mu(b:args.any (·.1)=false)(h:aJ M A (evalArgs (.builtin T) true args []) (λa s₁=>g8 M A (call (.builtin T) (first++a.pos) a.kw) Q E s₁) E s):g8 M A (dD pos (.builtin T) first args []) Q E s:=by refine k8 (U2 (up (ar h (λa s₁ c=>k8 (J4 ?_)) λ_ _ x=>x)));rw[b];skip;refine k8 (q7 ?_);exact k8 (o0 c (λr e d=>k8 (U2 (up (wpAny_point (q7 d))))) λ_ _ x=>x)
end
section
variable{w:NQ}{fi:FI}{d:Nat}{m:b9}{H:List O}{Q:QF}{XP:kq}
theorem Mv(K:WE w fi (d+2) m H func λf c=>f=.bi "next"/\B2 w fi (d+2) m c args λvs e=>vs=[.ref i,.none]/\jh w d e i λa H'=>match a with|.txt x=>Q (.ret (.str x)) m H'|.nothing=>Q (.ret .none) m H'|.err Xn msg=>XP Xn msg m H')(hp:autoParam (J7 args) NY._auto_1)(he:autoParam (∀env,eval (.Call func args [] pos) env=do dD pos (<-eval func env) [] (dW pos (eF args env)) (backToKw pos (eW [] env))) NY._auto_1):pA w fi (d+2) m H (.Return (some (.Call func args [] pos)) rp) Q XP:=λA env F ρ s hf C S=>by
  have n:n6 env F=env::F.fr:=gZ hf;rw[exec_Return_some];refine k8 (J4 (k8 ?_));rw[he env];refine k8 (up (ar (K A env F ρ s C S) (λu a0 k=>?_) λ_ _ x=>x.elim));obtain⟨a1,c,f,V,S1,ru,v⟩:=k;refine d7 v λN p=>?_;clear v;subst N;rw[hp env];subst ru;refine Mu W6 (ar (iX p C S1) (λx s2 k=>?_) λ_ _ x=>x.elim);refine d7 k λL O=>?_;try clear k;obtain⟨X,e,vs,W,B,rv,y⟩:=O;refine d7 y λP l=>?_;clear y;subst P
  rw[L];have Z:A.frames=some (env::F.fr):=by rw[<-n];exact C.fr
  refine i8 rv.cons_eq λv1 r1 e1 z q=>i8 q.cons_eq λv2 r2 e2 U G=>?_;replace G:=G.nil_eq;refine a9 z λen J R=>?_;try clear z;subst R
  subst U G e2;rw[e1];have h:=V.trans W;refine d7 (l A.in1 _ X s2 en (j0.in1 (show j0 A (d+1+1) (w4 F s2.heap env (j9 fi env)).fr from C)) B.toH J) λT hk=>?_;obtain⟨g,hg⟩:=T;refine Mt hg (o0 hk (λr s' I=>?_) λx s' I=>?_);·cases I with|no j D b E _ o=>exact q7 (M:=ay pP w) ⟨j,D,m,.ret .none,h.trans b,B.ofH b.1 b.2.1 E,b7 _ rfl rfl,o⟩|mk j D x t b E _ o=>exact q7 (M:=ay pP w) ⟨j,D,m,.ret (.str x),h.trans b,B.ofH b.1 b.2.1 E,b7 _ rfl (.intro _ rfl),o⟩
  ·cases I with|mk Y msg H' fw k o=>exact .mk k (.fly (n▸U7.frame B h fw)) o
end
theorem Mw(w:NQ):nsIn (KW w) bw "IndexError"=some none:=by kernel_rfl
theorem Mx:bQ "IndexError"=some (.type "IndexError"):=by kernel_rfl
theorem jh.mono(h:jh w d H i Q)(c:∀a H',Q a H'->Q' a H'):jh w d H i Q':=λA F u s e k S l=>by
 refine d7 (h A F u s e k S l) λm n=>?_;refine⟨m,o0 n (λr p b=>?_) λv p b=>?_⟩;·cases b with|no ρ' H' f T g q=>exact .no ρ' H' f T g (c _ _ q)|mk ρ' H' x t f T g q=>exact .mk ρ' H' x t f T g (c _ _ q)
 ·cases b with|mk X msg H' j o q=>exact .mk X msg H' j o (c _ _ q)
noncomputable def eIx:Str:=aa "list index out of range"
section
variable{w:NQ}{i d:Nat}{H:List O}{Q:QV}
theorem My(h:jh w d H i λa H'=>match a with|.txt x=>Q (.str x) H'|.nothing=>Q .none H'|.err X msg=>X="IndexError"/\msg=some eIx/\Q (.str (aa "IndexError "++eIx)) H'):ki w (d+3) H (.st 336) [.ref i] Q:=by
 refine GS (Jx w) (by rfl) (by rfl) ?_;have e:u7 (i7 (m8 11)) ["reader"] [.ref i]=[nv "reader" (.ref i),nn "error"]:=by rfl
 rw[e];refine uD (GD ?_);refine uD ?_;refine Mv (i:=i) (d:=d) ?_;refine B3 (by rfl) (JL w) JM ⟨rfl,?_⟩;refine b6 (a7 rfl rfl (b6 (J6 (d8 ?_))));refine⟨rfl,h.mono λa H' q=>?_⟩;cases a with|txt x=>exact q|nothing=>exact q|err X msg=>obtain⟨rfl,rfl,q⟩:=q;exact GF (v:=.str (aa "IndexError "++bj1 (some eIx))) Gb ⟨by rfl,Mw _,Mx,by rfl,by decide⟩ (by rfl) (by rfl) (GI (GH (GG PySem.F.excStr_IndexError (by rfl) (by rfl) (by rfl) (JN _) JO (by rfl) (by decide)) (by decide))) q
end
noncomputable def K5(b:List Nat):Nat->List Nat->List (Nat×Nat)|_,[]=>[]|i,c::r=>if c∈b then(i,b.idxOf c)::K5 b (i+1) r else K5 b (i+1) r
theorem mV:K5 b i (c::r)=if c∈b then(i,b.idxOf c)::K5 b (i+1) r else K5 b (i+1) r:=rfl
section
variable{a b:List Nat}
theorem PP.down(h:PP a b (i+1) ps)(k:∀j,¬MM a b i j):PP a b i ps:=by have f:∀c d,MM a b c d->i<=c->i+1<=c:=λc d m h=>Nat.lt_of_le_of_ne h λe=>k d (e▸m);cases ps with|nil=>exactλc d m=>(Nat.lt_or_ge c i).elim id λg=>absurd (h c d m) (bl.mpr (f c d m g))|cons p r=>exact j8 (Nat.le_of_succ_le h.1) h.2.1 (λc d m g=>h.2.2.1 c d m (f c d m g)) h.2.2.2
theorem wC:∀(r:List Nat)(i:Nat),a.drop i=r->PP a b i (K5 b i r):=by intro r;induction r with|nil=>exactλi h p q m=>aB m.lt.1 (List.drop_eq_nil_iff.mp h)|cons c r e=>
  intro i h;have f:a[i]?=some c:=by rw[<-List.head?_drop,h];rfl
  have n:a.drop (i+1)=r:=by rw[<-List.tail_drop,h];rfl
  have k:=e (i+1) n;rw[mV];by_cases hc:c∈b;·rw[if_pos hc];exact j8 (ae _) (b7 c f (by rw[aw (fC hc),List.getElem_idxOf])) (λ_ _ _ g=>g) k
  ·rw[if_neg hc];exact k.down λj=>A8 λo d l=>hc (by injection f.symm.trans d with d;subst d;exact aY l)
noncomputable def E4(A:List (Nat×Nat))(p:Nat×Nat):Nat×Nat:=A[p.1]?.getD (0,0)
theorem Mz:∀(r:List (Nat×Nat))(i:Nat),A.drop i=r->(K5 b i (r.map (·.1))).map (E4 A)=r.filter λp=>decide (p.1∈b):=by intro r;induction r with|nil=>exactλi h=>rfl|cons c r d=>
  intro i h;have f:A[i]?=some c:=by rw[<-List.head?_drop,h];rfl
  have g:A.drop (i+1)=r:=by rw[<-List.tail_drop,h];rfl
  have e:=d (i+1) g;rw[bN];rw[mV];by_cases hc:c.1∈b;·rw[if_pos hc,bN,e,List.filter_cons_of_pos (by simpa using hc)];show A[i]?.getD (0,0)::_=_;rw[f];rfl
  ·rw[if_neg hc,e,List.filter_cons_of_neg (by simpa using hc)]
structure jz(A:List (Nat×Nat))(b:List Nat)(p:Nat×Nat):Prop where
 at':A[p.1]?=some (E4 A p)
 mem:(E4 A p).1∈b
 ix:p.2=b.idxOf (E4 A p).1
theorem MA:∀(r:List (Nat×Nat))(i:Nat),A.drop i=r->∀p∈K5 b i (r.map (·.1)),jz A b p:=by intro r;induction r with|nil=>exactλi h p d=>absurd d List.not_mem_nil|cons c r f=>
  intro i h p d;have g:A[i]?=some c:=by rw[<-List.head?_drop,h];rfl
  have k:A.drop (i+1)=r:=by rw[<-List.tail_drop,h];rfl
  have j:=f (i+1) k p;rw[bN]at d;rw[mV]at d;by_cases hc:c.1∈b
  · rw[if_pos hc]at d;rcases az.mp d with rfl|d
    · have e:E4 A (i,b.idxOf c.1)=c:=by show A[i]?.getD (0,0)=c;rw[g];rfl
      exact⟨by rw[e];exact g,by rw[e];exact hc,by rw[e]⟩
    ·exact j d
  ·rw[if_neg hc]at d;exact j d
theorem jz.la(h:jz A b p):p.1<A.length:=(ab.mp h.at').1
theorem jz.lb(h:jz A b p):p.2<b.length:=by rw[h.ix];exact fC h.mem
end
noncomputable def K6(i x j y:Nat):List r5:=if y-j<x-i then o8 "+" true j (y-j)++o8 "-" false i (x-i)else o8 "-" false i (x-i)++o8 "+" true j (y-j)
theorem wD:∀{n lo:Nat}{tag:Str}{sd:Bool},needs 0 0 (o8 tag sd lo n)=o8 tag sd lo n|0,_,_,_=>rfl|_+1,_,_,_=>rfl
theorem iy(i x j y:Nat):w3 i x j y=needs (if i<x/\j<y then x else 0) (if i<x/\j<y then y else 0) (K6 i x j y):=by
 unfold w3 K6;by_cases h1:i<x
 · rw[if_pos h1];by_cases h2:j<y;·rw[if_pos h2,if_pos ⟨h1,h2⟩,if_pos ⟨h1,h2⟩];rfl
   ·rw[if_neg h2,if_neg λq=>h2 q.2,if_neg λq=>h2 q.2,Nat.sub_eq_zero_of_le (bf h2),if_pos (Nat.sub_pos_of_lt h1)];exact wD.symm
 ·rw[if_neg h1,if_neg λq=>h1 q.1,if_neg λq=>h1 q.1,Nat.sub_eq_zero_of_le (bf h1),if_neg (dQ _)];exact wD.symm
theorem P5{n:Nat}:∀{lo:Nat}{sd:Bool},(o8 tag sd lo n).length=n:=by induction n with|zero=>exact rfl|succ n a=>exact congrArg (·+1) a
theorem wE(i x j y:Nat):(K6 i x j y).length<=x+y:=by
 unfold K6;split<;>rw[aK,P5,P5];·exact Nat.add_comm x y▸Nat.add_le_add (Nat.sub_le _ _) (Nat.sub_le _ _)
 ·exact Nat.add_le_add (Nat.sub_le _ _) (Nat.sub_le _ _)
theorem kL{x y:Nat}:∀{L:List r5},(needs x y L).length=L.length|[]=>rfl|_::_=>rfl
theorem wF(i x j y:Nat):(w3 i x j y).length<=x+y:=by rw[iy,kL];exact wE i x j y
theorem MB{la lb:Nat}:∀{ps:List (Nat×Nat)}{i j:Nat},(∀p∈ps,p.1<la/\p.2<lb)->(B9 la lb i j ps).length<=(ps.length+1)*(la+lb):=by intro ps;induction ps with|nil=>intro i j _;show(w3 i la j lb).length<=_;have:=wF i la j lb;simp;exact this|cons p r a=>intro i j h;show(w3 i p.1 j p.2++⟨" ",false,p.1,0,0⟩::B9 la lb (p.1+1) (p.2+1) r).length<=_;have:=wF i p.1 j p.2;have c:=a (i:=p.1+1) (j:=p.2+1) λq b=>h q (.tail _ b);have:=h p (.head _);rw[aK,eK,eK,Nat.add_mul (r.length+1)];exact BS (by assumption) c this
theorem MC(r:List Nat):∀(i:Nat),(K5 b i r).length<=r.length:=by induction r with|nil=>exactλ_=>ae _|cons c r a=>
  intro i;rw[mV];split;·exact bo (a _)
  ·exact bW (a _)
noncomputable def w8(b:Bool):Int:=if b=true then 1 else 0
noncomputable def w9(s:r5):V:=.tup [.str (s.tag++sp),.int (w8 s.sd),.int (s.p:Nat),.int (s.na:Nat),.int (s.nb:Nat)]
noncomputable def gV(s:r5):V:=.tup [.str (s.tag++sp),.int (w8 s.sd),.int (s.p:Nat)]
theorem MD{sd:Bool}:∀{n lo:Nat},(o8 tag sd lo n).map gV=(cH n).map λi=>V.tup [.str (tag++sp),.int (w8 sd),.int ((lo:Int)+(i:Nat))]:=by intro n;induction n with|zero=>exact rfl|succ n a=>intro lo;rw[List.range_succ_eq_map,bN,cV];show gV ⟨tag,sd,lo,0,0⟩::(o8 tag sd (lo+1) n).map gV=_;rw[a];refine congr (congrArg _ rfl) (List.map_congr_left λi _=>?_);show V.tup [_,_,.int (((lo+1:Nat):Int)+(i:Nat))]=V.tup [_,_,.int ((lo:Int)+((i+1:Nat):Int))];rw[show ((lo+1:Nat):Int)+(i:Nat)=(lo:Int)+((i+1:Nat):Int)from congrArg Int.ofNat (Nat.succ_add lo i)]
noncomputable abbrev M9(la lb l i b:Nat)(k e g a h d j c f:Option V):b9:=[nv "old" (.ref la),nv "new" (.ref lb),nv "steps" (.ref l),nv "low" (.int (i:Nat)),nv "start" (.int (b:Nat)),(aa "row",k),(aa "high",e),(aa "stop",g),(aa "place",a),(aa "gap",h),(aa "come",d),(aa "needs",j),(aa "code",c),(aa "side",f)]
noncomputable abbrev Y6(w:NQ):FI:=⟨i7 (m8 9),true,(o9 (kR w.params)).code⟩
noncomputable def vR(b:List Nat):V->Bool|.stk x _=>b.any λc=>x==S [c]|_=>false
theorem wG:vR b (l9 p)=decide (p.1∈b):=by
 show b.any λc=>S [p.1]==S [c]=_;rw[Bool.eq_iff_iff,List.any_eq_true,decide_eq_true_iff];constructor;· refine A8 λx a e=>?_;rw[oY,decide_eq_true_iff]at e;rw[(List.cons.inj e).1];exact a
 ·exactλh=>b7 _ h (by rw[oY];exact decide_eq_true rfl)
noncomputable def Y7:List NW:=C7 (r6 1 (e9 (m8 9)))
theorem mW{n:Nat}(h:n<=1000):-2^61 <=(n:Int)/\(n:Int)<2^61:=⟨Int.le_trans (by decide) (aW n),Int.lt_of_le_of_lt (Int.ofNat_le.mpr h) (by decide)⟩
theorem wH{lo b:Nat}{sd:Bool}{i:Int}(d:c=tag++sp)(a:i=w8 sd):((((cH ((b:Int)-(lo:Int)).toNat).map λk=>V.int ((lo:Int)+(k:Nat))).filter λ_=>true).map λv=>V.tup [.str c,.int i,v])=(o8 tag sd lo (b-lo)).map gV:=by rw[MD,d,a,List.filter_eq_self.mpr λ_ _=>rfl,cV,Int.toNat_sub];rfl
section
variable{w:NQ}{d:Nat}{H:List O}{Q:QV}{l r:Nat}{xs:List V}
theorem wI:R2 xs [] e=xs.isEmpty:=by cases xs<;>rfl
theorem wJ(a:H[l]?=some (.list xs))(c:H[r]?=some (.list []))(h:Q (.bool (!xs.isEmpty)) H):W2 w d VR H (cD .NotEq) (.ref l) (.ref r) Q:=tD (k:=1) (b:=xs.isEmpty) (by decide) (wI (e:=λ_ _=>false)▸tC a c λx _ y f=>absurd f List.not_mem_nil) h
theorem ME(a:H[l]?=some (.list xs))(c:H[r]?=some (.list []))(h:Q (.bool xs.isEmpty) H):W2 w d VR H (cD .Eq) (.ref l) (.ref r) Q:=EL (k:=1) (b:=xs.isEmpty) (by decide) (wI (e:=λ_ _=>false)▸tC a c λx _ y f=>absurd f List.not_mem_nil) h
end
theorem MF{nx ny:Nat}{k:Nat}(h:L[k]?=some s)(a:s.na=0)(b:s.nb=0):(needs nx ny L)[k]?=some {s with na:=if k=0 then nx else 0,nb:=if k=0 then ny else 0}:=by cases L with|nil=>injection h|cons y L=>cases k with|zero=>injection h with h;exact h▸rfl|succ k=>refine(show _=some s from h).trans ?_;cases s;dsimp only at a b;rw[a,b];rfl
theorem wK{sd:Bool}{lo:Nat}:∀{n:Nat},((o8 tag sd lo n).map gV).isEmpty=decide (n=0)|0=>rfl|_+1=>rfl
theorem MG{sd:Bool}{n:Nat}:∀{lo:Nat},∀s∈o8 tag sd lo n,s.na=0/\s.nb=0:=by induction n with|zero=>exactλ_ q=>absurd q List.not_mem_nil|succ n a=>exactλs q=>(az.mp q).elim (λe=>e▸⟨rfl,rfl⟩) λq=>a s q
theorem MH{i x j y:Nat}:∀s∈K6 i x j y,s.na=0/\s.nb=0:=λs h=>by unfold K6 at h;split at h<;>rcases aX.mp h with h|h<;>exact MG s h
theorem MI(v:V)(a:List O)(f:b=true->WE w fi d m H x λu H'=>u=v/\H'=a)(g:¬b=true->WE w fi d m H y λu H'=>u=v/\H'=a)(h:Q v a):kg w fi d m x y Q b H:=by
 unfold kg;split;·exact(f ‹_›).mono λu H'=>u6 λc e=>c▸e▸h
 ·exact(g ‹_›).mono λu H'=>u6 λc e=>c▸e▸h
section
variable{w:NQ}{H:List O}{d la lb sl low start x y:Nat}{D:List r5}{row place gap come nds code side:Option V}
inductive kM(la lb sl low start x y nx ny:Nat)(row:Option V)(D L:List r5)(gl cl:Nat)(H:List O)(k:Nat):b9->List O->Prop|mk{H' place nl code side}(f:Fr [sl] H H')(g:H'[sl]?=some (.list ((D++(needs nx ny L).take k).map w9)))(n:H'[nl]?=some (.list [.int ((if k=0 then nx else 0:Nat)),.int ((if k=0 then ny else 0:Nat))]))(ne:nl≠sl):kM la lb sl low start x y nx ny row D L gl cl H k (M9 la lb sl low start row (some (.int (x:Nat))) (some (.int (y:Nat))) place (some (.ref gl)) (some (.ref cl)) (some (.ref nl)) code side) H'
theorem MK{E C p nx ny:Nat}(b:H[sl]?=some (.list (D.map w9)))(t:H[E]?=some (.list ((o8 "-" false low (x-low)).map gV)))(r:H[C]?=some (.list ((o8 "+" true start (y-start)).map gV)))(A:H[p]?=some (.list [.int (nx:Nat),.int (ny:Nat)]))(B:p≠sl)(R:x<=1000)(hy:y<=1000)(W:D.length<=5000)(h:∀H' place gap come nds code side,Fr [sl] H H'->H'[sl]?=some (.list ((D++needs nx ny (K6 low x start y)).map w9))->WB w (Y6 w) d (M9 la lb sl low start row (some (.int (x:Nat))) (some (.int (y:Nat))) place gap come nds code side) H' (Y7.drop 6) Q):WS w (Y6 w) d (M9 la lb sl low start row (some (.int (x:Nat))) (some (.int (y:Nat))) place (some (.ref E)) (some (.ref C)) (some (.ref p)) code side) H (r6 5 Y7) (lQ w (Y6 w) d (Y7.drop 6) Q):=by
 refine be ?_;have T:∀k:Nat,k<=1000->k<=aF:=λk X=>ad X (by decide);have I:x-low<=1000:=ad (Nat.sub_le _ _) R;have K:y-start<=1000:=ad (Nat.sub_le _ _) hy;refine ak5 (j6 (q6 (B3 rfl (G4 _) G5 ⟨by first|exact trivial| show keepIn _ _=true;kernel_rfl,b6 (a7 rfl rfl (d8 ?_))⟩)));refine R1 (.inl r) (by rw[ak,P5];exact T _ K) ?_;rw[ak,P5];refine q6 (B3 rfl (G4 _) G5 ⟨by first|exact trivial| show keepIn _ _=true;kernel_rfl,b6 (a7 rfl rfl (d8 ?_))⟩);refine R1 (.inl t) (by rw[ak,P5];exact T _ I) ?_;rw[ak,P5];refine D4 (g9 ?_);refine MI (.ref H.length) (H++[.list ((K6 low x start y).map gV)]) (λq=>?_) (λq=>?_) ?_;·refine l0 (a7 rfl rfl (a7 rfl rfl ?_));refine oU r t (by rw[ak,ak,P5,P5];exact ad (Nat.add_le_add K I) (by decide)) ⟨rfl,?_⟩;rw[<-bm];unfold K6;rw[if_pos (by simpa using q)]
 ·refine l0 (a7 rfl rfl (a7 rfl rfl ?_));refine oU t r (by rw[ak,ak,P5,P5];exact ad (Nat.add_le_add I K) (by decide)) ⟨rfl,?_⟩;rw[<-bm];unfold K6;rw[if_neg (by simpa using q)]
 have z:=MH (i:=low) (x:=x) (j:=start) (y:=y);have S:=wE low x start y;generalize K6 low x start y=L at z S h⊢;have up:∀{j:Nat}{o o':O},H[j]?=some o'->(H++[o])[j]?=some o':=λe=>(aI (ab.mp e).1).trans e;have l:sl≠H.length:=aP (ab.mp b).1;have P:Fr [sl] H (H++[.list (L.map gV)]):=Fr.refl.app;have u:(H++[O.list (L.map gV)])[H.length]?=some (.list (L.map gV)):=ao;have b:=up (o:=.list (L.map gV)) b;have A:=up (o:=.list (L.map gV)) A;generalize H.length=il at l u⊢;generalize H++[O.list (L.map gV)]=U at u b A P⊢;clear up t r;refine Q3 _ _ (aG (.inl u)) (kM la lb sl low start x y nx ny row D L E C U) (.mk Fr.refl (by rw[List.take_zero,bG];exact b) A B) ?_ ?_ ?_;· intro i m H';intro M;obtain⟨f,g,n,B⟩:=M;exact .inl (f.2 _ _ (by simpa using bg l) u)
 · rintro i v m H' G J;obtain@⟨H',place,p,code,side,f,g,n,B⟩:=J;replace G:=aV▸G;refine a9 (bE.mp G) λs c N=>?_;subst N;refine d7 (z s (aY c)) λY Z=>?_;have F:=MF (nx:=nx) (ny:=ny) c Y Z;have V:(needs nx ny L).take (i+1)=(needs nx ny L).take i++[{s with na:=if i=0 then nx else 0,nb:=if i=0 then ny else 0}]:=by rw[List.take_add_one,F];rfl
   refine R4 ?_;refine D8 rfl ?_;refine e6 (.inl (by rfl)) ?_;refine e6 (.inl (by rfl)) ?_;refine e6 (.inl (by rfl)) ?_;refine c9 ?_;refine s4 (o6 (pl:=λ_=>_) (a7 rfl rfl ?_));refine j5 _ (O5 g) trivial ?_;refine b6 (w0 (b6 (a7 rfl rfl (b6 (a7 rfl rfl (b6 (a7 rfl rfl (b6 (s5 (a7 rfl rfl (i6 ?_)))))))))));refine D6 (i:=0) (.inl n) (by decide) (by decide) (x:=.int ((if i=0 then nx else 0:Nat))) rfl ?_;refine b6 (s5 (a7 rfl rfl (i6 ?_)));refine D6 (i:=1) (.inl n) (by decide) (by decide) (x:=.int ((if i=0 then ny else 0:Nat))) rfl ?_;refine d8 ?_;refine⟨by show 5<=aF;decide,?_⟩;refine d8 ?_;refine O4 g (by rw[ak,aK,dG];exact ad (Nat.add_le_add W (ad (gI _ _) (by rw[kL];exact ad S (Nat.add_le_add R hy)))) (by decide)) ?_;refine c9 (k7 (B5 (b6 (i6 (b6 (i6 (d8 ?_)))))));refine⟨by show 2<=aF;decide,?_⟩;refine e6 (.inl rfl) (e7 ?_);have a:=(ab.mp g).1;refine .mk ((f.set (.inl (.head _))).app) ?_ ?_ ?_;·rw[aI (by rw[ax];exact a),au a,V,<-bz,bm (l₂:=[_])];rfl
   ·rw[if_neg (Nat.succ_ne_zero i),if_neg (Nat.succ_ne_zero i)];exact ao
   ·rw[ax];exact bg (aP a)
 ·rintro m H' J;obtain@⟨H',place,p,code,side,f,g,n,B⟩:=J;rw[ak,<-kL (x:=nx) (y:=ny),eI]at g;exact h _ _ _ _ _ _ _ (P.trans (λ_ q=>.inl q) f) g
theorem bu3{Q:QF}(L:H[sl]?=some (.list (D.map w9)))(M:x<=1000)(hy:y<=1000)(S:low<=1000)(F:start<=1000)(P:D.length<=5000)(h:∀H' place gap come nds code side,Fr [sl] H H'->H'[sl]?=some (.list ((D++w3 low x start y).map w9))->WB w (Y6 w) d (M9 la lb sl low start row (some (.int (x:Nat))) (some (.int (y:Nat))) place gap come nds code side) H' (Y7.drop 6) Q):WB w (Y6 w) d (M9 la lb sl low start row (some (.int (x:Nat))) (some (.int (y:Nat))) place gap come nds code side) H (Y7.drop 2) Q:=by
 refine c9 ?_;refine lM ⟨by decide,by decide,by rfl,by dsimp only;decide⟩ (.inl (by rfl)) ?_ λA E=>by unfold swapsWith ca cw;rw[E];rfl
 refine q6 (K9 rfl (cv _) cy ⟨by first|exact trivial| show keepIn _ _=true;kernel_rfl,b6 (a7 rfl rfl (b6 (a7 rfl rfl (d8 (iY ?_)))))⟩);refine oW (λ_=>true) (λv=>.tup [.str ("- ":Str),.int 0,v]) (lJ (mW S) (mW M)) trivial (by rw[ak,cL,Int.toNat_sub];exact ad (Nat.sub_le _ _) (ad (by assumption) (by decide))) (λv G=>?_) ?_;· refine a9 (bp.mp G) λk R I=>?_;subst I;refine e6 (.inl rfl) ?_;refine⟨rfl,rfl,rfl,λ_=>?_⟩;refine w0 (b6 (l4 (b6 (i6 (b6 (a7 rfl rfl (d8 ?_)))))));exact i9 (by show 3<=aF;decide) rfl rfl
 rw[wH (tag:="-") (c:="- ") (sd:=false) (i:=0) (by decide) rfl];have a:∀{o:O},(H++[o])[sl]?=some (.list (D.map w9)):=λ{o}=>(aI (ab.mp L).1).trans L;have B:Fr [sl] H (H++[O.list ((o8 "-" false low (x-low)).map gV)]):=Fr.refl.app;have b:(H++[O.list ((o8 "-" false low (x-low)).map gV)])[H.length]?=some (.list ((o8 "-" false low (x-low)).map gV)):=ao;refine show WB _ _ _ (M9 la lb sl low start row (some (.int (x:Nat))) (some (.int (y:Nat))) place (some (.ref H.length)) come nds code side) _ _ _ from ?_;generalize H.length=C at b⊢;have a:=@a (O.list ((o8 "-" false low (x-low)).map gV));generalize H++[O.list ((o8 "-" false low (x-low)).map gV)]=m at b B a⊢;refine c9 ?_;refine lM ⟨by decide,by decide,by rfl,by dsimp only;decide⟩ (.inl (by rfl)) ?_ λA E=>by unfold swapsWith ca cw;rw[E];rfl
 refine q6 (K9 rfl (cv _) cy ⟨by first|exact trivial| show keepIn _ _=true;kernel_rfl,b6 (a7 rfl rfl (b6 (a7 rfl rfl (d8 (iY ?_)))))⟩);refine oW (λ_=>true) (λv=>.tup [.str ("+ ":Str),.int 1,v]) (lJ (mW F) (mW hy)) trivial (by rw[ak,cL,Int.toNat_sub];exact ad (Nat.sub_le _ _) (ad (by assumption) (by decide))) (λv G=>?_) ?_;· refine a9 (bp.mp G) λk R J=>?_;subst J;refine e6 (.inl rfl) ?_;refine⟨rfl,rfl,rfl,λ_=>?_⟩;refine w0 (b6 (l4 (b6 (i6 (b6 (a7 rfl rfl (d8 ?_)))))));exact i9 (by show 3<=aF;decide) rfl rfl
 rw[wH (tag:="+") (c:="+ ") (sd:=true) (i:=1) (by decide) rfl];have f2:Fr [sl] H (m++[O.list ((o8 "+" true start (y-start)).map gV)]):=B.app;have s:(m++[O.list ((o8 "+" true start (y-start)).map gV)])[sl]?=some (.list (D.map w9)):=(aI (ab.mp a).1).trans a;have r:(m++[O.list ((o8 "+" true start (y-start)).map gV)])[C]?=some (.list ((o8 "-" false low (x-low)).map gV)):=(aI (ab.mp b).1).trans b;have l:(m++[O.list ((o8 "+" true start (y-start)).map gV)])[m.length]?=some (.list ((o8 "+" true start (y-start)).map gV)):=ao;refine show WB _ _ _ (M9 la lb sl low start row (some (.int (x:Nat))) (some (.int (y:Nat))) place (some (.ref C)) (some (.ref m.length)) nds code side) _ _ _ from ?_;generalize m.length=N at l⊢;generalize m++[O.list ((o8 "+" true start (y-start)).map gV)]=u at r l f2 s⊢;clear B a b;refine c9 ?_;refine k7 (ak5 (C3 (j6 (a7 rfl rfl (B5 (d8 ?_))))));have up:∀{j:Nat}{o o':O},u[j]?=some o'->(u++[o])[j]?=some o':=λe=>(aI (ab.mp e).1).trans e;have K:=(ab.mp s).1;have n:∀(t:List O)(nx ny:Nat),u<+:t->needs nx ny (K6 low x start y)=w3 low x start y->WS w (Y6 w) d (M9 la lb sl low start row (some (.int (x:Nat))) (some (.int (y:Nat))) place (some (.ref C)) (some (.ref N)) (some (.ref t.length)) code side) (t++[.list [.int (nx:Nat),.int (ny:Nat)]]) (r6 5 Y7) (lQ w (Y6 w) d (Y7.drop 6) Q):=λt nx ny p e=>by have q:u<+:t++[.list [.int (nx:Nat),.int (ny:Nat)]]:=p.trans (aH _ _);refine MK (n7 q s) (n7 q r) (n7 q l) ao (bg (aP (aB K p.length_le))) M hy P λH' X V U W T Y f g=>?_;replace g:=e▸g;refine h _ _ _ _ _ _ _ (f2.trans (λ_ z=>.inl z) (Fr.trans ⟨q.length_le,λk x _ e=>n7 q e⟩ (λ_ z=>.inl z) f)) g
 refine⟨by show 0<=aF;decide,?_⟩;refine wJ (up r) ao ?_;rw[wK];refine g9 ?_;by_cases h1:low<x
 · refine G8 (by rw[decide_eq_false (cG (Nat.sub_pos_of_lt h1))];rfl) ?_;refine W5 (j6 (a7 rfl rfl (B5 (d8 ?_))));refine⟨by show 0<=aF;decide,?_⟩;refine wJ (n7 (aH _ _) (up l)) ao ?_;rw[wK];refine g9 ?_;by_cases h2:start<y;·refine aL3 (by rw[decide_eq_false (cG (Nat.sub_pos_of_lt h2))];rfl) ?_;refine B5 (b6 (a7 rfl rfl (b6 (a7 rfl rfl (d8 ?_)))));refine⟨by show 2<=aF;decide,?_⟩;refine e6 (.inl rfl) (c9 ?_);exact n _ x y ((aH _ _).trans (aH _ _)) (by rw[iy,if_pos ⟨h1,h2⟩,if_pos ⟨h1,h2⟩])
   ·refine ay2 (by rw[decide_eq_true (Nat.sub_eq_zero_of_le (bf h2))];decide) ?_;refine B5 (b6 (i6 (b6 (i6 (d8 ?_)))));refine⟨by show 2<=aF;decide,?_⟩;refine e6 (.inl rfl) (c9 ?_);exact n _ 0 0 ((aH _ _).trans (aH _ _)) (by rw[iy,if_neg λq=>h2 q.2,if_neg λq=>h2 q.2])
 ·refine I6 (by rw[decide_eq_true (Nat.sub_eq_zero_of_le (bf h1))];decide) ?_;refine ay2 (by decide) ?_;refine B5 (b6 (i6 (b6 (i6 (d8 ?_)))));refine⟨by show 2<=aF;decide,?_⟩;refine e6 (.inl rfl) (c9 ?_);exact n _ 0 0 (aH _ _) (by rw[iy,if_neg λq=>h1 q.1,if_neg λq=>h1 q.1])
end
inductive wL(la lb sl:Nat)(A B:List (Nat×Nat))(ps:List (Nat×Nat))(H:List O)(k:Nat):b9->List O->Prop|mk{H' low start D row high stop place gap come nds code side}(f:Fr [sl] H H')(g:H'[sl]?=some (.list (D.map w9)))(hl:low<=1000/\start<=1000)(c:k<=ps.length/\D++B9 A.length B.length low start (ps.drop k)=B9 A.length B.length 0 0 ps \/ k=ps.length+1/\D=B9 A.length B.length 0 0 ps):wL la lb sl A B ps H k (M9 la lb sl low start row high stop place gap come nds code side) H'
theorem bu4{l:List Nat}(h:l.Nodup){j c:Nat}(e:l[j]?=some c):∀i,i<j->l[i]?≠some c:=λi a q=>by have:=(fh (fk a (ab.mp e).1) h).mp (q.trans e.symm);exact absurd this (aP a)
section
variable{w:NQ}{H:List O}{d la lb sl low start:Nat}{A B:List (Nat×Nat)}{D:List r5}{row high stop place gap come nds code side:Option V}
theorem ML{p:Nat×Nat}{Q:QF}(l:H[la]?=some (.list (A.map l9)))(m:H[lb]?=some (.list (B.map l9)))(a:A.length<=25)(b:B.length<=25)(v:(A.map (·.1)).Nodup)(x:(B.map (·.1)).Nodup)(t:H[sl]?=some (.list (D.map w9)))(s:low<=1000)(j:start<=1000)(k:(D++w3 low p.1 start p.2).length<=5000)(c:jz A (B.map (·.1)) p)(h:∀H' row high stop place gap come nds code side,Fr [sl] H H'->H'[sl]?=some (.list ((D++w3 low p.1 start p.2++[(⟨" ",false,p.1,0,0⟩:r5)]).map w9))->Q .next (M9 la lb sl (p.1+1) (p.2+1) row high stop place gap come nds code side) H'):WB w (Y6 w) d (M9 la lb sl low start (some (l9 (E4 A p))) high stop place gap come nds code side) H Y7 Q:=by
 have e:(A.map (·.1))[p.1]?=some (E4 A p).1:=by rw[aV,c.at'];rfl
 have i:(B.map (·.1))[p.2]?=some (E4 A p).1:=by rw[c.ix,aw (fC c.mem),List.getElem_idxOf]
 have u:=c.la;have n:=c.lb;rw[ak]at n;generalize E4 A p=q at e i⊢;refine c9 ?_;refine k7 (ak5 (j6 (a7 rfl rfl (l4 ?_))));refine aB3 (L4 ?_);rw[show(S [q.1]==aa "")=false from rfl];refine g9 ?_;refine ay2 (by decide) ?_;refine o6 (pl:=λ_=>_) (a7 rfl rfl ?_);refine j5 _ (bs2 l) trivial ?_;refine b6 (a7 rfl rfl (d8 ?_));refine bs4 l (ad a (by decide)) e (bu4 v e) ?_;refine e6 (.inl rfl) (c9 (k7 (ak5 (j6 (a7 rfl rfl (l4 ?_))))));refine aB3 (L4 ?_);rw[show(S [q.1]==aa "")=false from rfl];refine g9 ?_;refine ay2 (by decide) ?_;refine o6 (pl:=λ_=>_) (Q7 rfl rfl ?_);refine j5 _ (bs2 m) trivial ?_;refine b6 (a7 rfl rfl (d8 ?_));refine bs4 m (ad b (by decide)) i (bu4 x i) ?_;refine e6 (.inl rfl) ?_;refine bu3 t (ad (Nat.le_of_lt u) (ad a (by decide))) (ad (Nat.le_of_lt n) (ad b (by decide))) s j (ad (by rw[aK];exact aU _ _) k) λy place gap come nds code side f g=>?_;refine c9 ?_;refine o5 (j6 (a7 rfl rfl (l4 ?_)));refine aB3 (aJ4 ?_);rw[show(S [q.1]!=aa "")=true from rfl];refine g9 ?_;refine s6 rfl ?_;refine c9 (s4 (o6 (pl:=λ_=>_) (a7 rfl rfl ?_)));refine j5 _ (O5 g) trivial ?_;refine b6 (w0 (b6 (l4 (b6 (i6 (b6 (a7 rfl rfl (b6 (i6 (b6 (i6 (d8 ?_))))))))))));refine⟨by show 5<=aF;decide,?_⟩;refine d8 ?_;refine O4 g (by rw[ak];exact ad k (by decide)) ?_;refine e7 (c9 ?_);refine O0 (xs:=["low","start"]) (ag3 (by rfl) (by rfl)) ?_ λo r=>by unfold bL ca cw;rw[r];rfl
 refine w0 (b6 (l0 (a7 rfl rfl (i6 (w7 (b6 (l0 (a7 rfl rfl (i6 (w7 (d8 ?_)))))))))));refine⟨by show 2<=aF;decide,?_⟩;refine D8 rfl ?_;refine⟨rfl,?_⟩;refine e7 ?_;refine h _ _ _ _ _ _ _ _ _ _ (f.set (.inl (.head _))) ?_;rw[au (ab.mp g).1,bm (l₂:=[_])];rfl
theorem MN(k:H[la]?=some (.list (A.map l9)))(l:H[lb]?=some (.list (B.map l9)))(a:A.length<=25)(b:B.length<=25)(o:H[sl]?=some (.list (D.map w9)))(n:low<=1000)(c:start<=1000)(j:(D++w3 low A.length start B.length).length<=5000)(h:∀H' lo e row high stop place gap come nds code side,lo<=1000/\e<=1000->Fr [sl] H H'->H'[sl]?=some (.list ((D++w3 low A.length start B.length).map w9))->Q .next (M9 la lb sl lo e row high stop place gap come nds code side) H'):WB w (Y6 w) d (M9 la lb sl low start (some (.str (aa ""))) high stop place gap come nds code side) H Y7 Q:=by
 refine c9 ?_;refine k7 (ak5 (j6 (a7 rfl rfl (l4 (L4 (g9 ?_))))));rw[show(aa ""==aa "")=true from rfl];refine aL3 rfl ?_;refine q6 (B3 rfl (G4 _) G5 ⟨by first|exact trivial| kernel_rfl,b6 (a7 rfl rfl (d8 ?_))⟩);refine R1 (.inl k) (by rw[ak];exact ad a (by decide)) ?_;rw[ak];refine e6 (.inl rfl) (c9 (k7 (ak5 (j6 (a7 rfl rfl (l4 (L4 (g9 ?_))))))));rw[show(aa ""==aa "")=true from rfl];refine aL3 rfl ?_;refine q6 (B3 rfl (G4 _) G5 ⟨by first|exact trivial| kernel_rfl,b6 (Q7 rfl rfl (d8 ?_))⟩);refine R1 (.inl l) (by rw[ak];exact ad b (by decide)) ?_;rw[ak];refine e6 (.inl rfl) ?_;refine bu3 o (ad a (by decide)) (ad b (by decide)) n c (ad (by rw[aK];exact aU _ _) j) λp place gap come nds code side f g=>?_;refine c9 ?_;refine o5 (j6 (a7 rfl rfl (l4 (aJ4 (g9 ?_)))));rw[show(aa ""!=aa "")=false from rfl];refine n5 (by decide) ?_;refine e7 (c9 ?_);refine O0 (xs:=["low","start"]) (ag3 (by rfl) (by rfl)) ?_ λi m=>by unfold bL ca cw;rw[m];rfl
 refine w0 (b6 (l0 (a7 rfl rfl (i6 (w7 (b6 (l0 (a7 rfl rfl (i6 (w7 (d8 ?_)))))))))));refine⟨by show 2<=aF;decide,?_⟩;refine D8 rfl ?_;refine⟨rfl,?_⟩;refine e7 ?_;exact h _ (A.length+1) (B.length+1) _ _ _ _ _ _ _ _ _ ⟨ad (bo a) (by decide),ad (bo b) (by decide)⟩ f g
end
section
variable{w:NQ}{H:List O}{d la lb:Nat}{A B:List (Nat×Nat)}{Q:QV}
theorem MO(T:H[la]?=some (.list (A.map l9)))(hb:H[lb]?=some (.list (B.map l9)))(a:A.length<=25)(n:B.length<=25)(na:(A.map (·.1)).Nodup)(nb:(B.map (·.1)).Nodup)(h:∀H' sl,Fr [] H H'->H.length<=sl->H'[sl]?=some (.list ((B9 A.length B.length 0 0 (K5 (B.map (·.1)) 0 (A.map (·.1)))).map w9))->Q (.ref sl) H'):j7 w (d+1) H (.st 322) [.ref la,.ref lb] Q:=by
 refine O2 (Jt w) (by rfl) (by rfl) ?_;have e:u7 (i7 (m8 9)) ["old","new"] [.ref la,.ref lb]=[nv "old" (.ref la),nv "new" (.ref lb),nn "steps",nn "low",nn "start",nn "row",nn "high",nn "stop",nn "place",nn "gap",nn "come",nn "needs",nn "code",nn "side"]:=by rfl
 rw[e];refine c9 ?_;refine O0 (xs:=["steps","low","start"]) (as9 (by rfl) (by rfl) (by rfl)) ?_ λa4 he=>by unfold bL ca cw;rw[he];rfl
 refine w0 (b6 (B5 (d8 ?_)));refine⟨by show 0<=aF;decide,?_⟩;refine b6 (i6 (b6 (i6 (d8 ?_))));refine⟨by show 3<=aF;decide,?_⟩;refine D8 rfl ?_;refine⟨rfl,?_⟩;refine c9 ?_;refine be ?_;refine l0 ?_;refine Eo ⟨by decide,by decide,by rfl,by dsimp only;decide⟩ ?_;refine a7 rfl rfl ?_;have S:∀{j:Nat}{o x:O},H[j]?=some o->(H++[x])[j]?=some o:=λe=>(aI (ab.mp e).1).trans e;refine oW (vR (B.map (·.1))) id (aG (.inl (S T))) (.inl (S T)) (by rw[ak];exact ad a (by decide)) ?_ ?_;·intro v t;refine a9 (bp.mp t) λp E a2=>?_;subst a2;refine e6 (.inl rfl) ?_;refine⟨rfl,?_⟩;refine j6 (a7 rfl rfl (Q7 rfl rfl ?_));refine LO (.inl (S hb)) ?_;refine g9 ?_;refine i9 rfl (by rw[wG]) λ_=>?_;refine a7 rfl rfl ?_;exact⟨rfl,rfl⟩
 have ef:((A.map l9).filter (vR (B.map (·.1)))).map id=((K5 (B.map (·.1)) 0 (A.map (·.1))).map (E4 A)).map l9:=by rw[List.map_id,List.filter_map,Mz A 0 rfl];congr 1;exact List.filter_congr λp _=>wG
 rw[ef];have G:=MA (b:=B.map (·.1)) A 0 rfl;have F:=MC (b:=B.map (·.1)) (A.map (·.1)) 0;rw[ak]at F;generalize K5 (B.map (·.1)) 0 (A.map (·.1))=ps at G F h⊢;refine B5 (b6 (l4 (d8 ?_)));refine⟨by show 1<=aF;decide,?_⟩;refine oU (n7 (aH _ _) ao) ao (by rw[ak,ak];exact ad (Nat.add_le_add_right (ad F a) 1) (by decide)) ?_;have R:H++[O.list []]<+:H++[O.list []]++[O.list ((ps.map (E4 A)).map l9)]++[O.list [V.str (aa "")]]++[O.list ((ps.map (E4 A)).map l9++[V.str (aa "")])]:=((aH _ _).trans (aH _ _)).trans (aH _ _);have hi:(H++[O.list []]++[O.list ((ps.map (E4 A)).map l9)]++[O.list [V.str (aa "")]]++[O.list ((ps.map (E4 A)).map l9++[V.str (aa "")])])[(H++[O.list []]++[O.list ((ps.map (E4 A)).map l9)]++[O.list [V.str (aa "")]]).length]?=some (.list ((ps.map (E4 A)).map l9++[V.str (aa "")])):=ao;have N:(H++[O.list []]++[O.list ((ps.map (E4 A)).map l9)]++[O.list [V.str (aa "")]]).length≠H.length:=by simp
 generalize(H++[O.list []]++[O.list ((ps.map (E4 A)).map l9)]++[O.list [V.str (aa "")]]).length=il at hi N⊢;generalize H++[O.list []]++[O.list ((ps.map (E4 A)).map l9)]++[O.list [V.str (aa "")]]++[O.list ((ps.map (E4 A)).map l9++[V.str (aa "")])]=H1 at R hi⊢;have X:H1[H.length]?=some (.list []):=n7 R ao;have f0:Fr [] H H1:=⟨ad (by rw[aK];exact aN _) R.length_le,λk x _ e=>n7 R (S e)⟩;have Y:la≠H.length:=aP (ab.mp T).1;have Z:lb≠H.length:=aP (ab.mp hb).1;have a0:=f0.2 _ _ List.not_mem_nil T;have a1:=f0.2 _ _ List.not_mem_nil hb;have lH:H.length<=H.length:=ae _;have a5:=R.length_le;have h:∀H',Fr [H.length] H1 H'->H'[H.length]?=some (.list ((B9 A.length B.length 0 0 ps).map w9))->Q (.ref H.length) H':=λH' f g=>h H' _ (f0.trans (own':=[H.length]) (λk C=>.inr (by rw[af.mp C];exact ae _)) f) (ae _) g;clear S ef R T hb f0;generalize H.length=sl at X Y Z N h⊢;have zp:(B9 A.length B.length 0 0 ps).length<=5000:=ad (MB (la:=A.length) (lb:=B.length) λp E=>⟨(G p E).la,by have:=(G p E).lb;rwa[ak]at this⟩) (ad (Nat.mul_le_mul (bo (ad F a)) (Nat.add_le_add a n)) (by decide));refine Q3 _ _ (aG (.inl hi)) (wL la lb sl A B ps H1) (.mk (D:=[]) Fr.refl X ⟨by decide,by decide⟩ (.inl ⟨bq _,rfl⟩)) ?_ ?_ ?_;· intro k m H';intro a3;obtain⟨f,g,I,c⟩:=a3;exact .inl (f.2 _ _ (by simpa using N) hi)
 · rintro k v m H' t J;obtain@⟨H',L,l,D,P,s,y,i,K,r,M,q,u,f,g,I,c⟩:=J;have U:=f.2 _ _ (by simpa using Y) a0;have W:=f.2 _ _ (by simpa using Z) a1;by_cases C:k<ps.length
   · have E:=aw C;generalize ps[k]=p at E;rw[aI (by rw[ak,ak];exact C),aV,aV,E]at t;injection t with t;subst t;obtain⟨_,c⟩|⟨c,_⟩:=c
     · have ed:ps.drop k=p::ps.drop (k+1):=by rw[dZ C];rw[aw C]at E;rw[bV E]
       rw[ed]at c;have c:D++(w3 L p.1 l p.2++⟨" ",false,p.1,0,0⟩::B9 A.length B.length (p.1+1) (p.2+1) (ps.drop (k+1)))=_:=c;have ok:=G p (aY E);refine e6 (.inl (by rfl)) ?_;refine ML U W a n na nb g I.1 I.2 (ad ?_ zp) ok λH2 P s y i K r M q u f2 g2=>?_;·rw[<-c,<-bz];exact(aH _ _).length_le
       ·have l1:=ok.la;have l2:=ok.lb;rw[ak]at l2;refine .mk (f.trans (λ_ z=>.inl z) f2) g2 ⟨ad l1 (ad a (by decide)),ad l2 (ad n (by decide))⟩ (.inl ⟨C,?_⟩);rw[<-c];simp
     ·exact absurd C (by rw[c];exact bl.mpr (aN _))
   · have ek:k=ps.length:=by have:=(ab.mp t).1;rw[aK,ak,ak,List.length_singleton]at this;exact Nat.le_antisymm (Nat.le_of_lt_succ this) (bf C)
     subst ek;rw[List.getElem?_append_right (by rw[ak,ak];exact ae _),ak,ak,Nat.sub_self]at t;injection t with t;subst t;obtain⟨_,c⟩|⟨c,_⟩:=c;·rw[List.drop_length]at c;have c:D++w3 L A.length l B.length=_:=c;refine e6 (.inl (by rfl)) ?_;refine MN U W a n g I.1 I.2 (by rw[c];exact zp) λH2 lo st P s y i K r M q u I f2 g2=>?_;exact .mk (f.trans (λ_ z=>.inl z) f2) g2 I (.inr ⟨rfl,c⟩)
     ·exact absurd c (aP (ch _))
 · rintro m H' J;obtain@⟨H',L,l,D,P,s,y,i,K,r,M,q,u,f,g,I,c⟩:=J;rw[aK,ak,ak,List.length_singleton]at c;obtain⟨c,_⟩|⟨_,rfl⟩:=c;·exact absurd c (Nat.not_succ_le_self _)
   refine c9 (J9 (a7 rfl rfl ?_));exact h _ f g
end
noncomputable abbrev r4(w:NQ)(b e:Bool)(a:Nat):O:=dO (strKind pP w) [("begun",.bool b),("ended",.bool e),("steps",.ref a)]
noncomputable def iz:Option Str->V|none=>.str (aa "IndexError "++eIx)|some y=>.str y
noncomputable def iA(L:List r5):Option Str->List r5|none=>[]|some _=>L
noncomputable def T7(A B:List (Nat×Nat)):List r5->V|[]=>.none|s::_=>iz (y9 (A.map m5) (B.map m5) s)
noncomputable def V4(A B:List (Nat×Nat)):List r5->List r5|[]=>[]|s::L=>iA L (y9 (A.map m5) (B.map m5) s)
noncomputable abbrev jA(g f:Nat)(b d a c e:Option V):b9:=[nv "state" (.ref g),nv "lists" (.ref f),(aa "code",b),(aa "side",d),(aa "place",a),(aa "high",c),(aa "stop",e)]
noncomputable abbrev qz(w:NQ):FI:=⟨i7 (m8 10),true,(o9 (kT w.params)).code⟩
structure qC(w:NQ)(H:List O)(si li la lb:Nat)(A B:List (Nat×Nat)):Prop where
 l:H[li]?=some (.list [.ref la,.ref lb])
 a:H[la]?=some (.list (A.map l9))
 b:H[lb]?=some (.list (B.map l9))
 a25:A.length<=25
 b25:B.length<=25
def P6(s:r5):Prop:=s.tag=("-":Str)\/s.tag=("+":Str)\/s.tag=(" ":Str)
theorem P6.len(h:P6 s):(s.tag++sp).length<=2:=by rcases h with h|h|h<;>rw[h]<;>decide
section
variable{w:NQ}{H:List O}{d si li la lb sl:Nat}{A B:List (Nat×Nat)}{L:List r5}{e:Bool}
theorem wM(D:qC w H si li la lb A B)(a:H[si]?=some (r4 w true e sl))(b:H[sl]?=some (.list (L.map w9)))(hz:L.length<=5000)(Y:∀s∈L,P6 s)(t:sl≠li/\sl≠la/\sl≠lb)(N:si≠sl)(h:∀H' f m,Fr [si,sl] H H'-> f=sl\/H.length<=f ->H'[si]?=some (r4 w true e f)->H'[f]?=some (.list ((V4 A B L).map w9))->Q (.ret (T7 A B L)) m H'):WB w (qz w) (d+1) (jA si li none none none none none) H ((e9 (m8 10)).drop 1) Q:=by refine c9 ?_;refine o5 (j6 (s5 (a7 rfl rfl (l4 ?_))));refine mn I7 a (v:=.ref sl) (by rfl) ?_;refine B5 (d8 ?_);refine⟨by show 0<=aF;decide,?_⟩;have up:∀{j:Nat}{x o:O},H[j]?=some o->(H++[x])[j]?=some o:=λe=>(aI (ab.mp e).1).trans e;refine ME (up b) ao ?_;refine g9 ?_;cases L with|nil=>refine s6 rfl ?_;refine c9 (J9 (J6 ?_));exact h _ _ _ Fr.refl.app (.inl rfl) (up a) (up b)|cons s L=>
 refine n5 cA ?_;have G:Fr [si,sl] H (H++[O.list []]):=Fr.refl.app;have Z:=(ab.mp b).1;have a:=up (x:=.list []) a;have b:=up (x:=.list []) b;have l:=up (x:=.list []) D.l;have u:=up (x:=.list []) D.a;have z:=up (x:=.list []) D.b;have C:H.length<=(H++[O.list []]).length:=G.1;generalize H++[O.list []]=n at a b l u z G C⊢;clear up;refine e7 (c9 (k7 (o6 (pl:=λ_=>_) (s5 (a7 rfl rfl (l4 ?_))))));refine mn I7 a (v:=.ref sl) (by rfl) ?_;refine j5 _ (lX (id:="list.pop") PySem.F.slot_list_pop PySem.F.type_list_pop b) trivial ?_;refine b6 (i6 (d8 ?_));refine FU (k:=0) b rfl (by rw[ak];exact ad hz (by decide)) ?_;have f2:Fr [si,sl] H (n.set sl (.list (L.map w9))):=G.set (.inl (.tail _ (.head _)));have F:∀{j:Nat}{o:O},sl≠j->n[j]?=some o->(n.set sl (.list (L.map w9)))[j]?=some o:=λX e=>(ag X).trans e;have a:=F (bg N) a;have l:=F t.1 l;have u:=F t.2.1 u;have z:=F t.2.2 z;have b:(n.set sl (.list (L.map w9)))[sl]?=some (.list (L.map w9)):=au (ab.mp b).1;have E:H.length<=(n.set sl (.list (L.map w9))).length:=f2.1;refine show lP _ _ _ _ _ _ (w9 s) (n.set sl (.list (L.map w9)))from ?_;generalize n.set sl (.list (L.map w9))=p at f2 a l u z b E⊢;clear F G C;refine R4 ?_;refine D8 rfl ?_;refine e6 (.inl (by rfl)) ?_;refine e6 (.inl (by rfl)) ?_;refine e6 (.inl (by rfl)) ?_;refine e6 (.inl (by rfl)) ?_;refine e6 (.inl (by rfl)) ?_;show WB _ _ _ (jA si li (some (.str (s.tag++sp))) (some (.int (w8 s.sd))) (some (.int (s.p:Nat))) (some (.int (s.na:Nat))) (some (.int (s.nb:Nat)))) p ((e9 (m8 10)).drop 3) Q;have r:y9 (A.map m5) (B.map m5) s=none->WB w (qz w) (d+1) (jA si li (some (.str (s.tag++sp))) (some (.int (w8 s.sd))) (some (.int (s.p:Nat))) (some (.int (s.na:Nat))) (some (.int (s.nb:Nat)))) p (C7 (r6 3 (e9 (m8 10)))) (lQ w (qz w) (d+1) ((e9 (m8 10)).drop 4) Q):=λc=>by
  refine c9 ?_;refine k7 (B5 (d8 ?_));refine⟨by show 0<=aF;decide,?_⟩;refine U5 (a7 rfl rfl (l4 ?_));refine hW I7 (n7 (aH _ _) a) (by show 3<=aF;decide) ?_;refine c9 (J9 (l4 ?_));have I:T7 A B (s::L)=.str (aa "IndexError list index out of range"):=by show iz _=_;rw[c];rfl
  have J:V4 A B (s::L)=[]:=by show iA L _=_;rw[c];rfl
  have q:=h ((p++[O.list []]).set si (r4 w true e p.length)) p.length (jA si li (some (.str (s.tag++sp))) (some (.int (w8 s.sd))) (some (.int (s.p:Nat))) (some (.int (s.na:Nat))) (some (.int (s.nb:Nat)))) (f2.app.set (.inl (.head _))) (.inr E) (au (by rw[aK];exact df (ab.mp a).1)) (by rw[ag (aP (ab.mp a).1),J];exact ao);rw[I]at q;exact q
 refine c9 ?_;refine o5 (tR (j6 (a7 rfl rfl (q6 (B3 rfl (G4 _) G5 ⟨by first|exact trivial| show keepIn _ _=true;kernel_rfl,b6 (s5 (a7 rfl rfl (i6 ?_)))⟩)))));refine D6 (i:=0) (.inl l) (by decide) (by decide) (x:=.ref la) rfl ?_;refine d8 ?_;refine R1 (.inl u) (by rw[ak];exact ad D.a25 (by decide)) ?_;rw[ak];refine W7 (g9 ?_);by_cases c1:A.length<s.na;·refine tS (by simpa using c1) ?_;refine s6 rfl (r ?_);unfold y9;rw[if_neg λq=>bl.mpr q.1 (by rw[ak];exact c1)]
 refine tT (by simpa using c1) ?_;refine tR (j6 (a7 rfl rfl (q6 (B3 rfl (G4 _) G5 ⟨by first|exact trivial| show keepIn _ _=true;kernel_rfl,b6 (s5 (a7 rfl rfl (i6 ?_)))⟩))));refine D6 (i:=1) (.inl l) (by decide) (by decide) (x:=.ref lb) rfl ?_;refine d8 ?_;refine R1 (.inl z) (by rw[ak];exact ad D.b25 (by decide)) ?_;rw[ak];refine W7 (g9 ?_);by_cases c2:B.length<s.nb;·refine tS (by simpa using c2) ?_;refine s6 rfl (r ?_);unfold y9;rw[if_neg λq=>bl.mpr q.2 (by rw[ak];exact c2)]
 refine tT (by simpa using c2) ?_;refine DF (j6 (a7 rfl rfl (q6 (B3 rfl (G4 _) G5 ⟨by first|exact trivial| show keepIn _ _=true;kernel_rfl,b6 (s5 (a7 rfl rfl (a7 rfl rfl ?_)))⟩))));have c:y9 (A.map m5) (B.map m5) s=(if s.sd=true then B.map m5 else A.map m5)[s.p]?.map λq=>s.tag++sp++q.1:=by unfold y9;rw[if_pos ⟨by rw[ak];exact bf c1,by rw[ak];exact bf c2⟩]
 obtain⟨T,K⟩:∃T,T=if s.sd=true then B else A:=⟨_,rfl⟩;have c:y9 (A.map m5) (B.map m5) s=(T.map m5)[s.p]?.map λq=>s.tag++sp++q.1:=by rw[c,K];cases s.sd<;>rfl
 have W:[V.ref la,V.ref lb][(w8 s.sd).toNat]?=some (.ref (t6 la lb s.sd)):=by cases s.sd<;>rfl
 have U:p[t6 la lb s.sd]?=some (.list (T.map l9)):=by
  rw[K];cases s.sd;·exact u
  ·exact z
 have g:T.length<=25:=by
  rw[K];cases s.sd;·exact D.a25
  ·exact D.b25
 have P:0<=w8 s.sd:=by cases s.sd<;>decide
 have R:w8 s.sd<2^62:=by cases s.sd<;>decide
 refine D6 (.inl l) P R W ?_;refine d8 ?_;refine R1 (.inl U) (by rw[ak];exact ad g (by decide)) ?_;rw[ak];refine oP (g9 ?_);by_cases c3:T.length<=s.p;·refine s6 (by simpa using c3) (r ?_);rw[c,List.getElem?_eq_none (by rw[ak];exact c3)];rfl
 refine n5 (by simpa using c3) ?_;refine e7 (c9 (J9 (l0 (a7 rfl rfl (s5 (s5 (a7 rfl rfl (a7 rfl rfl ?_))))))));refine D6 (.inl l) P R W ?_;refine a7 rfl rfl ?_;have M:(T.map m5)[s.p]?=some (m5 (T[s.p]'(bI c3))):=by rw[aV,aw (bI c3)];rfl
 rw[M]at c;generalize T[s.p]'(bI c3)=y at M c;refine ww (q:=m5 y) (by rw[kK];exact U) (by rw[ak];exact ad g (by decide)) M ?_;refine EA (ad (Nat.add_le_add (P6.len (Y s (.head _))) (by rw[R3];exact ae _)) (by show 2+1<=aF;decide)) ?_;have q:=h p sl (jA si li (some (.str (s.tag++sp))) (some (.int (w8 s.sd))) (some (.int (s.p:Nat))) (some (.int (s.na:Nat))) (some (.int (s.nb:Nat)))) f2 (.inl rfl) a;have I:T7 A B (s::L)=.str (s.tag++sp++S [y.1]):=by show iz _=_;rw[c];rfl
 have J:V4 A B (s::L)=L:=by show iA L _=_;rw[c];rfl
 rw[I,J]at q;exact q b
theorem MP(D:qC w H si li la lb A B)(na:(A.map (·.1)).Nodup)(nb:(B.map (·.1)).Nodup)(t:H[si]?=some (r4 w b e sl))(hl:H[sl]?=some (.list (L0.map w9)))(E:L=if b=true then L0 else B9 A.length B.length 0 0 (K5 (B.map (·.1)) 0 (A.map (·.1))))(hz:L.length<=5000)(S:∀s∈L,P6 s)(N:sl≠li/\sl≠la/\sl≠lb)(g:si≠sl/\si≠li/\si≠la/\si≠lb)(h:∀H' c,Fr [si,sl] H H'-> c=sl\/H.length<=c ->H'[si]?=some (r4 w true e c)->H'[c]?=some (.list ((V4 A B L).map w9))->Q (T7 A B L) H'):j7 w (d+2) H (.st 329) [.ref si,.ref li] Q:=by
 refine O2 (Jv w) (by rfl) (by rfl) ?_;have Y:u7 (i7 (m8 10)) ["state","lists"] [.ref si,.ref li]=jA si li none none none none none:=by rfl
 rw[Y];refine c9 ?_;refine o5 (ph (I5 (s5 (a7 rfl rfl (l4 ?_)))));refine mn I7 t (v:=.bool b) (by rfl) ?_;refine g9 ?_;cases b with|true=>subst E;refine n5 (by decide) ?_;refine e7 ?_;refine wM D t hl hz S N g.1 λH' c m f G I J=>h H' c f G I J|false=>
  have E:L=B9 A.length B.length 0 0 (K5 (B.map (·.1)) 0 (A.map (·.1))):=E;refine s6 rfl ?_;refine c9 (k7 (iR (U5 (a7 rfl rfl (l4 ?_)))));refine hW I7 t (by show 3<=aF;decide) ?_;have r:Fr [si] H (H.set si (r4 w true e sl)):=Fr.refl.set (.inl (.head _));have n:(H.set si (r4 w true e sl))[si]?=some (r4 w true e sl):=au (ab.mp t).1;refine show KM _ _ () (H.set si (r4 w true e sl))from ?_;generalize H.set si (r4 w true e sl)=W at r n⊢;have R:=r.2 _ _ (by simpa using g.2.1.symm) D.l;have ha:=r.2 _ _ (by simpa using g.2.2.1.symm) D.a;have hb:=r.2 _ _ (by simpa using g.2.2.2.symm) D.b;refine c9 (k7 (q6 (U4 rfl (Jz _) ⟨Ju _,b6 (s5 (a7 rfl rfl (i6 ?_)))⟩)));refine D6 (i:=0) (.inl R) (by decide) (by decide) (x:=.ref la) rfl ?_;refine b6 (s5 (a7 rfl rfl (i6 ?_)));refine D6 (i:=1) (.inl R) (by decide) (by decide) (x:=.ref lb) rfl ?_;refine d8 ?_;refine MO (d:=d) ha hb D.a25 D.b25 na nb λp a f2 T Z=>?_;have u:=f2.2 _ _ List.not_mem_nil n;have K:=(ab.mp n).1;have f2:Fr [si] W p:=⟨f2.1,λk x _ e=>f2.2 k x List.not_mem_nil e⟩;have f2:=r.trans (λ_ q=>.inl q) f2;refine U5 (a7 rfl rfl (l4 ?_));refine hW I7 u (by show 3<=aF;decide) ?_;have M:=(ab.mp u).1;have l:Fr [si] H (p.set si (r4 w true e a)):=f2.set (.inl (.head _));have y:(p.set si (r4 w true e a))[si]?=some (r4 w true e a):=au M;have P:(p.set si (r4 w true e a))[a]?=some (.list (L.map w9)):=by rw[ag (aP (aB K T)),E];exact Z
  have U:H.length<=a:=ad r.1 T;have C:∀{j:Nat}{o:O},H[j]?=some o->a≠j:=λe=>bg (aP (aB (ab.mp e).1 U));refine show KM _ _ () (p.set si (r4 w true e a))from ?_;generalize p.set si (r4 w true e a)=X at l y P⊢;have V:qC w X si li la lb A B:=⟨l.2 _ _ (by simpa using g.2.1.symm) D.l,l.2 _ _ (by simpa using g.2.2.1.symm) D.a,l.2 _ _ (by simpa using g.2.2.2.symm) D.b,D.a25,D.b25⟩;refine e7 ?_;refine wM V y P hz S (i9 (C D.l) (C D.a) (C D.b)) (bg (C t)) λH' c m f G I J=>?_;refine h H' c ⟨ad l.1 f.1,λk x F q=>?_⟩ (G.elim (λq=>.inr (q▸U)) λq=>.inr (ad l.1 q)) I J;have F:k≠si:=λz=>F (z▸.head _);exact f.2 k x (by simp[F,(C q).symm]) (l.2 k x (by simp[F]) q)
end
section
variable{a b:List Nat}{A B A':List (Nat×Nat)}{n fr t:Nat}
theorem MM.symm(h:MM a b i j):MM b a j i:=a9 h λc x y=>b7 c y x
theorem Rows.symm(R:Rows a b):Rows b a:=⟨R.nb,R.na,λ_ _ _ _ h c q=>(R.iff h.symm c.symm).mpr q⟩
structure LD(A B:List (Nat×Nat))(n fr:Nat):Prop where
 ro:Rows (A.map (·.1)) (B.map (·.1))
 la:2<=A.length/\A.length<=8
 lb:2<=B.length/\B.length<=8
 tk:∀p∈A++B,(405<p.2/\p.2<n)/\p.1<fr
 inj:∀p∈A++B,∀q∈A++B,p.2=q.2->p.1=q.1
theorem LD.symm(h:LD A B n fr):LD B A n fr:=⟨h.ro.symm,h.lb,h.la,λp c=>h.tk p (aX.mpr (aX.mp c).symm),λp c q d=>h.inj p (aX.mpr (aX.mp c).symm) q (aX.mpr (aX.mp d).symm)⟩
theorem LD.up(h:LD A B n fr)(e:n<=n')(d:fr<=fr'):LD A B n' fr':=⟨h.ro,h.la,h.lb,λp c=>⟨⟨(h.tk p c).1.1,aB (h.tk p c).1.2 e⟩,aB (h.tk p c).2 d⟩,h.inj⟩
def N2(a b:List Nat)(A B:List (Nat×Nat)):Prop:=∀p q x y,p<a.length->q<b.length->¬MM a b p q->A[p]?=some x->B[q]?=some y->x.1≠y.1
theorem N2.symm(h:N2 a b A B):N2 b a B A:=λp q x y c d e f g=>(h q p y x d c (λm=>e m.symm) g f).symm
theorem N2.self:N2 (A.map (·.1)) (B.map (·.1)) A B:=λp q x y _ _ c d f e=>c (b7 x.1 (by rw[aV,d];rfl) (by rw[aV,f,e];rfl))
theorem LD.pab(h:LD A B n fr)(C:N2 a b A B):eh a b (A.map m5) (B.map m5):=by
 have f:∀p∈A.map m5++B.map m5,∃q∈A++B,p=m5 q:=λp c=>by rw[<-bm]at c;refine a9 (bp.mp c) λq d l=>?_;subst l;exact b7 q d rfl
 refine⟨⟨λp c=>?_,λp c q d e=>?_,λp c=>?_⟩,λp q x y D E F w z=>?_⟩;· refine a9 (f p c) λq _ m=>?_;subst m;exact⟨_,rfl⟩
 · refine a9 (f p c) λp g o=>?_;subst o;refine a9 (f q d) λq i r=>?_;subst r;have:=h.inj p g q i e;show S [p.1]=S [q.1];rw[this]
 · refine a9 (f p c) λq d s=>?_;subst s;exact(h.tk q d).1.1
 ·rw[aV]at w z;refine a9 (bE.mp w) λx j u=>?_;subst u;refine a9 (bE.mp z) λy k v=>?_;subst v;have:=C p q x y D E F j k;intro e;have e:S [x.1]=S [y.1]:=e;rw[iZ]at e;exact this (List.cons.inj e).1
structure Ed(A A':List (Nat×Nat))(fr t:Nat):Prop where
 at':∀(k:Nat)(x:Nat×Nat),A'[k]?=some x->A[k]?=some x\/x=(fr,t)
 one:∀(k k':Nat)(x x':Nat×Nat),A'[k]?=some x->A'[k']?=some x'->x.1=fr->x'.1=fr->k=k'
theorem LD.ed(h:LD A B n fr)(e:Ed A A' fr t)(N:n<=n')(w:(fr,t)∈A'->n<=t/\t<n')(K:405<n)(M:2<=A'.length/\A'.length<=8):LD A' B n' (fr+1):=by
 have lo:∀(k:Nat)(x:Nat×Nat),A[k]?=some x->x.1<fr:=λk x q=>(h.tk x (bB _ (aY q))).2;have l:∀p∈A'++B,p∈A++B\/p=(fr,t)/\p∈A':=λp d=>by
  rcases aX.mp d with d|d;· refine b8 (gu d) λk L=>?_;exact(e.at' k p L).imp (λq=>bB _ (aY q)) λq=>⟨q,d⟩
  ·exact .inl (bD _ d)
 have J:∀i j,MM (A'.map (·.1)) (B.map (·.1)) i j->MM (A.map (·.1)) (B.map (·.1)) i j:=λi j=>A8 λc D E=>by
  rw[aV]at D E;refine a9 (bE.mp D) λx s C=>?_;subst C;refine a9 (bE.mp E) λy I q=>?_;refine b7 x.1 ?_ (by rw[aV,I,<-q];rfl);rcases e.at' i x s with g|g;·rw[aV,g];rfl
  ·have:=(h.tk y (bD _ (aY I))).2;rw[q,g]at this;exact absurd this (Nat.lt_irrefl _)
 refine⟨⟨?_,h.ro.nb,λi j O Q m R=>h.ro.mo i j O Q (J _ _ m) (J _ _ R)⟩,M,h.lb,λp d=>?_,λp d q H=>?_⟩
 · refine fM.mpr λi j F G r q=>?_;rw[ak]at F G;rw[List.getElem_map,List.getElem_map]at q;have u:=aw F;have v:=aw G;generalize A'[i]=x at q u;generalize A'[j]=y at q v;rcases e.at' i x u with g|g
   · rcases e.at' j y v with f|f
     · have P:i<(A.map (·.1)).length:=by rw[ak];exact(ab.mp g).1
       exact absurd ((fh P h.ro.na).mp (by rw[aV,aV,g,f];exact congrArg some q)) (aP r)
     ·have:=lo i x g;rw[q,f]at this;exact Nat.lt_irrefl _ this
   · have s:x.1=fr:=by rw[g]
     exact absurd (e.one i j x y u v s (q▸s)) (aP r)
 · rcases l p d with g|⟨rfl,g⟩;·have:=h.tk p g;exact⟨⟨this.1.1,aB this.1.2 N⟩,df this.2⟩
   ·exact⟨⟨aB K (w g).1,(w g).2⟩,ch _⟩
 · have o:(fr,t)∈A'->∀p∈A++B,p.2≠t:=λg p d q=>absurd (h.tk p d).1.2 (by rw[q];exact bl.mpr (w g).1);rcases l p d with g|⟨rfl,g⟩
   · rcases l q H with f|⟨rfl,f⟩;·exact h.inj p g q f
     ·exactλq=>absurd q (o f p g)
   · rcases l q H with f|⟨rfl,f⟩;·exactλz=>absurd z.symm (o g q f)
     ·exactλ_=>rfl
theorem N2.ed(h:N2 a b A B)(d:LD A B n fr)(e:Ed A A' fr t):N2 a b A' B:=λp q x y f i j k c z=>by
 rcases e.at' p x k with g|g;·exact h p q x y f i j g c z
 ·have:=(d.tk y (bD _ (aY c))).2;rw[<-z,g]at this;exact Nat.lt_irrefl _ this
theorem Ed.set(h:∀(j:Nat)(x:Nat×Nat),A[j]?=some x->x.1<fr):Ed A (A.set k (fr,t)) fr t:=by
 have d:∀j x,(A.set k (fr,t))[j]?=some x->A[j]?=some x/\j≠k\/x=(fr,t)/\j=k:=λj x c=>by
  rw[List.getElem?_set]at c;by_cases q:k=j
  · rw[if_pos q]at c;by_cases q':k<A.length;·rw[if_pos q']at c;exact .inr ⟨(bV c).symm,q.symm⟩
    ·injection (if_neg q').symm.trans c
  ·rw[if_neg q]at c;exact .inl ⟨c,bg q⟩
 refine⟨λj x c=>(d j x c).imp (·.1) (·.1),λj l x m c i e o=>?_⟩;rcases d j x c with g|g;·have:=h j x g.1;rw[e]at this;exact absurd this (Nat.lt_irrefl _)
 · rcases d l m i with f|f;·have:=h l m f.1;rw[o]at this;exact absurd this (Nat.lt_irrefl _)
   ·rw[g.2,f.2]
theorem Ed.app(h:∀(j:Nat)(x:Nat×Nat),A[j]?=some x->x.1<fr):Ed A (A++[(fr,t)]) fr t:=by
 have d:∀j x,(A++[(fr,t)])[j]?=some x->A[j]?=some x\/x=(fr,t)/\j=A.length:=λj x c=>by
  rw[List.getElem?_append]at c;by_cases q:j<A.length;·rw[if_pos q]at c;exact .inl c
  · rw[if_neg q,List.getElem?_singleton]at c;by_cases q':j-A.length=0;·rw[if_pos q']at c;exact .inr ⟨(bV c).symm,Nat.le_antisymm (Nat.sub_eq_zero_iff_le.mp q') (bf q)⟩
    ·injection (if_neg q').symm.trans c
 refine⟨λj x c=>(d j x c).imp id (·.1),λj k x l c i e m=>?_⟩;rcases d j x c with g|g;·have:=h j x g;rw[e]at this;exact absurd this (Nat.lt_irrefl _)
 · rcases d k l i with f|f;·have:=h k l f;rw[m]at this;exact absurd this (Nat.lt_irrefl _)
   ·rw[g.2,f.2]
theorem Ed.pop(h:∀(j:Nat)(x:Nat×Nat),A[j]?=some x->x.1<fr)(e:A=A'++[z]):Ed A A' fr t:=by
 have d:∀j x,A'[j]?=some x->A[j]?=some x:=λj x c=>by rw[e,aI (ab.mp c).1];exact c
 refine⟨λj x c=>.inl (d j x c),λj f x g c _ q _=>?_⟩;have:=h j x (d j x c);rw[q]at this;exact absurd this (Nat.lt_irrefl _)
end
theorem mX{sd:Bool}(h:tag=("-":Str)\/tag=("+":Str)\/tag=(" ":Str)){n:Nat}:∀{lo:Nat},∀s∈o8 tag sd lo n,P6 s:=by induction n with|zero=>exactλ_ q=>absurd q List.not_mem_nil|succ n a=>exactλs q=>(az.mp q).elim (λe=>e▸h) λq=>a s q
theorem MQ{x y:Nat}:∀{L:List r5},(∀s∈L,P6 s)->∀s∈needs x y L,P6 s
 |[],h=>h|a::L,h=>λs q=>by
  rcases az.mp q with rfl|q;·exact h a (.head _)
  ·exact h s (.tail _ q)
theorem wN{i x j y:Nat}:∀s∈w3 i x j y,P6 s:=by
 rw[iy];refine MQ λs q=>?_;unfold K6 at q;split at q<;>rcases aX.mp q with q|q;·exact mX (.inr (.inl rfl)) s q
 ·exact mX (.inl rfl) s q
 ·exact mX (.inl rfl) s q
 ·exact mX (.inr (.inl rfl)) s q
theorem MR{la lb:Nat}:∀{ps:List (Nat×Nat)}{i j:Nat},∀s∈B9 la lb i j ps,P6 s:=by intro ps;induction ps with|nil=>exactλs q=>wN s q|cons p r a=>
  intro _ _ s q;rcases aX.mp (show s∈w3 _ p.1 _ p.2++⟨" ",false,p.1,0,0⟩::B9 la lb (p.1+1) (p.2+1) r from q)with q|q;·exact wN s q
  · rcases az.mp q with rfl|q;·exact .inr (.inr rfl)
    ·exact a s q
noncomputable def qD(A B:List (Nat×Nat)):List r5:=B9 A.length B.length 0 0 (K5 (B.map (·.1)) 0 (A.map (·.1)))
theorem wO(i x j y:Nat):(K6 i x j y).length=x-i+(y-j):=by unfold K6;split<;>rw[aK,P5,P5];exact Nat.add_comm _ _
theorem MS{a b:List Nat}(R:Rows a b):∀{ps:List (Nat×Nat)}{i j:Nat},PP a b i ps->(∀d f,MM a b d f->i<=d->j<=f)->(B9 a.length b.length i j ps).length<= a.length-i+(b.length-j):=by intro ps;induction ps with|nil=>intro i j _ _;show(w3 i a.length j b.length).length<=_;rw[iy,kL,wO];exact ae _|cons p r e=>
  intro i j k o;refine m6 k λg c _ l=>?_;try clear k
  have n:=o _ _ c g;have q:=e (i:=p.1+1) (j:=p.2+1) l λd f m h=>R.mo _ _ _ _ c m h;have s:=c.lt;show(w3 i p.1 j p.2++⟨" ",false,p.1,0,0⟩::B9 a.length b.length (p.1+1) (p.2+1) r).length<=_;rw[aK,eK,iy,kL,wO];exact BU g n q s
theorem wP{A B:List (Nat×Nat)}(R:Rows (A.map (·.1)) (B.map (·.1)))(a:A.length<=8)(b:B.length<=8):(qD A B).length<=16:=by have:=MS R (i:=0) (j:=0) (wC _ 0 rfl) λ_ _ _ _=>bq _;rw[ak,ak]at this;exact ad this (Nat.add_le_add a b)
structure Rs where
 b:Bool
 e:Bool
 i:Nat
 s:Nat
 l:Nat
 own:List Nat
 L:List r5
inductive MT(w:NQ)(d:Nat)(A B:List (Nat×Nat))(H:List O)(R:Rs):Prop|fresh(b:R.b=false)(g:H[R.i]?=some (.fresh (dz w) (e9 (d0 7 2)) (iw 5 2 3 none none none none none none none)))(o:R.own=[R.i])|begun(x y:List Nat)(b:R.b=true)(n:N2 x y A B)(g:o7 (eh x y) w d 5 2 3 R.i R.L R.own H)
structure Rd(w:NQ)(d:Nat)(A B:List (Nat×Nat))(H:List O)(R:Rs):Prop where
 s:H[R.s]?=some (r4 w R.b R.e R.l)
 l:H[R.l]?=some (.list (R.L.map w9))
 z:R.L.length<=16
 en:R.e=true->R.b=true/\R.L=[]
 t:∀s∈R.L,P6 s
 g:MT w d A B H R
theorem Rd.kp(h:Rd w d A B H R)(c:H.length<=H'.length)(k:∀x,x∈R.own\/x=R.s\/x=R.l->H'[x]?=H[x]?)(e:∀a b,N2 a b A B->N2 a b A' B'):Rd w d A' B' H' R:=by
 refine⟨(k _ (.inr (.inl rfl))).trans h.s,(k _ (.inr (.inr rfl))).trans h.l,h.z,h.en,h.t,?_⟩;rcases h.g with⟨b,g,o⟩|⟨x,y,b,n,g⟩;·exact .fresh b ((k _ (.inl (by rw[o];exact .head _))).trans g) o
 ·exact .begun x y b (e x y n) (g.kp ⟨c,λx f=>k x (.inl f)⟩)
structure s8(w:NQ)(d:Nat)(xs:List Int)(n k:Nat)(A B:List (Nat×Nat))(R:Nat->Rs)(T:Nat->Nat)(H:List O):Prop where
 c:H[1]?=some (.clk n)
 big:405<n
 ld:LD A B n (20001+k)
 ha:H[2]?=some (.list (A.map l9))
 hb:H[3]?=some (.list (B.map l9))
 hl:H[4]?=some (.list [.ref 2,.ref 3])
 hd:H[5]?=some (.inst 313 I9)
 hr:H[9]?=some (.list [.ref (R 0).i,.ref (R 1).i,.ref (R 2).i])
 hs:H[16]?=some (.list [.ref (R 0).s,.ref (R 1).s,.ref (R 2).s])
 hx:H[19]?=some (.list (xs.map V.int))
 rd:∀r,r<3->Rd w d A B H (R r)
 t0:∀x∈[1,2,3,4,5,9,16,19],T x=0
 ti:∀r,r<3->∀x∈(R r).own,T x=1+r
 ts:∀r,r<3->T (R r).s=4+r
 tl:∀r,r<3->T (R r).l=7+r
 yy:∀k,YY H k->∃r,r<3/\k∈(R r).own/\(R r).e=false
section
variable{w:NQ}{d:Nat}{xs:List Int}{n k:Nat}{A B A' B':List (Nat×Nat)}{R:Nat->Rs}{T:Nat->Nat}{H H':List O}
theorem Rd.own_lt{R:Rs}(h:Rd w d A B H R):∀x∈R.own,x<H.length:=by
 rcases h.g with⟨b,g,o⟩|⟨x,y,b,n,g⟩;·intro x a;rw[o,af]at a;rw[a];exact(ab.mp g).1
 ·exact g.wf.lt
theorem Rd.own_i{R:Rs}(h:Rd w d A B H R):R.i∈R.own:=by
 rcases h.g with⟨b,g,o⟩|⟨x,y,b,n,g⟩;·rw[o];exact .head _
 ·exact g.wf.i
theorem s8.rds(h:s8 w d xs n k A B R T H)(f:H.length<=H'.length)(kp:∀x,T x≠0->H'[x]?=H[x]?)(g:∀a b,N2 a b A B->N2 a b A' B'):∀r,r<3->Rd w d A' B' H' (R r):=λr c=>(h.rd r c).kp f (λx e=>kp x (by
 rcases e with e|rfl|rfl;·rw[h.ti r c x e];exact BV c
 ·rw[h.ts r c];exact BW c
 ·rw[h.tl r c];exact BX c)) g
end
section
variable{w:NQ}{d:Nat}{H:List O}
theorem e5.rep(r:e5 ρ h xs vs):∀k:Nat,e5 ρ h (dB k xs).flatten (dB k vs).flatten:=by intro k;induction k with|zero=>exact .nil|succ k a=>rw[List.replicate_succ,List.replicate_succ,gE,gE];exact r.append a
theorem MU(B:H[l]?=some (.list xs))(hz:xs.length*k<=256)(z:k<=1000)(h:Q (.ref H.length) (H++[.list (dB k xs).flatten])):W2 w d VR H (eE .Mult) (.ref l) (.int (k:Nat)) Q:=λA F I s u v G S C D=>by
 refine a9 C.ref_eq λe y m=>?_;subst m;refine b8 D.int_eq λt o=>?_;subst o;refine w6 (S.ob l e _ y B) λ_ _ j p b=>?_; refine b8 p λn a=>?_;have i:-(2^63:Int)<=(k:Int):=BM;have g:(k:Int)<2^63:=Int.lt_of_le_of_lt (Int.ofNat_le.mpr z) (by decide);have c:j.toArray.size*(k:Int).toNat<=256:=by rw[aZ,b.len,cq];exact hz
 have f:j.length*(k:Int).toNat<=256:=by rw[b.len,cq];exact hz
 have r:(k:Int).toNat=k:=cq k;generalize(k:Int)=x at i g c f r⊢;refine wpAny_binaryOp_repeat_ref (T:="list") (U:="int") (by decide) (b7 _ a rfl) (λE=>typeIs_int E _ t) noFill_list_mul PySem.F.fills_int_mul PySem.F.slot_int_rmul repeat_list PySem.F.slot_int_index.lookup (call_meets PySem.F.slot_int_rmul (typeIs_int s _ t) PySem.F.entry_int_rmul (PySem.F.args_int_rmul_2 _ _) (lm_int_rmul_list_any _ t e.a j.toArray n none #[]) (j8 a rfl (b7 _ a rfl) (call_meets PySem.F.slot_list_mul (b7 _ a rfl) PySem.F.entry_list_mul (PySem.F.args_list_mul_2 _ _) (lm_list_mul_any e.a j.toArray n none #[] _ t (λq=>by rw[show bu.List.listFitsIndex x=true from sC i g]at q;injection q) (bl.mpr (ad c (by decide))) (by simp[bu.List.listTooLong,aF];exact CV f)) ⟨a,?_⟩)));rw[listMul_foldl_if,r];exact oT (tk:=s.toks) S (λ_ _ e=>e) (b.rep k) h (ae _)
theorem MV(O:gX H l xs)(P:gX H r ys)(hz:xs.length+ys.length<=aF)(h:Q (.ref H.length) (H++[.list (xs++ys)])):W2 w d VR H (eE .Add) (.ref l) (.ref r) Q:=λA F W s u v V S R T=>by
 refine a9 R.ref_eq λe N q=>?_;subst q;refine a9 T.ref_eq λM o t=>?_;subst t;refine a9 (S.list O N) λj a b=>?_;refine a9 (S.list P o) λc J B=>?_;have p:j.length+c.length<=aF:=by rw[b.len,B.len];exact hz
 have r:=b.append B;refine F5 (id a) λx I E n G=>?_;obtain⟨K,L,D,U⟩:=x;refine F5 (id J) λy i f n2 g=>?_;obtain⟨C,m,k,z⟩:=y;simp only at E G f g;subst E G f g;refine concat_meets (b7 _ I rfl) (b7 _ i rfl) noFill_list_add seq_list_add PySem.F.slot_list_add PySem.F.entry_list_add (PySem.F.args_list_add_2 _ _) (list_addW e.a M.a j.toArray c.toArray n n2 L m U z (by simpa using p)) (i9 I i ?_);rw[show j.toArray++c.toArray=(j++c).toArray by simp];exact oT (tk:=s.toks) S (λ_ _ e=>e) r h (ae _)
theorem wQ(j:H[c]?=some (.clk n))(k:i<=1114111)(h:∀t,n<=t->t≠0->Q (.stk (S [i]) t) (H.set c (.clk (t+1)))):j7 w d H (.bi "chr") [.int (i:Nat)] Q:=λA F p s u y x T m r=>by rw[m.bi_eq];refine i8 r.cons_eq λv q a o l=>?_;subst a;rw[l.nil_eq];refine b8 o.int_eq λt b=>?_;subst b;refine n8 (T.tick (h':=s.heap) (λ_ _ q=>q) j) λg e f=>?_;exact chr_of_range (aW _) (Int.ofNat_le.mpr k) ⟨p,_,.stk (S [i]) s.toks,.same (.refl _) rfl (ae _),f,az9 e,h _ g e⟩
end
section
variable{w:NQ}{fi:FI}{d:Nat}{m:b9}
theorem MW{b:Type}{l:List b}:∀{i:Nat}{x:b},l[i]?=some x->l.set i x=l:=by induction l with|nil=>exactλh=>by injection h|cons a l c=>intro i x h;cases i with|zero=>injection h with h;subst h;rfl|succ i=>rw[List.set_cons_succ,c h]
inductive mY:List Expr->List Nat->Prop|nil:mY [] []|cons{x:Str}{c k:Nat}{pos:Pos}{es:List Expr}{cs:List Nat}(e:x=S [c])(r:mY es cs):mY (.Constant (.str x) k pos::es) (c::cs)
structure kN(n n':Nat)(L:List (Nat×Nat)):Prop where
 le:n<=n'
 lt:∀p∈L,n<=p.2/\p.2<n'
 inj:∀p∈L,∀q∈L,p.2=q.2->p=q
theorem wR{c:Nat}{i:List Expr}{cs:List Nat}(r:mY i cs):∀{H:List O}{n:Nat}{Q:List V->List O->Prop},H[c]?=some (.clk n)->(∀L n',L.map (·.1)=cs->kN n n' L->Q (L.map l9) (H.set c (.clk n')))->B2 w fi d m H i Q:=by induction r with|nil=>intro H n Q f h;have:=h [] n rfl ⟨ae _,λ_ q=>absurd q List.not_mem_nil,λ_ q=>absurd q List.not_mem_nil⟩;rw[MW f]at this;exact d8 this|@cons _ j _ _ _ _ e r l=>
  intro H n Q f h;subst e;refine Et (IM f λt g o=>?_);refine l (au (ab.mp f).1) λL n' k T=>?_;rw[cP];refine h ((j,t)::L) n' (by rw[bN,k]) ⟨ad g (ad (aN _) T.le),λp a=>?_,λp a q b e=>?_⟩;·refine(az.mp a).elim (λq=>q▸⟨g,T.le⟩) λa=>?_;·exact⟨ad g (ad (aN _) (T.lt p a).1),(T.lt p a).2⟩
  · rcases az.mp a with rfl|a
    · rcases az.mp b with rfl|b;·rfl
      ·exact absurd (T.lt q b).1 (by rw[<-e];exact Nat.not_succ_le_self _)
    · rcases az.mp b with rfl|b;·exact absurd (T.lt p a).1 (by rw[e];exact Nat.not_succ_le_self _)
      ·exact T.inj p a q b e
end
theorem MX(w:NQ)(s:NR)(us:List NS)(B:Bs w s.heap)(a:us.length=1):BindsTo s (o9 (ao4 w.params)) ⟨us,[]⟩ ((["self","linejunk","charjunk"]:List Str).zip (us++[.none,.none])):=by obtain⟨u,rfl⟩:=W9 a;exact BindsTo.of_defaults (T:=261) (o:=aT4 w.params) (n:=0) (items:=#[.none,.none]) (by rfl) (B.k _ _ (by kernel_rfl)) (by rfl) (by rfl) (by rfl)
theorem MY(a:H[i]?=some (.inst 313 []))(h:Q .none (H.set i (.inst 313 I9))):j7 w (d+1) H (.st 268) [.ref i] Q:=by
 refine jW (ds:=[.none,.none]) (dv:=[.none,.none]) (Jo w) (by rfl) (by rfl) (λg h=>.cons rfl (.cons rfl .nil)) (λs f B c=>MX w s f B c) ?_;have e:u7 (i7 (d0 7 1)) ["self","linejunk","charjunk"] ([.ref i]++[.none,.none])=[nv "self" (.ref i),nv "linejunk" .none,nv "charjunk" .none]:=by rfl
 rw[e];refine c9 ?_;refine s4 (l4 (c9 (k7 (a7 rfl rfl (E9 (a7 rfl rfl ?_))))));refine E8 (Y1 w) (by kernel_rfl) wi a (by decide) ?_;refine c9 (k7 (a7 rfl rfl (E9 (a7 rfl rfl ?_))));have b:i<H.length:=(ab.mp a).1;refine E8 (Y1 w) (by kernel_rfl) wj (au b) (by decide) ?_;refine e7 ?_;rw[cP];exact h
theorem MZ(h:Q (.ref H.length) (H++[.inst 313 I9])):j7 w (d+2) H (.st 313) [] Q:=by refine pb (oI:=ao4 w.params) (Y1 w) (by kernel_rfl:nsIn (KW w) 312 "__init__"=some (some (.ref 268))) (by kernel_rfl) (by rfl) (MY (ao ..) ⟨rfl,?_⟩);rw[dP _ _ (ae _),Nat.sub_self];exact h
noncomputable abbrev V5(w:NQ):FI:=⟨i7 (m8 12),true,(o9 (kW w.params)).code⟩
noncomputable abbrev F4(r:Option V)(e f:Option V)(d:Option V)(x b a c:Option V):b9:=[nv "script" (.ref 0),nv "lists" (.ref 4),nv "differ" (.ref 5),("r",r),("readers",e),("states",f),("fresh",d),("x",x),("side",b),("rows",a),("told",c)]
noncomputable abbrev x5(w:NQ):O:=.fresh (dz w) (e9 (d0 7 2)) (iw 5 2 3 none none none none none none none)
noncomputable def et:List Nat:=[97,98,99,100,101,102,103,104]
noncomputable def eA:List Nat:=[112,113,98,100,101,114,104,115]
noncomputable def P7(ns:List Int):List Int:=ns++(dB 17 [5,13,21]).flatten
noncomputable def mZ(w:NQ)(ns:List Int)(n:Nat)(A B:List (Nat×Nat)):List O:=[.arr (ns.map V.int),.clk n,.list (A.map l9),.list (B.map l9),.list [.ref 2,.ref 3],.inst 313 I9,x5 w,x5 w,x5 w,.list [.ref 6,.ref 7,.ref 8],r4 w false false 11,.list [],r4 w false false 13,.list [],r4 w false false 15,.list [],.list [.ref 10,.ref 12,.ref 14],.list [.int 5,.int 13,.int 21],.list (dB 17 [V.int 5,.int 13,.int 21]).flatten,.list ((P7 ns).map V.int)]
def wS(w:NQ)(B0:List O)(i:Nat)(ys:List V)(H':List O):Prop:=i<=3/\H'=B0++(cH i).flatMap (λk=>[r4 w false false (11+2*k),.list []])/\ys=(cH i).map λk=>V.ref (10+2*k)
noncomputable def B0(w:NQ)(ns:List Int)(n2:Nat)(A B:List (Nat×Nat)):List O:=[.arr (ns.map V.int),.clk n2,.list (A.map l9),.list (B.map l9),.list [.ref 2,.ref 3],.inst 313 I9,x5 w,x5 w,x5 w,.list [.ref 6,.ref 7,.ref 8]]
theorem wT{Q:QV}(h:Q (.ref H.length) (H++[r4 w false false (H.length+1),.list []])):(H++[dO (strKind pP w) []]++[O.list []])[H.length]?=some (dO (strKind pP w) [])/\Q (.ref H.length) ((H++[dO (strKind pP w) []]++[O.list []]).set H.length (dO (strKind pP w) [("begun",.bool false),("ended",.bool false),("steps",.ref (H++[dO (strKind pP w) []]).length)])):=by refine⟨n7 (aH _ _) ao,?_⟩;rw[bz,dP _ _ (ae _),Nat.sub_self,aK];exact h
section
variable{w:NQ}{d n:Nat}{ns:List Int}{Q:QV}
theorem Na(L:ns.length<=63){Q:QF}(h:∀A B n1 n2,A.map (·.1)=et->B.map (·.1)=eA->kN n n1 A->kN n1 n2 B->B6 w (V5 w) (d+11) (F4 none (some (.ref 9)) (some (.ref 16)) (some (.int 20000)) none none none none) ([.arr (ns.map V.int),.clk n2,.list (A.map l9),.list (B.map l9),.list [.ref 2,.ref 3],.inst 313 I9,x5 w,x5 w,x5 w,.list [.ref 6,.ref 7,.ref 8],r4 w false false 11,.list [],r4 w false false 13,.list [],r4 w false false 15,.list [],.list [.ref 10,.ref 12,.ref 14]]) ((e9 (m8 12)).drop 5) Q):B6 w (V5 w) (d+11) [nv "script" (.ref 0),nn "lists",nn "differ",nn "r",nn "readers",nn "states",nn "fresh",nn "x",nn "side",nn "rows",nn "told"] [.arr (ns.map V.int),.clk n] (e9 (m8 12)) Q:=by
 refine R7 ?_;refine k7 ?_;refine B5 ?_;refine b6 ?_;refine B5 ?_;refine wR (c:=1) (n:=n) (cs:=et) (by unfold et;repeat first|exact .nil|refine .cons rfl ?_) rfl λA n1 F J=>?_;refine⟨by rw[ak,<-ak (f:=(·.1)),F];show 8<=aF;decide,?_⟩;refine b6 ?_;refine B5 ?_;refine wR (c:=1) (n:=n1) (cs:=eA) (by unfold eA;repeat first|exact .nil|refine .cons rfl ?_) rfl λB n2 G K=>?_;refine⟨by rw[ak,<-ak (f:=(·.1)),G];show 8<=aF;decide,?_⟩;refine d8 ?_;refine⟨by show 2<=aF;decide,?_⟩;refine e6 (.inr ⟨rfl,rfl⟩) ?_;refine R7 ?_;refine k7 (q6 (U4 rfl (JC _) ⟨LH _,d8 ?_⟩));refine MZ (d:=d+9) ?_;refine e6 (.inr ⟨by rfl,by rfl⟩) ?_;show B6 _ _ _ (F4 none none none none none none none none) [.arr (ns.map V.int),.clk n2,.list (A.map l9),.list (B.map l9),.list [.ref 2,.ref 3],.inst 313 I9] ((e9 (m8 12)).drop 2) Q;refine R7 ?_;refine lM ⟨by decide,by decide,by rfl,by dsimp only;decide⟩ (.inl (by rfl)) ?_ λm o=>by unfold swapsWith ca cw;rw[o];rfl
 refine q6 (K9 rfl (cv _) cy ⟨by first|exact trivial| show keepIn _ _=true;kernel_rfl,b6 (i6 (d8 (tB ?_)))⟩);refine⟨_,_,tG (n:=3) (by decide),by show 3<=aF;decide,λi b a=>i<=3/\a=[.arr (ns.map V.int),.clk n2,.list (A.map l9),.list (B.map l9),.list [.ref 2,.ref 3],.inst 313 I9]++dB i (x5 w)/\b=(cH i).map λk=>V.ref (6+k),i9 (bq _) rfl rfl,?_,?_,?_⟩;· intro i b a;refine H8 λe r s=>?_;subst r;subst s;exact⟨trivial,by rw[ak,cL];exact ae _⟩
 · intro i x b a q;refine H8 λe t u=>?_;subst t;subst u;refine e6 (.inl rfl) ?_;refine um ?_;refine o6 (pl:=λ_=>_) (Q7 rfl rfl ?_);refine j5 _ (wk (by rfl)) (vo w) ?_;refine b6 (s5 (Q7 rfl rfl (i6 ?_)));refine D6 (i:=0) (.inl (by rfl)) (by decide) (by decide) (x:=.ref 2) rfl ?_;refine b6 (s5 (Q7 rfl rfl (i6 ?_)));refine D6 (i:=1) (.inl (by rfl)) (by decide) (by decide) (x:=.ref 3) rfl ?_;refine d8 ?_;refine R8 (d:=d+10) (vn w) (by rfl) (by rfl) ?_;have p:i<3:=by have:=(ab.mp q).1;rwa[ak,cL]at this
   refine i9 p ?_ ?_;·rw[List.replicate_succ',<-bz];rfl
   ·rw[List.range_succ,bm,aK,List.length_replicate];rfl
 · intro b a;refine H8 λe v z=>?_;subst v;subst z;show B6 _ _ _ (F4 none (some (.ref 9)) none none none none none none) (B0 w ns n2 A B) ((e9 (m8 12)).drop 3) Q;refine R7 ?_;refine lM ⟨by decide,by decide,by rfl,by dsimp only;decide⟩ (.inl (by rfl)) ?_ λm o=>by unfold swapsWith ca cw;rw[o];rfl
   refine q6 (K9 rfl (cv _) cy ⟨by first|exact trivial| show keepIn _ _=true;kernel_rfl,b6 (i6 (d8 (tB ?_)))⟩);refine⟨_,_,tG (n:=3) (by decide),by show 3<=aF;decide,wS w (B0 w ns n2 A B),i9 (bq _) rfl rfl,?_,?_,?_⟩;· intro i b a;refine H8 λe C D=>?_;subst C;subst D;exact⟨trivial,by rw[ak,cL];exact ae _⟩
   · intro i x b a q;refine H8 λe E g=>?_;subst E;subst g;refine e6 (.inl rfl) ?_;refine um ?_;refine wr (by decide) (iR (iR (B5 (d8 ⟨by show 0<=aF;decide,?_⟩))));refine wT (Q:=λy H=>wS w (B0 w ns n2 A B) (i+1) ((cH i).map (λk=>V.ref (10+2*k))++[y]) H) ?_;have p:i<3:=by have:=(ab.mp q).1;rwa[ak,cL]at this
     have I:(B0 w ns n2 A B++(cH i).flatMap λk=>[r4 w false false (11+2*k),.list []]).length=10+2*i:=by rw[aK,List.length_flatMap];show 10+_=_;congr 1;show((cH i).map λ_=>2).sum=_;rw[List.map_const',List.sum_replicate_nat,cL,Nat.mul_comm]
     rw[I];refine i9 p ?_ ?_;·rw[List.range_succ,List.flatMap_append,<-bz,show 10+2*i+1=11+2*i by exact BY];rfl
     ·rw[List.range_succ,bm];rfl
   · intro b a;refine H8 λe j l=>?_;subst j;subst l;show B6 _ _ _ (F4 none (some (.ref 9)) (some (.ref 16)) none none none none none) [.arr (ns.map V.int),.clk n2,.list (A.map l9),.list (B.map l9),.list [.ref 2,.ref 3],.inst 313 I9,x5 w,x5 w,x5 w,.list [.ref 6,.ref 7,.ref 8],r4 w false false 11,.list [],r4 w false false 13,.list [],r4 w false false 15,.list [],.list [.ref 10,.ref 12,.ref 14]] ((e9 (m8 12)).drop 4) Q;refine R7 ?_;refine k7 (i6 (e6 (.inl rfl) ?_));exact h A B n1 n2 F G J K
end
section
variable{w:NQ}{d:Nat}{xs:List Int}{n k:Nat}{A B:List (Nat×Nat)}{R:Nat->Rs}{T:Nat->Nat}{H H':List O}
theorem s8.lt(h:s8 w d xs n k A B R T H):∀x∈[1,2,3,4,5,9,16,19],x<H.length:=λx a=>by
 have:=(ab.mp h.hx).1;have:x<=19:=by simp at a;exact BZ a
 exact B1 (by assumption) this
theorem s8.skip(h:s8 w d xs n k A B R T H):s8 w d xs n (k+1) A B R T H:=⟨h.c,h.big,h.ld.up (ae _) (aN _),h.ha,h.hb,h.hl,h.hd,h.hr,h.hs,h.hx,h.rd,h.t0,h.ti,h.ts,h.tl,h.yy⟩
theorem s8.edit(h:s8 w d xs n k A B R T H)(f:Ed (if sd=true then B else A) A' (20001+k) t)(g:n<=n')(j:(20001+k,t)∈A'->n<=t/\t<n')(l:2<=A'.length/\A'.length<=8)(e:H.length<=H'.length)(c:H'[1]?=some (.clk n'))(i:H'[t6 2 3 sd]?=some (.list (A'.map l9)))(kp:∀x,x≠1->x≠t6 2 3 sd->H'[x]?=H[x]?)(ny:iq H H'):∃p r,s8 w d xs n' (k+1) p r R T H':=by
 have o:∀x,T x≠0->H'[x]?=H[x]?:=λx m=>kp x (λq=>m (q▸h.t0 1 (by decide))) λq=>m (by
  rw[q];cases sd;·exact h.t0 2 (by decide)
  ·exact h.t0 3 (by decide));cases sd with|false=>exact⟨A',B,c,aB h.big g,h.ld.ed f g j h.big l,i,(kp 3 (by decide) (by decide)).trans h.hb,(kp 4 (by decide) (by decide)).trans h.hl,(kp 5 (by decide) (by decide)).trans h.hd,(kp 9 (by decide) (by decide)).trans h.hr,(kp 16 (by decide) (by decide)).trans h.hs,(kp 19 (by decide) (by decide)).trans h.hx,h.rds e o λa b q=>q.ed h.ld f,h.t0,h.ti,h.ts,h.tl,λk q=>h.yy k (ny k q)⟩|true=>exact⟨A,A',c,aB h.big g,(h.ld.symm.ed f g j h.big l).symm,(kp 2 (by decide) (by decide)).trans h.ha,i,(kp 4 (by decide) (by decide)).trans h.hl,(kp 5 (by decide) (by decide)).trans h.hd,(kp 9 (by decide) (by decide)).trans h.hr,(kp 16 (by decide) (by decide)).trans h.hs,(kp 19 (by decide) (by decide)).trans h.hx,h.rds e o λa b q=>(q.symm.ed h.ld.symm f).symm,h.t0,h.ti,h.ts,h.tl,λk q=>h.yy k (ny k q)⟩
end
noncomputable def V6(s:NW):List NW:=vS s
noncomputable def iB:List NW:=C7 (r6 5 (e9 (m8 12)))
noncomputable def jB(i:Nat):List NW:=match i with|0=>C7 (r6 3 iB)|1=>C7 (r6 0 (V6 (r6 3 iB)))|2=>C7 (r6 0 (V6 (r6 0 (V6 (r6 3 iB)))))|3=>C7 (r6 0 (V6 (r6 0 (V6 (r6 0 (V6 (r6 3 iB)))))))|_=>V6 (r6 0 (V6 (r6 0 (V6 (r6 0 (V6 (r6 3 iB)))))))
section
variable{w:NQ}{d:Nat}{xs:List Int}{n k:Nat}{A B:List (Nat×Nat)}{R:Nat->Rs}{T:Nat->Nat}{H:List O}{sd:Bool}{x:Int}{r:Nat}{told:Option V}
theorem s8.side(h:s8 w d xs n k A B R T H)(sd:Bool):∃Z,Z=(if sd=true then B else A)/\H[t6 2 3 sd]?=some (.list (Z.map l9))/\2<=Z.length/\Z.length<=8/\∀(j:Nat)(x:Nat×Nat),Z[j]?=some x->x.1<20001+k:=by cases sd with|false=>exact lj A rfl h.ha h.ld.la.1 h.ld.la.2 λj x q=>(h.ld.tk x (bB _ (aY q))).2 |true=>exact lj B rfl h.hb h.ld.lb.1 h.ld.lb.2 λj x q=>(h.ld.tk x (bD _ (aY q))).2
theorem Nb(h:s8 w (d+8) xs n k A B R T H)(v:k<=1000)(s:∀n' A' o H',s8 w (d+8) xs n' (k+1) A' o R T H'->Q .next (F4 (some (.int (r:Nat))) (some (.ref 9)) (some (.ref 16)) (some (.int ((20001+k:Nat)))) (some (.int x)) (some (.int (w8 sd))) (some (.ref (t6 2 3 sd))) told) H'):WB w (V5 w) (d+11) (F4 (some (.int (r:Nat))) (some (.ref 9)) (some (.ref 16)) (some (.int ((20001+k:Nat)))) (some (.int x)) (some (.int (w8 sd))) (some (.ref (t6 2 3 sd))) told) H (jB 0) Q:=by
 refine ai1 (h.side sd) λZ p u e f b=>?_;refine c9 ?_;refine k7 (q6 (B3 rfl (vx _) vy ⟨by first|exact trivial| show keepIn _ _=true;kernel_rfl,b6 (a7 rfl rfl (d8 ?_))⟩));refine wQ h.c (by exact sF v) λt i F=>?_;have n1:1≠t6 2 3 sd:=by cases sd<;>decide
 have a:(H.set 1 (.clk (t+1)))[t6 2 3 sd]?=some (.list (Z.map l9)):=(ag n1).trans u;refine U5 (a7 rfl rfl (l0 (l0 (a7 rfl rfl (i6 (oO (by decide) (PyProof.noPylong_of_log2 (by decide+kernel)) (q6 (B3 rfl (G4 _) G5 ⟨by first|exact trivial| show keepIn _ _=true;kernel_rfl,b6 (a7 rfl rfl (d8 ?_))⟩))))))));refine R1 (.inl a) (by rw[ak];exact ad f (by decide)) ?_;rw[ak];have C:(Z.length:Int)≠0:=Db e;have m:(0:Int)<Z.length:=sL e;refine gW C ?_;have l:=Int.fmod_nonneg_of_pos (x.fdiv 16) m;have c:=Int.fmod_lt_of_pos (x.fdiv 16) m;generalize(x.fdiv 16).fmod (Z.length:Int)=j at l c⊢;refine oR a l (Dc f c) (by rw[ak];exact c) ?_;refine e7 ?_;have g:=(ab.mp a).1;refine z9 (h.edit (H':=(H.set 1 (.clk (t+1))).set (t6 2 3 sd) (.list ((Z.map l9).set j.toNat (.stk (S [20001+k]) t)))) (sd:=sd) (A':=Z.set j.toNat (20001+k,t)) (t:=t) (n':=t+1) (by rw[<-p];exact Ed.set b) (bW i) (λ_=>⟨i,ch _⟩) (by rw[ax];exact⟨e,f⟩) (by rw[ax,ax];exact ae _) (by rw[ag (bg n1),au (h.lt 1 (by decide))]) (by rw[au g,List.map_set];rfl) λx y z=>by rw[ag (bg z),ag (bg y)] λx q=>q.of_set.elim (λq=>by injection q.2) λq=>q.of_set.elim (λq=>by injection q.2) id) λD E L=>?_;exact s _ _ _ _ L
theorem Nc(h:s8 w (d+8) xs n k A B R T H)(e:∀n' A' g H',s8 w (d+8) xs n' (k+1) A' g R T H'->Q .next (F4 (some (.int (r:Nat))) (some (.ref 9)) (some (.ref 16)) (some (.int ((20001+k:Nat)))) (some (.int x)) (some (.int (w8 sd))) (some (.ref (t6 2 3 sd))) told) H'):WB w (V5 w) (d+11) (F4 (some (.int (r:Nat))) (some (.ref 9)) (some (.ref 16)) (some (.int ((20001+k:Nat)))) (some (.int x)) (some (.int (w8 sd))) (some (.ref (t6 2 3 sd))) told) H (jB 1) Q:=by
 refine ai1 (h.side sd) λZ i a s c b=>?_;refine c9 ?_;refine o5 (j6 (q6 (B3 rfl (G4 _) G5 ⟨by first|exact trivial| show keepIn _ _=true;kernel_rfl,b6 (a7 rfl rfl (d8 ?_))⟩)));refine R1 (.inl a) (by rw[ak];exact ad c (by decide)) ?_;rw[ak];refine i6 (W7 (g9 ?_));by_cases h2:2<Z.length
 · refine s6 (decide_eq_true (aQ.mpr h2)) ?_;refine c9 (s4 (o6 (pl:=λ_=>_) (a7 rfl rfl ?_)));obtain⟨Y,z,rfl⟩:∃Y z,Z=Y++[z]:=⟨Z.dropLast,_,(List.dropLast_concat_getLast λq=>by rw[q]at h2;cases h2).symm⟩;rw[bm]at a;refine j5 _ (lX (id:="list.pop") PySem.F.slot_list_pop PySem.F.type_list_pop a) trivial ?_;rw[aK,List.length_singleton]at h2 c;refine d8 ?_;refine vb a (by rw[ak];exact aB (Nat.lt_of_succ_le c) (by decide)) ?_;refine e7 (e7 ?_);have n1:1≠t6 2 3 sd:=by cases sd<;>decide
   refine z9 (h.edit (H':=H.set (t6 2 3 sd) (.list (Y.map l9))) (sd:=sd) (A':=Y) (t:=n) (n':=n) (by rw[<-i];exact Ed.pop b rfl) (ae _) (λq=>by refine b8 (gu q) λj f=>?_;exact absurd (b j _ (by rw[aI (ab.mp f).1];exact f)) (Nat.lt_irrefl _)) ⟨Nat.le_of_lt_succ h2,Nat.le_of_succ_le c⟩ (by rw[ax];exact ae _) (by rw[ag (bg n1)];exact h.c) (by rw[au (ab.mp a).1]) λx p l=>by rw[ag (bg l)] λx q=>q.of_set.elim (λq=>by injection q.2) id) λm o L=>?_;exact e _ _ _ _ L
 ·refine n5 (λz=>h2 (aQ.mp (of_decide_eq_true z))) ?_;refine e7 (e7 ?_);exact e _ _ _ _ h.skip
theorem Nd(h:s8 w (d+8) xs n k A B R T H)(m:k<=1000)(g:∀n' A' j H',s8 w (d+8) xs n' (k+1) A' j R T H'->Q .next (F4 (some (.int (r:Nat))) (some (.ref 9)) (some (.ref 16)) (some (.int ((20001+k:Nat)))) (some (.int x)) (some (.int (w8 sd))) (some (.ref (t6 2 3 sd))) told) H'):WB w (V5 w) (d+11) (F4 (some (.int (r:Nat))) (some (.ref 9)) (some (.ref 16)) (some (.int ((20001+k:Nat)))) (some (.int x)) (some (.int (w8 sd))) (some (.ref (t6 2 3 sd))) told) H (jB 2) Q:=by
 refine ai1 (h.side sd) λZ l b s i c=>?_;refine c9 ?_;refine o5 (j6 (q6 (B3 rfl (G4 _) G5 ⟨by first|exact trivial| show keepIn _ _=true;kernel_rfl,b6 (a7 rfl rfl (d8 ?_))⟩)));refine R1 (.inl b) (by rw[ak];exact ad i (by decide)) ?_;rw[ak];refine i6 (D4 (g9 ?_));by_cases h2:Z.length<8
 · refine s6 (decide_eq_true (aQ.mpr h2)) ?_;refine c9 (s4 (o6 (pl:=λ_=>_) (a7 rfl rfl ?_)));refine j5 _ (O5 b) trivial ?_;refine b6 (q6 (B3 rfl (vx _) vy ⟨by first|exact trivial| show keepIn _ _=true;kernel_rfl,b6 (a7 rfl rfl (d8 ?_))⟩));refine wQ h.c (by exact sF m) λt f _=>?_;have n1:1≠t6 2 3 sd:=by cases sd<;>decide
   have a:(H.set 1 (.clk (t+1)))[t6 2 3 sd]?=some (.list (Z.map l9)):=(ag n1).trans b;refine d8 ?_;refine O4 a (by rw[ak];exact ad i (by decide)) ?_;refine e7 (e7 ?_);have e:=(ab.mp a).1;refine z9 (h.edit (H':=(H.set 1 (.clk (t+1))).set (t6 2 3 sd) (.list (Z.map l9++[.stk (S [20001+k]) t]))) (sd:=sd) (A':=Z++[(20001+k,t)]) (t:=t) (n':=t+1) (by rw[<-l];exact Ed.app c) (bW f) (λ_=>⟨f,ch _⟩) (by rw[aK];exact⟨Nat.le_add_right_of_le s,h2⟩) (by rw[ax,ax];exact ae _) (by rw[ag (bg n1),au (h.lt 1 (by decide))]) (by rw[au e,bm];rfl) λx o p=>by rw[ag (bg p),ag (bg o)] λx q=>q.of_set.elim (λq=>by injection q.2) λq=>q.of_set.elim (λq=>by injection q.2) id) λu v L=>?_;exact g _ _ _ _ L
 ·refine n5 (λz=>h2 (aQ.mp (of_decide_eq_true z))) ?_;refine e7 (e7 ?_);exact g _ _ _ _ h.skip
end
theorem m0{a:Type}(f:Nat->a)(h:r<3):[f 0,f 1,f 2][r]?=some (f r):=by
 rcases r with _|_|_|r;·rfl
 ·rfl
 ·rfl
 ·exact absurd h (bl.mpr (Nat.le_add_left 3 r))
theorem wU(f:Nat->V)(x:V)(h:r<3):[f 0,f 1,f 2].set r x=[if 0=r then x else f 0,if 1=r then x else f 1,if 2=r then x else f 2]:=by
 rcases r with _|_|_|r;·rfl
 ·rfl
 ·rfl
 ·exact absurd h (bl.mpr (Nat.le_add_left 3 r))
section
variable{w:NQ}{d:Nat}{xs:List Int}{n k:Nat}{A B:List (Nat×Nat)}{R:Nat->Rs}{T:Nat->Nat}{H H':List O}{sd:Bool}{x:Int}{r:Nat}{told:Option V}
noncomputable def K7(R:Nat->Rs)(r:Nat)(q:Rs):Nat->Rs:=λj=>if j=r then q else R j
theorem iC{q:Rs}:K7 R r q r=q:=if_pos rfl
theorem iD{q:Rs}{j:Nat}(h:j≠r):K7 R r q j=R j:=if_neg h
theorem jC{q:Rs}{j:Nat}:V.ref (K7 R r q j).i=if j=r then .ref q.i else .ref (R j).i:=by unfold K7;split<;>rfl
theorem jD{q:Rs}{j:Nat}:V.ref (K7 R r q j).s=if j=r then .ref q.s else .ref (R j).s:=by unfold K7;split<;>rfl
theorem s8.turn(h:s8 w d xs n k A B R T H)(o:r<3){q:Rs}{y:Nat->Nat}(I:Rd w d A B H' q)(C:H.length<=H'.length)(D:∀x,x<H.length->y x=T x)(M:∀x∈q.own,y x=1+r)(u:y q.s=4+r)(p:y q.l=7+r)(J:H'[9]?=some (.list [.ref (K7 R r q 0).i,.ref (K7 R r q 1).i,.ref (K7 R r q 2).i]))(K:H'[16]?=some (.list [.ref (K7 R r q 0).s,.ref (K7 R r q 1).s,.ref (K7 R r q 2).s]))(kp:∀x,x<H.length->x≠9->x≠16->T x≠1+r->T x≠4+r->T x≠7+r->H'[x]?=H[x]?)(N:∀x,YY H' x-> x∈q.own/\q.e=false \/ YY H x/\(x∉(R r).own\/(R r).e=true)):s8 w d xs n (k+1) A B (K7 R r q) y H':=by
 have v:∀x∈[1,2,3,4,5,19],H'[x]?=H[x]?:=λx g=>by
  have m:x∈[1,2,3,4,5,9,16,19]:=by simp at g⊢;exact Ca g
  have t:=h.t0 x m;exact kp x (h.lt x m) (by simp at g;exact Cb g) (by simp at g;exact Cc g) (by exact Cd o u p t) (by exact Ce o u p t) (by exact Cf o u p t)
 refine⟨(v 1 (by decide)).trans h.c,h.big,h.ld.up (ae _) (aN _),(v 2 (by decide)).trans h.ha,(v 3 (by decide)).trans h.hb,(v 4 (by decide)).trans h.hl,(v 5 (by decide)).trans h.hd,J,K,(v 19 (by decide)).trans h.hx,λj f=>?_,λx g=>(D x (h.lt x g)).trans (h.t0 x g),λj f=>?_,λj f=>?_,λj f=>?_,λx g=>?_⟩
 · by_cases e:j=r;·rw[e,iC];exact I
   ·rw[iD e];have E:=h.rd j f;have L:=h.t0 9 (by decide);have F:=h.t0 16 (by decide);refine E.kp C (λx g=>?_) λa b q=>q;have c:T x=1+j\/T x=4+j\/T x=7+j:=g.imp (λq=>h.ti j f x q) λ(q:x=_\/x=_)=>q.imp (λ(q:x=_)=>q▸h.ts j f) λ(q:x=_)=>q▸h.tl j f;have l:x<H.length:=g.elim (λq=>E.own_lt x q) λq=>q.elim (λq=>q▸(ab.mp E.s).1) λq=>q▸(ab.mp E.l).1;exact kp x l (λq=>by rw[q]at c;exact sG f L c) (λq=>by rw[q]at c;exact sG f F c) (by exact Cg o u p f e c) (by exact Ch o u p f e c) (by exact Ci o u p f e c)
 · by_cases e:j=r;·rw[e,iC];exact M
   ·rw[iD e];exactλx g=>(D x ((h.rd j f).own_lt x g)).trans (h.ti j f x g)
 · by_cases e:j=r;·rw[e,iC];exact u
   ·rw[iD e];exact(D _ (ab.mp (h.rd j f).s).1).trans (h.ts j f)
 · by_cases e:j=r;·rw[e,iC];exact p
   ·rw[iD e];exact(D _ (ab.mp (h.rd j f).l).1).trans (h.tl j f)
 · rcases N x g with z|z;·exact j5 r o (by rw[iC];exact z.1) (by rw[iC];exact z.2)
   · refine m9 (h.yy x z.1) λj f m e=>?_;have G:j≠r:=λq=>by rw[q]at m e;exact z.2.elim (λz=>z m) λz=>by exact nomatch e.symm.trans z
     exact j5 j f (by rw[iD G];exact m) (by rw[iD G];exact e)
theorem Nf{Q:QF}(h:s8 w (d+8) xs n k A B R T H)(p:r<3)(S:∀Z T' H',s8 w (d+8) xs n (k+1) A B Z T' H'->Q .next (F4 (some (.int (r:Nat))) (some (.ref 9)) (some (.ref 16)) (some (.int ((20001+k:Nat)))) (some (.int x)) (some (.int (w8 sd))) (some (.ref (t6 2 3 sd))) told) H'):WB w (V5 w) (d+11) (F4 (some (.int (r:Nat))) (some (.ref 9)) (some (.ref 16)) (some (.int ((20001+k:Nat)))) (some (.int x)) (some (.int (w8 sd))) (some (.ref (t6 2 3 sd))) told) H (jB 3) Q:=by
 have z:(r:Int)<2^62:=sK p;have rd:=h.rd r p;refine c9 ?_;refine o5 (I5 (s5 (s5 (a7 rfl rfl (a7 rfl rfl ?_)))));refine D6 (.inl h.hs) (aW r) z (x:=.ref (R r).s) (m0 (λj=>V.ref (R j).s) p) ?_;refine l4 ?_;refine mn I7 rd.s (v:=.bool (R r).e) (by rfl) ?_;refine g9 ?_;by_cases he:(R r).e=true
 · refine s6 he ?_;refine c9 (k7 (o6 (pl:=λ_=>_) (Q7 rfl rfl ?_)));refine j5 _ (wk h.hd) (vo w) ?_;refine b6 (s5 (Q7 rfl rfl (i6 ?_)));refine D6 (i:=0) (.inl h.hl) (by decide) (by decide) (x:=.ref 2) rfl ?_;refine b6 (s5 (Q7 rfl rfl (i6 ?_)));refine D6 (i:=1) (.inl h.hl) (by decide) (by decide) (x:=.ref 3) rfl ?_;refine d8 ?_;refine R8 (d:=d+10) (vn w) (by rfl) (by rfl) ?_;refine show lP _ _ _ _ _ _ (V.ref H.length) (H++[x5 w])from ?_;refine U5 (a7 rfl rfl (a7 rfl rfl ?_));have P:=h.lt 9 (by decide);have a:=h.lt 16 (by decide);refine oR (l:=9) (xs:=[V.ref (R 0).i,V.ref (R 1).i,V.ref (R 2).i]) ((aI P).trans h.hr) (aW r) z (oa p) ?_;rw[cq,wU (λj=>V.ref (R j).i) _ p];have C:(H++[x5 w]).length=H.length+1:=by rw[aK];rfl
   have M:(H++[x5 w])[H.length]?=some (x5 w):=ao;have W:∀x,x<H.length->(H++[x5 w])[x]?=H[x]?:=λx b=>aI b;generalize F:[if 0=r then V.ref H.length else(λj=>V.ref (R j).i) 0,if 1=r then V.ref H.length else(λj=>V.ref (R j).i) 1,if 2=r then V.ref H.length else(λj=>V.ref (R j).i) 2]=g;have c:((H++[x5 w]).set 9 (.list g)).length=H.length+1:=ax.trans C;have G:((H++[x5 w]).set 9 (.list g))[H.length]?=some (x5 w):=(ag (aP P)).trans M;have J:∀x,x<H.length->x≠9->((H++[x5 w]).set 9 (.list g))[x]?=H[x]?:=λx b y=>(ag (bg y)).trans (W x b);have n2:iq H ((H++[x5 w]).set 9 (.list g)):=λx q=>q.of_set.elim (λq=>nomatch q.2) λq=>q.of_app rfl;have L:((H++[x5 w]).set 9 (.list g))[9]?=some (.list g):=au (by rw[C];exact Cj a C c);refine show KM _ _ () ((H++[x5 w]).set 9 (.list g))from ?_;generalize(H++[x5 w]).set 9 (.list g)=f at c G J L n2⊢;clear C M W;refine c9 (k7 ?_);refine wr (by decide) (iR (iR (B5 (d8 ⟨by show 0<=aF;decide,?_⟩))));refine wT (Q:=lP _ _ _ _ _ _) ?_;rw[c];have m:(f++[r4 w false false (H.length+1+1),.list []]).length=H.length+3:=by rw[aK,c];rfl
   have N:(f++[r4 w false false (H.length+1+1),.list []])[H.length]?=some (x5 w):=(aI (by exact su c)).trans G;have Y:(f++[r4 w false false (H.length+1+1),.list []])[H.length+1]?=some (r4 w false false (H.length+1+1)):=by rw[<-c,List.getElem?_append_right (ae _),Nat.sub_self];rfl
   have U:(f++[r4 w false false (H.length+1+1),.list []])[H.length+2]?=some (.list []):=by rw[show H.length+2=f.length+1 by exact Ck c,List.getElem?_append_right (aN _),Nat.succ_sub (ae _),Nat.sub_self];rfl
   have K:∀x,x<H.length->x≠9->(f++[r4 w false false (H.length+1+1),.list []])[x]?=H[x]?:=λx b y=>(aI (by exact Cl c m b)).trans (J x b y);have n3:iq H (f++[r4 w false false (H.length+1+1),.list []]):=λx q=>n2 x (by rw[List.append_cons]at q;exact(q.of_app rfl).of_app rfl);have X:(f++[r4 w false false (H.length+1+1),.list []])[9]?=some (.list g):=(aI (by exact Cm a c m)).trans L;generalize f++[r4 w false false (H.length+1+1),.list []]=E at m N Y U K X n3⊢;clear c G J L;refine U5 (a7 rfl rfl (a7 rfl rfl ?_));refine oR (l:=16) (xs:=[V.ref (R 0).s,V.ref (R 1).s,V.ref (R 2).s]) ((K 16 a (by decide)).trans h.hs) (aW r) z (oa p) ?_;rw[cq,wU (λj=>V.ref (R j).s) _ p];refine e7 (e7 ?_);generalize u:[if 0=r then V.ref (H.length+1)else(λj=>V.ref (R j).s) 0,if 1=r then V.ref (H.length+1)else(λj=>V.ref (R j).s) 1,if 2=r then V.ref (H.length+1)else(λj=>V.ref (R j).s) 2]=t;have D:∀{x:Nat}{o:O},x≠16->E[x]?=some o->(E.set 16 (.list t))[x]?=some o:=λb e=>(ag (bg b)).trans e;have q:s8 w (d+8) xs n (k+1) A B (K7 R r ⟨false,false,H.length,H.length+1,H.length+2,[H.length],[]⟩) (λx=>if x<H.length then T x else if x=H.length then 1+r else if x=H.length+1 then 4+r else 7+r) (E.set 16 (.list t)):=by
    refine h.turn p ⟨D (x:=H.length+1) (by exact Cn a m) Y,D (x:=H.length+2) (by exact Co a m) U,bq _,(λq=>nomatch q),(λ_ q=>nomatch q),.fresh rfl (D (x:=H.length) (by exact Cp a m) N) rfl⟩ (by rw[ax,m];exact yY) (λx b=>if_pos b) (λx b=>?_) ?_ ?_ (D (by decide) ?_) ?_ (λx b y I _ _ _=>?_) λx q=>.inr ⟨n3 x (q.of_set.elim (λq=>nomatch q.2) id),.inr he⟩;·rw[af.mp b];exact(if_neg (Nat.lt_irrefl _)).trans (if_pos rfl)
    ·exact(if_neg (by show¬H.length+1<H.length;exact Cq)).trans ((if_neg (by show¬H.length+1=H.length;exact Cr)).trans (if_pos rfl))
    ·exact(if_neg (by show¬H.length+2<H.length;exact Cs)).trans ((if_neg (by show¬H.length+2=H.length;exact Ct)).trans (if_neg (by show¬H.length+2=H.length+1;exact Cu)))
    ·rw[jC,jC,jC];exact X.trans (by rw[<-F])
    ·rw[jD,jD,jD,au (by exact Cv a m)];rw[<-u]
    ·rw[ag (bg I)];exact K x b y
   exact S _ _ _ q
 ·refine n5 he ?_;refine e7 (e7 ?_);exact S _ _ _ h.skip
end
section
variable{w:NQ}{d:Nat}{xs:List Int}{n k:Nat}{A B:List (Nat×Nat)}{R:Nat->Rs}{T:Nat->Nat}{H H':List O}{sd:Bool}{x:Int}{r:Nat}{told:Option V}
theorem s8.ls(h:s8 w d xs n k A B R T H)(f:N2 a b A B):Ls (eh a b) 5 2 3 (A.map m5) (B.map m5) H:=by have c:∀{L:List (Nat×Nat)},L.length<=8->(L.map m5).length<=1000/\∀p∈L.map m5,p.1.length<=1000:=λi=>⟨by rw[ak];exact ad i (by decide),λp g=>by refine a9 (bp.mp g) λq _ e=>?_;subst e;rw[R3];show 1<=1000;decide⟩;exact⟨h.hd,by exact kK▸h.ha,by exact kK▸h.hb,c h.ld.la.2,c h.ld.lb.2,h.ld.pab f⟩
noncomputable def C8(A B:List (Nat×Nat))(q:Rs):List r5:=if q.b=true then q.L else qD A B
theorem Ng(h:s8 w (d+8) xs n k A B R T H)(f:r<3):∃a b,N2 a b A B/\F0 w (d+8) H (R r).i (BQ (eh a b) w (d+8) 5 2 3 (R r).i (C8 A B (R r)) (R r).own (A.map m5) (B.map m5) H):=by
 have m:=h.rd r f;rcases m.g with⟨b,g,o⟩|⟨x,y,b,n,g⟩
 · refine G7 _ _ N2.self ?_;have j:∀c∈[1,2,3,4,5,9,16,19],(R r).i≠c:=λc s q=>by have l:=h.ti r f _ m.own_i;rw[q,h.t0 c s]at l;exact sH f l
   have e:C8 A B (R r)=qD A B:=by unfold C8;rw[b];rfl
   rw[e,o];exact Ms (d:=d) g (h.ls N2.self) h.ld.ro (wC _ 0 rfl) (ad h.ld.la.2 (by decide)) (ad h.ld.lb.2 (by decide)) (i9 (j 5 (by decide)) (j 2 (by decide)) (j 3 (by decide))) λp H' q=>q
 · refine G7 x y n ?_;have e:C8 A B (R r)=(R r).L:=by unfold C8;rw[b];rfl
   exact e▸(o7.iff.mp g).2 _ _ H Kp.refl (h.ls n)
def wV(v:V):D9->Prop|.txt y=>v=.str y|.nothing=>v=.none|.err X a=>X="IndexError"/\a=some eIx/\v=.str (aa "IndexError "++eIx)
structure qF(P:E3)(w:NQ)(d i:Nat)(own:List Nat)(L₀ L:List r5)(H H':List O):Prop where
 fr:Fr own H H'
 ex:∃own',((∀k∈own',k∈own\/H.length<=k)/\Yf own own' H H'/\(L₀=[]->Yf own [] H H'))/\o7 P w d 5 2 3 i L own' H'
theorem o7.done(a:H[i]?=some .done)(e:i≠5/\i≠2/\i≠3):o7 P w d 5 2 3 i [] [i] H:=by
 refine o7.iff.mpr ⟨⟨.head _,λk b=>?_,?_⟩,λA B H' c l=>Gv ((c.2 i (.head _)).trans a) (j8 rfl Fr.refl ((c.2 i (.head _)).trans a) (Yf.refl.out λk b=>.inr (af.mp b▸B8 ((c.2 i (.head _)).trans a) rfl)))⟩;·exact af.mp b▸(ab.mp a).1
 ·simp[e.1.symm,e.2.1.symm,e.2.2.symm]
theorem Nh(u:i∈own)(C:i≠5/\i≠2/\i≠3)(h:BQ P w d 5 2 3 i L own (A.map m5) (B.map m5) H ans H'):wV (T7 A B L) ans/\qF P w d i own L (V4 A B L) H H':=by have p:∀{a:D9}{L₀},iu a i own H ans H'->ans=a/\qF P w d i own L₀ [] H H':=λ⟨e,f,g,y⟩=>⟨e,f,[i],i9 (λk v=>.inl (by exact af.mp v▸u)) (y.out λ_ q=>absurd q List.not_mem_nil) λ_=>y,o7.done g C⟩;cases L with|nil=> refine d7 (p (L₀:=[]) h) λc l=>?_;subst c;exact⟨rfl,l⟩|cons s L=>unfold BQ at h;dsimp only at h;show wV (iz _) ans/\qF P w d i own (s::L) (iA L _) H H';cases e:y9 (A.map m5) (B.map m5) s with|none=>rw[e]at h;refine d7 (p (L₀:=s::L) h) λj l=>?_;subst j;exact⟨i9 rfl rfl rfl,l⟩|some y=>
   rw[e]at h;refine Z5 h λm f _ b o t=>?_;try clear h;subst m;obtain⟨z,hy⟩:=o
   exact⟨rfl,f,b,i9 z hy λq=>by injection q,t⟩
theorem Ni:T7 A B L=.none\/∃x,T7 A B L=.str x:=by cases L with|nil=>exact .inl rfl|cons s L=>show iz _=_\/∃x,iz _=_;cases y9 (A.map m5) (B.map m5) s with|none=>exact .inr ⟨_,rfl⟩|some y=>exact .inr ⟨_,rfl⟩
theorem Nj(a:v=.none\/∃x,v=.str x)(h:Q (.bool false) H):W2 w d VR H (cD .NotEq) v v Q:=by
 rcases a with rfl|⟨x,rfl⟩;·exact tD (k:=1) (by decide) EU h
 ·exact aJ4 (by rw[bne_self_eq_false];exact h)
theorem Nk:K2 (T7 A B L)=some L.isEmpty:=by cases L with|nil=>rfl|cons s L=>show K2 (iz _)=some false;cases y9 (A.map m5) (B.map m5) s<;>rfl
theorem Fr.eq(f:Fr own H H')(a:c<H.length)(b:c∉own):H'[c]?=H[c]?:=by exact aw a▸f.2 c _ b (aw a)
theorem Nl:(V4 A B L).length<=L.length/\∀s∈V4 A B L,s∈L:=by cases L with|nil=>exact⟨ae _,λs q=>q⟩|cons s L=>show(iA L _).length<=_/\∀z∈iA L _,_;cases y9 (A.map m5) (B.map m5) s with|none=>exact⟨bq _,λs q=>absurd q List.not_mem_nil⟩|some y=>exact⟨aN _,λs q=>.tail _ q⟩
noncomputable def eB(q:Rs):Nat:=if q.e=true then 0 else if q.b=true then q.L.length+1 else 17
def qG(R a:Nat->Rs)(r:Nat):Prop:=(∀j,j≠r->a j=R j)/\eB (a r)<=eB (R r)-1
theorem Nm(h:s8 w (d+8) xs n k A B R T H)(f:r<3)(hQ:∀R' T' H' told,s8 w (d+8) xs n (k+1) A B R' T' H'->qG R R' r->Q .next (F4 (some (.int (r:Nat))) (some (.ref 9)) (some (.ref 16)) (some (.int ((20001+k:Nat)))) (some (.int x)) (some (.int (w8 sd))) (some (.ref (t6 2 3 sd))) told) H'):B6 w (V5 w) (d+11) (F4 (some (.int (r:Nat))) (some (.ref 9)) (some (.ref 16)) (some (.int ((20001+k:Nat)))) (some (.int x)) (some (.int (w8 sd))) (some (.ref (t6 2 3 sd))) told) H (jB 4) Q:=by
 have z:(r:Int)<2^62:=sK f;have D:=h.rd r f;refine t8 (Ng h f) λa b n2 P=>?_;have ni:∀c∈[1,2,3,4,5,9,16,19],(R r).i≠c:=λc g q=>by have p:=h.ti r f _ D.own_i;rw[q,h.t0 c g]at p;exact sH f p
 refine hM (Fw (.inl (by rfl)) (GP (a:=336) (by show keepIn _ _=true;kernel_rfl) ?_));refine U4 rfl (JB _) ?_;refine⟨rfl,?_⟩;refine b6 (s5 (a7 rfl rfl (a7 rfl rfl ?_)));refine D6 (.inl h.hr) (aW r) z (x:=.ref (R r).i) (m0 (λj=>V.ref (R j).i) f) ?_;refine d8 ?_;refine My (d:=d+8) ((Gw P).mono λa4 I q=>?_);refine d7 (Nh D.own_i (i9 (ni 5 (by decide)) (ni 2 (by decide)) (ni 3 (by decide))) q) λv lf=>?_;suffices fin:B6 w (V5 w) (d+11) (F4 (some (.int (r:Nat))) (some (.ref 9)) (some (.ref 16)) (some (.int ((20001+k:Nat)))) (some (.int x)) (some (.int (w8 sd))) (some (.ref (t6 2 3 sd))) (some (T7 A B (C8 A B (R r))))) I ((jB 4).drop 1) Q by cases a4 with|txt y=>have v:T7 A B (C8 A B (R r))=.str y:=v;rw[v]at fin;exact fin|nothing=>have v:T7 A B (C8 A B (R r))=.none:=v;rw[v]at fin;exact fin|err X msg=> refine n8 v λe1 e2 v=>?_;rw[v]at fin;exact i9 e1 e2 fin
 clear P q v;obtain⟨F,a3⟩:=lf;refine a9 a3 λa2 b0 G=>?_;clear a3;obtain⟨ho,yo,yn⟩:=b0;have N:∀c,T c≠1+r->∀{o:O},H[c]?=some o->I[c]?=some o:=λc g o e=>F.2 c o (λq=>g (h.ti r f c q)) e;have K:∀c∈[1,2,3,4,5,9,16,19],∀{o:O},H[c]?=some o->I[c]?=some o:=λc g o e=>N c (by exact h.t0 c g▸Cw f) e;have s1:=N _ (by exact h.ts r f▸Cx) D.s;have l1:=N _ (by exact h.tl r f▸Cy) D.l;have hL:(C8 A B (R r)).length<=16/\∀s∈C8 A B (R r),P6 s:=by
  unfold C8;split;·exact⟨D.z,D.t⟩
  ·exact⟨wP h.ld.ro h.ld.la.2 h.ld.lb.2,λs q=>MR s q⟩
 have u:∀c∈[1,2,3,4,5,9,16,19],(R r).s≠c/\(R r).l≠c:=λc g=>⟨λq=>by have p:=h.ts r f;rw[q,h.t0 c g]at p;exact Cz f p,λq=>by have p:=h.tl r f;rw[q,h.t0 c g]at p;exact CA f p⟩;have a1:(R r).s≠(R r).l:=λq=>by have p:=h.ts r f;rw[q,h.tl r f]at p;exact CB p
 refine R7 ?_;refine o5 (j6 (a7 rfl rfl (q6 (U4 rfl (JA _) ⟨Jw _,b6 (s5 (a7 rfl rfl (a7 rfl rfl ?_)))⟩))));refine D6 (.inl (K 16 (by decide) h.hs)) (aW r) z (x:=.ref (R r).s) (m0 (λj=>V.ref (R j).s) f) ?_;refine b6 (Q7 rfl rfl (d8 ?_));refine ir (MP (d:=d+9) (L:=C8 A B (R r)) (L0:=(R r).L) (b:=(R r).b) (e:=(R r).e) (la:=2) (lb:=3) ⟨K 4 (by decide) h.hl,K 2 (by decide) h.ha,K 3 (by decide) h.hb,ad h.ld.la.2 (by decide),ad h.ld.lb.2 (by decide)⟩ h.ld.ro.na h.ld.ro.nb s1 l1 rfl (ad hL.1 (by decide)) hL.2 (i9 ((u 4 (by decide)).2) ((u 2 (by decide)).2) ((u 3 (by decide)).2)) (j8 a1 ((u 4 (by decide)).1) ((u 2 (by decide)).1) ((u 3 (by decide)).1)) λH2 t f2 Y s2 l2 a6=>?_);refine Nj Ni ?_;refine g9 ?_;refine n5 (by decide) ?_;refine e7 ?_;have U:=Nk (A:=A) (B:=B) (L:=C8 A B (R r));generalize E:(C8 A B (R r)).isEmpty=S at U;have W:=K 16 (by decide) h.hs;have Z:=(ab.mp W).1;have a5:H2[16]?=some (.list [.ref (R 0).s,.ref (R 1).s,.ref (R 2).s]):=(f2.eq Z (by simp[(u 16 (by decide)).1.symm,(u 16 (by decide)).2.symm])).trans W;refine R7 ?_;refine k7 (Fu (a7 rfl rfl (J6 ?_)));refine cg U ?_;refine U5 (s5 (a7 rfl rfl (a7 rfl rfl ?_)));refine D6 (.inl a5) (aW r) z (x:=.ref (R r).s) (m0 (λj=>V.ref (R j).s) f) ?_;refine l4 ?_;refine hW I7 s2 (by show 3<=aF;decide) ?_;refine R6 ?_;have M:=(ab.mp D.s).1;have a0:=(ab.mp D.l).1;have ds:=Nl (A:=A) (B:=B) (L:=C8 A B (R r));have e3:∀c,c<I.length->c≠(R r).s->c≠(R r).l->(H2.set (R r).s (r4 w true S t))[c]?=I[c]?:=λc g p h2=>by exact(ag (bg p)).trans (f2.eq g (by simp[p,h2]))
 have C:t≠(R r).s:=Y.elim (λq=>q▸a1.symm) λq=>bg (aP (aB (aB M F.1) q));have q:s8 w (d+8) xs n (k+1) A B (K7 R r ⟨true,S,(R r).i,(R r).s,t,a2,V4 A B (C8 A B (R r))⟩) (λx=>if x<H.length then T x else if x<I.length then 1+r else 7+r) (H2.set (R r).s (r4 w true S t)):=by
  refine h.turn f ⟨au (ab.mp s2).1,by exact(ag (bg C)).trans l2,ad ds.1 hL.1,λe=>⟨rfl,by rw[List.isEmpty_iff.mp (E.trans e)];rfl⟩,λs q=>hL.2 s (ds.2 s q),.begun a b rfl n2 (G.kp ⟨by rw[ax];exact f2.1,λc g=>?_⟩)⟩ (by rw[ax];exact ad F.1 f2.1) (λx hx=>if_pos hx) (λc g=>?_) ((if_pos M).trans (h.ts r f)) ?_ ?_ ?_ (λc g n9 b1 t1 t4 t7=>?_) λc g=>?_
  · refine e3 c (G.wf.lt c g) (λq=>?_) λq=>?_
    · rcases ho c g with m|m;·have:=h.ti r f c m;rw[q,h.ts r f]at this;exact CC this
      ·exact absurd M (bl.mpr (q▸m))
    · rcases ho c g with m|m;·have:=h.ti r f c m;rw[q,h.tl r f]at this;exact CD this
      ·exact absurd a0 (bl.mpr (q▸m))
  · rcases ho c g with m|m;·exact(if_pos (D.own_lt c m)).trans (h.ti r f c m)
    ·exact(if_neg (bl.mpr m)).trans (if_pos (G.wf.lt c g))
  · rcases Y with q|q;·exact q▸(if_pos a0).trans (h.tl r f)
    ·have l1:=F.1;exact(if_neg (by show¬t<H.length;exact CE q l1)).trans (if_neg (by show¬t<I.length;exact CF q))
  · rw[e3 9 (aB (h.lt 9 (by decide)) F.1) (u 9 (by decide)).1.symm (u 9 (by decide)).2.symm,K 9 (by decide) h.hr,jC,jC,jC];have e:∀j,(if j=r then V.ref (R r).i else .ref (R j).i)=.ref (R j).i:=λj=>by
     split;·rename_i e;rw[e]
     ·rfl
    rw[e,e,e]
  · rw[e3 16 (aB (h.lt 16 (by decide)) F.1) (u 16 (by decide)).1.symm (u 16 (by decide)).2.symm,K 16 (by decide) h.hs,jD,jD,jD];have e:∀j,(if j=r then V.ref (R r).s else .ref (R j).s)=.ref (R j).s:=λj=>by
     split;·rename_i e;rw[e]
     ·rfl
    rw[e,e,e]
  ·exact(e3 c (aB g F.1) (λq=>t4 (q▸h.ts r f)) λq=>t7 (q▸h.tl r f)).trans (F.eq g λq=>t1 (h.ti r f c q))
  ·have y1:=a6 c (g.of_set.elim (λq=>by injection q.2) id);cases S with|true=>exact .inr (((yn (List.isEmpty_iff.mp E) c y1).resolve_left List.not_mem_nil).symm.imp id .inl)|false=>exact(yo c y1).imp (λq=>⟨q,rfl⟩) λq=>⟨q.2,.inl q.1⟩
 refine hQ _ _ _ _ q ⟨λj hj=>iD hj,?_⟩;rw[iC];unfold eB;dsimp only;have J:∀{L:List r5},(V4 A B L).length<=L.length-1:=λ{L}=>by cases L with|nil=>exact ae _|cons s L=>show(iA L _).length<=L.length;cases y9 (A.map m5) (B.map m5) s with|none=>exact bq _|some y=>exact ae _
 have J:=J (L:=C8 A B (R r));cases S with|true=>exact bq _|false=>
  have C:0<(C8 A B (R r)).length:=Nat.pos_of_ne_zero λq=>by rw[List.length_eq_zero_iff.mp q]at E;injection E
  show(V4 A B (C8 A B (R r))).length+1<=_;have e0:(R r).e=false:=by cases e:(R r).e with|false=>rfl|true=> refine d7 (D.en e) λp h2=>?_;unfold C8 at C;rw[if_pos p,h2]at C;exact nomatch C
  rw[e0,if_neg (by decide)];unfold C8 at J C⊢;have:=wP h.ld.ro h.ld.la.2 h.ld.lb.2;by_cases G:(R r).b=true;·rw[if_pos G]at J C⊢;exact if_pos G▸CG J C
  ·rw[if_neg G]at J C⊢;exact if_neg G▸CH J C this
end
section
variable{w:NQ}{d:Nat}{xs:List Int}{n k:Nat}{A B:List (Nat×Nat)}{R:Nat->Rs}{T:Nat->Nat}{H H':List O}
inductive qH(w:NQ)(d:Nat)(xs:List Int)(k:Nat)(R:Nat->Rs):b9->List O->Prop|mk{n f A B T H r x side rows told}(L:s8 w (d+8) xs n k A B R T H)(ef:f=20000+k):qH w d xs k R (F4 r (some (.ref 9)) (some (.ref 16)) (some (.int (f:Nat))) x side rows told) H
theorem Nn(L:s8 w (d+8) xs n k A B R T H)(v:k<=1000)(l:f=20000+k)(K:∀i m H',qH w d xs (k+1) i m H'->(5<=x.fmod 8->∃r:Nat,r<3/\(x.fdiv 8).fmod 3=(r:Int)/\qG R i r)->Q .next m H'):B6 w (V5 w) (d+11) (F4 r (some (.ref 9)) (some (.ref 16)) (some (.int (f:Nat))) (some (.int x)) side rows h) H iB Q:=by
 refine R7 ?_;refine O0 (xs:=["side","r"]) (ag3 (by rfl) (by rfl)) ?_ λG M=>by unfold bL ca cw;rw[M];rfl
 refine w0 (b6 (l0 (l0 (a7 rfl rfl (i6 (oO (by decide) (PyProof.noPylong_of_log2 (by decide+kernel)) (i6 (gW (by decide) (b6 (l0 (l0 (a7 rfl rfl (i6 (oO (by decide) (PyProof.noPylong_of_log2 (by decide+kernel)) (i6 (gW (by decide) (d8 ?_)))))))))))))))));refine⟨by show 2<=aF;decide,?_⟩;refine D8 rfl ?_;refine⟨rfl,?_⟩;have C:=Int.fmod_nonneg_of_pos (x.fdiv 8) (show(0:Int)<2 by decide);have D:=Int.fmod_lt_of_pos (x.fdiv 8) (show(0:Int)<2 by decide);have y:=Int.fmod_nonneg_of_pos (x.fdiv 8) (show(0:Int)<3 by decide);have z:=Int.fmod_lt_of_pos (x.fdiv 8) (show(0:Int)<3 by decide);obtain⟨sd,u⟩:∃sd,(x.fdiv 8).fmod 2=w8 sd:=by
  by_cases e:(x.fdiv 8).fmod 2=0;·exact⟨false,e⟩
  ·exact⟨true,by show _=(1:Int);exact CI C D e⟩
 obtain⟨r,j⟩:∃r:Nat,(x.fdiv 8).fmod 3=(r:Int):=⟨_,(Int.toNat_of_nonneg y).symm⟩;rw[u,j];have o:=j;rw[j]at z;have s:r<3:=aQ.mp z;clear C D y u j;have N:[V.ref 2,V.ref 3][(w8 sd).toNat]?=some (.ref (t6 2 3 sd)):=by cases sd<;>rfl
 have I:0<=w8 sd:=by cases sd<;>decide
 have J:w8 sd<2^62:=by cases sd<;>decide
 refine R7 ?_;refine k7 (s5 (Q7 rfl rfl (a7 rfl rfl ?_)));refine D6 (.inl L.hl) I J N ?_;refine e6 (.inl (by rfl)) ?_;refine R7 ?_;refine pi (.inl rfl) rfl (i6 (oN ?_));have g:∀{n' A' E i F H' h},s8 w (d+8) xs n' (k+1) A' E i F H'->(5<=x.fmod 8->qG R i r)->pk w (V5 w) (d+11) [] Q .next (F4 (some (.int (r:Nat))) (some (.ref 9)) (some (.ref 16)) (some (.int ((20001+k:Nat)))) (some (.int x)) (some (.int (w8 sd))) (some (.ref (t6 2 3 sd))) h) H':=λc q=>R6 (K _ _ _ (.mk c (Nat.succ_add 20000 k)) λb=>⟨r,s,o,q b⟩);have l:(f:Int)+1=((20001+k:Nat):Int):=by rw[l,Nat.succ_add 20000 k];rfl
 rw[l];show B6 _ _ _ (F4 (some (.int (r:Nat))) (some (.ref 9)) (some (.ref 16)) (some (.int ((20001+k:Nat)))) (some (.int x)) (some (.int (w8 sd))) (some (.ref (t6 2 3 sd))) h) _ (iB.drop 3) _;have t:∀{P:Prop}[Decidable P]{X Y:Prop},P->X->if decide P=true then X else Y:=λp x=>by rw[decide_eq_true p];exact x
 have O:∀{P:Prop}[Decidable P]{X Y:Prop},¬P->Y->if decide P=true then X else Y:=λp x=>by rw[decide_eq_false p];exact x
 refine hM (lT (lS ?_));refine j6 (l0 (a7 rfl rfl (i6 (gW (by decide) (i6 (D4 (g9 ?_)))))));by_cases c0:x.fmod 8<2;·exact t c0 (kj (Nb L v λ_ _ _ _ c=>g c λb=>absurd b (by exact CK c0 b)))
 refine O c0 (hM (lT (lS ?_)));refine j6 (l0 (a7 rfl rfl (i6 (gW (by decide) (i6 (jY (g9 ?_)))))));by_cases c1:x.fmod 8=2;·rw[c1];exact kj (Nc L λ_ _ _ _ c=>R6 (g c λb=>absurd b (by exact CL c1 b)))
 rw[beq_false_of_ne c1];refine hM (lT (lS ?_));refine j6 (l0 (a7 rfl rfl (i6 (gW (by decide) (i6 (jY (g9 ?_)))))));by_cases c2:x.fmod 8=3;·rw[c2];exact kj (Nd L v λ_ _ _ _ c=>R6 (R6 (g c λb=>absurd b (by exact CM c2 b))))
 rw[beq_false_of_ne c2];refine hM (lT (lS ?_));refine j6 (l0 (a7 rfl rfl (i6 (gW (by decide) (i6 (jY (g9 ?_)))))));by_cases c3:x.fmod 8=4;·rw[c3];exact kj (Nf L s λ_ _ _ c=>R6 (R6 (R6 (g c λb=>absurd b (by exact CN c3 b)))))
 rw[beq_false_of_ne c3];exact Nm L s λ_ _ _ _ c a=>R6 (R6 (R6 (g c λ_=>a)))
end
theorem No:∀i j:Fin 8,et[i.val]?=eA[j.val]?-> i.val=1/\j.val=2 \/ i.val=3/\j.val=3 \/ i.val=4/\j.val=4 \/ i.val=7/\j.val=6:=by decide
theorem Np:Rows et eA:=by
 have m:∀i j,MM et eA i j-> i=1/\j=2 \/ i=3/\j=3 \/ i=4/\j=4 \/ i=7/\j=6:=λi j h=>No ⟨i,h.lt.1⟩ ⟨j,h.lt.2⟩ (by
  refine a9 h λc b d=>?_;try clear h
  exact b.trans d.symm);refine⟨by decide,by decide,λi j e f h a q=>?_⟩;rcases m i j h with⟨rfl,rfl⟩|⟨rfl,rfl⟩|⟨rfl,rfl⟩|⟨rfl,rfl⟩<;>rcases m e f a with⟨rfl,rfl⟩|⟨rfl,rfl⟩|⟨rfl,rfl⟩|⟨rfl,rfl⟩<;>revert q<;>decide
theorem Nq{n n1 n2:Nat}(j:405<n)(g:A.map (·.1)=et)(i:B.map (·.1)=eA)(a:kN n n1 A)(b:kN n1 n2 B):LD A B n2 20001:=by
 have la:A.length=8:=by rw[<-ak (f:=(·.1)),g];rfl
 have lb:B.length=8:=by rw[<-ak (f:=(·.1)),i];rfl
 have l:∀c∈et++eA,c<20001:=by decide
 refine⟨by rw[g,i];exact Np,by exact sJ la,by exact sJ lb,λp d=>⟨?_,l _ ?_⟩,λp d q k e=>?_⟩
 · rcases aX.mp d with h|h;·exact⟨aB j (a.lt p h).1,aB (a.lt p h).2 b.le⟩
   ·exact⟨aB j (ad a.le (b.lt p h).1),(b.lt p h).2⟩
 ·rw[<-g,<-i,<-bm];exact bp.mpr (b7 p d rfl)
 · rcases aX.mp d with h|h<;>rcases aX.mp k with h'|h';·rw[a.inj p h q h' e]
   ·have:=(a.lt p h).2;have:=(b.lt q h').1;exact CO e (by assumption) this
   ·have:=(b.lt p h).1;have:=(a.lt q h').2;exact CP e (by assumption) this
   ·rw[b.inj p h q h' e]
noncomputable def R0(r:Nat):Rs:=⟨false,false,6+r,10+2*r,11+2*r,[6+r],[]⟩
noncomputable def T0(x:Nat):Nat:=if 6<=x/\x<=8 then x-5 else if 10<=x/\x<=15 then if x%2=0 then x/2-1 else x/2+2 else 0
section
variable{w:NQ}{d n:Nat}{ns:List Int}
theorem Nr{n2:Nat}(a:405<n2)(l:LD A B n2 20001):s8 w (d+8) (P7 ns) n2 0 A B R0 T0 (mZ w ns n2 A B):=by
 refine⟨rfl,a,l,rfl,rfl,rfl,rfl,rfl,rfl,rfl,λr c=>?_,by decide,?_,?_,?_,?_⟩;·match r,c with|0,_=>exact⟨rfl,rfl,bq _,λq=>by injection q,λ_ q=>absurd q List.not_mem_nil,.fresh rfl rfl rfl⟩|1,_=>exact⟨rfl,rfl,bq _,λq=>by injection q,λ_ q=>absurd q List.not_mem_nil,.fresh rfl rfl rfl⟩|2,_=>exact⟨rfl,rfl,bq _,λq=>by injection q,λ_ q=>absurd q List.not_mem_nil,.fresh rfl rfl rfl⟩
 ·decide
 ·decide
 ·decide
 · intro k;refine A8 λx e f=>?_;have:∀o∈mZ w ns n2 A B,D1 o=false:=List.all_eq_true.mp (show(mZ w ns n2 A B).all λo=>D1 o==false=true from rfl)|>λh o b=>beq_iff_eq.mp (h o b);injection (this x (aY e)).symm.trans f
theorem Nt:ns.map V.int++(dB 17 [V.int 5,.int 13,.int 21]).flatten=(P7 ns).map V.int:=by unfold P7;rw[bm];rfl
theorem Nu(a:ns.length<=63):(P7 ns).length<=114:=by unfold P7;rw[aK];exact Nat.add_le_add a (ae 51)
theorem wW{d:Nat}{A B:List (Nat×Nat)}{H:List O}{q:Rs}(h:Rd w d A B H q):eB q<=17:=by
 have:=h.z;unfold eB;split;·exact CQ
 · split;·exact bo this
   ·exact ae _
noncomputable def qI(r:Nat):Nat->Nat|0=>0|t+1=>qI r t+if t%3=r then 1 else 0
noncomputable def N0(n k r:Nat):Nat:=17-qI r (k-n)
theorem Nv(h:t<=17):t<=N0 n 0 r:=by unfold N0;rw[Nat.zero_sub];exact h
theorem Nw(a:¬n<=k)(h:t<=17):t<=N0 n (k+1) r:=by unfold N0;rw[Nat.sub_eq_zero_of_le (bI a)];exact h
theorem wX(a:n<=k):N0 n (k+1) r=17-(qI r (k-n)+if(k-n)%3=r then 1 else 0):=by unfold N0;rw[Nat.succ_sub a];rfl
theorem Nx{n k q t t':Nat}(a:n<=k)(e:(k-n)%3=q)(h:t'<=t-1)(l:t<=N0 n k q):t'<=N0 n (k+1) q:=by rw[wX a,if_pos e];exact ad h (Nat.sub_le_sub_right l 1)
theorem Ny{n k r q t:Nat}(a:n<=k)(e:(k-n)%3=q)(b:r≠q)(l:t<=N0 n k r):t<=N0 n (k+1) r:=by rw[wX a,if_neg λz=>b (z.symm.trans e)];exact l
theorem Nz(h:r<3):N0 n (n+51) r=0:=by unfold N0;rw[Nat.add_sub_cancel_left];match r,h with|0,_=>rfl|1,_=>rfl|2,_=>rfl
theorem NA{q:Rs}(h:eB q<=0)(e:q.e=false):False:=by unfold eB at h;rw[e,if_neg (by decide)]at h;split at h<;>contradiction
theorem NB(m:Nat):∀t:Nat,t<3*m->(dB m [(5:Int),13,21]).flatten[t]?=some (5+8*((t%3:Nat):Int)):=by induction m with|zero=>exactλt h=>absurd h (dQ _)|succ m a=>intro t h;rw[List.replicate_succ,gE];cases t with|zero=>rfl|succ t=>cases t with|zero=>rfl|succ t=>cases t with|zero=>rfl|succ t=>show(dB m [(5:Int),13,21]).flatten[t]?=some (5+8*(((t+3)%3:Nat):Int));rw[a t (by exact CR h),Nat.add_mod_right]
theorem NC(h:(P7 ns)[i]?=some x)(b:ns.length<=i):x.fmod 8=5/\(x.fdiv 8).fmod 3=(((i-ns.length)%3:Nat):Int):=by
 have c:i<ns.length+51:=by have:=(ab.mp h).1;unfold P7 at this;rw[aK]at this;exact this
 unfold P7 at h;rw[List.getElem?_append_right b,NB 17 _ (by exact CS b c)]at h;injection h with h;subst h;have a:=Nat.mod_lt (i-ns.length) (show 0<3 by decide);generalize(i-ns.length)%3=r at a;match r,a with|0,_=>exact⟨by decide,by decide⟩|1,_=>exact⟨by decide,by decide⟩|2,_=>exact⟨by decide,by decide⟩
theorem ND(j:ns.length<=63)(z:405<n)(hQ:∀H',(∃m,H'[1]?=some (.clk m))->(∀k,¬YY H' k)->Q (.bool true) H'):ki w (d+12) [.arr (ns.map V.int),.clk n] (.st 341) [.ref 0] Q:=by
 refine FB (Jy w) (by rfl) (by rfl) ?_;have e:u7 (i7 (m8 12)) ["script"] [.ref 0]=[nv "script" (.ref 0),nn "lists",nn "differ",nn "r",nn "readers",nn "states",nn "fresh",nn "x",nn "side",nn "rows",nn "told"]:=by rfl
 rw[e];refine Na j λA B n1 n2 Z eb K M=>?_;have h:405<n2:=aB z (ad K.le M.le);have I:=Nr (w:=w) (d:=d) (ns:=ns) h (Nq z Z eb K M);refine hM ?_;refine FA ?_;refine l0 (a7 rfl rfl (l0 (B5 (b6 (i6 (b6 (i6 (b6 (i6 (d8 ?_))))))))));refine⟨by show 3<=aF;decide,?_⟩;refine i6 ?_;refine MU (k:=17) (xs:=[.int 5,.int 13,.int 21]) rfl (by decide) (by decide) ?_;refine MV (.inr rfl) (.inl rfl) (by rw[ak];exact ad (Nat.add_le_add j (ae 51)) (by decide)) ?_;rw[Nt];show tX _ _ _ _ _ _ _ (V.ref 19) (mZ w ns n2 A B);refine Q3 _ _ (aG (.inl rfl)) (λk m H=>∃R,qH w d (P7 ns) k R m H/\∀r,r<3->eB (R r)<=N0 ns.length k r) (b7 R0 (.mk I rfl) λr b=>?_) ?_ ?_ ?_;·exact Nv (wW (I.rd r b))
 · intro i m H';refine A8 λR l _=>?_;obtain⟨L,_⟩:=l;exact .inl L.hx
 · intro i v m H' C;refine A8 λR J g=>?_;obtain@⟨n,f,A,B,T,H',r,x,G,F,N,L,ef⟩:=J;rw[aV]at C;refine a9 (bE.mp C) λx D o=>?_;subst o;have hi:=ad (Nat.le_of_lt (ab.mp D).1) (ad (Nu j) (by decide:114<=1000));refine e6 (.inl (by rfl)) ?_;refine Nn L hi ef λP m H' J a=>?_;refine b7 P J λr b=>?_;obtain@⟨n',f',A',B',T',H',r',x',t,s,u,O,a0⟩:=J;have le:=wW (O.rd r b);by_cases hin:ns.length<=i
   · refine d7 (NC D hin) λW X=>?_;refine m9 (a (by exact CT W)) λq hq Y c=>?_;refine d7 c λS U=>?_;clear c;have y:(i-ns.length)%3=q:=Int.ofNat.inj (X.symm.trans Y);by_cases e:r=q;·subst e;exact Nx hin y U (g r b)
     ·rw[S r e];exact Ny hin y e (g r b)
   ·exact Nw hin le
 · intro m H';refine A8 λR p g=>?_;obtain⟨L,_⟩:=p;refine R7 ?_;refine J9 (iR ?_);refine hQ _ ⟨_,L.c⟩ λk hk=>?_;refine m9 (L.yy k hk) λr b _ e=>?_;have E:=g r b;have xl:((P7 ns).map V.int).length=ns.length+51:=by unfold P7;rw[ak,aK];rfl
   rw[xl,Nz b]at E;exact NA E e
end
theorem m4{h h':NV}{a:Nat}{m:Str->Option NS}(x:h.Ns a m)(k:∀o,h.get? a=some o->h'.get? a=some o):h'.Ns a m:=E5 x λo c b e r=>gi o c b (k _ e) r
theorem NE(r:IntsAre vs ns):e5 ρ h (ns.map V.int) vs:=by induction r with|nil=>exact .nil|cons n t r a=>exact .cons (Exists.intro _ rfl) a
theorem NF{g:Type}{p:Nat->Bool}{a:Nat}{o:g}:∀l:List (Nat×g),(l.filter λx=>p x.1).lookup a=some o->p a=true/\l.lookup a=some o:=by intro l;induction l with|nil=>exactλh=>by injection h|cons c l f=>
  obtain⟨b,q⟩:=c;intro h;rw[List.filter_cons]at h;rw[bU];by_cases hb:p b=true;·rw[if_pos hb,bU]at h;cases e:a==b with|true=>rw[e]at h;exact⟨(beq_iff_eq.mp e).symm▸hb,h⟩|false=>rw[e]at h;exact f h
  · rw[if_neg hb]at h;refine d7 (f h) λd i=>?_;have:(a==b)=false:=by cases e:a==b with|true=>exact absurd (beq_iff_eq.mp e▸d) hb|false=>rfl
    rw[this];exact⟨d,i⟩
theorem NG{P:NU}{a:Nat}{o:Obj}(h:(KK P).lookup a=some o):a≠331/\(K P).lookup a=some o:=by refine d7 (NF (p:=λb=>b !=331) _ h) λc d=>?_;exact⟨by simpa using c,d⟩
theorem wY(k:Q5 ⟨f,[]⟩ h)(e:f b=some o):h.get? b=some o:=by refine a9 (k b o e) λc a u=>?_;rw[a,u.ex λq=>by cases q]
theorem law_main(w:NQ)(s:NR)(l:Addr)(U:List NS)(ns:List Int)(Y O:Str->Option NS)(hg:s.gens=#[])(W:406<=s.toks)(X:Frag.In (K w.params) s.heap)(G:s.heap.Ns bw Y)(N:s.heap.NoLimit)(p:s.heap.Ns gr O)(H:∀x:Str,x≠"__name__"->O x=bQ x)(B:∃m,s.heap.Ns cStatics m/\m "sys.int_max_str_digits"=none)(J:s.heap.IsList l U.toArray)(hi:IntsAre U ns)(hn:ns.length<=63){Q:VP}{E:VP}(hQ:∀s',OldK s.heap s'.heap->s'.os=s.os->AllBare s'.gens->Q (.bool true) s'):g8 (ay pP w) callerA (call (.ref 341) [.ref l]) Q E s:=by
 have j:s.heap.get? 331=some (qV w.params):=X _ _ (by kernel_rfl);have L:l≠331:=λe=>by obtain⟨o,t,hc,_⟩:=id J;rw[e,j]at t;cases t;cases hc
 obtain⟨f,C⟩:∃f:Nat->Option Obj,f=λb=>if b=331 then none else s.heap.get? b:=⟨_,rfl⟩;have D:∀b,b≠331->f b=s.heap.get? b:=λb p=>by rw[C];exact if_neg p
 have fn:f 331=none:=by rw[C];exact if_pos rfl
 have S:d9 w ⟨f,[]⟩ [⟨l,[],none⟩,⟨331,[331],none⟩] [.arr (ns.map V.int),.clk s.toks] s.heap (gt s):=by
  refine⟨λh' k=>?_,λb o e=>?_,rfl,λi e o g h=>?_,λb c=>?_,by show[331].Nodup;decide,λb c=>?_,by simp,λx z u=>?_,λi e o g h=>?_,λe he=>(by cases he),by show 0<s.toks;exact aB (by decide) W⟩;·have q:∀b,b≠331->∀o,s.heap.get? b=some o->h'.get? b=some o:=λb c o e=>wY k ((D b c).trans e);exact⟨λa o e=>d7 (NG e) λe1 e2=>q a e1 o (X a o e2),⟨Y,m4 G (q _ (by decide))⟩,a9 N λm a b=>b7 m (m4 a (q _ (by decide))) b,b7 O (m4 p (q _ (by decide))) H,a9 B λm a b=>b7 m (m4 a (q _ (by decide))) b⟩
  · have e:f b=some o:=e;rw[C]at e;dsimp only at e;split at e;·cases e
    ·exact b7 o e .refl
  · rcases i with _|_|i;·cases g;cases h;refine a9 (id J) λo t r=>?_;exact j8 rfl rfl (b7 U J (NE hi)) (by show(f l).isSome=true;rw[D _ L,t];rfl)
    ·cases g;cases h;exact i9 rfl rfl j
    ·simp at g
  ·have c:b∈[331]:=c;exact⟨_,af.mp c▸j⟩
  ·have c:b∈[331]:=c;rw[af.mp c];exact fn
  ·have u:s.gens[x]?=some z:=u;rw[hg]at u;simp at u
  · rcases i with _|_|i;·cases g;cases h;trivial
    ·cases g;cases h;exact ae _
    ·simp at g
 have hA:j0 callerA (0+12) []:=⟨rfl,rfl,by decide+kernel,by decide+kernel⟩;refine o0 (ND (w:=w) (d:=0) (n:=s.toks) (Q:=λv A=>v=.bool true/\(∃n,A[1]?=some (.clk n))/\∀k,¬YY A k) hn W (λ_ a b=>i9 rfl a b) callerA _ _ s (.ref 341) [.ref l] hA S rfl (.cons (b7 _ rfl rfl) .nil)) (λv s'=>HQ.el λa0 A b Z T rv P=>n8 P λc R hy=>b8 R λn F=>?_) λ_ _ x=>x.elim;subst c;subst rv;refine hQ s' ?_ Z.2.2.1.1 λz hz=>b8 (Array.getElem?_of_mem hz) λk hk=>(T.bare k z hk).elim id (iH λi _ o _ _ _ j h4=>absurd (b7 o j h4) (hy i));have kp:∀b o,b≠331->s.heap.get? b=some o->s'.heap.get? b=some o:=λb o p e=>wY T.keep ((D b p).trans e);refine Z0 (T.at' F) λe3 I _ _ M=>?_;have y:some e3=some ⟨331,[331],none⟩:=I.symm.trans (x6 Z.1 rfl);cases y;refine OldK.of_keep λb o e=>?_;by_cases y:b=331;·subst y;rw[j]at e;cases e;exact M
 ·exact kp b o y e
end Mine.Internal
end
set_option tactic.hygienic true
theorem PySem.Challenge.cw_dm0045_10_holds : PySem.Challenge.rw_dm0045_10.Holds := by
  w_on
  refine holds_law (by kernel_rfl) fun said => ?_
  refine Mine.Internal.holds_T (tk := 406) (q := Mine.q) (loose := Mine.loose) (Xt := fun s => xlAt Mine.q [] s && recOk [] s) (XP := XL Mine.q []) (Yf := fun s => (Hook.obs Mine.Hk s, Nat.ble 406 s.toks)) (Ya := fun w => (Hook.val Mine.Hk w, true)) (YP := Hook.says Mine.Hk) (N := 6000) Mine.left (fun w s e => Hook.of Mine.Hk w s (congrArg Prod.fst e)) (fun w s e => Nat.le_of_ble_eq_true (congrArg Prod.snd e)) (Hook.keeps Mine.Hk) (fun s e => xl_of s (Bool.and_eq_true_iff.mp e).1) XL.keeps (by rfl) (by rfl) (by rfl) (fun s e => recFacts_of (Bool.and_eq_true_iff.mp e).2) (by rfl) (by first | assumption | decide +kernel) (by decide +kernel) ⟨rfl, rfl, rfl, rfl, rfl, by decide +kernel⟩ ?hw ?hc
  case hw => w_witness2
  intro w s₀ s₁ mg mb G Y fa o pm cd doc dV kV ho hd hcd hD hmg hg ht args vals as hpre hlay hrd hwl hlo
  have KX := kIn_of Y
  clear ho hd hcd hD Y
  refine Ground.open G ?_
  intro T B D TE TW
  wrow_args hpre hlay hrd hwl hlo
  x_fa T KX hmg
  clear hmg
  rename_i ns _ _ _ _ _ _ _ l vs _ hL _ _ _ hI _ hn _
  refine Mine.Internal.law_main w s₁ l vs ns mg mb hg ht KX T.g T.nolimit T.b T.builtins T.nodigits hL hI (by omega) ?_
  intro s' h1 h2 h3
  exact ⟨.inl ⟨_, _, [], rfl, fun _ => rfl, ReadsW.bool true, by wrow_post, fun _ => ⟨List.nodup_nil, fun _ hm => (nomatch hm)⟩⟩, h1, h2, h3⟩
