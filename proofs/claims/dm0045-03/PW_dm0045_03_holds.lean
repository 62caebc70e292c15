import PyProof.Rows.All
import Wide.All
import OpenK.AllK
import Flt.Ops
import KE.KDictLaws
import KE.KPop
import KE.KSortTup
import OpenK.KDescr
import OpenK.KMake
import OpenK.KMore
import PyProof.AttrMissHeap
import PyProof.AutoIntOps
import PyProof.ConsumeS
import PyProof.DictDisplay
import PyProof.Draws
import PyProof.EnumMake
import PyProof.ExcStrAll.IndexError
import PyProof.ExcStrCall
import PyProof.GenQ
import PyProof.IsInstance
import PyProof.IsiFacts
import PyProof.Rows.RuleN_abs
import PyProof.Rows.StrFirst
import PyProof.Rows.StrJoinRep
import PyProof.Rows.SumAny
import PyProof.SetKind
import PyProof.StrReplace2
import PyProof.TupleCall
import PyProof.ZipIter
import Wide.FinOn
import PySem.Challenge.RW_dm0045_03
open PySem PySem.W PyProof.Rows
set_option Elab.async false
set_option maxRecDepth 100000
set_option maxHeartbeats 0
set_option compiler.extract_closed false
set_option bootstrap.genMatcherCode false
set_option backward.match.sparseCases false
set_option linter.all false
set_option genInjectivity false
set_option genSizeOf false
set_option genSizeOfSpec false
open _root_.PySem.Str renaming ofString → aa
open _root_.PySem renaming wpAny_bind → ab, wpAny_pure → ac, wpAny_mono → ar, wpAny → ax, model → aA, sizeLine → aB, builtinLookup_eq_fast → aG, wpAny_holding → aM, typeLookup_type → aN, Builtin → aP, mainGlobals → aT, typeLookup → aX, wpAny_with_toks → bA, wpAny_newObj_type → bC, wpAny_call_entry → bP, swappedStores → bR, bootBuiltins → bU, wpAny_Constant_str → bV, wpAny_of_eq → bX, wpAny_truthy_bool → ck, wpAny_field → cm, wpAny_callSpecial?_slot → cq, wpAny_seqItems → cw, codeAny_call_builtin → cL, wpAny_standAt → cO, Result → cR, pyNext → cS, wpAny_call → cU, wpAny_specialOf → cV, isSubtype_type → dh, assign → dk, binaryOp → dm, compareOp → dw, wpAny_updateSeq → dy, IsPair → dz, wpAny_rule → dB, callEnvC → dD, holding → dH, sliceBounds → dM, wpAny_loadName_local → dQ, starEach → dR, callWith → dT, codeAny_builtin → dU, backTo → dX, wpAny_isInstance → eu, builtinsNs → ew, interactive → eC, wpAny_setField_rec → eN, typeOf → eP, isSubtype → eQ, wpAny_typeOf → eR, wpAny_sharingNotTold_none → fh, recursionLimit → fm, standAt → fq, codeAny → ft, getAttr → fw, intKind → fx, compEnvC → fB, wpAny_attempt → fR, assignEach → fW, wpAny_allTrue_And_cons → gj, unpackItems → gp, keywordEach → gr, builtinKind → gv, foldedSetIterable → gH, notedBy → gQ, truthOfDropped → gR, checkBoundCall → gT, firstArgMember → gU, updateSeq → gW, cellsFrom → gX, wpAny_letTemporaryGo → hO, wpAny_newFunctionEnv_cells → hU, wpAny_letGo → ig, callWith_type → ij, treeTable → iw, getMethod → iA, wpAny_Name → iD, isInstance → iF, sharingNotToldKey → iK, letOwnedTupleGo → iM
open _root_.List renaming getElem?_eq_some_iff → ae, getElem?_concat_length → af, getElem?_eq_getElem → aq, mem_singleton → au, prefix_refl → az, length_map → aD, length_append → aE, prefix_append → aF, size_toArray → aI, mem_cons → aJ, map_append → aQ, map_cons → aR, getElem?_map → aU, mem_map → aV, replicate → aZ, mem_of_getElem? → ba, getElem?_append_left → bf, append_nil → bg, mem_append → bh, getD_eq_getElem?_getD → bo, map_map → bu, lookup_cons → bB, append_assoc → bD, length_set → bH, getElem?_of_mem → bJ, length_take → bQ, getElem?_set_self → bT, getElem?_set_ne → bZ, length_cons → cb, toArray → ch, zipWith → cz, range → cB, mem_append_right → cC, length_replicate → cD, forIn_cons → cG, mem_append_left → cM, mem_range → cQ, mem_filter → cT, drop_eq_getElem_cons → cW, set_set → db, length_eq_zero_iff → dl, length_range → dn, pairwise_map → du, take_length → dE, getElem_mem → dG, drop_zero → dI, length_filter_le → dJ, getElem?_drop → dK, take_append_drop → dL, nodup_cons → dP, pairwise_append → dW, cons_ne_nil → ee, length_drop → ev, find?_cons_of_pos → eG, find?_cons_of_neg → eK, idxOf_lt_length_of_mem → eT, take_add_one → eZ, drop_drop → fy, map_nil → fC, take_succ_eq_append_getElem → fJ, filterMap_cons → fL, filter_append → fX, nil_append → gi, drop_of_length_le → gu, zipWith_cons_cons → gz, nodup_append → gG, getElem?_inj → gN, set_append_right → gV, sum_cons → hZ, filter_eq_self → ik, flatten_append → io, pairwise_iff_getElem → iu, reverse_cons → iG, flatten_cons → iL, nodup_nil → iN
open _root_.Nat renaming le_trans → ag, le_refl → ao, lt_of_lt_of_le → aW, le_succ → aY, le_add_right → bd, zero_le → bm, succ_le_succ → br, le_of_not_lt → bx, lt_of_not_le → bE, ne_of_lt → bI, not_lt → bN, min_le_left → bW, le_succ_of_le → cj, min_eq_left → cF, lt_succ_self → cK, ne_of_gt → cZ, min_eq_right → dC, min_le_right → ed, not_lt_zero → gc, mul_div_le → gO, add_le_add_left → ip, zero_add → iy, lt_trans → iB, lt_succ_of_lt → iI
open _root_.PySem.Heap renaming get?_push_of_some → ak, get?_push_size → aK, get?_update_other → bz, lt_size → bG, get?_update_self → bM, size_push → cr, SameBut → gP
open _root_.PySem.PyData renaming keyHash → aw
open _root_.Eq renaming symm → aC
open _root_.Int renaming ofNat_lt → aO, natCast_nonneg → bK, toNat_natCast → gK
open _root_.Option renaming map_eq_some_iff → bp, isSome_iff_exists → dN, bind_some → dZ, map_some → iq
open _root_.Bool renaming false_eq_true → bq, false_ne_true → bL, and_eq_true_iff → gY
open _root_.PySem.Obj renaming mapSeq → bw
open _root_.PySem.Builtin.SmallTypes renaming nextOf → ca, ownedTupleIsFree → dg
open _root_.Array renaming getElem?_eq_getElem → cA, getElem?_eq_some_iff → cN, size_push → eU, getElem?_push → fM
open _root_.Option.some renaming inj → cE
open _root_.PyProof.Rows renaming seqObj → cH, subscriptTail → hW
open _root_.PySem.Builtin.List renaming listExtendWith → cI, listSameRef → fK, listItems → gw
open _root_.PySem.Env renaming kindOf → cJ, blockKind → de
open _root_.Ne renaming symm → cP
open _root_.PySem.W renaming Looks → cX, findIn → fG, looks_findIn → fH
open _root_.PySem.Unicode renaming isSpace → cY
open _root_.PySem.F renaming slot_dict_getattribute → da, slot_dict_get → eV, slot_tuple_iterator_next → eX, plain_extend_loop → fj, type_dict_get → gS, slot_tuple_getitem → hV, plain_extend_loop → il
open _root_.PySem.Around renaming under_plainId → di
open _root_.PySem.Calls renaming Name_function_global → dA, evalArgs_plain → fg, loadGlobal_builtin → fA, spliced_cons → fU, callWith_builtin → gq, spliced_nil → iH
open _root_.PySem.W.Looks renaming ld → dF
open _root_.PySem.Manifest renaming signature? → dY
open _root_.PySem.Builtin.Str renaming strSliceIndices → eO
open _root_.PySem.Builtin.Tuple renaming tupleItemsOf → eW
open _root_.PySem.Float64 renaming ofInt → eY, cmp → fk
open _root_.PySem.Txt renaming join → fF, rstrip → iE
open _root_.PySem.Config renaming single → fQ
open _root_.PySem.Code renaming quiet_builtin → fY
open _root_.PySem.Heap.SameBut renaming update → ii
open _root_.Decidable renaming byContradiction → ir
open _root_.Nat.succ renaming inj → iz
open _root_.List.Pairwise renaming imp_of_mem → iC
namespace Mine
noncomputable abbrev pP:Program:=PySem.Challenge.pw_dm0045_03
noncomputable abbrev rW:OpenLaw:=PySem.Challenge.rw_dm0045_03
noncomputable def aI2 {α:Type} (as:Array α) (p:α -> Bool) (i j:Nat):Bool :=
 @Bool.rec (fun _=>Bool) (Array.any as p i j) (@Bool.rec (fun _=>Bool) (Array.any as p i j) (PySem.W.R.anyR as.toList p) (Nat.beq j as.size)) (Nat.beq i 0)
theorem aI3:@Array.any.{0}=@aI2:=by
 funext α as p i j
 unfold aI2
 cases h1:Nat.beq i 0 with
 | false=>rfl
 | true =>
  have e1:=Nat.eq_of_beq_eq_true h1
  subst e1
  cases h2:Nat.beq j as.size with
  | false=>rfl
  | true =>
   have e2:=Nat.eq_of_beq_eq_true h2
   subst e2
   show as.any p=PySem.W.R.anyR as.toList p
   rw [<- PySem.W.R.anyR_eq,Array.any_toList]
noncomputable def tnB:aP:=by
 refine (?F:(PySem.W.Fast.tw4202317264376624991=?w) -> aP) ?h
 case F=>exact fun _=>?w
 case h =>
  unfold PySem.W.Fast.tw4202317264376624991
  rw [aI3]
theorem bo8:PySem.W.Fast.tw4202317264376624991=tnB:=by
 unfold PySem.W.Fast.tw4202317264376624991
 rw [aI3]
 rfl
noncomputable def aq6 (id:String):Option aP :=
 @Bool.rec (fun _=>Option aP) (iw id) (some tnB) (Nat.beq (PySem.code id) (PySem.code "type.__new__"))
theorem bo9:iw=aq6:=by
 funext id
 unfold aq6
 cases h:Nat.beq (PySem.code id) (PySem.code "type.__new__") with
 | false=>rfl
 | true =>
  have e:=Nat.eq_of_beq_eq_true h
  show iw id=some tnB
  have e2:iw id=iw "type.__new__":=by unfold iw; rw [e]
  rw [e2,<- bo8,<- PySem.W.Fast.te4202317264376624991]
  kernel_rfl
noncomputable def T0 (tb:String -> Option aP) (p:Program) (w:World) (n₀:Nat) (ann:Option Value):Nat -> SharedT -> Thread -> Option SharedT
 | 0,_,_=>none
 | n+1,s,t=>match through t with
  | true=>some s
  | false=>match stepOk n₀ ann t with
   | false=>none
   | true=>match stepT (denote tb) p w s t with
    | some (s',t')=>T0 tb p w n₀ ann n s' t'
    | none=>none
theorem aI4 {tb:String -> Option aP} {p:Program} {w:World} {n₀:Nat} {ann:Option Value}:∀ (n:Nat) (s:SharedT) (t:Thread) (r:SharedT),T0 tb p w n₀ ann n s t=some r -> topRun tb p w n₀ ann n s.abs t=some r.abs
 | 0,_,_,_,h=>by cases h
 | n+1,s,t,r,h=>by
  unfold T0 at h
  unfold topRun
  cases ht:through t with
  | true=>rw [ht] at h; cases h; rfl
  | false =>
   rw [ht] at h
   cases hk:stepOk n₀ ann t with
   | false=>rw [hk] at h; cases h
   | true =>
    rw [hk] at h
    cases hs:stepT (denote tb) p w s t with
    | none=>rw [hs] at h; cases h
    | some x =>
     obtain ⟨s',t'⟩:=x
     rw [hs] at h
     dsimp only at h ⊢
     rw [stepT_spec hs]
     exact aI4 n s' t' r h
noncomputable def aq7 (P:Params):BT :=
 let n:=fun (o:Params -> Obj) l r=>BT.node (o P) l r
 n boot_o_0 (n boot_o_1 (n boot_o_3 (n boot_o_7 .nil .nil) .nil) (n boot_o_5 (n boot_o_9 .nil .nil) .nil)) (n boot_o_2 (n boot_o_4 (n boot_o_8 .nil .nil) .nil) (n boot_o_6 (n boot_o_10 .nil .nil) .nil))
theorem bp0 (P:Params):absHeap (aq7 P) 11 (boot_heap P).life=boot_heap P:=by kernel_rfl
noncomputable def aq8 (p:Program) (w:World) (s₁:Shared):Bool:=(staticsOk [] (boot_heap w.params) s₁.heap&&namesBound p s₁.heap&&gensDone s₁&&laidKept (boot_heap w.params) s₁.heap)
noncomputable def ac4 (s:SharedT) (a:Nat):Option Obj:=match Nat.blt a s.n with
 | true=>(match s.tree.get a with | some o=>alive o | none=>none)
 | false=>none
theorem bp1 {s:SharedT} {a:Nat} {o:Obj} (h:ac4 s a=some o):s.abs.heap.get? a=some o:=by
 unfold ac4 at h
 cases hb:Nat.blt a s.n with
 | false=>rw [hb] at h; cases h
 | true =>
  rw [hb] at h
  cases hg:s.tree.get a with
  | none=>rw [hg] at h; cases h
  | some o' =>
   rw [hg] at h
   exact (abs_get (Nat.le_of_ble_eq_true hb) hg).trans h
theorem aI5 {s:SharedT}:∀ {as:List Nat} {os:List Obj},as.map (ac4 s)=os.map some -> as.map s.abs.heap.get?=os.map some
 | [],[],_=>rfl
 | [],_::_,h=>by cases h
 | _::_,[],h=>by cases h
 | a::as,o::os,h=>by
  simp only [aR,List.cons.injEq] at h ⊢
  exact ⟨bp1 h.1,aI5 h.2⟩
section
universe u
variable {β:Type u}
noncomputable def fN (n:Nat) (k:Nat -> β):β:=@Nat.rec (fun _=>β) (k 0) (fun m _=>k (Nat.succ m)) n
theorem ah8 (n:Nat) (k:Nat -> β):fN n k=k n:=by cases n<;>rfl
noncomputable def ac5 {α:Type} (g:α -> (α -> β) -> β) (l:List α):(List α -> β) -> β :=
 @List.rec α (fun _=>(List α -> β) -> β) (fun k=>k []) (fun a _ ih k=>g a fun a'=>ih fun t'=>k (a'::t')) l
theorem aI6 {α:Type} {g:α -> (α -> β) -> β} (hg:∀ a k,g a k=k a) (l:List α):∀ k:List α -> β,ac5 g l k=k l:=by
 induction l with
 | nil=>intro k; rfl
 | cons a t ih=>intro k; show g a _=_; rw [hg]; exact ih _
noncomputable def ac6 {α:Type} (g:α -> (α -> β) -> β) (x:Array α) (k:Array α -> β):β:=ac5 g x.toList fun l=>k (Array.mk l)
theorem aq9 {α:Type} {g:α -> (α -> β) -> β} (hg:∀ a k,g a k=k a) (x:Array α) (k:Array α -> β):ac6 g x k=k x:=aI6 hg _ _
noncomputable def fE (e:DictEntry) (k:DictEntry -> β):β:=k ⟨e.1,e.2,e.3⟩
noncomputable def fV (v:Value) (k:Value -> β):β:=match v with
 | .none=>k .none | .ellipsis=>k .ellipsis | .notImplemented=>k .notImplemented
 | .bool b=>k (.bool b) | .int i t=>fN t fun t=>k (.int i t) | .float b t=>fN t fun t=>k (.float b t) | .str s t=>fN t fun t=>k (.str s t) | .bytes b t=>fN t fun t=>k (.bytes b t)
 | .type n=>k (.type n) | .builtin i=>k (.builtin i) | .ref a=>fN a fun a=>k (.ref a)
theorem ac7 (v:Value) (k:Value -> β):fV v k=k v:=by cases v<;>simp only [fV,ah8]
noncomputable def fEV (e:DictEntry) (k:DictEntry -> β):β:=fV e.2 fun a=>fV e.3 fun b=>k ⟨e.1,a,b⟩
theorem bp2 (e:DictEntry) (k:DictEntry -> β):fEV e k=k e:=by unfold fEV; rw [ac7,ac7]
noncomputable def fD (d:Data) (k:Data -> β):β:=match d with
 | .plain=>k .plain
 | .prim v=>k (.prim v)
 | .seq xs n=>ac6 fV xs fun xs=>fN n fun n=>k (.seq xs n)
 | .dict es n=>ac6 fEV es fun es=>fN n fun n=>k (.dict es n)
 | .set a b c=>k (.set a b c)
 | .bytearray a b=>k (.bytearray a b)
 | .cell v=>k (.cell v)
 | .func f=>k (.func f)
 | .cls c=>ac5 fV c.bases fun bs=>ac5 fV c.mro fun mro=>ac5 fV c.subclasses fun sub=>k (.cls ⟨c.name,bs,mro,c.ns,c.qualname,c.hasDict,c.slotNames,sub,c.abstract,c.collection,c.hasDel⟩)
 | .fields vs=>ac6 fV vs fun vs=>k (.fields vs)
 | .freed=>k .freed
theorem bp3 (d:Data) (k:Data -> β):fD d k=k d:=by
 cases d<;>simp only [fD,aq9 ac7,aq9 bp2,aI6 ac7,ah8]
noncomputable def fO (o:Obj) (k:Obj -> β):β:=fD o.data fun d=>ac6 (fun x k=>match x with | none=>k none | some v=>fV v fun v=>k (some v)) o.slots fun sl=>k ⟨o.cls,o.dict,d,sl⟩
theorem bp4 (o:Obj) (k:Obj -> β):fO o k=k o:=by
 unfold fO
 rw [bp3,aq9]
 intro a k
 cases a with
 | none=>rfl
 | some v=>exact ac7 _ _
noncomputable def fT (t:BT):(BT -> β) -> β :=
 @BT.rec (fun _=>(BT -> β) -> β) (fun k=>k .nil) (fun v _ _ l r k=>fO v fun v=>l fun l=>r fun r=>k (.node v l r)) t
theorem bp5 (t:BT):∀ k:BT -> β,fT t k=k t:=by
 induction t with
 | nil=>intro k; rfl
 | node v l r ihl ihr=>intro k; show fO v (fun v=>fT l fun l=>fT r fun r=>k (.node v l r))=_; rw [bp4,ihl,ihr]
noncomputable def fS (s:SharedT) (k:SharedT -> β):β:=fT s.1 fun t=>fN s.2 fun n=>fN s.6 fun tk=>k ⟨t,n,s.3,s.4,s.5,tk,s.7⟩
theorem bp6 (s:SharedT) (k:SharedT -> β):fS s k=k s:=by unfold fS; rw [bp5,ah8,ah8]
end
noncomputable def goT (tb:String -> Option aP) (p:Program) (w:World) (n₀:Nat) (ann:Option Value):Nat -> SharedT -> Thread -> Option (Bool×SharedT×Thread)
 | 0,s,t=>some (false,s,t)
 | n+1,s,t=>match through t with
  | true=>some (true,s,t)
  | false=>match stepOk n₀ ann t with
   | false=>none
   | true=>match stepT (denote tb) p w s t with
    | some (s',t')=>goT tb p w n₀ ann n s' t'
    | none=>none
noncomputable def ah9 (tb:String -> Option aP) (p:Program) (w:World) (n₀:Nat) (ann:Option Value) (c:Nat):Nat -> SharedT -> Thread -> Option SharedT
 | 0,_,_=>none
 | m+1,s,t=>match goT tb p w n₀ ann c s t with
  | none=>none
  | some (b,s',t')=>match b with
   | true=>some s'
   | false=>fS s' fun s'=>ah9 tb p w n₀ ann c m s' t'
section
variable {tb:String -> Option aP} {p:Program} {w:World} {n₀:Nat} {ann:Option Value}
theorem ar1:∀ (n N:Nat) (s s':SharedT) (t t':Thread) (b:Bool) (r:SharedT),goT tb p w n₀ ann n s t=some (b,s',t') -> (if b then r=s' else T0 tb p w n₀ ann N s' t'=some r) -> ∃ M,M <= n+N+1 /\ T0 tb p w n₀ ann M s t=some r
 | 0,N,s,s',t,t',b,r,h,k=>by
  cases h
  exact ⟨N,by omega,k⟩
 | n+1,N,s,s',t,t',b,r,h,k=>by
  unfold goT at h
  cases ht:through t with
  | true =>
   rw [ht] at h
   cases h
   exact ⟨1,by omega,by unfold T0; rw [ht]; exact congrArg some (aC k)⟩
  | false =>
   rw [ht] at h
   cases hk:stepOk n₀ ann t with
   | false=>rw [hk] at h; cases h
   | true =>
    rw [hk] at h
    cases hs:stepT (denote tb) p w s t with
    | none=>rw [hs] at h; cases h
    | some x =>
     obtain ⟨s2,t2⟩:=x
     rw [hs] at h
     obtain ⟨M,hM,hr⟩:=ar1 n N s2 s' t2 t' b r h k
     exact ⟨M+1,by omega,by unfold T0; rw [ht,hk,hs]; exact hr⟩
theorem aI7 {c:Nat}:∀ (m:Nat) (s:SharedT) (t:Thread) (r:SharedT),ah9 tb p w n₀ ann c m s t=some r -> ∃ M,M <= m*(c+1) /\ T0 tb p w n₀ ann M s t=some r
 | 0,_,_,_,h=>by cases h
 | m+1,s,t,r,h=>by
  unfold ah9 at h
  cases hg:goT tb p w n₀ ann c s t with
  | none=>rw [hg] at h; cases h
  | some x =>
   obtain ⟨b,s',t'⟩:=x
   rw [hg] at h
   cases b with
   | true =>
    cases h
    obtain ⟨M,hM,hr⟩:=ar1 c 0 s r t t' true r hg rfl
    exact ⟨M,by rw [Nat.succ_mul]; omega,hr⟩
   | false =>
    dsimp only at h
    rw [bp6] at h
    obtain ⟨M₁,hM1,hr1⟩:=aI7 m s' t' r h
    obtain ⟨M,hM,hr⟩:=ar1 c M₁ s s' t t' false r hg hr1
    exact ⟨M,by rw [Nat.succ_mul]; omega,hr⟩
end
noncomputable def m7 (k:Nat):Stmt:=(pP.main.body[k]?).getD (.Pass ⟨0,0,0,0⟩)
noncomputable def j0:Stmt -> List Stmt | .FunctionDef _ _ b _ _ _ _ _ _ _=>b | .ClassDef _ _ _ b _ _ _ _ _ _ _=>b | _=>[]
noncomputable def i6:Stmt -> Scope | .FunctionDef _ _ _ _ _ _ sc _ _ _=>sc | _=>default
noncomputable def y9:Stmt -> Arguments | .FunctionDef _ a _ _ _ _ _ _ _ _=>a | _=>default
noncomputable def z3 (st:Stmt):Str:=match j0 st with | .Expr (.Constant (.str d) _ _) _::_=>d | _=>Str.empty
noncomputable def c9 (k j:Nat):Stmt:=((j0 (m7 k))[j]?).getD (.Pass ⟨0,0,0,0⟩)
noncomputable def d5s:{cs:List Char // aa (String.ofList cs)=z3 (m7 5)}:=⟨_,by with_unfolding_all rfl⟩
noncomputable def d7s:{cs:List Char // aa (String.ofList cs)=z3 (m7 7)}:=⟨_,by with_unfolding_all rfl⟩
noncomputable def D5:Str:=⟨⟨d5s.1.map Char.toNat⟩⟩
noncomputable def D7:Str:=⟨⟨d7s.1.map Char.toNat⟩⟩
theorem bp7:D5=z3 (m7 5):=(PySem.W.Fast.ofString_ofList d5s.1).symm.trans d5s.2
theorem bp8:D7=z3 (m7 7):=(PySem.W.Fast.ofString_ofList d7s.1).symm.trans d7s.2
noncomputable def bp9 (d:Str):Stmt -> Stmt
 | .ClassDef a b c (.Expr (.Constant (.str _) k p) q::r) e f g h i j l=>.ClassDef a b c (.Expr (.Constant (.str d) k p) q::r) e f g h i j l
 | s=>s
noncomputable def aI8 (n:Nat) (d:Str) (p:Program):Program:={ p with main:={ p.main with body:=p.main.body.modify n (bp9 d) } }
noncomputable def pE:Program:=aI8 5 D5 (aI8 7 D7 pP)
theorem ar4:pE=pP:=by
 unfold pE
 rw [bp7,bp8]
 kernel_rfl
noncomputable def o2 (P:Params):Obj:=⟨.none,none,(.dict ⟨[]⟩ 0),⟨[]⟩⟩
noncomputable def o3 (P:Params):Obj:=⟨(.type "dict"),none,(.dict ⟨[⟨aw P (aa "__name__"),(.str (aa "__name__") 165),(.str (aa "law_dm0045_03") 744)⟩,⟨aw P (aa "__doc__"),(.str (aa "__doc__") 166),.none⟩,⟨aw P (aa "__package__"),(.str (aa "__package__") 167),.none⟩,⟨aw P (aa "__loader__"),(.str (aa "__loader__") 168),(.builtin "__main__.__loader__#opaque")⟩,⟨aw P (aa "__spec__"),(.str (aa "__spec__") 169),.none⟩,⟨aw P (aa "__annotations__"),(.str (aa "__annotations__") 170),(.ref 6)⟩,⟨aw P (aa "__builtins__"),(.str (aa "__builtins__") 171),(.ref 4)⟩,⟨aw P (aa "__file__"),(.str (aa "__file__") 173),(.str (aa "/claim/cut.py") 172)⟩,⟨aw P (aa "__cached__"),(.str (aa "__cached__") 174),.none⟩,⟨aw P (aa "_wall"),(.str (aa "_wall") 193),(.ref 21)⟩,⟨aw P (aa "_tuplegetter"),(.str (aa "_tuplegetter") 252),(.ref 60)⟩,⟨aw P (aa "Match"),(.str (aa "Match") 380),(.ref 135)⟩,⟨aw P (aa "_calculate_ratio"),(.str (aa "_calculate_ratio") 388),(.ref 145)⟩,⟨aw P (aa "SequenceMatcher"),(.str (aa "SequenceMatcher") 592),(.ref 242)⟩,⟨aw P (aa "_keep_original_ws"),(.str (aa "_keep_original_ws") 601),(.ref 253)⟩,⟨aw P (aa "Differ"),(.str (aa "Differ") 743),(.ref 313)⟩,⟨aw P (aa "_law_row"),(.str (aa "_law_row") 751),(.ref 322)⟩,⟨aw P (aa "_law_marks"),(.str (aa "_law_marks") 764),(.ref 329)⟩,⟨aw P (aa "law"),(.str (aa "law") 770),(.ref 334)⟩]⟩ 19),⟨[]⟩⟩
noncomputable def o4 (P:Params):Obj:=⟨(.type "module"),some 0,.plain,⟨[]⟩⟩
noncomputable def ai0 (P:Params):Obj:=⟨(.type "function"),none,(.func ⟨(aa "_calculate_ratio"),(aa "_calculate_ratio"),y9 (m7 4),.stmts (j0 (m7 4)),i6 (m7 4),3,[],.none,.none,.none,(.str (aa "cpy313.difflib") 194),none,(.ref 144),.none,0⟩),⟨[]⟩⟩
noncomputable def ar5 (P:Params):Obj:=⟨(.type "code"),none,(.fields ⟨[(.str (aa "_calculate_ratio") 381),(.str (aa "_calculate_ratio") 382),(.str (aa "/claim/cut.py") 383),(.int 66 0),(.int 2 0),(.int 0 0),(.int 0 0),(.int 3 0),(.ref 139),(.bool true),(.int 181 0),(.ref 140),.none,(.ref 141),(.ref 142),(.ref 143),(.int 386 0),(.int 66 0),(.str (aa "/claim/cut.py") 387)]⟩),⟨[]⟩⟩
noncomputable def aI9 (P:Params):Obj:=⟨(.type "type"),none,(.cls ⟨(aa "Match"),[(.type "tuple")],[(.ref 135),(.type "tuple"),(.type "object")],134,(aa "Match"),false,[],[],false,none,false⟩),⟨[some (.ref 65),none,some (.str (aa "Match") 253),some (.str (aa "Match") 261),some .none,some (.bool false)]⟩⟩
noncomputable def aJ0 (P:Params):Obj:=⟨(.type "dict"),none,(.dict ⟨[⟨aw P (aa "__module__"),(.str (aa "__module__") 260),(.str (aa "cpy313.difflib") 194)⟩,⟨aw P (aa "__firstlineno__"),(.str (aa "__firstlineno__") 264),(.int 23 263)⟩,⟨aw P (aa "__doc__"),(.str (aa "__doc__") 266),(.str (aa "Match(a, b, size)") 265)⟩,⟨aw P (aa "__slots__"),(.str (aa "__slots__") 268),(.ref 73)⟩,⟨aw P (aa "_fields"),(.str (aa "_fields") 272),(.ref 74)⟩,⟨aw P (aa "_field_defaults"),(.str (aa "_field_defaults") 273),(.ref 75)⟩,⟨aw P (aa "__new__"),(.str (aa "__new__") 284),(.ref 136)⟩,⟨aw P (aa "_make"),(.str (aa "_make") 306),(.ref 91)⟩,⟨aw P (aa "_replace"),(.str (aa "_replace") 317),(.ref 100)⟩,⟨aw P (aa "__replace__"),(.str (aa "__replace__") 318),(.ref 100)⟩,⟨aw P (aa "__repr__"),(.str (aa "__repr__") 326),(.ref 107)⟩,⟨aw P (aa "_asdict"),(.str (aa "_asdict") 333),(.ref 114)⟩,⟨aw P (aa "__getnewargs__"),(.str (aa "__getnewargs__") 341),(.ref 121)⟩,⟨aw P (aa "__match_args__"),(.str (aa "__match_args__") 345),(.ref 122)⟩,⟨aw P (aa "a"),(.str (aa "a") 355),(.ref 124)⟩,⟨aw P (aa "b"),(.str (aa "b") 365),(.ref 127)⟩,⟨aw P (aa "size"),(.str (aa "size") 375),(.ref 130)⟩,⟨aw P (aa "__static_attributes__"),(.str (aa "__static_attributes__") 376),(.ref 132)⟩]⟩ 2),⟨[]⟩⟩
noncomputable def aJ1 (P:Params):Obj:=⟨(.type "staticmethod"),none,(.fields ⟨[(.ref 82)]⟩),⟨[]⟩⟩
noncomputable def o82 (P:Params):Obj:=⟨(.type "function"),none,(.func ⟨(aa "__new__"),(aa "Match.__new__"),y9 (c9 3 4),.stmts (j0 (c9 3 4)),i6 (c9 3 4),3,[],.none,.none,(.str (z3 (c9 3 4)) 283),(.str (aa "cpy313.difflib") 194),none,(.ref 81),.none,0⟩),⟨[]⟩⟩
noncomputable def o81 (P:Params):Obj:=⟨(.type "code"),none,(.fields ⟨[(.str (aa "__new__") 274),(.str (aa "Match.__new__") 275),(.str (aa "/claim/cut.py") 276),(.int 29 0),(.int 4 0),(.int 0 0),(.int 0 0),(.int 3 0),(.ref 76),(.bool true),(.int 181 0),(.ref 77),.none,(.ref 78),(.ref 79),(.ref 80),(.int 281 0),(.int 29 0),(.str (aa "/claim/cut.py") 282)]⟩),⟨[]⟩⟩
noncomputable def o91 (P:Params):Obj:=⟨(.type "classmethod"),some 90,(.fields ⟨[(.ref 89),(.bool false)]⟩),⟨[]⟩⟩
noncomputable def o90 (P:Params):Obj:=⟨(.type "dict"),none,(.dict ⟨[⟨aw P (aa "__module__"),(.str (aa "__module__") 295),(.str (aa "cpy313.difflib") 194)⟩,⟨aw P (aa "__name__"),(.str (aa "__name__") 298),(.str (aa "_make") 297)⟩,⟨aw P (aa "__qualname__"),(.str (aa "__qualname__") 301),(.str (aa "Match._make") 300)⟩,⟨aw P (aa "__doc__"),(.str (aa "__doc__") 303),(.str (z3 (c9 3 5)) 293)⟩,⟨aw P (aa "__annotations__"),(.str (aa "__annotations__") 305),(.ref 92)⟩]⟩ 5),⟨[]⟩⟩
noncomputable def o89 (P:Params):Obj:=⟨(.type "function"),none,(.func ⟨(aa "_make"),(aa "Match._make"),y9 (c9 3 5),.stmts (j0 (c9 3 5)),i6 (c9 3 5),3,[],.none,.none,(.str (z3 (c9 3 5)) 293),(.str (aa "cpy313.difflib") 194),(some 92),(.ref 88),.none,0⟩),⟨[]⟩⟩
noncomputable def o88 (P:Params):Obj:=⟨(.type "code"),none,(.fields ⟨[(.str (aa "_make") 285),(.str (aa "Match._make") 286),(.str (aa "/claim/cut.py") 287),(.int 33 0),(.int 2 0),(.int 0 0),(.int 0 0),(.int 3 0),(.ref 83),(.bool true),(.int 181 0),(.ref 84),.none,(.ref 85),(.ref 86),(.ref 87),(.int 291 0),(.int 33 0),(.str (aa "/claim/cut.py") 292)]⟩),⟨[]⟩⟩
noncomputable def ar8 (P:Params):Obj:=⟨(.type "tuple"),none,(.seq ⟨[.none,(.str (aa "") 404),(.str (aa "") 405),(.bool true)]⟩ 0),⟨[]⟩⟩
noncomputable def Y2 (P:Params):Obj:=⟨(.type "function"),none,(.func ⟨(aa "__init__"),(aa "SequenceMatcher.__init__"),y9 (c9 5 1),.stmts (j0 (c9 5 1)),i6 (c9 5 1),3,[],(.ref 153),.none,(.str (z3 (c9 5 1)) 416),(.str (aa "cpy313.difflib") 194),none,(.ref 159),.none,0⟩),⟨[]⟩⟩
noncomputable def ar9 (P:Params):Obj:=⟨(.type "code"),none,(.fields ⟨[(.str (aa "__init__") 406),(.str (aa "SequenceMatcher.__init__") 407),(.str (aa "/claim/cut.py") 408),(.int 145 0),(.int 5 0),(.int 0 0),(.int 0 0),(.int 3 0),(.ref 154),(.bool true),(.int 181 0),(.ref 155),.none,(.ref 156),(.ref 157),(.ref 158),(.int 414 0),(.int 145 0),(.str (aa "/claim/cut.py") 415)]⟩),⟨[]⟩⟩
noncomputable def ac9 (P:Params):Obj:=⟨(.type "function"),none,(.func ⟨(aa "set_seqs"),(aa "SequenceMatcher.set_seqs"),y9 (c9 5 2),.stmts (j0 (c9 5 2)),i6 (c9 5 2),3,[],.none,.none,(.str (z3 (c9 5 2)) 426),(.str (aa "cpy313.difflib") 194),none,(.ref 166),.none,0⟩),⟨[]⟩⟩
noncomputable def as0 (P:Params):Obj:=⟨(.type "code"),none,(.fields ⟨[(.str (aa "set_seqs") 418),(.str (aa "SequenceMatcher.set_seqs") 419),(.str (aa "/claim/cut.py") 420),(.int 173 0),(.int 3 0),(.int 0 0),(.int 0 0),(.int 3 0),(.ref 161),(.bool true),(.int 181 0),(.ref 162),.none,(.ref 163),(.ref 164),(.ref 165),(.int 424 0),(.int 173 0),(.str (aa "/claim/cut.py") 425)]⟩),⟨[]⟩⟩
noncomputable def U8 (P:Params):Obj:=⟨(.type "function"),none,(.func ⟨(aa "set_seq1"),(aa "SequenceMatcher.set_seq1"),y9 (c9 5 3),.stmts (j0 (c9 5 3)),i6 (c9 5 3),3,[],.none,.none,(.str (z3 (c9 5 3)) 435),(.str (aa "cpy313.difflib") 194),none,(.ref 173),.none,0⟩),⟨[]⟩⟩
noncomputable def as1 (P:Params):Obj:=⟨(.type "code"),none,(.fields ⟨[(.str (aa "set_seq1") 428),(.str (aa "SequenceMatcher.set_seq1") 429),(.str (aa "/claim/cut.py") 430),(.int 184 0),(.int 2 0),(.int 0 0),(.int 0 0),(.int 3 0),(.ref 168),(.bool true),(.int 181 0),(.ref 169),.none,(.ref 170),(.ref 171),(.ref 172),(.int 433 0),(.int 184 0),(.str (aa "/claim/cut.py") 434)]⟩),⟨[]⟩⟩
noncomputable def U9 (P:Params):Obj:=⟨(.type "function"),none,(.func ⟨(aa "set_seq2"),(aa "SequenceMatcher.set_seq2"),y9 (c9 5 4),.stmts (j0 (c9 5 4)),i6 (c9 5 4),3,[],.none,.none,(.str (z3 (c9 5 4)) 444),(.str (aa "cpy313.difflib") 194),none,(.ref 180),.none,0⟩),⟨[]⟩⟩
noncomputable def as2 (P:Params):Obj:=⟨(.type "code"),none,(.fields ⟨[(.str (aa "set_seq2") 437),(.str (aa "SequenceMatcher.set_seq2") 438),(.str (aa "/claim/cut.py") 439),(.int 209 0),(.int 2 0),(.int 0 0),(.int 0 0),(.int 3 0),(.ref 175),(.bool true),(.int 181 0),(.ref 176),.none,(.ref 177),(.ref 178),(.ref 179),(.int 442 0),(.int 209 0),(.str (aa "/claim/cut.py") 443)]⟩),⟨[]⟩⟩
noncomputable def Y3 (P:Params):Obj:=⟨(.type "function"),none,(.func ⟨(aa "__chain_b"),(aa "SequenceMatcher.__chain_b"),y9 (c9 5 5),.stmts (j0 (c9 5 5)),i6 (c9 5 5),3,[],.none,.none,.none,(.str (aa "cpy313.difflib") 194),none,(.ref 187),.none,0⟩),⟨[]⟩⟩
noncomputable def as3 (P:Params):Obj:=⟨(.type "code"),none,(.fields ⟨[(.str (aa "__chain_b") 446),(.str (aa "SequenceMatcher.__chain_b") 447),(.str (aa "/claim/cut.py") 448),(.int 236 0),(.int 1 0),(.int 0 0),(.int 0 0),(.int 3 0),(.ref 182),(.bool true),(.int 181 0),(.ref 183),.none,(.ref 184),(.ref 185),(.ref 186),(.int 461 0),(.int 236 0),(.str (aa "/claim/cut.py") 462)]⟩),⟨[]⟩⟩
noncomputable def as4 (P:Params):Obj:=⟨(.type "tuple"),none,(.seq ⟨[(.int 0 464),.none,(.int 0 465),.none]⟩ 0),⟨[]⟩⟩
noncomputable def V0 (P:Params):Obj:=⟨(.type "function"),none,(.func ⟨(aa "find_longest_match"),(aa "SequenceMatcher.find_longest_match"),y9 (c9 5 6),.stmts (j0 (c9 5 6)),i6 (c9 5 6),3,[],(.ref 189),.none,(.str (z3 (c9 5 6)) 490),(.str (aa "cpy313.difflib") 194),none,(.ref 195),.none,0⟩),⟨[]⟩⟩
noncomputable def as5 (P:Params):Obj:=⟨(.type "code"),none,(.fields ⟨[(.str (aa "find_longest_match") 466),(.str (aa "SequenceMatcher.find_longest_match") 467),(.str (aa "/claim/cut.py") 468),(.int 260 0),(.int 5 0),(.int 0 0),(.int 0 0),(.int 3 0),(.ref 190),(.bool true),(.int 181 0),(.ref 191),.none,(.ref 192),(.ref 193),(.ref 194),(.int 488 0),(.int 260 0),(.str (aa "/claim/cut.py") 489)]⟩),⟨[]⟩⟩
noncomputable def V1 (P:Params):Obj:=⟨(.type "function"),none,(.func ⟨(aa "get_matching_blocks"),(aa "SequenceMatcher.get_matching_blocks"),y9 (c9 5 7),.stmts (j0 (c9 5 7)),i6 (c9 5 7),3,[],.none,.none,(.str (z3 (c9 5 7)) 517),(.str (aa "cpy313.difflib") 194),none,(.ref 202),.none,0⟩),⟨[]⟩⟩
noncomputable def as6 (P:Params):Obj:=⟨(.type "code"),none,(.fields ⟨[(.str (aa "get_matching_blocks") 492),(.str (aa "SequenceMatcher.get_matching_blocks") 493),(.str (aa "/claim/cut.py") 494),(.int 335 0),(.int 1 0),(.int 0 0),(.int 0 0),(.int 3 0),(.ref 197),(.bool true),(.int 181 0),(.ref 198),.none,(.ref 199),(.ref 200),(.ref 201),(.int 515 0),(.int 335 0),(.str (aa "/claim/cut.py") 516)]⟩),⟨[]⟩⟩
noncomputable def Y4 (P:Params):Obj:=⟨(.type "function"),none,(.func ⟨(aa "get_opcodes"),(aa "SequenceMatcher.get_opcodes"),y9 (c9 5 8),.stmts (j0 (c9 5 8)),i6 (c9 5 8),3,[],.none,.none,(.str (z3 (c9 5 8)) 532),(.str (aa "cpy313.difflib") 194),none,(.ref 209),.none,0⟩),⟨[]⟩⟩
noncomputable def as7 (P:Params):Obj:=⟨(.type "code"),none,(.fields ⟨[(.str (aa "get_opcodes") 519),(.str (aa "SequenceMatcher.get_opcodes") 520),(.str (aa "/claim/cut.py") 521),(.int 383 0),(.int 1 0),(.int 0 0),(.int 0 0),(.int 3 0),(.ref 204),(.bool true),(.int 181 0),(.ref 205),.none,(.ref 206),(.ref 207),(.ref 208),(.int 530 0),(.int 383 0),(.str (aa "/claim/cut.py") 531)]⟩),⟨[]⟩⟩
noncomputable def as8 (P:Params):Obj:=⟨.none,none,(.fields ⟨[]⟩),⟨[]⟩⟩
noncomputable def ad0 (P:Params):Obj:=⟨(.type "function"),none,(.func ⟨(aa "ratio"),(aa "SequenceMatcher.ratio"),y9 (c9 5 10),.stmts (j0 (c9 5 10)),i6 (c9 5 10),3,[],.none,.none,(.str (z3 (c9 5 10)) 550),(.str (aa "cpy313.difflib") 194),none,(.ref 224),.none,0⟩),⟨[]⟩⟩
noncomputable def ad1 (P:Params):Obj:=⟨(.type "code"),none,(.fields ⟨[(.str (aa "ratio") 543),(.str (aa "SequenceMatcher.ratio") 544),(.str (aa "/claim/cut.py") 545),(.int 433 0),(.int 1 0),(.int 0 0),(.int 0 0),(.int 3 0),(.ref 219),(.bool true),(.int 181 0),(.ref 220),.none,(.ref 221),(.ref 222),(.ref 223),(.int 548 0),(.int 433 0),(.str (aa "/claim/cut.py") 549)]⟩),⟨[]⟩⟩
noncomputable def Y5 (P:Params):Obj:=⟨(.type "function"),none,(.func ⟨(aa "quick_ratio"),(aa "SequenceMatcher.quick_ratio"),y9 (c9 5 11),.stmts (j0 (c9 5 11)),i6 (c9 5 11),3,[],.none,.none,(.str (z3 (c9 5 11)) 564),(.str (aa "cpy313.difflib") 194),none,(.ref 231),.none,0⟩),⟨[]⟩⟩
noncomputable def as9 (P:Params):Obj:=⟨(.type "code"),none,(.fields ⟨[(.str (aa "quick_ratio") 552),(.str (aa "SequenceMatcher.quick_ratio") 553),(.str (aa "/claim/cut.py") 554),(.int 457 0),(.int 1 0),(.int 0 0),(.int 0 0),(.int 3 0),(.ref 226),(.bool true),(.int 181 0),(.ref 227),.none,(.ref 228),(.ref 229),(.ref 230),(.int 562 0),(.int 457 0),(.str (aa "/claim/cut.py") 563)]⟩),⟨[]⟩⟩
noncomputable def ad2 (P:Params):Obj:=⟨(.type "function"),none,(.func ⟨(aa "real_quick_ratio"),(aa "SequenceMatcher.real_quick_ratio"),y9 (c9 5 12),.stmts (j0 (c9 5 12)),i6 (c9 5 12),3,[],.none,.none,(.str (z3 (c9 5 12)) 574),(.str (aa "cpy313.difflib") 194),none,(.ref 238),.none,0⟩),⟨[]⟩⟩
noncomputable def at0 (P:Params):Obj:=⟨(.type "code"),none,(.fields ⟨[(.str (aa "real_quick_ratio") 566),(.str (aa "SequenceMatcher.real_quick_ratio") 567),(.str (aa "/claim/cut.py") 568),(.int 480 0),(.int 1 0),(.int 0 0),(.int 0 0),(.int 3 0),(.ref 233),(.bool true),(.int 181 0),(.ref 234),.none,(.ref 235),(.ref 236),(.ref 237),(.int 572 0),(.int 480 0),(.str (aa "/claim/cut.py") 573)]⟩),⟨[]⟩⟩
noncomputable def aJ4 (P:Params):Obj:=⟨(.type "type"),none,(.cls ⟨(aa "SequenceMatcher"),[(.type "object")],[(.ref 242),(.type "object")],241,(aa "SequenceMatcher"),true,[],[],false,none,false⟩),⟨[none,none,some (.str (aa "SequenceMatcher") 389),some (.str (aa "SequenceMatcher") 397),some (.builtin "object.__new__"),some (.bool true)]⟩⟩
noncomputable def aJ5 (P:Params):Obj:=⟨(.type "dict"),none,(.dict ⟨[⟨aw P (aa "__module__"),(.str (aa "__module__") 396),(.str (aa "cpy313.difflib") 194)⟩,⟨aw P (aa "__firstlineno__"),(.str (aa "__firstlineno__") 400),(.int 70 399)⟩,⟨aw P (aa "__doc__"),(.str (aa "__doc__") 402),(.str D5 401)⟩,⟨aw P (aa "__init__"),(.str (aa "__init__") 417),(.ref 160)⟩,⟨aw P (aa "set_seqs"),(.str (aa "set_seqs") 427),(.ref 167)⟩,⟨aw P (aa "set_seq1"),(.str (aa "set_seq1") 436),(.ref 174)⟩,⟨aw P (aa "set_seq2"),(.str (aa "set_seq2") 445),(.ref 181)⟩,⟨aw P (aa "_SequenceMatcher__chain_b"),(.str (aa "_SequenceMatcher__chain_b") 463),(.ref 188)⟩,⟨aw P (aa "find_longest_match"),(.str (aa "find_longest_match") 491),(.ref 196)⟩,⟨aw P (aa "get_matching_blocks"),(.str (aa "get_matching_blocks") 518),(.ref 203)⟩,⟨aw P (aa "get_opcodes"),(.str (aa "get_opcodes") 533),(.ref 210)⟩,⟨aw P (aa "get_grouped_opcodes"),(.str (aa "get_grouped_opcodes") 542),(.ref 218)⟩,⟨aw P (aa "ratio"),(.str (aa "ratio") 551),(.ref 225)⟩,⟨aw P (aa "quick_ratio"),(.str (aa "quick_ratio") 565),(.ref 232)⟩,⟨aw P (aa "real_quick_ratio"),(.str (aa "real_quick_ratio") 575),(.ref 239)⟩,⟨aw P (aa "__static_attributes__"),(.str (aa "__static_attributes__") 586),(.ref 240)⟩,⟨aw P (aa "__dict__"),(.str (aa "__dict__") 588),(.ref 243)⟩,⟨aw P (aa "__weakref__"),(.str (aa "__weakref__") 590),(.ref 244)⟩]⟩ 3),⟨[]⟩⟩
noncomputable def aJ6 (P:Params):Obj:=⟨(.type "getset_descriptor"),none,(.fields ⟨[(.str (aa "__dict__") 587),(.ref 242),(.builtin "function.__dict__"),(.builtin "function.__dict__#set")]⟩),⟨[]⟩⟩
noncomputable def aJ7 (P:Params):Obj:=⟨(.type "getset_descriptor"),none,(.fields ⟨[(.str (aa "__weakref__") 589),(.ref 242),(.builtin "ExceptionGroup.__weakref__"),.none]⟩),⟨[]⟩⟩
noncomputable def at1 (P:Params):Obj:=⟨.none,none,(.fields ⟨[]⟩),⟨[]⟩⟩
noncomputable def ad3 (P:Params):Obj:=⟨(.type "code"),none,(.fields ⟨[(.str (aa "_keep_original_ws") 593),(.str (aa "_keep_original_ws") 594),(.str (aa "/claim/cut.py") 595),(.int 488 0),(.int 2 0),(.int 0 0),(.int 0 0),(.int 3 0),(.ref 247),(.bool true),(.int 181 0),(.ref 248),.none,(.ref 249),(.ref 250),(.ref 251),(.int 598 0),(.int 488 0),(.str (aa "/claim/cut.py") 599)]⟩),⟨[]⟩⟩
noncomputable def ai3 (P:Params):Obj:=⟨(.type "function"),none,(.func ⟨(aa "_keep_original_ws"),(aa "_keep_original_ws"),y9 (m7 6),.stmts (j0 (m7 6)),i6 (m7 6),3,[],.none,.none,(.str (z3 (m7 6)) 600),(.str (aa "cpy313.difflib") 194),none,(.ref 252),.none,0⟩),⟨[]⟩⟩
noncomputable def aJ8 (P:Params):Obj:=⟨(.type "type"),none,(.cls ⟨(aa "Differ"),[(.type "object")],[(.ref 313),(.type "object")],312,(aa "Differ"),true,[],[],false,none,false⟩),⟨[none,none,some (.str (aa "Differ") 602),some (.str (aa "Differ") 610),some (.builtin "object.__new__"),some (.bool true)]⟩⟩
noncomputable def aJ9 (P:Params):Obj:=⟨(.type "dict"),none,(.dict ⟨[⟨aw P (aa "__module__"),(.str (aa "__module__") 609),(.str (aa "cpy313.difflib") 194)⟩,⟨aw P (aa "__firstlineno__"),(.str (aa "__firstlineno__") 613),(.int 491 612)⟩,⟨aw P (aa "__doc__"),(.str (aa "__doc__") 615),(.str D7 614)⟩,⟨aw P (aa "__init__"),(.str (aa "__init__") 626),(.ref 268)⟩,⟨aw P (aa "compare"),(.str (aa "compare") 643),(.ref 275)⟩,⟨aw P (aa "_dump"),(.str (aa "_dump") 656),(.ref 282)⟩,⟨aw P (aa "_plain_replace"),(.str (aa "_plain_replace") 672),(.ref 289)⟩,⟨aw P (aa "_fancy_replace"),(.str (aa "_fancy_replace") 708),(.ref 296)⟩,⟨aw P (aa "_fancy_helper"),(.str (aa "_fancy_helper") 722),(.ref 303)⟩,⟨aw P (aa "_qformat"),(.str (aa "_qformat") 734),(.ref 310)⟩,⟨aw P (aa "__static_attributes__"),(.str (aa "__static_attributes__") 737),(.ref 311)⟩,⟨aw P (aa "__dict__"),(.str (aa "__dict__") 739),(.ref 314)⟩,⟨aw P (aa "__weakref__"),(.str (aa "__weakref__") 741),(.ref 315)⟩]⟩ 3),⟨[]⟩⟩
noncomputable def Y6 (P:Params):Obj:=⟨(.type "function"),none,(.func ⟨(aa "__init__"),(aa "Differ.__init__"),y9 (c9 7 1),.stmts (j0 (c9 7 1)),i6 (c9 7 1),3,[],(.ref 261),.none,(.str (z3 (c9 7 1)) 625),(.str (aa "cpy313.difflib") 194),none,(.ref 267),.none,0⟩),⟨[]⟩⟩
noncomputable def at2 (P:Params):Obj:=⟨(.type "code"),none,(.fields ⟨[(.str (aa "__init__") 617),(.str (aa "Differ.__init__") 618),(.str (aa "/claim/cut.py") 619),(.int 577 0),(.int 3 0),(.int 0 0),(.int 0 0),(.int 3 0),(.ref 262),(.bool true),(.int 181 0),(.ref 263),.none,(.ref 264),(.ref 265),(.ref 266),(.int 623 0),(.int 577 0),(.str (aa "/claim/cut.py") 624)]⟩),⟨[]⟩⟩
noncomputable def at3 (P:Params):Obj:=⟨(.type "tuple"),none,(.seq ⟨[.none,.none]⟩ 0),⟨[]⟩⟩
noncomputable def aK0 (P:Params):Obj:=⟨(.type "getset_descriptor"),none,(.fields ⟨[(.str (aa "__dict__") 738),(.ref 313),(.builtin "function.__dict__"),(.builtin "function.__dict__#set")]⟩),⟨[]⟩⟩
noncomputable def aK1 (P:Params):Obj:=⟨(.type "getset_descriptor"),none,(.fields ⟨[(.str (aa "__weakref__") 740),(.ref 313),(.builtin "ExceptionGroup.__weakref__"),.none]⟩),⟨[]⟩⟩
noncomputable def ad4 (P:Params):Obj:=⟨(.type "function"),none,(.func ⟨(aa "_qformat"),(aa "Differ._qformat"),y9 (c9 7 7),.stmts (j0 (c9 7 7)),i6 (c9 7 7),3,[],.none,.none,(.str (z3 (c9 7 7)) 733),(.str (aa "cpy313.difflib") 194),none,(.ref 309),.none,0⟩),⟨[]⟩⟩
noncomputable def at4 (P:Params):Obj:=⟨(.type "code"),none,(.fields ⟨[(.str (aa "_qformat") 723),(.str (aa "Differ._qformat") 724),(.str (aa "/claim/cut.py") 725),(.int 729 0),(.int 5 0),(.int 0 0),(.int 0 0),(.int 35 0),(.ref 304),(.bool true),(.int 181 0),(.ref 305),.none,(.ref 306),(.ref 307),(.ref 308),(.int 731 0),(.int 729 0),(.str (aa "/claim/cut.py") 732)]⟩),⟨[]⟩⟩
noncomputable def at5 (P:Params):Obj:=⟨(.type "code"),none,(.fields ⟨[(.str (aa "_law_row") 746),(.str (aa "_law_row") 747),(.str (aa "/claim/cut.py") 748),(.int 754 0),(.int 1 0),(.int 0 0),(.int 0 0),(.int 3 0),(.ref 318),(.bool true),(.int 181 0),(.ref 319),.none,.none,.none,(.ref 320),(.int 749 0),(.int 754 0),(.str (aa "/claim/cut.py") 750)]⟩),⟨[]⟩⟩
noncomputable def ai4 (P:Params):Obj:=⟨(.type "function"),none,(.func ⟨(aa "_law_row"),(aa "_law_row"),y9 (m7 9),.stmts (j0 (m7 9)),i6 (m7 9),3,[],.none,.none,.none,(.str (aa "law_dm0045_03") 744),none,(.ref 321),.none,0⟩),⟨[]⟩⟩
noncomputable def at6 (P:Params):Obj:=⟨(.type "code"),none,(.fields ⟨[(.str (aa "_law_marks") 752),(.str (aa "_law_marks") 753),(.str (aa "/claim/cut.py") 754),(.int 756 0),(.int 3 0),(.int 0 0),(.int 0 0),(.int 3 0),(.ref 323),(.bool true),(.int 181 0),(.ref 324),.none,(.ref 325),(.ref 326),(.ref 327),(.int 762 0),(.int 756 0),(.str (aa "/claim/cut.py") 763)]⟩),⟨[]⟩⟩
noncomputable def ai5 (P:Params):Obj:=⟨(.type "function"),none,(.func ⟨(aa "_law_marks"),(aa "_law_marks"),y9 (m7 10),.stmts (j0 (m7 10)),i6 (m7 10),3,[],.none,.none,.none,(.str (aa "law_dm0045_03") 744),none,(.ref 328),.none,0⟩),⟨[]⟩⟩
noncomputable def at7 (P:Params):Obj:=⟨.none,none,(.fields ⟨[]⟩),⟨[]⟩⟩
noncomputable def at8 (P:Params):Obj:=⟨(.type "code"),none,(.fields ⟨[(.str (aa "law") 765),(.str (aa "law") 766),(.str (aa "/claim/cut.py") 767),(.int 768 0),(.int 1 0),(.int 0 0),(.int 0 0),(.int 3 0),(.ref 330),(.bool true),(.int 181 0),(.ref 331),.none,.none,.none,(.ref 332),(.int 768 0),(.int 768 0),(.str (aa "/claim/cut.py") 769)]⟩),⟨[]⟩⟩
noncomputable def ad5 (P:Params):Obj:=⟨(.type "function"),none,(.func ⟨(aa "law"),(aa "law"),y9 (m7 11),.stmts (j0 (m7 11)),i6 (m7 11),3,[],.none,.none,.none,(.str (aa "law_dm0045_03") 744),none,(.ref 333),.none,0⟩),⟨[]⟩⟩
noncomputable def K (P:Params):List (Nat×Obj):=[(2,o2 P),(3,o3 P),(4,o4 P),(145,ai0 P),(144,ar5 P),(135,aI9 P),(134,aJ0 P),(136,aJ1 P),(82,o82 P),(81,o81 P),(91,o91 P),(90,o90 P),(89,o89 P),(88,o88 P),(153,ar8 P),(160,Y2 P),(159,ar9 P),(167,ac9 P),(166,as0 P),(174,U8 P),(173,as1 P),(181,U9 P),(180,as2 P),(188,Y3 P),(187,as3 P),(189,as4 P),(196,V0 P),(195,as5 P),(203,V1 P),(202,as6 P),(210,Y4 P),(209,as7 P),(220,as8 P),(225,ad0 P),(224,ad1 P),(232,Y5 P),(231,as9 P),(239,ad2 P),(238,at0 P),(242,aJ4 P),(241,aJ5 P),(243,aJ6 P),(244,aJ7 P),(248,at1 P),(252,ad3 P),(253,ai3 P),(313,aJ8 P),(312,aJ9 P),(268,Y6 P),(267,at2 P),(261,at3 P),(314,aK0 P),(315,aK1 P),(310,ad4 P),(309,at4 P),(321,at5 P),(322,ai4 P),(328,at6 P),(329,ai5 P),(331,at7 P),(333,at8 P),(334,ad5 P)]
noncomputable def asK:List Nat:=[2,3,4,145,144,135,134,136,82,81,91,90,89,88,153,160,159,167,166,174,173,181,180,188,187,189,196,195,203,202,210,209,220,225,224,232,231,239,238,242,241,243,244,248,252,253,313,312,268,267,261,314,315,310,309,321,322,328,329,331,333,334]
noncomputable def kS (P:Params):List (Option Obj):=[some (o2 P),some (o3 P),some (o4 P),some (ai0 P),some (ar5 P),some (aI9 P),some (aJ0 P),some (aJ1 P),some (o82 P),some (o81 P),some (o91 P),some (o90 P),some (o89 P),some (o88 P),some (ar8 P),some (Y2 P),some (ar9 P),some (ac9 P),some (as0 P),some (U8 P),some (as1 P),some (U9 P),some (as2 P),some (Y3 P),some (as3 P),some (as4 P),some (V0 P),some (as5 P),some (V1 P),some (as6 P),some (Y4 P),some (as7 P),some (as8 P),some (ad0 P),some (ad1 P),some (Y5 P),some (as9 P),some (ad2 P),some (at0 P),some (aJ4 P),some (aJ5 P),some (aJ6 P),some (aJ7 P),some (at1 P),some (ad3 P),some (ai3 P),some (aJ8 P),some (aJ9 P),some (Y6 P),some (at2 P),some (at3 P),some (aK0 P),some (aK1 P),some (ad4 P),some (at4 P),some (at5 P),some (ai4 P),some (at6 P),some (ai5 P),some (at7 P),some (at8 P),some (ad5 P)]
noncomputable def q:Program:=view pP [0,2,3,4,5,6,7,9,10,11]
noncomputable def loose:List Str:=["_tuplegetter","Match","SequenceMatcher"]
noncomputable def V2 (p:Program) (w:World) (os:OsState):Option SharedT:=ah9 aq6 p w 11 (some (.ref 6)) 400 8 ⟨aq7 w.params,11,(boot_heap w.params).life,Array.mk [],boot_drawn,boot_toks,os⟩ (topStub p)
noncomputable def topA (p:Program) (w:World) (os:OsState):Option Bool:=(V2 p w os).map fun s=>aq8 p w s.abs&&Nat.ble 406 s.toks
noncomputable def aK2 (p:Program) (s:Shared):=openSeen (view p [0,2,3,4,5,6,7,9,10,11]) loose [] (fun s=>xlAt (view p [0,2,3,4,5,6,7,9,10,11]) [] s&&recOk [] s) true s
noncomputable def topB (p:Program) (w:World) (os:OsState):=(V2 p w os).map fun s=>aK2 p s.abs
noncomputable def goodB (p:Program):=openGood (view p [0,2,3,4,5,6,7,9,10,11]) loose
noncomputable def topC (p:Program) (w:World) (os:OsState):Option (List (Option Obj)):=(V2 p w os).map fun s=>asK.map (ac4 s)
noncomputable abbrev cM6 (w:World) (os:OsState):=V2 pP w os
noncomputable abbrev aK3 (s:Shared):=aK2 pP s
theorem twA:(fun _=>true) topA=true:=by k_qdec
theorem twB:(fun _=>true) topB=true:=by k_qdec
theorem twC:(fun _=>true) topC=true:=by k_qdec
theorem twG:(fun _=>true) goodB=true:=by k_qdec
theorem bq0 (w:World):topA pP w=fun _=>some true:=by
 rw [<- ar4,PySem.W.Fast.te5067563107919825018]; kernel_rfl
theorem bq1 (w:World):topB pP w=fun _=>some (goodB pP):=by
 rw [<- ar4,PySem.W.Fast.te2543148203304448840,PySem.W.Fast.te4040843021490743674]; kernel_rfl
theorem bq2 (w:World):topC pP w=fun _=>some (kS w.params):=by
 rw [<- ar4,PySem.W.Fast.te17501544405551553966]; kernel_rfl
theorem bq3 (P:Params):kS P=((K P).map (·.2)).map some:=rfl
theorem bq4 (w:World) (os:OsState):∃ r,V2 pP w os=some r /\ aq8 pP w r.abs=true /\ aK3 r.abs=goodB pP /\ asK.map (ac4 r)=kS w.params /\ Nat.ble 406 r.toks=true:=by
 have a:=congrFun (bq0 w) os
 have b:=congrFun (bq1 w) os
 have c:=congrFun (bq2 w) os
 unfold topA at a
 unfold topB at b
 unfold topC at c
 cases h:V2 pP w os with
 | none=>rw [h] at a; cases a
 | some r =>
  rw [h] at a b c
  have a:=gY.mp (cE a)
  exact ⟨r,rfl,a.1,cE b,cE c,a.2⟩
theorem aK4:importedModules pP.main.body=[]:=by kernel_rfl
theorem bq5 (w:World):(fencedOpening iw pP w 6000).map (fun s=>(s.heap,s.gens,s.drawn,s.toks))=some (boot_heap w.params,Array.mk [],boot_drawn,boot_toks) :=
 boot_open (p:=pP) (N:=6000) (by kernel_rfl) (by rfl) (fun s=>by kernel_rfl) w
theorem bq6 (w:World):((boot_heap w.params).isNs aT&&(Array.mk ([]:List GenState)).size==0)=true:=by kernel_rfl
theorem bq7 (w:World):(boot_heap w.params).objs.size=11:=by kernel_rfl
theorem bq8 (w:World):(boot_heap w.params).nsMap aT "__annotations__"=some (.ref 6):=by kernel_rfl
theorem bq9 (w:World) (os:OsState):(⟨aq7 w.params,11,(boot_heap w.params).life,Array.mk [],boot_drawn,boot_toks,os⟩:SharedT).abs=⟨boot_heap w.params,Array.mk [],boot_drawn,boot_toks,os⟩:=by
 unfold SharedT.abs; rw [bp0]
noncomputable abbrev Hk:Hook:=kHook K asK fun _=>rfl
theorem br0 (w:World) (os:OsState):∃ r:SharedT,topFrom iw pP w 6000 ⟨boot_heap w.params,Array.mk [],boot_drawn,boot_toks,os⟩=some r.abs /\ aK3 r.abs=goodB pP /\ (asK.map r.abs.heap.get?=(K w.params).map fun p=>some p.2) /\ Nat.ble 406 r.abs.toks=true:=by
 obtain ⟨r,h1,h2,h3,h4,h5⟩:=bq4 w os
 unfold V2 at h1
 obtain ⟨M,hM,hr⟩:=aI7 8 _ _ _ h1
 have hr:=aI4 _ _ _ _ hr
 have hr:=topRun_mono (6000 - M) _ _ _ _ hr
 rw [show M+(6000 - M)=6000 by omega,<- bo9,bq9] at hr
 refine ⟨r,?_,h3,?_,h5⟩
 · unfold topFrom
   dsimp only
   rw [bq6,bq7,bq8,hr,aK4]
   unfold aq8 at h2
   show (match staticsOk [] (boot_heap w.params) r.abs.heap&&namesBound pP r.abs.heap&&gensDone r.abs&&laidKept (boot_heap w.params) r.abs.heap with | true=>some r.abs | false=>none)=_
   rw [h2]
 · rw [bq3] at h4
   rw [aI5 h4,bu]
   rfl
theorem left:LeftO pP q loose (fun s=>xlAt q [] s&&recOk [] s) (fun s=>(Hk.obs s,Nat.ble 406 s.toks)) (fun w=>(Hk.val w,true)) 6000:=by
 intro w
 obtain ⟨⟨h,gs,d,k,os⟩,e,e'⟩:=bp.mp (bq5 w)
 dsimp only at e'
 obtain ⟨e1,e2,e3,e4⟩:h=boot_heap w.params /\ gs=Array.mk [] /\ d=boot_drawn /\ k=boot_toks:=by simpa only [Prod.mk.injEq] using e'
 subst e1 e2 e3 e4
 obtain ⟨r,t,h3,h4,h5⟩:=br0 w os
 unfold openEnds
 rw [e,aK4,dZ,t,iq]
 have h3:openSeen q loose [] (fun s=>xlAt q [] s&&recOk [] s) true r.abs=openGood q loose:=h3
 refine congrArg some ?_
 rw [h3]
 exact congrArg (Prod.mk _) (Prod.ext h4 h5)
end Mine
set_option backward.match.sparseCases true
section
set_option autoImplicit false
namespace Mine
theorem d0 {P Q:Prop} {G:Prop} (h:P /\ Q) (k:P -> Q -> G):G:=h.elim k
theorem c0 {A:Sort _} {P:A -> Prop} {G:Prop} (h:∃ x,P x) (k:∀ x,P x -> G):G:=h.elim k
theorem l9 {P Q R:Prop} {G:Prop} (h:P /\ Q /\ R) (k:P -> Q -> R -> G):G:=d0 h.2 (k h.1)
theorem w0 {A B:Sort _} {P:A -> B -> Prop} {G:Prop} (h:∃ x y,P x y) (k:∀ x y,P x y -> G):G:=h.elim fun x g=>c0 g (k x)
theorem n9 {P Q R S:Prop} {G:Prop} (h:P /\ Q /\ R /\ S) (k:P -> Q -> R -> S -> G):G:=l9 h.2 (k h.1)
theorem B4 {A B C:Sort _} {P:A -> B -> C -> Prop} {G:Prop} (h:∃ x y z,P x y z) (k:∀ x y z,P x y z -> G):G:=h.elim fun x g=>w0 g (k x)
theorem G7 {P Q R S T:Prop} {G:Prop} (h:P /\ Q /\ R /\ S /\ T) (k:P -> Q -> R -> S -> T -> G):G:=n9 h.2 (k h.1)
theorem T2 {A B C D:Sort _} {P:A -> B -> C -> D -> Prop} {G:Prop} (h:∃ x y z u,P x y z u) (k:∀ x y z u,P x y z u -> G):G:=h.elim fun x g=>B4 g (k x)
theorem N4 {P Q R S T U:Prop} {G:Prop} (h:P /\ Q /\ R /\ S /\ T /\ U) (k:P -> Q -> R -> S -> T -> U -> G):G:=G7 h.2 (k h.1)
theorem Y7 {A B C D H:Sort _} {P:A -> B -> C -> D -> H -> Prop} {G:Prop} (h:∃ x y z u v,P x y z u v) (k:∀ x y z u v,P x y z u v -> G):G:=h.elim fun x g=>T2 g (k x)
theorem V3 {P Q R S T U V:Prop} {G:Prop} (h:P /\ Q /\ R /\ S /\ T /\ U /\ V) (k:P -> Q -> R -> S -> T -> U -> V -> G):G:=N4 h.2 (k h.1)
theorem aK5 {A B C D H I:Sort _} {P:A -> B -> C -> D -> H -> I -> Prop} {G:Prop} (h:∃ x y z u v w,P x y z u v w) (k:∀ x y z u v w,P x y z u v w -> G):G:=h.elim fun x g=>Y7 g (k x)
theorem br1 {P Q R S T U V W:Prop} {G:Prop} (h:P /\ Q /\ R /\ S /\ T /\ U /\ V /\ W) (k:P -> Q -> R -> S -> T -> U -> V -> W -> G):G:=V3 h.2 (k h.1)
theorem L5 {A B C D H I J:Sort _} {P:A -> B -> C -> D -> H -> I -> J -> Prop} {G:Prop} (h:∃ x y z u v w a,P x y z u v w a) (k:∀ x y z u v w a,P x y z u v w a -> G):G:=h.elim fun x g=>aK5 g (k x)
theorem aK6 {P Q R S T U V W X:Prop} {G:Prop} (h:P /\ Q /\ R /\ S /\ T /\ U /\ V /\ W /\ X) (k:P -> Q -> R -> S -> T -> U -> V -> W -> X -> G):G:=br1 h.2 (k h.1)
theorem br2 {A B C D H I J K:Sort _} {P:A -> B -> C -> D -> H -> I -> J -> K -> Prop} {G:Prop} (h:∃ x y z u v w a b,P x y z u v w a b) (k:∀ x y z u v w a b,P x y z u v w a b -> G):G:=h.elim fun x g=>L5 g (k x)
theorem br3 {P Q R S T U V W X Y:Prop} {G:Prop} (h:P /\ Q /\ R /\ S /\ T /\ U /\ V /\ W /\ X /\ Y) (k:P -> Q -> R -> S -> T -> U -> V -> W -> X -> Y -> G):G:=aK6 h.2 (k h.1)
theorem aK7 {A B C D H I J K L:Sort _} {P:A -> B -> C -> D -> H -> I -> J -> K -> L -> Prop} {G:Prop} (h:∃ x y z u v w a b c,P x y z u v w a b c) (k:∀ x y z u v w a b c,P x y z u v w a b c -> G):G:=h.elim fun x g=>br2 g (k x)
theorem br4 {P Q R S T U V W X Y Z:Prop} {G:Prop} (h:P /\ Q /\ R /\ S /\ T /\ U /\ V /\ W /\ X /\ Y /\ Z) (k:P -> Q -> R -> S -> T -> U -> V -> W -> X -> Y -> Z -> G):G:=br3 h.2 (k h.1)
theorem br5 {A B C D H I J K L M:Sort _} {P:A -> B -> C -> D -> H -> I -> J -> K -> L -> M -> Prop} {G:Prop} (h:∃ x y z u v w a b c d,P x y z u v w a b c d) (k:∀ x y z u v w a b c d,P x y z u v w a b c d -> G):G:=h.elim fun x g=>aK7 g (k x)
theorem br6 {P Q R S T U V W X Y Z p:Prop} {G:Prop} (h:P /\ Q /\ R /\ S /\ T /\ U /\ V /\ W /\ X /\ Y /\ Z /\ p) (k:P -> Q -> R -> S -> T -> U -> V -> W -> X -> Y -> Z -> p -> G):G:=br4 h.2 (k h.1)
theorem br7 {A B C D H I J K L M N:Sort _} {P:A -> B -> C -> D -> H -> I -> J -> K -> L -> M -> N -> Prop} {G:Prop} (h:∃ x y z u v w a b c d e,P x y z u v w a b c d e) (k:∀ x y z u v w a b c d e,P x y z u v w a b c d e -> G):G:=h.elim fun x g=>br5 g (k x)
theorem br8 {P Q R S T U V W X Y Z p q:Prop} {G:Prop} (h:P /\ Q /\ R /\ S /\ T /\ U /\ V /\ W /\ X /\ Y /\ Z /\ p /\ q) (k:P -> Q -> R -> S -> T -> U -> V -> W -> X -> Y -> Z -> p -> q -> G):G:=br6 h.2 (k h.1)
theorem ai7 {A B C D H I J K L M N O:Sort _} {P:A -> B -> C -> D -> H -> I -> J -> K -> L -> M -> N -> O -> Prop} {G:Prop} (h:∃ x y z u v w a b c d e f,P x y z u v w a b c d e f) (k:∀ x y z u v w a b c d e f,P x y z u v w a b c d e f -> G):G:=h.elim fun x g=>br7 g (k x)
theorem b9 {A:Sort _} {P Q:A -> Prop} {G:Prop} (h:∃ x,P x /\ Q x) (k:∀ x,P x -> Q x -> G):G:=c0 h fun x h3=>d0 h3 (k x)
theorem Y8 {A:Sort _} {P:Prop} {Q R:A -> Prop} {G:Prop} (h:P /\ ∃ x,Q x /\ R x) (k:P -> ∀ x,Q x -> R x -> G):G:=d0 h fun p1 h4=>c0 h4 fun x h3=>d0 h3 (k p1 x)
theorem o0 {A:Sort _} {P Q R:A -> Prop} {G:Prop} (h:∃ x,P x /\ Q x /\ R x) (k:∀ x,P x -> Q x -> R x -> G):G:=c0 h fun x h4=>l9 h4 (k x)
theorem B5 {A B:Sort _} {P Q:A -> B -> Prop} {G:Prop} (h:∃ x y,P x y /\ Q x y) (k:∀ x y,P x y -> Q x y -> G):G:=w0 h fun x y h4=>d0 h4 (k x y)
theorem w5 {A:Sort _} {P Q:Prop} {R S:A -> Prop} {G:Prop} (h:P /\ Q /\ ∃ x,R x /\ S x) (k:P -> Q -> ∀ x,R x -> S x -> G):G:=l9 h fun p1 p2 h5=>c0 h5 fun x h3=>d0 h3 (k p1 p2 x)
theorem V4 {A:Sort _} {P Q R S:A -> Prop} {G:Prop} (h:∃ x,P x /\ Q x /\ R x /\ S x) (k:∀ x,P x -> Q x -> R x -> S x -> G):G:=c0 h fun x h5=>n9 h5 (k x)
theorem J5 {A B:Sort _} {P Q:A -> Prop} {R:A -> B -> Prop} {G:Prop} (h:∃ x,P x /\ Q x /\ ∃ y,R x y) (k:∀ x,P x -> Q x -> ∀ y,R x y -> G):G:=c0 h fun x h5=>l9 h5 fun p1 p2 h4=>c0 h4 (k x p1 p2)
theorem e8 {A B:Sort _} {P Q R:A -> B -> Prop} {G:Prop} (h:∃ x y,P x y /\ Q x y /\ R x y) (k:∀ x y,P x y -> Q x y -> R x y -> G):G:=w0 h fun x y h5=>l9 h5 (k x y)
theorem F3 {A B C:Sort _} {P Q:A -> B -> C -> Prop} {G:Prop} (h:∃ x y z,P x y z /\ Q x y z) (k:∀ x y z,P x y z -> Q x y z -> G):G:=B4 h fun x y z h5=>d0 h5 (k x y z)
theorem ai8 {A:Sort _} {P Q R:Prop} {S T:A -> Prop} {G:Prop} (h:P /\ Q /\ R /\ ∃ x,S x /\ T x) (k:P -> Q -> R -> ∀ x,S x -> T x -> G):G:=n9 h fun p1 p2 p3 h6=>c0 h6 fun x h3=>d0 h3 (k p1 p2 p3 x)
theorem ad6 {A B:Sort _} {P:Prop} {Q R S:A -> B -> Prop} {G:Prop} (h:P /\ ∃ x y,Q x y /\ R x y /\ S x y) (k:P -> ∀ x y,Q x y -> R x y -> S x y -> G):G:=d0 h fun p1 h6=>w0 h6 fun x y h5=>l9 h5 (k p1 x y)
theorem at9 {A:Sort _} {P Q R S T:A -> Prop} {G:Prop} (h:∃ x,P x /\ Q x /\ R x /\ S x /\ T x) (k:∀ x,P x -> Q x -> R x -> S x -> T x -> G):G:=c0 h fun x h6=>G7 h6 (k x)
theorem br9 {A B:Sort _} {P:A -> Prop} {Q R S:A -> B -> Prop} {G:Prop} (h:∃ x,P x /\ ∃ y,Q x y /\ R x y /\ S x y) (k:∀ x,P x -> ∀ y,Q x y -> R x y -> S x y -> G):G:=c0 h fun x h6=>d0 h6 fun p1 h5=>c0 h5 fun y h4=>l9 h4 (k x p1 y)
theorem bs0 {A B C:Sort _} {P:A -> Prop} {Q R:A -> B -> C -> Prop} {G:Prop} (h:∃ x,P x /\ ∃ y z,Q x y z /\ R x y z) (k:∀ x,P x -> ∀ y z,Q x y z -> R x y z -> G):G:=c0 h fun x h6=>d0 h6 fun p1 h5=>w0 h5 fun y z h4=>d0 h4 (k x p1 y z)
theorem G8 {A B:Sort _} {P Q R S:A -> B -> Prop} {G:Prop} (h:∃ x y,P x y /\ Q x y /\ R x y /\ S x y) (k:∀ x y,P x y -> Q x y -> R x y -> S x y -> G):G:=w0 h fun x y h6=>n9 h6 (k x y)
theorem V5 {A B C:Sort _} {P Q R:A -> B -> C -> Prop} {G:Prop} (h:∃ x y z,P x y z /\ Q x y z /\ R x y z) (k:∀ x y z,P x y z -> Q x y z -> R x y z -> G):G:=B4 h fun x y z h6=>l9 h6 (k x y z)
theorem ai9 {A B C D:Sort _} {P Q:A -> B -> C -> D -> Prop} {G:Prop} (h:∃ x y z u,P x y z u /\ Q x y z u) (k:∀ x y z u,P x y z u -> Q x y z u -> G):G:=T2 h fun x y z u h6=>d0 h6 (k x y z u)
theorem bs1 {A B:Sort _} {P Q R S T:A -> B -> Prop} {G:Prop} (h:∃ x y,P x y /\ Q x y /\ R x y /\ S x y /\ T x y) (k:∀ x y,P x y -> Q x y -> R x y -> S x y -> T x y -> G):G:=w0 h fun x y h7=>G7 h7 (k x y)
theorem ad7 {A B C:Sort _} {P Q R S:A -> B -> C -> Prop} {G:Prop} (h:∃ x y z,P x y z /\ Q x y z /\ R x y z /\ S x y z) (k:∀ x y z,P x y z -> Q x y z -> R x y z -> S x y z -> G):G:=B4 h fun x y z h7=>n9 h7 (k x y z)
theorem bs2 {A B C D:Sort _} {P Q R:A -> B -> C -> D -> Prop} {G:Prop} (h:∃ x y z u,P x y z u /\ Q x y z u /\ R x y z u) (k:∀ x y z u,P x y z u -> Q x y z u -> R x y z u -> G):G:=T2 h fun x y z u h7=>l9 h7 (k x y z u)
theorem bs3 {A B C D H:Sort _} {P Q:A -> B -> C -> D -> H -> Prop} {G:Prop} (h:∃ x y z u v,P x y z u v /\ Q x y z u v) (k:∀ x y z u v,P x y z u v -> Q x y z u v -> G):G:=Y7 h fun x y z u v h7=>d0 h7 (k x y z u v)
theorem bs4 {A B:Sort _} {P Q R:Prop} {S T U:A -> B -> Prop} {G:Prop} (h:P /\ Q /\ R /\ ∃ x y,S x y /\ T x y /\ U x y) (k:P -> Q -> R -> ∀ x y,S x y -> T x y -> U x y -> G):G:=n9 h fun p1 p2 p3 h8=>w0 h8 fun x y h5=>l9 h5 (k p1 p2 p3 x y)
theorem aK8 {A B:Sort _} {P Q R S:A -> Prop} {T U:A -> B -> Prop} {G:Prop} (h:∃ x,P x /\ Q x /\ R x /\ S x /\ ∃ y,T x y /\ U x y) (k:∀ x,P x -> Q x -> R x -> S x -> ∀ y,T x y -> U x y -> G):G:=c0 h fun x h8=>G7 h8 fun p1 p2 p3 p4 h7=>c0 h7 fun y h3=>d0 h3 (k x p1 p2 p3 p4 y)
theorem bs5 {A B C D:Sort _} {P:A -> Prop} {Q R S:A -> B -> C -> D -> Prop} {G:Prop} (h:∃ x,P x /\ ∃ y z u,Q x y z u /\ R x y z u /\ S x y z u) (k:∀ x,P x -> ∀ y z u,Q x y z u -> R x y z u -> S x y z u -> G):G:=c0 h fun x h8=>d0 h8 fun p1 h7=>B4 h7 fun y z u h6=>l9 h6 (k x p1 y z u)
theorem bs6 {A B:Sort _} {P Q R S T U:A -> B -> Prop} {G:Prop} (h:∃ x y,P x y /\ Q x y /\ R x y /\ S x y /\ T x y /\ U x y) (k:∀ x y,P x y -> Q x y -> R x y -> S x y -> T x y -> U x y -> G):G:=w0 h fun x y h8=>N4 h8 (k x y)
theorem au0 {A B C D:Sort _} {P Q R S:A -> B -> C -> D -> Prop} {G:Prop} (h:∃ x y z u,P x y z u /\ Q x y z u /\ R x y z u /\ S x y z u) (k:∀ x y z u,P x y z u -> Q x y z u -> R x y z u -> S x y z u -> G):G:=T2 h fun x y z u h8=>n9 h8 (k x y z u)
theorem bs7 {A B C D H:Sort _} {P Q R:A -> B -> C -> D -> H -> Prop} {G:Prop} (h:∃ x y z u v,P x y z u v /\ Q x y z u v /\ R x y z u v) (k:∀ x y z u v,P x y z u v -> Q x y z u v -> R x y z u v -> G):G:=Y7 h fun x y z u v h8=>l9 h8 (k x y z u v)
theorem bs8 {A B:Sort _} {P:Prop} {Q R S T U V:A -> B -> Prop} {G:Prop} (h:P /\ ∃ x y,Q x y /\ R x y /\ S x y /\ T x y /\ U x y /\ V x y) (k:P -> ∀ x y,Q x y -> R x y -> S x y -> T x y -> U x y -> V x y -> G):G:=d0 h fun p1 h9=>w0 h9 fun x y h8=>N4 h8 (k p1 x y)
theorem bs9 {A B C:Sort _} {P Q:A -> B -> Prop} {R S T U:A -> B -> C -> Prop} {G:Prop} (h:∃ x y,P x y /\ Q x y /\ ∃ z,R x y z /\ S x y z /\ T x y z /\ U x y z) (k:∀ x y,P x y -> Q x y -> ∀ z,R x y z -> S x y z -> T x y z -> U x y z -> G):G:=w0 h fun x y h9=>l9 h9 fun p1 p2 h7=>c0 h7 fun z h5=>n9 h5 (k x y p1 p2 z)
theorem bt0 {A B C:Sort _} {P Q R S T U:A -> B -> C -> Prop} {G:Prop} (h:∃ x y z,P x y z /\ Q x y z /\ R x y z /\ S x y z /\ T x y z /\ U x y z) (k:∀ x y z,P x y z -> Q x y z -> R x y z -> S x y z -> T x y z -> U x y z -> G):G:=B4 h fun x y z h9=>N4 h9 (k x y z)
theorem V6 {A B C D H I J:Sort _} {P Q:A -> B -> C -> D -> H -> I -> J -> Prop} {G:Prop} (h:∃ x y z u v w a,P x y z u v w a /\ Q x y z u v w a) (k:∀ x y z u v w a,P x y z u v w a -> Q x y z u v w a -> G):G:=L5 h fun x y z u v w a h9=>d0 h9 (k x y z u v w a)
theorem bt1 {A B:Sort _} {P Q:A -> Prop} {R S T U V W:A -> B -> Prop} {G:Prop} (h:∃ x,P x /\ Q x /\ ∃ y,R x y /\ S x y /\ T x y /\ U x y /\ V x y /\ W x y) (k:∀ x,P x -> Q x -> ∀ y,R x y -> S x y -> T x y -> U x y -> V x y -> W x y -> G):G:=c0 h fun x h10=>l9 h10 fun p1 p2 h9=>c0 h9 fun y h7=>N4 h7 (k x p1 p2 y)
theorem au1 {A B C:Sort _} {P Q R S T U V:A -> B -> C -> Prop} {G:Prop} (h:∃ x y z,P x y z /\ Q x y z /\ R x y z /\ S x y z /\ T x y z /\ U x y z /\ V x y z) (k:∀ x y z,P x y z -> Q x y z -> R x y z -> S x y z -> T x y z -> U x y z -> V x y z -> G):G:=B4 h fun x y z h10=>V3 h10 (k x y z)
theorem bt2 {A B C D:Sort _} {P Q:A -> B -> C -> Prop} {R S T U:A -> B -> C -> D -> Prop} {G:Prop} (h:∃ x y z,P x y z /\ Q x y z /\ ∃ u,R x y z u /\ S x y z u /\ T x y z u /\ U x y z u) (k:∀ x y z,P x y z -> Q x y z -> ∀ u,R x y z u -> S x y z u -> T x y z u -> U x y z u -> G):G:=B4 h fun x y z h10=>l9 h10 fun p1 p2 h7=>c0 h7 fun u h5=>n9 h5 (k x y z p1 p2 u)
theorem bt3 {A B C D:Sort _} {P Q R S T U:A -> B -> C -> D -> Prop} {G:Prop} (h:∃ x y z u,P x y z u /\ Q x y z u /\ R x y z u /\ S x y z u /\ T x y z u /\ U x y z u) (k:∀ x y z u,P x y z u -> Q x y z u -> R x y z u -> S x y z u -> T x y z u -> U x y z u -> G):G:=T2 h fun x y z u h10=>N4 h10 (k x y z u)
theorem aK9 {A B C D H:Sort _} {P Q R S T:A -> B -> C -> D -> H -> Prop} {G:Prop} (h:∃ x y z u v,P x y z u v /\ Q x y z u v /\ R x y z u v /\ S x y z u v /\ T x y z u v) (k:∀ x y z u v,P x y z u v -> Q x y z u v -> R x y z u v -> S x y z u v -> T x y z u v -> G):G:=Y7 h fun x y z u v h10=>G7 h10 (k x y z u v)
theorem aL0 {A B C D H I J:Sort _} {P Q R:A -> B -> C -> D -> H -> I -> J -> Prop} {G:Prop} (h:∃ x y z u v w a,P x y z u v w a /\ Q x y z u v w a /\ R x y z u v w a) (k:∀ x y z u v w a,P x y z u v w a -> Q x y z u v w a -> R x y z u v w a -> G):G:=L5 h fun x y z u v w a h10=>l9 h10 (k x y z u v w a)
theorem aL1 {A B C:Sort _} {P:Prop} {Q:A -> Prop} {R S T U V W:A -> B -> C -> Prop} {G:Prop} (h:P /\ ∃ x,Q x /\ ∃ y z,R x y z /\ S x y z /\ T x y z /\ U x y z /\ V x y z /\ W x y z) (k:P -> ∀ x,Q x -> ∀ y z,R x y z -> S x y z -> T x y z -> U x y z -> V x y z -> W x y z -> G):G:=d0 h fun p1 h11=>c0 h11 fun x h10=>d0 h10 fun p2 h9=>w0 h9 fun y z h8=>N4 h8 (k p1 x p2 y z)
theorem aj0 {A B C D:Sort _} {P Q R S T U V:A -> B -> C -> D -> Prop} {G:Prop} (h:∃ x y z u,P x y z u /\ Q x y z u /\ R x y z u /\ S x y z u /\ T x y z u /\ U x y z u /\ V x y z u) (k:∀ x y z u,P x y z u -> Q x y z u -> R x y z u -> S x y z u -> T x y z u -> U x y z u -> V x y z u -> G):G:=T2 h fun x y z u h11=>V3 h11 (k x y z u)
theorem V7 {A B C D H I J:Sort _} {P Q R S:A -> B -> C -> D -> H -> I -> J -> Prop} {G:Prop} (h:∃ x y z u v w a,P x y z u v w a /\ Q x y z u v w a /\ R x y z u v w a /\ S x y z u v w a) (k:∀ x y z u v w a,P x y z u v w a -> Q x y z u v w a -> R x y z u v w a -> S x y z u v w a -> G):G:=L5 h fun x y z u v w a h11=>n9 h11 (k x y z u v w a)
theorem bt4 {A B C D H I J:Sort _} {P Q R S T:A -> B -> C -> D -> H -> I -> J -> Prop} {G:Prop} (h:∃ x y z u v w a,P x y z u v w a /\ Q x y z u v w a /\ R x y z u v w a /\ S x y z u v w a /\ T x y z u v w a) (k:∀ x y z u v w a,P x y z u v w a -> Q x y z u v w a -> R x y z u v w a -> S x y z u v w a -> T x y z u v w a -> G):G:=L5 h fun x y z u v w a h12=>G7 h12 (k x y z u v w a)
theorem bt5 {A B C D H I:Sort _} {P Q R S T U V:A -> B -> C -> D -> H -> I -> Prop} {G:Prop} (h:∃ x y z u v w,P x y z u v w /\ Q x y z u v w /\ R x y z u v w /\ S x y z u v w /\ T x y z u v w /\ U x y z u v w /\ V x y z u v w) (k:∀ x y z u v w,P x y z u v w -> Q x y z u v w -> R x y z u v w -> S x y z u v w -> T x y z u v w -> U x y z u v w -> V x y z u v w -> G):G:=aK5 h fun x y z u v w h13=>V3 h13 (k x y z u v w)
theorem bt6 {A B C D H I J K L:Sort _} {P Q R S T U V W X:A -> B -> C -> D -> H -> I -> J -> K -> L -> Prop} {G:Prop} (h:∃ x y z u v w a b c,P x y z u v w a b c /\ Q x y z u v w a b c /\ R x y z u v w a b c /\ S x y z u v w a b c /\ T x y z u v w a b c /\ U x y z u v w a b c /\ V x y z u v w a b c /\ W x y z u v w a b c /\ X x y z u v w a b c) (k:∀ x y z u v w a b c,P x y z u v w a b c -> Q x y z u v w a b c -> R x y z u v w a b c -> S x y z u v w a b c -> T x y z u v w a b c -> U x y z u v w a b c -> V x y z u v w a b c -> W x y z u v w a b c -> X x y z u v w a b c -> G):G:=aK7 h fun x y z u v w a b c h18=>aK6 h18 (k x y z u v w a b c)
theorem m8 {P Q:Prop} {G:Prop} (k:P -> Q -> G) (h:P /\ Q):G:=h.elim k
theorem N5 {A:Sort _} {P:A -> Prop} {G:Prop} (k:∀ x,P x -> G) (h:∃ x,P x):G:=h.elim k
theorem N6 {P Q R:Prop} {G:Prop} (k:P -> Q -> R -> G) (h:P /\ Q /\ R):G:=m8 (k h.1) h.2
theorem ad8 {A B:Sort _} {P:A -> B -> Prop} {G:Prop} (k:∀ x y,P x y -> G) (h:∃ x y,P x y):G:=h.elim fun x g=>N5 (k x) g
theorem V9 {P Q R S:Prop} {G:Prop} (k:P -> Q -> R -> S -> G) (h:P /\ Q /\ R /\ S):G:=N6 (k h.1) h.2
theorem aj1 {A B C:Sort _} {P:A -> B -> C -> Prop} {G:Prop} (k:∀ x y z,P x y z -> G) (h:∃ x y z,P x y z):G:=h.elim fun x g=>ad8 (k x) g
theorem bt7 {P Q R S T:Prop} {G:Prop} (k:P -> Q -> R -> S -> T -> G) (h:P /\ Q /\ R /\ S /\ T):G:=V9 (k h.1) h.2
theorem ad9 {A B C D:Sort _} {P:A -> B -> C -> D -> Prop} {G:Prop} (k:∀ x y z u,P x y z u -> G) (h:∃ x y z u,P x y z u):G:=h.elim fun x g=>aj1 (k x) g
theorem bt8 {P Q R S T U:Prop} {G:Prop} (k:P -> Q -> R -> S -> T -> U -> G) (h:P /\ Q /\ R /\ S /\ T /\ U):G:=bt7 (k h.1) h.2
theorem bt9 {A B C D H:Sort _} {P:A -> B -> C -> D -> H -> Prop} {G:Prop} (k:∀ x y z u v,P x y z u v -> G) (h:∃ x y z u v,P x y z u v):G:=h.elim fun x g=>ad9 (k x) g
theorem aL2 {P Q R S T U V:Prop} {G:Prop} (k:P -> Q -> R -> S -> T -> U -> V -> G) (h:P /\ Q /\ R /\ S /\ T /\ U /\ V):G:=bt8 (k h.1) h.2
theorem bu0 {A B C D H I:Sort _} {P:A -> B -> C -> D -> H -> I -> Prop} {G:Prop} (k:∀ x y z u v w,P x y z u v w -> G) (h:∃ x y z u v w,P x y z u v w):G:=h.elim fun x g=>bt9 (k x) g
theorem bu1 {P Q R S T U V W:Prop} {G:Prop} (k:P -> Q -> R -> S -> T -> U -> V -> W -> G) (h:P /\ Q /\ R /\ S /\ T /\ U /\ V /\ W):G:=aL2 (k h.1) h.2
theorem bu2 {P Q R S T U V W X:Prop} {G:Prop} (k:P -> Q -> R -> S -> T -> U -> V -> W -> X -> G) (h:P /\ Q /\ R /\ S /\ T /\ U /\ V /\ W /\ X):G:=bu1 (k h.1) h.2
theorem bu3 {P Q R S T U V W X Y:Prop} {G:Prop} (k:P -> Q -> R -> S -> T -> U -> V -> W -> X -> Y -> G) (h:P /\ Q /\ R /\ S /\ T /\ U /\ V /\ W /\ X /\ Y):G:=bu2 (k h.1) h.2
theorem J6 {A:Sort _} {P Q:A -> Prop} {G:Prop} (k:∀ x,P x -> Q x -> G) (h:∃ x,P x /\ Q x):G:=N5 (fun x h3=>m8 (k x) h3) h
theorem aj2 {A:Sort _} {P Q R:A -> Prop} {G:Prop} (k:∀ x,P x -> Q x -> R x -> G) (h:∃ x,P x /\ Q x /\ R x):G:=N5 (fun x h4=>N6 (k x) h4) h
theorem W0 {A B:Sort _} {P Q:A -> B -> Prop} {G:Prop} (k:∀ x y,P x y -> Q x y -> G) (h:∃ x y,P x y /\ Q x y):G:=ad8 (fun x y h4=>m8 (k x y) h4) h
theorem aL3 {A:Sort _} {P:Prop} {Q R S:A -> Prop} {G:Prop} (k:P -> ∀ x,Q x -> R x -> S x -> G) (h:P /\ ∃ x,Q x /\ R x /\ S x):G:=m8 (fun p1 h5=>N5 (fun x h4=>N6 (k p1 x) h4) h5) h
theorem au2 {A:Sort _} {P Q R S:A -> Prop} {G:Prop} (k:∀ x,P x -> Q x -> R x -> S x -> G) (h:∃ x,P x /\ Q x /\ R x /\ S x):G:=N5 (fun x h5=>V9 (k x) h5) h
theorem bu4 {A B:Sort _} {P:A -> Prop} {Q R:A -> B -> Prop} {G:Prop} (k:∀ x,P x -> ∀ y,Q x y -> R x y -> G) (h:∃ x,P x /\ ∃ y,Q x y /\ R x y):G:=N5 (fun x h5=>m8 (fun p1 h4=>N5 (fun y h3=>m8 (k x p1 y) h3) h4) h5) h
theorem bu5 {A B C:Sort _} {P Q:A -> B -> C -> Prop} {G:Prop} (k:∀ x y z,P x y z -> Q x y z -> G) (h:∃ x y z,P x y z /\ Q x y z):G:=aj1 (fun x y z h5=>m8 (k x y z) h5) h
theorem bu6 {A B:Sort _} {P:A -> Prop} {Q R S:A -> B -> Prop} {G:Prop} (k:∀ x,P x -> ∀ y,Q x y -> R x y -> S x y -> G) (h:∃ x,P x /\ ∃ y,Q x y /\ R x y /\ S x y):G:=N5 (fun x h6=>m8 (fun p1 h5=>N5 (fun y h4=>N6 (k x p1 y) h4) h5) h6) h
theorem bu7 {A B C:Sort _} {P Q R:A -> B -> C -> Prop} {G:Prop} (k:∀ x y z,P x y z -> Q x y z -> R x y z -> G) (h:∃ x y z,P x y z /\ Q x y z /\ R x y z):G:=aj1 (fun x y z h6=>N6 (k x y z) h6) h
theorem bu8 {A B C D:Sort _} {P Q:A -> B -> C -> D -> Prop} {G:Prop} (k:∀ x y z u,P x y z u -> Q x y z u -> G) (h:∃ x y z u,P x y z u /\ Q x y z u):G:=ad9 (fun x y z u h6=>m8 (k x y z u) h6) h
theorem bu9 {A B:Sort _} {P:Prop} {Q R S T:A -> B -> Prop} {G:Prop} (k:P -> ∀ x y,Q x y -> R x y -> S x y -> T x y -> G) (h:P /\ ∃ x y,Q x y /\ R x y /\ S x y /\ T x y):G:=m8 (fun p1 h7=>ad8 (fun x y h6=>V9 (k p1 x y) h6) h7) h
theorem aL4 {A B C:Sort _} {P Q R S:A -> B -> C -> Prop} {G:Prop} (k:∀ x y z,P x y z -> Q x y z -> R x y z -> S x y z -> G) (h:∃ x y z,P x y z /\ Q x y z /\ R x y z /\ S x y z):G:=aj1 (fun x y z h7=>V9 (k x y z) h7) h
theorem bv0 {A B C D:Sort _} {P Q R:A -> B -> C -> D -> Prop} {G:Prop} (k:∀ x y z u,P x y z u -> Q x y z u -> R x y z u -> G) (h:∃ x y z u,P x y z u /\ Q x y z u /\ R x y z u):G:=ad9 (fun x y z u h7=>N6 (k x y z u) h7) h
theorem bv1 {A B C:Sort _} {P:A -> B -> Prop} {Q R S T:A -> B -> C -> Prop} {G:Prop} (k:∀ x y,P x y -> ∀ z,Q x y z -> R x y z -> S x y z -> T x y z -> G) (h:∃ x y,P x y /\ ∃ z,Q x y z /\ R x y z /\ S x y z /\ T x y z):G:=ad8 (fun x y h8=>m8 (fun p1 h6=>N5 (fun z h5=>V9 (k x y p1 z) h5) h6) h8) h
theorem au3 {A B C D:Sort _} {P Q R S:A -> B -> C -> D -> Prop} {G:Prop} (k:∀ x y z u,P x y z u -> Q x y z u -> R x y z u -> S x y z u -> G) (h:∃ x y z u,P x y z u /\ Q x y z u /\ R x y z u /\ S x y z u):G:=ad9 (fun x y z u h8=>V9 (k x y z u) h8) h
theorem bv2 {A B C D:Sort _} {P Q R S T U V:A -> B -> C -> D -> Prop} {G:Prop} (k:∀ x y z u,P x y z u -> Q x y z u -> R x y z u -> S x y z u -> T x y z u -> U x y z u -> V x y z u -> G) (h:∃ x y z u,P x y z u /\ Q x y z u /\ R x y z u /\ S x y z u /\ T x y z u /\ U x y z u /\ V x y z u):G:=ad9 (fun x y z u h11=>aL2 (k x y z u) h11) h
theorem bv3 {A B C D H I:Sort _} {P Q R S T U V W X Y:A -> B -> C -> D -> H -> I -> Prop} {G:Prop} (k:∀ x y z u v w,P x y z u v w -> Q x y z u v w -> R x y z u v w -> S x y z u v w -> T x y z u v w -> U x y z u v w -> V x y z u v w -> W x y z u v w -> X x y z u v w -> Y x y z u v w -> G) (h:∃ x y z u v w,P x y z u v w /\ Q x y z u v w /\ R x y z u v w /\ S x y z u v w /\ T x y z u v w /\ U x y z u v w /\ V x y z u v w /\ W x y z u v w /\ X x y z u v w /\ Y x y z u v w):G:=bu0 (fun x y z u v w h16=>bu3 (k x y z u v w) h16) h
theorem r9 {P Q:Prop} (p1:P) (p2:Q):P /\ Q:=⟨p1,p2⟩
theorem r7 {A:Sort _} {P:A -> Prop} (x:A) (p1:P x):∃ x,P x:=⟨x,p1⟩
theorem e9 {P Q R:Prop} (p1:P) (p2:Q) (p3:R):P /\ Q /\ R:=⟨p1,r9 p2 p3⟩
theorem l8 {A B:Sort _} {P:A -> B -> Prop} (x:A) (y:B) (p1:P x y):∃ x y,P x y:=⟨x,r7 y p1⟩
theorem m5 {P Q R S:Prop} (p1:P) (p2:Q) (p3:R) (p4:S):P /\ Q /\ R /\ S:=⟨p1,e9 p2 p3 p4⟩
theorem C3 {A B C:Sort _} {P:A -> B -> C -> Prop} (x:A) (y:B) (z:C) (p1:P x y z):∃ x y z,P x y z:=⟨x,l8 y z p1⟩
theorem J7 {P Q R S T:Prop} (p1:P) (p2:Q) (p3:R) (p4:S) (p5:T):P /\ Q /\ R /\ S /\ T:=⟨p1,m5 p2 p3 p4 p5⟩
theorem T4 {A B C D:Sort _} {P:A -> B -> C -> D -> Prop} (x:A) (y:B) (z:C) (u:D) (p1:P x y z u):∃ x y z u,P x y z u:=⟨x,C3 y z u p1⟩
theorem Q1 {P Q R S T U:Prop} (p1:P) (p2:Q) (p3:R) (p4:S) (p5:T) (p6:U):P /\ Q /\ R /\ S /\ T /\ U:=⟨p1,J7 p2 p3 p4 p5 p6⟩
theorem aj3 {A B C D H:Sort _} {P:A -> B -> C -> D -> H -> Prop} (x:A) (y:B) (z:C) (u:D) (v:H) (p1:P x y z u v):∃ x y z u v,P x y z u v:=⟨x,T4 y z u v p1⟩
theorem F4 {P Q R S T U V:Prop} (p1:P) (p2:Q) (p3:R) (p4:S) (p5:T) (p6:U) (p7:V):P /\ Q /\ R /\ S /\ T /\ U /\ V:=⟨p1,Q1 p2 p3 p4 p5 p6 p7⟩
theorem au4 {A B C D H I:Sort _} {P:A -> B -> C -> D -> H -> I -> Prop} (x:A) (y:B) (z:C) (u:D) (v:H) (w:I) (p1:P x y z u v w):∃ x y z u v w,P x y z u v w:=⟨x,aj3 y z u v w p1⟩
theorem au5 {P Q R S T U V W:Prop} (p1:P) (p2:Q) (p3:R) (p4:S) (p5:T) (p6:U) (p7:V) (p8:W):P /\ Q /\ R /\ S /\ T /\ U /\ V /\ W:=⟨p1,F4 p2 p3 p4 p5 p6 p7 p8⟩
theorem au6 {A B C D H I J:Sort _} {P:A -> B -> C -> D -> H -> I -> J -> Prop} (x:A) (y:B) (z:C) (u:D) (v:H) (w:I) (a:J) (p1:P x y z u v w a):∃ x y z u v w a,P x y z u v w a:=⟨x,au4 y z u v w a p1⟩
theorem aL5 {P Q R S T U V W X:Prop} (p1:P) (p2:Q) (p3:R) (p4:S) (p5:T) (p6:U) (p7:V) (p8:W) (p9:X):P /\ Q /\ R /\ S /\ T /\ U /\ V /\ W /\ X:=⟨p1,au5 p2 p3 p4 p5 p6 p7 p8 p9⟩
theorem au7 {A B C D H I J K:Sort _} {P:A -> B -> C -> D -> H -> I -> J -> K -> Prop} (x:A) (y:B) (z:C) (u:D) (v:H) (w:I) (a:J) (b:K) (p1:P x y z u v w a b):∃ x y z u v w a b,P x y z u v w a b:=⟨x,au6 y z u v w a b p1⟩
theorem au8 {P Q R S T U V W X Y:Prop} (p1:P) (p2:Q) (p3:R) (p4:S) (p5:T) (p6:U) (p7:V) (p8:W) (p9:X) (p10:Y):P /\ Q /\ R /\ S /\ T /\ U /\ V /\ W /\ X /\ Y:=⟨p1,aL5 p2 p3 p4 p5 p6 p7 p8 p9 p10⟩
theorem aL6 {A B C D H I J K L:Sort _} {P:A -> B -> C -> D -> H -> I -> J -> K -> L -> Prop} (x:A) (y:B) (z:C) (u:D) (v:H) (w:I) (a:J) (b:K) (c:L) (p1:P x y z u v w a b c):∃ x y z u v w a b c,P x y z u v w a b c:=⟨x,au7 y z u v w a b c p1⟩
theorem bv4 {P Q R S T U V W X Y Z:Prop} (p1:P) (p2:Q) (p3:R) (p4:S) (p5:T) (p6:U) (p7:V) (p8:W) (p9:X) (p10:Y) (p11:Z):P /\ Q /\ R /\ S /\ T /\ U /\ V /\ W /\ X /\ Y /\ Z:=⟨p1,au8 p2 p3 p4 p5 p6 p7 p8 p9 p10 p11⟩
theorem aL7 {A B C D H I J K L M:Sort _} {P:A -> B -> C -> D -> H -> I -> J -> K -> L -> M -> Prop} (x:A) (y:B) (z:C) (u:D) (v:H) (w:I) (a:J) (b:K) (c:L) (d:M) (p1:P x y z u v w a b c d):∃ x y z u v w a b c d,P x y z u v w a b c d:=⟨x,aL6 y z u v w a b c d p1⟩
theorem bv5 {A B C D H I J K L M N:Sort _} {P:A -> B -> C -> D -> H -> I -> J -> K -> L -> M -> N -> Prop} (x:A) (y:B) (z:C) (u:D) (v:H) (w:I) (a:J) (b:K) (c:L) (d:M) (e:N) (p1:P x y z u v w a b c d e):∃ x y z u v w a b c d e,P x y z u v w a b c d e:=⟨x,aL7 y z u v w a b c d e p1⟩
theorem aL8 {A B C D H I J K L M N O:Sort _} {P:A -> B -> C -> D -> H -> I -> J -> K -> L -> M -> N -> O -> Prop} (x:A) (y:B) (z:C) (u:D) (v:H) (w:I) (a:J) (b:K) (c:L) (d:M) (e:N) (f:O) (p1:P x y z u v w a b c d e f):∃ x y z u v w a b c d e f,P x y z u v w a b c d e f:=⟨x,bv5 y z u v w a b c d e f p1⟩
theorem aL9 {A:Sort _} {P:Prop} {Q:A -> Prop} (p1:P) (x:A) (p2:Q x):P /\ ∃ x,Q x:=r9 p1 (r7 x p2)
theorem c5 {A:Sort _} {P Q:A -> Prop} (x:A) (p1:P x) (p2:Q x):∃ x,P x /\ Q x:=r7 x (r9 p1 p2)
theorem aj4 {A:Sort _} {P Q:Prop} {R:A -> Prop} (p1:P) (p2:Q) (x:A) (p3:R x):P /\ Q /\ ∃ x,R x:=e9 p1 p2 (r7 x p3)
theorem au9 {A:Sort _} {P:Prop} {Q R:A -> Prop} (p1:P) (x:A) (p2:Q x) (p3:R x):P /\ ∃ x,Q x /\ R x:=r9 p1 (r7 x (r9 p2 p3))
theorem i0 {A:Sort _} {P Q R:A -> Prop} (x:A) (p1:P x) (p2:Q x) (p3:R x):∃ x,P x /\ Q x /\ R x:=r7 x (e9 p1 p2 p3)
theorem L6 {A B:Sort _} {P Q:A -> B -> Prop} (x:A) (y:B) (p1:P x y) (p2:Q x y):∃ x y,P x y /\ Q x y:=l8 x y (r9 p1 p2)
theorem W4 {A:Sort _} {P Q:Prop} {R S:A -> Prop} (p1:P) (p2:Q) (x:A) (p3:R x) (p4:S x):P /\ Q /\ ∃ x,R x /\ S x:=e9 p1 p2 (r7 x (r9 p3 p4))
theorem Y9 {A:Sort _} {P:Prop} {Q R S:A -> Prop} (p1:P) (x:A) (p2:Q x) (p3:R x) (p4:S x):P /\ ∃ x,Q x /\ R x /\ S x:=r9 p1 (r7 x (e9 p2 p3 p4))
theorem G9 {A:Sort _} {P Q R S:A -> Prop} (x:A) (p1:P x) (p2:Q x) (p3:R x) (p4:S x):∃ x,P x /\ Q x /\ R x /\ S x:=r7 x (m5 p1 p2 p3 p4)
theorem Q2 {A B:Sort _} {P Q:A -> Prop} {R:A -> B -> Prop} (x:A) (p1:P x) (p2:Q x) (y:B) (p3:R x y):∃ x,P x /\ Q x /\ ∃ y,R x y:=r7 x (e9 p1 p2 (r7 y p3))
theorem bv6 {A B C:Sort _} {P:A -> Prop} {Q:A -> B -> C -> Prop} (x:A) (p1:P x) (y:B) (z:C) (p2:Q x y z):∃ x,P x /\ ∃ y z,Q x y z:=r7 x (r9 p1 (l8 y z p2))
theorem A3 {A B:Sort _} {P Q R:A -> B -> Prop} (x:A) (y:B) (p1:P x y) (p2:Q x y) (p3:R x y):∃ x y,P x y /\ Q x y /\ R x y:=l8 x y (e9 p1 p2 p3)
theorem Q3 {A B C:Sort _} {P Q:A -> B -> C -> Prop} (x:A) (y:B) (z:C) (p1:P x y z) (p2:Q x y z):∃ x y z,P x y z /\ Q x y z:=C3 x y z (r9 p1 p2)
theorem ae0 {A:Sort _} {P Q R:Prop} {S T:A -> Prop} (p1:P) (p2:Q) (p3:R) (x:A) (p4:S x) (p5:T x):P /\ Q /\ R /\ ∃ x,S x /\ T x:=m5 p1 p2 p3 (r7 x (r9 p4 p5))
theorem aM0 {A B:Sort _} {P Q:Prop} {R S:A -> B -> Prop} (p1:P) (p2:Q) (x:A) (y:B) (p3:R x y) (p4:S x y):P /\ Q /\ ∃ x y,R x y /\ S x y:=e9 p1 p2 (l8 x y (r9 p3 p4))
theorem aM1 {A B:Sort _} {P:Prop} {Q R S:A -> B -> Prop} (p1:P) (x:A) (y:B) (p2:Q x y) (p3:R x y) (p4:S x y):P /\ ∃ x y,Q x y /\ R x y /\ S x y:=r9 p1 (l8 x y (e9 p2 p3 p4))
theorem aM2 {A:Sort _} {P Q R S T:A -> Prop} (x:A) (p1:P x) (p2:Q x) (p3:R x) (p4:S x) (p5:T x):∃ x,P x /\ Q x /\ R x /\ S x /\ T x:=r7 x (J7 p1 p2 p3 p4 p5)
theorem bv7 {A B:Sort _} {P:A -> Prop} {Q R S:A -> B -> Prop} (x:A) (p1:P x) (y:B) (p2:Q x y) (p3:R x y) (p4:S x y):∃ x,P x /\ ∃ y,Q x y /\ R x y /\ S x y:=r7 x (r9 p1 (r7 y (e9 p2 p3 p4)))
theorem N7 {A B:Sort _} {P Q R S:A -> B -> Prop} (x:A) (y:B) (p1:P x y) (p2:Q x y) (p3:R x y) (p4:S x y):∃ x y,P x y /\ Q x y /\ R x y /\ S x y:=l8 x y (m5 p1 p2 p3 p4)
theorem T5 {A B C:Sort _} {P Q R:A -> B -> C -> Prop} (x:A) (y:B) (z:C) (p1:P x y z) (p2:Q x y z) (p3:R x y z):∃ x y z,P x y z /\ Q x y z /\ R x y z:=C3 x y z (e9 p1 p2 p3)
theorem aM3 {A B C D:Sort _} {P Q:A -> B -> C -> D -> Prop} (x:A) (y:B) (z:C) (u:D) (p1:P x y z u) (p2:Q x y z u):∃ x y z u,P x y z u /\ Q x y z u:=T4 x y z u (r9 p1 p2)
theorem aM4 {A B:Sort _} {P:Prop} {Q R S T:A -> B -> Prop} (p1:P) (x:A) (y:B) (p2:Q x y) (p3:R x y) (p4:S x y) (p5:T x y):P /\ ∃ x y,Q x y /\ R x y /\ S x y /\ T x y:=r9 p1 (l8 x y (m5 p2 p3 p4 p5))
theorem bv8 {A:Sort _} {P Q R S T U:A -> Prop} (x:A) (p1:P x) (p2:Q x) (p3:R x) (p4:S x) (p5:T x) (p6:U x):∃ x,P x /\ Q x /\ R x /\ S x /\ T x /\ U x:=r7 x (Q1 p1 p2 p3 p4 p5 p6)
theorem aj5 {A B:Sort _} {P Q:A -> Prop} {R S T:A -> B -> Prop} (x:A) (p1:P x) (p2:Q x) (y:B) (p3:R x y) (p4:S x y) (p5:T x y):∃ x,P x /\ Q x /\ ∃ y,R x y /\ S x y /\ T x y:=r7 x (e9 p1 p2 (r7 y (e9 p3 p4 p5)))
theorem bv9 {A B C:Sort _} {P:A -> Prop} {Q R S:A -> B -> C -> Prop} (x:A) (p1:P x) (y:B) (z:C) (p2:Q x y z) (p3:R x y z) (p4:S x y z):∃ x,P x /\ ∃ y z,Q x y z /\ R x y z /\ S x y z:=r7 x (r9 p1 (l8 y z (e9 p2 p3 p4)))
theorem bw0 {A B C D:Sort _} {P:A -> Prop} {Q R:A -> B -> C -> D -> Prop} (x:A) (p1:P x) (y:B) (z:C) (u:D) (p2:Q x y z u) (p3:R x y z u):∃ x,P x /\ ∃ y z u,Q x y z u /\ R x y z u:=r7 x (r9 p1 (C3 y z u (r9 p2 p3)))
theorem av0 {A B:Sort _} {P Q R S T:A -> B -> Prop} (x:A) (y:B) (p1:P x y) (p2:Q x y) (p3:R x y) (p4:S x y) (p5:T x y):∃ x y,P x y /\ Q x y /\ R x y /\ S x y /\ T x y:=l8 x y (J7 p1 p2 p3 p4 p5)
theorem aj6 {A B C:Sort _} {P Q R S:A -> B -> C -> Prop} (x:A) (y:B) (z:C) (p1:P x y z) (p2:Q x y z) (p3:R x y z) (p4:S x y z):∃ x y z,P x y z /\ Q x y z /\ R x y z /\ S x y z:=C3 x y z (m5 p1 p2 p3 p4)
theorem bw1 {A B C D:Sort _} {P Q R:A -> B -> C -> D -> Prop} (x:A) (y:B) (z:C) (u:D) (p1:P x y z u) (p2:Q x y z u) (p3:R x y z u):∃ x y z u,P x y z u /\ Q x y z u /\ R x y z u:=T4 x y z u (e9 p1 p2 p3)
theorem bw2 {A B:Sort _} {P Q R:Prop} {S T U:A -> B -> Prop} (p1:P) (p2:Q) (p3:R) (x:A) (y:B) (p4:S x y) (p5:T x y) (p6:U x y):P /\ Q /\ R /\ ∃ x y,S x y /\ T x y /\ U x y:=m5 p1 p2 p3 (l8 x y (e9 p4 p5 p6))
theorem bw3 {A B C D:Sort _} {P:Prop} {Q R:A -> B -> Prop} {S:A -> B -> C -> D -> Prop} (p1:P) (x:A) (y:B) (p2:Q x y) (p3:R x y) (z:C) (u:D) (p4:S x y z u):P /\ ∃ x y,Q x y /\ R x y /\ ∃ z u,S x y z u:=r9 p1 (l8 x y (e9 p2 p3 (l8 z u p4)))
theorem aM5 {A B C D:Sort _} {P:A -> Prop} {Q R S:A -> B -> C -> D -> Prop} (x:A) (p1:P x) (y:B) (z:C) (u:D) (p2:Q x y z u) (p3:R x y z u) (p4:S x y z u):∃ x,P x /\ ∃ y z u,Q x y z u /\ R x y z u /\ S x y z u:=r7 x (r9 p1 (C3 y z u (e9 p2 p3 p4)))
theorem bw4 {A B:Sort _} {P Q R S T U:A -> B -> Prop} (x:A) (y:B) (p1:P x y) (p2:Q x y) (p3:R x y) (p4:S x y) (p5:T x y) (p6:U x y):∃ x y,P x y /\ Q x y /\ R x y /\ S x y /\ T x y /\ U x y:=l8 x y (Q1 p1 p2 p3 p4 p5 p6)
theorem L7 {A B C:Sort _} {P:A -> B -> Prop} {Q R S T:A -> B -> C -> Prop} (x:A) (y:B) (p1:P x y) (z:C) (p2:Q x y z) (p3:R x y z) (p4:S x y z) (p5:T x y z):∃ x y,P x y /\ ∃ z,Q x y z /\ R x y z /\ S x y z /\ T x y z:=l8 x y (r9 p1 (r7 z (m5 p2 p3 p4 p5)))
theorem t7 {A B C D:Sort _} {P Q R S:A -> B -> C -> D -> Prop} (x:A) (y:B) (z:C) (u:D) (p1:P x y z u) (p2:Q x y z u) (p3:R x y z u) (p4:S x y z u):∃ x y z u,P x y z u /\ Q x y z u /\ R x y z u /\ S x y z u:=T4 x y z u (m5 p1 p2 p3 p4)
theorem bw5 {A B:Sort _} {P:Prop} {Q R S T U V:A -> B -> Prop} (p1:P) (x:A) (y:B) (p2:Q x y) (p3:R x y) (p4:S x y) (p5:T x y) (p6:U x y) (p7:V x y):P /\ ∃ x y,Q x y /\ R x y /\ S x y /\ T x y /\ U x y /\ V x y:=r9 p1 (l8 x y (Q1 p2 p3 p4 p5 p6 p7))
theorem bw6 {A B:Sort _} {P Q:A -> Prop} {R S T U V:A -> B -> Prop} (x:A) (p1:P x) (p2:Q x) (y:B) (p3:R x y) (p4:S x y) (p5:T x y) (p6:U x y) (p7:V x y):∃ x,P x /\ Q x /\ ∃ y,R x y /\ S x y /\ T x y /\ U x y /\ V x y:=r7 x (e9 p1 p2 (r7 y (J7 p3 p4 p5 p6 p7)))
theorem aM6 {A B C:Sort _} {P Q:A -> B -> Prop} {R S T U:A -> B -> C -> Prop} (x:A) (y:B) (p1:P x y) (p2:Q x y) (z:C) (p3:R x y z) (p4:S x y z) (p5:T x y z) (p6:U x y z):∃ x y,P x y /\ Q x y /\ ∃ z,R x y z /\ S x y z /\ T x y z /\ U x y z:=l8 x y (e9 p1 p2 (r7 z (m5 p3 p4 p5 p6)))
theorem aM7 {A B C:Sort _} {P Q R S T U:A -> B -> C -> Prop} (x:A) (y:B) (z:C) (p1:P x y z) (p2:Q x y z) (p3:R x y z) (p4:S x y z) (p5:T x y z) (p6:U x y z):∃ x y z,P x y z /\ Q x y z /\ R x y z /\ S x y z /\ T x y z /\ U x y z:=C3 x y z (Q1 p1 p2 p3 p4 p5 p6)
theorem bw7 {A B C D H:Sort _} {P Q R S:A -> B -> C -> D -> H -> Prop} (x:A) (y:B) (z:C) (u:D) (v:H) (p1:P x y z u v) (p2:Q x y z u v) (p3:R x y z u v) (p4:S x y z u v):∃ x y z u v,P x y z u v /\ Q x y z u v /\ R x y z u v /\ S x y z u v:=aj3 x y z u v (m5 p1 p2 p3 p4)
theorem bw8 {A B C:Sort _} {P Q R S T U V:A -> B -> C -> Prop} (x:A) (y:B) (z:C) (p1:P x y z) (p2:Q x y z) (p3:R x y z) (p4:S x y z) (p5:T x y z) (p6:U x y z) (p7:V x y z):∃ x y z,P x y z /\ Q x y z /\ R x y z /\ S x y z /\ T x y z /\ U x y z /\ V x y z:=C3 x y z (F4 p1 p2 p3 p4 p5 p6 p7)
theorem aM8 {A B C D H:Sort _} {P Q R S T:A -> B -> C -> D -> H -> Prop} (x:A) (y:B) (z:C) (u:D) (v:H) (p1:P x y z u v) (p2:Q x y z u v) (p3:R x y z u v) (p4:S x y z u v) (p5:T x y z u v):∃ x y z u v,P x y z u v /\ Q x y z u v /\ R x y z u v /\ S x y z u v /\ T x y z u v:=aj3 x y z u v (J7 p1 p2 p3 p4 p5)
theorem bw9 {A B C D H I J:Sort _} {P Q R:A -> B -> C -> D -> H -> I -> J -> Prop} (x:A) (y:B) (z:C) (u:D) (v:H) (w:I) (a:J) (p1:P x y z u v w a) (p2:Q x y z u v w a) (p3:R x y z u v w a):∃ x y z u v w a,P x y z u v w a /\ Q x y z u v w a /\ R x y z u v w a:=au6 x y z u v w a (e9 p1 p2 p3)
theorem av1 {A B C:Sort _} {P:Prop} {Q:A -> Prop} {R S T U V W:A -> B -> C -> Prop} (p1:P) (x:A) (p2:Q x) (y:B) (z:C) (p3:R x y z) (p4:S x y z) (p5:T x y z) (p6:U x y z) (p7:V x y z) (p8:W x y z):P /\ ∃ x,Q x /\ ∃ y z,R x y z /\ S x y z /\ T x y z /\ U x y z /\ V x y z /\ W x y z:=r9 p1 (r7 x (r9 p2 (l8 y z (Q1 p3 p4 p5 p6 p7 p8))))
theorem W5 {A B C D:Sort _} {P Q R S T U V:A -> B -> C -> D -> Prop} (x:A) (y:B) (z:C) (u:D) (p1:P x y z u) (p2:Q x y z u) (p3:R x y z u) (p4:S x y z u) (p5:T x y z u) (p6:U x y z u) (p7:V x y z u):∃ x y z u,P x y z u /\ Q x y z u /\ R x y z u /\ S x y z u /\ T x y z u /\ U x y z u /\ V x y z u:=T4 x y z u (F4 p1 p2 p3 p4 p5 p6 p7)
theorem bx0 {A B C D H:Sort _} {P:A -> B -> Prop} {Q R S T U V:A -> B -> C -> D -> H -> Prop} (x:A) (y:B) (p1:P x y) (z:C) (u:D) (v:H) (p2:Q x y z u v) (p3:R x y z u v) (p4:S x y z u v) (p5:T x y z u v) (p6:U x y z u v) (p7:V x y z u v):∃ x y,P x y /\ ∃ z u v,Q x y z u v /\ R x y z u v /\ S x y z u v /\ T x y z u v /\ U x y z u v /\ V x y z u v:=l8 x y (r9 p1 (C3 z u v (Q1 p2 p3 p4 p5 p6 p7)))
theorem bx1 {A B C D:Sort _} {P Q R S T U V W:A -> B -> C -> D -> Prop} (x:A) (y:B) (z:C) (u:D) (p1:P x y z u) (p2:Q x y z u) (p3:R x y z u) (p4:S x y z u) (p5:T x y z u) (p6:U x y z u) (p7:V x y z u) (p8:W x y z u):∃ x y z u,P x y z u /\ Q x y z u /\ R x y z u /\ S x y z u /\ T x y z u /\ U x y z u /\ V x y z u /\ W x y z u:=T4 x y z u (au5 p1 p2 p3 p4 p5 p6 p7 p8)
theorem aM9 {A B C D H:Sort _} {P:A -> Prop} {Q R S T U V W:A -> B -> C -> D -> H -> Prop} (x:A) (p1:P x) (y:B) (z:C) (u:D) (v:H) (p2:Q x y z u v) (p3:R x y z u v) (p4:S x y z u v) (p5:T x y z u v) (p6:U x y z u v) (p7:V x y z u v) (p8:W x y z u v):∃ x,P x /\ ∃ y z u v,Q x y z u v /\ R x y z u v /\ S x y z u v /\ T x y z u v /\ U x y z u v /\ V x y z u v /\ W x y z u v:=r7 x (r9 p1 (T4 y z u v (F4 p2 p3 p4 p5 p6 p7 p8)))
theorem bx2 {A B C D H I J K:Sort _} {P Q R S T U V:A -> B -> C -> D -> H -> I -> J -> K -> Prop} (x:A) (y:B) (z:C) (u:D) (v:H) (w:I) (a:J) (b:K) (p1:P x y z u v w a b) (p2:Q x y z u v w a b) (p3:R x y z u v w a b) (p4:S x y z u v w a b) (p5:T x y z u v w a b) (p6:U x y z u v w a b) (p7:V x y z u v w a b):∃ x y z u v w a b,P x y z u v w a b /\ Q x y z u v w a b /\ R x y z u v w a b /\ S x y z u v w a b /\ T x y z u v w a b /\ U x y z u v w a b /\ V x y z u v w a b:=au7 x y z u v w a b (F4 p1 p2 p3 p4 p5 p6 p7)
theorem bx3 {A B C D H I:Sort _} {P Q R S T U V W X Y:A -> B -> C -> D -> H -> I -> Prop} (x:A) (y:B) (z:C) (u:D) (v:H) (w:I) (p1:P x y z u v w) (p2:Q x y z u v w) (p3:R x y z u v w) (p4:S x y z u v w) (p5:T x y z u v w) (p6:U x y z u v w) (p7:V x y z u v w) (p8:W x y z u v w) (p9:X x y z u v w) (p10:Y x y z u v w):∃ x y z u v w,P x y z u v w /\ Q x y z u v w /\ R x y z u v w /\ S x y z u v w /\ T x y z u v w /\ U x y z u v w /\ V x y z u v w /\ W x y z u v w /\ X x y z u v w /\ Y x y z u v w:=au4 x y z u v w (au8 p1 p2 p3 p4 p5 p6 p7 p8 p9 p10)
theorem bx4 {A B C D H I J K:Sort _} {P Q R S T U V W:A -> B -> C -> D -> H -> I -> J -> K -> Prop} (x:A) (y:B) (z:C) (u:D) (v:H) (w:I) (a:J) (b:K) (p1:P x y z u v w a b) (p2:Q x y z u v w a b) (p3:R x y z u v w a b) (p4:S x y z u v w a b) (p5:T x y z u v w a b) (p6:U x y z u v w a b) (p7:V x y z u v w a b) (p8:W x y z u v w a b):∃ x y z u v w a b,P x y z u v w a b /\ Q x y z u v w a b /\ R x y z u v w a b /\ S x y z u v w a b /\ T x y z u v w a b /\ U x y z u v w a b /\ V x y z u v w a b /\ W x y z u v w a b:=au7 x y z u v w a b (au5 p1 p2 p3 p4 p5 p6 p7 p8)
theorem aN0 {A B C D H I J:Sort _} {P:A -> Prop} {Q R S T U V W X Y Z:A -> B -> C -> D -> H -> I -> J -> Prop} (x:A) (p1:P x) (y:B) (z:C) (u:D) (v:H) (w:I) (a:J) (p2:Q x y z u v w a) (p3:R x y z u v w a) (p4:S x y z u v w a) (p5:T x y z u v w a) (p6:U x y z u v w a) (p7:V x y z u v w a) (p8:W x y z u v w a) (p9:X x y z u v w a) (p10:Y x y z u v w a) (p11:Z x y z u v w a):∃ x,P x /\ ∃ y z u v w a,Q x y z u v w a /\ R x y z u v w a /\ S x y z u v w a /\ T x y z u v w a /\ U x y z u v w a /\ V x y z u v w a /\ W x y z u v w a /\ X x y z u v w a /\ Y x y z u v w a /\ Z x y z u v w a:=r7 x (r9 p1 (au4 y z u v w a (au8 p2 p3 p4 p5 p6 p7 p8 p9 p10 p11)))
theorem av2 {A B C D H I J K L:Sort _} {P Q R S T U V W X:A -> B -> C -> D -> H -> I -> J -> K -> L -> Prop} (x:A) (y:B) (z:C) (u:D) (v:H) (w:I) (a:J) (b:K) (c:L) (p1:P x y z u v w a b c) (p2:Q x y z u v w a b c) (p3:R x y z u v w a b c) (p4:S x y z u v w a b c) (p5:T x y z u v w a b c) (p6:U x y z u v w a b c) (p7:V x y z u v w a b c) (p8:W x y z u v w a b c) (p9:X x y z u v w a b c):∃ x y z u v w a b c,P x y z u v w a b c /\ Q x y z u v w a b c /\ R x y z u v w a b c /\ S x y z u v w a b c /\ T x y z u v w a b c /\ U x y z u v w a b c /\ V x y z u v w a b c /\ W x y z u v w a b c /\ X x y z u v w a b c:=aL6 x y z u v w a b c (aL5 p1 p2 p3 p4 p5 p6 p7 p8 p9)
theorem bx5 {A B C D H I J K L M:Sort _} {P Q R S T U V W X Y Z:A -> B -> C -> D -> H -> I -> J -> K -> L -> M -> Prop} (x:A) (y:B) (z:C) (u:D) (v:H) (w:I) (a:J) (b:K) (c:L) (d:M) (p1:P x y z u v w a b c d) (p2:Q x y z u v w a b c d) (p3:R x y z u v w a b c d) (p4:S x y z u v w a b c d) (p5:T x y z u v w a b c d) (p6:U x y z u v w a b c d) (p7:V x y z u v w a b c d) (p8:W x y z u v w a b c d) (p9:X x y z u v w a b c d) (p10:Y x y z u v w a b c d) (p11:Z x y z u v w a b c d):∃ x y z u v w a b c d,P x y z u v w a b c d /\ Q x y z u v w a b c d /\ R x y z u v w a b c d /\ S x y z u v w a b c d /\ T x y z u v w a b c d /\ U x y z u v w a b c d /\ V x y z u v w a b c d /\ W x y z u v w a b c d /\ X x y z u v w a b c d /\ Y x y z u v w a b c d /\ Z x y z u v w a b c d:=aL7 x y z u v w a b c d (bv4 p1 p2 p3 p4 p5 p6 p7 p8 p9 p10 p11)
end Mine
end
section
set_option autoImplicit false
namespace Mine
theorem av3 (x y:Nat):x <= y+(x - y):=by omega
theorem aN1 (x k:Nat) (h:0 < k):x < k*(x / k)+k:=by
 have:=Nat.div_add_mod x k
 have:=Nat.mod_lt x h
 omega
open Nat.Internal.Linear in
noncomputable def qv (i:Nat):Nat.Internal.Linear.Expr:=.var i
open Nat.Internal.Linear in
noncomputable def qn (i:Nat):Nat.Internal.Linear.Expr:=.num i
open Nat.Internal.Linear in
noncomputable def qp (a b:Nat.Internal.Linear.Expr):Nat.Internal.Linear.Expr:=.add a b
open Nat.Internal.Linear in
noncomputable def qm (i:Nat) (b:Nat.Internal.Linear.Expr):Nat.Internal.Linear.Expr:=.mulL i b
open Nat.Internal.Linear in
noncomputable def qr (b:Nat.Internal.Linear.Expr) (i:Nat):Nat.Internal.Linear.Expr:=.mulR b i
open Nat.Internal.Linear in
noncomputable def ql (k:Nat) (a b:Nat.Internal.Linear.Expr):Nat×ExprCnstr:=(k,⟨false,a,b⟩)
open Nat.Internal.Linear in
noncomputable def qe (k:Nat) (a b:Nat.Internal.Linear.Expr):Nat×ExprCnstr:=(k,⟨true,a,b⟩)
noncomputable def qc:List Nat -> Nat -> Lean.RArray Nat
 | [],_=>.leaf 0
 | a::r,i=>match r with
  | []=>.leaf a
  | _::_=>.branch (i+1) (.leaf a) (qc r (i+1))
open Nat.Internal.Linear in
noncomputable def av4 (c:Context):List (Nat×ExprCnstr) -> Prop
 | []=>False
 | (_,x)::r=>x.denote c -> av4 c r
open Nat.Internal.Linear in
noncomputable def av5:List (Nat×ExprCnstr) -> Nat.Internal.Linear.Expr
 | []=>.num 0
 | (k,x)::r=>.add (.mulL k x.lhs) (av5 r)
open Nat.Internal.Linear in
noncomputable def av6:List (Nat×ExprCnstr) -> Nat.Internal.Linear.Expr
 | []=>.num 0
 | (k,x)::r=>.add (.mulL k x.rhs) (av6 r)
theorem aN2 (c:Nat.Internal.Linear.Context):∀ (cs:List (Nat×Nat.Internal.Linear.ExprCnstr)) (a b:Nat),a <= b -> ¬ a+(av5 cs).denote c <= b+(av6 cs).denote c -> av4 c cs
 | [],_,_,h,q=>q h
 | (k,⟨t,l,r⟩)::cs,a,b,h,q=>fun hx=>aN2 c cs (a+k*l.denote c) (b+k*r.denote c) (Nat.add_le_add h (Nat.mul_le_mul_left k (by cases t with | true=>exact Nat.le_of_eq hx | false=>exact hx))) (by rw [Nat.add_assoc,Nat.add_assoc]; exact q)
theorem b5 (l:List Nat) (cs:List (Nat×Nat.Internal.Linear.ExprCnstr)) (h:(⟨false,av5 cs,av6 cs⟩:Nat.Internal.Linear.ExprCnstr).toNormPoly.isUnsat=true):av4 (qc l 0) cs :=
 aN2 _ cs 0 0 (ao 0) (by rw [iy,iy]; exact of_eq_false (Nat.Internal.Linear.ExprCnstr.eq_false_of_isUnsat _ _ h))
theorem qA {a b:Nat} (h:b < a -> False):a <= b:=bx h
theorem qB {a b:Nat} (h:b <= a -> False):a < b:=bE h
theorem qE {a b:Nat} (h:b < a -> False) (k:a < b -> False):a=b:=Nat.le_antisymm (qA h) (qA k)
theorem qS {a b:Nat} (h:b <= a):a - b+b=a:=Nat.sub_add_cancel h
theorem qZ {a b:Nat} (h:a <= b):a - b=0:=Nat.sub_eq_zero_of_le h
theorem qT {G:Prop} (a b:Nat) (h:a <= b -> G) (k:b <= a -> G):G:=(Nat.le_total a b).elim h k
theorem qN {G:Prop} {a b:Nat} (q:¬a=b) (h:a < b -> G) (k:b < a -> G):G:=(Nat.lt_or_gt_of_ne q).elim h k
theorem qO {a:Nat} (h:¬a=0):0 < a:=Nat.pos_of_ne_zero h
noncomputable def v0:=qv 0
noncomputable def v1:=qv 1
noncomputable def v2:=qv 2
noncomputable def v3:=qv 3
noncomputable def v4:=qv 4
noncomputable def v5:=qv 5
noncomputable def v6:=qv 6
noncomputable def v7:=qv 7
noncomputable def v8:=qv 8
noncomputable def v9:=qv 9
noncomputable def n0:=qn 0
noncomputable def n1:=qn 1
noncomputable def n2:=qn 2
noncomputable def n3:=qn 3
noncomputable def n4:=qn 4
noncomputable def n5:=qn 5
section
variable {a b c d e f g h i j k l m n o p q r s t:Nat}
theorem T6 (h1:a+(b+1) < c):a < c:=qB fun nb=>b5 [a,b,c] [ql 1 v2 v0,ql 1 (qp (qp v0 (qp v1 n1)) n1) v2] rfl nb h1
theorem Q4 (h1:a+(b+1)=c):a < c:=qB fun nb=>b5 [a,b,c] [ql 1 v2 v0,qe 1 (qp v0 (qp v1 n1)) v2] rfl nb h1
theorem nq3 (h1:a <= b):a <= b:=h1
theorem nq4 (h1:1 <= a) (h2:a+(b+1)=c):a - 1 < c:=qB fun nb=>b5 [a,b,c,a - 1] [qe 1 (qp v0 (qp v1 n1)) v2,ql 1 v2 v3,qe 1 (qp v3 n1) v0] rfl h2 nb (qS h1)
theorem nq5 (h1:a < b):b+1 - (a+1) < b+1 - a:=qB fun nb=>b5 [a,b,(b+1) - (a+1),(b+1) - a] [ql 1 v3 v2,qe 1 (qp v2 (qp v0 n1)) (qp v1 n1),qe 1 (qp v1 n1) (qp v3 v0)] rfl nb (qS (qA fun nc=>b5 [a,b,(b+1) - (a+1),(b+1) - a] [ql 1 (qp (qp v1 n1) n1) (qp v0 n1),ql 1 (qp v0 n1) v1] rfl nc h1)) (aC (qS (qA fun nd=>b5 [a,b,(b+1) - (a+1),(b+1) - a] [ql 1 (qp v0 n1) v1,ql 1 (qp (qp v1 n1) n1) v0] rfl h1 nd)))
theorem nq6 (h1:a+(b+1) < c):a+1+b < c:=qB fun nb=>b5 [a,b,c] [ql 1 v2 (qp (qp v0 n1) v1),ql 1 (qp (qp v0 (qp v1 n1)) n1) v2] rfl nb h1
theorem nq7 (h1:a+(b+1)=c):a+1+b=c:=qE (fun nb=>b5 [a,b,c] [ql 1 (qp v2 n1) (qp (qp v0 n1) v1),qe 1 (qp v0 (qp v1 n1)) v2] rfl nb h1) fun nb=>b5 [a,b,c] [ql 1 (qp (qp (qp v0 n1) v1) n1) v2,qe 1 v2 (qp v0 (qp v1 n1))] rfl nb (aC h1)
theorem nq9 (h1:¬a < b):b <= a:=qA fun nb=>b5 [a,b] [ql 1 v1 v0,ql 1 (qp v0 n1) v1] rfl (bx h1) nb
theorem aj9 (h1:a+1 <= b):a <= b:=qA fun nb=>b5 [a,b] [ql 1 (qp v1 n1) v0,ql 1 (qp v0 n1) v1] rfl nb h1
theorem aN5 (h1:2 <= a) (h2:a < 64):a <= 16777216:=qA fun nb=>b5 [a] [ql 1 (qp (qn 16777216) n1) v0,ql 1 (qp v0 n1) (qn 64)] rfl nb h2
theorem ak0 (h1:a < b+1) (h2:¬a=b):a < b:=qB fun nb=>qN h2 (fun sc=>b5 [a,b] [ql 1 (qp v0 n1) v1,ql 1 v1 v0] rfl sc nb) (fun sd=>b5 [a,b] [ql 1 (qp v1 n1) v0,ql 1 (qp v0 n1) (qp v1 n1)] rfl sd h1)
theorem av8 (h1:a=b+1):b <= a:=qA fun nb=>b5 [a,b] [ql 1 (qp v0 n1) v1,qe 1 (qp v1 n1) v0] rfl nb (aC h1)
theorem av9 (h1:1 <= a) (h2:a+(b+1)=c):1 <= a+1:=qA fun nb=>b5 [a,b,c] [ql 1 (qp (qp v0 n1) n1) n1] rfl nb
theorem aw0 (h1:¬a < b) (h2:a≠b):b < a:=qB fun nb=>qN h2 (fun sc=>b5 [a,b] [ql 1 (qp v0 n1) v1,ql 1 v1 v0] rfl sc (bx h1)) (fun sd=>b5 [a,b] [ql 1 (qp v1 n1) v0,ql 1 v0 v1] rfl sd nb)
theorem aw1 (h1:a <= b):a+(b - a)=b:=qE (fun nb=>b5 [a,b,b - a] [ql 1 (qp v1 n1) (qp v0 v2),qe 1 (qp v2 v0) v1] rfl nb (qS h1)) fun nb=>b5 [a,b,b - a] [ql 1 (qp (qp v0 v2) n1) v1,qe 1 v1 (qp v2 v0)] rfl nb (aC (qS h1))
theorem aw2 (h1:a <= b) (h2:b <= c):a <= c:=qA fun nb=>b5 [a,b,c] [ql 1 (qp v2 n1) v0,ql 1 v0 v1,ql 1 v1 v2] rfl nb h1 h2
theorem aw3 (h1:a=b+1):a - 1=b:=qE (fun nb=>b5 [a,b,a - 1] [ql 1 (qp v1 n1) v2,qe 1 (qp v2 n1) v0,qe 1 v0 (qp v1 n1)] rfl nb (qS (qA fun nc=>b5 [a,b,a - 1] [qe 1 (qp v1 n1) v0,ql 1 (qp v0 n1) n1] rfl (aC h1) nc)) h1) fun nb=>b5 [a,b,a - 1] [ql 1 (qp v2 n1) v1,qe 1 (qp v1 n1) v0,qe 1 v0 (qp v2 n1)] rfl nb (aC h1) (aC (qS (qA fun nd=>b5 [a,b,a - 1] [qe 1 (qp v1 n1) v0,ql 1 (qp v0 n1) n1] rfl (aC h1) nd)))
theorem aw4 (h1:a <= 51):a < 52:=qB fun nb=>b5 [a] [ql 1 (qn 52) v0,ql 1 v0 (qn 51)] rfl nb h1
theorem aw5 (h1:a+1 <= b):a < b:=qB fun nb=>b5 [a,b] [ql 1 v1 v0,ql 1 (qp v0 n1) v1] rfl nb h1
theorem bx6 (h1:a <= 150) (h2:b+40*c+200 < d):b+a < d:=qB fun nb=>b5 [a,b,c,d] [ql 1 v3 (qp v1 v0),ql 1 v0 (qn 150),ql 1 (qp (qp (qp v1 (qm 40 v2)) (qn 200)) n1) v3] rfl nb h1 h2
theorem aN6:0+a=a:=qE (fun nb=>b5 [a] [ql 1 (qp v0 n1) (qp n0 v0)] rfl nb) fun nb=>b5 [a] [ql 1 (qp (qp n0 v0) n1) v0] rfl nb
theorem aN7:¬a < a:=fun nb=>b5 [a] [ql 1 (qp v0 n1) v0] rfl nb
theorem aN8:a <= a+2:=qA fun nb=>b5 [a] [ql 1 (qp (qp v0 n2) n1) v0] rfl nb
theorem aN9:a <= a+1:=qA fun nb=>b5 [a] [ql 1 (qp (qp v0 n1) n1) v0] rfl nb
theorem aO0 (h1:a < b) (h2:1 <= b) (h3:¬a=b - 1):a < b - 1:=qB fun nb=>qN h3 (fun sc=>b5 [a,b,b - 1] [ql 1 (qp v0 n1) v2,ql 1 v2 v0] rfl sc nb) (fun sd=>b5 [a,b,b - 1] [ql 1 (qp v2 n1) v0,ql 1 (qp v0 n1) v1,qe 1 v1 (qp v2 n1)] rfl sd h1 (aC (qS h2)))
theorem aO1 (h1:1 <= a):a - 1 < a:=qB fun nb=>b5 [a,a - 1] [ql 1 v0 v1,qe 1 (qp v1 n1) v0] rfl nb (qS h1)
theorem aO2 (h1:a+0=b):a <= b:=qA fun nb=>b5 [a,b] [ql 1 (qp v1 n1) v0,qe 1 (qp v0 n0) v1] rfl nb h1
theorem aO3 (h1:a+(b+1)=c):a <= c:=qA fun nb=>b5 [a,b,c] [ql 1 (qp v2 n1) v0,qe 1 (qp v0 (qp v1 n1)) v2] rfl nb h1
theorem aO4 (h1:1 <= a) (h2:a+(b+1)=c):a≠a - 1:=fun nb=>b5 [a,b,c,a - 1] [qe 1 v0 v3,qe 1 (qp v3 n1) v0] rfl nb (qS h1)
theorem aO5 (h1:a+(b+1)=c) (h2:a+1 <= d):a <= d:=qA fun nb=>b5 [a,b,c,d] [ql 1 (qp v3 n1) v0,ql 1 (qp v0 n1) v3] rfl nb h2
theorem aO6:¬0 > 0:=fun nb=>b5 [0] [ql 1 (qp n0 n1) n0] rfl nb
theorem aO7 (h1:a < b) (h2:b < c):a < c:=qB fun nb=>b5 [a,b,c] [ql 1 v2 v0,ql 1 (qp v0 n1) v1,ql 1 (qp v1 n1) v2] rfl nb h1 h2
theorem aO8 (h1:a < b) (h2:c <= a) (h3:¬d >= c):(d+c) / 2 < b:=qB fun nb=>b5 [a,b,c,d,(d+c) / 2] [ql 1 (qp v3 n1) v2,ql 2 v2 v0,ql 2 (qp v0 n1) v1,ql 2 v1 v4,ql 1 (qm 2 v4) (qp v3 v2)] rfl (bE h3) h2 h1 nb (gO (d+c) 2)
theorem aO9 (h1:a+(b+1)=c) (h2:d < e) (h3:e < a+1):e - 1 < a:=qB fun nb=>b5 [a,b,c,d,e,e - 1] [ql 1 (qp v4 n1) (qp v0 n1),ql 1 v0 v5,qe 1 (qp v5 n1) v4] rfl h3 nb (qS (qA fun nc=>b5 [a,b,c,d,e,e - 1] [ql 1 (qp v3 n1) v4,ql 1 (qp v4 n1) n1] rfl h2 nc))
theorem aP0 (h1:a < 2):a <= 16777216:=qA fun nb=>b5 [a] [ql 1 (qp (qn 16777216) n1) v0,ql 1 (qp v0 n1) n2] rfl nb h1
theorem aP1 (h1:a - b=0) (h2:b <= a):b=a:=qE (fun nb=>b5 [a,b,a - b] [ql 1 v1 v0,ql 1 (qp v0 n1) v1] rfl h2 nb) fun nb=>b5 [a,b,a - b] [ql 1 (qp v1 n1) v0,qe 1 v0 (qp v2 v1),qe 1 v2 n0] rfl nb (aC (qS h2)) h1
theorem aP2 (h1:a - b=c+1) (h2:b <= a):b < a:=qB fun nb=>b5 [a,b,c,a - b] [qe 1 (qp v2 n1) v3,qe 1 (qp v3 v1) v0,ql 1 v0 v1] rfl (aC h1) (qS h2) nb
theorem aw6 (h1:a <= 25):a < 26:=qB fun nb=>b5 [a] [ql 1 (qn 26) v0,ql 1 v0 (qn 25)] rfl nb h1
theorem aw7 (h1:a <= 51):a - 1 < 51:=qB fun nb=>qT a 1 (fun sg=>b5 [a,a - 1] [ql 1 (qn 51) v1,qe 1 v1 n0] rfl nb (qZ sg)) (fun sh=>b5 [a,a - 1] [ql 1 (qn 51) v1,qe 1 (qp v1 n1) v0,ql 1 v0 (qn 51)] rfl nb (qS sh) h1)
theorem aw8 (h1:a <= 51) (h2:a≠0):a - 1+1=a:=qE (fun nb=>b5 [a,a - 1] [ql 1 (qp v0 n1) (qp v1 n1),qe 1 (qp v1 n1) v0] rfl nb (qS (qA fun nc=>b5 [a,a - 1] [ql 1 (qp n0 n1) v0,ql 1 (qp v0 n1) n1] rfl (qO h2) nc))) fun nb=>b5 [a,a - 1] [qe 1 v0 (qp v1 n1),ql 1 (qp (qp v1 n1) n1) v0] rfl (aC (qS (qA fun nd=>b5 [a,a - 1] [ql 1 (qp n0 n1) v0,ql 1 (qp v0 n1) n1] rfl (qO h2) nd))) nb
theorem aP3 (h1:a=b) (h2:a < c) (h3:d < a):d < c:=qB fun nb=>b5 [a,b,c,d] [ql 1 (qp v3 n1) v0,ql 1 (qp v0 n1) v2,ql 1 v2 v3] rfl h3 h2 nb
theorem ak1:a < a+1:=qB fun nb=>b5 [a] [ql 1 (qp v0 n1) v0] rfl nb
theorem aP4 (h1:a <= b):a+(0+1) <= b+1:=qA fun nb=>b5 [a,b] [ql 1 (qp (qp v1 n1) n1) (qp v0 (qp n0 n1)),ql 1 v0 v1] rfl nb h1
theorem aP5 (h1:a+(b+1) <= c+1):a <= c+1 - (b+1):=qA fun nb=>b5 [a,b,c,(c+1) - (b+1)] [ql 1 (qp v3 n1) v0,ql 1 (qp v0 (qp v1 n1)) (qp v2 n1),qe 1 (qp v2 n1) (qp v3 (qp v1 n1))] rfl nb h1 (aC (qS (qA fun nc=>b5 [a,b,c,(c+1) - (b+1)] [ql 1 (qp v0 (qp v1 n1)) (qp v2 n1),ql 1 (qp (qp v2 n1) n1) (qp v1 n1)] rfl h1 nc)))
theorem aP6 (h1:a < b):a <= b - 1:=qA fun nb=>b5 [a,b,b - 1] [ql 1 (qp v2 n1) v0,ql 1 (qp v0 n1) v1,qe 1 v1 (qp v2 n1)] rfl nb h1 (aC (qS (qA fun nc=>b5 [a,b,b - 1] [ql 1 (qp v0 n1) v1,ql 1 (qp v1 n1) n1] rfl h1 nc)))
theorem aP7 (h1:a < b) (h2:b+c <= d):b - 1+(c+1) <= d:=qA fun nb=>b5 [a,b,c,d,b - 1] [ql 1 (qp v3 n1) (qp v4 (qp v2 n1)),ql 1 (qp v1 v2) v3,qe 1 (qp v4 n1) v1] rfl nb h2 (qS (qA fun nc=>b5 [a,b,c,d,b - 1] [ql 1 (qp v0 n1) v1,ql 1 (qp v1 n1) n1] rfl h1 nc))
theorem aP8 (h1:a < b):b - 1+(c+1)=b+c:=qE (fun nb=>b5 [a,b,c,b - 1] [ql 1 (qp (qp v1 v2) n1) (qp v3 (qp v2 n1)),qe 1 (qp v3 n1) v1] rfl nb (qS (qA fun nc=>b5 [a,b,c,b - 1] [ql 1 (qp v0 n1) v1,ql 1 (qp v1 n1) n1] rfl h1 nc))) fun nb=>b5 [a,b,c,b - 1] [ql 1 (qp (qp v3 (qp v2 n1)) n1) (qp v1 v2),qe 1 v1 (qp v3 n1)] rfl nb (aC (qS (qA fun nd=>b5 [a,b,c,b - 1] [ql 1 (qp v0 n1) v1,ql 1 (qp v1 n1) n1] rfl h1 nd)))
theorem aP9 (h1:a+b < c):a+(b+1) <= c:=qA fun nb=>b5 [a,b,c] [ql 1 (qp v2 n1) (qp v0 (qp v1 n1)),ql 1 (qp (qp v0 v1) n1) v2] rfl nb h1
theorem bx7 (h1:a≠0):0 < a:=qB fun nb=>b5 [a] [ql 1 (qp n0 n1) v0,ql 1 v0 n0] rfl (qO h1) nb
theorem cN1 (h1:a+b <= c) (h2:c <= d):a <= d:=qA fun nb=>b5 [a,b,c,d] [ql 1 (qp v3 n1) v0,ql 1 (qp v0 v1) v2,ql 1 v2 v3] rfl nb h1 h2
theorem bx8 (h1:a≠0):a - 1 < a:=qB fun nb=>b5 [a,a - 1] [ql 1 v0 v1,qe 1 (qp v1 n1) v0] rfl nb (qS (qA fun nc=>b5 [a,a - 1] [ql 1 (qp n0 n1) v0,ql 1 (qp v0 n1) n1] rfl (qO h1) nc))
theorem cN2 (h1:a+b <= c):a+b <= c:=h1
theorem aQ0 (h1:¬a < b+c):b+c <= a:=qA fun nb=>b5 [a,b,c] [ql 1 (qp v1 v2) v0,ql 1 (qp v0 n1) (qp v1 v2)] rfl (bx h1) nb
theorem aQ1 (h1:a+(b - 1) < c /\ d+(b - 1) < e):a+b <= c:=qA fun nb=>b5 [a,b,c,d,e,b - 1] [ql 1 (qp v2 n1) (qp v0 v1),ql 1 (qp (qp v0 v5) n1) v2,qe 1 v1 (qp v5 n1)] rfl nb h1.1 (aC (qS (qA fun nc=>b5 [a,b,c,d,e,b - 1] [ql 1 (qp v2 n1) (qp v0 v1),ql 1 (qp (qp v0 v5) n1) v2,ql 1 (qp v1 n1) n1] rfl nb h1.1 nc)))
theorem aQ2 (h1:a+(b - 1) < c /\ d+(b - 1) < e):d+b <= e:=qA fun nb=>b5 [a,b,c,d,e,b - 1] [ql 1 (qp v4 n1) (qp v3 v1),qe 1 v1 (qp v5 n1),ql 1 (qp (qp v3 v5) n1) v4] rfl nb (aC (qS (qA fun nc=>b5 [a,b,c,d,e,b - 1] [ql 1 (qp v4 n1) (qp v3 v1),ql 1 (qp v1 n1) n1,ql 1 (qp (qp v3 v5) n1) v4] rfl nb nc h1.2))) h1.2
theorem aQ3 (h1:a+b+c <= d):a+(b+c) <= d:=qA fun nb=>b5 [a,b,c,d] [ql 1 (qp v3 n1) (qp v0 (qp v1 v2)),ql 1 (qp (qp v0 v1) v2) v3] rfl nb h1
theorem aQ4 (h1:¬a < b):c+b+(a - b)=c+a:=qE (fun nb=>b5 [a,b,c,a - b] [ql 1 (qp (qp v2 v0) n1) (qp (qp v2 v1) v3),qe 1 (qp v3 v1) v0] rfl nb (qS (bx h1))) fun nb=>b5 [a,b,c,a - b] [ql 1 (qp (qp (qp v2 v1) v3) n1) (qp v2 v0),qe 1 v0 (qp v3 v1)] rfl nb (aC (qS (bx h1)))
theorem aQ5 (h1:a <= b) (h2:b+0 <= c):a <= c:=qA fun nb=>b5 [a,b,c] [ql 1 (qp v2 n1) v0,ql 1 v0 v1,ql 1 (qp v1 n0) v2] rfl nb h1 h2
theorem aQ6:a+(b+1)=a+b+1:=qE (fun nb=>b5 [a,b] [ql 1 (qp (qp (qp v0 v1) n1) n1) (qp v0 (qp v1 n1))] rfl nb) fun nb=>b5 [a,b] [ql 1 (qp (qp v0 (qp v1 n1)) n1) (qp (qp v0 v1) n1)] rfl nb
theorem bx9 {a:Int}:a - a <= 0:=by omega
theorem by0 (h1:a=b+1):a≠b:=fun nb=>b5 [a,b] [qe 1 (qp v1 n1) v0,qe 1 v0 v1] rfl (aC h1) nb
theorem by1 (h1:a+4*(b+1) < c):a+1+4*b < c:=qB fun nb=>b5 [a,b,c] [ql 1 v2 (qp (qp v0 n1) (qm 4 v1)),ql 1 (qp (qp v0 (qm 4 (qp v1 n1))) n1) v2] rfl nb h1
theorem by2 (h1:a+40*(b+1)+200 < c):a+3+40*b+200 < c:=qB fun nb=>b5 [a,b,c] [ql 1 v2 (qp (qp (qp v0 n3) (qm 40 v1)) (qn 200)),ql 1 (qp (qp (qp v0 (qm 40 (qp v1 n1))) (qn 200)) n1) v2] rfl nb h1
theorem by3 (h1:a+4*b < c):a < c:=qB fun nb=>b5 [a,b,c] [ql 1 v2 v0,ql 1 (qp (qp v0 (qm 4 v1)) n1) v2] rfl nb h1
theorem by4 {a:Int} {b:Int} (h1:a < b):min b a=a:=Int.min_eq_right (Int.le_of_lt h1)
theorem by5 {a:Int} {b:Int} (h1:¬a < b):min b a=b:=Int.min_eq_left (Int.not_lt.mp h1)
theorem by6 (h1:a+0=b):b <= a:=qA fun nb=>b5 [a,b] [ql 1 (qp v0 n1) v1,qe 1 v1 (qp v0 n0)] rfl nb (aC h1)
theorem by7 (h1:a+(b+1) <= c):a+b <= c:=qA fun nb=>b5 [a,b,c] [ql 1 (qp v2 n1) (qp v0 v1),ql 1 (qp v0 (qp v1 n1)) v2] rfl nb h1
theorem by8 (h1:a+(b+1) <= c):a+b < c:=qB fun nb=>b5 [a,b,c] [ql 1 v2 (qp v0 v1),ql 1 (qp v0 (qp v1 n1)) v2] rfl nb h1
theorem by9 (h1:¬a < b):b - a=0:=qE (fun nb=>b5 [a,b,b - a] [ql 1 (qp n0 n1) v2,qe 1 v2 n0] rfl nb (qZ (bx h1))) fun nb=>b5 [a,b,b - a] [ql 1 (qp v2 n1) n0] rfl nb
theorem bz0 (h1:a <= b) (h2:b <= c):a+(b - a) <= c:=qA fun nb=>b5 [a,b,c,b - a] [ql 1 v1 v2,ql 1 (qp v2 n1) (qp v0 v3),qe 1 (qp v3 v0) v1] rfl h2 nb (qS h1)
theorem bz1 (h1:a=b+4 \/ a=b+2 \/ a=b+3 \/ a=b \/ a=b+1):a < b+5 :=
 have k:∀ n,n < 5 -> a=b+n -> a < b+5:=fun n h e=>e▸Nat.add_lt_add_left h b
 h1.elim (k 4 (by decide)) fun h=>h.elim (k 2 (by decide)) fun h=>h.elim (k 3 (by decide)) fun h=>h.elim (k 0 (by decide)) (k 1 (by decide))
theorem bz2 (h1:a=b+4 \/ a=b+3 \/ a=b \/ a=b+1):b <= a:=qA fun nb=>Or.elim h1 (fun si=>b5 [a,b] [ql 1 (qp v0 n1) v1,qe 1 (qp v1 n4) v0] rfl nb (aC si)) (fun sj=>Or.elim sj (fun sk=>b5 [a,b] [ql 1 (qp v0 n1) v1,qe 1 (qp v1 n3) v0] rfl nb (aC sk)) (fun sl=>Or.elim sl (fun sm=>b5 [a,b] [ql 1 (qp v0 n1) v1,qe 1 v1 v0] rfl nb (aC sm)) (fun sn=>b5 [a,b] [ql 1 (qp v0 n1) v1,qe 1 (qp v1 n1) v0] rfl nb (aC sn))))
theorem bz3 (h1:a=b) (h2:c < a) (h3:a <= d):d≠c:=fun nb=>b5 [a,b,c,d] [ql 1 (qp v2 n1) v0,ql 1 v0 v3,qe 1 v3 v2] rfl h2 h3 nb
theorem bz4:a <= a+4:=qA fun nb=>b5 [a] [ql 1 (qp (qp v0 n4) n1) v0] rfl nb
theorem bz5:a <= a+3:=qA fun nb=>b5 [a] [ql 1 (qp (qp v0 n3) n1) v0] rfl nb
theorem bz6:a <= a:=qA fun nb=>b5 [a] [ql 1 (qp v0 n1) v0] rfl nb
theorem bz7 (h1:a=b) (h2:c < a+5) (h3:a+4 < d):c < d:=qB fun nb=>b5 [a,b,c,d] [ql 1 v3 v2,ql 1 (qp v2 n1) (qp v0 n5),ql 1 (qp (qp v0 n4) n1) v3] rfl nb h2 h3
theorem bz8 (h1:a=min b c) (h2:d=min b c) (h3:e < d):e < min b c:=qB fun nb=>b5 [a,b,c,d,e,min b c] [ql 1 v5 v4,ql 1 (qp v4 n1) v3,qe 1 v3 v5] rfl nb h3 h2
theorem bz9 (h1:a=b) (h2:c < a) (h3:c=d) (h4:a+4 < d):False:=b5 [a,b,c,d] [ql 1 (qp v2 n1) v0,ql 1 (qp (qp v0 n4) n1) v3,qe 1 v3 v2] rfl h2 h4 (aC h3)
theorem bA0 (h1:a=b) (h2:c < a) (h3:a <= c):False:=b5 [a,b,c] [ql 1 (qp v2 n1) v0,ql 1 v0 v2] rfl h2 h3
theorem bA1 (h1:a <= 4) (h2:b+4*(c+1) < d):b+a+4*c < d:=qB fun nb=>b5 [a,b,c,d] [ql 1 v3 (qp (qp v1 v0) (qm 4 v2)),ql 1 v0 n4,ql 1 (qp (qp v1 (qm 4 (qp v2 n1))) n1) v3] rfl nb h1 h2
theorem bA2 (h1:a <= 40) (h2:b+40*(c+1)+200 < d):b+a+40*c+200 < d:=qB fun nb=>b5 [a,b,c,d] [ql 1 v3 (qp (qp (qp v1 v0) (qm 40 v2)) (qn 200)),ql 1 v0 (qn 40),ql 1 (qp (qp (qp v1 (qm 40 (qp v2 n1))) (qn 200)) n1) v3] rfl nb h1 h2
theorem cN3 (h1:a <= b) (h2:c+b < d):c+a < d:=qB fun nb=>b5 [a,b,c,d] [ql 1 v3 (qp v2 v0),ql 1 v0 v1,ql 1 (qp (qp v2 v1) n1) v3] rfl nb h1 h2
theorem bA3 (h1:min (a - b) (c - b)=c) (h2:0 < c):b=0:=qE (fun nb=>qT c b (fun sn=>b5 [a,b,c,min (a - b) (c - b),a - b,c - b] [ql 1 (qp n0 n1) v2,qe 1 v2 v3,ql 1 v3 v5,qe 1 v5 n0] rfl h2 (aC h1) (ed (a - b) (c - b)) (qZ sn)) (fun so=>b5 [a,b,c,min (a - b) (c - b),a - b,c - b] [ql 1 (qp n0 n1) v1,qe 1 (qp v5 v1) v2,qe 1 v2 v3,ql 1 v3 v5] rfl nb (qS so) (aC h1) (ed (a - b) (c - b)))) fun nb=>b5 [a,b,c,min (a - b) (c - b),a - b,c - b] [ql 1 (qp v1 n1) n0] rfl nb
theorem bA4 (h1:min (a - b) (c - b)=c) (h2:0 < c) (h3:b=0):c <= a - 0:=qA fun nb=>b5 [a,b,c,min (a - b) (c - b),a - b,c - b,a - 0] [ql 1 (qp v6 n1) v2,qe 1 v2 v3,ql 1 v3 v4,qe 1 (qp v4 v1) v0,qe 1 v0 (qp v6 n0)] rfl nb (aC h1) (bW (a - b) (c - b)) (qS (qA fun nc=>b5 [a,b,c,min (a - b) (c - b),a - b,c - b,a - 0] [ql 1 (qp v0 n1) v1,qe 1 v1 n0] rfl nc h3)) (aC (qS (qA fun ne=>b5 [a,b,c,min (a - b) (c - b),a - b,c - b,a - 0] [ql 1 (qp v0 n1) n0] rfl ne)))
theorem bA5 (h1:a <= b):a - c=min (a - c) (b - c):=qE (fun nb=>qT a c (fun st=>b5 [a,b,c,a - c,min (a - c) (b - c),b - c] [ql 1 (qp v4 n1) v3,qe 1 v3 n0] rfl nb (qZ st)) (fun su=>qT (a - c) (b - c) (fun sv=>b5 [a,b,c,a - c,min (a - c) (b - c),b - c] [ql 1 (qp v4 n1) v3,qe 1 v3 v4] rfl nb (aC (cF sv))) (fun sw=>b5 [a,b,c,a - c,min (a - c) (b - c),b - c] [qe 1 (qp v3 v2) v0,ql 1 v0 v1,ql 1 v1 (qp v2 v5),qe 1 v5 v4,ql 1 (qp v4 n1) v3] rfl (qS su) h1 (av3 b c) (aC (dC sw)) nb))) fun nb=>b5 [a,b,c,a - c,min (a - c) (b - c),b - c] [ql 1 v4 v3,ql 1 (qp v3 n1) v4] rfl (bW (a - c) (b - c)) nb
theorem cN4:a - (a - b) <= a - (a - b):=qA fun nb=>b5 [a,b,a - (a - b),a - b] [ql 1 (qp v2 n1) v2] rfl nb
theorem cN5:a+(b+c)+d=a+c+b+d:=qE (fun nb=>b5 [a,b,c,d] [ql 1 (qp (qp (qp (qp v0 v2) v1) v3) n1) (qp (qp v0 (qp v1 v2)) v3)] rfl nb) fun nb=>b5 [a,b,c,d] [ql 1 (qp (qp (qp v0 (qp v1 v2)) v3) n1) (qp (qp (qp v0 v2) v1) v3)] rfl nb
theorem cN6 (h1:a=b+c):d+a+e=d+c+b+e:=qE (fun nb=>b5 [a,b,c,d,e] [ql 1 (qp (qp (qp (qp v3 v2) v1) v4) n1) (qp (qp v3 v0) v4),qe 1 v0 (qp v1 v2)] rfl nb h1) fun nb=>b5 [a,b,c,d,e] [ql 1 (qp (qp (qp v3 v0) v4) n1) (qp (qp (qp v3 v2) v1) v4),qe 1 (qp v1 v2) v0] rfl nb (aC h1)
theorem cN7 {a:Int} (h1:0 <= a):¬a < 0:=by lia
theorem cN8 (h1:¬a <= b):b <= a:=qA fun nb=>b5 [a,b] [ql 1 (qp v1 n1) v0,ql 1 (qp v0 n1) v1] rfl (bE h1) nb
theorem aQ7 (h1:a < b):min a b=a:=qE (fun nb=>b5 [a,b,min a b] [ql 1 v2 v0,ql 1 (qp v0 n1) v2] rfl (bW a b) nb) fun nb=>qT a b (fun sc=>b5 [a,b,min a b] [ql 1 (qp v2 n1) v0,qe 1 v0 v2] rfl nb (aC (cF sc))) (fun sd=>b5 [a,b,min a b] [ql 1 v1 v0,ql 1 (qp v0 n1) v1] rfl sd h1)
theorem bA6 (h1:2 <= a) (h2:a < 64):¬a < 2:=fun nb=>b5 [a] [ql 1 n2 v0,ql 1 (qp v0 n1) n2] rfl h1 nb
theorem bA7 (h1:2 <= a) (h2:a < 64) (h3:b=a):a <= 16777216+1:=qA fun nb=>b5 [a,b] [ql 1 (qp (qp (qn 16777216) n1) n1) v0,ql 1 (qp v0 n1) (qn 64)] rfl nb h2
theorem cN9 (h1:2 <= a) (h2:a < 64) (h3:b=a):0 < a:=qB fun nb=>b5 [a,b] [ql 1 n2 v0,ql 1 v0 n0] rfl h1 nb
theorem bA8 (h1:a+0=b) (h2:a < b):c < d:=qB fun nb=>b5 [a,b,c,d] [ql 1 (qp v0 n1) v1,qe 1 v1 (qp v0 n0)] rfl h2 (aC h1)
theorem bA9 (h1:a <= b) (h2:c < a):c < b:=qB fun nb=>b5 [a,b,c] [ql 1 (qp v2 n1) v0,ql 1 v0 v1,ql 1 v1 v2] rfl h2 h1 nb
theorem bB0 (h1:a <= b) (h2:c < a):a - 1 - c < b:=qB fun nb=>b5 [a,b,c,(a - 1) - c,a - 1] [ql 1 v0 v1,ql 1 v1 v3,ql 1 v3 v4,qe 1 (qp v4 n1) v0] rfl h1 nb (Nat.sub_le _ _) (qS (qA fun ne=>b5 [a,b,c,(a - 1) - c,a - 1] [ql 1 (qp v2 n1) v0,ql 1 (qp v0 n1) n1] rfl h2 ne))
theorem bB1 (h1:a < b) (h2:b < c):c - 1 - b < c - 1 - a:=qB fun nb=>qT (c - 1) b (fun sk=>b5 [a,b,c,(c - 1) - b,c - 1,(c - 1) - a] [ql 1 (qp v0 n1) v1,ql 1 (qp v1 n1) v2,qe 1 v2 (qp v4 n1),qe 1 v4 (qp v5 v0),ql 1 v5 v3,qe 1 v3 n0] rfl h1 h2 (aC (qS (qA fun ni=>b5 [a,b,c,(c - 1) - b,c - 1,(c - 1) - a] [ql 1 (qp v1 n1) v2,ql 1 (qp v2 n1) n1] rfl h2 ni))) (aC (qS (qA fun nj=>b5 [a,b,c,(c - 1) - b,c - 1,(c - 1) - a] [ql 1 (qp v4 n1) v0,ql 1 (qp v0 n1) v1,ql 1 (qp v1 n1) v2,qe 1 v2 (qp v4 n1)] rfl nj h1 h2 (aC (qS (qA fun ni=>b5 [a,b,c,(c - 1) - b,c - 1,(c - 1) - a] [ql 1 (qp v1 n1) v2,ql 1 (qp v2 n1) n1] rfl h2 ni)))))) nb (qZ sk)) (fun sl=>b5 [a,b,c,(c - 1) - b,c - 1,(c - 1) - a] [qe 1 v4 (qp v5 v0),ql 1 (qp v0 n1) v1,ql 1 v5 v3,qe 1 (qp v3 v1) v4] rfl (aC (qS (qA fun nj=>b5 [a,b,c,(c - 1) - b,c - 1,(c - 1) - a] [ql 1 (qp v4 n1) v0,ql 1 (qp v0 n1) v1,ql 1 (qp v1 n1) v2,qe 1 v2 (qp v4 n1)] rfl nj h1 h2 (aC (qS (qA fun ni=>b5 [a,b,c,(c - 1) - b,c - 1,(c - 1) - a] [ql 1 (qp v1 n1) v2,ql 1 (qp v2 n1) n1] rfl h2 ni)))))) h1 nb (qS sl))
theorem bB2 (h1:a < b) (h2:b < c):c - 1 - a < c:=qB fun nb=>b5 [a,b,c,(c - 1) - a,c - 1] [ql 1 v2 v3,ql 1 v3 v4,qe 1 (qp v4 n1) v2] rfl nb (Nat.sub_le _ _) (qS (qA fun ne=>b5 [a,b,c,(c - 1) - a,c - 1] [ql 1 (qp v1 n1) v2,ql 1 (qp v2 n1) n1] rfl h2 ne))
theorem bB3 (h1:2 <= a):1+(a - 1)=a:=qE (fun nb=>b5 [a,a - 1] [ql 1 (qp v0 n1) (qp n1 v1),qe 1 (qp v1 n1) v0] rfl nb (qS (qA fun nc=>b5 [a,a - 1] [ql 1 n2 v0,ql 1 (qp v0 n1) n1] rfl h1 nc))) fun nb=>b5 [a,a - 1] [ql 1 (qp (qp n1 v1) n1) v0,qe 1 v0 (qp v1 n1)] rfl nb (aC (qS (qA fun nd=>b5 [a,a - 1] [ql 1 n2 v0,ql 1 (qp v0 n1) n1] rfl h1 nd)))
theorem bB4 (h1:a < b) (h2:b < 1):c < d:=qB fun nb=>b5 [a,b,c,d] [ql 1 (qp v0 n1) v1,ql 1 (qp v1 n1) n1] rfl h1 h2
theorem bB5 (h1:2 <= a):0 < a:=qB fun nb=>b5 [a] [ql 1 n2 v0,ql 1 v0 n0] rfl h1 nb
theorem bB6 (h1:a <= b) (h2:a > 1):a - 1 < b:=qB fun nb=>b5 [a,b,a - 1] [ql 1 v0 v1,ql 1 v1 v2,qe 1 (qp v2 n1) v0] rfl h1 nb (qS (qA fun nc=>b5 [a,b,a - 1] [ql 1 (qp n1 n1) v0,ql 1 (qp v0 n1) n1] rfl h2 nc))
theorem bB7 (h1:a > 1):0 < a - 1:=qB fun nb=>b5 [a,a - 1] [ql 1 (qp n1 n1) v0,qe 1 v0 (qp v1 n1),ql 1 v1 n0] rfl h1 (aC (qS (qA fun nc=>b5 [a,a - 1] [ql 1 (qp n1 n1) v0,ql 1 (qp v0 n1) n1] rfl h1 nc))) nb
theorem bB8 (h1:a > 1):a - 1 < a:=qB fun nb=>b5 [a,a - 1] [ql 1 v0 v1,qe 1 (qp v1 n1) v0] rfl nb (qS (qA fun nc=>b5 [a,a - 1] [ql 1 (qp n1 n1) v0,ql 1 (qp v0 n1) n1] rfl h1 nc))
theorem bB9 (h1:a < b) (h2:b < 2):a=0:=qE (fun nb=>b5 [a,b] [ql 1 (qp n0 n1) v0,ql 1 (qp v0 n1) v1,ql 1 (qp v1 n1) n2] rfl nb h1 h2) fun nb=>b5 [a,b] [ql 1 (qp v0 n1) n0] rfl nb
theorem bC0 (h1:a < b) (h2:b < 2) (h3:a=0):b=1:=qE (fun nb=>b5 [a,b] [ql 1 (qp n1 n1) v1,ql 1 (qp v1 n1) n2] rfl nb h2) fun nb=>b5 [a,b] [ql 1 (qp v0 n1) v1,ql 1 (qp v1 n1) n1] rfl h1 nb
theorem bC1 (h1:2 <= a):1 < a:=qB fun nb=>b5 [a] [ql 1 n2 v0,ql 1 v0 n1] rfl h1 nb
theorem bC2:1 <= 2:=qA fun nb=>b5 [0] [ql 1 (qp n2 n1) n1] rfl nb
theorem bC3 (h1:2 <= a):2+(a - 2)=a:=qE (fun nb=>b5 [a,a - 2] [ql 1 (qp v0 n1) (qp n2 v1),qe 1 (qp v1 n2) v0] rfl nb (qS h1)) fun nb=>b5 [a,a - 2] [ql 1 (qp (qp n2 v1) n1) v0,qe 1 v0 (qp v1 n2)] rfl nb (aC (qS h1))
theorem bC4 (h1:2 <= a):1 <= a:=qA fun nb=>b5 [a] [ql 1 n2 v0,ql 1 (qp v0 n1) n1] rfl h1 nb
theorem bC5 (h1:2 <= a) (h2:a <= b):1 <= b:=qA fun nb=>b5 [a,b] [ql 1 n2 v0,ql 1 v0 v1,ql 1 (qp v1 n1) n1] rfl h1 h2 nb
theorem bC6 (h1:a <= b) (h2:b - a <= 0) (h3:a <= c):b <= c:=qA fun nb=>b5 [a,b,c,b - a] [ql 1 (qp v2 n1) v1,qe 1 v1 (qp v3 v0),ql 1 v0 v2,ql 1 v3 n0] rfl nb (aC (qS h1)) h3 h2
theorem bC7 (h1:a <= b) (h2:b <= c) (h3:a >= b):a <= c:=qA fun nb=>b5 [a,b,c] [ql 1 (qp v2 n1) v0,ql 1 v0 v1,ql 1 v1 v2] rfl nb h1 h2
theorem bC8 (h1:a <= b) (h2:a >= b) (h3:a <= c):b <= c:=qA fun nb=>b5 [a,b,c] [ql 1 (qp v2 n1) v1,ql 1 v1 v0,ql 1 v0 v2] rfl nb h2 h3
theorem bC9 (h1:¬a >= b):a <= (a+b) / 2:=qA fun nb=>b5 [a,b,(a+b) / 2] [ql 1 (qp v0 n1) v1,ql 1 (qp (qp v0 v1) n1) (qp (qm 2 v2) n2),ql 2 (qp v2 n1) v0] rfl (bE h1) (aN1 (a+b) 2 (by decide)) nb
theorem bD0 (h1:a <= b) (h2:¬c >= a):(c+a) / 2 <= b:=qA fun nb=>b5 [a,b,c,(c+a) / 2] [ql 1 (qp v2 n1) v0,ql 2 v0 v1,ql 2 (qp v1 n1) v3,ql 1 (qm 2 v3) (qp v2 v0)] rfl (bE h2) h1 nb (gO (c+a) 2)
theorem bD1 (h1:a - b <= c+1) (h2:¬b >= a):(b+a) / 2 - b <= c:=qA fun nb=>qT ((b+a) / 2) b (fun si=>b5 [a,b,c,a - b,((b+a) / 2) - b,(b+a) / 2] [ql 1 (qp v2 n1) v4,qe 1 v4 n0] rfl nb (qZ si)) (fun sj=>b5 [a,b,c,a - b,((b+a) / 2) - b,(b+a) / 2] [ql 2 (qp v2 n1) v4,qe 2 (qp v4 v1) v5,ql 1 (qm 2 v5) (qp v1 v0),qe 1 v0 (qp v3 v1),ql 1 v3 (qp v2 n1)] rfl nb (qS sj) (gO (b+a) 2) (aC (qS (qA fun nf=>b5 [a,b,c,a - b,((b+a) / 2) - b,(b+a) / 2] [ql 1 (qp v1 n1) v0,ql 1 (qp v0 n1) v1] rfl (bE h2) nf))) h1)
theorem bD2 (h1:(a+b) / 2 <= c) (h2:¬c=(a+b) / 2):(a+b) / 2 < c:=qB fun nb=>qN h2 (fun sc=>b5 [a,b,c,(a+b) / 2] [ql 1 (qp v2 n1) v3,ql 1 v3 v2] rfl sc h1) (fun sd=>b5 [a,b,c,(a+b) / 2] [ql 1 (qp v3 n1) v2,ql 1 v2 v3] rfl sd nb)
theorem bD3 (h1:a <= b) (h2:¬c >= a):b≠(c+a) / 2:=fun nb=>b5 [a,b,c,(c+a) / 2] [ql 1 (qp v2 n1) v0,ql 2 v0 v1,qe 2 v1 v3,ql 1 (qm 2 v3) (qp v2 v0)] rfl (bE h2) h1 nb (gO (c+a) 2)
theorem bD4 (h1:¬a >= b):(a+b) / 2+1 <= b:=qA fun nb=>b5 [a,b,(a+b) / 2] [ql 2 (qp v1 n1) (qp v2 n1),ql 1 (qm 2 v2) (qp v0 v1),ql 1 (qp v0 n1) v1] rfl nb (gO (a+b) 2) (bE h1)
theorem bD5 (h1:a - b <= c+1) (h2:¬b >= a) (h3:¬d < e) (h4:d≠e):a - ((b+a) / 2+1) <= c:=qA fun nb=>qT a (((b+a) / 2)+1) (fun sk=>b5 [a,b,c,d,e,a - b,a - (((b+a) / 2)+1),(b+a) / 2] [ql 1 (qp v2 n1) v6,qe 1 v6 n0] rfl nb (qZ sk)) (fun sl=>b5 [a,b,c,d,e,a - b,a - (((b+a) / 2)+1),(b+a) / 2] [ql 2 (qp v2 n1) v6,qe 2 (qp v6 (qp v7 n1)) v0,ql 1 (qp (qp v1 v0) n1) (qp (qm 2 v7) n2),qe 1 v0 (qp v5 v1),ql 1 v5 (qp v2 n1)] rfl nb (qS sl) (aN1 (b+a) 2 (by decide)) (aC (qS (qA fun nf=>b5 [a,b,c,d,e,a - b,a - (((b+a) / 2)+1),(b+a) / 2] [ql 1 (qp v1 n1) v0,ql 1 (qp v0 n1) v1] rfl (bE h2) nf))) h1)
theorem bD6 (h1:a < (b+c) / 2+1) (h2:¬a=(b+c) / 2):a < (b+c) / 2:=qB fun nb=>qN h2 (fun sc=>b5 [a,b,c,(b+c) / 2] [ql 1 (qp v0 n1) v3,ql 1 v3 v0] rfl sc nb) (fun sd=>b5 [a,b,c,(b+c) / 2] [ql 1 (qp v3 n1) v0,ql 1 (qp v0 n1) (qp v3 n1)] rfl sd h1)
theorem bD7 (h1:a <= b) (h2:¬c >= a):(c+a) / 2 < b:=qB fun nb=>b5 [a,b,c,(c+a) / 2] [ql 1 (qp v2 n1) v0,ql 2 v0 v1,ql 2 v1 v3,ql 1 (qm 2 v3) (qp v2 v0)] rfl (bE h2) h1 nb (gO (c+a) 2)
theorem bD8 (h1:¬a < b) (h2:a≠b) (h3:c < (d+e) / 2+1) (h4:¬c=(d+e) / 2):b < a:=qB fun nb=>qN h2 (fun sc=>b5 [a,b,c,d,e,(d+e) / 2] [ql 1 (qp v0 n1) v1,ql 1 v1 v0] rfl sc (bx h1)) (fun sd=>b5 [a,b,c,d,e,(d+e) / 2] [ql 1 (qp v1 n1) v0,ql 1 v0 v1] rfl sd nb)
theorem bD9 (h1:a <= b):b - a <= b:=qA fun nb=>b5 [a,b,b - a] [ql 1 (qp v1 n1) v2,qe 1 (qp v2 v0) v1] rfl nb (qS h1)
theorem bE0 (h1:a <= b):b - (b - a)=a:=qE (fun nb=>qT b (b - a) (fun sg=>b5 [a,b,b - (b - a),b - a] [ql 1 (qp v0 n1) v2,qe 1 v2 n0] rfl nb (qZ sg)) (fun sh=>b5 [a,b,b - (b - a),b - a] [qe 1 v1 (qp v3 v0),ql 1 (qp v0 n1) v2,qe 1 (qp v2 v3) v1] rfl (aC (qS h1)) nb (qS sh))) fun nb=>b5 [a,b,b - (b - a),b - a] [ql 1 (qp v2 n1) v0,ql 1 v1 (qp v3 v2),qe 1 (qp v3 v0) v1] rfl nb (av3 b (b - a)) (qS h1)
theorem bE1 (h1:a < b) (h2:c < a /\ a <= d):a - 1 < b:=qB fun nb=>b5 [a,b,c,d,a - 1] [ql 1 (qp v0 n1) v1,ql 1 v1 v4,qe 1 (qp v4 n1) v0] rfl h1 nb (qS (qA fun nc=>b5 [a,b,c,d,a - 1] [ql 1 (qp v2 n1) v0,ql 1 (qp v0 n1) n1] rfl h2.1 nc))
theorem bE2 (h1:1 <= a) (h2:a+(b+1)=c):a - 0 <= a:=qA fun nb=>b5 [a,b,c,a - 0] [ql 1 (qp v0 n1) v3,qe 1 (qp v3 n0) v0] rfl nb (qS (qA fun nc=>b5 [a,b,c,a - 0] [ql 1 (qp v0 n1) n0] rfl nc))
theorem bE3 (h1:a < 0):b < c:=qB fun nb=>b5 [a,b,c] [ql 1 (qp v0 n1) n0] rfl h1
theorem bE4 (h1:a+(b+1)=c) (h2:a <= d) (h3:d < a):e < f:=qB fun nb=>b5 [a,b,c,d,e,f] [ql 1 (qp v3 n1) v0,ql 1 v0 v3] rfl h3 h2
theorem bE5 (h1:a+(b+1)=c) (h2:d < e) (h3:e < a+1):d < c:=qB fun nb=>b5 [a,b,c,d,e] [ql 1 (qp v4 n1) (qp v0 n1),qe 1 (qp v0 (qp v1 n1)) v2,ql 1 v2 v3,ql 1 (qp v3 n1) v4] rfl h3 h1 nb h2
theorem bE6 (h1:a+(b+1)=c) (h2:d < a+1):d < c:=qB fun nb=>b5 [a,b,c,d] [ql 1 (qp v3 n1) (qp v0 n1),qe 1 (qp v0 (qp v1 n1)) v2,ql 1 v2 v3] rfl h2 h1 nb
theorem bE7 (h1:a < b) (h2:a=c):¬b=c:=fun nb=>b5 [a,b,c] [ql 1 (qp v0 n1) v1,qe 1 v1 v2,qe 1 v2 v0] rfl h1 nb (aC h2)
theorem bE8 (h1:a+(b+1)=c) (h2:d < e) (h3:e < a+1) (h4:d=f):f < e /\ e <= a:=⟨qB fun nb=>b5 [a,b,c,d,e,f] [ql 1 (qp v3 n1) v4,ql 1 v4 v5,qe 1 v5 v3] rfl h2 nb (aC h4),qA fun nc=>b5 [a,b,c,d,e,f] [ql 1 (qp v4 n1) (qp v0 n1),ql 1 (qp v0 n1) v4] rfl h3 nc⟩
theorem bE9 (h1:a < b) (h2:a=c):c <= b - 1:=qA fun nb=>b5 [a,b,c,b - 1] [ql 1 (qp v3 n1) v2,qe 1 v2 v0,ql 1 (qp v0 n1) v1,qe 1 v1 (qp v3 n1)] rfl nb (aC h2) h1 (aC (qS (qA fun nc=>b5 [a,b,c,b - 1] [ql 1 (qp v0 n1) v1,ql 1 (qp v1 n1) n1] rfl h1 nc)))
theorem bF0 (h1:a+(b+1)=c) (h2:d < e) (h3:e < a+1) (h4:d=f):e - 1 < a:=qB fun nb=>b5 [a,b,c,d,e,f,e - 1] [ql 1 (qp v4 n1) (qp v0 n1),ql 1 v0 v6,qe 1 (qp v6 n1) v4] rfl h3 nb (qS (qA fun nc=>b5 [a,b,c,d,e,f,e - 1] [ql 1 (qp v3 n1) v4,ql 1 (qp v4 n1) n1] rfl h2 nc))
theorem bF1 (h1:a < b) (h2:b=c):¬(c < a /\ a <= d):=fun nb=>b5 [a,b,c,d] [ql 1 (qp v2 n1) v0,ql 1 (qp v0 n1) v1,qe 1 v1 v2] rfl nb.1 h1 h2
theorem bF2 (h1:a < b) (h2:b=c):a < c:=qB fun nb=>b5 [a,b,c] [ql 1 v2 v0,ql 1 (qp v0 n1) v1,qe 1 v1 v2] rfl nb h1 h2
theorem bF3 (h1:a+(b+1)=c) (h2:d < e) (h3:e < a+1) (h4:f < d /\ d <= a):f < e /\ e <= a:=⟨qB fun nb=>b5 [a,b,c,d,e,f] [ql 1 (qp v5 n1) v3,ql 1 (qp v3 n1) v4,ql 1 v4 v5] rfl h4.1 h2 nb,qA fun nc=>b5 [a,b,c,d,e,f] [ql 1 (qp v4 n1) (qp v0 n1),ql 1 (qp v0 n1) v4] rfl h3 nc⟩
theorem bF4 (h1:a < b) (h2:c < a /\ a <= d):a - 1 < b - 1:=qB fun nb=>b5 [a,b,c,d,a - 1,b - 1] [ql 1 v5 v4,qe 1 (qp v4 n1) v0,ql 1 (qp v0 n1) v1,qe 1 v1 (qp v5 n1)] rfl nb (qS (qA fun nc=>b5 [a,b,c,d,a - 1,b - 1] [ql 1 (qp v2 n1) v0,ql 1 (qp v0 n1) n1] rfl h2.1 nc)) h1 (aC (qS (qA fun nd=>b5 [a,b,c,d,a - 1,b - 1] [ql 1 (qp v0 n1) v1,ql 1 (qp v1 n1) n1] rfl h1 nd)))
theorem bF5 (h1:a+(b+1)=c) (h2:d < e) (h3:e < a+1) (h4:¬d=f) (h5:¬e=f) (h6:¬(f < d /\ d <= a)) (h7:f < e /\ e <= a):d < e - 1:=qB fun nb=>qN h4 (fun sk=>b5 [a,b,c,d,e,f,e - 1] [ql 1 (qp v3 n1) v5,ql 1 (qp v5 n1) v4,qe 1 v4 (qp v6 n1),ql 1 v6 v3] rfl sk h7.1 (aC (qS (qA fun nj=>b5 [a,b,c,d,e,f,e - 1] [ql 1 (qp v3 n1) v4,ql 1 (qp v4 n1) n1] rfl h2 nj))) nb) (fun sl=>Or.elim (Decidable.not_and_iff_or_not.mp h6) (fun so=>b5 [a,b,c,d,e,f,e - 1] [ql 1 (qp v5 n1) v3,ql 1 v3 v5] rfl sl (bx so)) (fun sp=>b5 [a,b,c,d,e,f,e - 1] [ql 1 (qp v4 n1) (qp v0 n1),ql 1 (qp v0 n1) v3,ql 1 (qp v3 n1) v4] rfl h3 (bE sp) h2))
theorem bF6 (h1:a+(b+1)=c) (h2:d <= a) (h3:e < f) (h4:f < a+1) (h5:¬f=d) (h6:¬(d < e /\ e <= a)) (h7:¬(d < f /\ f <= a)):f < a:=qB fun nb=>qN h5 (fun sg=>b5 [a,b,c,d,e,f] [ql 1 (qp v5 n1) v3,ql 1 v3 v0,ql 1 v0 v5] rfl sg h2 nb) (fun sh=>Or.elim (Decidable.not_and_iff_or_not.mp h7) (fun sj=>b5 [a,b,c,d,e,f] [ql 1 (qp v3 n1) v5,ql 1 v5 v3] rfl sh (bx sj)) (fun sk=>b5 [a,b,c,d,e,f] [ql 1 (qp v0 n1) v5,ql 1 (qp v5 n1) (qp v0 n1)] rfl (bE sk) h4))
theorem bF7 (h1:a < b):a < b:=h1
theorem bF8:1 <= max a 1:=qA fun nb=>b5 [a,max a 1] [ql 1 n1 v1,ql 1 (qp v1 n1) n1] rfl (Nat.le_max_right a 1) nb
theorem bF9 (h1:1 <= a) (h2:a < b):max a 1+(b - max a 1)=b:=qE (fun nb=>qT a 1 (fun sk=>qT b (max a 1) (fun sl=>b5 [a,b,max a 1,b - (max a 1)] [ql 1 (qp v0 n1) v1,ql 1 (qp v1 n1) (qp v2 v3),qe 1 v2 n1,qe 1 v3 n0] rfl h2 nb (Nat.max_eq_right sk) (qZ sl)) (fun sm=>b5 [a,b,max a 1,b - (max a 1)] [ql 1 (qp v1 n1) (qp v2 v3),qe 1 (qp v3 v2) v1] rfl nb (qS sm))) (fun sn=>qT b (max a 1) (fun so=>b5 [a,b,max a 1,b - (max a 1)] [ql 1 v1 v2,qe 1 v2 v0,ql 1 (qp v0 n1) v1] rfl so (Nat.max_eq_left sn) h2) (fun sp=>b5 [a,b,max a 1,b - (max a 1)] [ql 1 (qp v1 n1) (qp v2 v3),qe 1 (qp v3 v2) v1] rfl nb (qS sp)))) fun nb=>b5 [a,b,max a 1,b - (max a 1)] [ql 1 (qp (qp v2 v3) n1) v1,qe 1 v1 (qp v3 v2)] rfl nb (aC (qS (qA fun nq=>b5 [a,b,max a 1,b - (max a 1)] [ql 1 (qp (qp v2 v3) n1) v1,ql 1 (qp v1 n1) v2] rfl nb nq)))
theorem bG0 (h1:1 <= a):max a 1=a:=qE (fun nb=>qT a 1 (fun sc=>b5 [a,max a 1] [ql 1 n1 v0,ql 1 (qp v0 n1) v1,qe 1 v1 n1] rfl h1 nb (Nat.max_eq_right sc)) (fun sd=>b5 [a,max a 1] [ql 1 (qp v0 n1) v1,qe 1 v1 v0] rfl nb (Nat.max_eq_left sd))) fun nb=>b5 [a,max a 1] [ql 1 (qp v1 n1) v0,ql 1 v0 v1] rfl nb (Nat.le_max_left a 1)
theorem bG1 (h1:a <= b) (h2:¬a < b):b=a:=qE (fun nb=>b5 [a,b] [ql 1 (qp v0 n1) v1,ql 1 v1 v0] rfl nb (bx h2)) fun nb=>b5 [a,b] [ql 1 (qp v1 n1) v0,ql 1 v0 v1] rfl nb h1
theorem bG2 (h1:a < 2):a < 2:=h1
theorem bG3 (h1:a < 2):a <= 16777216+1:=qA fun nb=>b5 [a] [ql 1 (qp (qp (qn 16777216) n1) n1) v0,ql 1 (qp v0 n1) n2] rfl nb h1
theorem bG4:¬a+1+1 < 2:=fun nb=>b5 [a] [ql 1 (qp (qp (qp v0 n1) n1) n1) n2] rfl nb
theorem bG5 (h1:a+40*b+200 < c):a+1 < c:=qB fun nb=>b5 [a,b,c] [ql 1 v2 (qp v0 n1),ql 1 (qp (qp (qp v0 (qm 40 v1)) (qn 200)) n1) v2] rfl nb h1
theorem bG6 (h1:a=b+1):b < a:=qB fun nb=>b5 [a,b] [ql 1 v0 v1,qe 1 (qp v1 n1) v0] rfl nb (aC h1)
theorem bG7 (h1:a < b) (h2:c=a+1) (h3:d - 1=a):c <= b:=qA fun nb=>b5 [a,b,c,d,d - 1] [ql 1 (qp v0 n1) v1,ql 1 (qp v1 n1) v2,qe 1 v2 (qp v0 n1)] rfl h1 nb h2
theorem bG8 (h1:a=b+1):a <= b+1:=qA fun nb=>b5 [a,b] [ql 1 (qp (qp v1 n1) n1) v0,qe 1 v0 (qp v1 n1)] rfl nb h1
theorem bG9 (h1:a=a+2):False:=b5 [a] [qe 1 (qp v0 n2) v0] rfl (aC h1)
theorem bH0 (h1:a+4*(b+1) < c):a+4*b < c:=qB fun nb=>b5 [a,b,c] [ql 1 v2 (qp v0 (qm 4 v1)),ql 1 (qp (qp v0 (qm 4 (qp v1 n1))) n1) v2] rfl nb h1
theorem bH1 (h1:a+40*(b+1)+200 < c):a+1+40*b+200 < c:=qB fun nb=>b5 [a,b,c] [ql 1 v2 (qp (qp (qp v0 n1) (qm 40 v1)) (qn 200)),ql 1 (qp (qp (qp v0 (qm 40 (qp v1 n1))) (qn 200)) n1) v2] rfl nb h1
theorem bH2 (h1:a <= b) (h2:c < a) (h3:d=c):d <= b:=qA fun nb=>b5 [a,b,c,d] [ql 1 (qp v2 n1) v0,ql 1 v0 v1,ql 1 (qp v1 n1) v3,qe 1 v3 v2] rfl h2 h1 nb h3
theorem bH3 (h1:a <= b) (h2:c < a) (h3:d=c):d+1 <= b+1:=qA fun nb=>b5 [a,b,c,d] [ql 1 (qp v2 n1) v0,ql 1 v0 v1,ql 1 (qp (qp v1 n1) n1) (qp v3 n1),qe 1 v3 v2] rfl h2 h1 nb h3
theorem bH4 (h1:a - b=c+1) (h2:b < a) (h3:d=b):a - (b+1)=c:=qE (fun nb=>b5 [a,b,c,d,a - b,a - (b+1)] [ql 1 (qp v2 n1) v5,qe 1 (qp v5 (qp v1 n1)) v0,qe 1 v0 (qp v4 v1),qe 1 v4 (qp v2 n1)] rfl nb (qS (qA fun nd=>b5 [a,b,c,d,a - b,a - (b+1)] [ql 1 (qp v1 n1) v0,ql 1 (qp v0 n1) (qp v1 n1)] rfl h2 nd)) (aC (qS (qA fun nc=>b5 [a,b,c,d,a - b,a - (b+1)] [ql 1 (qp v1 n1) v0,ql 1 (qp v0 n1) v1] rfl h2 nc))) h1) fun nb=>b5 [a,b,c,d,a - b,a - (b+1)] [ql 1 (qp v5 n1) v2,qe 1 (qp v2 n1) v4,qe 1 (qp v4 v1) v0,qe 1 v0 (qp v5 (qp v1 n1))] rfl nb (aC h1) (qS (qA fun ne=>b5 [a,b,c,d,a - b,a - (b+1)] [ql 1 (qp v1 n1) v0,ql 1 (qp v0 n1) v1] rfl h2 ne)) (aC (qS (qA fun nf=>b5 [a,b,c,d,a - b,a - (b+1)] [ql 1 (qp v1 n1) v0,ql 1 (qp v0 n1) (qp v1 n1)] rfl h2 nf)))
theorem bH5:a - a=0:=qE (fun nb=>b5 [a,a - a] [ql 1 (qp n0 n1) v1,qe 1 (qp v1 v0) v0] rfl nb (qS (qA fun nc=>b5 [a,a - a] [ql 1 (qp v0 n1) v0] rfl nc))) fun nb=>b5 [a,a - a] [ql 1 (qp v1 n1) n0] rfl nb
theorem bH6:a - 0=a:=qE (fun nb=>b5 [a,a - 0] [ql 1 (qp v0 n1) v1,qe 1 (qp v1 n0) v0] rfl nb (qS (qA fun nc=>b5 [a,a - 0] [ql 1 (qp v0 n1) n0] rfl nc))) fun nb=>b5 [a,a - 0] [ql 1 (qp v1 n1) v0,qe 1 v0 (qp v1 n0)] rfl nb (aC (qS (qA fun nd=>b5 [a,a - 0] [ql 1 (qp v0 n1) n0] rfl nd)))
theorem bH7 (h1:a≠0):¬a=0:=h1
theorem bH8 {a:Int} {b:Int} (h1:-a <= b) (h2:b < a):¬(b < -a \/ b >= a):=by lia
theorem bH9 {a:Nat} {b:Nat} {c:Int} {d:Int} {e:Int} (h1:a+1 <= b) (h2:0 <= c) (h3:c=d) (h4:0 <= e /\ e <= 100):0 <= c+e:=Int.add_nonneg h2 h4.1
theorem bI0 (h1:a=b) (h2:c < a):a≠c:=fun nb=>b5 [a,b,c] [ql 1 (qp v2 n1) v0,qe 1 v0 v2] rfl h2 nb
theorem bI1 (h1:a=b) (h2:c=b) (h3:d < b):d+1 <= b:=qA fun nb=>b5 [a,b,c,d] [ql 1 (qp v3 n1) v1,ql 1 (qp v1 n1) (qp v3 n1)] rfl h3 nb
theorem bI2 (h1:a=b) (h2:a < c) (h3:d < a) (h4:d=c):False:=b5 [a,b,c,d] [ql 1 (qp v3 n1) v0,ql 1 (qp v0 n1) v2,qe 1 v2 v3] rfl h3 h2 (aC h4)
theorem bI3 (h1:a=b) (h2:c < a) (h3:c=a):False:=b5 [a,b,c] [ql 1 (qp v2 n1) v0,qe 1 v0 v2] rfl h2 (aC h3)
theorem bI4 (h1:¬a < b) (h2:¬b < a):b=a:=qE (fun nb=>b5 [a,b] [ql 1 (qp v0 n1) v1,ql 1 v1 v0] rfl nb (bx h1)) fun nb=>b5 [a,b] [ql 1 (qp v1 n1) v0,ql 1 v0 v1] rfl nb (bx h2)
theorem bI5 (h1:a <= 16777216):1*a <= 16777216:=qA fun nb=>b5 [a] [ql 1 (qp (qn 16777216) n1) (qm 1 v0),ql 1 v0 (qn 16777216)] rfl nb h1
theorem bI6 (h1:a - b=c+1) (h2:b < a):a - (b+1)=c:=qE (fun nb=>b5 [a,b,c,a - b,a - (b+1)] [ql 1 (qp v2 n1) v4,qe 1 (qp v4 (qp v1 n1)) v0,qe 1 v0 (qp v3 v1),qe 1 v3 (qp v2 n1)] rfl nb (qS (qA fun nd=>b5 [a,b,c,a - b,a - (b+1)] [ql 1 (qp v1 n1) v0,ql 1 (qp v0 n1) (qp v1 n1)] rfl h2 nd)) (aC (qS (qA fun nc=>b5 [a,b,c,a - b,a - (b+1)] [ql 1 (qp v1 n1) v0,ql 1 (qp v0 n1) v1] rfl h2 nc))) h1) fun nb=>b5 [a,b,c,a - b,a - (b+1)] [ql 1 (qp v4 n1) v2,qe 1 (qp v2 n1) v3,qe 1 (qp v3 v1) v0,qe 1 v0 (qp v4 (qp v1 n1))] rfl nb (aC h1) (qS (qA fun ne=>b5 [a,b,c,a - b,a - (b+1)] [ql 1 (qp v1 n1) v0,ql 1 (qp v0 n1) v1] rfl h2 ne)) (aC (qS (qA fun nf=>b5 [a,b,c,a - b,a - (b+1)] [ql 1 (qp v1 n1) v0,ql 1 (qp v0 n1) (qp v1 n1)] rfl h2 nf)))
theorem bI7 (h1:a <= b) (h2:c < a):c <= b:=qA fun nb=>b5 [a,b,c] [ql 1 (qp v2 n1) v0,ql 1 v0 v1,ql 1 (qp v1 n1) v2] rfl h2 h1 nb
theorem bI8 (h1:a <= b) (h2:c < a):c+1 <= b+1:=qA fun nb=>b5 [a,b,c] [ql 1 (qp v2 n1) v0,ql 1 v0 v1,ql 1 (qp (qp v1 n1) n1) (qp v2 n1)] rfl h2 h1 nb
theorem bI9 (h1:a < b) (h2:b - a=0):¬b - a=0:=fun nb=>b5 [a,b,b - a] [ql 1 (qp v0 n1) v1,qe 1 v1 (qp v2 v0),qe 1 v2 n0] rfl h1 (aC (qS (qA fun nc=>b5 [a,b,b - a] [ql 1 (qp v1 n1) v0,ql 1 (qp v0 n1) v1] rfl nc h1))) h2
theorem bJ0 (h1:a < b):b - a=b - a - 1+1:=qE (fun nb=>b5 [a,b,b - a,(b - a) - 1] [ql 1 (qp (qp v3 n1) n1) v2,qe 1 v2 (qp v3 n1)] rfl nb (aC (qS (qA fun nd=>b5 [a,b,b - a,(b - a) - 1] [ql 1 (qp v0 n1) v1,qe 1 v1 (qp v2 v0),ql 1 (qp v2 n1) n1] rfl h1 (aC (qS (qA fun nc=>b5 [a,b,b - a,(b - a) - 1] [ql 1 (qp v1 n1) v0,ql 1 (qp v0 n1) v1] rfl nc h1))) nd)))) fun nb=>b5 [a,b,b - a,(b - a) - 1] [ql 1 (qp v2 n1) (qp v3 n1),qe 1 (qp v3 n1) v2] rfl nb (qS (qA fun nf=>b5 [a,b,b - a,(b - a) - 1] [ql 1 (qp v0 n1) v1,qe 1 v1 (qp v2 v0),ql 1 (qp v2 n1) n1] rfl h1 (aC (qS (qA fun ne=>b5 [a,b,b - a,(b - a) - 1] [ql 1 (qp v1 n1) v0,ql 1 (qp v0 n1) v1] rfl ne h1))) nf))
theorem bJ1 (h1:a < b) (h2:b - a=c+1):b - 1 - (c+1 - 1)=a:=qE (fun nb=>qT (b - 1) ((c+1) - 1) (fun sm=>b5 [a,b,c,b - a,(b - 1) - ((c+1) - 1),b - 1,(c+1) - 1] [ql 1 (qp v0 n1) v4,qe 1 v4 n0] rfl nb (qZ sm)) (fun sn=>b5 [a,b,c,b - a,(b - 1) - ((c+1) - 1),b - 1,(c+1) - 1] [qe 1 v3 (qp v2 n1),qe 1 (qp v2 n1) (qp v6 n1),qe 1 (qp v4 v6) v5,qe 1 (qp v5 n1) v1,qe 1 v1 (qp v3 v0),ql 1 (qp v0 n1) v4] rfl h2 (aC (qS (qA fun nl=>b5 [a,b,c,b - a,(b - 1) - ((c+1) - 1),b - 1,(c+1) - 1] [ql 1 (qp (qp v2 n1) n1) n1] rfl nl))) (qS sn) (qS (qA fun nk=>b5 [a,b,c,b - a,(b - 1) - ((c+1) - 1),b - 1,(c+1) - 1] [ql 1 (qp v0 n1) v1,ql 1 (qp v1 n1) n1] rfl h1 nk)) (aC (qS (qA fun nh=>b5 [a,b,c,b - a,(b - 1) - ((c+1) - 1),b - 1,(c+1) - 1] [ql 1 (qp v1 n1) v0,ql 1 (qp v0 n1) v1] rfl nh h1))) nb)) fun nb=>b5 [a,b,c,b - a,(b - 1) - ((c+1) - 1),b - 1,(c+1) - 1] [ql 1 (qp v4 n1) v0,ql 1 v5 (qp v6 v4),qe 1 (qp v6 n1) (qp v2 n1),qe 1 (qp v2 n1) v3,qe 1 (qp v3 v0) v1,qe 1 v1 (qp v5 n1)] rfl nb (av3 (b - 1) ((c+1) - 1)) (qS (qA fun ns=>b5 [a,b,c,b - a,(b - 1) - ((c+1) - 1),b - 1,(c+1) - 1] [ql 1 (qp (qp v2 n1) n1) n1] rfl ns)) (aC h2) (qS (qA fun no=>b5 [a,b,c,b - a,(b - 1) - ((c+1) - 1),b - 1,(c+1) - 1] [ql 1 (qp v1 n1) v0,ql 1 (qp v0 n1) v1] rfl no h1)) (aC (qS (qA fun nr=>b5 [a,b,c,b - a,(b - 1) - ((c+1) - 1),b - 1,(c+1) - 1] [ql 1 (qp v0 n1) v1,ql 1 (qp v1 n1) n1] rfl h1 nr)))
theorem bJ2 (h1:a < b) (h2:b - a=c+1) (h3:b - 1 - (c+1 - 1)=a):b - (a+1)=c:=qE (fun nb=>b5 [a,b,c,b - a,(b - 1) - ((c+1) - 1),b - 1,(c+1) - 1,b - (a+1)] [qe 1 v1 (qp v3 v0),qe 1 v3 (qp v2 n1),ql 1 (qp v2 n1) v7,qe 1 (qp v7 (qp v0 n1)) v1] rfl (aC (qS (qA fun nc=>b5 [a,b,c,b - a,(b - 1) - ((c+1) - 1),b - 1,(c+1) - 1,b - (a+1)] [ql 1 (qp v0 n1) v1,ql 1 (qp v1 n1) v0] rfl h1 nc))) h2 nb (qS (qA fun nh=>b5 [a,b,c,b - a,(b - 1) - ((c+1) - 1),b - 1,(c+1) - 1,b - (a+1)] [ql 1 (qp v0 n1) v1,ql 1 (qp v1 n1) (qp v0 n1)] rfl h1 nh))) fun nb=>b5 [a,b,c,b - a,(b - 1) - ((c+1) - 1),b - 1,(c+1) - 1,b - (a+1)] [qe 1 v1 (qp v7 (qp v0 n1)),ql 1 (qp v7 n1) v2,qe 1 (qp v2 n1) v3,qe 1 (qp v3 v0) v1] rfl (aC (qS (qA fun nn=>b5 [a,b,c,b - a,(b - 1) - ((c+1) - 1),b - 1,(c+1) - 1,b - (a+1)] [ql 1 (qp v0 n1) v1,ql 1 (qp v1 n1) (qp v0 n1)] rfl h1 nn))) nb (aC h2) (qS (qA fun ni=>b5 [a,b,c,b - a,(b - 1) - ((c+1) - 1),b - 1,(c+1) - 1,b - (a+1)] [ql 1 (qp v0 n1) v1,ql 1 (qp v1 n1) v0] rfl h1 ni))
theorem bJ3 (h1:a+4*(b+1) < c):a+0+1+4*b < c:=qB fun nb=>b5 [a,b,c] [ql 1 v2 (qp (qp (qp v0 n0) n1) (qm 4 v1)),ql 1 (qp (qp v0 (qm 4 (qp v1 n1))) n1) v2] rfl nb h1
theorem bJ4 (h1:a+40*(b+1)+200 < c):a+1+1+1+0+3+40*b+200 < c:=qB fun nb=>b5 [a,b,c] [ql 1 v2 (qp (qp (qp (qp (qp (qp (qp v0 n1) n1) n1) n0) n3) (qm 40 v1)) (qn 200)),ql 1 (qp (qp (qp v0 (qm 40 (qp v1 n1))) (qn 200)) n1) v2] rfl nb h1
theorem aQ8:a+1≠a:=fun nb=>b5 [a] [qe 1 (qp v0 n1) v0] rfl nb
theorem bJ5:a <= a+1+1+1+1+1+1+1+1+b:=qA fun nb=>b5 [a,b] [ql 1 (qp (qp (qp (qp (qp (qp (qp (qp (qp (qp v0 n1) n1) n1) n1) n1) n1) n1) n1) v1) n1) v0] rfl nb
theorem bJ6 (h1:a < b) (h2:a=b):c < c:=qB fun nb=>b5 [a,b,c] [ql 1 (qp v0 n1) v1,qe 1 v1 v0] rfl h1 (aC h2)
theorem bJ7 (h1:a < b) (h2:b < a):c < d:=qB fun nb=>b5 [a,b,c,d] [ql 1 (qp v1 n1) v0,ql 1 (qp v0 n1) v1] rfl h2 h1
theorem bJ8 (h1:a < 0+1):a=0:=qE (fun nb=>b5 [a] [ql 1 (qp n0 n1) v0,ql 1 (qp v0 n1) (qp n0 n1)] rfl nb h1) fun nb=>b5 [a] [ql 1 (qp v0 n1) n0] rfl nb
theorem bJ9 (h1:1 <= a) (h2:b=a):1 <= a+1:=qA fun nb=>b5 [a,b] [ql 1 (qp (qp v0 n1) n1) n1] rfl nb
theorem bK0 (h1:a+b <= c) (h2:d=b):a+(b+1) <= c+1:=qA fun nb=>b5 [a,b,c,d] [ql 1 (qp (qp v2 n1) n1) (qp v0 (qp v1 n1)),ql 1 (qp v0 v1) v2] rfl nb h1
theorem bK1 (h1:a+b <= c+1) (h2:c+1=d) (h3:e=b):a+(b+1) <= d+1:=qA fun nb=>b5 [a,b,c,d,e] [ql 1 (qp (qp v3 n1) n1) (qp v0 (qp v1 n1)),ql 1 (qp v0 v1) (qp v2 n1),qe 1 (qp v2 n1) v3] rfl nb h1 h2
theorem bK2 (h1:a+b <= c) (h2:d=b):c+1 - (b+1)=c - b:=qE (fun nb=>b5 [a,b,c,d,(c+1) - (b+1),c - b] [ql 1 (qp v5 n1) v4,qe 1 (qp v4 (qp v1 n1)) (qp v2 n1),qe 1 v2 (qp v5 v1)] rfl nb (qS (qA fun nc=>b5 [a,b,c,d,(c+1) - (b+1),c - b] [ql 1 (qp v0 v1) v2,ql 1 (qp (qp v2 n1) n1) (qp v1 n1)] rfl h1 nc)) (aC (qS (qA fun nd=>b5 [a,b,c,d,(c+1) - (b+1),c - b] [ql 1 (qp v0 v1) v2,ql 1 (qp v2 n1) v1] rfl h1 nd)))) fun nb=>b5 [a,b,c,d,(c+1) - (b+1),c - b] [ql 1 (qp v4 n1) v5,qe 1 (qp v5 v1) v2,qe 1 (qp v2 n1) (qp v4 (qp v1 n1))] rfl nb (qS (qA fun nf=>b5 [a,b,c,d,(c+1) - (b+1),c - b] [ql 1 (qp v2 n1) v1,ql 1 (qp v0 v1) v2] rfl nf h1)) (aC (qS (qA fun ne=>b5 [a,b,c,d,(c+1) - (b+1),c - b] [ql 1 (qp v0 v1) v2,ql 1 (qp (qp v2 n1) n1) (qp v1 n1)] rfl h1 ne)))
theorem bK3 (h1:a+b <= c+1) (h2:c+1=d) (h3:e=b):d+1 - (b+1)=c+1 - b:=qE (fun nb=>b5 [a,b,c,d,e,(d+1) - (b+1),(c+1) - b] [ql 1 (qp v6 n1) v5,qe 1 (qp v5 (qp v1 n1)) (qp v3 n1),qe 1 v3 (qp v2 n1),qe 1 (qp v2 n1) (qp v6 v1)] rfl nb (qS (qA fun nc=>b5 [a,b,c,d,e,(d+1) - (b+1),(c+1) - b] [ql 1 (qp v0 v1) (qp v2 n1),qe 1 (qp v2 n1) v3,ql 1 (qp (qp v3 n1) n1) (qp v1 n1)] rfl h1 h2 nc)) (aC h2) (aC (qS (qA fun nd=>b5 [a,b,c,d,e,(d+1) - (b+1),(c+1) - b] [ql 1 (qp v0 v1) (qp v2 n1),ql 1 (qp (qp v2 n1) n1) v1] rfl h1 nd)))) fun nb=>b5 [a,b,c,d,e,(d+1) - (b+1),(c+1) - b] [ql 1 (qp v5 n1) v6,qe 1 (qp v6 v1) (qp v2 n1),qe 1 (qp v2 n1) v3,qe 1 (qp v3 n1) (qp v5 (qp v1 n1))] rfl nb (qS (qA fun nf=>b5 [a,b,c,d,e,(d+1) - (b+1),(c+1) - b] [ql 1 (qp (qp v2 n1) n1) v1,ql 1 (qp v0 v1) (qp v2 n1)] rfl nf h1)) h2 (aC (qS (qA fun ne=>b5 [a,b,c,d,e,(d+1) - (b+1),(c+1) - b] [ql 1 (qp v0 v1) (qp v2 n1),qe 1 (qp v2 n1) v3,ql 1 (qp (qp v3 n1) n1) (qp v1 n1)] rfl h1 h2 ne)))
theorem bK4:1 <= 0+1:=qA fun nb=>b5 [0] [ql 1 (qp (qp n0 n1) n1) n1] rfl nb
theorem bK5 (h1:a+(b+1) <= c+1):c+1 - (b+1)+(b+1) <= c+1:=qA fun nb=>b5 [a,b,c,(c+1) - (b+1)] [ql 1 (qp (qp v2 n1) n1) (qp v3 (qp v1 n1)),qe 1 (qp v3 (qp v1 n1)) (qp v2 n1)] rfl nb (qS (qA fun nc=>b5 [a,b,c,(c+1) - (b+1)] [ql 1 (qp (qp v2 n1) n1) (qp v1 n1),ql 1 (qp v0 (qp v1 n1)) (qp v2 n1)] rfl nc h1))
theorem bK6 (h1:a < b) (h2:c+(d+1) <= a+1):a+1 - (d+1)+(d+1) <= b:=qA fun nb=>b5 [a,b,c,d,(a+1) - (d+1)] [ql 1 (qp v0 n1) v1,ql 1 (qp v1 n1) (qp v4 (qp v3 n1)),qe 1 (qp v4 (qp v3 n1)) (qp v0 n1)] rfl h1 nb (qS (qA fun nc=>b5 [a,b,c,d,(a+1) - (d+1)] [ql 1 (qp v2 (qp v3 n1)) (qp v0 n1),ql 1 (qp (qp v0 n1) n1) (qp v3 n1)] rfl h2 nc))
theorem bK7 (h1:a+1 < b+1):a < b:=qB fun nb=>b5 [a,b] [ql 1 v1 v0,ql 1 (qp (qp v0 n1) n1) (qp v1 n1)] rfl nb h1
theorem bK8 (h1:a < b /\ c < d):0 <= a /\ a < b↔0 <= c /\ c < d:=⟨fun gb=>⟨qA fun nc=>b5 [a,b,c,d] [ql 1 (qp v2 n1) n0] rfl nc,qB fun nd=>b5 [a,b,c,d] [ql 1 v3 v2,ql 1 (qp v2 n1) v3] rfl nd h1.2⟩,fun ge=>⟨qA fun nf=>b5 [a,b,c,d] [ql 1 (qp v0 n1) n0] rfl nf,qB fun ng=>b5 [a,b,c,d] [ql 1 v1 v0,ql 1 (qp v0 n1) v1] rfl ng h1.1⟩⟩
theorem bK9 (h1:a <= b) (h2:a <= c) (h3:c < b):a < b:=qB fun nb=>b5 [a,b,c] [ql 1 (qp v2 n1) v1,ql 1 v1 v0,ql 1 v0 v2] rfl h3 nb h2
theorem bL0 (h1:a <= b /\ b < c) (h2:a <= b /\ b < d):a < d:=qB fun nb=>b5 [a,b,c,d] [ql 1 v3 v0,ql 1 v0 v1,ql 1 (qp v1 n1) v3] rfl nb h1.1 h2.2
theorem bL1 (h1:a+b <= c) (h2:d < c) (h3:¬d < a+b):a+b < c:=qB fun nb=>b5 [a,b,c,d] [ql 1 (qp v3 n1) v2,ql 1 v2 (qp v0 v1),ql 1 (qp v0 v1) v3] rfl h2 nb (bx h3)
theorem bL2 (h1:a <= b /\ b < c) (h2:d+e <= b /\ b < c):d+e < c:=qB fun nb=>b5 [a,b,c,d,e] [ql 1 (qp v3 v4) v1,ql 1 (qp v1 n1) v2,ql 1 v2 (qp v3 v4)] rfl h2.1 h1.2 nb
theorem cO0 (h1:a <= b) (h2:b+c <= d):a <= b /\ b+c <= d:=⟨qA fun nb=>b5 [a,b,c,d] [ql 1 (qp v1 n1) v0,ql 1 v0 v1] rfl nb h1,qA fun nc=>b5 [a,b,c,d] [ql 1 (qp v3 n1) (qp v1 v2),ql 1 (qp v1 v2) v3] rfl nc h2⟩
theorem bL3 (h1:a <= b \/ c <= d) (h2:b <= e /\ f <= c):a <= e \/ f <= d:=ir fun nb=>Or.elim h1 (fun sc=>b5 [a,b,c,d,e,f] [ql 1 (qp v4 n1) v0,ql 1 v0 v1,ql 1 v1 v4] rfl (bE (fun hx=>nb (.inl hx))) sc h2.1) (fun sd=>b5 [a,b,c,d,e,f] [ql 1 v5 v2,ql 1 v2 v3,ql 1 (qp v3 n1) v5] rfl h2.2 sd (bE (fun hx=>nb (.inr hx))))
theorem bL4:a < a+(2*(b - c)+1+0):=qB fun nb=>b5 [a,b,c,b - c] [ql 1 (qp v0 (qp (qp (qm 2 v3) n1) n0)) v0] rfl nb
theorem bL5 (h1:a≠0) (h2:b <= c) (h3:c+a <= d) (h4:e <= 2*(c - b)+1) (h5:f <= 2*(d - (c+a))+1):g+e+f < g+(2*(d - b)+1):=qB fun nb=>b5 [a,b,c,d,e,f,g,c - b,d - (c+a),d - b] [ql 2 (qp n0 n1) v0,ql 1 (qp v6 (qp (qm 2 v9) n1)) (qp (qp v6 v4) v5),ql 1 v4 (qp (qm 2 v7) n1),ql 1 v5 (qp (qm 2 v8) n1),qe 2 (qp v7 v1) v2,qe 2 (qp v8 (qp v2 v0)) v3,qe 2 v3 (qp v9 v1)] rfl (qO h1) nb h4 h5 (qS h2) (qS h3) (aC (qS (qA fun nc=>b5 [a,b,c,d,e,f,g,c - b,d - (c+a),d - b] [ql 1 (qp v6 (qp (qm 2 v9) n1)) (qp (qp v6 v4) v5),ql 1 v4 (qp (qm 2 v7) n1),ql 1 v5 (qp (qm 2 v8) n1),qe 2 (qp v7 v1) v2,qe 2 (qp v8 (qp v2 v0)) v3,ql 2 (qp v3 n1) v1] rfl nb h4 h5 (qS h2) (qS h3) nc)))
theorem bL6 (h1:a≠0) (h2:b+a <= c) (h3:d≠0):b+(a - 1) < c+0:=qB fun nb=>b5 [a,b,c,d,a - 1] [ql 1 (qp v2 n0) (qp v1 v4),ql 1 (qp v1 v0) v2,qe 1 (qp v4 n1) v0] rfl nb h2 (qS (qA fun nc=>b5 [a,b,c,d,a - 1] [ql 1 (qp n0 n1) v0,ql 1 (qp v0 n1) n1] rfl (qO h1) nc))
theorem bL7 (h1:a≠0) (h2:b+(c - 1) < d+0):b+c <= d:=qA fun nb=>b5 [a,b,c,d,c - 1] [ql 1 (qp v3 n1) (qp v1 v2),ql 1 (qp (qp v1 v4) n1) (qp v3 n0),qe 1 v2 (qp v4 n1)] rfl nb h2 (aC (qS (qA fun nc=>b5 [a,b,c,d,c - 1] [ql 1 (qp v3 n1) (qp v1 v2),ql 1 (qp (qp v1 v4) n1) (qp v3 n0),ql 1 (qp v2 n1) n1] rfl nb h2 nc)))
theorem bL8 (h1:a <= b) (h2:c < a):c < b+d:=qB fun nb=>b5 [a,b,c,d] [ql 1 (qp v2 n1) v0,ql 1 v0 v1,ql 1 (qp v1 v3) v2] rfl h2 h1 nb
theorem bL9 (h1:a+b <= c \/ c+d <= a) (h2:a < c) (h3:d≠0):a+b <= c:=qA fun nb=>Or.elim h1 (fun sc=>b5 [a,b,c,d] [ql 1 (qp v2 n1) (qp v0 v1),ql 1 (qp v0 v1) v2] rfl nb sc) (fun sd=>b5 [a,b,c,d] [ql 1 (qp v2 v3) v0,ql 1 (qp v0 n1) v2] rfl sd h2)
theorem bM0 (h1:a < b+c) (h2:¬a < b):a - b < c:=qB fun nb=>b5 [a,b,c,a - b] [ql 1 (qp v0 n1) (qp v1 v2),ql 1 v2 v3,qe 1 (qp v3 v1) v0] rfl h1 nb (qS (bx h2))
theorem bM1 (h1:a < b) (h2:b <= a):a < c:=qB fun nb=>b5 [a,b,c] [ql 1 v1 v0,ql 1 (qp v0 n1) v1] rfl h2 h1
theorem bM2 (h1:a <= b):b=a+(b - a):=qE (fun nb=>b5 [a,b,b - a] [ql 1 (qp (qp v0 v2) n1) v1,qe 1 v1 (qp v2 v0)] rfl nb (aC (qS h1))) fun nb=>b5 [a,b,b - a] [ql 1 (qp v1 n1) (qp v0 v2),qe 1 (qp v2 v0) v1] rfl nb (qS h1)
theorem aQ9:a <= a+b:=qA fun nb=>b5 [a,b] [ql 1 (qp (qp v0 v1) n1) v0] rfl nb
theorem bM3 (h1:a+b <= c):min b (c - a)=b:=qE (fun nb=>b5 [a,b,c,min b (c - a),c - a] [ql 1 v3 v1,ql 1 (qp v1 n1) v3] rfl (bW b (c - a)) nb) fun nb=>qT b (c - a) (fun sf=>b5 [a,b,c,min b (c - a),c - a] [ql 1 (qp v3 n1) v1,qe 1 v1 v3] rfl nb (aC (cF sf))) (fun sg=>b5 [a,b,c,min b (c - a),c - a] [ql 1 (qp v3 n1) v1,ql 1 (qp v0 v1) v2,qe 1 v2 (qp v4 v0),qe 1 v4 v3] rfl nb h1 (aC (qS (qA fun ne=>b5 [a,b,c,min b (c - a),c - a] [ql 1 (qp v2 n1) v0,ql 1 (qp v0 v1) v2] rfl ne h1))) (aC (dC sg)))
theorem bM4:a+b=0+(a+b):=qE (fun nb=>b5 [a,b] [ql 1 (qp (qp n0 (qp v0 v1)) n1) (qp v0 v1)] rfl nb) fun nb=>b5 [a,b] [ql 1 (qp (qp v0 v1) n1) (qp n0 (qp v0 v1))] rfl nb
theorem bM5 (h1:a <= b) (h2:b - 1 < a) (h3:b - 1 < b /\ c - 1 < c):a=b:=qE (fun nb=>b5 [a,b,c,b - 1,c - 1] [ql 1 (qp v1 n1) v0,ql 1 v0 v1] rfl nb h1) fun nb=>b5 [a,b,c,b - 1,c - 1] [ql 1 (qp v0 n1) v1,qe 1 v1 (qp v3 n1),ql 1 (qp v3 n1) v0] rfl nb (aC (qS (qA fun ne=>b5 [a,b,c,b - 1,c - 1] [ql 1 (qp v3 n1) v1,ql 1 (qp v1 n1) n1] rfl h3.1 ne))) h2
theorem bM6 (h1:a <= b) (h2:b - 1 < a):a=b:=qE (fun nb=>b5 [a,b,b - 1] [ql 1 (qp v1 n1) v0,ql 1 v0 v1] rfl nb h1) fun nb=>b5 [a,b,b - 1] [ql 1 (qp v0 n1) v1,qe 1 v1 (qp v2 n1),ql 1 (qp v2 n1) v0] rfl nb (aC (qS (qA fun nd=>b5 [a,b,b - 1] [ql 1 (qp v0 n1) v1,ql 1 (qp v1 n1) n1] rfl nb nd))) h2
theorem bM7 (h1:a < b) (h2:b <= a):False:=b5 [a,b] [ql 1 v1 v0,ql 1 (qp v0 n1) v1] rfl h2 h1
theorem bM8 (h1:a=0) (h2:b < c /\ d < e):b < c+a↔d < e+a:=⟨fun gb=>qB fun nc=>b5 [a,b,c,d,e] [ql 1 (qp v4 v0) v3,ql 1 (qp v3 n1) v4] rfl nc h2.2,fun gd=>qB fun ne=>b5 [a,b,c,d,e] [ql 1 (qp v2 v0) v1,ql 1 (qp v1 n1) v2] rfl ne h2.1⟩
theorem bM9 (h1:¬a=0):a - 1 < a:=qB fun nb=>b5 [a,a - 1] [ql 1 v0 v1,qe 1 (qp v1 n1) v0] rfl nb (qS (qA fun nc=>b5 [a,a - 1] [ql 1 (qp n0 n1) v0,ql 1 (qp v0 n1) n1] rfl (qO h1) nc))
theorem bN0 (h1:a < b+(c - 1)↔d < e+(c - 1)) (h2:a=b+(c - 1) -> d=e+(c - 1)) (h3:d=e+(c - 1) -> a=b+(c - 1)):a < b+c↔d < e+c:=by
 cases c with
 | zero=>exact h1
 | succ c=>exact ⟨fun h=>Nat.lt_succ_of_le ((Nat.lt_or_eq_of_le (Nat.le_of_lt_succ h)).elim (fun p=>Nat.le_of_lt (h1.mp p)) fun p=>Nat.le_of_eq (h2 p)),fun h=>Nat.lt_succ_of_le ((Nat.lt_or_eq_of_le (Nat.le_of_lt_succ h)).elim (fun p=>Nat.le_of_lt (h1.mpr p)) fun p=>Nat.le_of_eq (h3 p))⟩
theorem bN1 (h1:a=b /\ c=d) (h2:b - 1 < b /\ d - 1 < d):b - 1 < a:=qB fun nb=>b5 [a,b,c,d,b - 1,d - 1] [ql 1 v0 v4,ql 1 (qp v4 n1) v1,qe 1 v1 v0] rfl nb h2.1 (aC h1.1)
theorem bN2 (h1:a <= b) (h2:c <= d) (h3:b=e /\ d=f) (h4:e - 1 < e /\ f - 1 < f) (h5:e - 1 < a) (h6:f - 1 < c):a=b /\ c=d:=⟨qE (fun nb=>b5 [a,b,c,d,e,f,e - 1,f - 1] [ql 1 (qp v1 n1) v0,ql 1 v0 v1] rfl nb h1) fun nb=>b5 [a,b,c,d,e,f,e - 1,f - 1] [ql 1 (qp v0 n1) v1,qe 1 v1 v4,qe 1 v4 (qp v6 n1),ql 1 (qp v6 n1) v0] rfl nb h3.1 (aC (qS (qA fun ne=>b5 [a,b,c,d,e,f,e - 1,f - 1] [ql 1 (qp v6 n1) v4,ql 1 (qp v4 n1) n1] rfl h4.1 ne))) h5,qE (fun ng=>b5 [a,b,c,d,e,f,e - 1,f - 1] [ql 1 (qp v3 n1) v2,ql 1 v2 v3] rfl ng h2) fun ng=>b5 [a,b,c,d,e,f,e - 1,f - 1] [ql 1 (qp v2 n1) v3,qe 1 v3 v5,qe 1 v5 (qp v7 n1),ql 1 (qp v7 n1) v2] rfl ng h3.2 (aC (qS (qA fun nk=>b5 [a,b,c,d,e,f,e - 1,f - 1] [ql 1 (qp v7 n1) v5,ql 1 (qp v5 n1) n1] rfl h4.2 nk))) h6⟩
theorem bN3 (h1:¬a=0):0 < a:=qB fun nb=>b5 [a] [ql 1 (qp n0 n1) v0,ql 1 v0 n0] rfl (qO h1) nb
theorem bN4:0 < 0+1:=qB fun nb=>b5 [0] [ql 1 (qp n0 n1) n0] rfl nb
theorem bN5:0 < a+1+1:=qB fun nb=>b5 [a] [ql 1 (qp (qp v0 n1) n1) n0] rfl nb
theorem bN6 (h1:a <= b) (h2:b+c+d=e):a+(b - a+c+d)=e:=qE (fun nb=>b5 [a,b,c,d,e,b - a] [ql 1 (qp v4 n1) (qp v0 (qp (qp v5 v2) v3)),qe 1 (qp (qp v1 v2) v3) v4,qe 1 (qp v5 v0) v1] rfl nb h2 (qS h1)) fun nb=>b5 [a,b,c,d,e,b - a] [ql 1 (qp (qp v0 (qp (qp v5 v2) v3)) n1) v4,qe 1 v4 (qp (qp v1 v2) v3),qe 1 v1 (qp v5 v0)] rfl nb (aC h2) (aC (qS h1))
theorem bN7 (h1:¬a=0):a=a - 1+1:=qE (fun nb=>b5 [a,a - 1] [ql 1 (qp (qp v1 n1) n1) v0,qe 1 v0 (qp v1 n1)] rfl nb (aC (qS (qA fun nc=>b5 [a,a - 1] [ql 1 (qp n0 n1) v0,ql 1 (qp v0 n1) n1] rfl (qO h1) nc)))) fun nb=>b5 [a,a - 1] [ql 1 (qp v0 n1) (qp v1 n1),qe 1 (qp v1 n1) v0] rfl nb (qS (qA fun nd=>b5 [a,a - 1] [ql 1 (qp n0 n1) v0,ql 1 (qp v0 n1) n1] rfl (qO h1) nd))
theorem bN8 (h1:a+b < c /\ d+b < e):a+b+1 <= c:=qA fun nb=>b5 [a,b,c,d,e] [ql 1 (qp v2 n1) (qp (qp v0 v1) n1),ql 1 (qp (qp v0 v1) n1) v2] rfl nb h1.1
theorem bN9 (h1:a <= b) (h2:b+c+1 <= d):min (b - a) (d - a)=b - a:=qE (fun nb=>b5 [a,b,c,d,min (b - a) (d - a),b - a,d - a] [ql 1 (qp v5 n1) v4,ql 1 v4 v5] rfl nb (bW (b - a) (d - a))) fun nb=>qT (b - a) (d - a) (fun sf=>b5 [a,b,c,d,min (b - a) (d - a),b - a,d - a] [ql 1 (qp v4 n1) v5,qe 1 v5 v4] rfl nb (aC (cF sf))) (fun sg=>b5 [a,b,c,d,min (b - a) (d - a),b - a,d - a] [ql 1 v6 v5,qe 1 (qp v5 v0) v1,ql 1 (qp (qp v1 v2) n1) v3,qe 1 v3 (qp v6 v0)] rfl sg (qS h1) h2 (aC (qS (qA fun ne=>b5 [a,b,c,d,min (b - a) (d - a),b - a,d - a] [ql 1 v0 v1,ql 1 (qp (qp v1 v2) n1) v3,ql 1 (qp v3 n1) v0] rfl h1 h2 ne))))
theorem bO0 (h1:a+b+1 <= c):min (b+1) (c - a)=b+1:=qE (fun nb=>b5 [a,b,c,min (b+1) (c - a),c - a] [ql 1 v3 (qp v1 n1),ql 1 (qp (qp v1 n1) n1) v3] rfl (bW (b+1) (c - a)) nb) fun nb=>qT (b+1) (c - a) (fun sf=>b5 [a,b,c,min (b+1) (c - a),c - a] [ql 1 (qp v3 n1) (qp v1 n1),qe 1 (qp v1 n1) v3] rfl nb (aC (cF sf))) (fun sg=>b5 [a,b,c,min (b+1) (c - a),c - a] [ql 1 (qp v3 n1) (qp v1 n1),ql 1 (qp (qp v0 v1) n1) v2,qe 1 v2 (qp v4 v0),qe 1 v4 v3] rfl nb h1 (aC (qS (qA fun ne=>b5 [a,b,c,min (b+1) (c - a),c - a] [ql 1 (qp v2 n1) v0,ql 1 (qp (qp v0 v1) n1) v2] rfl ne h1))) (aC (dC sg)))
theorem bO1 (h1:a <= b) (h2:c < b - a):a+c < b:=qB fun nb=>b5 [a,b,c,b - a] [ql 1 v1 (qp v0 v2),ql 1 (qp v2 n1) v3,qe 1 (qp v3 v0) v1] rfl nb h2 (qS h1)
theorem Z0 (h1:a < b):0 < b:=qB fun nb=>b5 [a,b] [ql 1 (qp v0 n1) v1,ql 1 v1 n0] rfl h1 nb
theorem Z1 (h1:a <= b) (h2:¬a < b):b - a=0:=qE (fun nb=>b5 [a,b,b - a] [ql 1 (qp n0 n1) v2,qe 1 (qp v2 v0) v1,ql 1 v1 v0] rfl nb (qS h1) (bx h2)) fun nb=>b5 [a,b,b - a] [ql 1 (qp v2 n1) n0] rfl nb
theorem ak2 (h1:a <= 25) (h2:b <= 25):a+b <= 51:=qA fun nb=>b5 [a,b] [ql 1 (qp (qn 51) n1) (qp v0 v1),ql 1 v0 (qn 25),ql 1 v1 (qn 25)] rfl nb h1 h2
theorem ak3 (h1:a <= 25):a <= 5000:=qA fun nb=>b5 [a] [ql 1 (qp (qn 5000) n1) v0,ql 1 v0 (qn 25)] rfl nb h1
theorem aw9 (h1:a <= 25) (h2:b <= 25):min a b <= 25:=qA fun nb=>b5 [a,b,min a b] [ql 1 (qp (qn 25) n1) v2,ql 1 v2 v0,ql 1 v0 (qn 25)] rfl nb (bW a b) h1
theorem aR0 (h1:a < b) (h2:c < a):c < b:=qB fun nb=>b5 [a,b,c] [ql 1 (qp v2 n1) v0,ql 1 (qp v0 n1) v1,ql 1 v1 v2] rfl h2 h1 nb
theorem aR1 (h1:a <= 51) (h2:b < a):b < 51:=qB fun nb=>b5 [a,b] [ql 1 (qn 51) v1,ql 1 (qp v1 n1) v0,ql 1 v0 (qn 51)] rfl nb h2 h1
theorem aR2 (h1:a <= 25) (h2:b <= 25) (h3:a≠0) (h4:c≠d):a+b≠0:=fun nb=>b5 [a,b,c,d] [ql 1 (qp n0 n1) v0,qe 1 (qp v0 v1) n0] rfl (qO h3) nb
theorem aR3:1+a=a+1:=qE (fun nb=>b5 [a] [ql 1 (qp (qp v0 n1) n1) (qp n1 v0)] rfl nb) fun nb=>b5 [a] [ql 1 (qp (qp n1 v0) n1) (qp v0 n1)] rfl nb
theorem aR4 (h1:a <= 25) (h2:b+c=a):c <= 16777216:=qA fun nb=>b5 [a,b,c] [ql 1 (qp (qn 16777216) n1) v2,qe 1 (qp v1 v2) v0,ql 1 v0 (qn 25)] rfl nb h2 h1
theorem aR5 (h1:a <= 25) (h2:b+c=a) (h3:d+1 <= b) (h4:e=d+1):d+1 <= 16777216:=qA fun nb=>b5 [a,b,c,d,e] [ql 1 (qp (qn 16777216) n1) (qp v3 n1),ql 1 (qp v3 n1) v1,qe 1 (qp v1 v2) v0,ql 1 v0 (qn 25)] rfl nb h3 h2 h1
theorem aR6 (h1:a+2 <= b):2+a <= b:=qA fun nb=>b5 [a,b] [ql 1 (qp v1 n1) (qp n2 v0),ql 1 (qp v0 n2) v1] rfl nb h1
theorem aR7 (h1:6000 <= a) (h2:b <= 5000):b <= a:=qA fun nb=>b5 [a,b] [ql 1 (qn 6000) v0,ql 1 (qp v0 n1) v1,ql 1 v1 (qn 5000)] rfl h1 nb h2
theorem aR8 (h1:405 < a) (h2:a <= b):405 < b:=qB fun nb=>b5 [a,b] [ql 1 (qp (qn 405) n1) v0,ql 1 v0 v1,ql 1 v1 (qn 405)] rfl h1 h2 nb
theorem aR9 (h1:a <= 25):a <= 1000:=qA fun nb=>b5 [a] [ql 1 (qp (qn 1000) n1) v0,ql 1 v0 (qn 25)] rfl nb h1
theorem aS0 (h1:a <= 25) (h2:0+b=a):b <= 25:=qA fun nb=>b5 [a,b] [ql 1 (qp (qn 25) n1) v1,qe 1 (qp n0 v1) v0,ql 1 v0 (qn 25)] rfl nb h2 h1
theorem aS1 (h1:a - b <= 25):a - b <= 16777216:=qA fun nb=>b5 [a,b,a - b] [ql 1 (qp (qn 16777216) n1) v2,ql 1 v2 (qn 25)] rfl nb h1
theorem aS2 (h1:a <= 25):a+b*0 <= 16777216:=qA fun nb=>b5 [a,b] [ql 1 (qp (qn 16777216) n1) (qp v0 (qr v1 0)),ql 1 v0 (qn 25)] rfl nb h1
theorem aS3 (h1:2 < a):1≠a:=fun nb=>b5 [a] [ql 1 (qp n2 n1) v0,qe 1 v0 n1] rfl h1 (aC nb)
theorem bO2 (h1:a < b) (h2:a=b):False:=b5 [a,b] [ql 1 (qp v0 n1) v1,qe 1 v1 v0] rfl h1 (aC h2)
theorem bO3 (h1:a+b < c):c - (a+(b+1)) < c - (a+b):=qB fun nb=>b5 [a,b,c,c - (a+(b+1)),c - (a+b)] [ql 1 v4 v3,qe 1 (qp v3 (qp v0 (qp v1 n1))) v2,qe 1 v2 (qp v4 (qp v0 v1))] rfl nb (qS (qA fun nc=>b5 [a,b,c,c - (a+(b+1)),c - (a+b)] [ql 1 (qp v2 n1) (qp v0 (qp v1 n1)),ql 1 (qp (qp v0 v1) n1) v2] rfl nc h1)) (aC (qS (qA fun nd=>b5 [a,b,c,c - (a+(b+1)),c - (a+b)] [ql 1 (qp (qp v0 v1) n1) v2,ql 1 (qp v2 n1) (qp v0 v1)] rfl h1 nd)))
theorem bO4 (h1:a <= 100) (h2:b <= c) (h3:c <= a):b <= 100:=qA fun nb=>b5 [a,b,c] [ql 1 (qp (qn 100) n1) v1,ql 1 v1 v2,ql 1 v2 v0,ql 1 v0 (qn 100)] rfl nb h2 h3 h1
theorem bO5 (h1:a <= 100) (h2:b <= a):b <= 100:=qA fun nb=>b5 [a,b] [ql 1 (qp (qn 100) n1) v1,ql 1 v1 v0,ql 1 v0 (qn 100)] rfl nb h2 h1
theorem bO6 (h1:a <= b):a+1 <= 2*(c - d)+1+b:=qA fun nb=>b5 [a,b,c,d,c - d] [ql 1 (qp (qp (qp (qm 2 v4) n1) v1) n1) (qp v0 n1),ql 1 v0 v1] rfl nb h1
theorem bO7 (h1:a+b <= 51) (h2:c < b):a+c <= 51:=qA fun nb=>b5 [a,b,c] [ql 1 (qp (qn 51) n1) (qp v0 v2),ql 1 (qp v0 v1) (qn 51),ql 1 (qp v2 n1) v1] rfl nb h1 h2
theorem bO8 (h1:a+b <= 51):a <= 51:=qA fun nb=>b5 [a,b] [ql 1 (qp (qn 51) n1) v0,ql 1 (qp v0 v1) (qn 51)] rfl nb h1
theorem bO9 (h1:a <= 51) (h2:b <= 1):a+b <= 60:=qA fun nb=>b5 [a,b] [ql 1 (qp (qn 60) n1) (qp v0 v1),ql 1 v0 (qn 51),ql 1 v1 n1] rfl nb h1 h2
theorem bP0 (h1:a <= 51):a <= 60:=qA fun nb=>b5 [a] [ql 1 (qp (qn 60) n1) v0,ql 1 v0 (qn 51)] rfl nb h1
theorem bP1 (h1:a < 51) (h2:b <= a):b <= 51:=qA fun nb=>b5 [a,b] [ql 1 (qp (qn 51) n1) v1,ql 1 v1 v0,ql 1 (qp v0 n1) (qn 51)] rfl nb h2 h1
theorem bP2:a+1≠a+1+1:=fun nb=>b5 [a] [qe 1 (qp (qp v0 n1) n1) (qp v0 n1)] rfl (aC nb)
theorem bP3 (h1:a < b) (h2:c=b+1):b+1≠a:=fun nb=>b5 [a,b,c] [ql 1 (qp v0 n1) v1,qe 1 (qp v1 n1) v0] rfl h1 nb
theorem bP4 (h1:a <= 25):2*a <= 50:=qA fun nb=>b5 [a] [ql 1 (qp (qn 50) n1) (qm 2 v0),ql 2 v0 (qn 25)] rfl nb h1
theorem bP5 (h1:a <= 51):a < 64:=qB fun nb=>b5 [a] [ql 1 (qn 64) v0,ql 1 v0 (qn 51)] rfl nb h1
theorem bP6 (h1:a < 53) (h2:b <= 2*a):b <= 106:=qA fun nb=>b5 [a,b] [ql 1 (qp (qn 106) n1) v1,ql 1 v1 (qm 2 v0),ql 2 (qp v0 n1) (qn 53)] rfl nb h2 h1
theorem bP7 (h1:a <= 2*b+1):a <= 2*(b+1):=qA fun nb=>b5 [a,b] [ql 1 (qp (qm 2 (qp v1 n1)) n1) v0,ql 1 v0 (qp (qm 2 v1) n1)] rfl nb h1
theorem bP8 (h1:a < 53) (h2:b <= 2*a+1):b <= 107:=qA fun nb=>b5 [a,b] [ql 1 (qp (qn 107) n1) v1,ql 1 v1 (qp (qm 2 v0) n1),ql 2 (qp v0 n1) (qn 53)] rfl nb h2 h1
theorem bP9 (h1:a <= 2*b+1):a+1 <= 2*(b+1):=qA fun nb=>b5 [a,b] [ql 1 (qp (qm 2 (qp v1 n1)) n1) (qp v0 n1),ql 1 v0 (qp (qm 2 v1) n1)] rfl nb h1
theorem bQ0 (h1:a <= 2*b):a <= 2*b+1:=qA fun nb=>b5 [a,b] [ql 1 (qp (qp (qm 2 v1) n1) n1) v0,ql 1 v0 (qm 2 v1)] rfl nb h1
theorem bQ1 (h1:a <= 53) (h2:b < a):b < 53:=qB fun nb=>b5 [a,b] [ql 1 (qn 53) v1,ql 1 (qp v1 n1) v0,ql 1 v0 (qn 53)] rfl nb h2 h1
theorem bQ2 (h1:a <= b) (h2:c < a):c≠b:=fun nb=>b5 [a,b,c] [ql 1 (qp v2 n1) v0,ql 1 v0 v1,qe 1 v1 v2] rfl h2 h1 (aC nb)
theorem bQ3 (h1:a=b+1) (h2:b=c) (h3:d < b):d≠b:=fun nb=>b5 [a,b,c,d] [ql 1 (qp v3 n1) v1,qe 1 v1 v3] rfl h3 (aC nb)
theorem bQ4 (h1:a <= 25):a <= 51:=qA fun nb=>b5 [a] [ql 1 (qp (qn 51) n1) v0,ql 1 v0 (qn 25)] rfl nb h1
theorem bQ5 (h1:a <= 25) (h2:b <= 25) (h3:a≠0):a+b≠0:=fun nb=>b5 [a,b] [ql 1 (qp n0 n1) v0,qe 1 (qp v0 v1) n0] rfl (qO h3) nb
theorem bQ6 (h1:a <= 25):min b a <= 25:=qA fun nb=>b5 [a,b,min b a] [ql 1 (qp (qn 25) n1) v2,ql 1 v2 v0,ql 1 v0 (qn 25)] rfl nb (ed b a) h1
theorem bQ7 (h1:a=b) (h2:c < a):c≠a:=fun nb=>b5 [a,b,c] [ql 1 (qp v2 n1) v0,qe 1 v0 v2] rfl h2 (aC nb)
theorem bQ8 (h1:a <= 53):a <= 100:=qA fun nb=>b5 [a] [ql 1 (qp (qn 100) n1) v0,ql 1 v0 (qn 53)] rfl nb h1
theorem bQ9 (h1:a <= 25) (h2:b < a) (h3:c=b):b <= 25:=qA fun nb=>b5 [a,b,c] [ql 1 (qp (qn 25) n1) v1,ql 1 (qp v1 n1) v0,ql 1 v0 (qn 25)] rfl nb h2 h1
theorem bR0 (h1:a <= 25) (h2:b < c) (h3:d=c+e) (h4:e < a) (h5:f=e) (h6:g=c+(e+1)):b≠c+e:=fun nb=>b5 [a,b,c,d,e,f,g] [ql 1 (qp v1 n1) v2,qe 1 (qp v2 v4) v1] rfl h2 (aC nb)
theorem bR1 (h1:a < b) (h2:c=b+d) (h3:e=d) (h4:f=b+(d+1)):a≠b+g:=fun nb=>b5 [a,b,c,d,e,f,g] [ql 1 (qp v0 n1) v1,qe 1 (qp v1 v6) v0] rfl h1 (aC nb)
theorem bR2 (h1:a <= 25) (h2:b < c) (h3:d=c+e) (h4:e < a) (h5:f=e) (h6:g=c+(e+1)):c+e≠b:=fun nb=>b5 [a,b,c,d,e,f,g] [ql 1 (qp v1 n1) v2,qe 1 (qp v2 v4) v1] rfl h2 nb
theorem bR3 (h1:a <= 25) (h2:b <= c) (h3:d=c+e) (h4:e < a) (h5:f=e) (h6:g=c+(e+1)) (h7:h < b):c+e≠h:=fun nb=>b5 [a,b,c,d,e,f,g,h] [ql 1 (qp v7 n1) v1,ql 1 v1 v2,qe 1 (qp v2 v4) v7] rfl h7 h2 nb
theorem bR4 (h1:a=b) (h2:¬c=b):d+b≠d+c:=fun nb=>qN h2 (fun sc=>b5 [a,b,c,d] [ql 1 (qp v2 n1) v1,qe 1 (qp v3 v1) (qp v3 v2)] rfl sc nb) (fun sd=>b5 [a,b,c,d] [ql 1 (qp v1 n1) v2,qe 1 (qp v3 v2) (qp v3 v1)] rfl sd (aC nb))
theorem bR5 (h1:a=b) (h2:c < b+1) (h3:¬c=b):c < b:=qB fun nb=>qN h3 (fun sc=>b5 [a,b,c] [ql 1 (qp v2 n1) v1,ql 1 v1 v2] rfl sc nb) (fun sd=>b5 [a,b,c] [ql 1 (qp v1 n1) v2,ql 1 (qp v2 n1) (qp v1 n1)] rfl sd h2)
theorem bR6 (h1:a < b):a≠b:=fun nb=>b5 [a,b] [ql 1 (qp v0 n1) v1,qe 1 v1 v0] rfl h1 (aC nb)
theorem bR7 (h1:a < b) (h2:c=b) (h3:d=e) (h4:f=c+1+e):a≠c:=fun nb=>b5 [a,b,c,d,e,f] [ql 1 (qp v0 n1) v1,qe 1 v1 v2,qe 1 v2 v0] rfl h1 (aC h2) (aC nb)
theorem bR8 (h1:a < b) (h2:c=b) (h3:d=e) (h4:f=c+1+e) (h5:g=f):a≠c:=fun nb=>b5 [a,b,c,d,e,f,g] [ql 1 (qp v0 n1) v1,qe 1 v1 v2,qe 1 v2 v0] rfl h1 (aC h2) (aC nb)
theorem bR9 (h1:a <= 25) (h2:b < c) (h3:d=c) (h4:e=a) (h5:f=d+1+a) (h6:g=f):b≠f:=fun nb=>b5 [a,b,c,d,e,f,g] [ql 1 (qp v1 n1) v2,qe 1 v2 v3,qe 1 (qp (qp v3 n1) v0) v5,qe 1 v5 v1] rfl h2 (aC h3) (aC h5) (aC nb)
theorem bS0 (h1:a < b) (h2:c=b) (h3:d=e) (h4:f=c+1+e) (h5:g=f):a≠c+1+h:=fun nb=>b5 [a,b,c,d,e,f,g,h] [ql 1 (qp v0 n1) v1,qe 1 v1 v2,qe 1 (qp (qp v2 n1) v7) v0] rfl h1 (aC h2) (aC nb)
theorem bS1 (h1:a=b) (h2:c=d) (h3:e=a+1+d) (h4:f=e) (h5:g < b):g≠a:=fun nb=>b5 [a,b,c,d,e,f,g] [ql 1 (qp v6 n1) v1,qe 1 v1 v0,qe 1 v0 v6] rfl h5 (aC h1) (aC nb)
theorem bS2 (h1:a < b) (h2:c=b):a≠c:=fun nb=>b5 [a,b,c] [ql 1 (qp v0 n1) v1,qe 1 v1 v2,qe 1 v2 v0] rfl h1 (aC h2) (aC nb)
theorem bS3 (h1:a < b) (h2:c=b):a≠c+1+d:=fun nb=>b5 [a,b,c,d] [ql 1 (qp v0 n1) v1,qe 1 v1 v2,qe 1 (qp (qp v2 n1) v3) v0] rfl h1 (aC h2) (aC nb)
theorem bS4 (h1:a <= 24):a+b*0 <= 16777216:=qA fun nb=>b5 [a,b] [ql 1 (qp (qn 16777216) n1) (qp v0 (qr v1 0)),ql 1 v0 (qn 24)] rfl nb h1
theorem bS5 (h1:a <= 24):a+1 <= 16777216:=qA fun nb=>b5 [a] [ql 1 (qp (qn 16777216) n1) (qp v0 n1),ql 1 v0 (qn 24)] rfl nb h1
theorem bS6 (h1:a <= b):a <= b+1:=qA fun nb=>b5 [a,b] [ql 1 (qp (qp v1 n1) n1) v0,ql 1 v0 v1] rfl nb h1
theorem bS7 (h1:a <= b) (h2:b+1 <= c):a <= c+1:=qA fun nb=>b5 [a,b,c] [ql 1 (qp (qp v2 n1) n1) v0,ql 1 v0 v1,ql 1 (qp v1 n1) v2] rfl nb h1 h2
theorem bS8 (h1:a <= b) (h2:b+1 <= c):a <= c:=qA fun nb=>b5 [a,b,c] [ql 1 (qp v2 n1) v0,ql 1 v0 v1,ql 1 (qp v1 n1) v2] rfl nb h1 h2
theorem bS9 (h1:a <= 25) (h2:b+c=a):b+c <= 16777216:=qA fun nb=>b5 [a,b,c] [ql 1 (qp (qn 16777216) n1) (qp v1 v2),qe 1 (qp v1 v2) v0,ql 1 v0 (qn 25)] rfl nb h2 h1
theorem bT0 (h1:a <= 25) (h2:b+c=a):b+c+1 <= 16777216:=qA fun nb=>b5 [a,b,c] [ql 1 (qp (qn 16777216) n1) (qp (qp v1 v2) n1),qe 1 (qp v1 v2) v0,ql 1 v0 (qn 25)] rfl nb h2 h1
theorem bT1 (h1:a <= 25) (h2:b <= a):b <= 16777216:=qA fun nb=>b5 [a,b] [ql 1 (qp (qn 16777216) n1) v1,ql 1 v1 v0,ql 1 v0 (qn 25)] rfl nb h2 h1
theorem bT2 (h1:a <= 25) (h2:b+c=a):c+1 <= 16777216:=qA fun nb=>b5 [a,b,c] [ql 1 (qp (qn 16777216) n1) (qp v2 n1),qe 1 (qp v1 v2) v0,ql 1 v0 (qn 25)] rfl nb h2 h1
theorem bT3 (h1:a+1 <= b):min (a+1) b=a+1:=qE (fun nb=>b5 [a,b,min (a+1) b] [ql 1 v2 (qp v0 n1),ql 1 (qp (qp v0 n1) n1) v2] rfl (bW (a+1) b) nb) fun nb=>qT (a+1) b (fun sc=>b5 [a,b,min (a+1) b] [ql 1 (qp v2 n1) (qp v0 n1),qe 1 (qp v0 n1) v2] rfl nb (aC (cF sc))) (fun sd=>b5 [a,b,min (a+1) b] [ql 1 (qp v2 n1) (qp v0 n1),ql 1 (qp v0 n1) v1,qe 1 v1 v2] rfl nb h1 (aC (dC sd)))
theorem bT4 (h1:a <= 25):2+a <= 16777216:=qA fun nb=>b5 [a] [ql 1 (qp (qn 16777216) n1) (qp n2 v0),ql 1 v0 (qn 25)] rfl nb h1
theorem bT5 (h1:a <= 25):2+a+1 <= 16777216:=qA fun nb=>b5 [a] [ql 1 (qp (qn 16777216) n1) (qp (qp n2 v0) n1),ql 1 v0 (qn 25)] rfl nb h1
theorem bT6 (h1:a <= 5000) (h2:b <= 5000):min a b <= 5000:=qA fun nb=>b5 [a,b,min a b] [ql 1 (qp (qn 5000) n1) v2,ql 1 v2 v0,ql 1 v0 (qn 5000)] rfl nb (bW a b) h1
theorem bT7 (h1:a <= 5000):0+2+a <= 5002:=qA fun nb=>b5 [a] [ql 1 (qp (qn 5002) n1) (qp (qp n0 n2) v0),ql 1 v0 (qn 5000)] rfl nb h1
theorem bT8 (h1:6000 <= a) (h2:b <= 5002):b <= a:=qA fun nb=>b5 [a,b] [ql 1 (qn 6000) v0,ql 1 (qp v0 n1) v1,ql 1 v1 (qn 5002)] rfl h1 nb h2
theorem bT9 (h1:a <= 5000) (h2:b <= 5000) (h3:6000 <= c):min a b <= c:=qA fun nb=>b5 [a,b,c,min a b] [ql 1 (qn 6000) v2,ql 1 (qp v2 n1) v3,ql 1 v3 v0,ql 1 v0 (qn 5000)] rfl h3 nb (bW a b) h1
theorem bU0 (h1:a <= 5000) (h2:b <= 5000):min a b+c*0 <= 16777216:=qA fun nb=>b5 [a,b,c,min a b] [ql 1 (qp (qn 16777216) n1) (qp v3 (qr v2 0)),ql 1 v3 v0,ql 1 v0 (qn 5000)] rfl nb (bW a b) h1
theorem bU1 (h1:6000 <= a) (h2:b <= 5002):b+1 <= a:=qA fun nb=>b5 [a,b] [ql 1 (qn 6000) v0,ql 1 (qp v0 n1) (qp v1 n1),ql 1 v1 (qn 5002)] rfl h1 nb h2
theorem bU2 (h1:a <= 5000) (h2:6000 <= b):a+2 <= b:=qA fun nb=>b5 [a,b] [ql 1 (qn 6000) v1,ql 1 (qp v1 n1) (qp v0 n2),ql 1 v0 (qn 5000)] rfl h2 nb h1
theorem bU3 (h1:a > 0):a=a - 1+1:=qE (fun nb=>b5 [a,a - 1] [ql 1 (qp (qp v1 n1) n1) v0,qe 1 v0 (qp v1 n1)] rfl nb (aC (qS (qA fun nc=>b5 [a,a - 1] [ql 1 (qp n0 n1) v0,ql 1 (qp v0 n1) n1] rfl h1 nc)))) fun nb=>b5 [a,a - 1] [ql 1 (qp v0 n1) (qp v1 n1),qe 1 (qp v1 n1) v0] rfl nb (qS (qA fun nd=>b5 [a,a - 1] [ql 1 (qp n0 n1) v0,ql 1 (qp v0 n1) n1] rfl h1 nd))
theorem bU4 (h1:a > 0):¬a=0:=fun nb=>b5 [a] [ql 1 (qp n0 n1) v0,qe 1 v0 n0] rfl h1 nb
theorem bU5 (h1:a <= b) (h2:b < c) (h3:d < a):d < c:=qB fun nb=>b5 [a,b,c,d] [ql 1 (qp v3 n1) v0,ql 1 v0 v1,ql 1 (qp v1 n1) v2,ql 1 v2 v3] rfl h3 h1 h2 nb
theorem bU6 (h1:a <= 2) (h2:b <= 2*c):a+b <= 2*(c+1):=qA fun nb=>b5 [a,b,c] [ql 1 (qp (qm 2 (qp v2 n1)) n1) (qp v0 v1),ql 1 v0 n2,ql 1 v1 (qm 2 v2)] rfl nb h1 h2
theorem bU7 (h1:a <= 25) (h2:a≠0) (h3:b <= 25):a+b≠0:=fun nb=>b5 [a,b] [ql 1 (qp n0 n1) v0,qe 1 (qp v0 v1) n0] rfl (qO h2) nb
theorem bU8 (h1:a <= 25) (h2:b <= 25):min a b <= 1000:=qA fun nb=>b5 [a,b,min a b] [ql 1 (qp (qn 1000) n1) v2,ql 1 v2 v0,ql 1 v0 (qn 25)] rfl nb (bW a b) h1
theorem bU9 (h1:a <= 1) (h2:b <= 1) (h3:4 <= c):a+(b+1)+1 <= c:=qA fun nb=>b5 [a,b,c] [ql 1 n4 v2,ql 1 (qp v2 n1) (qp (qp v0 (qp v1 n1)) n1),ql 1 v0 n1,ql 1 v1 n1] rfl h3 nb h1 h2
theorem bV0 (h1:2 < a):2≠a:=fun nb=>b5 [a] [ql 1 (qp n2 n1) v0,qe 1 v0 n2] rfl h1 (aC nb)
theorem bV1 (h1:406 <= a):0 < a:=qB fun nb=>b5 [a] [ql 1 (qn 406) v0,ql 1 v0 n0] rfl h1 nb
theorem bV2 (h1:406 <= a):405 < a:=qB fun nb=>b5 [a] [ql 1 (qn 406) v0,ql 1 v0 (qn 405)] rfl h1 nb
end
end Mine
open PySem PySem.W PyProof.Rows PySem.W.X
namespace Mine
theorem ci1 {x y:Nat} (h:y <= x):((x:Nat):Int) - ((y:Nat):Int)=((x - y:Nat):Int):=(Int.ofNat_sub h).symm
theorem bV3 (a b:Nat):min (a:Int) (b:Int)=((min a b:Nat):Int):=(Nat.le_total a b).elim (fun h=>by rw [cF h,Int.min_eq_left (Int.ofNat_le.mpr h)]) fun h=>by rw [dC h,Int.min_eq_right (Int.ofNat_le.mpr h)]
theorem aS4 {i k:Nat} (h:k+1 <= i+1):(i:Int) - ((k:Nat)+1:Int)+1=((i+1 - (k+1):Nat):Int):=by
 rw [Nat.add_sub_add_right,Int.ofNat_sub (Nat.le_of_succ_le_succ h),<- Int.sub_sub,Int.sub_add_cancel]
theorem N8 {n a b:Nat} (h:a≠b):n+a≠n+b:=fun e=>h (Nat.add_left_cancel e)
theorem bV4 {n:Nat} (h0:n≠0):(((n - 1:Nat):Int)+1)=(n:Int):=congrArg Int.ofNat (Nat.sub_add_cancel (Nat.pos_of_ne_zero h0))
theorem Z2 {n:Nat} (h:0 < n):((n:Nat):Int) - 1=((n - 1:Nat):Int):=(Int.ofNat_sub h).symm
theorem i62 {n:Nat} (h:n <= 100):-(2 ^ 61) <= ((n:Nat):Int) /\ ((n:Nat):Int) < 2 ^ 61:=⟨Int.le_trans (by decide) (bK n),Int.lt_of_le_of_lt (Int.ofNat_le.mpr h) (by decide)⟩
theorem ax0 {n k m l:Nat} (c:0 < n) (h:n+k <= m) (w:m <= l):n - 1 < l:=aW (Nat.sub_lt c Nat.one_pos) (ag (ag (bd n k) h) w)
theorem ax2 (k:Nat):-((k+1:Nat):Int) <= -1 /\ (-1:Int) < ((k+1:Nat):Int):=⟨Int.neg_le_neg (Int.ofNat_le.mpr (Nat.succ_pos k)),Int.lt_of_lt_of_le (by decide) (bK _)⟩
theorem bV5 (k:Nat):seqIndex? (-1) (k+1)=some k:=by
 rw [seqIndex_neg (by decide) (ax2 k).1,Int.natCast_succ,Int.add_comm (k:Int) 1,Int.neg_add_cancel_left]; rfl
theorem aS6 {x y:Int} (h1:0 <= x) (h2:0 <= y):x < y↔x.toNat < y.toNat:=((Int.toNat_lt h1).trans (by rw [Int.toNat_of_nonneg h2])).symm
end Mine
end
section
open PySem PySem.W PyProof.Rows
namespace Mine
section
noncomputable def ax4 (s:Shared):Value -> Bool
 | .ref a=>match s.heap.get? a with
  | some o=>!o.genNumber?.isSome
  | none=>true
 | _=>true
noncomputable def ae2 (s:Shared) (frames:List Frame) (code:Code) (guarded:Bool):Bool :=
 frames.any Frame.guarded||(guarded&&match code with
  | .builtin "proto.yield_from" ⟨it::_,_⟩=>ax4 s it
  | _=>true)
theorem bV6 {s:Shared} {frames:List Frame} {code:Code} {g:Bool} (h:ae2 s frames code g=false) (hr:s.heap.life.registered=[]):closingShows s frames code g=false:=by
 unfold ae2 at h
 unfold closingShows
 rw [Bool.or_eq_false_iff] at h ⊢
 refine ⟨h.1,?_⟩
 have h2:=h.2
 cases g with
 | false=>rfl
 | true =>
  rw [Bool.true_and] at h2 ⊢
  split at h2
  · rename_i it rest kw
    unfold ax4 at h2
    cases it with
    | ref a =>
     show delegateShows s (.ref a)=false
     unfold delegateShows
     dsimp only at h2 ⊢
     cases ho:s.heap.get? a with
     | none=>rw [ho] at h2
     | some o =>
      rw [ho] at h2
      dsimp only at h2 ⊢
      cases hn:o.genNumber? with
      | none=>rw [hn] at h2; cases h2
      | some n=>rw [hr]; rfl
    | _=>cases h2
  · cases h2
noncomputable def N9 (s:Shared) (t:Thread):Bool:=match t.cur,splitAtGen t.stack with
 | .yield _ g _ _,some (frames,_,_)=>!ae2 s frames t.code g
 | _,_=>false
noncomputable def W6 (s:Shared) (t:Thread):Bool:=t.calm||N9 s t
inductive Ev (den:Code -> Sem Fin) (prog:Program) (w:World) (Φ:Shared -> Thread -> Prop):Shared -> Thread -> Prop
 | now {s t}:Φ s t -> Ev den prog w Φ s t
 | step {s t s' t'}:W6 s t=true -> stepK den prog w s t=.go s' t' -> Ev den prog w Φ s' t' -> Ev den prog w Φ s t
section
variable {den:Code -> Sem Fin} {prog:Program} {w:World}
theorem ax5 {s:Shared} {t:Thread} (h:N9 s t=true):∃ v g l k fs b rest,t.cur=.yield v g l k /\ splitAtGen t.stack=some (fs,b,rest) /\ ae2 s fs t.code g=false:=by
 unfold N9 at h
 split at h
 · rename_i v g l k fs b rest e1 e2
   exact (bw9 v g l k fs b rest e1 e2 (by simpa using h))
 · cases h
theorem bV7 (pr:Profile) (s:Shared) (t:Thread) (h:N9 s t=true):(fQ s t).moves pr=[.run 0]:=by
 (refine V6 (ax5 h) fun v g l k fs b rest e1 _=>?_)
 obtain ⟨cur,code,pos,stack⟩:=t
 dsimp only at e1
 subst e1
 show (if Thread.atomic pr s.heap ⟨.yield v g l k,code,pos,stack⟩=true then [Move.run 0] else [Move.run 0])=_
 exact ite_self _
theorem bV8 (s:Shared) (t:Thread) (h:N9 s t=true) (hr:s.heap.life.registered=[]) :
 (fQ s t).pick w=.ok (.run 0,.single s t):=by
 have h1:(fQ s t).collect? w.params=none:=by
  simp [Config.collect?,fQ,(nothing_to_collect _ _ _ s t hr).1]
 have h2:(fQ s t).collectable=[]:=by
  simp [Config.collectable,fQ,(nothing_to_collect w.params _ _ s t hr).2]
 simp only [Config.pick,h1,h2,Config.pickThread,bV7 _ s t h]
 cases w.params.lifetimes<;>simp
theorem bV9 (others:List Value) (s:Shared) (t:Thread) (h:N9 s t=true) (hz:s.asleep):lifeStep den prog w others s t=step den prog w s t:=by
 (refine aL0 (ax5 h) fun v g l k fs b rest e1 e2 e3=>?_)
 obtain ⟨cur,code,pos,stack⟩:=t
 dsimp only at e1 e2 e3
 subst e1
 (refine d0 hz fun hr hc=>?_; clear hz)
 have e3:=bV6 e3 hr
 unfold lifeStep
 split
 · simp [collectorTurn?,e2,e3,Thread.atItsEnd,stepCounting,hc]
 · simp [stepCounting,hc]
theorem bW0 (s:Shared) (t:Thread) (h:N9 s t=true) (hl:∀ others,lifeStep den prog w others s t=step den prog w s t) :
 (fQ s t).run den prog w 0=(step den prog w s t).lift:=by
 (refine aL0 (ax5 h) fun v g l k fs b rest e1 e2 e3=>?_)
 obtain ⟨cur,code,pos,stack⟩:=t
 dsimp only at e1 e2 e3
 subst e1
 have ho:(if Thread.special ⟨.yield v g l k,code,pos,stack⟩=true then Config.others ⟨s,#[.live ⟨.yield v g l k,code,pos,stack⟩],0⟩ 0 else some [])=some []:=by rw [others_single]; exact ite_self _
 have hm:∀ (o:Option (List Value)) (x:Step),o=some [] -> (∀ others,lifeStep den prog w others s ⟨.yield v g l k,code,pos,stack⟩=x) -> (match o with
  | none=>SStep.halt (.stuck "scheduler: the collector is at work while another thread does not tell what it holds") s
  | some others=>match lifeStep den prog w others s ⟨.yield v g l k,code,pos,stack⟩ with
   | .go s' t'=>SStep.go ⟨s',(#[.live ⟨.yield v g l k,code,pos,stack⟩]:Array ThreadState).setIfInBounds 0 (.live t'),0⟩
   | .halt o s'=>.halt o s')=x.lift:=fun o x e hx=>by subst e; dsimp only; rw [hx]; cases x<;>rfl
 exact hm _ _ ho hl
theorem bW1 (s:Shared) (t:Thread) {s' t'} (h:W6 s t=true) (hr:s.asleep) (e:step den prog w s t=.go s' t'):sstep den prog w (.single s t)=.go (.single s' t'):=by
 unfold W6 at h
 rcases Bool.or_eq_true _ _▸h with h | h
 · rcases sstep_single den prog w s t h hr with q | q
   · rw [q,e]; rfl
   · rw [q] at e; cases e
 · have hl:=fun o=>bV9 (den:=den) (prog:=prog) (w:=w) o s t h hr
   simp only [sstep,bV8 s t h hr.1,Config.move,bW0 s t h hl]
   rw [e]; rfl
theorem bW2 {s s2:Shared} {t t2:Thread} (hs:s2.forget=s.forget) (ht:t2.forget=t.forget):N9 s2 t2=N9 s t:=by
 (refine d0 (Shared.forget_eq hs) fun eh _=>?_)
 obtain ⟨cur,code,pos,stack⟩:=t
 obtain ⟨cur2,code2,pos2,stack2⟩:=t2
 simp only [Thread.forget,Thread.mk.injEq] at ht
 (refine n9 ht fun qz1 qz2 qz3 e=>?_; clear ht; subst qz1; subst qz2; subst qz3)
 cases cur2 with
 | yield v g l k =>
  unfold N9
  dsimp only
  have a:=splitAtGen_forgetAll stack
  have b:=splitAtGen_forgetAll stack2
  rw [e,a] at b
  cases h1:splitAtGen stack with
  | none =>
   rw [h1] at b
   cases h2:splitAtGen stack2 with
   | none=>rfl
   | some x=>rw [h2] at b; cases b
  | some x =>
   obtain ⟨fs,y,r⟩:=x
   rw [h1] at b
   cases h2:splitAtGen stack2 with
   | none=>rw [h2] at b; cases b
   | some x2 =>
    obtain ⟨fs2,y2,r2⟩:=x2
    rw [h2] at b
    simp only [iq,Option.some.injEq,Prod.mk.injEq] at b
    have ea:fs.any Frame.guarded=fs2.any Frame.guarded:=by rw [<- any_guarded_forgetAll fs,<- any_guarded_forgetAll fs2,b.1]
    dsimp only
    unfold ae2
    rw [ea]
    unfold ax4
    rw [eh]
 | _=>rfl
theorem bW3 {s s2:Shared} {t t2:Thread} (hs:s2.forget=s.forget) (ht:t2.forget=t.forget):W6 s2 t2=W6 s t:=by
 unfold W6
 rw [bW2 hs ht,<- Thread.calm_forget t2,ht,Thread.calm_forget]
theorem Ev.real {Φ:Shared -> Thread -> Prop} {s t} (h:Ev den prog w Φ s t):∀ s2 t2,s2.forget=s.forget -> t2.forget=t.forget -> s2.asleep ->
 ∃ n s' t' s3 t₃,schedN den prog w n (.single s2 t2)=.running (.single s3 t₃) /\ s3.forget=s'.forget /\ t₃.forget=t'.forget /\ Φ s' t' /\ s3.heap.life=s2.heap.life:=by
 induction h with
 | now h=>exact fun s2 t2 hs ht ha=>(aM8 0 _ _ s2 t2 rfl hs ht h rfl)
 | @step s t s' t' c e _ ih =>
  intro s2 t2 hs ht ha
  have e2:(PySem.step den prog w s2 t2).forget=(Step.go s' t').forget:=by
   rw [step_same den prog w hs ht,<- stepK_forget,e]
  cases hst:PySem.step den prog w s2 t2 with
  | halt o x=>rw [hst] at e2; cases e2
  | go s3 t₃ =>
   rw [hst] at e2
   simp only [Step.forget,Step.go.injEq] at e2
   have hlife:=step_life den prog w s2 s3 t2 t₃ hst
   (refine aK9 (ih s3 t₃ e2.1 e2.2 (Shared.asleep_of_life hlife ha)) fun n a b s4 t4 h1 h2 h3 h4 h5=>?_)
   refine (aM8 (n+1) a b s4 t4 ?_ h2 h3 h4 (h5.trans hlife))
   show (match sstep den prog w (.single s2 t2) with | .go c'=>schedN den prog w n c' | .halt o s=>.halted o s)=_
   rw [bW1 s2 t2 (by rw [bW3 hs ht]; exact c) ha hst]
   exact h1
theorem bW4 (n k:Nat) (c c':Config) (h:schedN den prog w n c=.running c'):schedN den prog w (n+k) c=schedN den prog w k c':=by
 induction n generalizing c with
 | zero=>cases h; rw [iy]
 | succ n ih =>
  rw [Nat.succ_add]
  simp only [schedN] at h ⊢
  split<;>rename_i q
  · rw [q] at h; exact ih _ h
  · rw [q] at h; cases h
theorem Ev.halts {R:cR -> Shared -> Prop} {s t} (h:Ev den prog w (fun s' t'=>∃ r c p,t'=⟨leafOf r,c,p,[]⟩ /\ leftWithCleanup s'.gens=false /\ R r s') s t) (ha:s.asleep) :
 ∃ n r s' s'',schedN den prog w n (.single s t)=.halted (outcomeOf r) s' /\ s'.forget=s''.forget /\ s'.heap.life=s.heap.life /\ R r s'':=by
 (refine aK9 (h.real s t rfl rfl ha) fun n s' t' s3 t₃ h1 h2 h3 qz4 h5=>?_; obtain ⟨r,c,p,rfl,hl,hR⟩:=qz4)
 have ht:t₃=⟨leafOf r,c,p,[]⟩:=by
  obtain ⟨cur,code,pos,stack⟩:=t₃
  simp only [Thread.forget,Thread.mk.injEq,forgetAll_nil] at h3
  (refine n9 h3 fun qz5 qz6 qz7 e=>?_; clear h3; subst qz5; subst qz6; subst qz7)
  cases stack with
  | nil=>rfl
  | cons _ _=>cases e
 subst ht
 have hl3:leftWithCleanup s3.gens=false:=by rw [leftWithCleanup_of_forget_eq h2]; exact hl
 have a3:s3.asleep:=Shared.asleep_of_life h5 ha
 have hst:PySem.step den prog w s3 ⟨leafOf r,c,p,[]⟩=.halt (outcomeOf r) s3:=by
  obtain ⟨heap,gens,drawn,toks,os⟩:=s3
  cases r<;>(show finish _ _=_; unfold finish; rw [if_neg (by rw [hl3]; decide)]; rfl)
 refine (t7 (n+1) r s3 s' ?_ h2 h5 hR)
 rw [bW4 n 1 _ _ h1]
 have hcalm:Thread.calm ⟨leafOf r,c,p,[]⟩=true:=by cases r<;>rfl
 rcases sstep_single den prog w s3 ⟨leafOf r,c,p,[]⟩ hcalm a3 with q | q
 · simp only [schedN,q,hst]; rfl
 · rw [hst] at q
   cases r<;>cases q
end
end
section
set_option tactic.hygienic false
section
variable {M:Model} {Φ Ψ:Shared -> Thread -> Prop}
noncomputable abbrev C4 (M:Model) (Φ:Shared -> Thread -> Prop):=Ev M.den M.prog M.w Φ
theorem s9 {s s':Shared} {t t':Thread} (e:M.step s t=.go s' t') (h:C4 M Φ s' t'):C4 M Φ s t:=by
 cases hl:t.loud with
 | true=>rw [M.step_loud hl] at e; cases e
 | false =>
  rw [M.step_quiet hl] at e
  refine .step ?_ e h
  unfold W6
  rw [Thread.calm_eq,hl]
  cases hr:t.refused with
  | true=>(refine c0 (stepK_refused M.den M.prog M.w (s:=s) hr) fun what q=>?_); rw [q] at e; cases e
  | false=>rfl
theorem aS7 {n:Nat} {s s':Shared} {t t':Thread} (e:M.runN n s t=.running s' t') (h:C4 M Φ s' t'):C4 M Φ s t:=by
 induction n generalizing s t with
 | zero=>injection e with e1 e2; subst e1 e2; exact h
 | succ n ih =>
  rw [runN_succ] at e
  cases hs:M.step s t with
  | go s₁ t1=>rw [hs] at e; exact s9 hs (ih e)
  | halt o s₁=>rw [hs] at e; cases e
theorem bW5 {Γ:Ctx} {p:Pos} {t:Sem Fin} {s s':Shared} {r:cR} {base:List Frame} (h:Runs M Γ p t [] s (.ret r) s') (hf:Γ.Fits base) (k:∀ c' p',C4 M Φ s' ⟨leafOf r,c',p',base⟩):C4 M Φ s ⟨t,Γ.code,p,base⟩:=by
 (refine bs7 ((runs_reach h base hf).runN) fun n t' c' p' pre' hn qz1 qz2=>?_; subst qz1; subst qz2)
 exact aS7 hn (k c' p')
theorem aS8 {Γ:Ctx} {p:Pos} {t:Sem Fin} {fs:List Frame} {s s₁:Shared} {e1:End} {g:Nat} {k:GenResult -> Sem Fin} {l:List Value} {c1:Code} {p1:Pos} {st:List Frame} (h:Runs M Γ p t fs s e1 s₁) (hf:Γ.Fits (.gen g k l c1 p1::st)) (hq:e1.quiet=true)
 (hk:C4 M Φ (s₁.setGen g e1.genState) ⟨k e1.result,c1,p1,st⟩):C4 M Φ s ⟨t,Γ.code,p,fs++.gen g k l c1 p1::st⟩:=by
 (refine bs3 ((runs_reach h _ hf).runN) fun n t' c' p' pre' hn hx=>?_)
 exact aS7 hn (s9 (step_exit_gen s₁ g k l c1 p1 st hx hq) hk)
theorem bW6 {α:Type} {c:Code} {st:List Frame} {K:α -> Sem Fin} {H:Value -> Sem Fin} {gd:Bool -> Bool} {lv:List Value -> List Value} {Q:α -> Pos -> Shared -> Prop} {E:Value -> Pos -> Shared -> Prop}
 (hK:∀ a p' s',Q a p' s' -> C4 M Φ s' ⟨K a,c,p',st⟩) (hH:∀ e p' s',E e p' s' -> C4 M Φ s' ⟨H e,c,p',st⟩):∀ (t:Sem α) (p:Pos) (s:Shared),Sem.wp M (Ctx.of c st) t Q E p s -> C4 M Φ s ⟨t.wrap K H gd lv,c,p,st⟩:=by
 intro t
 induction t with
 | pure a=>exact fun p s h=>hK a p s h
 | raise e=>exact fun p s h=>hH e p s h
 | unsupported | finish | yield | fork | await | register=>exact fun p s h=>h.elim
 | rule tag k ih=>exact fun p s h=>s9 (step_rule M s c p st tag _) (ih () p s h)
 | «at» p' k ih=>exact fun p s h=>s9 (step_at M s c p st p' _) (ih () p' s h)
 | load a part k ih=>exact fun p s=>J6 fun o ho h=>s9 (step_load M s c p st part _ ho) (ih o p s h)
 | update a part f k ih=>exact fun p s=>m8 fun ha h=>s9 (step_update M s c p st part f _ ha) (ih () p _ h)
 | loadIfAlive a k ih=>exact fun p s h=>s9 (step_loadIfAlive M s c p st a _) (ih _ p s h)
 | point l k ih=>exact fun p s h=>s9 (step_point M s c p st _ _) (ih () p s h)
 | alloc o k ih=>exact fun p s h=>s9 (step_alloc M s c p st o _) (ih _ p _ h)
 | fresh k ih=>exact fun p s h=>s9 (step_fresh M s c p st _) (ih _ p _ h)
 | ask k ih=>exact fun p s h=>s9 (step_ask M s c p st _) (ih _ p s h)
 | choose src n k ih=>exact fun p s=>m8 fun hn h=>s9 (step_choose M s c p st src _ hn) (ih _ p _ h)
 | os q l k ih=>exact fun p s h=>s9 (step_os M s c p st q _ _) (ih _ p _ h)
 | call c' h g l k ih =>
  intro p s ⟨r,s₁,hr,hw⟩
  refine s9 (step_call M s c p st c' h (gd g) (lv l) _) (bW5 (Γ:=(Ctx.of c st).enter c' h p) hr (Ctx.Fits.enter (Ctx.fits_of c st) c' _ h (gd g) (lv l) p []) fun c2 p2=>?_)
  exact s9 (step_leaf_ret M s₁ c2 p2 st r _ h (gd g) (lv l) c p []) (ih r p s₁ hw)
 | handled own k ih =>
  intro p s h
  refine s9 (step_handled M s c p st own _) ?_
  cases own<;>exact ih _ p s h
 | genState g k ih=>exact fun p s=>J6 fun x hg h=>s9 (step_genState M s c p st _ hg) (ih _ p s h)
 | newGen c' k ih=>exact fun p s h=>s9 (step_newGen M s c p st c' _) (ih _ p _ h)
 | stack k ih=>exact fun p s h=>s9 (step_stack M s c p st _) (ih _ p s h)
 | thread k ih=>exact fun p s h=>s9 (step_thread M s c p st _) (ih _ p s h)
 | resume g r l k ih =>
  intro p s ⟨res,s',hw,h⟩
  have hk:=ih res p s' h
  unfold Wakes at hw
  cases hg:s.gens[g]? with
  | none=>rw [hg] at hw; exact hw.elim
  | some x =>
   rw [hg] at hw
   cases x with
   | fresh c' =>
    cases r with
    | send v =>
     by_cases hv:v=.none
     · subst hv
       (refine G8 hw fun e1 s₁ hr hq qz3 qz4=>?_; try clear hw; subst qz3; subst qz4)
       exact s9 (step_resume_fresh M s c p st (lv l) _ hg) (aS8 (Γ:=(Ctx.of c st).wake c' p) (fs:=[]) hr (Ctx.Fits.wake (Ctx.fits_of c st) c' g _ (lv l) p) hq hk)
     · have q:res=.justStarted /\ s'=s:=by cases v<;>first | exact absurd rfl hv | exact hw
       (refine d0 q fun qz5 qz6=>?_; try clear q; subst qz5; subst qz6)
       exact s9 (step_resume_justStarted M s' c p st (lv l) _ hg hv) hk
    | throw x=>(refine d0 hw fun qz7 qz8=>?_; try clear hw; subst qz7; subst qz8); exact s9 (step_resume_throwFresh M s c p st x (lv l) _ hg) hk
   | suspended k₀ l0 c₀ p₀ fs cl =>
    (refine G8 hw fun e1 s₁ hr hq qz9 qz10=>?_; try clear hw; subst qz9; subst qz10)
    exact s9 (step_resume_suspended M s c p st r (lv l) _ hg) (aS8 (Γ:=(Ctx.of c st).wake c₀ p) hr (Ctx.Fits.wake (Ctx.fits_of c st) c₀ g _ (lv l) p) hq hk)
   | running=>(refine d0 hw fun qz11 qz12=>?_; try clear hw; subst qz11; subst qz12); exact s9 (step_resume_running M s' c p st r (lv l) _ hg) hk
   | finished=>(refine d0 hw fun qz13 qz14=>?_; try clear hw; subst qz13; subst qz14); exact s9 (step_resume_finished M s' c p st r (lv l) _ hg) hk
end
noncomputable def A4 {α:Type} (M:Model) (A:Around) (t:Sem α) (Q:α -> Shared -> Prop) (E:Value -> Shared -> Prop) (s:Shared):Prop :=
 ∀ (c:Code) (p:Pos) (st:List Frame),(Ctx.of c st).In A -> ∀ (K:α -> Sem Fin) (H:Value -> Sem Fin) (gd:Bool -> Bool) (lv:List Value -> List Value) (Φ:Shared -> Thread -> Prop),
  (∀ a p' s',Q a s' -> C4 M Φ s' ⟨K a,c,p',st⟩) -> (∀ e p' s',E e s' -> C4 M Φ s' ⟨H e,c,p',st⟩) -> C4 M Φ s ⟨t.wrap K H gd lv,c,p,st⟩
section
variable {α β:Type} {M:Model} {A:Around} {s:Shared} {E E':Value -> Shared -> Prop}
theorem up {t:Sem α} {Q:α -> Shared -> Prop} (h:ax M A t Q E s):A4 M A t Q E s :=
 fun c p st hin K H gd lv Φ hK hH=>bW6 (Q:=fun a _ s'=>Q a s') (E:=fun e _ s'=>E e s') hK hH t p s (h _ p hin)
theorem ax6 {t:Sem α} {Q Q':α -> Shared -> Prop} (h:A4 M A t Q E s) (hQ:∀ a s,Q a s -> Q' a s) (hE:∀ e s,E e s -> E' e s):A4 M A t Q' E' s :=
 fun c p st hin K H gd lv Φ hK hH=>h c p st hin K H gd lv Φ (fun a p' s' q=>hK a p' s' (hQ a s' q)) fun e p' s' q=>hH e p' s' (hE e s' q)
theorem bW7 {a:α} {Q:α -> Shared -> Prop} (h:Q a s):A4 M A (pure a) Q E s:=up (ac h)
theorem bW8 {e:Value} {Q:α -> Shared -> Prop} (h:E e s):A4 M A (throw e:Sem α) Q E s:=up (wpAny_throw h)
theorem bW9 {m:Sem α} {K₁:α -> Sem β} {H1:Value -> Sem β} {g1:Bool -> Bool} {l1:List Value -> List Value} {Q:β -> Shared -> Prop} (h:A4 M A m (fun a s'=>A4 M A (K₁ a) Q E s') (fun e s'=>A4 M A (H1 e) Q E s') s):A4 M A (m.wrap K₁ H1 g1 l1) Q E s:=by
 intro c p st hin K H gd lv Φ hK hH
 rw [Sem.wrap_wrap]
 exact h c p st hin _ _ _ _ Φ (fun a p' s' q=>q c p' st hin K H gd lv Φ hK hH) fun e p' s' q=>q c p' st hin K H gd lv Φ hK hH
theorem aS9 {m:Sem α} {f:α -> Sem β} {Q:β -> Shared -> Prop} (h:A4 M A m (fun a s'=>A4 M A (f a) Q E s') E s):A4 M A (m >>= f) Q E s:=by
 rw [Sem.bind_eq_wrap']
 exact bW9 (ax6 h (fun _ _ q=>q) fun e s' q=>bW8 q)
theorem bX0 (t:Sem Fin):t.wrap .pure .raise id id=t:=by
 rw [<- Sem.bind_eq_wrap]
 induction t<;>simp only [Sem.bind, *]
end
end
end Mine
end
section
open PySem PySem.W PyProof.Rows PySem.W.X PySem.SeqAt
namespace Mine
section
set_option tactic.hygienic false
noncomputable abbrev YP:=Value -> GenState -> Shared -> Prop
noncomputable def ax7 (M:Model) (A:Around) (Y:YP) (R:cR -> Shared -> Prop) (c:Code) (t:Sem Fin) (fs:List Frame) (s:Shared):Prop :=
 ∀ (p:Pos) (st:List Frame) (g:Nat) (k:GenResult -> Sem Fin) (l:List Value) (c1:Code) (p1:Pos) (Φ:Shared -> Thread -> Prop),(Ctx.of c1 st).In A ->
  (∀ v gs' s',Y v gs' s' -> C4 M Φ (s'.setGen g gs') ⟨k (.yielded v),c1,p1,st⟩) -> (∀ r s',R r s' -> C4 M Φ (s'.setGen g .finished) ⟨k (End.ret r).result,c1,p1,st⟩) -> C4 M Φ s ⟨t,c,p,fs++.gen g k l c1 p1::st⟩
noncomputable def aT0 (M:Model) (A:Around) (Y:YP) (R:cR -> Shared -> Prop) (gs:GenState) (s:Shared):Prop:=match gs with
 | .fresh c=>ax7 M A Y R c (M.den c) [] s
 | .suspended k _ c _ fs _=>ax7 M A Y R c (k (.send .none)) fs s
 | _=>False
end
section
set_option tactic.hygienic false
noncomputable def H0 (h:Heap) (a:Addr) (g:Nat) (k:Int):Prop :=
 ∃ o nm qn,h.get? a=some o /\ o.cls=.type "generator" /\ o.data=.fields #[.int g 0,nm,qn] /\ ((o.slots=#[] /\ k=0) \/ o.slots=#[some (rawInt k)])
theorem H0.at {h h':Heap} {a:Addr} {g:Nat} {k:Int} (x:H0 h a g k) (hk:∀ o,h.get? a=some o -> h'.get? a=some o):H0 h' a g k:=F3 (x) fun o nm qn h1 r=>(Q3 o nm qn (hk _ h1) r)
noncomputable abbrev yfC (a:Nat):Code:=.builtin "proto.yield_from" ⟨[.ref a,.bool false,.none],[]⟩
inductive Kt where
 | top (body:List Stmt)
 | loop (tgt:Expr) (I:Nat) (lb rest:List Stmt) (k:Kt)
 | seq (rest:List Stmt) (k:Kt)
noncomputable abbrev B6 (prog:Program) (w:World) (A:Around) (Y:YP) (R:cR -> Shared -> Prop) (c:Code) (t:Sem Fin) (fs:List Frame) (s:Shared):Prop:=ax7 (aA prog w) A Y R c t fs s
noncomputable def ak4 (env:Env):Kt -> Code -> List Frame -> (Flow -> Sem Fin) -> (Value -> Sem Fin) -> Prop
 | .top body,c,fs,K,Hd=>c=.func body env /\ fs=[] /\ K=(fun f=>.pure (.done (.ret (match f with | .ret v=>v | _=>.none)))) /\ Hd=fun e=>(leaving env e).wrap (fun _=>.raise e) .raise id id
 | .loop tgt I lb rest k,c,fs,K,Hd=>∃ kf lf p c' fs' K' Hd',c=.forLoop tgt (.ref I) lb [] env /\ fs=.ret kf none false lf c' p []::fs' /\ ak4 env k c' fs' K' Hd' /\
  ∀ (prog:Program) (w:World) (A:Around) (Y:YP) (R:cR -> Shared -> Prop) (s:Shared),
   (B6 prog w A Y R c (denote table c) fs s -> B6 prog w A Y R c (K .next) fs s) /\
   (∀ v,B6 prog w A Y R c (leafOf (.ok (.ret v))) fs s -> B6 prog w A Y R c (K (.ret v)) fs s) /\
   (∀ e,ax (aA prog w) (A.over c fs) (noteFrame e env) (fun _ s'=>B6 prog w A Y R c (leafOf (.error e)) fs s') (fun _ _=>False) s -> B6 prog w A Y R c (Hd e) fs s) /\
   (B6 prog w A Y R c' ((execs rest env).wrap K' Hd' id id) fs' s -> B6 prog w A Y R c' (kf (.ok .next)) fs' s) /\
   (∀ v,B6 prog w A Y R c' (K' (.ret v)) fs' s -> B6 prog w A Y R c' (kf (.ok (.ret v))) fs' s) /\
   (∀ e,ax (aA prog w) (A.over c' fs') (do
    if (<- field e 1)==.none then unsupported "frame.own-activation:exception-without-traceback"
    setFlight e env.frame) (fun _ s'=>B6 prog w A Y R c' (Hd' e) fs' s') (fun _ _=>False) s -> B6 prog w A Y R c' (kf (.error e)) fs' s)
 | .seq rest k,c,fs,K,Hd=>∃ K',ak4 env k c fs K' Hd /\ K=fun f=>match f with | .next=>(execs rest env).wrap K' Hd id id | f=>K' f
noncomputable def Slp (z:GenState) (env:Env) (rest:List Stmt) (k:Kt):Option Nat -> Prop
 | none=>∃ c fs K Hd,ak4 env k c fs K Hd /\ ∀ (prog:Program) (w:World) (A:Around) (Y:YP) (R:cR -> Shared -> Prop) (s:Shared),B6 prog w A Y R c ((execs rest env).wrap K Hd id id) fs s -> aT0 (aA prog w) A Y R z s
 | some a=>∃ c fs K Hd kf lf p,ak4 env k c fs K Hd /\ ∀ (prog:Program) (w:World) (A:Around) (Y:YP) (R:cR -> Shared -> Prop) (s:Shared),
  (ax (aA prog w) (A.over (yfC a) (.ret kf none false lf c p []::fs)) (aP.Generator.sleptOver (.ref a) false) (fun _ s'=>B6 prog w A Y R (yfC a) (denote table (yfC a)) (.ret kf none false lf c p []::fs) s') (fun _ _=>False) s -> aT0 (aA prog w) A Y R z s) /\
  (B6 prog w A Y R c ((execs rest env).wrap K Hd id id) fs s -> B6 prog w A Y R c (kf (.ok (.ret .none))) fs s) /\
  (∀ e,B6 prog w A Y R c (Hd e) fs s -> B6 prog w A Y R c (kf (.error e)) fs s)
end
end Mine
end
section
open PySem PySem.W PyProof.Rows PySem.W.X
namespace Mine
section
inductive V where
 | none
 | bool (b:Bool)
 | int (i:Int)
 | flt (x:UInt64)
 | str (s:Str)
 | stk (s:Str) (t:Nat)
 | ty (n:String)
 | bi (n:String)
 | st (a:Nat)
 | ref (i:Nat)
 | rng (a b:Int)
 | tup (xs:List V)
 | sub (c:Nat) (xs:List V)
noncomputable abbrev b8:=List (Str×Option V)
noncomputable def p0 (m:b8) (x:Str):Option V:=(m.lookup x).join
noncomputable def w6:b8 -> Str -> V -> b8
 | [],x,v=>[(x,some v)]
 | (y,u)::m,x,v=>if x=y then (y,some v)::m else (y,u)::w6 m x v
theorem ak5 (m:b8) (x:Str) (v:V) (y:Str):p0 (w6 m x v) y=if y=x then some v else p0 m y:=by
 induction m with
 | nil =>
  unfold w6 p0
  rw [bB]
  by_cases e:y=x
  · rw [if_pos e,e,beq_self_eq_true]; rfl
  · rw [if_neg e,show (y==x)=false by simpa using e]
 | cons p m ih =>
  obtain ⟨z,u⟩:=p
  unfold w6
  by_cases e:x=z
  · rw [if_pos e]
    unfold p0
    rw [bB,bB]
    by_cases q:y=x
    · rw [if_pos q,q,e,beq_self_eq_true]; rfl
    · have:(y==z)=false:=by simpa using (fun h=>q (h.trans e.symm))
      rw [if_neg q,this]
  · rw [if_neg e]
    unfold p0 at ih ⊢
    rw [bB,bB]
    by_cases q:y=z
    · rw [show (y==z)=true by simpa using q,if_neg (fun h=>e (h.symm.trans q))]
    · rw [show (y==z)=false by simpa using q]
      exact ih
structure FI where
 sc:Scope
 own:Bool
 co:Value
noncomputable def j8 (fi:FI) (env:Env):List Nat:=if fi.own=true then env.locals::env.cells.map (·.2) else [env.locals]
theorem Q5 (fi:FI) (env:Env):env.locals∈j8 fi env:=by unfold j8; split<;>exact .head _
structure b7 where
 a:Nat
 fp:List Nat
 g:Option (Nat×Env)
inductive O where
 | list (xs:List V)
 | arr (xs:List V)
 | inst (C:Nat) (fs:List (Str×V))
 | tbl (P:Nat) (ps:Array Value)
 | fresh (fi:FI) (body:List Stmt) (m:b8)
 | gone
 | done
 | slp (a:Nat) (fi:FI) (m:b8) (rest:List Stmt) (k:Kt) (y:Option Nat) (n:Int)
 | rit (I:Nat) (lo:Int) (n:Nat)
 | tit (I:Nat) (xs:List V) (i:Nat)
 | lit (I:Nat) (l:Nat) (i:Nat)
 | prd (R:List b7 -> Heap -> Nat -> Prop)
 | clk (n:Nat)
structure d6 where
 f:Nat -> Option Obj
 fr:List Env
noncomputable def d6.lo (F:d6):List Nat:=F.fr.filterMap (·.frame)
noncomputable def D1 (L:List Nat) (b:Nat) (o o':Obj):Prop:=o'=o \/ (b∈L /\ ∃ sl,o'={ o with slots:=sl })
theorem D1.refl {L:List Nat} {b:Nat} {o:Obj}:D1 L b o o:=.inl rfl
theorem D1.same {L:List Nat} {b:Nat} {o o':Obj} (h:D1 L b o o'):o'.cls=o.cls /\ o'.data=o.data /\ o'.dict=o.dict:=by
 rcases h with rfl | ⟨_,sl,rfl⟩<;>exact (e9 rfl rfl rfl)
theorem D1.mono {L L':List Nat} {b:Nat} {o o':Obj} (h:D1 L b o o') (hL:∀ x∈L,x∈L'):D1 L' b o o':=by
 rcases h with rfl | ⟨m,sl,rfl⟩
 · exact .inl rfl
 · exact .inr (aL9 (hL _ m) sl rfl)
noncomputable def O0 (F:d6) (h:Heap):Prop:=∀ b o,F.f b=some o -> ∃ o',h.get? b=some o' /\ D1 F.lo b o o'
noncomputable def ax9 (F:d6):Prop:=∀ e∈F.fr,e.scope.kind≠.module /\ ∃ L o,e.frame=some L /\ F.f L=some o /\ ∃ es ep,o.data=.dict es ep
noncomputable abbrev o8 (h h':Heap):Prop:=∀ b o,h.get? b=some o -> h'.get? b=some o
noncomputable def O1 (o:Obj):Prop:=((∃ xs n,o.data=.seq xs n) /\ o.cls≠.type "list") \/ (o.cls=.type "range" /\ ∃ vs,o.data=.fields vs)
noncomputable def TK (h h':Heap):Prop:=∀ b o,h.get? b=some o -> O1 o -> h'.get? b=some o
theorem TK.refl (h:Heap):TK h h:=fun _ _ e _=>e
theorem TK.trans {h h' h'':Heap} (x:TK h h') (y:TK h' h''):TK h h'':=fun b o e i=>y b o (x b o e i) i
theorem TK.of_keep {h h':Heap} (k:o8 h h'):TK h h':=fun b o e _=>k b o e
theorem TK.of_ext {h h':Heap} {a:Nat} (x:∀ b o,b≠a -> h.get? b=some o -> h'.get? b=some o) (ha:∀ o,h.get? a=some o -> ¬ O1 o):TK h h':=fun b o e i=>x b o (fun q=>ha o (q▸e) i) e
structure Bs (w:World) (KF:Frag) (h:Heap):Prop where
 k:Frag.In KF h
 g:∃ mg,h.Ns aT mg
 lim:h.NoLimit
 bi:∃ mb,h.Ns ew mb /\ ∀ x:Str,x≠"__name__" -> mb x=bU x
 dig:∃ mc,h.Ns cStatics mc /\ mc "sys.int_max_str_digits"=none
noncomputable def ay0 (h:Heap) (r:Nat) (a b:Int):Prop:=∃ t u k,IsRange h r a b 1 t u k
noncomputable def E2 (h:Heap) (a c:Nat) (vs:Array Value):Prop:=∃ o,h.get? a=some o /\ o.cls=.ref c /\ ∃ n,o.data=.seq vs n
mutual
noncomputable def VR (ρ:List b7) (h:Heap):V -> Value -> Prop
 | .none,v=>v=.none
 | .bool b,v=>v=.bool b
 | .int i,v=>∃ t,v=.int i t
 | .flt x,v=>∃ t,t≠0 /\ v=.float x t
 | .str x,v=>∃ t,v=.str x t
 | .stk x t,v=>t≠0 /\ v=.str x t
 | .ty n,v=>v=.type n
 | .bi n,v=>v=.builtin n
 | .st a,v=>v=.ref a
 | .ref i,v=>∃ e,ρ[i]?=some e /\ v=.ref e.a
 | .rng a b,v=>∃ r,v=.ref r /\ ay0 h r a b
 | .tup xs,v=>∃ a vs,v=.ref a /\ h.IsTuple a vs.toArray /\ c8 ρ h xs vs
 | .sub c xs,v=>∃ a vs,v=.ref a /\ E2 h a c vs.toArray /\ c8 ρ h xs vs
noncomputable def c8 (ρ:List b7) (h:Heap):List V -> List Value -> Prop
 | [],vs=>vs=[]
 | x::xs,vs=>∃ v r,vs=v::r /\ VR ρ h x v /\ c8 ρ h xs r
end
theorem ae3 {h h':Heap} {a:Nat} {vs:Array Value} (k:TK h h') (x:h.IsTuple a vs):h'.IsTuple a vs:=by
 (refine J5 x fun o ho hc n hd=>?_; clear x)
 exact (Q2 o (k a o ho (.inl ⟨(l8 _ _ hd),by rw [hc]; decide⟩)) hc n hd)
theorem ak6 {h h':Heap} {a c:Nat} {vs:Array Value} (k:TK h h') (x:E2 h a c vs):E2 h' a c vs:=by
 (refine J5 x fun o ho hc n hd=>?_; clear x)
 exact (Q2 o (k a o ho (.inl ⟨(l8 _ _ hd),by rw [hc]; exact fun q=>nomatch q⟩)) hc n hd)
theorem bX1 {h h':Heap} {r:Nat} {a b:Int} (k:TK h h') (x:ay0 h r a b):ay0 h' r a b:=by
 (refine B4 x fun t u q ho=>?_; clear x)
 exact (C3 t u q (k r _ ho (.inr (aL9 rfl _ rfl))))
theorem z4 {ρ ρ':List b7} (p:ρ<+:ρ') {i:Nat} {e:b7} (h:ρ[i]?=some e):ρ'[i]?=some e:=by
 (refine c0 p fun t qz1=>?_; clear p; subst qz1)
 rw [bf (ae.mp h).1]
 exact h
mutual
theorem VR.mono {ρ ρ':List b7} {h h':Heap} (p:ρ<+:ρ') (k:TK h h'):∀ {x:V} {v:Value},VR ρ h x v -> VR ρ' h' x v
 | .none,v,r=>by unfold VR at r ⊢; exact r
 | .bool b,v,r=>by unfold VR at r ⊢; exact r
 | .int i,v,r=>by unfold VR at r ⊢; exact r
 | .flt x,v,r=>by unfold VR at r ⊢; exact r
 | .str x,v,r=>by unfold VR at r ⊢; exact r
 | .stk x t,v,r=>by unfold VR at r ⊢; exact r
 | .ty n,v,r=>by unfold VR at r ⊢; exact r
 | .bi n,v,r=>by unfold VR at r ⊢; exact r
 | .st a,v,r=>by unfold VR at r ⊢; exact r
 | .ref i,v,r=>by unfold VR at r ⊢; (refine b9 r fun e q z=>?_; clear r); exact (c5 e (z4 p q) z)
 | .rng a b,v,r=>by unfold VR at r ⊢; (refine b9 r fun e q z=>?_; clear r); exact (c5 e q (bX1 k z))
 | .tup xs,v,r=>by unfold VR at r ⊢; (refine e8 r fun a vs q z y=>?_; clear r); exact (A3 a vs q (ae3 k z) (c8.mono p k y))
 | .sub c xs,v,r=>by unfold VR at r ⊢; (refine e8 r fun a vs q z y=>?_; clear r); exact (A3 a vs q (ak6 k z) (c8.mono p k y))
theorem c8.mono {ρ ρ':List b7} {h h':Heap} (p:ρ<+:ρ') (k:TK h h'):∀ {xs:List V} {vs:List Value},c8 ρ h xs vs -> c8 ρ' h' xs vs
 | [],vs,r=>by unfold c8 at r ⊢; exact r
 | x::xs,vs,r=>by unfold c8 at r ⊢; (refine e8 r fun v q e a b=>?_; clear r); exact (A3 v q e (VR.mono p k a) (c8.mono p k b))
end
theorem c8.nil {ρ:List b7} {h:Heap}:c8 ρ h [] []:=by unfold c8; rfl
theorem c8.cons {ρ:List b7} {h:Heap} {x:V} {v:Value} {xs:List V} {vs:List Value} (a:VR ρ h x v) (b:c8 ρ h xs vs):c8 ρ h (x::xs) (v::vs):=by unfold c8; exact (A3 v vs rfl a b)
theorem c8.nil_eq {ρ:List b7} {h:Heap} {vs:List Value} (r:c8 ρ h [] vs):vs=[]:=by unfold c8 at r; exact r
theorem c8.cons_eq {ρ:List b7} {h:Heap} {x:V} {xs:List V} {vs:List Value} (r:c8 ρ h (x::xs) vs):∃ v q,vs=v::q /\ VR ρ h x v /\ c8 ρ h xs q:=by unfold c8 at r; exact r
theorem c8.len {ρ:List b7} {h:Heap}:∀ {xs:List V} {vs:List Value},c8 ρ h xs vs -> vs.length=xs.length
 | [],vs,r=>by rw [r.nil_eq]; rfl
 | x::xs,vs,r=>by (refine e8 (r.cons_eq) fun v q qz2 _ b=>?_; subst qz2); rw [cb,cb,c8.len b]
theorem c8.get {ρ:List b7} {h:Heap}:∀ {xs:List V} {vs:List Value} {i:Nat} {x:V},c8 ρ h xs vs -> xs[i]?=some x -> ∃ v,vs[i]?=some v /\ VR ρ h x v
 | [],_,_,_,_,e=>by cases e
 | x::xs,vs,0,y,r,e=>by (refine e8 (r.cons_eq) fun v q qz3 a _=>?_; subst qz3); cases e; exact (c5 v rfl a)
 | x::xs,vs,i+1,y,r,e=>by (refine e8 (r.cons_eq) fun v q qz4 _ b=>?_; subst qz4); exact c8.get (xs:=xs) (i:=i) b (by simpa using e)
theorem c8.get' {ρ:List b7} {h:Heap}:∀ {xs:List V} {vs:List Value} {i:Nat} {v:Value},c8 ρ h xs vs -> vs[i]?=some v -> ∃ x,xs[i]?=some x /\ VR ρ h x v
 | [],vs,_,_,r,e=>by rw [r.nil_eq] at e; cases e
 | x::xs,vs,0,y,r,e=>by (refine e8 (r.cons_eq) fun v q qz5 a _=>?_; subst qz5); cases e; exact (c5 x rfl a)
 | x::xs,vs,i+1,y,r,e=>by (refine e8 (r.cons_eq) fun v q qz6 _ b=>?_; subst qz6); exact c8.get' (vs:=q) (i:=i) b (by simpa using e)
theorem c8.append {ρ:List b7} {h:Heap}:∀ {xs:List V} {vs:List Value} {ys:List V} {us:List Value},c8 ρ h xs vs -> c8 ρ h ys us -> c8 ρ h (xs++ys) (vs++us)
 | [],vs,_,_,r,y=>by rw [r.nil_eq]; exact y
 | x::xs,vs,_,_,r,y=>by (refine e8 (r.cons_eq) fun v q qz7 a b=>?_; subst qz7); exact .cons a (c8.append b y)
theorem c8.take {ρ:List b7} {h:Heap}:∀ {xs:List V} {vs:List Value} (n:Nat),c8 ρ h xs vs -> c8 ρ h (xs.take n) (vs.take n)
 | [],vs,n,r=>by rw [r.nil_eq,List.take_nil,List.take_nil]; exact .nil
 | x::xs,vs,0,r=>by exact .nil
 | x::xs,vs,n+1,r=>by (refine e8 (r.cons_eq) fun v q qz8 a b=>?_; subst qz8); exact .cons a (c8.take n b)
noncomputable def O2 (ρ:List b7) (h:Heap):Option V -> Option Value -> Prop
 | none,_=>True
 | some x,some v=>VR ρ h x v
 | some _,none=>False
theorem O2.mono {ρ ρ':List b7} {h h':Heap} (p:ρ<+:ρ') (k:TK h h'):∀ {x:Option V} {v:Option Value},O2 ρ h x v -> O2 ρ' h' x v
 | none,_,_=>trivial
 | some _,some _,r=>VR.mono p k r
 | some _,none,r=>r.elim
theorem O2.some_of {ρ:List b7} {h:Heap} {x:V} {v:Option Value} (r:O2 ρ h (some x) v):∃ u,v=some u /\ VR ρ h x u:=by
 cases v with
 | none=>exact r.elim
 | some u=>exact (c5 u rfl r)
noncomputable def q0 (ρ:List b7):List Nat:=ρ.flatMap (·.fp)
noncomputable def FsR (ρ:List b7) (h:Heap) (fs:List (Str×V)) (mA:Str -> Option Value):Prop:=∀ n,match fs.lookup n with | some v=>∃ u,mA n=some u /\ VR ρ h v u | none=>mA n=none
theorem FsR.mono {ρ ρ':List b7} {h h':Heap} {fs:List (Str×V)} {mA:Str -> Option Value} (x:FsR ρ h fs mA) (p:ρ<+:ρ') (k:TK h h'):FsR ρ' h' fs mA:=fun n=>by
 have:=x n
 split at this
 · (refine b9 this fun u h1 h2=>?_; clear this); exact (c5 u h1 (h2.mono p k))
 · exact this
noncomputable def ak7 (l:List Value):Prop:=TriplesOk l
structure ae5 (fi:FI) (env:Env) (m:b8) (ρ:List b7) (h:Heap):Prop where
 es:env.scope=fi.sc
 eg:env.globals=aT
 eb:env.builtins=ew
 ec:env.code=fi.co
 ek:fi.sc.kind=.function
 ef:env.frame=some env.locals
 ns:∃ mv,h.Ns env.locals mv /\ ∀ x,fi.sc.names.lookup x=some .local -> O2 ρ h (p0 m x) (mv x)
 cl:∀ x c,env.cells.lookup x=some c -> ∃ ov,h.IsCell c ov /\ O2 ρ h (p0 m x) ov
 ce:∀ x,(fi.sc.names.lookup x=some .cell \/ fi.sc.names.lookup x=some .free) -> ∃ c,env.cells.lookup x=some c
 cn:∀ x,fi.sc.names.lookup x=some .local -> env.cells.lookup x=none
 cu:∀ x c,(x,c)∈env.cells -> env.cells.lookup x=some c /\ c≠env.locals
 cd:env.cells.Pairwise fun x y=>x.2≠y.2
theorem ae5.mono {fi:FI} {env:Env} {m:b8} {ρ ρ':List b7} {h h':Heap} (f:ae5 fi env m ρ h) (hw:fi.own=true) (p:ρ<+:ρ') (t:TK h h') (hk:∀ b∈j8 fi env,∀ q,h.get? b=some q -> h'.get? b=some q):ae5 fi env m ρ' h':=by
 refine ⟨f.es,f.eg,f.eb,f.ec,f.ek,f.ef,?_,fun x c hc=>?_,f.ce,f.cn,f.cu,f.cd⟩
 · (refine b9 (f.ns) fun mv qz12 hv=>?_; obtain ⟨o,es,ep,ho,r⟩:=qz12)
   exact (c5 mv (Q3 o es ep (hk _ (Q5 fi env) o ho) r) (fun x hx=>(hv x hx).mono p t))
 · (refine b9 (f.cl x c hc) fun ov qz13 hv=>?_; obtain ⟨o,ho,hd⟩:=qz13)
   exact (c5 ov (c5 o (hk c (by unfold j8; rw [if_pos hw]; exact .tail _ (aV.mpr (c5 _ (mem_of_lookup hc) rfl))) o ho) hd) (hv.mono p t))
structure GT where
 a:Array GenState
 n:Nat
noncomputable abbrev gt (s:Shared):GT:=⟨s.gens,s.toks⟩
noncomputable def GR (gs:GT) (e:b7):O -> Prop
 | .fresh _ body _=>∃ g env,e.g=some (g,env) /\ gs.a[g]?=some (.fresh (.func body env))
 | .gone=>∀ x,e.g=some x -> x.1 < gs.a.size
 | .done=>∃ g env,e.g=some (g,env) /\ gs.a[g]?=some .finished
 | .slp _ _ _ rest k y _=>∃ g env z,e.g=some (g,env) /\ gs.a[g]?=some z /\ Slp z env rest k y
 | .clk n=>n <= gs.n
 | _=>True
theorem GR.up {gs:GT} {n:Nat} {e:b7} {o:O} (x:GR gs e o) (hn:gs.n <= n):GR ⟨gs.a,n⟩ e o:=by
 cases o
 case clk m=>exact ag x hn
 all_goals exact x
structure T7 (R:List b7 -> Heap -> Nat -> Prop):Prop where
 mono:∀ {ρ ρ':List b7} {h h':Heap} {a:Nat},ρ<+:ρ' -> TK h h' -> (∀ o,h.get? a=some o -> h'.get? a=some o) -> R ρ h a -> R ρ' h' a
 ents:∀ {ρ ρ':List b7} {h:Heap} {a:Nat},ρ.map (·.a)=ρ'.map (·.a) -> R ρ h a -> R ρ' h a
noncomputable def OR (F:d6) (ρ:List b7) (h:Heap) (e:b7):O -> Prop
 | .list xs=>e.fp=[e.a] /\ e.g=none /\ ∃ vs:List Value,h.PlainList e.a vs.toArray /\ c8 ρ h xs vs
 | .arr xs=>e.fp=[] /\ e.g=none /\ (∃ vs:List Value,h.IsList e.a vs.toArray /\ c8 ρ h xs vs) /\ (F.f e.a).isSome=true
 | .inst C fs=>e.g=none /\ ∃ dx,e.fp=[e.a,dx] /\ ∃ o mA,h.get? e.a=some o /\ o.cls=.ref C /\ (∀ c,o.data≠.cls c) /\ o.dict=some dx /\ h.Ns1 dx mA /\ FsR ρ h fs mA
 | .tbl P ps=>e.a=P /\ e.fp=[e.a] /\ e.g=none /\ ∃ more:List Value,ak7 (ps.toList++more) /\ h.get? e.a=some { cls:=.none,data:=.fields (ps++more.toArray) }
 | .fresh fi body m=>∃ g env,e.g=some (g,env) /\ e.fp=e.a::j8 fi env /\ h.IsGen e.a g /\ fi.own=true /\ eC env=false /\ ae5 fi env m ρ h
 | .gone=>e.a∈e.fp \/ e.g.isSome=true
 | .done=>∃ g env r,e.g=some (g,env) /\ e.fp=e.a::r /\ H0 h e.a g 0
 | .slp a fi m _ _ _ n=>e.a=a /\ ∃ g env,e.g=some (g,env) /\ e.fp=e.a::j8 fi env /\ H0 h e.a g n /\ fi.own=true /\ eC env=false /\ ae5 fi env m ρ h
 | .rit I lo n=>e.a=I /\ e.fp=[e.a] /\ e.g=none /\ IsRangeIter h e.a lo n 1
 | .tit I xs i=>e.a=I /\ e.fp=[e.a] /\ e.g=none /\ ∃ a vs,h.IsTupleIter e.a a i /\ h.IsTuple a (ch vs) /\ c8 ρ h xs vs
 | .lit I l i=>e.a=I /\ e.fp=[e.a] /\ e.g=none /\ ∃ e',ρ[l]?=some e' /\ h.IsListIter e.a e'.a i
 | .prd R=>e.fp=[e.a] /\ e.g=none /\ R ρ h e.a /\ T7 R
 | .clk _=>e.fp=[e.a] /\ e.g=none /\ h.get? e.a=some { cls:=.none,data:=.fields #[] }
theorem D1.ex {L:List Nat} {b:Nat} {o o':Obj} (h:D1 L b o o') (hb:b ∉ L):o'=o:=by
 rcases h with e | ⟨m,_⟩
 · exact e
 · exact absurd m hb
theorem ax9.off {F:d6} (h:ax9 F) {b:Nat} (hb:F.f b=none):b ∉ F.lo:=fun q=>by
 (refine b9 (List.mem_filterMap.mp q) fun e he hf=>?_)
 (refine ad6 (h e he) fun _ L o h2 h3 _=>?_)
 rw [hf] at h2
 cases h2
 rw [hb] at h3
 cases h3
theorem bX2 {h h':Heap} {L:List Nat} {a:Nat} {q:Obj} {xs:Array Value} (x:h.IsList a xs) (k:∃ o',h.get? a=some o' /\ D1 L a q o') (k':∃ o',h'.get? a=some o' /\ D1 L a q o'):h'.IsList a xs:=by
 (refine J5 x fun o ho hc n hd=>?_; clear x)
 (refine b9 k fun o1 h1 u1=>?_; clear k)
 (refine b9 k' fun o2 h2 u2=>?_; clear k')
 rw [ho] at h1
 cases h1
 exact (Q2 o2 h2 (u2.same.1.trans (u1.same.1.symm.trans hc)) n (u2.same.2.1.trans (u1.same.2.1.symm.trans hd)))
theorem bX3 {h h':Heap} {a:Nat} {m:Str -> Option Value} (x:h.Ns1 a m) (hk:∀ o,h.get? a=some o -> h'.get? a=some o):h'.Ns1 a m:=by
 (refine F3 x fun o es ep ho r=>?_; clear x)
 exact (Q3 o es ep (hk _ ho) r)
theorem OR.mono {F:d6} {ρ ρ':List b7} {h h':Heap} {e:b7} {o:O} (x:OR F ρ h e o) (p:ρ<+:ρ') (t:TK h h') (kF:O0 F h) (kF':O0 F h') (hk:∀ b∈e.fp,∀ q,h.get? b=some q -> h'.get? b=some q):OR F ρ' h' e o:=by
 cases o with
 | list xs =>
  (refine w5 x fun a b vs l r=>?_; clear x)
  exact (W4 a b vs (l.at (hk e.a (by rw [a]; exact .head _))) (r.mono p t))
 | arr xs =>
  (refine n9 x fun a b qz14 f=>?_; clear x; obtain ⟨vs,l,r⟩:=qz14)
  (refine c0 (dN.mp f) fun q hq=>?_)
  exact (m5 a b (c5 vs (bX2 l (kF _ _ hq) (kF' _ _ hq)) (r.mono p t)) f)
 | inst C fs =>
  (refine aL1 x fun a dx b o mA h1 h2 h3 h4 h6 h7=>?_; clear x)
  exact (av1 a dx b o mA (hk e.a (by rw [b]; exact .head _) _ h1) h2 h3 h4 (bX3 h6 (hk dx (by rw [b]; exact .tail _ (.head _)))) (h7.mono p t))
 | tbl P ps =>
  (refine ai8 x fun z a b more h0 h1=>?_; clear x)
  exact (ae0 z a b more h0 (hk e.a (by rw [a]; exact .head _) _ h1))
 | fresh fi body m =>
  (refine bs6 x fun g env h1 h2 qz15 h4 h5 h6=>?_; clear x; obtain ⟨o,nm,qn,ho,r⟩:=qz15)
  exact (bw4 g env h1 h2 (Q3 o nm qn (hk e.a (by rw [h2]; exact .head _) _ ho) r) h4 h5 (h6.mono h4 p t fun b hb=>hk b (by rw [h2]; exact .tail _ hb)))
 | gone=>exact x
 | done =>
  (refine V5 x fun g env r h1 h2 h3=>?_; clear x)
  exact (T5 g env r h1 h2 (h3.at (hk e.a (by rw [h2]; exact .head _))))
 | slp a fi m rest k y n =>
  (refine bs8 x fun h0 g env h1 h2 h3 h4 h5 h6=>?_; clear x)
  exact (bw5 h0 g env h1 h2 (h3.at (hk e.a (by rw [h2]; exact .head _))) h4 h5 (h6.mono h4 p t fun b hb=>hk b (by rw [h2]; exact .tail _ hb)))
 | tit I xs i =>
  (refine bs4 x fun z a b r vs qz16 h2 h3=>?_; clear x; obtain ⟨o,ho,q⟩:=qz16)
  exact (bw2 z a b r vs (c5 o (hk e.a (by rw [a]; exact .head _) _ ho) q) (ae3 t h2) (h3.mono p t))
 | lit I l i =>
  (refine ai8 x fun z a b e' he' qz17=>?_; clear x; obtain ⟨o,ho,q⟩:=qz17)
  exact (ae0 z a b e' (z4 p he') (c5 o (hk e.a (by rw [a]; exact .head _) _ ho) q))
 | rit I lo n =>
  (refine n9 x fun z a b h1=>?_; clear x)
  exact (m5 z a b (hk e.a (by rw [a]; exact .head _) _ h1))
 | prd R =>
  (refine n9 x fun a b h1 h2=>?_; clear x)
  exact (m5 a b (h2.mono p t (hk e.a (by rw [a]; exact .head _)) h1) h2)
 | clk n=>exact (e9 x.1 x.2.1 (hk e.a (by rw [x.1]; exact .head _) _ x.2.2))
theorem OR.base {F F':d6} {ρ:List b7} {h:Heap} {e:b7} {o:O} (x:OR F ρ h e o) (hF:∀ b o,F.f b=some o -> F'.f b=some o):OR F' ρ h e o:=by
 cases o with
 | arr xs =>
  (refine n9 x fun a b l f=>?_; clear x)
  (refine c0 (dN.mp f) fun q hq=>?_)
  exact (m5 a b l (by rw [hF _ _ hq]; rfl))
 | _=>exact x
theorem OR.own {F:d6} {ρ:List b7} {h:Heap} {e:b7} {o:O} (x:OR F ρ h e o):(∃ xs,o=.arr xs) \/ e.a∈e.fp \/ e.g.isSome=true:=by
 cases o with
 | arr xs=>exact .inl ⟨xs,rfl⟩
 | list xs=>right; left; rw [x.1]; exact .head _
 | inst C fs=>right; left; (refine Y8 x fun _ dx b _=>?_; clear x); rw [b]; exact .head _
 | tbl P ps=>right; left; rw [x.2.1]; exact .head _
 | fresh fi body m=>right; left; (refine e8 x fun g env h1 h2 _=>?_; clear x); rw [h2]; exact .head _
 | gone=>exact .inr x
 | done=>right; left; (refine V5 x fun _ _ _ _ h2 _=>?_; clear x); rw [h2]; exact .head _
 | slp a fi m rest k y n=>right; left; (refine ad6 x fun _ _ _ _ h2 _=>?_; clear x); rw [h2]; exact .head _
 | tit I xs i=>right; left; rw [x.2.1]; exact .head _
 | lit I l i=>right; left; rw [x.2.1]; exact .head _
 | rit I lo n=>right; left; rw [x.2.1]; exact .head _
 | prd R=>right; left; rw [x.1]; exact .head _
 | clk n=>right; left; rw [x.1]; exact .head _
noncomputable def Z3 (_:O):Bool:=false
noncomputable def W7 (ρ:List b7) (H:List O) (gs:Array GenState):Prop:=∀ (k:Nat) z,gs[k]?=some z -> z.bare=true \/ ∃ (i:Nat) (e:b7) (o:O) (env:Env),ρ[i]?=some e /\ e.g=some (k,env) /\ H[i]?=some o /\ Z3 o=true
theorem W7.app {ρ:List b7} {H:List O} {gs:Array GenState} (h:W7 ρ H gs) {e:b7} {o:O}:W7 (ρ++[e]) (H++[o]) gs:=fun k z hz=>(h k z hz).imp id (au3 fun i e' o' env h1 h2 h3 h4=>(t7 i e' o' env (by rw [bf (ae.mp h1).1]; exact h1) h2 (by rw [bf (ae.mp h3).1]; exact h3) h4))
theorem W7.set {ρ:List b7} {H:List O} {gs:Array GenState} (h:W7 ρ H gs) {i:Nat} {o':O} (hy:∀ o,H[i]?=some o -> Z3 o=true -> Z3 o'=true):W7 ρ (H.set i o') gs:=fun k z hz=>(h k z hz).imp id (au3 fun j e o env h1 h2 h3 h4=>by
 by_cases q:i=j
 · subst q
   exact (t7 i e o' env h1 h2 (bT (ae.mp h3).1) (hy o h3 h4))
 · exact (t7 j e o env h1 h2 (by rw [bZ q]; exact h3) h4))
structure d7 (w:World) (KF:Frag) (F:d6) (ρ:List b7) (H:List O) (h:Heap) (gs:GT):Prop where
 bs:∀ h',O0 F h' -> Bs w KF h'
 keep:O0 F h
 len:ρ.length=H.length
 ob:∀ (i:Nat) e o,ρ[i]?=some e -> H[i]?=some o -> OR F ρ h e o
 live:∀ b∈q0 ρ,∃ o,h.get? b=some o
 nd:(q0 ρ).Nodup
 off:∀ b∈q0 ρ,F.f b=none
 gn:((ρ.filterMap (·.g)).map (·.1)).Nodup
 bare:W7 ρ H gs.a
 gf:∀ (i:Nat) e o,ρ[i]?=some e -> H[i]?=some o -> GR gs e o
 fo:ax9 F
 tp:0 < gs.n
theorem z5 (h:Heap):h.get? h.objs.size=none:=by
 cases q:h.get? h.objs.size with
 | none=>rfl
 | some o=>exact absurd (bG q) (Nat.lt_irrefl _)
theorem W8 {ρ:List b7} {i:Nat} {e:b7} (h:ρ[i]?=some e) {b:Nat} (hb:b∈e.fp):b∈q0 ρ:=List.mem_flatMap.mpr (c5 e (ba h) hb)
theorem ay1 {ρ:List b7} (nd:(q0 ρ).Nodup) {i j:Nat} {e f:b7} (hi:ρ[i]?=some e) (hj:ρ[j]?=some f) (hij:i≠j) {b:Nat} (hb:b∈e.fp):b ∉ f.fp:=by
 induction ρ generalizing i j with
 | nil=>cases hi
 | cons x ρ ih =>
  have nd':(x.fp++q0 ρ).Nodup:=nd
  (refine l9 (gG.mp nd') fun n1 n2 n3=>?_)
  cases i with
  | zero =>
   cases hi
   cases j with
   | zero=>exact absurd rfl hij
   | succ j=>exact fun q=>n3 b hb b (W8 (ρ:=ρ) hj q) rfl
  | succ i =>
   cases j with
   | zero=>cases hj; exact fun q=>n3 b q b (W8 (ρ:=ρ) hi hb) rfl
   | succ j=>exact ih n2 hi hj (fun q=>hij (congrArg Nat.succ q))
section
variable {w:World} {KF:Frag} {F:d6} {ρ ρ':List b7} {H:List O} {h h':Heap} {gs:GT}
theorem d7.b (S:d7 w KF F ρ H h gs):Bs w KF h:=S.bs _ S.keep
theorem d7.tk {n:Nat} (S:d7 w KF F ρ H h gs) (hn:gs.n <= n):d7 w KF F ρ H h ⟨gs.a,n⟩:=⟨S.bs,S.keep,S.len,S.ob,S.live,S.nd,S.off,S.gn,S.bare,fun i e o hi ho=>(S.gf i e o hi ho).up hn,S.fo,aW S.tp hn⟩
theorem d7.tc {F':d6} {ρ₀:List b7} {h₀:Heap} {g:GT} {k:Nat} (T:d7 w KF F ρ H h gs) (S:d7 w KF F' ρ₀ H h₀ g) (hn:g.n <= k):d7 w KF F ρ H h ⟨gs.a,k⟩:=⟨T.bs,T.keep,T.len,T.ob,T.live,T.nd,T.off,T.gn,T.bare,fun i e o hi ho=>by
 have x:=T.gf i e o hi ho
 cases o
 case clk m =>
  have hi':i < ρ₀.length:=by rw [S.len]; exact (ae.mp ho).1
  exact ag (S.gf i _ _ (aq hi') ho) hn
 all_goals exact x,T.fo,aW S.tp hn⟩
theorem d7.gte {s s':Shared} (S:d7 w KF F ρ H h (gt s)) (hg:s'.gens=s.gens) (hn:s.toks <= s'.toks):d7 w KF F ρ H h (gt s'):=by
 show d7 w KF F ρ H h ⟨s'.gens,s'.toks⟩
 rw [hg]
 exact S.tk hn
theorem d7.keeps (S:d7 w KF F ρ H h gs) (k:o8 h h'):d7 w KF F ρ H h' gs:=by
 have kF:O0 F h':=fun b o e=>b9 (S.keep b o e) fun o' e' u=>(c5 o' (k b o' e') u)
 exact ⟨S.bs,kF,S.len,fun i e o hi ho=>(S.ob i e o hi ho).mono (az _) (.of_keep k) S.keep kF (fun b _ q hq=>k b q hq),fun b hb=>c0 (S.live b hb) fun o ho=>⟨o,k b o ho⟩,S.nd,S.off,S.gn,S.bare,S.gf,S.fo,S.tp⟩
theorem d7.glt (S:d7 w KF F ρ H h gs) {e:b7} (he:e∈ρ) {x:Nat×Env} (hx:e.g=some x):x.1 < gs.a.size:=by
 obtain ⟨i,hi,rfl⟩:=List.mem_iff_getElem.mp he
 have hi':=aq hi
 have hH:i < H.length:=by rw [<- S.len]; exact hi
 have y:=S.ob i _ _ hi' (aq hH)
 have z:=S.gf i _ _ hi' (aq hH)
 cases q:H[i] with
 | list xs=>rw [q] at y; rw [y.2.1] at hx; cases hx
 | arr xs=>rw [q] at y; rw [y.2.1] at hx; cases hx
 | inst C fs=>rw [q] at y; rw [y.1] at hx; cases hx
 | tbl P ps=>rw [q] at y; rw [y.2.2.1] at hx; cases hx
 | fresh fi body m =>
  rw [q] at z
  (refine B5 z fun g env h1 h2=>?_; clear z)
  rw [h1] at hx; cases hx
  exact (cN.mp h2).1
 | gone=>rw [q] at z; exact z x hx
 | done =>
  rw [q] at z
  (refine B5 z fun g env h1 h2=>?_; clear z)
  rw [h1] at hx; cases hx
  exact (cN.mp h2).1
 | rit I lo n=>rw [q] at y; rw [y.2.2.1] at hx; cases hx
 | tit I xs k=>rw [q] at y; rw [y.2.2.1] at hx; cases hx
 | lit I l k=>rw [q] at y; rw [y.2.2.1] at hx; cases hx
 | prd R=>rw [q] at y; rw [y.2.1] at hx; cases hx
 | clk n=>rw [q] at y; rw [y.2.1] at hx; cases hx
 | slp a fi m rest k y n =>
  rw [q] at z
  (refine V5 z fun g env _ h1 h2 _=>?_; clear z)
  rw [h1] at hx; cases hx
  exact (cN.mp h2).1
theorem d7.at' (S:d7 w KF F ρ H h gs) {i:Nat} {o:O} (ho:H[i]?=some o):∃ e,ρ[i]?=some e /\ OR F ρ h e o:=by
 have hi:i < ρ.length:=by rw [S.len]; exact (ae.mp ho).1
 exact (c5 (ρ[i]) (aq hi) (S.ob i _ o (aq hi) ho))
theorem d7.upd (S:d7 w KF F ρ H h gs) {i:Nat} {e:b7} {o':O} (hi:ρ[i]?=some e) (hk:∀ b o,b ∉ e.fp -> h.get? b=some o -> h'.get? b=some o) (hl:∀ b∈e.fp,∃ o,h'.get? b=some o) (t:TK h h') (ho':OR F ρ h' e o') (hG:GR gs e o':=by trivial) (hy:∀ o,H[i]?=some o -> Z3 o=true -> Z3 o'=true):d7 w KF F ρ (H.set i o') h' gs:=by
 have kF:O0 F h':=fun b o q=>b9 (S.keep b o q) fun o' e' u=>(c5 o' (hk b o' (fun m=>by rw [S.off b (W8 hi m)] at q; cases q) e') u)
 refine ⟨S.bs,kF,by rw [bH]; exact S.len,fun j f o hj ho=>?_,fun b hb=>?_,S.nd,S.off,S.gn,S.bare.set hy,fun j f o hj ho=>?_,S.fo,S.tp⟩
 · by_cases q:i=j
   · subst q
     rw [hi] at hj
     cases hj
     rw [bT (by have:=(ae.mp ho).1; rw [bH] at this; exact this)] at ho
     cases ho
     exact ho'
   · rw [bZ q] at ho
     exact (S.ob j f o hj ho).mono (az _) t S.keep kF (fun b hb o2 h2=>hk b o2 (ay1 S.nd hj hi (cP q) hb) h2)
 · by_cases q:b∈e.fp
   · exact hl b q
   · (refine c0 (S.live b hb) fun o ho=>?_)
     exact ⟨o,hk b o q ho⟩
 · by_cases q:i=j
   · subst q
     rw [hi] at hj
     cases hj
     rw [bT (by have:=(ae.mp ho).1; rw [bH] at this; exact this)] at ho
     cases ho
     exact hG
   · rw [bZ q] at ho
     exact S.gf j f o hj ho
theorem d7.adoptG (S:d7 w KF F ρ H h gs) {a:Nat} {r:List Nat} {o:O} {gg:Option (Nat×Env)} (nd:(a::r).Nodup) (ha:∀ b∈a::r,b ∉ q0 ρ /\ F.f b=none /\ ∃ q,h.get? b=some q) (ho:OR F (ρ++[⟨a,a::r,gg⟩]) h ⟨a,a::r,gg⟩ o) (hg:∀ x,gg=some x -> ∀ f∈ρ,∀ y,f.g=some y -> y.1≠x.1) (hG:GR gs ⟨a,a::r,gg⟩ o):d7 w KF F (ρ++[⟨a,a::r,gg⟩]) (H++[o]) h gs:=by
 have hf:q0 (ρ++[⟨a,a::r,gg⟩])=q0 ρ++(a::r):=by simp [q0]
 refine ⟨S.bs,S.keep,by rw [aE,aE,S.len]; rfl,fun i e o' hi ho'=>?_,fun b hb=>?_,?_,fun b hb=>?_,?_,S.bare.app,fun i e o' hi ho'=>?_,S.fo,S.tp⟩
 · by_cases q:i < ρ.length
   · rw [bf q] at hi
     rw [bf (by rw [<- S.len]; exact q)] at ho'
     exact (S.ob i e o' hi ho').mono (aF _ _) (.refl _) S.keep S.keep (fun b _ q hq=>hq)
   · have hi':i=ρ.length:=by
      have:=(ae.mp hi).1
      rw [aE] at this
      simp at this
      omega
     subst hi'
     rw [af] at hi
     cases hi
     rw [S.len,af] at ho'
     cases ho'
     exact ho
 · rw [hf] at hb
   rcases bh.mp hb with m | m
   · exact S.live b m
   · exact (ha b m).2.2
 · rw [hf,gG]
   refine (e9 S.nd nd (fun x hx y hy q=>(ha y hy).1 (q▸hx)))
 · rw [hf] at hb
   rcases bh.mp hb with m | m
   · exact S.off b m
   · exact (ha b m).2.1
 · rw [List.filterMap_append,aQ]
   cases gg with
   | none=>simpa using S.gn
   | some x =>
    refine gG.mpr (e9 S.gn (by simp) (fun n hn k hk q=>?_))
    (refine b9 (aV.mp hn) fun y hy qz18=>?_; subst qz18)
    (refine b9 (List.mem_filterMap.mp hy) fun f hf1 hf2=>?_)
    have hk:k=x.1:=by simpa using hk
    exact hg x rfl f hf1 y hf2 (q.trans hk)
 · by_cases q:i < ρ.length
   · rw [bf q] at hi
     rw [bf (by rw [<- S.len]; exact q)] at ho'
     exact S.gf i e o' hi ho'
   · have hi':i=ρ.length:=by
      have:=(ae.mp hi).1
      rw [aE] at this
      simp at this
      omega
     subst hi'
     rw [af] at hi
     cases hi
     rw [S.len,af] at ho'
     cases ho'
     exact hG
theorem d7.adopt (S:d7 w KF F ρ H h gs) {a:Nat} {r:List Nat} {o:O} (nd:(a::r).Nodup) (ha:∀ b∈a::r,b ∉ q0 ρ /\ F.f b=none /\ ∃ q,h.get? b=some q) (ho:OR F (ρ++[⟨a,a::r,none⟩]) h ⟨a,a::r,none⟩ o) (hG:GR gs ⟨a,a::r,none⟩ o:=by trivial):d7 w KF F (ρ++[⟨a,a::r,none⟩]) (H++[o]) h gs :=
 S.adoptG nd ha ho (fun _ q=>nomatch q) hG
theorem d7.dead (S:d7 w KF F ρ H h gs) {b:Nat} (hb:h.get? b=none):b ∉ q0 ρ /\ F.f b=none:=by
 refine ⟨fun m=>?_,?_⟩
 · (refine c0 (S.live b m) fun o q=>?_); rw [hb] at q; cases q
 · cases q:F.f b with
   | none=>rfl
   | some o=>(refine b9 (S.keep _ _ q) fun o' e' _=>?_); rw [e'] at hb; cases hb
theorem d7.alloc (S:d7 w KF F ρ H h gs) {a:Nat} {o:O} (k:o8 h h') (ha:h.get? a=none) (hl:∃ q,h'.get? a=some q) (ho:OR F (ρ++[⟨a,[a],none⟩]) h' ⟨a,[a],none⟩ o) (hG:GR gs ⟨a,[a],none⟩ o:=by trivial):d7 w KF F (ρ++[⟨a,[a],none⟩]) (H++[o]) h' gs:=by
 have d:=S.dead ha
 exact (S.keeps k).adopt (r:=[]) (dP.mpr ⟨fun q=>(nomatch q),iN⟩) (fun b hb=>by rw [au.mp hb]; exact (e9 d.1 d.2 hl)) ho hG
end
end
section
noncomputable def w1 (F:d6) (h:Heap) (as:List Nat):d6:=⟨fun b=>if b∈as then h.get? b else F.f b,F.fr⟩
theorem ay2 {F:d6} {h:Heap} {as:List Nat} {b:Nat} (hb:b∈as):(w1 F h as).f b=h.get? b:=if_pos hb
theorem ae6 {F:d6} {h:Heap} {as:List Nat} {b:Nat} (hb:b ∉ as):(w1 F h as).f b=F.f b:=if_neg hb
noncomputable def n6 (env:Env) (F:d6):List Env:=if env.frame=some env.locals then env::F.fr else F.fr
noncomputable def t0 (F:d6) (h:Heap) (env:Env) (as:List Nat):d6:=⟨(w1 F h as).f,n6 env F⟩
theorem Z4 {F:d6} {h:Heap} {env:Env} {as:List Nat} {b:Nat} (hb:b∈as):(t0 F h env as).f b=h.get? b:=if_pos hb
theorem O3 {F:d6} {h:Heap} {env:Env} {as:List Nat} {b:Nat} (hb:b ∉ as):(t0 F h env as).f b=F.f b:=if_neg hb
theorem ay3 {F:d6} {h:Heap} {env:Env} {as:List Nat}:(∀ b∈F.lo,b∈(t0 F h env as).lo) /\ ∀ b∈(t0 F h env as).lo,b=env.locals \/ b∈F.lo:=by
 by_cases q:env.frame=some env.locals
 · have e:(t0 F h env as).lo=env.locals::F.lo:=by
    show (n6 env F).filterMap (·.frame)=_
    unfold n6
    rw [if_pos q,fL,q]; rfl
   rw [e]
   exact ⟨fun b hb=>.tail _ hb,fun b hb=>aJ.mp hb⟩
 · have e:(t0 F h env as).lo=F.lo:=by
    show (n6 env F).filterMap (·.frame)=_
    unfold n6
    rw [if_neg q]; rfl
   rw [e]
   exact ⟨fun b hb=>hb,fun b hb=>.inr hb⟩
theorem D1.less {F:d6} {h:Heap} {env:Env} {as:List Nat} {b:Nat} {o o':Obj} (u:D1 (t0 F h env as).lo b o o') (hb:b≠env.locals):D1 F.lo b o o':=by
 rcases u with e | ⟨m,r⟩
 · exact .inl e
 · exact .inr ⟨(ay3.2 b m).resolve_left hb,r⟩
structure d8 (w:World) (KF:Frag) (fi:FI) (env:Env) (m:b8) (F:d6) (ρ:List b7) (H:List O) (h:Heap) (gs:GT):Prop where
 hs:d7 w KF F ρ H h gs
 es:env.scope=fi.sc
 eg:env.globals=aT
 eb:env.builtins=ew
 ec:env.code=fi.co
 ek:fi.sc.kind=.function
 ef:env.frame=some env.locals \/ ∃ L∈F.lo,env.frame=some L
 lo:∀ b∈j8 fi env,F.f b=none /\ b ∉ q0 ρ
 ns:∃ mv,h.Ns env.locals mv /\ ∀ x,fi.sc.names.lookup x=some .local -> O2 ρ h (p0 m x) (mv x)
 cl:∀ x c,env.cells.lookup x=some c -> ∃ ov,h.IsCell c ov /\ O2 ρ h (p0 m x) ov
 ce:∀ x,(fi.sc.names.lookup x=some .cell \/ fi.sc.names.lookup x=some .free) -> ∃ c,env.cells.lookup x=some c
 cn:∀ x,fi.sc.names.lookup x=some .local -> env.cells.lookup x=none
 cu:∀ x c,(x,c)∈env.cells -> env.cells.lookup x=some c /\ c≠env.locals
 cd:env.cells.Pairwise fun x y=>x.2≠y.2
 cf:fi.own=false -> ∀ x c,(x,c)∈env.cells -> (F.f c).isSome=true
section
variable {w:World} {KF:Frag} {fi:FI} {env:Env} {m:b8} {F:d6} {ρ ρ':List b7} {H H':List O} {h h':Heap} {gs gs':GT}
theorem d8.kind (S:d8 w KF fi env m F ρ H h gs) (x:Str):env.kindOf x=fi.sc.names.lookup x:=by unfold cJ; rw [S.es]
theorem d8.kd (S:d8 w KF fi env m F ρ H h gs):env.scope.kind=.function:=by rw [S.es]; exact S.ek
theorem d8.b (S:d8 w KF fi env m F ρ H h gs):Bs w KF h:=S.hs.b
theorem d8.cell_own (S:d8 w KF fi env m F ρ H h gs) {x:Str} {c:Nat} (hc:(x,c)∈env.cells):c∈j8 fi env \/ (F.f c).isSome=true:=by
 cases q:fi.own with
 | true=>left; unfold j8; rw [if_pos q]; exact .tail _ (aV.mpr (c5 _ hc rfl))
 | false=>exact .inr (S.cf q x c hc)
theorem L8 {cs:List (Str×Nat)} {x:Str} {c:Nat} (h:cs.lookup x=some c):(x,c)∈cs:=mem_of_lookup h
theorem d8.locF (S:d8 w KF fi env m F ρ H h gs) {b:Nat} {o:Obj} (e:F.f b=some o):b ∉ j8 fi env:=fun q=>by rw [(S.lo b q).1] at e; cases e
theorem d8.gte {s s':Shared} (S:d8 w KF fi env m F ρ H h (gt s)) (hg:s'.gens=s.gens) (hn:s.toks <= s'.toks):d8 w KF fi env m F ρ H h (gt s'):={ S with hs:=S.hs.gte hg hn }
theorem d8.tk {n:Nat} (S:d8 w KF fi env m F ρ H h gs) (hn:gs.n <= n):d8 w KF fi env m F ρ H h ⟨gs.a,n⟩:={ S with hs:=S.hs.tk hn }
theorem d8.toH (S:d8 w KF fi env m F ρ H h gs):d7 w KF (t0 F h env (j8 fi env)) ρ H h gs:=by
 have hF:∀ b o,F.f b=some o -> (t0 F h env (j8 fi env)).f b=some o:=fun b o e=>by rw [O3 (S.locF e)]; exact e
 refine ⟨fun h' k=>S.hs.bs h' (fun b o e=>?_),fun b o e=>?_,S.hs.len,fun i e o hi ho=>(S.hs.ob i e o hi ho).base hF,S.hs.live,S.hs.nd,fun b hb=>?_,S.hs.gn,S.hs.bare,S.hs.gf,fun e he=>?_,S.hs.tp⟩
 · (refine b9 (k b o (hF b o e)) fun o' e' u=>?_)
   exact (c5 o' e' (u.less fun q=>S.locF e (q▸Q5 fi env)))
 · by_cases q:b∈j8 fi env
   · rw [Z4 q] at e; exact (c5 o e .refl)
   · rw [O3 q] at e
     (refine b9 (S.hs.keep b o e) fun o' e' u=>?_)
     exact (c5 o' e' (u.mono ay3.1))
 · rw [O3 (fun q=>(S.lo b q).2 hb)]; exact S.hs.off b hb
 · have old:e∈F.fr -> e.scope.kind≠.module /\ ∃ L o,e.frame=some L /\ (t0 F h env (j8 fi env)).f L=some o /\ ∃ es ep,o.data=.dict es ep:=fun he=>by
    (refine ad6 (S.hs.fo e he) fun h1 L o h2 h3 h4=>?_)
    exact (aM1 h1 L o h2 (hF L o h3) h4)
   have he:e∈n6 env F:=he
   unfold n6 at he
   split at he
   · rename_i q
     rcases aJ.mp he with rfl | he
     · (refine b9 (S.ns) fun mv qz1 _=>?_; obtain ⟨o,es,ep,ho,hd,_⟩:=qz1)
       refine (bw3 (by rw [S.es,S.ek]; exact fun z=>nomatch z) _ o q (by rw [Z4 (Q5 fi e)]; exact ho) es ep hd)
     · exact old he
   · exact old he
theorem d8.ofH (S:d8 w KF fi env m F ρ H h gs) (p:ρ<+:ρ') (t:TK h h') (T:d7 w KF (t0 F h env (j8 fi env)) ρ' H' h' gs'):d8 w KF fi env m F ρ' H' h' gs':=by
 have hF:∀ b o,F.f b=some o -> (t0 F h env (j8 fi env)).f b=some o:=fun b o e=>by rw [O3 (S.locF e)]; exact e
 have hoF:∀ b∈q0 ρ',F.f b=none:=fun b hb=>by
  cases q:F.f b with
  | none=>rfl
  | some o=>have:=T.off b hb; rw [hF b o q] at this; cases this
 have kp:∀ b∈j8 fi env,∀ o,h.get? b=some o -> ∃ o',h'.get? b=some o' /\ D1 (t0 F h env (j8 fi env)).lo b o o':=fun b hb o e=>T.keep b o (by rw [Z4 hb]; exact e)
 have kF:O0 F h':=fun b o e=>b9 (T.keep b o (hF b o e)) fun o' e' u=>(c5 o' e' (u.less fun q=>S.locF e (q▸Q5 fi env)))
 have live:∀ b∈j8 fi env,∃ o,h.get? b=some o:=fun b hb=>by
  unfold j8 at hb
  split at hb
  · rcases aJ.mp hb with rfl | hb
    · (refine b9 (S.ns) fun mv qz2 _=>?_; obtain ⟨o,_,_,ho,_⟩:=qz2); exact ⟨o,ho⟩
    · (refine b9 (aV.mp hb) fun qz3 hm qz4=>?_; obtain ⟨x,c⟩:=qz3; subst qz4)
      (refine b9 (S.cl x c (S.cu x c hm).1) fun ov qz5 _=>?_; obtain ⟨o,ho,_⟩:=qz5)
      exact ⟨o,ho⟩
  · rw [au.mp hb]
    (refine b9 (S.ns) fun mv qz6 _=>?_; obtain ⟨o,_,_,ho,_⟩:=qz6); exact ⟨o,ho⟩
 have lo:∀ b∈j8 fi env,F.f b=none /\ b ∉ q0 ρ':=fun b hb=>⟨(S.lo b hb).1,fun q=>by
  have:=T.off b q
  rw [Z4 hb] at this
  (refine c0 (live b hb) fun o ho=>?_)
  rw [this] at ho; cases ho⟩
 refine ⟨⟨S.hs.bs,kF,T.len,fun i e o hi ho=>?_,T.live,T.nd,hoF,T.gn,T.bare,T.gf,S.hs.fo,T.tp⟩,S.es,S.eg,S.eb,S.ec,S.ek,S.ef,lo,?_,fun x c hc=>?_,S.ce,S.cn,S.cu,S.cd,S.cf⟩
 · have y:=T.ob i e o hi ho
   cases o with
   | arr xs =>
    (refine n9 y fun a b l f=>?_; clear y)
    refine (m5 a b l ?_)
    by_cases q:e.a∈j8 fi env
    · exfalso
      (refine b9 l fun vs qz7 _=>?_; clear l; obtain ⟨ob,hob,hcl,n,hd⟩:=qz7)
      unfold j8 at q
      have q':e.a=env.locals \/ ∃ x,(x,e.a)∈env.cells:=by
       split at q
       · rcases aJ.mp q with q | q
         · exact .inl q
         · (refine b9 (aV.mp q) fun qz8 hm hx=>?_; obtain ⟨x,c⟩:=qz8)
           exact .inr ⟨x,hx▸hm⟩
       · exact .inl (au.mp q)
      rcases q' with q' | ⟨x,q'⟩
      · (refine b9 (S.ns) fun mv qz9 _=>?_; obtain ⟨o2,es,ep,ho2,hd2,_⟩:=qz9)
        rw [<- q'] at ho2
        (refine b9 (kp e.a q o2 ho2) fun o3 h3 u=>?_)
        rw [hob] at h3; cases h3
        have z:=u.same.2.1
        rw [hd,hd2] at z; cases z
      · (refine b9 (S.cl x e.a (S.cu x e.a q').1) fun ov qz10 _=>?_; obtain ⟨o2,ho2,hd2⟩:=qz10)
        (refine b9 (kp e.a q o2 ho2) fun o3 h3 u=>?_)
        rw [hob] at h3; cases h3
        have z:=u.same.2.1
        rw [hd,hd2] at z; cases z
    · rw [O3 q] at f; exact f
   | _=>exact y
 · (refine b9 (S.ns) fun mv qz11 hv=>?_; obtain ⟨o,es,ep,ho,hd,r⟩:=qz11)
   (refine b9 (kp _ (Q5 fi env) o ho) fun o' h1 u=>?_)
   exact (c5 mv (T5 o' es ep h1 (u.same.2.1.trans hd) r) (fun x hx=>(hv x hx).mono p t))
 · (refine b9 (S.cl x c hc) fun ov qz12 hv=>?_; obtain ⟨o,ho,hd⟩:=qz12)
   rcases S.cell_own (L8 hc) with q | q
   · (refine b9 (kp c q o ho) fun o' h1 u=>?_)
     exact (c5 ov (c5 o' h1 (u.same.2.1.trans hd)) (hv.mono p t))
   · (refine c0 (dN.mp q) fun o2 h2=>?_)
     (refine b9 (S.hs.keep _ _ h2) fun o3 h3 u3=>?_)
     rw [h3] at ho
     cases ho
     (refine b9 (kF _ _ h2) fun o4 h4 u4=>?_)
     exact (c5 ov (c5 o4 h4 (u4.same.2.1.trans (u3.same.2.1.symm.trans hd))) (hv.mono p t))
theorem d8.keeps (S:d8 w KF fi env m F ρ H h gs) (k:o8 h h'):d8 w KF fi env m F ρ H h' gs:=S.ofH (az _) (.of_keep k) (S.toH.keeps k)
theorem d8.get (S:d8 w KF fi env m F ρ H h gs) {x:Str} {v:V} (hv:p0 m x=some v) (hl:fi.sc.names.lookup x=some .local):∃ mv u,h.Ns env.locals mv /\ mv x=some u /\ VR ρ h v u:=by
 (refine b9 (S.ns) fun mv hn hm=>?_)
 have:=hm x hl
 rw [hv] at this
 (refine b9 (this.some_of) fun u e r=>?_)
 exact (A3 mv u hn e r)
theorem ak8 {a:Nat} {mv:Str -> Option Value} (hn:h.Ns a mv):∀ o,h.get? a=some o -> ¬ O1 o:=fun o ho=>by
 (refine V5 hn fun o2 es ep h2 hd _=>?_; clear hn)
 rw [h2] at ho; cases ho
 rintro (⟨⟨xs,n,q⟩,_⟩ | ⟨_,vs,q⟩)<;>(rw [hd] at q; cases q)
theorem aT2 {a:Nat} {ov:Option Value} (hn:h.IsCell a ov):∀ o,h.get? a=some o -> ¬ O1 o:=fun o ho=>by
 (refine b9 hn fun o2 h2 hd=>?_; clear hn)
 rw [h2] at ho; cases ho
 rintro (⟨⟨xs,n,q⟩,_⟩ | ⟨_,vs,q⟩)<;>(rw [hd] at q; cases q)
theorem ak9 {a:Nat} {xs:Array Value} (hn:h.IsList a xs):∀ o,h.get? a=some o -> ¬ O1 o:=fun o ho=>by
 (refine J5 hn fun o2 h2 hc n hd=>?_; clear hn)
 rw [h2] at ho; cases ho
 rintro (⟨_,q⟩ | ⟨q,_⟩)
 · exact q hc
 · rw [hc] at q; exact absurd q (by decide)
theorem d8.own_upd (S:d8 w KF fi env m F ρ H h gs) {a:Nat} (ha:a∈j8 fi env) (hs:∀ b o,b≠a -> h.get? b=some o -> h'.get? b=some o) (hi:∀ o,h.get? a=some o -> ¬ O1 o):d7 w KF F ρ H h' gs /\ TK h h':=by
 (refine d0 (S.lo a ha) fun f1 f2=>?_)
 have t:TK h h':=.of_ext hs hi
 have kF:O0 F h':=fun b o e=>b9 (S.hs.keep b o e) fun o' e' u=>(c5 o' (hs b o' (fun q=>by rw [q,f1] at e; cases e) e') u)
 have ne:∀ b∈q0 ρ,b≠a:=fun b hb q=>f2 (q▸hb)
 exact ⟨⟨S.hs.bs,kF,S.hs.len,fun i e o hi ho=>(S.hs.ob i e o hi ho).mono (az _) t S.hs.keep kF (fun b hb q hq=>hs b q (ne b (W8 hi hb)) hq),fun b hb=>c0 (S.hs.live b hb) fun o ho=>⟨o,hs b o (ne b hb) ho⟩,S.hs.nd,S.hs.off,S.hs.gn,S.hs.bare,S.hs.gf,S.hs.fo,S.hs.tp⟩,t⟩
theorem d8.setLoc (S:d8 w KF fi env m F ρ H h gs) {x:Str} {v:V} {u:Value} (r:VR ρ h v u) {mv:Str -> Option Value} (hn0:h.Ns env.locals mv)
 (hm:∀ x,fi.sc.names.lookup x=some .local -> O2 ρ h (p0 m x) (mv x)) (hn:h'.Ns env.locals (fun y=>if y=x then some u else mv y)) (hs:gP env.locals h h') (hl:fi.sc.names.lookup x=some .local):d8 w KF fi env (w6 m x v) F ρ H h' gs:=by
 (refine d0 (S.own_upd (Q5 fi env) (fun b o hb e=>hs.extBut b o hb e) (ak8 hn0)) fun hs' t=>?_)
 refine ⟨hs',S.es,S.eg,S.eb,S.ec,S.ek,S.ef,S.lo,(c5 _ hn (fun y hy=>?_)),fun y c hc=>?_,S.ce,S.cn,S.cu,S.cd,S.cf⟩
 · rw [ak5]
   by_cases q:y=x
   · rw [if_pos q,if_pos q]; exact r.mono (az _) t
   · rw [if_neg q,if_neg q]; exact (hm y hy).mono (az _) t
 · (refine b9 (S.cl y c hc) fun ov qz13 hv=>?_; obtain ⟨o,ho,hd⟩:=qz13)
   refine (c5 ov (c5 o (hs.extBut c o (S.cu y c (L8 hc)).2 ho) hd) ?_)
   rw [ak5,if_neg (fun q=>by rw [q,S.cn x hl] at hc; cases hc)]
   exact hv.mono (az _) t
theorem aT3 {cs:List (Str×Nat)} (hd:cs.Pairwise fun x y=>x.2≠y.2) {x y:Str} {c:Nat} (hx:(x,c)∈cs) (hy:(y,c)∈cs):x=y:=name_of_addr hd hx hy
theorem d8.setCell (S:d8 w KF fi env m F ρ H h gs) {x:Str} {c:Nat} {v:V} {u:Value} (r:VR ρ h v u) (ho:fi.own=true) (hc:env.cells.lookup x=some c) {ov:Option Value} (hv0:h.IsCell c ov)
 (hv:h'.IsCell c (some u)) (hs:gP c h h') (hx:fi.sc.names.lookup x≠some .local):d8 w KF fi env (w6 m x v) F ρ H h' gs:=by
 have hco:c∈j8 fi env:=by unfold j8; rw [if_pos ho]; exact .tail _ (aV.mpr (c5 _ (L8 hc) rfl))
 (refine d0 (S.own_upd hco (fun b o hb e=>hs.extBut b o hb e) (aT2 hv0)) fun hs' t=>?_)
 refine ⟨hs',S.es,S.eg,S.eb,S.ec,S.ek,S.ef,S.lo,?_,fun y d hd=>?_,S.ce,S.cn,S.cu,S.cd,S.cf⟩
 · (refine b9 (S.ns) fun mv hn hm=>?_)
   refine (c5 mv (hn.sameBut hs (cP (S.cu x c (L8 hc)).2)) (fun y hy=>?_))
   rw [ak5,if_neg (fun q=>hx (by rw [<- q]; exact hy))]
   exact (hm y hy).mono (az _) t
 · rw [ak5]
   by_cases q:y=x
   · subst q
     rw [hc] at hd; cases hd
     rw [if_pos rfl]
     exact (c5 _ hv (r.mono (az _) t))
   · rw [if_neg q]
     (refine b9 (S.cl y d hd) fun ov hy hr=>?_)
     exact (c5 ov (hy.sameBut hs (fun e=>q (aT3 S.cd (L8 hd) (e▸L8 hc)))) (hr.mono (az _) t))
end
structure Q6 where
 cls:String
 args:List V
noncomputable def ExcAt (_:d6) (_:List b7) (_:Heap) (_:Value) (_:Q6):Prop:=False
noncomputable def O4 (n:Nat) (ρ ρ':List b7):Prop:=∀ (i:Nat) e,ρ.length <= i -> ρ'[i]?=some e -> e.fp≠[] /\ ∀ x,e.g=some x -> n <= x.1
theorem O4.refl {n:Nat} {ρ:List b7}:O4 n ρ ρ:=fun i e hi h=>absurd (ae.mp h).1 (bN.mpr hi)
theorem O4.trans {n k:Nat} {ρ ρ1 ρ2:List b7} (a:O4 n ρ ρ1) (b:O4 k ρ1 ρ2) (p:ρ1<+:ρ2) (hk:n <= k):O4 n ρ ρ2:=fun i e hi h=>by
 by_cases q:i < ρ1.length
 · exact a i e hi (by (refine c0 p fun t qz14=>?_; clear p; subst qz14); rwa [bf q] at h)
 · exact ⟨(b i e (bN.mp q) h).1,fun x hx=>ag hk ((b i e (bN.mp q) h).2 x hx)⟩
theorem O4.add {n:Nat} {ρ:List b7} {a:Nat} {g:Option (Nat×Env)} {r:List Nat} (hg:∀ x,g=some x -> n <= x.1):O4 n ρ (ρ++[⟨a,a::r,g⟩]):=fun i e hi h=>by
 rw [List.getElem?_append_right hi] at h
 have:e∈[(⟨a,a::r,g⟩:b7)]:=ba h
 rw [au.mp this]
 exact ⟨ee _ _,hg⟩
noncomputable def f0 (ρ:List b7) (s:Shared) (ρ':List b7) (s':Shared):Prop:=ρ<+:ρ' /\ TK s.heap s'.heap /\ (s'.os=s.os /\ s.gens.size <= s'.gens.size) /\ O4 s.gens.size ρ ρ'
theorem f0.refl {ρ:List b7} {s:Shared}:f0 ρ s ρ s:=(m5 (az _) (.refl _) ⟨rfl,ao _⟩ .refl)
theorem f0.same {ρ:List b7} {s s':Shared} (t:TK s.heap s'.heap) (o:s'.os=s.os) (g:s.gens.size <= s'.gens.size:=by first | exact ao _ | assumption):f0 ρ s ρ s':=(m5 (az _) t ⟨o,g⟩ .refl)
theorem f0.addG {ρ:List b7} {s s':Shared} {a:Nat} {g:Option (Nat×Env)} {r:List Nat} (t:TK s.heap s'.heap) (o:s'.os=s.os) (hg:∀ x,g=some x -> s.gens.size <= x.1) (gg:s.gens.size <= s'.gens.size:=by first | exact ao _ | assumption):f0 ρ s (ρ++[⟨a,a::r,g⟩]) s':=(m5 (aF _ _) t ⟨o,gg⟩ (.add hg))
theorem f0.add {ρ:List b7} {s s':Shared} {a:Nat} {r:List Nat} (t:TK s.heap s'.heap) (o:s'.os=s.os) (gg:s.gens.size <= s'.gens.size:=by first | exact ao _ | assumption):f0 ρ s (ρ++[⟨a,a::r,none⟩]) s':=.addG t o (fun _ q=>nomatch q) gg
theorem f0.trans {ρ ρ1 ρ2:List b7} {s s₁ s2:Shared} (a:f0 ρ s ρ1 s₁) (b:f0 ρ1 s₁ ρ2 s2):f0 ρ s ρ2 s2:=(m5 (a.1.trans b.1) (a.2.1.trans b.2.1) ⟨b.2.2.1.1.trans a.2.2.1.1,ag a.2.2.1.2 b.2.2.1.2⟩ (a.2.2.2.trans b.2.2.2 b.1 a.2.2.1.2))
structure k9 (A:Around) (d:Nat) (l:List Env):Prop where
 fr:A.frames=some l
 hd:A.handled=none
 dp:A.depth+4*d < fm
 un:A.units+40*d+200 < cLine
section
variable (w:World) (KF:Frag)
inductive HQ {α β:Type} (R:List b7 -> Heap -> β -> α -> Prop) (F:d6) (ρ:List b7) (s:Shared) (Q:β -> List O -> Prop) (v:α) (s':Shared):Prop
 | mk (ρ':List b7) (H':List O) (b:β) (st:f0 ρ s ρ' s') (S:d7 w KF F ρ' H' s'.heap (gt s')) (r:R ρ' s'.heap b v) (q:Q b H'):HQ R F ρ s Q v s'
inductive HE (F:d6) (ρ:List b7) (s:Shared) (E:Q6 -> List O -> Prop) (e:Value) (s':Shared):Prop
 | mk (ρ':List b7) (H':List O) (x:Q6) (st:f0 ρ s ρ' s') (S:d7 w KF F ρ' H' s'.heap (gt s')) (r:ExcAt F ρ' s'.heap e x) (q:E x H'):HE F ρ s E e s'
inductive SQ {α β:Type} (R:List b7 -> Heap -> β -> α -> Prop) (fi:FI) (env:Env) (m:b8) (F:d6) (ρ:List b7) (s:Shared) (Q:β -> List O -> Prop) (v:α) (s':Shared):Prop
 | mk (ρ':List b7) (H':List O) (b:β) (st:f0 ρ s ρ' s') (S:d8 w KF fi env m F ρ' H' s'.heap (gt s')) (r:R ρ' s'.heap b v) (q:Q b H'):SQ R fi env m F ρ s Q v s'
inductive SE (fi:FI) (env:Env) (F:d6) (ρ:List b7) (s:Shared) (E:Q6 -> b8 -> List O -> Prop) (e:Value) (s':Shared):Prop
 | mk (ρ':List b7) (H':List O) (x:Q6) (m:b8) (st:f0 ρ s ρ' s') (S:d8 w KF fi env m F ρ' H' s'.heap (gt s')) (r:ExcAt (w1 F s'.heap (j8 fi env)) ρ' s'.heap e x) (q:E x m H'):SE fi env F ρ s E e s'
end
end
section
set_option tactic.hygienic false
inductive Fl where
 | next | brk | cont
 | ret (v:V)
noncomputable def FlR (ρ:List b7) (h:Heap):Fl -> Flow -> Prop
 | .next,f=>f=.next
 | .brk,f=>f=.brk
 | .cont,f=>f=.cont
 | .ret v,f=>∃ u,f=.ret u /\ VR ρ h v u
noncomputable def L9 {α:Type} (_:List b7) (_:Heap) (b v:α):Prop:=v=b
noncomputable abbrev EP:=Q6 -> b8 -> List O -> Prop
noncomputable abbrev i7:=Q6 -> List O -> Prop
section
variable (prog:Program) (w:World) (KF:Frag) (fi:FI) (d:Nat) (E:EP)
noncomputable def WE (m:b8) (H:List O) (e:Expr) (Q:V -> List O -> Prop):Prop :=
 ∀ A env F ρ s,k9 A d (n6 env F) -> d8 w KF fi env m F ρ H s.heap (gt s) -> ax (aA prog w) A (eval e env) (SQ w KF VR fi env m F ρ s Q) (SE w KF fi env F ρ s E) s
noncomputable def WT (m:b8) (H:List O) (e:Expr) (Q:Bool -> List O -> Prop):Prop :=
 ∀ A env F ρ s,k9 A d (n6 env F) -> d8 w KF fi env m F ρ H s.heap (gt s) -> ax (aA prog w) A (isTrue e env (eval e env)) (SQ w KF L9 fi env m F ρ s Q) (SE w KF fi env F ρ s E) s
noncomputable def w7 (m:b8) (H:List O):List Expr -> (List V -> List O -> Prop) -> Prop
 | [],Q=>Q [] H
 | e::es,Q=>WE prog w KF fi d E m H e fun v H1=>w7 m H1 es fun vs H2=>Q (v::vs) H2
inductive D2 (env:Env) (F:d6) (ρ:List b7) (s:Shared) (Q:Fl -> b8 -> List O -> Prop) (f:Flow) (s':Shared):Prop
 | mk (ρ':List b7) (H':List O) (m':b8) (fl:Fl) (st:f0 ρ s ρ' s') (S:d8 w KF fi env m' F ρ' H' s'.heap (gt s')) (r:FlR ρ' s'.heap fl f) (q:Q fl m' H'):D2 env F ρ s Q f s'
inductive AQ (env:Env) (F:d6) (ρ:List b7) (s:Shared) (Q:b8 -> List O -> Prop) (s':Shared):Prop
 | mk (ρ':List b7) (H':List O) (m':b8) (st:f0 ρ s ρ' s') (S:d8 w KF fi env m' F ρ' H' s'.heap (gt s')) (q:Q m' H'):AQ env F ρ s Q s'
noncomputable def WS (m:b8) (H:List O) (st:Stmt) (Q:Fl -> b8 -> List O -> Prop):Prop :=
 ∀ A env F ρ s,k9 A d (n6 env F) -> d8 w KF fi env m F ρ H s.heap (gt s) -> ax (aA prog w) A (exec st env) (D2 w KF fi env F ρ s Q) (SE w KF fi env F ρ s E) s
noncomputable def WB (m:b8) (H:List O) (st:List Stmt) (Q:Fl -> b8 -> List O -> Prop):Prop :=
 ∀ A env F ρ s,k9 A d (n6 env F) -> d8 w KF fi env m F ρ H s.heap (gt s) -> ax (aA prog w) A (execs st env) (D2 w KF fi env F ρ s Q) (SE w KF fi env F ρ s E) s
noncomputable def WA (m:b8) (H:List O) (t:Expr) (v:V) (Q:b8 -> List O -> Prop):Prop :=
 ∀ A env F ρ s u,k9 A d (n6 env F) -> d8 w KF fi env m F ρ H s.heap (gt s) -> VR ρ s.heap v u -> ax (aA prog w) A (dk t env u) (fun _ s'=>AQ w KF fi env F ρ s Q s') (SE w KF fi env F ρ s E) s
end
section
variable (prog:Program) (w:World) (KF:Frag) (d:Nat) (E:i7)
noncomputable def W1 {α β:Type} (R:List b7 -> Heap -> β -> α -> Prop) (H:List O) (t:Value -> Sem α) (x:V) (Q:β -> List O -> Prop):Prop :=
 ∀ A F ρ s u,k9 A d F.fr -> d7 w KF F ρ H s.heap (gt s) -> VR ρ s.heap x u -> ax (aA prog w) A (t u) (HQ w KF R F ρ s Q) (HE w KF F ρ s E) s
noncomputable def W2 {α β:Type} (R:List b7 -> Heap -> β -> α -> Prop) (H:List O) (t:Value -> Value -> Sem α) (x y:V) (Q:β -> List O -> Prop):Prop :=
 ∀ A F ρ s u v,k9 A d F.fr -> d7 w KF F ρ H s.heap (gt s) -> VR ρ s.heap x u -> VR ρ s.heap y v -> ax (aA prog w) A (t u v) (HQ w KF R F ρ s Q) (HE w KF F ρ s E) s
noncomputable def W3 {α β:Type} (R:List b7 -> Heap -> β -> α -> Prop) (H:List O) (t:Value -> Value -> Value -> Sem α) (x y z:V) (Q:β -> List O -> Prop):Prop :=
 ∀ A F ρ s u v r,k9 A d F.fr -> d7 w KF F ρ H s.heap (gt s) -> VR ρ s.heap x u -> VR ρ s.heap y v -> VR ρ s.heap z r -> ax (aA prog w) A (t u v r) (HQ w KF R F ρ s Q) (HE w KF F ρ s E) s
noncomputable def i5 (H:List O) (f:V) (xs:List V) (Q:V -> List O -> Prop):Prop :=
 ∀ A F ρ s u us,k9 A d F.fr -> d7 w KF F ρ H s.heap (gt s) -> VR ρ s.heap f u -> c8 ρ s.heap xs us -> ax (aA prog w) A (call u us) (HQ w KF VR F ρ s Q) (HE w KF F ρ s E) s
end
theorem SE.step {w:World} {KF:Frag} {fi:FI} {env:Env} {F:d6} {ρ ρ1:List b7} {s s₁:Shared} {E:EP} {e:Value} {s':Shared} (st:f0 ρ s ρ1 s₁) (x:SE w KF fi env F ρ1 s₁ E e s'):SE w KF fi env F ρ s E e s':=let ⟨a,b,c,m,p,q,r,z⟩:=x; ⟨a,b,c,m,st.trans p,q,r,z⟩
theorem SQ.step {w:World} {KF:Frag} {α β:Type} {R:List b7 -> Heap -> β -> α -> Prop} {fi:FI} {env:Env} {m:b8} {F:d6} {ρ ρ1:List b7} {s s₁:Shared} {Q:β -> List O -> Prop} {v:α} {s':Shared} (st:f0 ρ s ρ1 s₁) (x:SQ w KF R fi env m F ρ1 s₁ Q v s'):SQ w KF R fi env m F ρ s Q v s':=let ⟨a,b,c,p,q,r,z⟩:=x; ⟨a,b,c,st.trans p,q,r,z⟩
theorem D2.step {w:World} {KF:Frag} {fi:FI} {env:Env} {F:d6} {ρ ρ1:List b7} {s s₁:Shared} {Q:Fl -> b8 -> List O -> Prop} {v:Flow} {s':Shared} (st:f0 ρ s ρ1 s₁) (x:D2 w KF fi env F ρ1 s₁ Q v s'):D2 w KF fi env F ρ s Q v s':=let ⟨a,b,c,e,p,q,r,z⟩:=x; ⟨a,b,c,e,st.trans p,q,r,z⟩
section
variable {prog:Program} {w:World} {KF:Frag} {fi:FI} {d:Nat} {E:EP} {m:b8} {H:List O}
theorem lift {α β:Type} {R:List b7 -> Heap -> β -> α -> Prop} {A:Around} {env:Env} {F:d6} {ρ:List b7} {s:Shared} {t:Sem α} {Q:β -> List O -> Prop} (S:d8 w KF fi env m F ρ H s.heap (gt s))
 (h:∀ F':d6,F'.fr=n6 env F -> d7 w KF F' ρ H s.heap (gt s) -> ax (aA prog w) A t (HQ w KF R F' ρ s Q) (HE w KF F' ρ s fun x H'=>E x m H') s):ax (aA prog w) A t (SQ w KF R fi env m F ρ s Q) (SE w KF fi env F ρ s E) s:=by
 refine ar (h _ rfl S.toH) (fun v s' ⟨ρ',H',b,st,T,rv,hq⟩=>⟨ρ',H',b,st,S.ofH st.1 st.2.1 T,rv,hq⟩) (fun e s' ⟨ρ',H',x,st,T,rv,hq⟩=>?_)
 exact rv.elim
theorem m6 {α:Type} {A:Around} {t:Sem α} {K K':α -> Shared -> Prop} {env:Env} {F:d6} {ρ ρ1:List b7} {s s₁ s2:Shared} (st:f0 ρ s ρ1 s₁) (h:ax (aA prog w) A t K (SE w KF fi env F ρ1 s₁ E) s2) (hk:∀ v s',K v s' -> K' v s'):ax (aA prog w) A t K' (SE w KF fi env F ρ s E) s2 :=
 ar h hk fun _ _ x=>x.step st
theorem WE.mono {e:Expr} {Q Q':V -> List O -> Prop} (h:WE prog w KF fi d E m H e Q) (hq:∀ v H,Q v H -> Q' v H):WE prog w KF fi d E m H e Q' :=
 fun A env F ρ s hA S=>ar (h A env F ρ s hA S) (fun v s' ⟨ρ',H',b,st,T,rv,q⟩=>⟨ρ',H',b,st,T,rv,hq _ _ q⟩) fun _ _ x=>x
theorem j9 {i:Int} {k:Nat} {pos:Pos} {Q:V -> List O -> Prop} (h:Q (.int i) H):WE prog w KF fi d E m H (.Constant (.int i) k pos) Q :=
 fun A env F ρ s hA S=>wpAny_Constant_int ⟨ρ,H,_,.refl,S.tk (aY _),by unfold VR; exact ⟨_,rfl⟩,h⟩
theorem j7 {i:Str} {k:Nat} {pos:Pos} {Q:V -> List O -> Prop} (h:Q (.str i) H):WE prog w KF fi d E m H (.Constant (.str i) k pos) Q :=
 fun A env F ρ s hA S=>bV ⟨ρ,H,_,.refl,S.tk (aY _),by unfold VR; exact ⟨_,rfl⟩,h⟩
theorem O5 {k:Nat} {pos:Pos} {Q:V -> List O -> Prop} (h:Q .none H):WE prog w KF fi d E m H (.Constant .none k pos) Q :=
 fun A env F ρ s hA S=>wpAny_Constant_none ⟨ρ,H,_,.refl,S,by unfold VR; rfl,h⟩
theorem bX4 {b:Bool} {k:Nat} {pos:Pos} {Q:V -> List O -> Prop} (h:Q (.bool b) H):WE prog w KF fi d E m H (.Constant (.bool b) k pos) Q :=
 fun A env F ρ s hA S=>wpAny_Constant_bool ⟨ρ,H,_,.refl,S,by unfold VR; rfl,h⟩
theorem b6 {x:Str} {v:V} {pos:Pos} {Q:V -> List O -> Prop} (hl:fi.sc.names.lookup x=some .local) (hv:p0 m x=some v) (h:Q v H) (hd:(x==("__debug__":Str))=false:=by decide):WE prog w KF fi d E m H (.Name x pos) Q :=
 fun A env F ρ s hA S=>by
  (refine e8 (S.get hv hl) fun mv u hn e r=>?_)
  exact iD (dQ S.kd ((S.kind x).trans hl) hn e ⟨ρ,H,_,.refl,S,r,h⟩) hd
theorem al0 {x:Str} {v:V} {pos:Pos} {Q:V -> List O -> Prop} (hl:fi.sc.names.lookup x=some .cell) (hv:p0 m x=some v) (h:Q v H) (hd:(x==("__debug__":Str))=false:=by decide):WE prog w KF fi d E m H (.Name x pos) Q :=
 fun A env F ρ s hA S=>by
  (refine c0 (S.ce x (.inl hl)) fun c hc=>?_)
  (refine b9 (S.cl x c hc) fun ov hi r=>?_)
  rw [hv] at r
  (refine b9 (r.some_of) fun u qz1 r=>?_; subst qz1)
  exact iD (wpAny_loadName_cell S.kd ((S.kind x).trans hl) hc hi ⟨ρ,H,_,.refl,S,r,h⟩) hd
theorem bX5 {K:Frag} {N:Nat} {n:Str} {x:Option Value} (e:nsIn K N n=some x):∃ o es k,K.lookup N=some o /\ o.data=.dict es k /\ (es.toList.find? (·.key.isStr n)).map (·.val)=x:=by
 unfold nsIn at e
 cases q:K.lookup N with
 | none=>rw [q] at e; cases e
 | some o =>
  rw [q] at e
  obtain ⟨c,d,data,l⟩:=o
  cases data with
  | dict es k =>
   refine ⟨_,es,k,rfl,rfl,?_⟩
   cases f:es.toList.find? (·.key.isStr n) with
   | some y=>dsimp only at e; rw [f] at e; cases e; rfl
   | none =>
    dsimp only at e; rw [f] at e
    by_cases z:es.toList.any (·.refKey)=true
    · dsimp only at e; rw [if_pos z] at e; cases e
    · dsimp only at e; rw [if_neg z] at e; cases e; rfl
  | _=>cases e
theorem aT5 {K:Frag} {h:Heap} {N:Nat} {mg:Str -> Option Value} {n:Str} {v:Option Value} (X:K.In h) (G:h.Ns N mg) (e:nsIn K N n=some v):mg n=v:=by
 (refine ad7 G fun o es ep ho hd _ hf=>?_; clear G)
 (refine V5 (bX5 e) fun o' es' k q hd' f=>?_)
 have:=X _ _ q
 rw [ho] at this
 cases this
 rw [hd] at hd'
 cases hd'
 rw [<- hf,<- f]
 unfold nsFind findBy
 rw [<- Array.find?_toList]
theorem al1 {K:Frag} {h:Heap} {mg:Str -> Option Value} {n:Str} (X:K.In h) (G:h.Ns aT mg) (e:nsIn K aT n=some none):mg n=none:=by
 exact aT5 X G e
theorem I0 {x:Str} {a:Nat} {pos:Pos} {Q:V -> List O -> Prop} (hl:fi.sc.names.lookup x=some .globalImplicit) (e:nsIn KF aT x=some (some (.ref a))) (h:Q (.st a) H) (hd:(x==("__debug__":Str))=false:=by decide):WE prog w KF fi d E m H (.Name x pos) Q :=
 fun A env F ρ s hA S=>by
  (refine c0 (S.b.g) fun mg hg=>?_)
  exact dA S.kd ((S.kind x).trans hl) (Calls.loadGlobal_global (S.eg▸hg) (mg_of S.b.k hg e) ⟨ρ,H,_,.refl,S,by unfold VR; rfl,h⟩) hd
theorem A5 {x:Str} {id:String} {pos:Pos} {Q:V -> List O -> Prop} (hl:fi.sc.names.lookup x=some .globalImplicit) (e:nsIn KF aT x=some none) (hb:bU x=some (.builtin id)) (h:Q (.bi id) H) (hd:(x==("__debug__":Str))=false:=by decide) (hn:x≠"__name__":=by decide):WE prog w KF fi d E m H (.Name x pos) Q :=
 fun A env F ρ s hA S=>by
  (refine c0 (S.b.g) fun mg hg=>?_)
  (refine b9 (S.b.bi) fun mb hm hb'=>?_)
  exact dA S.kd ((S.kind x).trans hl) (fA (S.eg▸hg) (al1 S.b.k hg e) (S.eb▸hm) ((hb' x hn).trans hb) ⟨ρ,H,.bi id,.refl,S,by unfold VR; rfl,h⟩) hd
theorem M0 {x:Str} {id:String} {pos:Pos} {Q:V -> List O -> Prop} (hl:fi.sc.names.lookup x=some .globalImplicit) (e:nsIn KF aT x=some none) (hb:bU x=some (.type id)) (h:Q (.ty id) H) (hd:(x==("__debug__":Str))=false:=by decide) (hn:x≠"__name__":=by decide):WE prog w KF fi d E m H (.Name x pos) Q :=
 fun A env F ρ s hA S=>by
  (refine c0 (S.b.g) fun mg hg=>?_)
  (refine b9 (S.b.bi) fun mb hm hb'=>?_)
  exact dA S.kd ((S.kind x).trans hl) (fA (S.eg▸hg) (al1 S.b.k hg e) (S.eb▸hm) ((hb' x hn).trans hb) ⟨ρ,H,.ty id,.refl,S,by unfold VR; rfl,h⟩) hd
noncomputable abbrev Em (E:EP) (m:b8):i7:=fun x H=>E x m H
theorem bX6 {l r:Expr} {op:Operator} {pos:Pos} {Q:V -> List O -> Prop} (h:WE prog w KF fi d E m H l fun a H1=>WE prog w KF fi d E m H1 r fun b H2=>W2 prog w KF d (Em E m) VR H2 (dm op) a b Q):WE prog w KF fi d E m H (.BinOp l op r pos) Q :=
 fun A env F ρ s hA S=>wpAny_BinOp (ar (h A env F ρ s hA S) (fun u s₁ ⟨ρ1,H1,a,st1,S1,ra,h₁⟩ =>
  m6 st1 (ar (h₁ A env F ρ1 s₁ hA S1) (fun v s2 ⟨ρ2,H2,b,st2,S2,rb,h2⟩ =>
   m6 (st1.trans st2) (lift S2 fun F' q T=>h2 A F' ρ2 s2 u v (q▸hA) T (ra.mono st2.1 st2.2.1) rb) fun _ _ x=>(x.step st2).step st1) fun _ _ x=>x) fun _ _ x=>x) fun _ _ x=>x)
theorem bX7 {x:Expr} {op:UnaryOp} {pos:Pos} {Q:V -> List O -> Prop} (h:WE prog w KF fi d E m H x fun a H1=>W1 prog w KF d (Em E m) VR H1 (unaryOp op) a Q):WE prog w KF fi d E m H (.UnaryOp op x pos) Q :=
 fun A env F ρ s hA S=>wpAny_UnaryOp (ar (h A env F ρ s hA S) (fun u s₁ ⟨ρ1,H1,a,st1,S1,ra,h₁⟩ =>
  m6 st1 (lift S1 fun F' q T=>h₁ A F' ρ1 s₁ u (q▸hA) T ra) fun _ _ x=>x.step st1) fun _ _ x=>x)
theorem bX8 {l r:Expr} {op:CmpOp} {pos:Pos} {Q:Bool -> List O -> Prop} (h:WE prog w KF fi d E m H l fun a H1=>WE prog w KF fi d E m H1 r fun b H2=>W2 prog w KF d (Em E m) VR H2 (dw op) a b fun c H3=>W1 prog w KF d (Em E m) L9 H3 truthy c Q) (hm:behindInMarks op r=false:=by with_unfolding_all rfl):WT prog w KF fi d E m H (.Compare l [op] [r] pos) Q :=
 fun A env F ρ s hA S=>wpAny_isTrue_Compare1 (ar (h A env F ρ s hA S) (fun u s₁ ⟨ρ1,H1,a,st1,S1,ra,h₁⟩ =>
  m6 st1 (ar (h₁ A env F ρ1 s₁ hA S1) (fun v s2 ⟨ρ2,H2,b,st2,S2,rb,h2⟩ =>
   m6 (st1.trans st2) (ar (lift S2 fun F' q T=>h2 A F' ρ2 s2 u v (q▸hA) T (ra.mono st2.1 st2.2.1) rb) (fun c s3 ⟨ρ3,H3,cv,st3,S3,rc,h3⟩ =>
    m6 ((st1.trans st2).trans st3) (lift S3 fun F' q T=>h3 A F' ρ3 s3 c (q▸hA) T rc) fun _ _ x=>(((x.step st3).step st2).step st1)) fun _ _ x=>x) fun _ _ x=>x) fun _ _ x=>x) fun _ _ x=>x) fun _ _ x=>x) hm
theorem bX9 {e:Expr} {Q:Bool -> List O -> Prop} (h:WE prog w KF fi d E m H e fun a H1=>W1 prog w KF d (Em E m) L9 H1 truthy a Q) (he:∀ env whole,isTrue e env whole=(do let v <- whole; fq e.pos; dH [v] (truthy v)):=by intro _ _; rfl):WT prog w KF fi d E m H e Q :=
 fun A env F ρ s hA S=>wpAny_isTrue_value (ar (h A env F ρ s hA S) (fun u s₁ ⟨ρ1,H1,a,st1,S1,ra,h₁⟩ =>
  m6 st1 (lift S1 fun F' q T=>h₁ A F' ρ1 s₁ u (q▸hA) T ra) fun _ _ x=>x.step st1) fun _ _ x=>x) (he env _)
theorem bY0 {x:Expr} {pos:Pos} {Q:Bool -> List O -> Prop} (h:WT prog w KF fi d E m H x fun b H1=>Q (!b) H1):WT prog w KF fi d E m H (.UnaryOp .Not x pos) Q :=
 fun A env F ρ s hA S=>wpAny_isTrue_Not (ar (h A env F ρ s hA S) (fun b s₁ ⟨ρ1,H1,a,st1,S1,ra,h₁⟩=>⟨ρ1,H1,_,st1,S1,by cases ra; rfl,h₁⟩) fun _ _ x=>x)
theorem T8 {x:Expr} {pos:Pos} {Q:Bool -> List O -> Prop} (h:WT prog w KF fi d E m H x Q):WT prog w KF fi d E m H (.BoolOp .And [x] pos) Q :=
 fun A env F ρ s hA S=>wpAny_isTrue_BoolOp (gj (ar (h A env F ρ s hA S) (fun b s₁ ⟨ρ1,H1,a,st1,S1,ra,h₁⟩=>by
  cases ra
  cases b
  · exact ⟨ρ1,H1,_,st1,S1,rfl,h₁⟩
  · exact wpAny_allTrue_And_nil ⟨ρ1,H1,_,st1,S1,rfl,h₁⟩) fun _ _ x=>x))
theorem bY1 {x y:Expr} {r:List Expr} {pos:Pos} {Q:Bool -> List O -> Prop} (h:WT prog w KF fi d E m H x fun b H1=>if b=true then WT prog w KF fi d E m H1 (.BoolOp .And (y::r) pos) Q else Q false H1):WT prog w KF fi d E m H (.BoolOp .And (x::y::r) pos) Q :=
 fun A env F ρ s hA S=>wpAny_isTrue_BoolOp (gj (ar (h A env F ρ s hA S) (fun b s₁ ⟨ρ1,H1,a,st1,S1,ra,h₁⟩=>by
  cases ra
  cases b
  · exact ⟨ρ1,H1,_,st1,S1,rfl,h₁⟩
  · have q:=(show WT prog w KF fi d E m H1 _ Q from h₁) A env F ρ1 s₁ hA S1
    rw [arm_isTrue_BoolOp] at q
    exact m6 st1 q fun _ _ x=>x.step st1) fun _ _ x=>x))
theorem bY2 {c x y:Expr} {pos:Pos} {Q:V -> List O -> Prop} (h:WT prog w KF fi d E m H c fun b H1=>if b=true then WE prog w KF fi d E m H1 x Q else WE prog w KF fi d E m H1 y Q):WE prog w KF fi d E m H (.IfExp c x y pos) Q :=
 fun A env F ρ s hA S=>IfExp_ (ar (h A env F ρ s hA S) (fun b s₁ ⟨ρ1,H1,a,st1,S1,ra,h₁⟩=>by
  cases ra
  cases b
  · exact m6 st1 ((show WE prog w KF fi d E m H1 y Q from h₁) A env F ρ1 s₁ hA S1) fun _ _ x=>x.step st1
  · exact m6 st1 ((show WE prog w KF fi d E m H1 x Q from h₁) A env F ρ1 s₁ hA S1) fun _ _ x=>x.step st1) fun _ _ x=>x)
noncomputable def C5 (es:List Expr):Prop:=∀ env,dR es env=es.map fun e=>(false,eval e env)
theorem ay4 {es:List Expr} {pos:Pos} {Q:List V -> List O -> Prop}:∀ {H:List O},w7 prog w KF fi d E m H es Q -> ∀ A env F ρ s,k9 A d (n6 env F) -> d8 w KF fi env m F ρ H s.heap (gt s) ->
 ax (aA prog w) A (spliced (dX pos (es.map fun e=>(false,eval e env)))) (SQ w KF c8 fi env m F ρ s Q) (SE w KF fi env F ρ s E) s:=by
 induction es generalizing Q with
 | nil=>exact fun h A env F ρ s hA S=>ac ⟨ρ,_,[],.refl,S,.nil,h⟩
 | cons e es ih =>
  intro H h A env F ρ s hA S
  refine fU (ar ((show WE prog w KF fi d E m H e _ from h) A env F ρ s hA S) (fun u s₁ hx=>?_) fun _ _ x=>x)
  obtain ⟨ρ1,H1,a,st1,S1,ra,h₁⟩:=hx
  exact m6 st1 (ar (ih h₁ A env F ρ1 s₁ hA S1) (fun us s2 ⟨ρ2,H2,as,st2,S2,ras,h2⟩=>(⟨ρ2,H2,a::as,st1.trans st2,S2,.cons (ra.mono st2.1 st2.2.1) ras,h2⟩:SQ w KF c8 fi env m F ρ s Q (u::us) s2)) fun _ _ x=>x) fun _ _ x=>x
theorem bY3 {es:List Expr} {pos:Pos} {Q:V -> List O -> Prop} (h:w7 prog w KF fi d E m H es fun vs H1=>vs.length <= aB /\ Q (.ref H1.length) (H1++[.list vs])) (hp:C5 es:=by intro _; rfl):WE prog w KF fi d E m H (.List es pos) Q :=
 fun A env F ρ s hA S=>by
  refine List_ ?_
  rw [hp env]
  refine ar (ay4 h A env F ρ s hA S) (fun us s₁ hx=>?_) fun _ _ x=>x
  (obtain ⟨ρ1,H1,as,st1,S1,ra,qz3⟩:=hx; refine d0 qz3 fun hsz h₁=>?_; clear qz3)
  refine bC ?_ (by show us.toArray.size <= aB; rw [aI,ra.len]; exact hsz)
  have k:o8 s₁.heap (s₁.heap.push { cls:=.type "list",data:=.seq us.toArray }):=fun _ _ e=>ak _ e
  have p:ρ1<+:ρ1++[⟨s₁.heap.objs.size,[s₁.heap.objs.size],none⟩]:=aF _ _
  have hg:(s₁.heap.push { cls:=.type "list",data:=.seq us.toArray }).get? s₁.heap.objs.size=some { cls:=.type "list",data:=.seq us.toArray }:=aK _ rfl
  refine ⟨_,_,.ref H1.length,st1.trans (.add (.of_keep k) rfl),S1.ofH p (.of_keep k) (S1.toH.alloc (o:=.list as) k (z5 _) ⟨_,hg⟩ (W4 rfl rfl us ⟨_,hg⟩ (ra.mono p (.of_keep k)))),?_,h₁⟩
  unfold VR
  exact (c5 _ (by rw [<- S1.hs.len,af]) rfl)
theorem bY4 {es:List Expr} {k:Nat} {pos:Pos} {Q:V -> List O -> Prop} (h:w7 prog w KF fi d E m H es fun vs H1=>vs.length <= aB /\ Q (.tup vs) H1) (hp:C5 es:=by intro _; rfl):WE prog w KF fi d E m H (.Tuple es k pos) Q :=
 fun A env F ρ s hA S=>by
  refine Tuple_ ?_
  rw [hp env]
  refine ar (ay4 h A env F ρ s hA S) (fun us s₁ hx=>?_) fun _ _ x=>x
  (obtain ⟨ρ1,H1,as,st1,S1,ra,qz4⟩:=hx; refine d0 qz4 fun hsz h₁=>?_; clear qz4)
  refine bC ?_ (by show us.toArray.size <= aB; rw [aI,ra.len]; exact hsz)
  have k:o8 s₁.heap (s₁.heap.push { cls:=.type "tuple",data:=.seq us.toArray }):=fun _ _ e=>ak _ e
  have hg:(s₁.heap.push { cls:=.type "tuple",data:=.seq us.toArray }).get? s₁.heap.objs.size=some { cls:=.type "tuple",data:=.seq us.toArray }:=aK _ rfl
  refine ⟨ρ1,H1,.tup as,st1.trans (.same (.of_keep k) rfl),S1.keeps k,?_,h₁⟩
  unfold VR
  exact (A3 _ us rfl (Q2 _ hg rfl _ rfl) (ra.mono (az _) (.of_keep k)))
end
end
section
set_option tactic.hygienic false
section
variable (prog:Program) (w:World) (KF:Frag) (fi:FI) (d:Nat) (E:EP)
noncomputable def WAs:b8 -> List O -> List Expr -> List V -> (b8 -> List O -> Prop) -> Prop
 | m,H,[],[],Q=>Q m H
 | m,H,t::ts,v::vs,Q=>WA prog w KF fi d E m H t v fun m1 H1=>WAs m1 H1 ts vs Q
 | _,_,_,_,_=>False
end
noncomputable abbrev Z5 (_:List b7) (_:Heap) (_ _:Unit):Prop:=True
section
variable {prog:Program} {w:World} {KF:Frag} {fi:FI} {d:Nat} {E:EP} {m:b8} {H:List O}
noncomputable def O6 (fi:FI) (x:Str):Prop:=fi.sc.names.lookup x=some .local \/ (fi.sc.names.lookup x=some .cell /\ fi.own=true)
theorem d8.nocls {env:Env} {F:d6} {ρ:List b7} {h:Heap} {gs:GT} (S:d8 w KF fi env m F ρ H h gs):(env.scope.kind==.class||(env.scope.kind==.module&&env.locals !=env.globals))=false:=by rw [S.kd]; rfl
theorem bY5 {A:Around} {env:Env} {F:d6} {ρ:List b7} {s:Shared} {x:Str} {v:V} {u:Value} {E':Value -> Shared -> Prop} (S:d8 w KF fi env m F ρ H s.heap (gt s)) (r:VR ρ s.heap v u) (hk:O6 fi x) :
 ax (aA prog w) A (storeName env x u) (fun _ s'=>f0 ρ s ρ s' /\ d8 w KF fi env (w6 m x v) F ρ H s'.heap (gt s') /\ ∀ b o,b ∉ j8 fi env -> s.heap.get? b=some o -> s'.heap.get? b=some o) E' s:=by
 rcases hk with hl | ⟨hl,ho⟩
 · (refine b9 (S.ns) fun mv hn hm=>?_)
   refine wpAny_storeName_local ((S.kind x).trans hl) hn (fun h' hn' hs=>(e9 (.same (.of_ext (fun b o hb e=>hs.extBut b o hb e) (ak8 hn)) rfl) ((S.setLoc r hn hm hn' hs hl).tk (aY _)) (fun b o hb e=>hs.extBut b o (fun q=>hb (q▸Q5 fi env)) e))) S.nocls
 · (refine c0 (S.ce x (.inl hl)) fun c hc=>?_)
   (refine b9 (S.cl x c hc) fun ov hi _=>?_)
   refine wpAny_storeName_cell S.kd ((S.kind x).trans hl) hc hi fun h' hi' hs=>(e9 (.same (.of_ext (fun b o hb e=>hs.extBut b o hb e) (aT2 hi)) rfl) (S.setCell r ho hc hi hi' hs (by rw [hl]; decide)) (fun b o hb e=>hs.extBut b o (fun q=>hb ?_) e))
   rw [q]; unfold j8; rw [if_pos ho]; exact .tail _ (aV.mpr (c5 _ (L8 hc) rfl))
theorem ay5 {A:Around} {env:Env} {F:d6} {ρ:List b7} {s:Shared} {x:Str} {v:V} {u:Value} {E':Value -> Shared -> Prop} (S:d8 w KF fi env m F ρ H s.heap (gt s)) (r:VR ρ s.heap v u) (hk:O6 fi x) :
 ax (aA prog w) A (storeName env x u) (fun _ s'=>f0 ρ s ρ s' /\ d8 w KF fi env (w6 m x v) F ρ H s'.heap (gt s')) E' s:=ar (bY5 S r hk) (fun _ _ x=>⟨x.1,x.2.1⟩) fun _ _ x=>x
theorem e7 {x:Str} {pos:Pos} {v:V} {Q:b8 -> List O -> Prop} (hk:O6 fi x) (h:Q (w6 m x v) H):WA prog w KF fi d E m H (.Name x pos) v Q :=
 fun A env F ρ s u hA S r=>wpAny_assign_Name (ar (ay5 S r hk) (fun _ s'=>m8 fun st S'=>⟨ρ,H,_,st,S',h⟩) fun _ _ x=>x)
theorem bY6 {o i:Expr} {pos:Pos} {v:V} {Q:b8 -> List O -> Prop} (h:WE prog w KF fi d E m H o fun ov H1=>WE prog w KF fi d E m H1 i fun iv H2=>W3 prog w KF d (Em E m) Z5 H2 setItem ov iv v fun _ H3=>Q m H3):WA prog w KF fi d E m H (.Subscript o i pos) v Q :=
 fun A env F ρ s u hA S r=>by
  rw [assign_Subscript]
  refine ab (aM (ar (h A env F ρ s hA S) (fun ov s₁ hx=>?_) fun _ _ x=>x))
  obtain ⟨ρ1,H1,a,st1,S1,ra,h₁⟩:=hx
  refine ab (aM (m6 st1 (ar (h₁ A env F ρ1 s₁ hA S1) (fun iv s2 hx=>?_) fun _ _ x=>x) fun _ _ x=>x))
  obtain ⟨ρ2,H2,b,st2,S2,rb,h2⟩:=hx
  have st:=st1.trans st2
  refine ab (cO (ab (aM (m6 st (lift S2 fun F' q T=>h2 A F' ρ2 s2 ov iv u (q▸hA) T (ra.mono st2.1 st2.2.1) rb (r.mono st.1 st.2.1)) ?_))))
  (intro _ s3; intro qz1; obtain ⟨ρ3,H3,_,st3,S3,_,h3⟩:=qz1)
  exact wpAny_release ⟨ρ3,H3,m,st.trans st3,S3,h3⟩
theorem bY7 {o:Expr} {attr:Str} {pos:Pos} {v:V} {Q:b8 -> List O -> Prop} (h:WE prog w KF fi d E m H o fun ov H1=>W2 prog w KF d (Em E m) Z5 H1 (fun u v=>setAttr u attr v) ov v fun _ H3=>Q m H3):WA prog w KF fi d E m H (.Attribute o attr pos) v Q :=
 fun A env F ρ s u hA S r=>by
  show ax _ A (do
   let ov <- dH [u] (eval o env)
   fq pos.atName
   dH [u,ov] (setAttr ov attr u)
   release [u,ov] []) _ _ s
  refine ab (aM (ar (h A env F ρ s hA S) (fun ov s₁ hx=>?_) fun _ _ x=>x))
  obtain ⟨ρ1,H1,a,st1,S1,ra,h₁⟩:=hx
  refine ab (cO (ab (aM (m6 st1 (lift S1 fun F' q T=>h₁ A F' ρ1 s₁ ov u (q▸hA) T ra (r.mono st1.1 st1.2.1)) ?_))))
  (intro _ s3; intro qz2; obtain ⟨ρ3,H3,_,st3,S3,_,h3⟩:=qz2)
  exact wpAny_release ⟨ρ3,H3,m,st1.trans st3,S3,h3⟩
noncomputable def ay6 (es:List Expr):Prop:=∀ env,fW es env=es.map fun e=>(false,dk e env)
theorem bY8 {ts:List Expr}:∀ {m:b8} {H:List O} {vs:List V} {Q:b8 -> List O -> Prop},WAs prog w KF fi d E m H ts vs Q -> ∀ A env F ρ s us,k9 A d (n6 env F) -> d8 w KF fi env m F ρ H s.heap (gt s) -> c8 ρ s.heap vs us ->
 ax (aA prog w) A (assignInOrder (ts.map fun e=>dk e env) us) (fun _ s'=>AQ w KF fi env F ρ s Q s') (SE w KF fi env F ρ s E) s:=by
 induction ts with
 | nil =>
  intro m H vs Q h A env F ρ s us hA S r
  cases vs with
  | nil=>rw [r.nil_eq]; exact ac ⟨ρ,H,m,.refl,S,h⟩
  | cons _ _=>exact h.elim
 | cons t ts ih =>
  intro m H vs Q h A env F ρ s us hA S r
  cases vs with
  | nil=>exact h.elim
  | cons v vs =>
   (refine e8 (r.cons_eq) fun u us qz3 ru rus=>?_; subst qz3)
   show ax _ A (do dH us (dk t env u); assignInOrder (ts.map fun e=>dk e env) us) _ _ s
   refine ab (aM (ar (h A env F ρ s u hA S ru) (fun _ s₁ ⟨ρ1,H1,m1,st1,S1,h₁⟩=>?_) fun _ _ x=>x))
   exact m6 st1 (ih h₁ A env F ρ1 s₁ us hA S1 (rus.mono st1.1 st1.2.1)) fun _ s2 ⟨ρ2,H2,m2,st2,S2,h2⟩=>⟨ρ2,H2,m2,st1.trans st2,S2,h2⟩
theorem bY9 {es:List Expr} (hp:ay6 es) (env:Env):(fW es env).length=es.length /\ (fW es env).findIdx? (·.1)=none /\ (fW es env).map (·.2)=es.map fun e=>dk e env:=by
 rw [hp env]
 refine (e9 (aD ..) ?_ (by rw [bu]; rfl))
 rw [List.findIdx?_eq_none_iff]
 intro x hx
 (refine b9 (aV.mp hx) fun e _ qz4=>?_; subst qz4)
 rfl
theorem bZ0 {es:List Expr} {k:Nat} {pos:Pos} {v:V} {Q:b8 -> List O -> Prop} (h:W1 prog w KF d (Em E m) c8 H (fun u=>gp u es.length none) v fun vs H1=>WAs prog w KF fi d E m H1 es vs Q) (hp:ay6 es:=by intro _; rfl):WA prog w KF fi d E m H (.Tuple es k pos) v Q :=
 fun A env F ρ s u hA S r=>by
  rw [arm_assign_Tuple]
  refine ab (cO ?_)
  unfold unpack
  (refine l9 (bY9 hp env) fun h1 h2 h3=>?_)
  rw [h1,h2,h3]
  refine ab (aM (ar (lift S fun F' q T=>h A F' ρ s u (q▸hA) T r) (fun us s₁ hx=>?_) fun _ _ x=>x))
  obtain ⟨ρ1,H1,vs,st1,S1,rs,h₁⟩:=hx
  exact m6 st1 (bY8 h₁ A env F ρ1 s₁ us hA S1 rs) fun _ s2 ⟨ρ2,H2,m2,st2,S2,h₂⟩=>⟨ρ2,H2,m2,st1.trans st2,S2,h₂⟩
theorem bZ1 {t value:Expr} {pos:Pos} {Q:Fl -> b8 -> List O -> Prop} (h:WE prog w KF fi d E m H value fun v H1=>WA prog w KF fi d E m H1 t v fun m2 H2=>Q .next m2 H2)
 (hs:∀ env,swapsWithSole [t] value pos.line env=pure false:=by intro _; rfl) (hw:∀ env,bR [t] value env=pure none:=by intro _; rfl) (he:∀ env,fW [t] env=[(false,dk t env)]:=by intro _; rfl):WS prog w KF fi d E m H (.Assign [t] value pos) Q :=
 fun A env F ρ s hA S=>by
  refine wpAny_Assign_stores (ar (h A env F ρ s hA S) (fun u s₁ hx=>?_) fun _ _ x=>x) (hs env) (hw env)
  obtain ⟨ρ1,H1,v,st1,S1,r,h₁⟩:=hx
  rw [he env]
  show ax _ A (dk t env u) _ _ _
  exact m6 st1 (h₁ A env F ρ1 s₁ u hA S1 r) fun _ s2 ⟨ρ2,H2,m2,st2,S2,h2⟩=>⟨ρ2,H2,m2,.next,st1.trans st2,S2,rfl,h2⟩
theorem bZ2 {t t' value:Expr} {pos:Pos} {Q:Fl -> b8 -> List O -> Prop} (h:WE prog w KF fi d E m H value fun v H1=>WA prog w KF fi d E m H1 t v fun m2 H2=>WA prog w KF fi d E m2 H2 t' v fun m3 H3=>Q .next m3 H3)
 (hw:∀ env,bR [t,t'] value env=pure none:=by intro _; rfl) (he:∀ env,fW [t,t'] env=[(false,dk t env),(false,dk t' env)]:=by intro _; rfl):WS prog w KF fi d E m H (.Assign [t,t'] value pos) Q :=
 fun A env F ρ s hA S=>by
  refine wpAny_Assign_stores (ar (h A env F ρ s hA S) (fun u s₁ hx=>?_) fun _ _ x=>x) rfl (hw env)
  obtain ⟨ρ1,H1,v,st1,S1,r,h₁⟩:=hx
  rw [he env]
  show ax _ A (do dH [u] (dk t env u); dk t' env u) _ _ _
  refine ab (aM (m6 st1 (ar (h₁ A env F ρ1 s₁ u hA S1 r) (fun _ s2 ⟨ρ2,H2,m2,st2,S2,h2⟩=>?_) fun _ _ x=>x) fun _ _ x=>x))
  exact m6 (st1.trans st2) (h2 A env F ρ2 s2 u hA S2 (r.mono st2.1 st2.2.1)) fun _ s3 ⟨ρ3,H3,m3,st3,S3,h3⟩=>⟨ρ3,H3,m3,.next,(st1.trans st2).trans st3,S3,rfl,h3⟩
noncomputable def ay7 (m:b8):List Str -> List V -> b8
 | x::xs,v::vs=>ay7 (w6 m x v) xs vs
 | _,_=>m
theorem bZ3 {xs:List Str}:∀ {m:b8} {vs:List V},(∀ x∈xs,O6 fi x) -> vs.length=xs.length -> ∀ A env F ρ s us,d8 w KF fi env m F ρ H s.heap (gt s) -> c8 ρ s.heap vs us -> ∀ {E':Value -> Shared -> Prop},
 ax (aA prog w) A (assignInOrder (xs.map fun x=>bindName env x) us) (fun _ s'=>f0 ρ s ρ s' /\ d8 w KF fi env (ay7 m xs vs) F ρ H s'.heap (gt s')) E' s:=by
 induction xs with
 | nil =>
  intro m vs _ hl A env F ρ s us S r E'
  cases vs with
  | nil=>rw [r.nil_eq]; exact ac ⟨.refl,S⟩
  | cons _ _=>cases hl
 | cons x xs ih =>
  intro m vs hx hl A env F ρ s us S r E'
  cases vs with
  | nil=>cases hl
  | cons v vs =>
   (refine e8 (r.cons_eq) fun u us qz5 ru rus=>?_; subst qz5)
   show ax _ A (do dH us (bindName env x u); assignInOrder (xs.map fun x=>bindName env x) us) _ _ s
   refine ab (aM (wpAny_bindName (ar (ay5 S ru (hx x (.head _))) (fun _ s₁=>m8 fun st1 S1=>?_) fun _ _ x=>x)))
   exact ar (ih (fun y hy=>hx y (.tail _ hy)) (iz hl) A env F ρ s₁ us S1 (rus.mono st1.1 st1.2.1)) (fun _ s2=>m8 fun st2 S2=>⟨st1.trans st2,S2⟩) fun _ _ x=>x
theorem c8.reverse {ρ:List b7} {h:Heap}:∀ {xs:List V} {vs:List Value},c8 ρ h xs vs -> c8 ρ h xs.reverse vs.reverse
 | [],vs,r=>by rw [r.nil_eq]; exact .nil
 | x::xs,vs,r=>by (refine e8 (r.cons_eq) fun v q qz6 a b=>?_; subst qz6); rw [iG,iG]; exact (c8.reverse b).append (.cons a .nil)
theorem M1 {es:List Expr} {k:Nat} {tp pos:Pos} {value:Expr} {xs:List Str} {Q:Fl -> b8 -> List O -> Prop} (hx:∀ x∈xs,O6 fi x)
 (h:WE prog w KF fi d E m H value fun v H1=>W1 prog w KF d (Em E m) c8 H1 (fun u=>gp u xs.length none) v fun vs H2=>vs.length=xs.length /\ Q .next (ay7 m xs.reverse vs.reverse) H2)
 (hw:∀ env,env.scope=fi.sc -> bR [.Tuple es k tp] value env=pure (some xs)) (hs:∀ env,swapsWithSole [.Tuple es k tp] value pos.line env=pure false:=by intro _; rfl):WS prog w KF fi d E m H (.Assign [.Tuple es k tp] value pos) Q :=
 fun A env F ρ s hA S=>by
  refine Assign_Tuple_swapped (names:=xs) (ar (h A env F ρ s hA S) (fun u s₁ hx=>?_) fun _ _ x=>x) (hs env) (hw env S.es)
  obtain ⟨ρ1,H1,v,st1,S1,r,h₁⟩:=hx
  refine m6 st1 (ar (lift S1 fun F' q T=>h₁ A F' ρ1 s₁ u (q▸hA) T r) (fun us s2 hx=>?_) fun _ _ x=>x) fun _ _ x=>x
  (obtain ⟨ρ2,H2,vs,st2,S2,rs,qz7⟩:=hx; refine d0 qz7 fun hl h2=>?_; clear qz7)
  exact ar (bZ3 (fun x hxm=>hx x (List.mem_reverse.mp hxm)) (by rw [List.length_reverse,List.length_reverse]; exact hl) A env F ρ2 s2 _ S2 rs.reverse) (fun _ s3=>m8 fun st3 S3=>⟨ρ2,H2,_,.next,(st1.trans st2).trans st3,S3,rfl,h2⟩) fun _ _ x=>x
theorem bZ4 {A:Around} {env:Env} {F:d6} {ρ:List b7} {s:Shared} {x:Str} {v:V} {K:Value -> Shared -> Prop} {E':Value -> Shared -> Prop} (S:d8 w KF fi env m F ρ H s.heap (gt s)) (hk:O6 fi x) (hv:p0 m x=some v) (h:∀ u,VR ρ s.heap v u -> K u s):ax (aA prog w) A (loadName env x) K E' s:=by
 rcases hk with hl | ⟨hl,ho⟩
 · (refine e8 (S.get hv hl) fun mv u hn e r=>?_)
   exact dQ S.kd ((S.kind x).trans hl) hn e (h u r)
 · (refine c0 (S.ce x (.inl hl)) fun c hc=>?_)
   (refine b9 (S.cl x c hc) fun ov hi r=>?_)
   rw [hv] at r
   (refine b9 (r.some_of) fun u qz8 r=>?_; subst qz8)
   exact wpAny_loadName_cell S.kd ((S.kind x).trans hl) hc hi (h u r)
theorem bZ5 {x:Str} {p pos:Pos} {op:Operator} {value:Expr} {a:V} {Q:Fl -> b8 -> List O -> Prop} (hk:O6 fi x) (hv:p0 m x=some a) (h:WE prog w KF fi d E m H value fun b H2=>W2 prog w KF d (Em E m) VR H2 (inplaceOp op) a b fun c H3=>Q .next (w6 m x c) H3):WS prog w KF fi d E m H (.AugAssign (.Name x p) op value pos) Q :=
 fun A env F ρ s hA S=>by
  refine wpAny_AugAssign_Name (bZ4 S hk hv fun u ru=>(ar (h A env F ρ s hA S) (fun v s2 hx=>?_) fun _ _ x=>x))
  obtain ⟨ρ2,H2,b,st2,S2,rb,h2⟩:=hx
  refine m6 st2 (ar (lift S2 fun F' q T=>h2 A F' ρ2 s2 u v (q▸hA) T (ru.mono st2.1 st2.2.1) rb) (fun c s3 hx=>?_) fun _ _ x=>x) fun _ _ x=>x
  obtain ⟨ρ3,H3,cv,st3,S3,rc,h3⟩:=hx
  exact ar (ay5 S3 rc hk) (fun _ s4=>m8 fun st4 S4=>⟨ρ3,H3,_,.next,(st2.trans st3).trans st4,S4,rfl,h3⟩) fun _ _ x=>x
theorem bZ6 {c:Expr} {x y:List Stmt} {pos:Pos} {Q:Fl -> b8 -> List O -> Prop} (h:WT prog w KF fi d E m H c fun b H1=>if b=true then WB prog w KF fi d E m H1 x Q else WB prog w KF fi d E m H1 y Q):WS prog w KF fi d E m H (.If c x y pos) Q :=
 fun A env F ρ s hA S=>wpAny_If (ar (h A env F ρ s hA S) (fun b s₁ ⟨ρ1,H1,a,st1,S1,ra,h₁⟩=>by
  cases ra
  cases b
  · exact m6 st1 ((show WB prog w KF fi d E m H1 y Q from h₁) A env F ρ1 s₁ hA S1) fun _ _ x=>x.step st1
  · exact m6 st1 ((show WB prog w KF fi d E m H1 x Q from h₁) A env F ρ1 s₁ hA S1) fun _ _ x=>x.step st1) fun _ _ x=>x)
theorem bZ7 {e:Expr} {pos:Pos} {Q:Fl -> b8 -> List O -> Prop} (h:WE prog w KF fi d E m H e fun v H1=>Q (.ret v) m H1):WS prog w KF fi d E m H (.Return (some e) pos) Q :=
 fun A env F ρ s hA S=>wpAny_Return_some (ar (h A env F ρ s hA S) (fun u s₁ ⟨ρ1,H1,a,st1,S1,ra,h₁⟩=>⟨ρ1,H1,m,.ret a,st1,S1,⟨u,rfl,ra⟩,h₁⟩) fun _ _ x=>x)
theorem aT6 {pos:Pos} {Q:Fl -> b8 -> List O -> Prop} (h:Q (.ret .none) m H):WS prog w KF fi d E m H (.Return none pos) Q :=
 fun A env F ρ s hA S=>wpAny_Return_none ⟨ρ,H,m,.ret .none,.refl,S,(c5 .none rfl (by unfold VR; rfl)),h⟩
theorem bZ8 {pos:Pos} {Q:Fl -> b8 -> List O -> Prop} (h:Q .brk m H):WS prog w KF fi d E m H (.Break pos) Q :=
 fun A env F ρ s hA S=>wpAny_Break ⟨ρ,H,m,.brk,.refl,S,rfl,h⟩
theorem bZ9 {pos:Pos} {Q:Fl -> b8 -> List O -> Prop} (h:Q .cont m H):WS prog w KF fi d E m H (.Continue pos) Q :=
 fun A env F ρ s hA S=>wpAny_Continue ⟨ρ,H,m,.cont,.refl,S,rfl,h⟩
theorem d8.noint {env:Env} {F:d6} {ρ:List b7} {h:Heap} {gs:GT} (S:d8 w KF fi env m F ρ H h gs):eC env=false:=by unfold eC; rw [S.kd]; rfl
theorem ca0 {e:Expr} {pos:Pos} {Q:Fl -> b8 -> List O -> Prop} (h:WE prog w KF fi d E m H e fun v H1=>Q .next m H1) (hs:∀ env,swapsWith e none pos.line env=pure false:=by intro _; rfl):WS prog w KF fi d E m H (.Expr e pos) Q :=
 fun A env F ρ s hA S=>wpAny_Expr_any (ar (h A env F ρ s hA S) (fun u s₁ ⟨ρ1,H1,a,st1,S1,ra,h₁⟩=>⟨ρ1,H1,m,.next,st1,S1,rfl,h₁⟩) fun _ _ x=>x) S.noint (hs env)
theorem e6 {Q:Fl -> b8 -> List O -> Prop} (h:Q .next m H):WB prog w KF fi d E m H [] Q :=
 fun A env F ρ s hA S=>wpAny_execs_nil ⟨ρ,H,m,.next,.refl,S,rfl,h⟩
theorem ca1 {st:Stmt} {rest:List Stmt} {Q:Fl -> b8 -> List O -> Prop} (h:WS prog w KF fi d E m H st fun f m1 H1=>match f with | .next=>WB prog w KF fi d E m1 H1 rest Q | f=>Q f m1 H1):WB prog w KF fi d E m H (st::rest) Q :=
 fun A env F ρ s hA S=>wpAny_execs_cons (ar (h A env F ρ s hA S) (fun f s₁ ⟨ρ1,H1,m1,fl,st1,S1,rf,h₁⟩=>by
  cases fl with
  | next=>cases rf; exact m6 st1 (h₁ A env F ρ1 s₁ hA S1) fun _ _ x=>x.step st1
  | brk=>cases rf; exact ⟨ρ1,H1,m1,.brk,st1,S1,rfl,h₁⟩
  | cont=>cases rf; exact ⟨ρ1,H1,m1,.cont,st1,S1,rfl,h₁⟩
  | ret v=>(refine b9 rf fun u qz9 r=>?_; clear rf; subst qz9); exact ⟨ρ1,H1,m1,.ret v,st1,S1,(c5 u rfl r),h₁⟩) fun _ _ x=>x)
theorem al3 {A:Around} {env:Env} {F:d6} {ρ:List b7} {s:Shared}:PassesOwn (aA prog w) A env (SE w KF fi env F ρ s E):=fun _ _ ⟨_,_,_,_,_,_,x,_⟩=>x.elim
theorem Z6 {c:Expr} {body:List Stmt} {pos:Pos} {Q:Fl -> b8 -> List O -> Prop} (J:Nat -> b8 -> List O -> Prop) (n:Nat) (h0:J n m H)
 (h:∀ n m H,J n m H -> WT prog w KF fi d E m H c fun b H1=>if b=true then WB prog w KF fi d E m H1 body (fun f m2 H2=>match f with | .next | .cont=>∃ k,k < n /\ J k m2 H2 | .brk=>Q .next m2 H2 | .ret v=>Q (.ret v) m2 H2) else Q .next m H1):WS prog w KF fi d E m H (.While c body [] pos) Q :=
 fun A env F ρ s hA S=>by
  refine wpAny_While (codeAny_whileLoop (R:=fun r s'=>match r with | .ok f=>D2 w KF fi env F ρ s Q f s' | .error e=>cameBackBy (aA prog w) A env (SE w KF fi env F ρ s E) e s')
   (fun n s₁=>∃ ρ1 m1 H1,f0 ρ s ρ1 s₁ /\ d8 w KF fi env m1 F ρ1 H1 s₁.heap (gt s₁) /\ J n m1 H1) ?_ n (T5 ρ m H .refl S h0))
  (intro n s₁; refine bu7 fun ρ1 m1 H1 st1 S1 hJ=>?_)
  refine wpAny_passesOwn al3 (m6 st1 (ar (h n m1 H1 hJ A env F ρ1 s₁ hA S1) (fun b s2 hx=>?_) fun _ _ x=>x) fun _ _ x=>x)
  obtain ⟨ρ2,H2,a,st2,S2,ra,h2⟩:=hx
  cases ra
  have st:=st1.trans st2
  cases b with
  | false=>exact wpAny_execs_nil ⟨ρ2,H2,m1,.next,st,S2,rfl,h2⟩
  | true =>
   refine wpAny_passesOwn al3 (m6 st (ar (h2 A env F ρ2 s2 hA S2) (fun f s3 hx=>?_) fun _ _ x=>x) fun _ _ x=>x)
   obtain ⟨ρ3,H3,m3,fl,st3,S3,rf,h3⟩:=hx
   cases fl with
   | next=>cases rf; (refine b9 h3 fun k hk hJ'=>?_; clear h3); exact (aM5 k hk ρ3 m3 H3 (st.trans st3) S3 hJ')
   | cont=>cases rf; (refine b9 h3 fun k hk hJ'=>?_; clear h3); exact (aM5 k hk ρ3 m3 H3 (st.trans st3) S3 hJ')
   | brk=>cases rf; exact ⟨ρ3,H3,m3,.next,st.trans st3,S3,rfl,h3⟩
   | ret v=>(refine b9 rf fun u qz10 r=>?_; clear rf; subst qz10); exact ⟨ρ3,H3,m3,.ret v,st.trans st3,S3,(c5 u rfl r),h3⟩
end
end
section
theorem HQ.el {w:World} {KF:Frag} {α β:Type} {R:List b7 -> Heap -> β -> α -> Prop} {F:d6} {ρ:List b7} {s:Shared} {Q:β -> List O -> Prop} {v:α} {s':Shared} {G:Prop} (k:∀ ρ' H' b,f0 ρ s ρ' s' -> d7 w KF F ρ' H' s'.heap (gt s') -> R ρ' s'.heap b v -> Q b H' -> G) (h:HQ w KF R F ρ s Q v s'):G:=HQ.rec k h
theorem HE.el {w:World} {KF:Frag} {F:d6} {ρ:List b7} {s:Shared} {E:Q6 -> List O -> Prop} {e:Value} {s':Shared} {G:Prop} (k:∀ ρ' H' x,f0 ρ s ρ' s' -> d7 w KF F ρ' H' s'.heap (gt s') -> ExcAt F ρ' s'.heap e x -> E x H' -> G) (h:HE w KF F ρ s E e s'):G:=HE.rec k h
theorem SQ.el {w:World} {KF:Frag} {α β:Type} {R:List b7 -> Heap -> β -> α -> Prop} {fi:FI} {env:Env} {m:b8} {F:d6} {ρ:List b7} {s:Shared} {Q:β -> List O -> Prop} {v:α} {s':Shared} {G:Prop} (k:∀ ρ' H' b,f0 ρ s ρ' s' -> d8 w KF fi env m F ρ' H' s'.heap (gt s') -> R ρ' s'.heap b v -> Q b H' -> G) (h:SQ w KF R fi env m F ρ s Q v s'):G:=SQ.rec k h
theorem SE.el {w:World} {KF:Frag} {fi:FI} {env:Env} {F:d6} {ρ:List b7} {s:Shared} {E:Q6 -> b8 -> List O -> Prop} {e:Value} {s':Shared} {G:Prop} (k:∀ ρ' H' x m,f0 ρ s ρ' s' -> d8 w KF fi env m F ρ' H' s'.heap (gt s') -> ExcAt (w1 F s'.heap (j8 fi env)) ρ' s'.heap e x -> E x m H' -> G) (h:SE w KF fi env F ρ s E e s'):G:=SE.rec k h
theorem D2.el {w:World} {KF:Frag} {fi:FI} {env:Env} {F:d6} {ρ:List b7} {s:Shared} {Q:Fl -> b8 -> List O -> Prop} {f:Flow} {s':Shared} {G:Prop} (k:∀ ρ' H' m' fl,f0 ρ s ρ' s' -> d8 w KF fi env m' F ρ' H' s'.heap (gt s') -> FlR ρ' s'.heap fl f -> Q fl m' H' -> G) (h:D2 w KF fi env F ρ s Q f s'):G:=D2.rec k h
theorem AQ.el {w:World} {KF:Frag} {fi:FI} {env:Env} {F:d6} {ρ:List b7} {s:Shared} {Q:b8 -> List O -> Prop} {s':Shared} {G:Prop} (k:∀ ρ' H' m',f0 ρ s ρ' s' -> d8 w KF fi env m' F ρ' H' s'.heap (gt s') -> Q m' H' -> G) (h:AQ w KF fi env F ρ s Q s'):G:=AQ.rec k h
end
section
set_option tactic.hygienic false
noncomputable def w2 (fp:List Nat) (s s':Shared):Prop:=(s'.gens=s.gens /\ s.toks <= s'.toks) /\ s'.os=s.os /\ TK s.heap s'.heap /\ ∀ b o,b ∉ fp -> s.heap.get? b=some o -> s'.heap.get? b=some o
theorem w2.refl {fp:List Nat} {s:Shared}:w2 fp s s:=(m5 ⟨rfl,ao _⟩ rfl (.refl _) (fun _ _ _ e=>e))
section
variable {w:World} {KF:Frag} {fi:FI} {env:Env} {m m':b8} {F:d6} {ρ ρ':List b7} {H H':List O} {h h':Heap} {gs gs':GT} {fp:List Nat}
theorem d7.chg {s s':Shared} (S:d7 w KF F ρ H s.heap (gt s)) (hf:∀ b∈fp,F.f b=none /\ b ∉ q0 ρ) (c:w2 fp s s'):d7 w KF F ρ H s'.heap (gt s'):=by
 (refine n9 c fun qz1 _ t k=>?_; try clear c; obtain ⟨cg,ct⟩:=qz1)
 have kF:O0 F s'.heap:=fun b o e=>b9 (S.keep b o e) fun o' e' u=>(c5 o' (k b o' (fun q=>by rw [(hf b q).1] at e; cases e) e') u)
 have kp:∀ b∈q0 ρ,∀ o,s.heap.get? b=some o -> s'.heap.get? b=some o:=fun b hb o e=>k b o (fun q=>(hf b q).2 hb) e
 exact d7.gte (s:=s) ⟨S.bs,kF,S.len,fun i e o hi ho=>(S.ob i e o hi ho).mono (az _) t S.keep kF (fun b hb q hq=>kp b (W8 hi hb) q hq),fun b hb=>c0 (S.live b hb) fun o ho=>⟨o,kp b hb o ho⟩,S.nd,S.off,S.gn,S.bare,S.gf,S.fo,S.tp⟩ cg ct
noncomputable def z6 (fi:FI) (env:Env) (F:d6) (ρ:List b7) (fp:List Nat):Prop:=∀ b∈fp,F.f b=none /\ b ∉ q0 ρ /\ b ∉ j8 fi env
theorem d8.chg {s s':Shared} (S:d8 w KF fi env m F ρ H s.heap (gt s)) (hf:z6 fi env F ρ fp) (c:w2 fp s s'):d8 w KF fi env m F ρ H s'.heap (gt s') :=
 S.ofH (az _) c.2.2.1 (S.toH.chg (fun b hb=>⟨by rw [O3 (hf b hb).2.2]; exact (hf b hb).1,(hf b hb).2.1⟩) c)
theorem d8.own_live (S:d8 w KF fi env m F ρ H h gs):∀ b∈j8 fi env,∃ o,h.get? b=some o /\ o.cls≠.type "list" \/ ∃ o,h.get? b=some o:=fun b hb=>by
 unfold j8 at hb
 split at hb
 · rcases aJ.mp hb with rfl | hb
   · (refine b9 (S.ns) fun mv qz2 _=>?_; obtain ⟨o,_,_,ho,_⟩:=qz2); exact ⟨o,.inr ⟨o,ho⟩⟩
   · (refine b9 (aV.mp hb) fun qz3 hm qz4=>?_; obtain ⟨x,c⟩:=qz3; subst qz4)
     (refine b9 (S.cl x c (S.cu x c hm).1) fun ov qz5 _=>?_; obtain ⟨o,ho,_⟩:=qz5)
     exact ⟨o,.inr ⟨o,ho⟩⟩
 · rw [au.mp hb]
   (refine b9 (S.ns) fun mv qz6 _=>?_; obtain ⟨o,_,_,ho,_⟩:=qz6); exact ⟨o,.inr ⟨o,ho⟩⟩
theorem d8.fresh (S:d8 w KF fi env m F ρ H h gs) (hf:∀ b∈fp,h.get? b=none):z6 fi env F ρ fp:=fun b hb=>by
 refine (e9 ?_ (fun q=>?_) (fun q=>?_))
 · cases q:F.f b with
   | none=>rfl
   | some o=>(refine b9 (S.hs.keep _ _ q) fun o' e' _=>?_); rw [hf b hb] at e'; cases e'
 · (refine c0 (S.hs.live b q) fun o ho=>?_); rw [hf b hb] at ho; cases ho
 · (refine c0 (S.own_live b q) fun o qz7=>?_; obtain ⟨ho,_⟩ | ⟨o,ho⟩:=qz7)<;>(rw [hf b hb] at ho; cases ho)
theorem d8.rebase (S:d8 w KF fi env m F ρ H h gs) (hf:z6 fi env F ρ fp):d8 w KF fi env m (w1 F h fp) ρ H h gs:=by
 have hF:∀ b o,F.f b=some o -> (w1 F h fp).f b=some o:=fun b o e=>by
  rw [ae6 (fun q=>by rw [(hf b q).1] at e; cases e)]; exact e
 refine ⟨⟨fun h' k=>S.hs.bs h' (fun b o e=>k b o (hF b o e)),fun b o e=>?_,S.hs.len,fun i e o hi ho=>(S.hs.ob i e o hi ho).base hF,S.hs.live,S.hs.nd,fun b hb=>?_,S.hs.gn,S.hs.bare,S.hs.gf,fun e he=>ad6 (S.hs.fo e he) fun h1 L o h2 h3 h4=>(aM1 h1 L o h2 (hF L o h3) h4),S.hs.tp⟩,S.es,S.eg,S.eb,S.ec,S.ek,S.ef,fun b hb=>⟨?_,(S.lo b hb).2⟩,S.ns,S.cl,S.ce,S.cn,S.cu,S.cd,fun q x c hc=>?_⟩
 · by_cases q:b∈fp
   · rw [ay2 q] at e; exact (c5 o e .refl)
   · rw [ae6 q] at e; exact S.hs.keep b o e
 · rw [ae6 (fun q=>(hf b q).2.1 hb)]; exact S.hs.off b hb
 · rw [ae6 (fun q=>(hf b q).2.2 hb)]; exact (S.lo b hb).1
 · (refine c0 (dN.mp (S.cf q x c hc)) fun o ho=>?_)
   rw [hF c o ho]; rfl
theorem d8.unbase (S:d8 w KF fi env m F ρ H h gs) (hf:z6 fi env F ρ fp) (hl:∀ b∈fp,∃ o,h.get? b=some o) (p:ρ<+:ρ') {nn:Nat} (nw:O4 nn ρ ρ') (T:d8 w KF fi env m' (w1 F h fp) ρ' H' h' gs') :
 d8 w KF fi env m' F ρ' H' h' gs' /\ z6 fi env F ρ' fp /\ ∀ b∈fp,∀ o,h.get? b=some o -> h'.get? b=some o:=by
 have hF:∀ b o,F.f b=some o -> (w1 F h fp).f b=some o:=fun b o e=>by
  rw [ae6 (fun q=>by rw [(hf b q).1] at e; cases e)]; exact e
 have hoF:∀ b,(w1 F h fp).f b=none -> F.f b=none:=fun b q=>by
  cases z:F.f b with
  | none=>rfl
  | some o=>rw [hF b o z] at q; cases q
 have kp:∀ b∈fp,∀ o,h.get? b=some o -> h'.get? b=some o:=fun b hb o e=>by
  (refine b9 (T.hs.keep b o (by rw [ay2 hb]; exact e)) fun o' e' u=>?_)
  rw [e',u.ex (S.hs.fo.off (hf b hb).1)]
 refine (e9 ⟨⟨S.hs.bs,fun b o e=>T.hs.keep b o (hF b o e),T.hs.len,fun i e o hi ho=>?_,T.hs.live,T.hs.nd,fun b hb=>hoF b (T.hs.off b hb),T.hs.gn,T.hs.bare,T.hs.gf,S.hs.fo,T.hs.tp⟩,T.es,T.eg,T.eb,T.ec,T.ek,T.ef,fun b hb=>⟨hoF b (T.lo b hb).1,(T.lo b hb).2⟩,T.ns,T.cl,T.ce,T.cn,T.cu,T.cd,S.cf⟩ (fun b hb=>(e9 ((hf b hb).1) (fun q=>?_) ((hf b hb).2.2))) kp)
 · have y:=T.hs.ob i e o hi ho
   cases o with
   | arr xs =>
    (refine n9 y fun a b l f=>?_; try clear y)
    refine (m5 a b l ?_)
    by_cases q:i < ρ.length
    · have hi':ρ[i]?=some e:=by (refine c0 p fun t qz8=>?_; try clear p; subst qz8); rwa [bf q] at hi
      have hH:i < H.length:=by rw [<- S.hs.len]; exact q
      have y':=S.hs.ob i e H[i] hi' (aq hH)
      rcases y'.own with ⟨ys,q2⟩ | q2 | q2
      · rw [q2] at y'; exact y'.2.2.2
      · rw [a] at q2; cases q2
      · rw [b] at q2; cases q2
    · exact absurd a (nw i e (bN.mp q) hi).1
   | _=>exact y
 · have:=T.hs.off b q
   rw [ay2 hb] at this
   (refine c0 (hl b hb) fun o ho=>?_)
   rw [this] at ho; cases ho
end
structure O7 (prog:Program) (w:World) (KF:Frag) (I:Nat) (fp:List Nat) (xs:List V) (G:List O -> Prop) (St:Nat -> List b7 -> Heap -> Prop) (Md:Value -> Nat -> List b7 -> Heap -> Prop) (T:Expr -> Prop):Prop where
 frame:∀ i ρ h ρ' h',St i ρ h -> ρ<+:ρ' -> TK h h' -> (∀ b∈fp,∀ o,h.get? b=some o -> h'.get? b=some o) -> St i ρ' h'
 live:∀ i ρ h,St i ρ h -> ∀ b∈fp,∃ o,h.get? b=some o
 lot:∀ A i ρ (s:Shared) t v (E':Value -> Shared -> Prop),Md v i ρ s.heap -> T t -> ax (aA prog w) A (iM t (.ref I) v) (fun _ s'=>St i ρ s'.heap /\ w2 fp s s') E' s
 item:∀ A F ρ H (s:Shared) i x (E':Value -> Shared -> Prop),A.handled=none -> d7 w KF F ρ H s.heap (gt s) -> G H -> St i ρ s.heap -> xs[i]?=some x ->
  ax (aA prog w) A (cS (.ref I)) (fun r s'=>∃ v,r=some v /\ VR ρ s'.heap x v /\ Md v (i+1) ρ s'.heap /\ w2 fp s s') E' s
 pl:(∀ t,T t) -> ∀ v i ρ h,Md v i ρ h -> St i ρ h
 done:∀ A F ρ H (s:Shared) (E':Value -> Shared -> Prop),A.handled=none -> d7 w KF F ρ H s.heap (gt s) -> G H -> St xs.length ρ s.heap ->
  ax (aA prog w) A (cS (.ref I)) (fun r s'=>r=none /\ w2 fp s s') E' s
 self:∀ A i ρ (s:Shared) (K:Value -> Shared -> Prop) (E':Value -> Shared -> Prop),St i ρ s.heap -> K (.ref I) s -> ax (aA prog w) A (pyIter (.ref I)) K E' s
section
variable (prog:Program) (w:World) (KF:Frag) (d:Nat) (E:i7)
noncomputable def aT7 (H:List O) (v:V) (xs:List V) (G:List O -> Prop) (T:Expr -> Prop):Prop :=
 ∀ A F ρ s u,k9 A d F.fr -> d7 w KF F ρ H s.heap (gt s) -> VR ρ s.heap v u -> ax (aA prog w) A (pyIter u) (fun it s'=>∃ I fp St Md,it=.ref I /\ O7 prog w KF I fp xs G St Md T /\ St 0 ρ s'.heap /\ o8 s.heap s'.heap /\ (s'.gens=s.gens /\ s.toks <= s'.toks) /\ s'.os=s.os /\ ∀ b∈fp,s.heap.get? b=none) (HE w KF F ρ s E) s
noncomputable abbrev J8 (H:List O) (v:V) (xs:List V) (G:List O -> Prop):Prop:=aT7 prog w KF d E H v xs G fun _=>True
end
section
variable {prog:Program} {w:World} {KF:Frag} {fi:FI} {d:Nat} {E:EP} {m:b8} {H:List O}
theorem ca2 {A:Around} {s:Shared} {R:cR -> Shared -> Prop} {target it body orelse env} (I:Nat -> Shared -> Prop)
 (turn:∀ n s,I n s -> ax (aA prog w) A (cS it) (fun r s₁=>match r with
  | none=>ax (aA prog w) A (execs orelse env) (fun f s3=>R (.ok f) s3) (gQ (aA prog w) A env fun e s'=>R (.error e) s') s₁
  | some v=>ax (aA prog w) A (iM target it v) (fun _ s₀=>ax (aA prog w) A (dk target env v) (fun _ s2=>ax (aA prog w) A (execs body env) (fun f s3=>match f with
   | .next | .cont=>∃ m,m < n /\ I m s3
   | .brk=>R (.ok .next) s3
   | .ret v=>R (.ok (.ret v)) s3) (gQ (aA prog w) A env fun e s'=>R (.error e) s') s2) (gQ (aA prog w) A env fun e s'=>R (.error e) s') s₀) (gQ (aA prog w) A env fun e s'=>R (.error e) s') s₁) (gQ (aA prog w) A env fun e s'=>R (.error e) s') s)
 (n:Nat) (h:I n s):ft (aA prog w) A (.forLoop target it body orelse env) R s:=by
 refine codeAny_loop' rfl I (fun n s hI=>?_) n h
 show ax _ _ ((forTurn target it body orelse env).onRaise (fun x=>do noteFrame x env; theTreesLotGoes x)) _ _ s
 refine wpAny_noted ?_
 dsimp only [forTurn]
 refine ab (cO (ab (wpAny_onRaise (ar (turn n s hI) (fun r s₁ h₁=>?_) fun _ _ h'=>cO h'))))
 cases r with
 | none=>exact ac (.inr ⟨rfl,codeAny_block h₁⟩)
 | some v =>
  refine ab (ar h₁ (fun _ s₀ h₀=>?_) fun _ _ h'=>h')
  refine ab (ar h₀ (fun _ s2 h2=>ab (ar h2 (fun f s3 h3=>?_) fun _ _ h'=>h')) fun _ _ h'=>h')
  cases f with
  | next=>exact ac (.inl ⟨rfl,h3⟩)
  | cont=>exact ac (.inl ⟨rfl,h3⟩)
  | brk=>exact ac h3
  | ret v=>exact ac h3
theorem SE.unbase {env:Env} {F:d6} {ρ:List b7} {s:Shared} {h:Heap} {fp:List Nat} {e:Value} {s':Shared} (x:SE w KF fi env (w1 F h fp) ρ s E e s'):SE w KF fi env F ρ s E e s':=let ⟨_,_,_,_,_,_,x,_⟩:=x; x.elim
theorem w2.step {fp:List Nat} {s s':Shared} {ρ:List b7} (c:w2 fp s s'):f0 ρ s ρ s':=.same c.2.2.1 c.2.1 (by rw [c.1.1]; exact ao _)
theorem aT8 {target:Expr} {body:List Stmt} {Q:Fl -> b8 -> List O -> Prop} {A:Around} {env:Env} {F:d6} {ρ ρ1:List b7} {s s2:Shared} {H1:List O} {I:Nat} {fp:List Nat} {xs:List V} {G:List O -> Prop} {St:Nat -> List b7 -> Heap -> Prop} {Md:Value -> Nat -> List b7 -> Heap -> Prop} {T:Expr -> Prop} (hA:k9 A d (n6 env F)) (st2:f0 ρ s ρ1 s2) (S2:d8 w KF fi env m F ρ1 H1 s2.heap (gt s2))
 (IT:O7 prog w KF I fp xs G St Md T) (hSt:St 0 ρ1 s2.heap) (off2:z6 fi env F ρ1 fp) (ht:T target) (J:Nat -> b8 -> List O -> Prop) (hJ0:J 0 m H1) (hJG:∀ i m H,J i m H -> G H)
 (hT:∀ i x m H,xs[i]?=some x -> J i m H -> WA prog w KF fi d E m H target x fun m2 H2=>WB prog w KF fi d E m2 H2 body fun f m3 H3=>match f with | .next | .cont=>J (i+1) m3 H3 | .brk=>Q .next m3 H3 | .ret v=>Q (.ret v) m3 H3)
 (hD:∀ m H,J xs.length m H -> Q .next m H) :
 ft (aA prog w) A (.forLoop target (.ref I) body [] env) (fun r s'=>match r with | .ok f=>D2 w KF fi env F ρ s Q f s' | .error e=>cameBackBy (aA prog w) A env (SE w KF fi env F ρ s E) e s') s2:=by
 refine ca2 (R:=fun r s'=>match r with | .ok f=>D2 w KF fi env F ρ s Q f s' | .error e=>cameBackBy (aA prog w) A env (SE w KF fi env F ρ s E) e s')
  (fun k s3=>∃ i ρ3 m3 H3,f0 ρ s ρ3 s3 /\ d8 w KF fi env m3 F ρ3 H3 s3.heap (gt s3) /\ St i ρ3 s3.heap /\ z6 fi env F ρ3 fp /\ J i m3 H3 /\ i <= xs.length /\ k=xs.length+1 - i) ?_ (xs.length+1) (W5 0 ρ1 m H1 st2 S2 hSt off2 hJ0 (bm _) rfl)
 (intro k s3; refine bv2 fun i ρ3 m3 H3 st3 S3 hSt3 off3 hJ hi qz9=>?_; subst qz9)
 by_cases hlt:i < xs.length
 · refine ar (IT.item A _ ρ3 H3 s3 i xs[i] _ hA.hd S3.toH (hJG _ _ _ hJ) hSt3 (aq hlt)) (fun r s4=>au2 fun v e rv hSt4 c4=>?_) fun _ _ x=>x
   subst e
   have S4:=S3.chg off3 c4
   refine ar (IT.lot A (i+1) ρ3 s4 target v _ hSt4 ht) (fun _ s₅=>m8 fun hSt5 c₅=>?_) fun _ _ x=>x
   have S5:=S4.chg off3 c₅
   have st5:=(st3.trans c4.step).trans c₅.step
   have hl:=IT.live _ _ _ hSt5
   refine wpAny_passesOwn al3 (ar (hT i _ m3 H3 (aq hlt) hJ A env (w1 F s₅.heap _) ρ3 s₅ v hA (S5.rebase off3) (rv.mono (az _) c₅.2.2.1)) (fun _ s₆=>AQ.el fun ρ6 H6 m₆ st6 S₆ h6=>?_) fun _ _ x=>x.unbase.step st5)
   have st6':=st5.trans st6
   refine wpAny_passesOwn al3 (ar (h6 A env (w1 F s₅.heap _) ρ6 s₆ hA S₆) (fun f s₇ hx=>?_) fun _ _ x=>x.unbase.step st6')
   obtain ⟨ρ7,H7,m₇,fl,st7,S₇,rf,h7⟩:=hx
   (refine l9 (S5.unbase off3 hl (st6.trans st7).1 (st6.trans st7).2.2.2 S₇) fun U offU kU=>?_)
   have st7':=st6'.trans st7
   have hSt7:St (i+1) ρ7 s₇.heap:=IT.frame _ _ _ _ _ hSt5 (st6.trans st7).1 (st6.trans st7).2.1 kU
   cases fl with
   | next=>cases rf; exact (aM9 (xs.length+1 - (i+1)) (by exact nq5 hlt) (i+1) ρ7 m₇ H7 st7' U hSt7 offU h7 hlt rfl)
   | cont=>cases rf; exact (aM9 (xs.length+1 - (i+1)) (by exact nq5 hlt) (i+1) ρ7 m₇ H7 st7' U hSt7 offU h7 hlt rfl)
   | brk=>cases rf; exact ⟨ρ7,H7,m₇,.next,st7',U,rfl,h7⟩
   | ret v=>(refine b9 rf fun u qz10 r=>?_; try clear rf; subst qz10); exact ⟨ρ7,H7,m₇,.ret v,st7',U,(c5 u rfl r),h7⟩
 · have hin:i=xs.length:=by omega
   subst hin
   refine ar (IT.done A _ ρ3 H3 s3 _ hA.hd S3.toH (hJG _ _ _ hJ) hSt3) (fun r s4=>m8 fun e c4=>?_) fun _ _ x=>x
   subst e
   exact wpAny_execs_nil ⟨ρ3,H3,m3,.next,st3.trans c4.step,S3.chg off3 c4,rfl,hD _ _ hJ⟩
theorem ca3 {target iter:Expr} {body:List Stmt} {pos:Pos} {Q:Fl -> b8 -> List O -> Prop}
 (h:WE prog w KF fi d E m H iter fun v H1=>∃ xs G T,aT7 prog w KF d (Em E m) H1 v xs G T /\ T target /\ ∃ J:Nat -> b8 -> List O -> Prop,J 0 m H1 /\ (∀ i m H,J i m H -> G H) /\
  (∀ i x m H,xs[i]?=some x -> J i m H -> WA prog w KF fi d E m H target x fun m2 H2=>WB prog w KF fi d E m2 H2 body fun f m3 H3=>match f with | .next | .cont=>J (i+1) m3 H3 | .brk=>Q .next m3 H3 | .ret v=>Q (.ret v) m3 H3) /\
  (∀ m H,J xs.length m H -> Q .next m H)) (hs:∀ env x,gH iter env x=pure x:=by intro _ _; rfl):WS prog w KF fi d E m H (.For target iter body [] pos) Q :=
 fun A env F ρ s hA S=>by
  refine wpAny_For (ar (h A env F ρ s hA S) (fun u s₁ hx=>?_) fun _ _ x=>x) (hs env)
  (obtain ⟨ρ1,H1,v,st1,S1,r,qz11⟩:=hx; refine bt2 qz11 fun xs G T hI ht J hJ0 hJG hT hD=>?_; clear qz11)
  have hI':=hI A _ ρ1 s₁ u hA S1.toH r
  refine ar hI' (fun it s2 hx=>?_) (fun _ _=>HE.el fun _ _ _ _ _ x _=>x.elim)
  (refine aj0 hx fun I fp St Md e IT hSt hk hg ho hf=>?_; try clear hx)
  subst e
  have S2:d8 w KF fi env m F ρ1 H1 s2.heap (gt s2):=(S1.keeps hk).gte hg.1 hg.2
  have off2:=S1.fresh hf
  have st2:f0 ρ s ρ1 s2:=st1.trans (.same (.of_keep hk) ho (by rw [hg.1]; exact ao _))
  exact aT8 hA st2 S2 IT hSt off2 ht J hJ0 hJG hT hD
theorem ay8 {target iter:Expr} {body:List Stmt} {pos:Pos} {Q:Fl -> b8 -> List O -> Prop}
 (h:WE prog w KF fi d E m H iter fun v H1=>∃ xs G,J8 prog w KF d (Em E m) H1 v xs G /\ ∃ J:Nat -> b8 -> List O -> Prop,J 0 m H1 /\ (∀ i m H,J i m H -> G H) /\
  (∀ i x m H,xs[i]?=some x -> J i m H -> WA prog w KF fi d E m H target x fun m2 H2=>WB prog w KF fi d E m2 H2 body fun f m3 H3=>match f with | .next | .cont=>J (i+1) m3 H3 | .brk=>Q .next m3 H3 | .ret v=>Q (.ret v) m3 H3) /\
  (∀ m H,J xs.length m H -> Q .next m H)) (hs:∀ env x,gH iter env x=pure x:=by intro _ _; rfl):WS prog w KF fi d E m H (.For target iter body [] pos) Q :=
 ca3 (h.mono fun v H=>W0 fun xs G hI r=>(T5 xs G _ hI trivial r)) hs
end
end
section
set_option tactic.hygienic false
section
variable {prog:Program} {w:World} {KF:Frag} {A:Around} {E:i7} {d:Nat} {H:List O}
theorem ae7 {s:Shared} {I:Nat} {o:Obj} {n:String} {t:Expr} {v:Value} {K:Unit -> Shared -> Prop} {E':Value -> Shared -> Prop} (ho:s.heap.get? I=some o) (hc:o.cls=.type n)
 (hn:["enumerate","zip","dict_itemiterator","dict_reverseitemiterator","odict_iterator","itertools.zip_longest","itertools.pairwise"].contains n=false) (h:K () s):ax (aA prog w) A (iM t (.ref I) v) K E' s:=by
 have main:ax (aA prog w) A (do
  let (.ref r,.ref a):=(Value.ref I,v) | return
  let o <- load r
  match o.cls,o.data with
  | .type n,.fields vs =>
   if ["enumerate","zip","dict_itemiterator","dict_reverseitemiterator","odict_iterator","itertools.zip_longest","itertools.pairwise"].contains n&&vs[0]?==some (rawInt a) then
    rule "for.unpacks-the-owned-tuple"
    updateField r 0 .none
  | _,_=>pure ():Sem Unit) K E' s:=by
  cases v with
  | ref a =>
   refine ab (wpAny_load ho ?_)
   rw [hc]
   cases hd:o.data with
   | fields vs =>
    dsimp only
    rw [hn,Bool.false_and,if_neg (by decide)]
    exact ac h
   | _=>exact ac h
  | _=>exact ac h
 cases t with
 | Tuple=>exact main
 | List=>exact main
 | _=>exact ac h
theorem F5 {s:Shared} {I:Nat} {h':Heap} {tk:Nat} (x:∀ b o,b≠I -> s.heap.get? b=some o -> h'.get? b=some o) (hi:∀ o,s.heap.get? I=some o -> ¬ O1 o) (ht:s.toks <= tk:=by first | exact ao _ | exact aY _):w2 [I] s { s with heap:=h',toks:=tk } :=
 (m5 ⟨rfl,ht⟩ rfl (.of_ext x hi) (fun b o hb e=>x b o (fun q=>hb (q▸au.mpr rfl)) e))
theorem F6 {h:Heap} {a:Nat} {o:Obj} {n:String} {vs:Array Value} (ho:h.get? a=some o) (hc:o.cls=.type n) (hd:o.data=.fields vs) (hn:n≠"range"):∀ q,h.get? a=some q -> ¬ O1 q:=fun q hq=>by
 rw [ho] at hq; cases hq
 rintro (⟨⟨xs,k,z⟩,_⟩ | ⟨z,_⟩)
 · rw [hd] at z; cases z
 · rw [hc] at z; cases z; exact hn rfl
theorem ca4 {a:Int} {n:Nat} {I:Nat}:O7 prog w KF I [I] ((cB n).map fun i=>V.int (a+(i:Nat))) (fun _=>True) (fun i _ h=>IsRangeIter h I (a+(i:Nat)) ((n:Int) - (i:Nat)) 1) (fun _=>fun i _ h=>IsRangeIter h I (a+(i:Nat)) ((n:Int) - (i:Nat)) 1) (fun _=>True) where
 frame:=fun i ρ h ρ' h' st _ _ k=>k I (.head _) _ st
 live:=fun i ρ h st b hb=>by rw [au.mp hb]; exact ⟨_,st⟩
 lot:=fun A i ρ s t v E' st _=>ae7 st rfl (by decide) ⟨st,.refl⟩
 item:=fun A F ρ H s i x E' hh S _ st hx=>by
  have hi:i < n:=by have:=(ae.mp hx).1; simpa using this
  have hx':x=V.int (a+(i:Nat)):=by rw [aU,List.getElem?_range hi] at hx; exact (cE hx).symm
  refine wpAny_pyNext_range_item st (by omega) fun h' hit' hs'=>(G9 _ rfl ?_ ?_ (F5 (fun b o hb e=>hs'.extBut b o hb e) (F6 st rfl rfl (by decide))))
  · rw [hx']; unfold VR; exact ⟨_,rfl⟩
  · have e1:a+((i+1:Nat):Int)=a+(i:Nat)+1:=(Int.add_assoc a i 1).symm
    have e2:(n:Int) - ((i+1:Nat):Int)=(n:Int) - (i:Nat) - 1:=(Int.sub_sub n i 1).symm
    show IsRangeIter h' I (a+((i+1:Nat):Int)) ((n:Int) - ((i+1:Nat):Int)) 1
    rw [e1,e2]; exact hit'
 pl:=fun _ _ _ _ _ x=>x
 done:=fun A F ρ H s E' hh S _ st=>by
  rw [aD,dn] at st
  exact wpAny_pyNext_range_end hh st (by exact bx9) fun h' he'=>⟨rfl,F5 (fun b o hb e=>he' b o hb e) (F6 st rfl rfl (by decide))⟩
 self:=fun A i ρ s K E' st hK=>wpAny_pyIter_rangeiter st hK
theorem ca5 {l:Nat} {xs:List V} {I:Nat}:O7 prog w KF I [I] xs (fun H=>H[l]?=some (.list xs) \/ H[l]?=some (.arr xs)) (fun i ρ h=>∃ e,ρ[l]?=some e /\ h.IsListIter I e.a i) (fun _=>fun i ρ h=>∃ e,ρ[l]?=some e /\ h.IsListIter I e.a i) (fun _=>True) where
 frame:=fun i ρ h ρ' h'=>bu4 fun e he o ho r p _ k=>⟨e,z4 p he,o,k I (.head _) o ho,r⟩
 live:=fun i ρ h=>bu6 fun e he o ho hc hd b hb=>by rw [au.mp hb]; exact ⟨o,ho⟩
 lot:=fun A i ρ s t v E' st _=>by (refine b9 (id st) fun e he qz1=>?_; refine o0 qz1 fun o ho hc hd=>?_; clear qz1); exact ae7 ho hc (by decide) ⟨st,.refl⟩
 item:=fun A F ρ H s i x E' hh S hG st hx=>by
  (refine b9 st fun e he st=>?_)
  have hr:∃ vs:List Value,s.heap.IsList e.a vs.toArray /\ c8 ρ s.heap xs vs:=by
   rcases hG with hG | hG
   · (refine w5 (S.ob l e _ he hG) fun _ _ vs a b=>?_); exact (c5 vs a.isList b)
   · (refine n9 (S.ob l e _ he hG) fun _ _ qz2 _=>?_; obtain ⟨vs,a,b⟩:=qz2); exact (c5 vs a b)
  (refine b9 hr fun vs hl hv=>?_; try clear hr)
  (refine b9 (hv.get hx) fun v hv1 hv2=>?_)
  (refine o0 (id st) fun o ho hc hd=>?_)
  refine wpAny_pyNext_list_item st hl (x:=v) (by simpa using hv1) fun h' hit' hs'=>?_
  have c:w2 [I] s { s with heap:=h',toks:=s.toks }:=F5 (fun b o hb e=>hs'.extBut b o hb e) (F6 ho hc hd (by decide))
  exact (G9 v rfl (hv2.mono (az _) c.2.2.1) (c5 e he hit') c)
 pl:=fun _ _ _ _ _ x=>x
 done:=fun A F ρ H s E' hh S hG st=>by
  (refine b9 st fun e he st=>?_)
  have hr:∃ vs:List Value,s.heap.IsList e.a vs.toArray /\ c8 ρ s.heap xs vs:=by
   rcases hG with hG | hG
   · (refine w5 (S.ob l e _ he hG) fun _ _ vs a b=>?_); exact (c5 vs a.isList b)
   · (refine n9 (S.ob l e _ he hG) fun _ _ qz3 _=>?_; obtain ⟨vs,a,b⟩:=qz3); exact (c5 vs a b)
  (refine b9 hr fun vs hl hv=>?_; try clear hr)
  (refine o0 (id st) fun o ho hc hd=>?_)
  exact wpAny_pyNext_list_end hh st hl (by simp [hv.len]) fun h' he'=>⟨rfl,F5 (tk:=s.toks) (fun b o hb e=>he' b o hb e) (F6 ho hc hd (by decide))⟩
 self:=fun A i ρ s K E'=>J6 fun e he st hK=>wpAny_pyIter_listiter st hK
theorem aT9 {ty:String} {x:Str} {t:Tok} {I:Nat} (hty:(ty="str_ascii_iterator" \/ ty="str_iterator")):O7 prog w KF I [I] (x.cps.toList.map fun c=>V.str ⟨#[c]⟩) (fun _=>True) (fun i _ h=>h.IsStrIter I ty x t i) (fun _=>fun i _ h=>h.IsStrIter I ty x t i) (fun _=>True) where
 frame:=fun i ρ h ρ' h'=>J6 fun o ho r p _ k=>(c5 o (k I (.head _) o ho) r)
 live:=fun i ρ h=>aj2 fun o ho hc hd b hb=>by rw [au.mp hb]; exact ⟨o,ho⟩
 lot:=fun A i ρ s t v E' st _=>by (refine o0 (id st) fun o ho hc hd=>?_); exact ae7 ho hc (by rcases hty with rfl | rfl<;>decide) ⟨st,.refl⟩
 item:=fun A F ρ H s i y E' hh S hG st hx=>by
  (refine o0 (id st) fun o ho hc hd=>?_)
  have ni:=F6 ho hc hd (by rcases hty with rfl | rfl<;>decide)
  rw [aU] at hx
  (refine b9 (bp.mp hx) fun c hc' hy=>?_)
  have hx':x.cps[i]?=some c:=by simpa using hc'
  rcases hty with rfl | rfl
  · exact wpAny_pyNext_ascii_item st hx' fun h' hit' hs'=>(G9 _ rfl (by rw [<- hy]; unfold VR; exact ⟨_,rfl⟩) hit' (F5 (fun b o hb e=>hs'.extBut b o hb e) ni))
  · exact wpAny_pyNext_wide_item st hx' fun h' hit' hs'=>(G9 _ rfl (by rw [<- hy]; unfold VR; exact ⟨_,rfl⟩) hit' (F5 (fun b o hb e=>hs'.extBut b o hb e) ni))
 pl:=fun _ _ _ _ _ x=>x
 done:=fun A F ρ H s E' hh S hG st=>by
  (refine o0 (id st) fun o ho hc hd=>?_)
  have ni:=F6 ho hc hd (by rcases hty with rfl | rfl<;>decide)
  rcases hty with rfl | rfl
  · exact wpAny_pyNext_ascii_end hh st (by simp) fun h' he'=>⟨rfl,F5 (tk:=s.toks) (fun b o hb e=>he' b o hb e) ni⟩
  · exact wpAny_pyNext_wide_end hh st (by simp) fun h' he'=>⟨rfl,F5 (tk:=s.toks) (fun b o hb e=>he' b o hb e) ni⟩
 self:=fun A i ρ s K E' st hK=>by
  rcases hty with rfl | rfl
  · exact wpAny_pyIter_striter_ascii st hK
  · exact wpAny_pyIter_striter_wide st hK
theorem ca6 {xs:List V} {I:Nat}:O7 prog w KF I [I] xs (fun _=>True) (fun i ρ h=>∃ a vs,h.IsTupleIter I a i /\ h.IsTuple a (ch vs) /\ c8 ρ h xs vs) (fun _=>fun i ρ h=>∃ a vs,h.IsTupleIter I a i /\ h.IsTuple a (ch vs) /\ c8 ρ h xs vs) (fun _=>True) where
 frame:=fun i ρ h ρ' h' ⟨a,vs,⟨o,ho,r⟩,t,q⟩ p tk k=>⟨a,vs,⟨o,k I (.head _) o ho,r⟩,ae3 tk t,q.mono p tk⟩
 live:=fun i ρ h=>W0 fun a vs qz4 _=>o0 qz4 fun o ho hc hd b hb=>by rw [au.mp hb]; exact ⟨o,ho⟩
 lot:=fun A i ρ s t v E' st _=>by (refine B5 (id st) fun a vs qz5 _=>?_; obtain ⟨o,ho,hc,hd⟩:=qz5); exact ae7 ho hc (by decide) ⟨st,.refl⟩
 item:=fun A F ρ H s i x E' hh S hG st hx=>by
  (refine e8 st fun a vs st ht hv=>?_)
  (refine b9 (hv.get hx) fun v hv1 hv2=>?_)
  (refine o0 (id st) fun o ho hc hd=>?_)
  refine wpAny_pyNext_tuple_item st ht (x:=v) (by simpa using hv1) fun h' hit' hs'=>?_
  have c:w2 [I] s { s with heap:=h',toks:=s.toks }:=F5 (fun b o hb e=>hs'.extBut b o hb e) (F6 ho hc hd (by decide))
  exact (G9 v rfl (hv2.mono (az _) c.2.2.1) (A3 a vs hit' (ae3 c.2.2.1 ht) (hv.mono (az _) c.2.2.1)) c)
 pl:=fun _ _ _ _ _ x=>x
 done:=fun A F ρ H s E' hh S hG st=>by
  (refine e8 st fun a vs st ht hv=>?_)
  (refine o0 (id st) fun o ho hc hd=>?_)
  exact wpAny_pyNext_tuple_end hh st ht (by simp [hv.len]) fun h' he'=>⟨rfl,F5 (tk:=s.toks) (fun b o hb e=>he' b o hb e) (F6 ho hc hd (by decide))⟩
 self:=fun A i ρ s K E'=>W0 fun a vs st _ hK=>wpAny_pyIter_tupleiter st hK
theorem ca7 {a b:Int} (ha:-(2 ^ 61) <= a /\ a < 2 ^ 61) (hb:-(2 ^ 61) <= b /\ b < 2 ^ 61):aP.Range.small a b 1=true /\ aP.Range.rangeSize a b 1=(((b - a).toNat:Nat):Int):=by
 have e:aP.Range.rangeSize a b 1=(((b - a).toNat:Nat):Int):=by
  rw [rangeSize_one]
  split
  · exact (Int.toNat_of_nonneg (Int.sub_nonneg_of_le (Int.le_of_lt (by assumption)))).symm
  · rw [Int.toNat_of_nonpos (Int.sub_nonpos_of_le (Int.not_lt.mp (by assumption)))]; rfl
 refine ⟨?_,e⟩
 unfold aP.Range.small
 rw [e]
 unfold aP.Range.rangeFitsLong
 simp
 have k:∀ {c:Int},-(2 ^ 61) <= c /\ c < 2 ^ 61 -> -9223372036854775808 <= c /\ c < 9223372036854775808:=fun h=>⟨Int.le_trans (by decide) h.1,Int.lt_of_lt_of_le h.2 (by decide)⟩
 exact ⟨⟨⟨k ha,k hb⟩,Int.le_trans (by decide) (Int.le_max_right _ _),Int.max_lt.mpr ⟨Int.lt_of_lt_of_le (Int.sub_lt_sub_of_lt_of_le hb.2 ha.1) (by decide),by decide⟩⟩,.inr (k hb)⟩
theorem aU0 {a b:Int} (ha:-(2 ^ 61) <= a /\ a < 2 ^ 61) (hb:-(2 ^ 61) <= b /\ b < 2 ^ 61):J8 prog w KF d E H (.rng a b) ((cB (b - a).toNat).map fun i=>V.int (a+(i:Nat))) (fun _=>True):=fun A F ρ s u hA S r=>by
 unfold VR at r
 (refine b9 r fun r qz6 qz7=>?_; refine B4 qz7 fun t u k hr=>?_; clear qz7; subst qz6)
 (refine d0 (ca7 ha hb) fun hs hn=>?_)
 refine wpAny_pyIter_range hr hs (W5 _ ([_]) _ _ rfl (ca4 (a:=a) (n:=(b - a).toNat)) ?_ (fun _ _ e=>ak _ e) ⟨rfl,ao _⟩ rfl (fun b hb=>by rw [au.mp hb]; exact z5 _))
 rw [hn]
 show IsRangeIter _ _ (a+((0:Nat):Int)) (((b - a).toNat:Int) - ((0:Nat):Int)) 1
 rw [show a+((0:Nat):Int)=a from Int.add_zero a,show (((b - a).toNat:Int) - ((0:Nat):Int))=((b - a).toNat:Int) from Int.sub_zero _]
 exact aK _ rfl
theorem O8 {l:Nat} {xs:List V} (hl:H[l]?=some (.list xs) \/ H[l]?=some (.arr xs)):J8 prog w KF d E H (.ref l) xs (fun H=>H[l]?=some (.list xs) \/ H[l]?=some (.arr xs)):=fun A F ρ s u hA S r=>by
 unfold VR at r
 (refine b9 r fun e he qz8=>?_; try clear r; subst qz8)
 have hr:∃ vs:List Value,s.heap.IsList e.a vs.toArray /\ c8 ρ s.heap xs vs:=by
  rcases hl with hG | hG
  · (refine w5 (S.ob l e _ he hG) fun _ _ vs a b=>?_); exact (c5 vs a.isList b)
  · (refine n9 (S.ob l e _ he hG) fun _ _ qz9 _=>?_; obtain ⟨vs,a,b⟩:=qz9); exact (c5 vs a b)
 (refine b9 hr fun vs hl hv=>?_; try clear hr)
 exact wpAny_pyIter_list hl (W5 _ ([_]) _ _ rfl (ca5 (l:=l)) ⟨e,he,_,aK _ rfl,rfl,rfl⟩ (fun _ _ e=>ak _ e) ⟨rfl,ao _⟩ rfl (fun b hb=>by rw [au.mp hb]; exact z5 _))
theorem ca8 {x:Str}:J8 prog w KF d E H (.str x) (x.cps.toList.map fun c=>V.str ⟨#[c]⟩) (fun _=>True):=fun A F ρ s u hA S r=>by
 unfold VR at r
 (refine c0 r fun t qz10=>?_; try clear r; subst qz10)
 cases ha:x.cps.all (· < 128)
 · exact wpAny_pyIter_wide ha (W5 _ ([_]) _ _ rfl (aT9 (x:=x) (t:=t) (.inr rfl)) (i0 _ (aK _ rfl) rfl rfl) (fun _ _ e=>ak _ e) ⟨rfl,ao _⟩ rfl (fun b hb=>by rw [au.mp hb]; exact z5 _))
 · exact wpAny_pyIter_ascii ha (W5 _ ([_]) _ _ rfl (aT9 (x:=x) (t:=t) (.inl rfl)) (i0 _ (aK _ rfl) rfl rfl) (fun _ _ e=>ak _ e) ⟨rfl,ao _⟩ rfl (fun b hb=>by rw [au.mp hb]; exact z5 _))
theorem ca9 {xs:List V}:J8 prog w KF d E H (.tup xs) xs (fun _=>True):=fun A F ρ s u hA S r=>by
 unfold VR at r
 (refine e8 r fun a vs qz11 ht hv=>?_; try clear r; subst qz11)
 have k:o8 s.heap (s.heap.push { cls:=.type "tuple_iterator",data:=.fields #[.ref a,.int 0 0] }):=fun _ _ e=>ak _ e
 exact wpAny_pyIter_tuple ht (W5 _ ([_]) _ _ rfl ca6 (A3 a vs (i0 _ (aK _ rfl) rfl rfl) (ht.push _) (hv.mono (az _) (.of_keep k))) k ⟨rfl,ao _⟩ rfl (fun b hb=>by rw [au.mp hb]; exact z5 _))
end
end
section
noncomputable def Z7 (sc' sc:Scope):Scope:={ sc' with names:=sc'.names.map fun (n,k)=>if (k==.free&&sc.kind==.function&&sc.names.lookup n==some .cell) then (n,.cell) else (n,k) }
noncomputable def ci (sc':Scope) (fi:FI):FI:=⟨Z7 sc' fi.sc,false,fi.co⟩
noncomputable def T9 (sc':Scope):b8:=(sc'.names.filter fun x=>x.2==.local).map fun x=>(x.1,none)
noncomputable def w3 (cells:List (Str×Nat)) (names:List (Str×NameKind)):List (Str×Nat):=((names.filter fun x=>x.2==.free).map fun x=>(x.1,(cells.lookup x.1).getD 0)).reverse
theorem ay9 {env:Env}:∀ (names:List (Str×NameKind)) (acc:List (Str×Nat)),(∀ n,(n,NameKind.free)∈names -> ∃ c,env.cells.lookup n=some c) ->
 (forIn names acc fun x r=>match x with | (name,kind)=>if (kind==NameKind.free)=true then do let a <- cellOf env name; pure (ForInStep.yield ((name,a)::r)) else (pure (ForInStep.yield r):Sem (ForInStep (List (Str×Addr)))))=pure (w3 env.cells names++acc)
 | [],acc,_=>rfl
 | (n,k)::r,acc,h=>by
  rw [cG]
  cases q:(k==NameKind.free) with
  | true =>
   have hk:k=.free:=by simpa using q
   subst hk
   (refine c0 (h n (.head _)) fun c hc=>?_)
   have e:cellOf env n=pure c:=by unfold cellOf; rw [hc]
   simp only [beq_self_eq_true,if_true,e]
   refine (ay9 (env:=env) r ((n,c)::acc) (fun n' hn'=>h n' (.tail _ hn'))).trans (congrArg pure ?_)
   simp [w3,List.filter_cons,hc]
  | false =>
   simp only [q,bq,if_false]
   refine (ay9 (env:=env) r acc (fun n' hn'=>h n' (.tail _ hn'))).trans (congrArg pure ?_)
   simp [w3,List.filter_cons,q]
theorem cb0 {env:Env} {sc':Scope} (h:∀ n,(n,NameKind.free)∈sc'.names -> ∃ c,env.cells.lookup n=some c):closureFor sc' env=pure (w3 env.cells sc'.names):=by
 dsimp only [closureFor]
 have:=ay9 (env:=env) sc'.names [] h
 rw [bg] at this
 rw [this]
 rfl
structure Q7 (sc':Scope) (fi:FI):Prop where
 nd:(sc'.names.map (·.1)).Nodup
 nc:∀ x∈sc'.names,x.2≠.cell
 kd:sc'.kind=.function
 fr':∀ p∈sc'.names,p.2=.free -> fi.sc.names.lookup p.1=some .cell \/ fi.sc.names.lookup p.1=some .free
theorem Q7.fr {sc':Scope} {fi:FI} (h:Q7 sc' fi) (n:Str) (hn:(n,NameKind.free)∈sc'.names):fi.sc.names.lookup n=some .cell \/ fi.sc.names.lookup n=some .free:=h.fr' _ hn rfl
theorem M2 {α:Type}:∀ {l:List (Str×α)} {x:Str} {k:α},(l.map (·.1)).Nodup -> (x,k)∈l -> l.lookup x=some k
 | [],_,_,_,h=>nomatch h
 | (y,j)::l,x,k,nd,h=>by
  rw [aR,dP] at nd
  rw [bB]
  rcases aJ.mp h with q | q
  · cases q; rw [beq_self_eq_true]
  · have:(x==y)=false:=by
     cases e:(x==y) with
     | false=>rfl
     | true=>exact absurd (aV.mpr (c5 _ q (by simpa using e))) nd.1
    rw [this]; exact M2 nd.2 q
theorem ae8 {cells:List (Str×Nat)} {names:List (Str×NameKind)} {x:Str} {c:Nat}:(x,c)∈w3 cells names↔(x,NameKind.free)∈names /\ c=(cells.lookup x).getD 0:=by
 unfold w3
 rw [List.mem_reverse,aV]
 constructor
 · (refine J6 fun qz1 hm e=>?_; obtain ⟨y,k⟩:=qz1)
   (refine d0 (cT.mp hm) fun h1 h2=>?_)
   cases e
   have:k=.free:=by simpa using h2
   subst this
   exact ⟨h1,rfl⟩
 · (refine m8 fun h qz2=>?_; subst qz2)
   exact (c5 (x,.free) (cT.mpr ⟨h,rfl⟩) rfl)
theorem az0 {cells:List (Str×Nat)} {names:List (Str×NameKind)} {x:Str} (h:(x,NameKind.free)∈names):(w3 cells names).lookup x=some ((cells.lookup x).getD 0):=by
 have hm:(x,(cells.lookup x).getD 0)∈w3 cells names:=ae8.mpr ⟨h,rfl⟩
 have:∀ l:List (Str×Nat),(∀ y c,(y,c)∈l -> c=(cells.lookup y).getD 0) -> (x,(cells.lookup x).getD 0)∈l -> l.lookup x=some ((cells.lookup x).getD 0):=by
  intro l
  induction l with
  | nil=>intro _ h; cases h
  | cons p r ih =>
   obtain ⟨k,c⟩:=p
   intro h1 h2
   rw [bB]
   cases e:(x==k) with
   | true =>
    have:x=k:=by simpa using e
    subst this
    show some c=_
    rw [h1 x c (.head _)]
   | false =>
    rcases aJ.mp h2 with q | q
    · exfalso
      have:x=k:=(Prod.mk.inj q).1
      rw [this,beq_self_eq_true] at e; cases e
    · exact ih (fun y c hy=>h1 y c (.tail _ hy)) q
 exact this _ (fun y c hy=>(ae8.mp hy).2) hm
theorem aU1 {l:List Str} {m:b8} {x:Str}:p0 (l.map (fun y=>(y,none))++m) x=if x∈l then none else p0 m x:=by
 induction l with
 | nil=>rfl
 | cons y l ih =>
  unfold p0 at ih ⊢
  rw [aR,List.cons_append,bB]
  cases e:(x==y) with
  | true =>
   have:x=y:=by simpa using e
   rw [if_pos (by rw [this]; exact .head _)]; rfl
  | false =>
   have hne:x≠y:=by simpa using e
   show (List.lookup x _).join=_
   rw [ih]
   by_cases q:x∈l
   · rw [if_pos q,if_pos (.tail _ q)]
   · rw [if_neg q,if_neg (fun h=>by rcases aJ.mp h with h | h; exact hne h; exact q h)]
theorem aU2 (sc':Scope):T9 sc'=((sc'.names.filter fun x=>x.2==.local).map (·.1)).map fun y=>(y,none):=by unfold T9; rw [bu]; rfl
section
variable {prog:Program} {w:World} {KF:Frag} {fi:FI} {d:Nat} {E:EP} {m:b8} {H:List O}
variable {env:Env} {F:d6} {ρ:List b7} {h:Heap} {gs:GT}
theorem cb1 (S:d8 w KF fi env m F ρ H h gs) (sc':Scope):relabel sc' env=Z7 sc' fi.sc:=by unfold relabel Z7 cJ; rw [S.es]
theorem al4 {sc' sc:Scope} {x:Str} {k:NameKind} (h:(Z7 sc' sc).names.lookup x=some k):(∃ k',(x,k')∈sc'.names /\ (k'=k \/ (k'=.free /\ k=.cell))):=by
 have hm:(x,k)∈(Z7 sc' sc).names:=mem_of_lookup h
 unfold Z7 at hm
 (refine b9 (aV.mp hm) fun qz3 h1 h2=>?_; obtain ⟨y,k'⟩:=qz3)
 dsimp only at h2
 split at h2
 · rename_i hc
   cases h2
   refine (c5 k' h1 (.inr ⟨?_,rfl⟩))
   simp only [Bool.and_eq_true,beq_iff_eq] at hc
   exact hc.1.1
 · cases h2; exact (c5 _ h1 (.inl rfl))
theorem d8.fr_lo (S:d8 w KF fi env m F ρ H h gs) (h':Heap):∃ L∈(t0 F h' env (j8 fi env)).lo,env.frame=some L:=by
 rcases S.ef with q | ⟨L,hL,q⟩
 · refine (c5 _ ?_ q)
   show env.locals∈(n6 env F).filterMap (·.frame)
   unfold n6
   rw [if_pos q,fL,q]
   exact .head _
 · exact (c5 L (ay3.1 L hL) q)
theorem d8.comp_fr (S:d8 w KF fi env m F ρ H h gs) {C:Nat} {sc':Scope} {cl:List (Str×Nat)} {h':Heap} (hF:F.f C=none) (ho:C ∉ j8 fi env):n6 (fB sc' cl C env) (t0 F h' env (j8 fi env))=n6 env F:=by
 have hne:env.frame≠some C:=fun q=>by
  rcases S.ef with z | ⟨L,hL,z⟩
  · rw [z] at q; cases q; exact ho (Q5 fi env)
  · rw [z] at q; cases q; exact S.hs.fo.off hF hL
 show (if env.frame=some C then _ else n6 env F)=_
 rw [if_neg hne]
theorem cb2 {sc':Scope} (hok:Q7 sc' fi) (S:d8 w KF fi env m F ρ H h gs) {C:Nat} {mv:Str -> Option Value} (hn:h.Ns C mv) (hF:F.f C=none) (hp:C ∉ q0 ρ) (ho:C ∉ j8 fi env) :
 d8 w KF (ci sc' fi) (fB sc' (w3 env.cells sc'.names) C env) (T9 sc'++m) (t0 F h env (j8 fi env)) ρ H h gs:=by
 have free_cell:∀ x,(x,NameKind.free)∈sc'.names -> ∃ c,env.cells.lookup x=some c:=fun x hx=>S.ce x (hok.fr x hx)
 have cells:∀ x c,(w3 env.cells sc'.names).lookup x=some c -> env.cells.lookup x=some c /\ (x,NameKind.free)∈sc'.names:=fun x c hc=>by
  (refine d0 (ae8.mp (mem_of_lookup hc)) fun h1 h2=>?_)
  (refine c0 (free_cell x h1) fun c' hc'=>?_)
  rw [hc'] at h2
  exact ⟨by rw [hc',h2]; rfl,h1⟩
 have notloc:∀ x,(x,NameKind.free)∈sc'.names -> p0 (T9 sc'++m) x=p0 m x:=fun x hx=>by
  rw [aU2,aU1,if_neg]
  intro q
  (refine b9 (aV.mp q) fun qz4 hm qz5=>?_; obtain ⟨y,k⟩:=qz4; subst qz5)
  (refine d0 (cT.mp hm) fun h1 h2=>?_)
  have e1:=M2 hok.nd hx
  have e2:=M2 hok.nd h1
  rw [e1] at e2
  cases e2
  simp at h2
 refine ⟨S.toH,?_,S.eg,S.eb,S.ec,hok.kd,.inr (S.fr_lo h),fun b hb=>?_,(c5 mv hn (fun x hx=>?_)),fun x c hc=>?_,fun x hx=>?_,fun x hx=>?_,fun x c hc=>?_,?_,fun _ x c hc=>?_⟩
 · exact cb1 S sc'
 · have:b=C:=by simpa [j8,ci,fB] using hb
   subst this
   rw [O3 ho]
   exact ⟨hF,hp⟩
 · have:p0 (T9 sc'++m) x=none:=by
    rw [aU2,aU1,if_pos]
    (refine b9 (al4 hx) fun k' h1 qz6=>?_; obtain rfl | ⟨_,h2⟩:=qz6)
    · exact aV.mpr (c5 _ (cT.mpr ⟨h1,rfl⟩) rfl)
    · cases h2
   rw [this]; trivial
 · (refine d0 (cells x c hc) fun h1 h2=>?_)
   (refine b9 (S.cl x c h1) fun ov hi hv=>?_)
   rw [notloc x h2]
   exact (c5 ov hi hv)
 · have hf:(x,NameKind.free)∈sc'.names:=by
    rcases hx with hx | hx
    · (refine b9 (al4 hx) fun k' h1 qz7=>?_; obtain rfl | ⟨rfl,_⟩:=qz7)
      · exact absurd rfl (hok.nc _ h1)
      · exact h1
    · (refine b9 (al4 hx) fun k' h1 qz8=>?_; obtain rfl | ⟨_,h2⟩:=qz8)
      · exact h1
      · cases h2
   exact ⟨_,az0 hf⟩
 · cases q:(w3 env.cells sc'.names).lookup x with
   | none=>exact q
   | some c =>
    exfalso
    (refine d0 (cells x c q) fun _ h2=>?_)
    (refine b9 (al4 hx) fun k' h1 qz9=>?_; obtain rfl | ⟨_,h3⟩:=qz9)
    · have e1:=M2 hok.nd h1
      have e2:=M2 hok.nd h2
      rw [e1] at e2; cases e2
    · cases h3
 · (refine d0 (ae8.mp hc) fun h1 h2=>?_)
   have hl:=az0 (cells:=env.cells) h1
   rw [<- h2] at hl
   refine ⟨hl,fun q=>?_⟩
   (refine d0 (cells x c hl) fun h3 _=>?_)
   have q:c=C:=q
   subst q
   rcases S.cell_own (L8 h3) with z | z
   · exact ho z
   · rw [hF] at z; cases z
 · show (w3 env.cells sc'.names).Pairwise _
   unfold w3
   rw [List.pairwise_reverse,du]
   have nd2:(sc'.names.filter fun x=>x.2==.free).Pairwise fun a b=>a.1≠b.1:=by
    have:sc'.names.Pairwise fun a b=>a.1≠b.1:=du.mp hok.nd
    exact this.filter _
   refine nd2.imp_of_mem ?_
   (intro qz10; obtain ⟨x,kx⟩:=qz10; intro qz11; obtain ⟨y,ky⟩:=qz11; intro hx hy hxy e)
   have gx : (x, NameKind.free) ∈ sc'.names := by (refine d0 (cT.mp hx) fun a b => ?_)
                                                  have q:kx=.free:=by simpa using b
                                                  rw [<- q]; exact a
   have gy : (y, NameKind.free) ∈ sc'.names := by (refine d0 (cT.mp hy) fun a b => ?_)
                                                  have q:ky=.free:=by simpa using b
                                                  rw [<- q]; exact a
   (refine c0 (free_cell x gx) fun cx hcx=>?_)
   (refine c0 (free_cell y gy) fun cy hcy=>?_)
   have e':cy=cx:=by simpa [hcx,hcy] using e
   subst e'
   exact hxy (aT3 S.cd (L8 hcx) (L8 hcy))
 · (refine d0 (cells x c (by
    (refine d0 (ae8.mp hc) fun h1 h2=>?_)
    rw [h2]; exact az0 h1)) fun h1 _=>?_)
   rcases S.cell_own (L8 h1) with z | z
   · rw [Z4 z]
     (refine b9 (S.cl x c h1) fun ov qz12 _=>?_; obtain ⟨o,ho,_⟩:=qz12)
     rw [ho]; rfl
   · by_cases q:c∈j8 fi env
     · rw [Z4 q]
       (refine b9 (S.cl x c h1) fun ov qz13 _=>?_; obtain ⟨o,ho,_⟩:=qz13)
       rw [ho]; rfl
     · rw [O3 q]; exact z
end
theorem cb3 {prog:Program} {w:World} {A:Around} {R:cR -> Shared -> Prop} {s:Shared} {elt target iter:Expr} {ifs:List Expr} {scope:Scope} {pos:Pos} {it acc:Value} {env:Env} (I:Nat -> Shared -> Prop)
 (turn:∀ n s,I n s -> ax (aA prog w) A (cS it) (fun r s₁=>match r with
  | none=>R (.ok .next) s₁
  | some v=>ax (aA prog w) A (iM target it v) (fun _ s₀=>ax (aA prog w) A (dk target env v) (fun _ s2 =>
   ax (aA prog w) A (forIn ifs true fun c r=>if r=true then do let ok <- isTrue c env (eval c env); pure (ForInStep.yield ok) else pure (ForInStep.yield r)) (fun ok s3 =>
    if ok=true then ax (aA prog w) A (eval elt env) (fun x s4 =>
     ax (aA prog w) A (call (.builtin "list.append") [acc,x]) (fun _ s₅=>∃ m,m < n /\ I m s₅) (gQ (aA prog w) A env fun e s'=>R (.error e) s') s4) (gQ (aA prog w) A env fun e s'=>R (.error e) s') s3
    else ∃ m,m < n /\ I m s3) (gQ (aA prog w) A env fun e s'=>R (.error e) s') s2) (gQ (aA prog w) A env fun e s'=>R (.error e) s') s₀) (gQ (aA prog w) A env fun e s'=>R (.error e) s') s₁) (gQ (aA prog w) A env fun e s'=>R (.error e) s') s)
 (n:Nat) (h:I n s) :
 ft (aA prog w) A (.compLoop (.ListComp elt [⟨target,iter,ifs,0⟩] scope pos) 0 it acc env) R s:=by
 refine codeAny_loop rfl I (fun n s hI=>?_) n h
 show ax _ A ((compTurn (.ListComp elt [⟨target,iter,ifs,0⟩] scope pos) 0 it acc env).onRaise (fun x=>do noteFrame x env; theTreesLotGoes x)) _ _ s
 refine wpAny_noted ?_
 rw [compTurn_list]
 refine ab (cO (ab (ar (turn n s hI) (fun r s₁ h₁=>?_) fun _ _ h'=>h')))
 cases r with
 | none=>exact ac h₁
 | some v =>
  refine ab (ar h₁ (fun _ s₀ h₀=>?_) fun _ _ h'=>h')
  refine ab (ar h₀ (fun _ s2 h2=>ab (ar h2 (fun ok s3 h3=>?_) fun _ _ h'=>h')) fun _ _ h'=>h')
  cases ok with
  | false=>exact ac ⟨rfl,h3⟩
  | true =>
   exact ab (ab (ar h3 (fun x s4 h4=>ab (ar h4 (fun _ s₅ h5=>ac (ac ⟨rfl,h5⟩)) fun _ _ h'=>h')) fun _ _ h'=>h'))
section
variable (prog:Program) (w:World) (KF:Frag) (fi:FI) (d:Nat) (E:EP)
noncomputable def WTs (m:b8) (H:List O):List Expr -> (Bool -> List O -> Prop) -> Prop
 | [],Q=>Q true H
 | [c],Q=>WT prog w KF fi d E m H c Q
 | _,_=>False
noncomputable def aU3 (m:b8) (H:List O) (elt target:Expr) (ifs:List Expr) (sc':Scope) (v:V) (Q:List V -> List O -> Prop):Prop :=
 ∃ xs G,J8 prog w KF d (Em E m) H v xs G /\ xs.length <= aB /\ ∃ J:Nat -> List V -> List O -> Prop,J 0 [] H /\ (∀ i ys H,J i ys H -> G H /\ ys.length <= i) /\
  (∀ i x ys H,xs[i]?=some x -> J i ys H -> WA prog w KF (ci sc' fi) d E (T9 sc'++m) H target x fun m2 H2=>WTs prog w KF (ci sc' fi) d E m2 H2 ifs fun b H3=>if b=true then WE prog w KF (ci sc' fi) d E m2 H3 elt fun y H4=>J (i+1) (ys++[y]) H4 else J (i+1) ys H3) /\
  (∀ ys H,J xs.length ys H -> Q ys H)
end
end
section
set_option tactic.hygienic false
theorem F7 {w:World} {KF:Frag} {fi:FI} {E:EP} {env:Env} {F:d6} {ρ:List b7} {s:Shared} {e:Value} {s':Shared} (x:SE w KF fi env F ρ s E e s'):False:=let ⟨_,_,_,_,_,_,x,_⟩:=x; x
theorem cb4 {h:Heap} {l:Nat} {items:Array Value} (f:Array Value -> Array Value) (x:h.PlainList l items):(h.update l (bw f)).PlainList l (f items):=by
 (refine c0 x fun n e=>?_; try clear x)
 exact ⟨_,bM _ e rfl⟩
theorem aU4 {prog:Program} {w:World} {A:Around} {E:Value -> Shared -> Prop} {s:Shared} {l:Nat} {its:Array Value} {x:Value} {Q:Value -> Shared -> Prop} (hl:s.heap.PlainList l its)
 (hQ:∀ h',h'.PlainList l (its.push x) -> gP l s.heap h' -> Q .none { s with heap:=h' }) (hsz:its.size <= aB):ax (aA prog w) A (call (.builtin "list.append") [.ref l,x]) Q E s:=by
 (refine c0 (id hl) fun n ho=>?_)
 refine bP slot_list_append hl.isList.typeIs entry_list_append ?_ (args_list_append _ _)
 show ax _ _ (gW l (·.push x) >>= fun _=>ret .none) _ _ s
 refine ab ?_
 exact dy ho rfl (ac (c5 .none rfl (hQ _ (cb4 _ hl) (ii ..)))) (hz:=hsz)
section
variable {prog:Program} {w:World} {KF:Frag} {fi:FI} {d:Nat} {E:EP} {m:b8} {H:List O}
theorem cb5 {A:Around} {env:Env} {F:d6} {ρ:List b7} {s:Shared} {elt target iter:Expr} {ifs:List Expr} {sc':Scope} {pos:Pos} {I:Nat} {fp:List Nat} {xs:List V} {G:List O -> Prop} {St:Nat -> List b7 -> Heap -> Prop} {Md:Value -> Nat -> List b7 -> Heap -> Prop} (hA:k9 A d (n6 env F)) (hok:Q7 sc' fi)
 (S:d8 w KF fi env m F ρ H s.heap (gt s)) (IT:O7 prog w KF I fp xs G St Md fun _=>True) (hst:St 0 ρ s.heap) (off:z6 fi env F ρ fp) (hsz:xs.length <= aB) (J:Nat -> List V -> List O -> Prop) (hJ0:J 0 [] H) (hJG:∀ i ys H,J i ys H -> G H /\ ys.length <= i)
 (hT:∀ i x ys H,xs[i]?=some x -> J i ys H -> WA prog w KF (ci sc' fi) d E (T9 sc'++m) H target x fun m2 H₂=>WTs prog w KF (ci sc' fi) d E m2 H₂ ifs fun b H3=>if b=true then WE prog w KF (ci sc' fi) d E m2 H3 elt fun y H4=>J (i+1) (ys++[y]) H4 else J (i+1) ys H3)
 {RR:Value -> Nat -> cR -> Shared -> Prop} {E':Value -> Shared -> Prop}
 (hRR:∀ D C ρ' H' ys us mC s',f0 ρ s ρ' s' -> d8 w KF fi env m F ρ' H' s'.heap (gt s') -> s'.heap.PlainList D (ch us) -> c8 ρ' s'.heap ys us -> s'.heap.Ns C mC -> z6 fi env F ρ' [C,D] -> C≠D -> J xs.length ys H' -> RR (.ref D) C (.ok .next) s') :
 ax (aA prog w) A (newList []) (fun acc s3=>ax (aA prog w) A (newFunctionEnv sc' env.globals (w3 env.cells sc'.names) [] env.qual none .none (some env)) (fun cenv s4 =>
  ft (aA prog w) A (.compStart (.ListComp elt [⟨target,iter,ifs,0⟩] sc' pos) 0 (.ref I) acc { cenv with scope:=relabel sc' env }) (RR acc cenv.locals) s4) E' s3) E' s:=by
 refine bC (wpAny_newFunctionEnv hok.nc (by intro y hy; cases hy) (fun h₁ hns1 hsb1=>?_) hok.kd)
 dsimp only at hns1 hsb1 ⊢
 generalize hH2:s.heap.push { cls:=.type "list",dict:=none,data:=.seq ([]:List Value).toArray }=H2 at hns1 hsb1 ⊢
 have hC:H2.objs.size=s.heap.objs.size+1:=by rw [<- hH2,cr]
 generalize hCe:H2.objs.size=C at hns1 hsb1 hC ⊢
 generalize hDe:s.heap.objs.size=D at hC ⊢
 have hDC:C≠D:=by exact by0 hC
 have dead:∀ a,D <= a -> s.heap.get? a=none:=fun a ha=>by
  cases e:s.heap.get? a with
  | none=>rfl
  | some o=>exact absurd (bG e) (bN.mpr (hDe▸ha))
 have old:o8 s.heap h₁:=fun b o e=>hsb1.extBut b o (fun q=>by rw [dead b (by rw [q]; exact av8 hC)] at e; cases e) (ak _ (hH2▸ak _ e))
 have hD:h₁.PlainList D (ch ([]:List Value)):=⟨_,hsb1.extBut _ _ (cP hDC) (ak _ (hH2▸hDe▸aK _ rfl))⟩
 have S1:=S.keeps old
 have offCD:z6 fi env F ρ (C::D::fp):=fun b hb=>by
  rcases aJ.mp hb with rfl | hb
  · exact S.fresh (fp:=[b]) (fun b' hb'=>by rw [au.mp hb']; exact dead _ (by exact av8 hC)) b (.head _)
  rcases aJ.mp hb with rfl | hb
  · exact S.fresh (fp:=[b]) (fun b' hb'=>by rw [au.mp hb']; exact dead _ (ao _)) b (.head _)
  · exact off b hb
 have hCf:C ∉ fp:=fun q=>by (refine c0 (IT.live _ _ _ hst C q) fun o ho=>?_); rw [dead C (by exact av8 hC)] at ho; cases ho
 have hDf:D ∉ fp:=fun q=>by (refine c0 (IT.live _ _ _ hst D q) fun o ho=>?_); rw [dead D (ao _)] at ho; cases ho
 have st1:St 0 ρ h₁:=IT.frame _ _ _ _ _ hst (az _) (.of_keep old) (fun b _ o e=>old b o e)
 have loop:∀ s3:Shared,s3={ s with heap:=h₁,toks:=s.toks+([]:List (Str×Value)).length } ->
  ft (aA prog w) A (.compLoop (.ListComp elt [⟨target,iter,ifs,0⟩] sc' pos) 0 (.ref I) (.ref D) (fB sc' (w3 env.cells sc'.names) C env)) (RR (.ref D) C) s3:=by
  rintro s3 rfl
  refine cb3 (fun k s3=>∃ i ρ3 H3 ys us mC,f0 ρ s ρ3 s3 /\ d8 w KF fi env m F ρ3 H3 s3.heap (gt s3) /\ s3.heap.PlainList D (ch us) /\ c8 ρ3 s3.heap ys us /\ s3.heap.Ns C mC /\ St i ρ3 s3.heap /\ z6 fi env F ρ3 (C::D::fp) /\ J i ys H3 /\ i <= xs.length /\ k=xs.length+1 - i) ?_ (xs.length+1)
   (bx3 0 ρ H ([]) ([]) _ (.same (.of_keep old) rfl) S1 hD .nil hns1 st1 offCD hJ0 (bm _) rfl)
  (intro k s3; refine bv3 fun i ρ3 H3 ys us mC t₃ S3 hD3 ru3 hn3 st3 off3 hJ hi qz1=>?_; subst qz1)
  have offp:z6 fi env F ρ3 fp:=fun b hb=>off3 b (.tail _ (.tail _ hb))
  by_cases hlt:i < xs.length
  · refine ar (IT.item A _ ρ3 H3 s3 i xs[i] _ hA.hd S3.toH (hJG _ _ _ hJ).1 st3 (aq hlt)) (fun r s4=>au2 fun v e rv hSt4 c4=>?_) fun _ _ x=>x
    subst e
    have S4:=S3.chg offp c4
    refine ar (IT.lot A (i+1) ρ3 s4 target v _ hSt4 trivial) (fun _ s₅=>m8 fun hSt5 c₅=>?_) fun _ _ x=>x
    have S5:=S4.chg offp c₅
    have kp:∀ b o,b ∉ fp -> s3.heap.get? b=some o -> s₅.heap.get? b=some o:=fun b o hb e=>c₅.2.2.2 b o hb (c4.2.2.2 b o hb e)
    have tk5:TK s3.heap s₅.heap:=c4.2.2.1.trans c₅.2.2.1
    have t₅:=(t₃.trans c4.step).trans c₅.step
    have hD5:s₅.heap.PlainList D (ch us):=hD3.at fun o e=>kp D o hDf e
    have hn5:s₅.heap.Ns C mC:=hn3.at' fun o e=>kp C o hCf e
    have ru5:=ru3.mono (az _) tk5
    have oC:=off3 C (.head _)
    have oD:=off3 D (.tail _ (.head _))
    have T₅:=cb2 hok S5 hn5 oC.1 oC.2.1 oC.2.2
    have off5:z6 (ci sc' fi) (fB sc' (w3 env.cells sc'.names) C env) (t0 F s₅.heap env (j8 fi env)) ρ3 (D::fp):=fun b hb=>by
     have q:=off3 b (.tail _ hb)
     refine (e9 (by rw [O3 q.2.2]; exact q.1) q.2.1 (fun z=>?_))
     have z':b=C:=by simpa [j8,ci,fB] using z
     subst z'
     rcases aJ.mp hb with z | z
     · exact hDC z
     · exact hCf z
    have live5:∀ b∈D::fp,∃ o,s₅.heap.get? b=some o:=fun b hb=>by
     rcases aJ.mp hb with rfl | hb
     · (refine c0 hD5 fun n e=>?_; try clear hD5); exact ⟨_,e⟩
     · exact IT.live _ _ _ hSt5 b hb
    have fin:∀ m₆ ρ8 H8 (s₈:Shared),f0 ρ3 s₅ ρ8 s₈ -> d8 w KF (ci sc' fi) (fB sc' (w3 env.cells sc'.names) C env) m₆ (w1 (t0 F s₅.heap env (j8 fi env)) s₅.heap (D::fp)) ρ8 H8 s₈.heap (gt s₈) ->
     d8 w KF fi env m F ρ8 H8 s₈.heap (gt s₈) /\ (∃ mC,s₈.heap.Ns C mC) /\ z6 fi env F ρ8 (C::D::fp) /\ s₈.heap.PlainList D (ch us) /\ St (i+1) ρ8 s₈.heap /\ c8 ρ8 s₈.heap ys us:=fun m₆ ρ8 H8 s₈ t T=>by
     (refine l9 (T₅.unbase off5 live5 t.1 t.2.2.2 T) fun U offU kU=>?_)
     refine (Q1 (S5.ofH t.1 t.2.1 U.hs) (b9 (U.ns) fun mv a _=>⟨mv,a⟩) (fun b hb=>(e9 ((off3 b hb).1) ?_ ((off3 b hb).2.2))) (hD5.at fun o e=>kU D (.head _) o e) (IT.frame _ _ _ _ _ hSt5 t.1 t.2.1 (fun b hb=>kU b (.tail _ hb))) (ru5.mono t.1 t.2.1))
     rcases aJ.mp hb with rfl | hb
     · exact (U.lo _ (Q5 _ _)).2
     · exact (offU b hb).2.1
    have hA':k9 A d (n6 (fB sc' (w3 env.cells sc'.names) C env) (t0 F s₅.heap env (j8 fi env))):=by rw [S5.comp_fr oC.1 oC.2.2]; exact hA
    refine ar (hT i _ ys H3 (aq hlt) hJ A _ (w1 (t0 F s₅.heap env (j8 fi env)) s₅.heap (D::fp)) ρ3 s₅ v hA' (T₅.rebase off5) (rv.mono (az _) c₅.2.2.1)) (fun _ s₆=>AQ.el fun ρ6 H6 m₆ t₆ T₆ h6=>?_) fun _ _ x=>(F7 x).elim
    have tests:ax (aA prog w) A (forIn ifs true fun c r=>if r=true then do let ok <- isTrue c (fB sc' (w3 env.cells sc'.names) C env) (eval c (fB sc' (w3 env.cells sc'.names) C env)); pure (ForInStep.yield ok) else pure (ForInStep.yield r))
     (SQ w KF L9 (ci sc' fi) (fB sc' (w3 env.cells sc'.names) C env) m₆ (w1 (t0 F s₅.heap env (j8 fi env)) s₅.heap (D::fp)) ρ6 s₆ fun b H3=>if b=true then WE prog w KF (ci sc' fi) d E m₆ H3 elt fun y H4=>J (i+1) (ys++[y]) H4 else J (i+1) ys H3) (gQ (aA prog w) A (fB sc' (w3 env.cells sc'.names) C env) fun e s'=>RR (.ref D) C (.error e) s') s₆:=by
     match ifs,h6 with
     | [],h6=>exact wpAny_tests_nil ⟨ρ6,H6,true,.refl,T₆,rfl,h6⟩
     | [c],h6=>exact wpAny_tests_one (ar (h6 A _ (w1 (t0 F s₅.heap env (j8 fi env)) s₅.heap (D::fp)) ρ6 s₆ hA' T₆) (fun _ _ x=>x) fun _ _ x=>(F7 x).elim)
     | _::_::_,h6=>exact h6.elim
    refine ar tests (fun ok s₇ hx=>?_) fun _ _ x=>x
    obtain ⟨ρ7,H7,b,t₇,T₇,rb,h7⟩:=hx
    cases rb
    have t57:=t₆.trans t₇
    cases ok with
    | false =>
     (refine N4 (fin _ _ _ _ t57 T₇) fun U qz2 offU hDU stU ruU=>?_; obtain ⟨mC',hC'⟩:=qz2)
     exact (aN0 (xs.length+1 - (i+1)) (by exact nq5 hlt) (i+1) ρ7 H7 ys us mC' (t₅.trans t57) U hDU ruU hC' stU offU h7 hlt rfl)
    | true =>
     refine ar ((show WE prog w KF (ci sc' fi) d E m₆ H7 elt _ from h7) A _ (w1 (t0 F s₅.heap env (j8 fi env)) s₅.heap (D::fp)) ρ7 s₇ hA' T₇) (fun y s₈ hx=>?_) fun _ _ x=>(F7 x).elim
     obtain ⟨ρ8,H8,yv,t₈,T₈,ry,h8⟩:=hx
     have t58:=t57.trans t₈
     (refine N4 (fin _ _ _ _ t58 T₈) fun U qz3 offU hDU stU ruU=>?_; obtain ⟨mC',hC'⟩:=qz3)
     refine aU4 hDU (fun h9 hD9 hs9=>?_) (by rw [aI,ruU.len]; exact ag (hJG _ _ _ hJ).2 (ag hi hsz))
     have c₉:w2 [D] s₈ { s₈ with heap:=h9 }:=F5 (fun b o hb e=>hs9.extBut b o hb e) (ak9 hDU.isList)
     refine (aN0 (xs.length+1 - (i+1)) (by exact nq5 hlt) (i+1) ρ8 H8 (ys++[yv]) (us++[y]) mC' ((t₅.trans t58).trans c₉.step) (U.chg (fun b hb=>by rw [au.mp hb]; exact offU D (.tail _ (.head _))) c₉) (by simpa using hD9) ((ruU.append (.cons ry .nil)).mono (az _) c₉.2.2.1) (hC'.sameBut hs9 hDC) ?_ offU h8 hlt rfl)
     exact IT.frame _ _ _ _ _ stU (az _) c₉.2.2.1 (fun b hb o e=>c₉.2.2.2 b o (fun z=>hDf (au.mp z▸hb)) e)
  · have hin:i=xs.length:=by omega
    subst hin
    refine ar (IT.done A _ ρ3 H3 s3 _ hA.hd S3.toH (hJG _ _ _ hJ).1 st3) (fun r s4=>m8 fun e c4=>?_) fun _ _ x=>x
    subst e
    exact hRR D C ρ3 H3 ys us mC s4 (t₃.trans c4.step) (S3.chg offp c4) (hD3.at fun o e=>c4.2.2.2 D o hDf e) (ru3.mono (az _) c4.2.2.1) (hn3.at' fun o e=>c4.2.2.2 C o hCf e) (fun b hb=>off3 b (by rcases aJ.mp hb with rfl | hb; exact .head _; rw [au.mp hb]; exact .tail _ (.head _))) hDC hJ
 exact codeAny_compStart_list (loop _ rfl) (IT.self A 0 ρ _ _ _ st1 (loop _ rfl))
theorem cb6 {env:Env} {F:d6} {ρ:List b7} {h:Heap} {gs:GT} {D:Nat} {ys:List V} {us:List Value} (S:d8 w KF fi env m F ρ H h gs) (hD:h.PlainList D (ch us)) (r:c8 ρ h ys us) (o:z6 fi env F ρ [D]) :
 d8 w KF fi env m F (ρ++[⟨D,[D],none⟩]) (H++[.list ys]) h gs /\ VR (ρ++[⟨D,[D],none⟩]) h (.ref H.length) (.ref D):=by
 (refine l9 (o D (.head _)) fun o1 o2 o3=>?_)
 refine ⟨S.ofH (aF _ _) (.refl _) (S.toH.adopt (r:=[]) (o:=.list ys) (dP.mpr ⟨fun q=>(nomatch q),iN⟩) (fun b hb=>by rw [au.mp hb]; exact (e9 o2 (by rw [O3 o3]; exact o1) (c0 (hD) fun n e=>⟨_,e⟩))) (W4 rfl rfl us hD (r.mono (aF _ _) (.refl _)))),?_⟩
 unfold VR
 exact (c5 _ (by rw [<- S.hs.len,af]) rfl)
theorem cb7 {env:Env} {F:d6} {ρ:List b7} {h:Heap} {gs:GT} {sc':Scope} (S:d8 w KF fi env m F ρ H h gs) (hok:Q7 sc' fi):closureFor sc' env=pure (w3 env.cells sc'.names):=cb0 fun n hn=>S.ce n (hok.fr n hn)
theorem cb8 {sc':Scope} (hok:Q7 sc' fi):∀ x∈sc'.names,x.2=.local -> sc'.names.lookup x.1=some .local:=fun x hx hl=>by
 obtain ⟨n,k⟩:=x
 cases hl
 exact M2 hok.nd hx
theorem Z8 {elt target iter:Expr} {ifs:List Expr} {sc':Scope} {pos:Pos} {Q:V -> List O -> Prop} (hok:Q7 sc' fi) (h:WE prog w KF fi d E m H iter fun v H1=>aU3 prog w KF fi d E m H1 elt target ifs sc' v fun ys H2=>Q (.ref H2.length) (H2++[.list ys]))
 (hs:∀ env x,gH iter env x=pure x:=by intro _ _; rfl):WE prog w KF fi d E m H (.ListComp elt [⟨target,iter,ifs,0⟩] sc' pos) Q :=
 fun A env F ρ s hA S=>by
  rw [eval_ListComp]
  refine wpAny_comprehension_free (use:=none) rfl (hs env) (cb7 S hok) hok.kd (cb8 hok) (ar (h A env F ρ s hA S) (fun u s₁ hx=>?_) fun _ _ x=>x)
  (obtain ⟨ρ1,H1,v,st1,S1,r,qz4⟩:=hx; refine bs9 qz4 fun xs G hI hsz J hJ0 hJG hT hD=>?_; clear qz4)
  refine ar (hI A _ ρ1 s₁ u hA S1.toH r) (fun it s2 hx=>?_) (fun _ _=>HE.el fun _ _ _ _ _ x _=>x.elim)
  (refine aj0 hx fun I fp St Md e IT hSt hk hg ho hf=>?_; try clear hx)
  subst e
  have S2:d8 w KF fi env m F ρ1 H1 s2.heap (gt s2):=(S1.keeps hk).gte hg.1 hg.2
  have st2:f0 ρ s ρ1 s2:=st1.trans (.same (.of_keep hk) ho (by rw [hg.1]; exact ao _))
  refine cb5 (RR:=fun acc C=>compPost (aA prog w) A _ none _ acc C) hA hok S2 IT hSt (S1.fresh hf) hsz J hJ0 hJG hT ?_
  intro D C ρ' H' ys us mC s' t S' hD' ru hn off hDC hJ
  refine (c5 mC hn (fun h' hs'=>?_))
  have c:w2 [C] s' { s' with heap:=h' }:=F5 (fun b o hb e=>hs'.extBut b o hb e) (ak8 hn)
  have S'':=S'.chg (fun b hb=>by rw [au.mp hb]; exact off C (.head _)) c
  (refine d0 (cb6 S'' (hD'.at fun o e=>c.2.2.2 D o (fun q=>hDC (au.mp q).symm) e) (ru.mono (az _) c.2.2.1) (fun b hb=>by rw [au.mp hb]; exact off D (.tail _ (.head _)))) fun S3 rv=>?_)
  exact ⟨_,_,_,((st2.trans t).trans c.step).trans (.add (.refl _) rfl),S3,rv,hD _ _ hJ⟩
end
end
section
theorem k9.deeper {A:Around} {d:Nat} {F:d6} {env:Env} (h:k9 A (d+1) F.fr) (he:env.frame=some env.locals):k9 (A.deeper env) d (n6 env F):=⟨by unfold n6; rw [if_pos he]; show A.frames.map (env::·)=_; rw [h.fr]; rfl,h.hd,by have:=h.dp; show A.depth+1+4*d < fm; exact by1 this,by have:=h.un; show A.units+3+40*d+200 < cLine; exact by2 this⟩
theorem k9.depth {A:Around} {d:Nat} {l:List Env} (h:k9 A d l):A.depth < fm:=by have:=h.dp; exact by3 this
noncomputable def q8 (o:Obj):FuncData:=match o.data with | .func f=>f | _=>default
structure FnB (KF:Frag) (a:Nat) (o:Obj) (fd:FuncData) (body:List Stmt) (sc:Scope) (ps:List Str):Prop where
 hsc:fd.scope=sc
 hK:KF.lookup a=some o
 hd:o.data=.func fd
 hb:fd.body=.stmts body
 hg:fd.globals=aT
 hbl:fd.builtins=ew
 hcl:fd.closure=[]
 hcd:∃ c oc vs t,fd.code=.ref c /\ KF.lookup c=some oc /\ oc.data=.fields vs /\ vs[1]?=some (.str fd.qualname t)
 hps:ps.Nodup
 hnd:(sc.names.map (·.1)).Nodup
 hkd:∀ p∈ps,sc.names.lookup p=some .local \/ sc.names.lookup p=some .cell
 hco:sc.isCoroutine=false
 hk:sc.kind=.function
 hnf:∀ p∈sc.names,p.2≠.free
structure y3 (KF:Frag) (a:Nat) (o:Obj) (fd:FuncData) (body:List Stmt) (sc:Scope) (ps:List Str):Prop extends FnB KF a o fd body sc ps where
 hbd:∀ us:List Value,us.length=ps.length -> bindArgs fd ⟨us,[]⟩=pure (ps.zip us)
noncomputable abbrev nv (x:String) (v:V):Str×Option V:=(aa x,some v)
noncomputable abbrev nn (x:String):Str×Option V:=(aa x,none)
noncomputable def r0 (sc:Scope) (ps:List Str) (xs:List V):b8:=(sc.names.filter fun x=>x.2==.local||x.2==.cell).map fun x=>(x.1,(ps.zip xs).lookup x.1)
theorem aU5 {sc:Scope} {ps:List Str} {xs:List V} {x:Str} {v:V} (h:p0 (r0 sc ps xs) x=some v):(x,v)∈ps.zip xs:=by
 unfold p0 r0 at h
 have:∀ l:List (Str×NameKind),((l.map fun y=>(y.1,(ps.zip xs).lookup y.1)).lookup x).join=some v -> (ps.zip xs).lookup x=some v:=by
  intro l
  induction l with
  | nil=>intro h; cases h
  | cons p l ih =>
   intro h
   rw [aR,bB] at h
   cases e:(x==p.1) with
   | true =>
    rw [e] at h
    have:x=p.1:=by simpa using e
    rw [this]; exact h
   | false=>rw [e] at h; exact ih h
 exact mem_of_lookup (this _ h)
theorem az2 {ρ:List b7} {h:Heap}:∀ {ps:List Str} {xs:List V} {us:List Value} {x:Str} {v:V},c8 ρ h xs us -> (x,v)∈ps.zip xs -> ∃ u,(x,u)∈ps.zip us /\ VR ρ h v u
 | [],_,_,_,_,_,hm=>nomatch hm
 | p::ps,[],_,_,_,_,hm=>nomatch hm
 | p::ps,y::xs,us,x,v,r,hm=>by
  (refine e8 (r.cons_eq) fun u q qz1 a b=>?_; subst qz1)
  rw [List.zip_cons_cons] at hm
  rcases aJ.mp hm with e | hm
  · cases e; exact (c5 u (.head _) a)
  · (refine b9 (az2 b hm) fun u' h1 h2=>?_)
    exact (c5 u' (.tail _ h1) h2)
theorem ae9 {α:Type}:∀ {ps:List Str} {us:List α},us.length=ps.length -> (ps.zip us).map (·.1)=ps
 | [],_,_=>by simp
 | p::ps,[],h=>by simp at h
 | p::ps,u::us,h=>by rw [List.zip_cons_cons,aR,ae9 (iz h)]
theorem aU6 {kindOf:Str -> Option NameKind}:∀ {binds:List (Str×Value)} {m:Str -> Option Value} {x:Str} {u:Value},(binds.map (·.1)).Nodup -> kindOf x=some .local -> ((x,u)∈binds -> bindL kindOf binds m x=some u) /\ (x ∉ binds.map (·.1) -> bindL kindOf binds m x=m x)
 | [],m,x,u,_,_=>⟨fun h=>(nomatch h),fun _=>rfl⟩
 | (n,v)::r,m,x,u,nd,hk=>by
  rw [aR,dP] at nd
  unfold bindL
  (refine d0 (aU6 (binds:=r) (m:=if kindOf n=some .local then fun y=>if y=n then some v else m y else m) (x:=x) (u:=u) nd.2 hk) fun i1 i2=>?_)
  refine ⟨fun h=>?_,fun h=>?_⟩
  · rcases aJ.mp h with e | h
    · cases e
      rw [i2 nd.1,if_pos hk]
      exact if_pos rfl
    · exact i1 h
  · rw [aR,aJ,not_or] at h
    rw [i2 h.2]
    split
    · exact if_neg h.1
    · rfl
theorem aU7 {kindOf:Str -> Option NameKind}:∀ {binds:List (Str×Value)} {m:Str -> Option Value} {x:Str} {u:Value},(binds.map (·.1)).Nodup -> kindOf x≠some .local -> ((x,u)∈binds -> bindC kindOf binds m x=some u) /\ (x ∉ binds.map (·.1) -> bindC kindOf binds m x=m x)
 | [],m,x,u,_,_=>⟨fun h=>(nomatch h),fun _=>rfl⟩
 | (n,v)::r,m,x,u,nd,hk=>by
  rw [aR,dP] at nd
  unfold bindC
  (refine d0 (aU7 (binds:=r) (m:=if kindOf n=some .local then m else fun y=>if y=n then some v else m y) (x:=x) (u:=u) nd.2 hk) fun i1 i2=>?_)
  refine ⟨fun h=>?_,fun h=>?_⟩
  · rcases aJ.mp h with e | h
    · cases e
      rw [i2 nd.1,if_neg hk]
      exact if_pos rfl
    · exact i1 h
  · rw [aR,aJ,not_or] at h
    rw [i2 h.2]
    split
    · rfl
    · exact if_neg h.1
theorem az3:∀ {names:List (Str×NameKind)} {n:Nat} {acc:List (Str×Nat)} {x:Str} {c:Nat},(x,c)∈gX n names acc -> (x,c)∈acc \/ (x,NameKind.cell)∈names
 | [],_,_,_,_,h=>.inl h
 | (y,k)::r,n,acc,x,c,h=>by
  unfold gX at h
  split at h
  · rename_i hk
    have hk:k=.cell:=by simpa using hk
    subst hk
    rcases az3 h with h | h
    · rcases aJ.mp h with e | h
      · cases e; exact .inr (.head _)
      · exact .inl h
    · exact .inr (.tail _ h)
  · rcases az3 h with h | h
    · exact .inl h
    · exact .inr (.tail _ h)
theorem al5:∀ {names:List (Str×NameKind)} {n:Nat} {acc:List (Str×Nat)},(gX n names acc).map (·.1)=((names.filter fun x=>x.2==.cell).map (·.1)).reverse++acc.map (·.1)
 | [],_,_=>rfl
 | (y,k)::r,n,acc=>by
  unfold gX
  split
  · rename_i hk
    have hk:k=.cell:=by simpa using hk
    subst hk
    rw [al5]
    simp
  · rename_i hk
    rw [al5]
    have:(k==NameKind.cell)=false:=by simpa using hk
    simp [List.filter_cons,this]
theorem al6 {names:List (Str×NameKind)} {n:Nat} (nd:(names.map (·.1)).Nodup):((gX n names []).map (·.1)).Nodup:=by
 rw [al5,fC,bg]
 refine (List.reverse_perm _).nodup_iff.mpr ?_
 have:(names.filter fun x=>x.2==.cell).Pairwise fun a b=>a.1≠b.1:=(du.mp nd).filter _
 exact du.mpr this
theorem al7 {names:List (Str×NameKind)} {n:Nat} {x:Str} (h:(x,NameKind.cell)∈names):∃ c,(x,c)∈gX n names []:=by
 have:x∈(gX n names []).map (·.1):=by
  rw [al5,fC,bg,List.mem_reverse]
  exact aV.mpr (c5 _ (cT.mpr ⟨h,rfl⟩) rfl)
 (refine b9 (aV.mp this) fun qz2 hm qz3=>?_; obtain ⟨y,c⟩:=qz2; subst qz3)
 exact ⟨c,hm⟩
section
variable {prog:Program} {w:World} {KF:Frag} {d:Nat} {E:i7} {H:List O} {a:Nat} {o:Obj} {fd:FuncData} {body:List Stmt} {sc:Scope} {ps:List Str} {xs:List V}
theorem az4 {F:d6} {ρ:List b7} {s s₁:Shared} {us:List Value} (K:FnB KF a o fd body sc ps) (hlen:xs.length=ps.length) (S:d7 w KF F ρ H s.heap (gt s)) (r:c8 ρ s.heap xs us)
 (X:InCallC s (dD fd s.heap.objs.size a).locals (bindL (dD fd s.heap.objs.size a).kindOf (ps.zip us) fun _=>none) (dD fd s.heap.objs.size a).cells (bindC (dD fd s.heap.objs.size a).kindOf (ps.zip us) fun _=>none) s₁) (ht:s.toks <= s₁.toks) :
 f0 ρ s ρ s₁ /\ d8 w KF ⟨sc,true,fd.code⟩ (dD fd s.heap.objs.size a) (r0 sc ps xs) F ρ H s₁.heap (gt s₁):=by
 have hsc:=K.hsc
 subst hsc
 (refine B5 (X.done) fun h₁ tk qz4 hk=>?_; subst qz4)
 have hul:us.length=ps.length:=r.len.trans hlen
 have hkeys:((ps.zip us).map (·.1)).Nodup:=by rw [ae9 hul]; exact K.hps
 have hkind:∀ x,(dD fd s.heap.objs.size a).kindOf x=fd.scope.names.lookup x:=fun _=>rfl
 have dead:∀ b,s.heap.objs.size <= b -> s.heap.get? b=none:=fun b hb=>by
  cases e:s.heap.get? b with
  | none=>rfl
  | some o=>exact absurd (bG e) (bN.mpr hb)
 have hL:(dD fd s.heap.objs.size a).locals=s.heap.objs.size:=rfl
 have cells_eq:(dD fd s.heap.objs.size a).cells=gX (s.heap.objs.size+1) fd.scope.names []:=rfl
 have cu:∀ x c,(x,c)∈(dD fd s.heap.objs.size a).cells -> (dD fd s.heap.objs.size a).cells.lookup x=some c:=fun x c hc=>M2 (al6 K.hnd) hc
 have kc:∀ x c,(x,c)∈(dD fd s.heap.objs.size a).cells -> fd.scope.names.lookup x=some .cell:=fun x c hc=>by
  rcases az3 (show (x,c)∈gX (s.heap.objs.size+1) fd.scope.names [] from hc) with h | h
  · cases h
  · exact M2 K.hnd h
 have hs1:d7 w KF F ρ H h₁ (gt s):=S.keeps hk
 have tk1:TK s.heap h₁:=.of_keep hk
 refine ⟨.same tk1 rfl,hs1.tk ht,rfl,K.hg,K.hbl,rfl,K.hk,.inl rfl,fun b hb=>?_,?_,fun x c hc=>?_,fun x hx=>?_,fun x hx=>?_,fun x c hc=>⟨cu x c hc,cZ (X.above x c hc)⟩,X.apart,fun q=>by cases q⟩
 · have hge:s.heap.objs.size <= b:=by
    unfold j8 at hb
    rw [if_pos rfl] at hb
    rcases aJ.mp hb with e | hb
    · rw [e]; exact ao _
    · (refine b9 (aV.mp hb) fun qz5 hm qz6=>?_; obtain ⟨x,c⟩:=qz5; subst qz6)
      exact Nat.le_of_lt (X.above x c hm)
   refine ⟨?_,fun q=>?_⟩
   · cases q:F.f b with
     | none=>rfl
     | some o=>(refine b9 (S.keep _ _ q) fun o' e' _=>?_); rw [dead b hge] at e'; cases e'
   · (refine c0 (S.live b q) fun o ho=>?_); rw [dead b hge] at ho; cases ho
 · refine (c5 _ X.toInCall.ns (fun x hx=>?_))
   cases q:p0 (r0 fd.scope ps xs) x with
   | none=>trivial
   | some v =>
    (refine b9 (az2 r (aU5 q)) fun u hm hv=>?_)
    rw [(aU6 hkeys ((hkind x).trans hx)).1 hm]
    exact hv.mono (az _) tk1
 · refine (c5 _ (X.cell x c hc) ?_)
   cases q:p0 (r0 fd.scope ps xs) x with
   | none=>trivial
   | some v =>
    (refine b9 (az2 r (aU5 q)) fun u hm hv=>?_)
    rw [(aU7 hkeys (by rw [hkind,kc x c (mem_of_lookup hc)]; decide)).1 hm]
    exact hv.mono (az _) tk1
 · rcases hx with hx | hx
   · (refine c0 (al7 (n:=s.heap.objs.size+1) (mem_of_lookup hx)) fun c hc=>?_)
     exact ⟨c,cu x c hc⟩
   · exact absurd rfl (K.hnf _ (mem_of_lookup hx))
 · cases q:(dD fd s.heap.objs.size a).cells.lookup x with
   | none=>rfl
   | some c=>have:=kc x c (mem_of_lookup q); rw [this] at hx; cases hx
theorem az5 (K:FnB KF a o fd body sc ps) {h:Heap} (B:Bs w KF h):h.get? a=some o /\ h.CodeRec fd.code fd.qualname:=by
 (refine au0 (K.hcd) fun c oc vs t h1 h2 h3 h4=>?_)
 exact ⟨B.k _ _ K.hK,c,oc,vs,t,h1,B.k _ _ h2,h3,h4⟩
theorem al8 {dv:List Value} {ds:List V} {Q:V -> List O -> Prop} (K:FnB KF a o fd body sc ps) (hgen:sc.isGenerator=false) (hlen:(xs++ds).length=ps.length) (hdv:∀ ρ h,c8 ρ h ds dv)
 (hb:∀ (s:Shared) (us:List Value),Bs w KF s.heap -> us.length=xs.length -> BindsTo s fd ⟨us,[]⟩ (ps.zip (us++dv)))
 (h:WB prog w KF ⟨sc,true,fd.code⟩ d (fun _ _ _=>False) (r0 sc ps (xs++ds)) H body fun f m' H'=>match f with | .ret v=>Q v H' | .next=>Q .none H' | _=>False):i5 prog w KF (d+1) E H (.st a) xs Q :=
 fun A F ρ s u us hA S ru r=>by
  have hsc:=K.hsc
  subst hsc
  unfold VR at ru
  subst ru
  have B:=S.b
  (refine d0 (az5 K B) fun ho hcd=>?_)
  have r':c8 ρ s.heap (xs++ds) (us++dv):=r.append (hdv _ _)
  have hul:(us++dv).length=ps.length:=r'.len.trans hlen
  refine cU (codeAny_call_function hA.depth ho K.hd K.hco hgen K.hb hcd (hb s us B r.len _ _ _ _ ?_))
  rw [K.hcl]
  refine bA (ao _) (hU K.hk (fun x hx=>?_) fun env he s₁ X ht=>?_)
  · have hx1:x.1∈ps:=by rw [<- ae9 hul]; exact aV.mpr (c5 x hx rfl)
    rcases K.hkd x.1 hx1 with q | q
    · exact .inl q
    · (refine c0 (al7 (n:=s.heap.objs.size+1) (mem_of_lookup q)) fun c hc=>?_)
      exact .inr ⟨q,by rw [M2 (al6 K.hnd) hc]; rfl⟩
  · subst he
    (refine d0 (az4 K hlen S r' X ht) fun st1 S1=>?_)
    refine ⟨S1.b.lim,codeAny_func (ar (h _ _ F ρ s₁ (hA.deeper rfl) S1) (fun f s2 hx=>?_) (fun _ _ x=>(F7 x).elim))⟩
    obtain ⟨ρ2,H2,m2,fl,st2,S2,rf,h2⟩:=hx
    cases fl with
    | next=>cases rf; exact ⟨ρ2,H2,.none,st1.trans st2,S2.hs,by unfold VR; rfl,h2⟩
    | ret v=>(refine b9 rf fun u qz7 r=>?_; try clear rf; subst qz7); exact ⟨ρ2,H2,v,st1.trans st2,S2.hs,r,h2⟩
    | brk=>exact h2.elim
    | cont=>exact h2.elim
theorem E3 {Q:V -> List O -> Prop} (K:y3 KF a o fd body sc ps) (hgen:sc.isGenerator=false) (hlen:xs.length=ps.length)
 (h:WB prog w KF ⟨sc,true,fd.code⟩ d (fun _ _ _=>False) (r0 sc ps xs) H body fun f m' H'=>match f with | .ret v=>Q v H' | .next=>Q .none H' | _=>False):i5 prog w KF (d+1) E H (.st a) xs Q :=
 al8 (ds:=[]) (dv:=[]) K.toFnB hgen (by rw [bg]; exact hlen) (fun _ _=>.nil) (fun _ us _ hl=>by rw [bg]; exact BindsTo.of_eq (K.hbd us (hl.trans hlen))) (by rw [bg]; exact h)
end
section
variable {prog:Program} {w:World} {KF:Frag} {fi:FI} {d:Nat} {E:EP} {m:b8} {H:List O}
theorem Z9 {es:List Expr} {pos:Pos} {Q:List V -> List O -> Prop} {f:Value} (h:w7 prog w KF fi d E m H es Q) {A:Around} {env:Env} {F:d6} {ρ:List b7} {s:Shared} (hA:k9 A d (n6 env F)) (S:d8 w KF fi env m F ρ H s.heap (gt s)) :
 ax (aA prog w) A (evalArgs f true (dX pos (es.map fun e=>(false,eval e env))) []) (fun x s'=>x.kw=[] /\ SQ w KF c8 fi env m F ρ s Q x.pos s') (SE w KF fi env F ρ s E) s:=by
 cases es with
 | nil=>exact PyProof.Rows.evalArgs_none ⟨rfl,ρ,H,[],.refl,S,.nil,h⟩
 | cons e es=>exact fg (ar (ay4 h A env F ρ s hA S) (fun us s' q=>⟨rfl,q⟩) fun _ _ x=>x)
theorem d9 {Q:List V -> List O -> Prop} (h:Q [] H):w7 prog w KF fi d E m H [] Q:=h
noncomputable def t8 (KF:Frag):V -> Prop
 | .bi _=>True
 | .ty _=>True
 | .st a=>keepIn KF (.ref a)=true
 | _=>False
theorem O9 {es:List Expr} {pos:Pos} {env:Env}:(dX pos (es.map fun e=>(false,eval e env))).any (·.1)=false:=by
 unfold dX
 rw [bu]
 induction es with
 | nil=>rfl
 | cons e es ih=>rw [aR,List.any_cons,ih]; rfl
theorem az6 {es:List Expr} {pos:Pos} {f:V} {first:List V} {Q:V -> List O -> Prop} (hf:t8 KF f) (h:w7 prog w KF fi d E m H es fun vs H2=>i5 prog w KF d (Em E m) H2 f (first++vs) Q) {A:Around} {env:Env} {F:d6} {ρ:List b7} {s:Shared} {u:Value} {us:List Value} (hA:k9 A d (n6 env F)) (S:d8 w KF fi env m F ρ H s.heap (gt s)) (ru:VR ρ s.heap f u) (rus:c8 ρ s.heap first us) :
 ax (aA prog w) A (dT pos u us (dX pos (es.map fun e=>(false,eval e env))) []) (SQ w KF VR fi env m F ρ s Q) (SE w KF fi env F ρ s E) s:=by
 have key:∀ (x:Args) (s₁:Shared),(x.kw=[] /\ SQ w KF c8 fi env m F ρ s (fun vs H2=>i5 prog w KF d (Em E m) H2 f (first++vs) Q) x.pos s₁) -> ax (aA prog w) A (call u (us++x.pos) x.kw) (SQ w KF VR fi env m F ρ s Q) (SE w KF fi env F ρ s E) s₁:=by
  (intro x s₁; intro qz8; refine d0 qz8 fun hkw qz9=>?_; clear qz8; obtain ⟨ρ1,H1,vs,st1,S1,rv,h₁⟩:=qz9)
  rw [hkw]
  exact m6 st1 (lift S1 fun F' q T=>h₁ A F' ρ1 s₁ u _ (q▸hA) T (ru.mono st1.1 st1.2.1) ((rus.mono st1.1 st1.2.1).append rv)) fun _ _ x=>x.step st1
 cases f with
 | bi id =>
  unfold VR at ru; subst ru
  exact gq O9 (ar (Z9 h hA S) key fun _ _ x=>x)
 | ty id =>
  unfold VR at ru; subst ru
  exact ij O9 (ar (Z9 h hA S) key fun _ _ x=>x)
 | st a =>
  unfold VR at ru; subst ru
  refine callWith_of (by rw [O9]; rfl) (keeps_K (K:=KF) hf) (ar (Z9 h hA S) (fun x s₁ hx=>⟨?_,key x s₁ hx⟩) fun _ _ x=>x)
  (refine d0 hx fun _ qz10=>?_; try clear hx; obtain ⟨ρ1,H1,vs,st1,S1,_⟩:=qz10)
  exact S1.b.k
 | _=>exact hf.elim
theorem cb9 {func:Expr} {args:List Expr} {pos:Pos} {Q:V -> List O -> Prop} (h:WE prog w KF fi d E m H func fun f H1=>t8 KF f /\ w7 prog w KF fi d E m H1 args fun vs H2=>i5 prog w KF d (Em E m) H2 f vs Q)
 (hp:C5 args:=by intro _; rfl) (he:∀ env,eval (.Call func args [] pos) env=(do dT pos (<- eval func env) [] (dX pos (dR args env)) (backToKw pos (gr [] env))):=by intro _; rfl):WE prog w KF fi d E m H (.Call func args [] pos) Q :=
 fun A env F ρ s hA S=>by
  refine Call_ (ar (h A env F ρ s hA S) (fun u s₁ hx=>?_) fun _ _ x=>x) (he env)
  (obtain ⟨ρ1,H1,f,st1,S1,ru,qz11⟩:=hx; refine d0 qz11 fun hf h₁=>?_; clear qz11)
  rw [hp env]
  exact m6 st1 (az6 (first:=[]) hf h₁ hA S1 ru .nil) fun _ _ x=>x.step st1
noncomputable def C6 (prog:Program) (w:World) (KF:Frag) (H:List O) (x:V) (name:Str) (f:V):Prop :=
 ∀ A F ρ (s:Shared) u (pl:Sem Bool) (K:Value×List Value -> Shared -> Prop) (E':Value -> Shared -> Prop),d7 w KF F ρ H s.heap (gt s) -> VR ρ s.heap x u -> (∀ fu,VR ρ s.heap f fu -> K (fu,[u]) s) -> ax (aA prog w) A (iA u name pl) K E' s
theorem cc0 {o:Expr} {name:Str} {apos pos:Pos} {args:List Expr} {pl:Env -> Sem Bool} {Q:V -> List O -> Prop} (h:WE prog w KF fi d E m H o fun x H1=>∃ f,C6 prog w KF H1 x name f /\ t8 KF f /\ w7 prog w KF fi d E m H1 args fun vs H2=>i5 prog w KF d (Em E m) H2 f (x::vs) Q)
 (hp:C5 args:=by intro _; rfl) (he:∀ env,eval (.Call (.Attribute o name apos) args [] pos) env=(do
  let ov <- eval o env
  fq apos.atName
  let (f,first) <- dH [ov] (iA ov name (pl env))
  dT pos f first (dX pos (dR args env)) []):=by intro _; rfl):WE prog w KF fi d E m H (.Call (.Attribute o name apos) args [] pos) Q :=
 fun A env F ρ s hA S=>by
  refine MethodCall_ (pl:=pl env) (ar (h A env F ρ s hA S) (fun u s₁ hx=>?_) fun _ _ x=>x) (he env)
  (obtain ⟨ρ1,H1,x,st1,S1,ru,qz12⟩:=hx; refine o0 qz12 fun f hm hf h₁=>?_; clear qz12)
  refine hm A _ ρ1 s₁ u _ _ _ S1.toH ru fun fu rf=>?_
  rw [hp env]
  exact m6 st1 (az6 (first:=[x]) hf h₁ hA S1 rf (.cons ru .nil)) fun _ _ x=>x.step st1
end
end
section
section
variable {prog:Program} {w:World} {KF:Frag} {d:Nat} {E:i7} {H:List O} {Q:V -> List O -> Prop}
theorem u7 {α β:Type} {R:List b7 -> Heap -> β -> α -> Prop} {F:d6} {ρ:List b7} {s:Shared} {Q:β -> List O -> Prop} {v:α} {b:β} {tk:Nat} (S:d7 w KF F ρ H s.heap (gt s)) (r:R ρ s.heap b v) (h:Q b H) (ht:s.toks <= tk:=by first | exact aY _ | exact cj (aY _) | exact cj (cj (aY _))):HQ w KF R F ρ s Q v { s with toks:=tk }:=⟨ρ,H,b,.same (.refl _) rfl,S.tk ht,r,h⟩
theorem y4 {α β:Type} {R:List b7 -> Heap -> β -> α -> Prop} {F:d6} {ρ:List b7} {s:Shared} {Q:β -> List O -> Prop} {v:α} {b:β} (S:d7 w KF F ρ H s.heap (gt s)) (r:R ρ s.heap b v) (h:Q b H):HQ w KF R F ρ s Q v s:=⟨ρ,H,b,.refl,S,r,h⟩
theorem al9 {α β:Type} {R:List b7 -> Heap -> β -> α -> Prop} {F:d6} {ρ:List b7} {s:Shared} {Q:β -> List O -> Prop} {v:α} {b:β} {h':Heap} {tk:Nat} (S:d7 w KF F ρ H s.heap (gt s)) (k:o8 s.heap h') (r:R ρ h' b v) (h:Q b H) (ht:s.toks <= tk:=by first | exact aY _ | exact cj (aY _) | exact cj (cj (aY _))):HQ w KF R F ρ s Q v { s with heap:=h',toks:=tk }:=⟨ρ,H,b,.same (.of_keep k) rfl,(S.keeps k).tk ht,r,h⟩
theorem E4 {ρ:List b7} {h:Heap} {i:Int} {t:Tok}:VR ρ h (.int i) (.int i t):=by unfold VR; exact ⟨t,rfl⟩
theorem J9 {ρ:List b7} {h:Heap} {x:Str} {t:Tok}:VR ρ h (.str x) (.str x t):=by unfold VR; exact ⟨t,rfl⟩
theorem A6 {ρ:List b7} {h:Heap} {b:Bool}:VR ρ h (.bool b) (.bool b):=by unfold VR; rfl
theorem az7 {ρ:List b7} {h:Heap}:VR ρ h .none .none:=by unfold VR; rfl
theorem W9 {ρ:List b7} {h:Heap} {a:String}:VR ρ h (.bi a) (.builtin a):=by unfold VR; rfl
theorem VR.int_eq {ρ:List b7} {h:Heap} {i:Int} {v:Value} (r:VR ρ h (.int i) v):∃ t,v=.int i t:=by unfold VR at r; exact r
theorem VR.str_eq {ρ:List b7} {h:Heap} {x:Str} {v:Value} (r:VR ρ h (.str x) v):∃ t,v=.str x t:=by unfold VR at r; exact r
theorem VR.bool_eq {ρ:List b7} {h:Heap} {b:Bool} {v:Value} (r:VR ρ h (.bool b) v):v=.bool b:=by unfold VR at r; exact r
theorem VR.none_eq {ρ:List b7} {h:Heap} {v:Value} (r:VR ρ h .none v):v=.none:=by unfold VR at r; exact r
theorem VR.ref_eq {ρ:List b7} {h:Heap} {i:Nat} {v:Value} (r:VR ρ h (.ref i) v):∃ e,ρ[i]?=some e /\ v=.ref e.a:=by unfold VR at r; exact r
theorem VR.ty_eq {ρ:List b7} {h:Heap} {n:String} {v:Value} (r:VR ρ h (.ty n) v):v=.type n:=by unfold VR at r; exact r
theorem VR.bi_eq {ρ:List b7} {h:Heap} {n:String} {v:Value} (r:VR ρ h (.bi n) v):v=.builtin n:=by unfold VR at r; exact r
theorem VR.tup_eq {ρ:List b7} {h:Heap} {xs:List V} {v:Value} (r:VR ρ h (.tup xs) v):∃ a vs,v=.ref a /\ h.IsTuple a vs.toArray /\ c8 ρ h xs vs:=by unfold VR at r; exact r
-- ints
theorem s8 {x y:Int} (h:Q (.int (x+y)) H):W2 prog w KF d E VR H (dm .Add) (.int x) (.int y) Q:=fun A F ρ s u v hA S ru rv=>by
 (refine c0 (ru.int_eq) fun t qz1=>?_; subst qz1); (refine c0 (rv.int_eq) fun t' qz2=>?_; subst qz2); exact PySem.P.add_int (u7 S E4 h)
theorem aU8 {x y:Int} (h:Q (.int (x+y)) H):W2 prog w KF d E VR H (inplaceOp .Add) (.int x) (.int y) Q:=fun A F ρ s u v hA S ru rv=>by
 (refine c0 (ru.int_eq) fun t qz3=>?_; subst qz3); (refine c0 (rv.int_eq) fun t' qz4=>?_; subst qz4); exact PySem.P.iadd_int (u7 S E4 h)
theorem K0 {x y:Int} (h:Q (.int (x - y)) H):W2 prog w KF d E VR H (dm .Sub) (.int x) (.int y) Q:=fun A F ρ s u v hA S ru rv=>by
 (refine c0 (ru.int_eq) fun t qz5=>?_; subst qz5); (refine c0 (rv.int_eq) fun t' qz6=>?_; subst qz6); exact PySem.P.sub_int (u7 S E4 h)
theorem cc1 {x y:Int} (hm:IntMulOk x y) (h:Q (.int (x*y)) H):W2 prog w KF d E VR H (dm .Mult) (.int x) (.int y) Q:=fun A F ρ s u v hA S ru rv=>by
 (refine c0 (ru.int_eq) fun t qz7=>?_; subst qz7); (refine c0 (rv.int_eq) fun t' qz8=>?_; subst qz8); exact PySem.P.mul_int (u7 S E4 h) hm
theorem aU9 {x y:Int} (hy:y≠0) (h:Q (.int (x.fmod y)) H):W2 prog w KF d E VR H (dm .Mod) (.int x) (.int y) Q:=fun A F ρ s u v hA S ru rv=>by
 (refine c0 (ru.int_eq) fun t qz9=>?_; subst qz9); (refine c0 (rv.int_eq) fun t' qz10=>?_; subst qz10); exact mod_int' hy (u7 S E4 h)
theorem aV0 {x y:Int} (hy:y≠0) (hp:aP.divisionGoesByPylong x y=false) (h:Q (.int (x.fdiv y)) H):W2 prog w KF d E VR H (dm .FloorDiv) (.int x) (.int y) Q:=fun A F ρ s u v hA S ru rv=>by
 (refine c0 (ru.int_eq) fun t qz11=>?_; subst qz11); (refine c0 (rv.int_eq) fun t' qz12=>?_; subst qz12); exact floordiv_int hy (u7 S E4 h) (.inl hp)
theorem az8 {x y:Int} (h:Q (.bool (x==y)) H):W2 prog w KF d E VR H (dw .Eq) (.int x) (.int y) Q:=fun A F ρ s u v hA S ru rv=>by
 (refine c0 (ru.int_eq) fun t qz13=>?_; subst qz13); (refine c0 (rv.int_eq) fun t' qz14=>?_; subst qz14); exact PySem.P.eq_int (y4 S A6 h)
theorem aV1 {x y:Int} (h:Q (.bool (x !=y)) H):W2 prog w KF d E VR H (dw .NotEq) (.int x) (.int y) Q:=fun A F ρ s u v hA S ru rv=>by
 (refine c0 (ru.int_eq) fun t qz15=>?_; subst qz15); (refine c0 (rv.int_eq) fun t' qz16=>?_; subst qz16); exact PySem.P.ne_int (y4 S A6 h)
theorem F8 {x y:Int} (h:Q (.bool (decide (x < y))) H):W2 prog w KF d E VR H (dw .Lt) (.int x) (.int y) Q:=fun A F ρ s u v hA S ru rv=>by
 (refine c0 (ru.int_eq) fun t qz17=>?_; subst qz17); (refine c0 (rv.int_eq) fun t' qz18=>?_; subst qz18); exact PySem.P.lt_int (y4 S A6 h)
theorem X0 {x y:Int} (h:Q (.bool (decide (x > y))) H):W2 prog w KF d E VR H (dw .Gt) (.int x) (.int y) Q:=fun A F ρ s u v hA S ru rv=>by
 (refine c0 (ru.int_eq) fun t qz21=>?_; subst qz21); (refine c0 (rv.int_eq) fun t' qz22=>?_; subst qz22); exact PySem.P.gt_int (y4 S A6 h)
theorem aV2 {x y:Int} (h:Q (.bool (decide (x >= y))) H):W2 prog w KF d E VR H (dw .GtE) (.int x) (.int y) Q:=fun A F ρ s u v hA S ru rv=>by
 (refine c0 (ru.int_eq) fun t qz23=>?_; subst qz23); (refine c0 (rv.int_eq) fun t' qz24=>?_; subst qz24); exact PySem.P.ge_int (y4 S A6 h)
theorem aV3 {x:Int} (h:Q (.int (-x)) H):W1 prog w KF d E VR H (unaryOp .USub) (.int x) Q:=fun A F ρ s u hA S ru=>by
 (refine c0 (ru.int_eq) fun t qz25=>?_; subst qz25); exact neg_int (u7 S E4 h)
-- truth
theorem i9 {b:Bool} {Q:Bool -> List O -> Prop} (h:Q b H):W1 prog w KF d E L9 H truthy (.bool b) Q:=fun A F ρ s u hA S ru=>by
 rw [ru.bool_eq]; exact ck (y4 S rfl h)
theorem af0 {x:Int} {Q:Bool -> List O -> Prop} (h:Q (x !=0) H):W1 prog w KF d E L9 H truthy (.int x) Q:=fun A F ρ s u hA S ru=>by
 (refine c0 (ru.int_eq) fun t qz26=>?_; subst qz26); exact PySem.P.truthy_int (y4 S rfl h)
theorem cc2 {Q:Bool -> List O -> Prop} (h:Q false H):W1 prog w KF d E L9 H truthy .none Q:=fun A F ρ s u hA S ru=>by
 rw [ru.none_eq]; exact truthy_none (y4 S rfl h)
theorem Q8 {x:Str} {Q:Bool -> List O -> Prop} (hx:x.length <= aB) (h:Q (x.length !=0) H):W1 prog w KF d E L9 H truthy (.str x) Q:=fun A F ρ s u hA S ru=>by
 (refine c0 (ru.str_eq) fun t qz27=>?_; subst qz27)
 refine PySem.P.truthy_str (by have:aB=2 ^ 24:=rfl; omega) (u7 S rfl ?_)
 have e:((x.length:Int) !=0)=(x.length !=0):=by rw [Bool.eq_iff_iff]; simp
 rw [e]; exact h
-- strs
theorem K1 {x y:Str} (hz:x.length+y.length <= aB) (h:Q (.str (x++y)) H):W2 prog w KF d E VR H (dm .Add) (.str x) (.str y) Q:=fun A F ρ s u v hA S ru rv=>by
 (refine c0 (ru.str_eq) fun t qz28=>?_; subst qz28); (refine c0 (rv.str_eq) fun t' qz29=>?_; subst qz29); exact bA (ao _) (PyProof.Rows.add_str (fun t' tk ht=>u7 S J9 h ht) hz)
theorem az9 {x y:Str} (hz:x.length+y.length <= aB) (h:Q (.str (x++y)) H):W2 prog w KF d E VR H (inplaceOp .Add) (.str x) (.str y) Q:=fun A F ρ s u v hA S ru rv=>by
 (refine c0 (ru.str_eq) fun t qz30=>?_; subst qz30); (refine c0 (rv.str_eq) fun t' qz31=>?_; subst qz31); exact bA (ao _) (PyProof.Rows.iadd_str (fun t' tk ht=>u7 S J9 h ht) hz)
theorem aV4 {x y:Str} (h:Q (.bool (x==y)) H):W2 prog w KF d E VR H (dw .Eq) (.str x) (.str y) Q:=fun A F ρ s u v hA S ru rv=>by
 (refine c0 (ru.str_eq) fun t qz32=>?_; subst qz32); (refine c0 (rv.str_eq) fun t' qz33=>?_; subst qz33); exact PyProof.Rows.eq_str (y4 S A6 h)
theorem aV5 {x y:Str} (h:Q (.bool (x !=y)) H):W2 prog w KF d E VR H (dw .NotEq) (.str x) (.str y) Q:=fun A F ρ s u v hA S ru rv=>by
 (refine c0 (ru.str_eq) fun t qz34=>?_; subst qz34); (refine c0 (rv.str_eq) fun t' qz35=>?_; subst qz35); exact PyProof.Rows.ne_str (y4 S A6 h)
noncomputable def sIn (x y:Str):Bool:=!(aP.Str.occurrences x y 0 x.length 1).isEmpty
theorem cc3 {x y:Str} (h:Q (.bool (sIn x y)) H):W2 prog w KF d E VR H (dw .In) (.str y) (.str x) Q:=fun A F ρ s u v hA S ru rv=>by
 (refine c0 (ru.str_eq) fun t qz36=>?_; subst qz36); (refine c0 (rv.str_eq) fun t' qz37=>?_; subst qz37); exact PyProof.Rows.in_str (y4 S A6 h)
theorem F9 {x:Str} (hx:x.length <= aB) (h:Q (.int x.length) H):i5 prog w KF d E H (.bi "len") [.str x] Q:=fun A F ρ s u us hA S ru r=>by
 rw [ru.bi_eq]
 (refine e8 (r.cons_eq) fun v q qz40 rv rq=>?_; subst qz40)
 rw [rq.nil_eq]
 (refine c0 (rv.str_eq) fun t qz41=>?_; subst qz41)
 exact PyProof.Rows.len_str (by have:aB=2 ^ 24:=rfl; omega) (u7 S E4 h)
theorem aV6 {x y:Int} (h:Q (.int (min x y)) H):i5 prog w KF d E H (.bi "min") [.int x,.int y] Q:=fun A F ρ s u us hA S ru r=>by
 rw [ru.bi_eq]
 (refine e8 (r.cons_eq) fun v q qz44 rv rq=>?_; subst qz44)
 (refine e8 (rq.cons_eq) fun v' q' qz45 rv' rq'=>?_; subst qz45)
 rw [rq'.nil_eq]
 (refine c0 (rv.int_eq) fun t qz46=>?_; subst qz46)
 (refine c0 (rv'.int_eq) fun t' qz47=>?_; subst qz47)
 refine bA (ao _) (min_two_ints hA.hd fun h' tk hk ht=>(al9 S hk ?_ h ht))
 by_cases e:y < x
 · rw [if_pos e,show min x y=y by exact by4 e]; exact E4
 · rw [if_neg e,show min x y=x by exact by5 e]; exact E4
theorem cc4 {n:Int} (h:Q (.rng 0 n) H):i5 prog w KF d E H (.ty "range") [.int n] Q:=fun A F ρ s u us hA S ru r=>by
 rw [ru.ty_eq]
 (refine e8 (r.cons_eq) fun v q qz48 rv rq=>?_; subst qz48)
 rw [rq.nil_eq]
 (refine c0 (rv.int_eq) fun t qz49=>?_; subst qz49)
 refine call_range_1 (al9 S (fun _ _ e=>ak _ e) ?_ h)
 unfold VR
 exact ⟨_,rfl,_,_,_,aK _ rfl⟩
theorem cc5 {a b:Int} (h:Q (.rng a b) H):i5 prog w KF d E H (.ty "range") [.int a,.int b] Q:=fun A F ρ s u us hA S ru r=>by
 rw [ru.ty_eq]
 (refine e8 (r.cons_eq) fun v q qz50 rv rq=>?_; subst qz50)
 (refine e8 (rq.cons_eq) fun v' q' qz51 rv' rq'=>?_; subst qz51)
 rw [rq'.nil_eq]
 (refine c0 (rv.int_eq) fun t qz52=>?_; subst qz52)
 (refine c0 (rv'.int_eq) fun t' qz53=>?_; subst qz53)
 refine call_range_2 (al9 S (fun _ _ e=>ak _ e) ?_ h)
 unfold VR
 exact ⟨_,rfl,_,_,_,aK _ rfl⟩
-- items
noncomputable def J0 (o i:Value):Sem Value:=do
 let b <- getitemInPython o
 match b with
 | true=>runValue (.builtin "lifetime.subscript" ⟨[o,i],[]⟩)
 | false=>operate [o,i] (getItem o i)
theorem aA1 {A:Around} {s:Shared} {o i:Value} {T id:String} {K:Value -> Shared -> Prop} {E':Value -> Shared -> Prop} (hT:s.TypeIs o T) (hl:aX (.type T) "__getitem__"=pure (some (.builtin id))) (h:ax (aA prog w) A (getItem o i) K E' s):ax (aA prog w) A (J0 o i) K E' s:=by
 unfold J0
 refine ab ?_
 rw [getitemInPython_of_ne hT.not_modules]
 refine ab (cV hT hl ?_)
 exact ac (wpAny_operating h)
theorem aV7 {x:Str} {i:Int} (hi:-(x.length:Int) <= i /\ i < x.length) (hx:x.length <= aB) (h:Q (.str (Txt.item x i)) H):W2 prog w KF d E VR H J0 (.str x) (.int i) Q:=fun A F ρ s u v hA S ru rv=>by
 (refine c0 (ru.str_eq) fun t qz54=>?_; subst qz54); (refine c0 (rv.int_eq) fun t' qz55=>?_; subst qz55)
 have hz:aB=2 ^ 24:=rfl
 (refine e8 (SB.item (prog:=prog) (w:=w) (A:=A) (E:=HE w KF F ρ s E) (s:=s) (x:=x) (t:=t) (u:=t') (i:=i) (Q:=HQ w KF VR F ρ s Q) (fitsSsize_of (N:=9223372036854775808) (Int.lt_of_lt_of_le (by decide) (Int.le_trans (Int.neg_le_neg (Int.ofNat_le.mpr hx)) hi.1)) (Int.lt_trans hi.2 (Int.lt_of_le_of_lt (Int.ofNat_le.mpr hx) (by decide))) (Int.le_refl _)) (charAt_isSome hi.1 hi.2) (u7 S J9 h)) fun T id hl hT hg=>?_)
 exact aA1 hT hl hg
end
end
end Mine
end
section
open PySem PySem.W PyProof.Rows PySem.W.X PySem.SeqAt
namespace Mine
section
set_option tactic.hygienic false
noncomputable def pick {α:Type} (xs:List α) (lo hi st:Option Int):List α:=(sliceRange (dM lo hi st xs.length).1 (dM lo hi st xs.length).2.1 (dM lo hi st xs.length).2.2).filterMap (xs[·]?)
theorem c8.picks {ρ:List b7} {h:Heap} {xs:List V} {vs:List Value} (r:c8 ρ h xs vs):∀ ix:List Nat,c8 ρ h (ix.filterMap (xs[·]?)) (ix.filterMap (vs[·]?))
 | []=>.nil
 | i::ix=>by
  rw [fL,fL]
  cases q:xs[i]? with
  | none =>
   have:vs[i]?=none:=by
    rw [List.getElem?_eq_none_iff] at q ⊢
    rw [r.len]; exact q
   rw [this]; exact c8.picks r ix
  | some x =>
   (refine b9 (r.get q) fun v hv rv=>?_)
   rw [hv]; exact .cons rv (c8.picks r ix)
theorem cc6 (vs:List Value) (lo hi st:Option Int):slicePick vs.toArray lo hi st=(pick vs lo hi st).toArray:=by
 unfold slicePick pick
 rw [aI]
 congr 1
 have:(fun x:Nat=>vs.toArray[x]?)=fun x=>vs[x]?:=funext fun i=>by simp
 rw [this]
theorem c8.pick {ρ:List b7} {h:Heap} {xs:List V} {vs:List Value} (r:c8 ρ h xs vs) (lo hi st:Option Int):c8 ρ h (Mine.pick xs lo hi st) (Mine.pick vs lo hi st):=by
 unfold Mine.pick
 rw [r.len]; exact r.picks _
section
variable {prog:Program} {w:World} {KF:Frag} {d:Nat} {E:i7} {H:List O} {Q:V -> List O -> Prop}
noncomputable def af1 (H:List O) (l:Nat) (xs:List V):Prop:=H[l]?=some (.list xs) \/ H[l]?=some (.arr xs)
theorem d7.list {F:d6} {ρ:List b7} {s:Shared} {l:Nat} {xs:List V} (S:d7 w KF F ρ H s.heap (gt s)) (hl:af1 H l xs) {e:b7} (he:ρ[l]?=some e):∃ vs:List Value,s.heap.IsList e.a vs.toArray /\ c8 ρ s.heap xs vs:=by
 rcases hl with hG | hG
 · (refine w5 (S.ob l e _ he hG) fun _ _ vs a b=>?_); exact (c5 vs a.isList b)
 · (refine n9 (S.ob l e _ he hG) fun _ _ qz1 _=>?_; obtain ⟨vs,a,b⟩:=qz1); exact (c5 vs a b)
theorem cc7 {l:Nat} {xs:List V} (hl:af1 H l xs) (hz:xs.length <= aB) (h:Q (.int xs.length) H):i5 prog w KF d E H (.bi "len") [.ref l] Q:=fun A F ρ s u us hA S ru r=>by
 rw [ru.bi_eq]
 (refine e8 (r.cons_eq) fun v q qz2 rv rq=>?_; subst qz2)
 rw [rq.nil_eq]
 (refine b9 (rv.ref_eq) fun e he qz3=>?_; subst qz3)
 (refine b9 (S.list hl he) fun vs a b=>?_)
 have hs:aB=2 ^ 24:=rfl
 refine Calls.call_len_list a (by rw [aI,b.len]; omega) ?_
 rw [aI,b.len]
 exact u7 S E4 h
theorem cc8 {l:Nat} {xs:List V} {Q:Bool -> List O -> Prop} (hl:af1 H l xs) (hz:xs.length <= aB) (h:Q (!xs.isEmpty) H):W1 prog w KF d E L9 H truthy (.ref l) Q:=fun A F ρ s u hA S ru=>by
 (refine b9 (ru.ref_eq) fun e he qz4=>?_; subst qz4)
 (refine b9 (S.list hl he) fun vs a b=>?_)
 have hs:aB=2 ^ 24:=rfl
 refine wpAny_truthy_list a (by rw [aI,b.len]; omega) (u7 S ?_ h)
 have:=b.len
 cases vs<;>cases xs<;>simp_all [L9]
theorem aa0 {xs:List V} {i:Int} {j:Nat} {x:V} (hlo:-(2 ^ 62) <= i) (hhi:i < 2 ^ 62) (hj:seqIndex? i xs.length=some j) (hx:xs[j]?=some x) (h:Q x H):W2 prog w KF d E VR H J0 (.tup xs) (.int i) Q:=fun A F ρ s u v hA S ru rv=>by
 (refine e8 (ru.tup_eq) fun a vs qz9 ht hv=>?_; subst qz9); (refine c0 (rv.int_eq) fun t' qz10=>?_; subst qz10)
 (refine b9 (hv.get hx) fun y hy ry=>?_)
 exact aA1 ht.typeIs hV.lookup (PyProof.Rows.getItem_tuple ht (Int.le_trans (by decide) hlo) (Int.lt_trans hhi (by decide)) (j:=j) (by rw [aI,hv.len]; exact hj) (by simpa using hy) (y4 S ry h))
theorem d7.turn {F:d6} {ρ:List b7} {s:Shared} {l:Nat} {xs ys:List V} {e:b7} {us:List Value} {h':Heap} {tk:Nat} (S:d7 w KF F ρ H s.heap (gt s)) (hl:H[l]?=some (.list xs)) (he:ρ[l]?=some e) (hk:∀ b o,b≠e.a -> s.heap.get? b=some o -> h'.get? b=some o) (hp:h'.PlainList e.a us.toArray) (r:c8 ρ s.heap ys us) :
 f0 ρ s ρ { s with heap:=h',toks:=tk } /\ d7 w KF F ρ (H.set l (.list ys)) h' (gt s):=by
 (refine w5 (S.ob l e _ he hl) fun h1 h2 vs a b=>?_)
 have t:TK s.heap h':=.of_ext hk (ak9 a.isList)
 refine ⟨.same t rfl,S.upd he (fun b o hb e'=>hk b o (fun q=>hb (by rw [h1,q]; exact .head _)) e') (fun b hb=>?_) t (W4 h1 h2 us hp (r.mono (az _) t)) (hy:=fun o h q=>by rw [hl] at h; cases h; cases q)⟩
 rw [h1] at hb
 rw [au.mp hb]
 (refine c0 hp fun n e=>?_; try clear hp)
 exact ⟨_,e⟩
theorem Q9 {l:Nat} {xs:List V} {x:V} (hl:H[l]?=some (.list xs)) (hz:xs.length <= aB) (h:Q .none (H.set l (.list (xs++[x])))):i5 prog w KF d E H (.bi "list.append") [.ref l,x] Q:=fun A F ρ s u us hA S ru r=>by
 rw [ru.bi_eq]
 (refine e8 (r.cons_eq) fun v q qz11 rv rq=>?_; subst qz11)
 (refine e8 (rq.cons_eq) fun v' q' qz12 rv' rq'=>?_; subst qz12)
 rw [rq'.nil_eq]
 (refine b9 (rv.ref_eq) fun e he qz13=>?_; subst qz13)
 (refine w5 (S.ob l e _ he hl) fun h1 h2 vs a b=>?_)
 refine aU4 a (fun h' hp hs=>?_) (by rw [aI,b.len]; exact hz)
 (refine d0 (S.turn (tk:=s.toks) hl he (fun b o hb e=>hs.extBut b o hb e) (us:=vs++[v']) (by simpa using hp) (b.append (.cons rv' .nil))) fun st S'=>?_)
 exact ⟨ρ,_,.none,st,S',az7,h⟩
theorem R0 {l:Nat} {xs:List V} (hl:H[l]?=some (.list xs)):C6 prog w KF H (.ref l) "append" (.bi "list.append"):=fun A F ρ s u pl K E' S r h=>by
 (refine b9 (r.ref_eq) fun e he qz14=>?_; subst qz14)
 (refine w5 (S.ob l e _ he hl) fun _ _ vs qz15 b=>?_; obtain ⟨n,a⟩:=qz15)
 exact Calls.getMethod_list_append a rfl rfl (h _ W9)
theorem aV8 {F:d6} {ρ:List b7} {s:Shared} {xs:List V} {vs:List Value} {h₀:Heap} {tk:Nat} (S:d7 w KF F ρ H s.heap (gt s)) (k₀:o8 s.heap h₀) (r:c8 ρ s.heap xs vs) (h:Q (.ref H.length) (H++[.list xs])) (ht:s.toks <= tk):HQ w KF VR F ρ s Q (.ref h₀.objs.size) { s with heap:=h₀.push { cls:=.type "list",data:=.seq vs.toArray },toks:=tk }:=by
 have k1:o8 h₀ (h₀.push { cls:=.type "list",data:=.seq vs.toArray }):=fun _ _ e=>ak _ e
 have hg:(h₀.push { cls:=.type "list",data:=.seq vs.toArray }).get? h₀.objs.size=some { cls:=.type "list",data:=.seq vs.toArray }:=aK _ rfl
 have S₀:=S.keeps k₀
 refine ⟨_,_,.ref H.length,.add (.of_keep fun b o e=>k1 b o (k₀ b o e)) rfl,(S₀.alloc (o:=.list xs) k1 (z5 _) ⟨_,hg⟩ (W4 rfl rfl vs ⟨_,hg⟩ (r.mono (aF _ _) (.of_keep fun b o e=>k1 b o (k₀ b o e))))).tk ht,?_,h⟩
 unfold VR
 exact (c5 _ (by rw [<- S.len,af]) rfl)
theorem am0 {l r:Nat} {xs ys:List V} (hl:H[l]?=some (.list xs)) (hr:H[r]?=some (.list ys)) (hz:xs.length+ys.length <= aB) (h:Q (.ref H.length) (H++[.list (xs++ys)])):W2 prog w KF d E VR H (dm .Add) (.ref l) (.ref r) Q:=fun A F ρ s u v hA S ru rv=>by
 (refine b9 (ru.ref_eq) fun e he qz19=>?_; subst qz19); (refine b9 (rv.ref_eq) fun e' he' qz20=>?_; subst qz20)
 (refine w5 (S.ob l e _ he hl) fun _ _ vs qz21 b=>?_; obtain ⟨n,a⟩:=qz21)
 (refine w5 (S.ob r e' _ he' hr) fun _ _ vs' qz22 b'=>?_; obtain ⟨n',a'⟩:=qz22)
 refine P.add_list a a' ?_ (by rw [aI,aI,b.len,b'.len]; exact hz)
 have:=aV8 (tk:=s.toks) S (fun _ _ e=>e) (b.append b') h (ao _)
 simpa using this
noncomputable def aa1:V -> Option Int -> Prop
 | .none,p=>p=none
 | .int i,p=>p=some i
 | _,_=>False
theorem aA2 {ρ:List b7} {h:Heap} {x:V} {p:Option Int} {v:Value} (hp:aa1 x p) (r:VR ρ h x v):IsPart v p:=by
 cases x with
 | none=>rw [r.none_eq,show p=none from hp]; exact .none
 | int i=>(refine c0 (r.int_eq) fun t qz23=>?_; subst qz23); rw [show p=some i from hp]; exact .int i t
 | _=>exact hp.elim
end
end
section
set_option tactic.hygienic false
theorem cc9 (slice:Expr) (o i:Value):∃ ops,subscripted slice false o i=operate ops (getItem o i):=by
 cases slice with
 | Slice _ _ c=>cases c<;>exact ⟨_,rfl⟩
 | _=>exact ⟨_,rfl⟩
section
variable (prog:Program) (w:World) (KF:Frag) (d:Nat)
noncomputable def am1 (E:i7) (H:List O) (x y z q:V) (Q:V -> List O -> Prop):Prop :=
 ∀ A F ρ s u v r k,k9 A d F.fr -> d7 w KF F ρ H s.heap (gt s) -> VR ρ s.heap x u -> VR ρ s.heap y v -> VR ρ s.heap z r -> VR ρ s.heap q k -> ItemOn (aA prog w) A (HE w KF F ρ s E) u (.ref s.heap.objs.size) (HQ w KF VR F ρ s Q) { s with heap:=s.heap.push { cls:=.type "slice",data:=.fields #[v,r,k] } }
noncomputable def R1 (fi:FI) (E:EP) (m:b8) (H:List O):Option Expr -> (V -> List O -> Prop) -> Prop
 | none,Q=>Q .none H
 | some e,Q=>WE prog w KF fi d E m H e Q
end
section
variable {prog:Program} {w:World} {KF:Frag} {fi:FI} {d:Nat} {E:EP} {m:b8} {H:List O}
theorem cd0 {value slice:Expr} {pos:Pos} {Q:V -> List O -> Prop} (h:WE prog w KF fi d E m H value fun o H1=>WE prog w KF fi d E m H1 slice fun i H2=>W2 prog w KF d (Em E m) VR H2 J0 o i Q)
 (hs:∀ b o i,subscripted slice b o i=(match b with | true=>runValue (.builtin "lifetime.subscript" ⟨[o,i],[]⟩) | false=>operate [o,i] (getItem o i)):=by intro b o i; cases b<;>rfl):WE prog w KF fi d E m H (.Subscript value slice pos) Q :=
 fun A env F ρ s hA S=>by
  refine Subscript_ (ar (h A env F ρ s hA S) (fun o s₁ hx=>?_) fun _ _ x=>x)
  obtain ⟨ρ1,H1,ov,st1,S1,ro,h₁⟩:=hx
  refine m6 st1 (ar (h₁ A env F ρ1 s₁ hA S1) (fun i s2 hx=>?_) fun _ _ x=>x) fun _ _ x=>x
  obtain ⟨ρ2,H2,iv,st2,S2,ri,h2⟩:=hx
  have e:hW value slice o i=(do let r <- J0 o i; letTemporaryGo value o r; pure r):=by
   unfold hW J0
   first
    | (simp only [hs,bind_assoc]; rfl)
    | simp only [hs,bind_assoc]
  rw [e]
  have st:=st1.trans st2
  refine ab (m6 st (lift S2 fun F' q T=>h2 A F' ρ2 s2 o i (q▸hA) T (ro.mono st2.1 st2.2.1) ri) fun r s3 q=>?_)
  exact ab (hO (ac (q.step st)))
theorem aA3 {e:Option Expr} {Q:V -> List O -> Prop} (h:R1 prog w KF d fi E m H e Q) {A:Around} {env:Env} {F:d6} {ρ:List b7} {s:Shared} (hA:k9 A d (n6 env F)) (S:d8 w KF fi env m F ρ H s.heap (gt s)):ax (aA prog w) A (valueOrNone (evalOpt e env)) (SQ w KF VR fi env m F ρ s Q) (SE w KF fi env F ρ s E) s:=by
 cases e with
 | none=>exact ac ⟨ρ,H,.none,.refl,S,az7,h⟩
 | some e=>exact (show WE prog w KF fi d E m H e Q from h) A env F ρ s hA S
theorem cd1 {A:Around} {s:Shared} {value slice:Expr} {o i:Value} {K:Value -> Shared -> Prop} {E':Value -> Shared -> Prop} (h:ItemOn (aA prog w) A E' o i K s):ax (aA prog w) A (hW value slice o i) K E' s:=by
 (refine e8 h fun T id hl hT hg=>?_; try clear h)
 (refine c0 (cc9 slice o i) fun ops hs=>?_)
 unfold hW
 refine ab ?_
 rw [getitemInPython_of_ne hT.not_modules]
 refine ab (cV hT hl ?_)
 have fin:ax (aA prog w) A (subscripted slice false o i) (fun r s3=>ax (aA prog w) A (letTemporaryGo value o r >>= fun _=>pure r) K E' s3) E' s:=by
  rw [hs]
  exact wpAny_operating (ar hg (fun r s3 h3=>ab (hO (ac h3))) fun _ _ x=>x)
 exact ac (ab fin)
theorem cd2 {value:Expr} {l u k:Option Expr} {p pos:Pos} {Q:V -> List O -> Prop} (h:WE prog w KF fi d E m H value fun o H1=>R1 prog w KF d fi E m H1 l fun lv H2=>R1 prog w KF d fi E m H2 u fun uv H3=>R1 prog w KF d fi E m H3 k fun kv H4=>am1 prog w KF d (Em E m) H4 o lv uv kv Q):WE prog w KF fi d E m H (.Subscript value (.Slice l u k p) pos) Q :=
 fun A env F ρ s hA S=>by
  refine Subscript_ (ar (h A env F ρ s hA S) (fun o s₁ hx=>?_) fun _ _ x=>x)
  obtain ⟨ρ1,H1,ov,st1,S1,ro,h₁⟩:=hx
  show ax _ A (do
   let lv <- valueOrNone (evalOpt l env)
   let uv <- dH [lv] (valueOrNone (evalOpt u env))
   let kv <- dH [lv,uv] (valueOrNone (evalOpt k env))
   newFields "slice" [lv,uv,kv]) _ _ _
  refine ab (m6 st1 (ar (aA3 h₁ hA S1) (fun lv s2 hx=>?_) fun _ _ x=>x) fun _ _ x=>x)
  obtain ⟨ρ2,H2,la,st2,S2,rl,h2⟩:=hx
  have t2:=st1.trans st2
  refine ab (aM (m6 t2 (ar (aA3 h2 hA S2) (fun uv s3 hx=>?_) fun _ _ x=>x) fun _ _ x=>x))
  obtain ⟨ρ3,H3,ua,st3,S3,ru,h3⟩:=hx
  have t3:=t2.trans st3
  refine ab (aM (m6 t3 (ar (aA3 h3 hA S3) (fun kv s4 hx=>?_) fun _ _ x=>x) fun _ _ x=>x))
  obtain ⟨ρ4,H4,ka,st4,S4,rk,h4⟩:=hx
  have t4:=t3.trans st4
  have u24:=(st2.trans st3).trans st4
  have u34:=st3.trans st4
  (refine e8 (h4 A _ ρ4 s4 o lv uv kv hA S4.toH (ro.mono u24.1 u24.2.1) (rl.mono u34.1 u34.2.1) (ru.mono st4.1 st4.2.1) rk) fun T id hl hT hg=>?_)
  refine bC (cd1 (A3 T id hl hT ?_)) (by size_fits)
  refine ar hg (fun v s'=>HQ.el fun ρ' H' b st T rv hq=>⟨ρ',H',b,t4.trans st,S4.ofH st.1 st.2.1 T,rv,hq⟩) (fun e s'=>HE.el fun ρ' H' x st T rv hq=>rv.elim)
end
section
variable {prog:Program} {w:World} {KF:Frag} {d:Nat} {E:i7} {H:List O} {Q:V -> List O -> Prop}
theorem cd3 {M:Model} {A:Around} {E':Value -> Shared -> Prop} {o i:Value} {K:Value -> Shared -> Prop} {s:Shared} {n:Nat} (hn:n <= s.toks) (h:ItemOn M A E' o i (fun v s'=>n <= s'.toks -> K v s') s):ItemOn M A E' o i K s:=e8 (h) fun T id a b c=>(A3 T id a b (bA hn (ar c (fun _ _ x=>x) fun _ _ x _=>x)))
theorem cd4 {l:Nat} {xs:List V} {y z k:V} {lo hi st:Option Int} (hl:af1 H l xs) (hy:aa1 y lo) (hz:aa1 z hi) (hk:aa1 k st) (h0:st≠some 0) (hsz:xs.length <= aB) (h:Q (.ref H.length) (H++[.list (pick xs lo hi st)])):am1 prog w KF d E H (.ref l) y z k Q:=fun A F ρ s u v r q hA S ru rv rr rk=>by
 (refine b9 (ru.ref_eq) fun e he qz1=>?_; subst qz1)
 (refine b9 (S.list hl he) fun vs a b=>?_)
 have hp:=a.push { cls:=.type "slice",data:=.fields #[v,r,q] }
 refine (A3 ("list") _ list_getitem_lookup (hp.typeIs (s:={ s with heap:=s.heap.push { cls:=.type "slice",data:=.fields #[v,r,q] } })) (wpAny_getItem_list_slice hp (Heap.IsSliceOf.new ..) (aA2 hy rv) (aA2 hz rr) (aA2 hk rk) h0 ?_ (by rw [aI,b.len]; exact hsz)))
 have:=aV8 (tk:=s.toks) S (h₀:=s.heap.push { cls:=.type "slice",data:=.fields #[v,r,q] }) (fun _ _ e=>ak _ e) (b.pick lo hi st) h (ao _)
 rw [<- cc6] at this
 exact this
theorem aV9 {x:Str} {y z:V} {lo hi:Option Int} (hy:aa1 y lo) (hz:aa1 z hi) (hsz:x.length <= aB) (h:Q (.str (Txt.slice x lo hi)) H):am1 prog w KF d E H (.str x) y z .none Q:=fun A F ρ s u v r q hA S ru rv rr rk=>by
 (refine c0 (ru.str_eq) fun t qz2=>?_; subst qz2)
 rw [rk.none_eq]
 have hK:KeptH (fun h'=>o8 s.heap h'):=fun h' o k b o' e=>ak _ (k b o' e)
 have hI:o8 s.heap s.heap:=fun _ _ e=>e
 have fin:∀ h' t' k,o8 s.heap h' -> (s.toks <= k -> HQ w KF VR F ρ s Q (.str (Txt.slice x lo hi) t') { s with heap:=h',toks:=k }):=fun h' t' k hk ht=>al9 S hk J9 h ht
 refine cd3 (ao _) ?_
 cases y with
 | none =>
  rw [rv.none_eq]
  obtain rfl:lo=none:=hy
  cases z with
  | none=>rw [rr.none_eq]; obtain rfl:hi=none:=hz; exact SBH.sliceItem_nn hK hI fin hsz
  | int j=>(refine c0 (rr.int_eq) fun tj qz3=>?_; subst qz3); obtain rfl:hi=some j:=hz; exact SBH.sliceItem_ns hK hI fin hsz
  | _=>exact hz.elim
 | int i =>
  (refine c0 (rv.int_eq) fun ti qz4=>?_; subst qz4)
  obtain rfl:lo=some i:=hy
  cases z with
  | none=>rw [rr.none_eq]; obtain rfl:hi=none:=hz; exact SBH.sliceItem_sn hK hI fin hsz
  | int j=>(refine c0 (rr.int_eq) fun tj qz5=>?_; subst qz5); obtain rfl:hi=some j:=hz; exact SBH.sliceItem_ss hK hI fin hsz
  | _=>exact hz.elim
 | _=>exact hy.elim
-- equality
structure EqW (A:Around) (s:Shared) (u v:Value) (b:Bool):Prop where
 rc:RcAt A s u v b
 ne:RcNeAt A s u v (!b)
 eq:EqAt A s u v b
 same:u=v -> b=true
noncomputable def M3 (w:World) (KF:Frag) (H:List O) (k:Nat) (x y:V) (b:Bool):Prop :=
 ∀ (A:Around) (F:d6) (ρ:List b7) (s:Shared) (u v:Value),A.units+k < cLine -> d7 w KF F ρ H s.heap (gt s) -> VR ρ s.heap x u -> VR ρ s.heap y v -> EqW A s u v b
theorem aA4 {A:Around} {s:Shared} {u v:Value} {b:Bool} (h:RcAt A s u v b) (hf:∀ x t,u≠.float x t) (hb:u=v -> b=true):EqAt A s u v b:=fun prog w E Q hq=>by
 unfold eqBool
 refine aM (wpAny_ite_split (fun hab=>?_) (fun _=>?_))
 · rw [hb (eq_of_beq hab)] at hq
   exact ab (dB (ac hq))
 · have main:ax (aA prog w) A (do let x <- richCompare .Eq u v; gR x) Q E s:=ab (h prog w E _ (by
    unfold gR
    first | exact ck hq | exact ac hq | exact aM (ck hq) | exact ab (ck (ac hq))))
   cases u with
   | float x t=>exact absurd rfl (hf x t)
   | _=>exact main
theorem cd6 {k:Nat} {i j:Str}:M3 w KF H k (.str i) (.str j) (i==j):=fun A F ρ s u v hu S ru rv=>by
 (refine c0 (ru.str_eq) fun t qz8=>?_; subst qz8); (refine c0 (rv.str_eq) fun t' qz9=>?_; subst qz9)
 have rc:RcAt A s (.str i t) (.str j t') (i==j):=fun prog w E Q hq=>PyProof.Rows.eq_str hq
 have sm:Value.str i t=.str j t' -> (i==j)=true:=fun q=>by cases q; exact beq_self_eq_true _
 exact ⟨rc,fun prog w E Q hq=>PyProof.Rows.ne_str hq,aA4 rc (fun _ _ q=>nomatch q) sm,sm⟩
noncomputable def P0 (xs ys:List V) (e:V -> V -> Bool) (j:Nat):Bool:=match xs[j]?,ys[j]? with | some x,some y=>e x y | _,_=>true
noncomputable def B7 (xs ys:List V) (e:V -> V -> Bool):Bool:=xs.length==ys.length&&(cB xs.length).all (P0 xs ys e)
section
variable {k:Nat} {xs ys:List V} {e:V -> V -> Bool} {A:Around} {F:d6} {ρ:List b7} {s:Shared} {vs us:List Value}
theorem aA5 (S:d7 w KF F ρ H s.heap (gt s)) (hu:A.units+k < cLine) (p2:c8 ρ s.heap xs vs) (q2:c8 ρ s.heap ys us) (he:∀ x∈xs,∀ y∈ys,M3 w KF H k x y (e x y)) (j:Nat) (h1:j < vs.toArray.size) (h2:j < us.toArray.size) :
 EqAt A s vs.toArray[j] us.toArray[j] (P0 xs ys e j) /\ (vs.toArray[j]=us.toArray[j] -> P0 xs ys e j=true):=by
 rw [aI] at h1 h2
 (refine b9 (p2.get' (aq h1)) fun x hx rx=>?_)
 (refine b9 (q2.get' (aq h2)) fun y hy ry=>?_)
 have z:=he x (ba hx) y (ba hy) A F ρ s _ _ hu S rx ry
 unfold P0
 rw [hx,hy]
 exact ⟨z.eq,z.same⟩
theorem cd7 (S:d7 w KF F ρ H s.heap (gt s)) (hu:A.units+k < cLine) (p2:c8 ρ s.heap xs vs) (q2:c8 ρ s.heap ys vs) (he:∀ x∈xs,∀ y∈ys,M3 w KF H k x y (e x y)):B7 xs ys e=true:=by
 unfold B7
 rw [<- p2.len,<- q2.len,beq_self_eq_true,Bool.true_and,List.all_eq_true]
 intro j hj
 have hj':j < vs.toArray.size:=by rw [aI]; exact cQ.mp hj
 exact (aA5 S hu p2 q2 he j hj' hj').2 rfl
theorem aW0 (p2:c8 ρ s.heap xs vs) (hlen:xs.length=ys.length):B7 xs ys e=(cB vs.toArray.size).all (P0 xs ys e):=by
 unfold B7
 rw [aI,p2.len,hlen,beq_self_eq_true,Bool.true_and]
theorem aW1 (hlen:xs.length≠ys.length):B7 xs ys e=false:=by
 unfold B7
 rw [show (xs.length==ys.length)=false by simpa using hlen,Bool.false_and]
end
theorem cd8 {k l r:Nat} {xs ys:List V} {e:V -> V -> Bool} (hl:H[l]?=some (.list xs)) (hr:H[r]?=some (.list ys)) (he:∀ x∈xs,∀ y∈ys,M3 w KF H k x y (e x y)):M3 w KF H (k+1) (.ref l) (.ref r) (B7 xs ys e):=fun A F ρ s u v hu S ru rv=>by
 (refine b9 (ru.ref_eq) fun a ha qz10=>?_; subst qz10)
 (refine b9 (rv.ref_eq) fun b hb qz11=>?_; subst qz11)
 (refine w5 (S.ob l a _ ha hl) fun f1 _ vs p1 p2=>?_)
 (refine w5 (S.ob r b _ hb hr) fun f2 _ us q1 q2=>?_)
 have hu1:A.in1.units+k < cLine:=by show A.units+1+k < cLine; exact nq6 hu
 have sm:Value.ref a.a=.ref b.a -> B7 xs ys e=true:=fun q=>by
  have e1:a.a=b.a:=by injection q
  have hlr:l=r:=ir fun hne=>ay1 S.nd ha hb hne (b:=a.a) (by rw [f1]; exact .head _) (by rw [f2,e1]; exact .head _)
  subst hlr
  rw [hl] at hr
  cases hr
  rw [ha] at hb
  cases hb
  exact cd7 (A:=A.in1) S hu1 p2 p2 he
 have rc:RcAt A s (.ref a.a) (.ref b.a) (B7 xs ys e) /\ RcNeAt A s (.ref a.a) (.ref b.a) (!B7 xs ys e):=by
  by_cases hlen:xs.length=ys.length
  · have h1:vs.toArray.size=us.toArray.size:=by rw [aI,aI,p2.len,q2.len,hlen]
    rw [aW0 (s:=s) p2 hlen]
    exact ⟨RcAt.lists p1.isList q1.isList h1 (by exact T6 hu) fun j h1 h2=>(aA5 (A:=A.in1) S hu1 p2 q2 he j h1 h2).1,RcNeAt.lists p1.isList q1.isList h1 (by exact T6 hu) fun j h1 h2=>(aA5 (A:=A.in1) S hu1 p2 q2 he j h1 h2).1⟩
  · rw [aW1 hlen]
    have hs:(vs.toArray.size !=us.toArray.size)=true:=by rw [aI,aI,p2.len,q2.len]; simpa using hlen
    exact ⟨RcAt.lists_lengths p1.isList q1.isList hs (by exact T6 hu),RcNeAt.lists_lengths p1.isList q1.isList hs (by exact T6 hu)⟩
 exact ⟨rc.1,rc.2,aA4 rc.1 (fun _ _ q=>nomatch q) sm,sm⟩
theorem aA6 {k:Nat} {x y:V} {b:Bool} (hk:k <= 150) (h:M3 w KF H k x y b) (hq:Q (.bool (!b)) H):W2 prog w KF d E VR H (dw .NotEq) x y Q:=fun A F ρ s u v hA S ru rv=>by
 have:=hA.un
 exact (h A F ρ s u v (by exact bx6 hk this) S ru rv).ne prog w _ _ (y4 S A6 hq)
noncomputable def eqS:V -> V -> Bool
 | .str x,.str y=>x==y
 | .int x,.int y=>x==y
 | _,_=>false
theorem cd9 {α:Type} [DecidableEq α] (f:α -> V) (hf:∀ x y,eqS (f x) (f y)=decide (x=y)):∀ (xs ys:List α),B7 (xs.map f) (ys.map f) eqS=decide (xs=ys):=by
 intro xs ys
 unfold B7
 rw [aD,aD,Bool.eq_iff_iff]
 simp only [Bool.and_eq_true,beq_iff_eq,List.all_eq_true,cQ,decide_eq_true_eq]
 constructor
 · (refine m8 fun h1 h2=>?_)
   refine List.ext_getElem h1 fun i hi hi'=>?_
   have:=h2 i hi
   unfold P0 at this
   rw [aU,aU,aq hi,aq hi'] at this
   simpa [hf] using this
 · rintro rfl
   refine ⟨rfl,fun i hi=>?_⟩
   unfold P0
   rw [aU,aq hi]
   simp [hf]
theorem aW3 {l r:Nat} {xs ys:List Str} (hl:H[l]?=some (.list (xs.map .str))) (hr:H[r]?=some (.list (ys.map .str))):M3 w KF H 1 (.ref l) (.ref r) (decide (xs=ys)):=by
 rw [<- cd9 V.str (fun x y=>by show (x==y)=_; rw [Bool.eq_iff_iff]; simp)]
 refine cd8 (k:=0) hl hr fun x hx y hy=>?_
 (refine b9 (aV.mp hx) fun a _ qz14=>?_; subst qz14)
 (refine b9 (aV.mp hy) fun b _ qz15=>?_; subst qz15)
 exact cd6
end
end
section
set_option tactic.hygienic false
section
variable {prog:Program} {w:World} {KF:Frag} {d:Nat} {E:i7} {H:List O} {Q:V -> List O -> Prop}
theorem aW4 {x:Str}:C6 prog w KF H (.str x) "rstrip" (.bi "str.rstrip"):=fun A F ρ s u pl K E' S r h=>by
 (refine c0 (r.str_eq) fun t qz2=>?_; subst qz2); exact GM.rstrip (h _ W9)
theorem aA7 {x:Str}:C6 prog w KF H (.str x) "join" (.bi "str.join"):=fun A F ρ s u pl K E' S r h=>by
 (refine c0 (r.str_eq) fun t qz3=>?_; subst qz3); exact GM.join (h _ W9)
theorem aW5 {x:Str} (hz:x.length <= aB) (h:Q (.str (iE x)) H):i5 prog w KF d E H (.bi "str.rstrip") [.str x] Q:=fun A F ρ s u us hA S ru r=>by
 rw [ru.bi_eq]
 (refine e8 (r.cons_eq) fun v q qz6 rv rq=>?_; subst qz6)
 rw [rq.nil_eq]
 (refine c0 (rv.str_eq) fun t qz7=>?_; subst qz7)
 exact bA (ao _) (SC.rstrip (fun t' k ht=>u7 S J9 h ht) hz)
theorem aW6 {ρ:List b7} {h:Heap}:∀ {ys:List Str} {us:List Value},c8 ρ h (ys.map V.str) us -> StrsAre us ys
 | [],us,r=>by rw [r.nil_eq]; exact .nil
 | y::ys,us,r=>by
  (refine e8 (r.cons_eq) fun v q qz8 a b=>?_; subst qz8)
  (refine c0 (a.str_eq) fun t qz9=>?_; subst qz9)
  exact .cons y t (aW6 b)
theorem aA8 {x:Str} {l:Nat} {ys:List Str} (hl:af1 H l (ys.map V.str)) (hok:(ys.map (·.length)).sum+ys.length*x.length <= 16777216) (h:Q (.str (fF x ys)) H):i5 prog w KF d E H (.bi "str.join") [.str x,.ref l] Q:=fun A F ρ s u us hA S ru r=>by
 rw [ru.bi_eq]
 (refine e8 (r.cons_eq) fun v q qz10 rv rq=>?_; subst qz10)
 (refine e8 (rq.cons_eq) fun v' q' qz11 rv' rq'=>?_; subst qz11)
 rw [rq'.nil_eq]
 (refine c0 (rv.str_eq) fun t qz12=>?_; subst qz12)
 (refine b9 (rv'.ref_eq) fun e he qz13=>?_; subst qz13)
 (refine b9 (S.list hl he) fun vs a b=>?_)
 exact bA (ao _) (join_list a (aW6 (by simpa using b)) hok fun t' k ht=>u7 S J9 h ht)
-- unpacking
theorem w2.trans {fp:List Nat} {s s₁ s2:Shared} (a:w2 fp s s₁) (b:w2 fp s₁ s2):w2 fp s s2:=(m5 ⟨b.1.1.trans a.1.1,ag a.1.2 b.1.2⟩ (b.2.1.trans a.2.1) (a.2.2.1.trans b.2.2.1) (fun x o hx e=>b.2.2.2 x o hx (a.2.2.2 x o hx e)))
theorem aA9 {I:Nat} {fp:List Nat} {xs:List V} {G:List O -> Prop} {St:Nat -> List b7 -> Heap -> Prop} {Md:Value -> Nat -> List b7 -> Heap -> Prop} (IT:O7 prog w KF I fp xs G St Md fun _=>True) {A:Around} (hh:A.handled=none) {F:d6} {ρ:List b7} (hG:G H) (hf:∀ b∈fp,F.f b=none /\ b ∉ q0 ρ) {E':Value -> Shared -> Prop} :
 ∀ (n i:Nat) (s:Shared),i+n=xs.length -> d7 w KF F ρ H s.heap (gt s) -> St i ρ s.heap ->
  ax (aA prog w) A (draw (.ref I) n) (fun us s'=>c8 ρ s'.heap (xs.drop i) us /\ St xs.length ρ s'.heap /\ w2 fp s s') E' s
 | 0,i,s,hn,S,st=>by
  have:xs.drop i=[]:=gu (by exact by6 hn)
  rw [this]
  exact ac (e9 .nil (by rw [<- hn]; exact st) .refl)
 | n+1,i,s,hn,S,st=>by
  have hi:i < xs.length:=by exact Q4 hn
  unfold draw
  refine ab (ar (IT.item A F ρ H s i xs[i] E' hh S hG st (aq hi)) (fun r s₁=>au2 fun v e rv md1 c1=>?_) fun _ _ x=>x)
  have st1:=IT.pl (fun _=>trivial) _ _ _ _ md1
  subst e
  have S1:=S.chg hf c1
  refine ab (aM (ar (aA9 IT hh hG hf n (i+1) s₁ (by exact nq7 hn) S1 st1) (fun us s2=>N6 fun ru st2 c2=>?_) fun _ _ x=>x))
  rw [cW hi]
  exact ac (e9 (.cons (rv.mono (az _) c2.2.2.1) ru) st2 (c1.trans c2))
noncomputable def aW7 (w:World) (KF:Frag) (H:List O) (v:V):Prop:=∀ F ρ (s:Shared) u,d7 w KF F ρ H s.heap (gt s) -> VR ρ s.heap v u -> ∃ T r,s.TypeIs u T /\ aX (.type T) "__iter__"=pure (some r)
theorem ce0 {v:V} {xs:List V} {G:List O -> Prop} {Q:List V -> List O -> Prop} (hI:J8 prog w KF d E H v xs G) (hG:G H) (hi:aW7 w KF H v) (h:Q xs H):W1 prog w KF d E c8 H (fun u=>gp u xs.length none) v Q:=fun A F ρ s u hA S ru=>by
 (refine B5 (hi F ρ s u S ru) fun T r hT hl=>?_)
 unfold gp
 refine ab ?_
 unfold notIterableAtAll
 refine ab (cV hT hl (ac ?_))
 first | with_reducible refine wpAny_ite_false (by decide) ?_ | simp only [bq,if_false]
 refine ab (aM (ar (hI A F ρ s u hA S ru) (fun it s₁ hx=>?_) fun _ _ x=>x))
 (refine aj0 hx fun I fp St Md e IT hSt hk hg ho hf=>?_; try clear hx)
 subst e
 have S1:d7 w KF F ρ H s₁.heap (gt s₁):=(S.keeps hk).gte hg.1 hg.2
 have hfp:∀ b∈fp,F.f b=none /\ b ∉ q0 ρ:=fun b hb=>by
  refine ⟨?_,fun q=>?_⟩
  · cases q:F.f b with
    | none=>rfl
    | some o=>(refine b9 (S.keep _ _ q) fun o' e' _=>?_); rw [hf b hb] at e'; cases e'
  · (refine c0 (S.live b q) fun o hx=>?_); rw [hf b hb] at hx; cases hx
 refine ab (aM (ar (aA9 IT hA.hd hG hfp xs.length 0 s₁ (by exact aN6) S1 hSt) (fun us s2=>N6 fun rus st2 c2=>?_) fun _ _ x=>x))
 rw [dI] at rus
 have S2:=S1.chg hfp c2
 rw [if_neg (by rw [rus.len]; exact aN7)]
 refine ab (aM (ar (IT.done A F ρ H s2 _ hA.hd S2 hG st2) (fun r s3=>m8 fun e c3=>?_) fun _ _ x=>x))
 subst e
 first | with_reducible refine wpAny_ite_false (by decide) ?_ | simp only [Option.isSome_none,bq,if_false]
 refine ac ⟨ρ,H,xs,((f0.same (.of_keep hk) ho (by rw [hg.1]; exact ao _)).trans c2.step).trans c3.step,S2.chg hfp c3,rus.mono (az _) c3.2.2.1,h⟩
theorem ce1 {xs:List V}:aW7 w KF H (.tup xs):=fun F ρ s u S r=>by
 (refine e8 (r.tup_eq) fun a vs qz15 ht _=>?_; subst qz15)
 exact (L6 ("tuple") _ ht.typeIs PySem.F.slot_tuple_iter.lookup)
theorem G1 {n:Nat} {xs:List V} {Q:List V -> List O -> Prop} (hn:n=xs.length) (h:Q xs H):W1 prog w KF d E c8 H (fun u=>gp u n none) (.tup xs) Q:=by
 subst hn; exact ce0 ca9 trivial ce1 h
end
end
section
set_option tactic.hygienic false
section
variable {prog:Program} {w:World} {KF:Frag} {fi:FI} {d:Nat} {E:EP} {m:b8} {H:List O}
theorem af2 {elt target:Expr} {ifs:List Expr} {sc':Scope} {v:V} {Q:List V -> List O -> Prop} {xs:List V} {G:List O -> Prop} (b:V -> Bool) (f:V -> V) (hI:J8 prog w KF d (Em E m) H v xs G) (hG:G H) (hsz:xs.length <= aB)
 (h:∀ x∈xs,WA prog w KF (ci sc' fi) d E (T9 sc'++m) H target x fun m2 H2=>H2=H /\ WTs prog w KF (ci sc' fi) d E m2 H ifs fun r H3=>H3=H /\ r=b x /\ (b x=true -> WE prog w KF (ci sc' fi) d E m2 H elt fun y H4=>H4=H /\ y=f x))
 (hQ:Q ((xs.filter b).map f) H):aU3 prog w KF fi d E m H elt target ifs sc' v Q:=by
 refine (aM6 xs G hI hsz (fun i ys H'=>H'=H /\ ys=((xs.take i).filter b).map f) ⟨rfl,by simp⟩ ?_ ?_ ?_)
 · (intro i ys H'; refine m8 fun qz1 qz2=>?_; subst qz1; subst qz2)
   refine ⟨hG,?_⟩
   rw [aD]
   exact ag (dJ _ _) (by rw [bQ]; exact bW _ _)
 · (intro i x ys H' hx; refine m8 fun qz3 qz4=>?_; subst qz3; subst qz4)
   have hx':=h x (ba hx)
   have e:(xs.take (i+1)).filter b=(xs.take i).filter b++(if b x=true then [x] else []):=by
    rw [eZ,hx,fX]
    cases q:b x<;>simp [q]
   refine fun A env F ρ s u hA S r=>ar (hx' A env F ρ s u hA S r) (fun _ s'=>AQ.el fun ρ' H2 m' st S' qz5=>d0 qz5 fun e2 h2=>⟨ρ',H2,m',st,S',?_⟩) fun _ _ z=>z
   subst e2
   have fin:∀ (r:Bool) H3,(H3=H2 /\ r=b x /\ (b x=true -> WE prog w KF (ci sc' fi) d E m' H2 elt fun y H4=>H4=H2 /\ y=f x)) ->
    (if r=true then WE prog w KF (ci sc' fi) d E m' H3 elt fun y H4=>H4=H2 /\ List.map f ((xs.take i).filter b)++[y]=((xs.take (i+1)).filter b).map f else H3=H2 /\ ((xs.take i).filter b).map f=((xs.take (i+1)).filter b).map f):=by
    (intro r H3; refine N6 fun qz6 qz7 hw=>?_; subst qz6; subst qz7)
    cases q:b x with
    | true =>
     refine (hw q).mono fun y H4=>m8 fun e3 e4=>⟨e3,?_⟩
     rw [e,if_pos q,e4]
     simp
    | false=>exact ⟨rfl,by rw [e,if_neg (by rw [q]; decide),bg]⟩
   match ifs,h2 with
   | [],h2=>exact fin true _ h2
   | [c],h2=>exact fun A env F ρ s hA S=>ar (h2 A env F ρ s hA S) (fun r s'=>SQ.el fun ρ' H3 bb st S' rb hq=>⟨ρ',H3,bb,st,S',rb,fin bb H3 hq⟩) fun _ _ z=>z
   | _::_::_,h2=>exact h2
 · (intro ys H'; refine m8 fun qz8 qz9=>?_; subst qz8; subst qz9)
   rw [dE]
   exact hQ
noncomputable def A7 (v:Option Int) (dflt n:Nat):Nat:=match v with
 | none=>dflt
 | some i=>(max 0 (min (if i < 0 then i+n else i) (n:Int))).toNat
theorem aW8 {α:Type} (xs:List α):∀ (k a:Nat),a+k <= xs.length -> ((cB k).map fun j=>a+j).filterMap (xs[·]?)=(xs.drop a).take k
 | 0,a,_=>by simp
 | k+1,a,h=>by
  rw [List.range_succ,aQ,List.filterMap_append,aW8 xs k a (by exact by7 h)]
  have hk:a+k < xs.length:=by exact by8 h
  simp only [aR,fC,fL,aq hk,List.filterMap_nil]
  rw [eZ,dK,aq hk]
  rfl
theorem aW9 {hi:Option Int} {n:Nat}:A7 hi n n <= n:=by
 unfold A7
 cases hi with
 | none=>exact ao _
 | some i=>exact Int.toNat_le.mpr (Int.max_le.mpr ⟨bK _,Int.min_le_right _ _⟩)
theorem aX0 (lo hi:Option Int) (n:Nat):sliceRange (dM lo hi none n).1 (dM lo hi none n).2.1 (dM lo hi none n).2.2=(cB (A7 hi n n - A7 lo 0 n)).map fun k=>A7 lo 0 n+k:=by
 have hb:dM lo hi none n=(((A7 lo 0 n:Nat):Int),((A7 hi n n:Nat):Int),1):=by
  have cl:∀ i:Int,max 0 (min (if i < 0 then i+n else i) (n:Int))=(((max 0 (min (if i < 0 then i+n else i) (n:Int))).toNat:Nat):Int):=fun i=>(Int.toNat_of_nonneg (Int.le_max_left 0 _)).symm
  cases lo with
  | none=>cases hi with
   | none=>rfl
   | some j=>exact congrArg (fun z=>((0:Int),z,(1:Int))) (cl j)
  | some i=>cases hi with
   | none=>exact congrArg (fun z=>(z,(n:Int),(1:Int))) (cl i)
   | some j=>exact (congrArg (fun z=>(z,_,(1:Int))) (cl i)).trans (congrArg (fun z=>(_,z,(1:Int))) (cl j))
 rw [hb]
 unfold sliceRange
 simp only
 rw [if_pos (show (1:Int) > 0 by decide)]
 generalize A7 hi n n=b
 generalize A7 lo 0 n=a
 by_cases h:a < b
 · rw [if_pos (aO.mpr h)]
   have e:(((b:Int) - a+1 - 1) / 1).toNat=b - a:=by rw [Int.ediv_one,Int.add_sub_cancel,<- Int.ofNat_sub (Nat.le_of_lt h)]; rfl
   rw [e]
   have e2:(fun k:Nat=>((a:Int)+1*(k:Int)).toNat)=fun k=>a+k:=funext fun k=>by rw [Int.one_mul]; rfl
   rw [e2]
 · rw [if_neg (fun q=>h (aO.mp q)),show b - a=0 by exact by9 h]
   rfl
theorem af3 {α:Type} (xs:List α) (lo hi:Option Int):pick xs lo hi none=(xs.drop (A7 lo 0 xs.length)).take (A7 hi xs.length xs.length - A7 lo 0 xs.length):=by
 unfold pick
 rw [aX0]
 by_cases h:A7 lo 0 xs.length <= A7 hi xs.length xs.length
 · exact aW8 xs _ _ (by have:=aW9 (hi:=hi) (n:=xs.length); exact bz0 h this)
 · rw [Nat.sub_eq_zero_of_le (Nat.le_of_not_le h)]
   rfl
theorem aX1 (k d n:Nat):A7 (some (k:Int)) d n=min k n:=by
 unfold A7
 simp only
 rw [if_neg (Int.not_lt.mpr (bK k)),show min (k:Int) (n:Int)=((min k n:Nat):Int) from ?_,Int.max_eq_right (bK _),gK]
 rcases Nat.le_total k n with h | h
 · rw [cF h,Int.min_eq_left (Int.ofNat_le.mpr h)]
 · rw [dC h,Int.min_eq_right (Int.ofNat_le.mpr h)]
theorem ce2 {α:Type} (xs:List α) (k:Nat):pick xs none (some (k:Int)) none=xs.take k:=by
 rw [af3,aX1,show A7 none 0 xs.length=0 from rfl,dI,Nat.sub_zero,<- List.take_eq_take_min]
theorem aa2 {Q:V -> List O -> Prop} (h:Q .none H):R1 prog w KF d fi E m H none Q:=h
theorem aB0 {e:Expr} {Q:V -> List O -> Prop} (h:WE prog w KF fi d E m H e Q):R1 prog w KF d fi E m H (some e) Q:=h
noncomputable def S (l:List Nat):Str:=⟨l.toArray⟩
theorem aX2 (x:Str):S x.cps.toList=x:=rfl
theorem j5 (l:List Nat):(S l).length=l.length:=by show l.toArray.size=_; simp
theorem am2 {a b:List Nat}:S a=S b↔a=b:=⟨fun h=>by injection h with h; simpa using h,fun h=>by rw [h]⟩
theorem M4 (a b:List Nat):S a++S b=S (a++b):=by show Str.append _ _=_; simp [Str.append,S]
theorem aB1 (a b:List Nat):(S a==S b)=decide (a=b):=by rw [Bool.eq_iff_iff]; simp [am2]
theorem aX3 (a b:List Nat):(S a !=S b)=!decide (a=b):=by rw [bne,aB1]
theorem ce3 (l:List Nat) (c:Nat):sIn (S l) (S [c])=decide (c∈l):=by
 unfold sIn
 rw [show S [c]=⟨#[c]⟩ from rfl,PySem.StrLaws.found_one (S l) c,decide_eq_decide]
 simp [S]
theorem ce4 {l:List Nat} {i:Int} {c:Nat} (h0:0 <= i) (hc:l[i.toNat]?=some c):Txt.item (S l) i=S [c]:=PyProof.Rows.item_meets h0 (by simpa [S] using hc)
end
section
variable {prog:Program} {w:World} {KF:Frag} {d:Nat} {E:i7} {H:List O} {Q:V -> List O -> Prop}
theorem ce5 {n:Nat} (hn:n < 2 ^ 61):J8 prog w KF d E H (.rng 0 (n:Nat)) ((cB n).map fun i=>V.int (i:Nat)) (fun _=>True):=by
 have:=aU0 (prog:=prog) (w:=w) (KF:=KF) (d:=d) (E:=E) (H:=H) (a:=0) (b:=(n:Nat)) ⟨by decide,by decide⟩ ⟨Int.le_trans (by decide) (bK n),Int.lt_of_lt_of_le (aO.mpr hn) (by decide)⟩
 have e:((n:Int) - 0).toNat=n:=by rw [Int.sub_zero]; rfl
 rw [e] at this
 have e2:(fun i:Nat=>V.int (0+(i:Int)))=fun i:Nat=>V.int (i:Int):=funext fun i=>by rw [Int.zero_add]
 rw [e2] at this
 exact this
theorem am3 {l:List Nat}:J8 prog w KF d E H (.str (S l)) (l.map fun c=>V.str (S [c])) (fun _=>True):=by
 have:=ca8 (prog:=prog) (w:=w) (KF:=KF) (d:=d) (E:=E) (H:=H) (x:=S l)
 simpa [S] using this
theorem P1 {l:List Nat} {k c:Nat} (hc:l[k]?=some c) (hz:l.length <= aB) (h:Q (.str (S [c])) H):W2 prog w KF d E VR H J0 (.str (S l)) (.int (k:Nat)) Q:=by
 have hk:=(ae.mp hc).1
 refine aV7 ⟨by rw [j5]; exact Int.le_trans (Int.neg_nonpos_of_nonneg (bK _)) (bK _),by rw [j5]; exact aO.mpr (ae.mp hc).1⟩ (by rw [j5]; exact hz) ?_
 rw [ce4 (bK _) (by simpa using hc)]
 exact h
theorem am4 {x:Str} {c:Nat} (h:Q (.bool (decide (c∈x.cps.toList))) H):W2 prog w KF d E VR H (dw .In) (.str (S [c])) (.str x) Q:=by
 refine cc3 ?_
 have:=ce3 x.cps.toList c
 rw [aX2] at this
 rw [this]; exact h
theorem aX4:∀ xs:List (List Nat),Str.join (S []) (xs.map S)=S xs.flatten
 | []=>rfl
 | [x]=>by show S x=_; simp
 | x::y::r=>by
  show S x++S []++Str.join (S []) ((y::r).map S)=_
  rw [aX4 (y::r),M4,M4]
  simp
theorem aB2 (xs:List (List Nat)):fF (S []) (xs.map S)=S xs.flatten:=(PySem.StrLaws.glued_eq_join _ _).trans (aX4 xs)
end
end
end Mine
end
section
open PySem PySem.W PyProof.Rows PySem.W.X
namespace Mine
set_option tactic.hygienic false
noncomputable def s5 (h:Heap) (I:Nat) (x:Str) (t:Tok) (i:Nat):Prop:=h.IsStrIter I "str_ascii_iterator" x t i \/ h.IsStrIter I "str_iterator" x t i
theorem s5.at {h h':Heap} {I:Nat} {x:Str} {t:Tok} {i:Nat} (y:s5 h I x t i) (k:∀ o,h.get? I=some o -> h'.get? I=some o):s5 h' I x t i:=by
 rcases y with ⟨o,ho,r⟩ | ⟨o,ho,r⟩
 · exact .inl (c5 o (k o ho) r)
 · exact .inr (c5 o (k o ho) r)
theorem s5.live {h:Heap} {I:Nat} {x:Str} {t:Tok} {i:Nat} (y:s5 h I x t i):∃ o,h.get? I=some o:=by
 rcases y with ⟨o,ho,_⟩ | ⟨o,ho,_⟩<;>exact ⟨o,ho⟩
section
variable {prog:Program} {w:World} {A:Around} {E:Value -> Shared -> Prop} {s:Shared}
theorem aB3 {I:Nat} {x:Str} {t:Tok} {i c:Nat} {Q:Value -> Shared -> Prop} (y:s5 s.heap I x t i) (hx:x.cps[i]?=some c)
 (hQ:∀ h' tk u,s5 h' I x t (i+1) -> gP I s.heap h' -> Q (.str ⟨#[c]⟩ u) { s with heap:=h',toks:=tk }):ax (aA prog w) A (ca (.ref I)) Q E s:=by
 rcases y with y | y
 · exact wpAny_nextOf_ascii_item y hx fun h' a b=>hQ _ _ _ (.inl a) b
 · exact wpAny_nextOf_wide_item y hx fun h' a b=>hQ _ _ _ (.inr a) b
theorem aX5 {I:Nat} {x:Str} {t:Tok} {i:Nat} {Q:Value -> Shared -> Prop} (hh:A.handled=none) (y:s5 s.heap I x t i) (hx:x.cps[i]?=none)
 (hE:∀ h' e,Heap.ExtBut I s.heap h' -> (∃ o,h'.get? e=some o /\ o.cls=.type "StopIteration") -> E (.ref e) { s with heap:=h' }):ax (aA prog w) A (ca (.ref I)) Q E s:=by
 rcases y with y | y
 · exact wpAny_nextOf_ascii_end hh y hx hE
 · exact wpAny_nextOf_wide_end hh y hx hE
noncomputable def D3 (x:Str) (t:Tok):Obj:={ cls:=.type (if x.cps.all (· < 128)=true then "str_ascii_iterator" else "str_iterator"),data:=.fields #[.str x t,.int 0 0] }
theorem aX6 {h:Heap} {x:Str} {t:Tok} {I:Nat} (e:h.get? I=some (D3 x t)):s5 h I x t 0:=by
 unfold D3 at e
 by_cases q:x.cps.all (· < 128)=true
 · rw [if_pos q] at e; exact .inl (i0 _ e rfl rfl)
 · rw [if_neg q] at e; exact .inr (i0 _ e rfl rfl)
theorem aX7 {x:Str} {t:Tok} {Q:Value -> Shared -> Prop} (hQ:Q (.ref s.heap.objs.size) { s with heap:=s.heap.push (D3 x t) }):ax (aA prog w) A (pyIter (.str x t)) Q E s:=by
 unfold D3 at hQ
 cases q:x.cps.all (· < 128)
 · rw [q] at hQ; exact wpAny_pyIter_wide q hQ
 · rw [q] at hQ; exact wpAny_pyIter_ascii q hQ
structure ZA (z TI TO i1 i2:Nat):Prop where
 a1:TI≠z
 a2:TO≠z
 a3:i1≠z
 a4:i2≠z
 a5:TI≠TO
 a6:TI≠i1
 a7:TI≠i2
 a8:TO≠i1
 a9:TO≠i2
 a10:i1≠i2
noncomputable def aB4 (l:List Nat) (h h':Heap):Prop:=∀ c o,c ∉ l -> h.get? c=some o -> h'.get? c=some o
theorem ce6 {z TI TO i1 i2:Nat} {k c d:Nat} {x y:Str} {t u:Tok} {a b:Value} {Q:Value -> Shared -> Prop} (D:ZA z TI TO i1 i2)
 (hz:IsZip s.heap z TI TO .none) (hTI:dz s.heap TI (.ref i1) (.ref i2)) (hTO:dz s.heap TO a b)
 (h1:s5 s.heap i1 x t k) (h2:s5 s.heap i2 y u k) (hx:x.cps[k]?=some c) (hy:y.cps[k]?=some d)
 (hQ:∀ h' tk p q,IsZip h' z TI TO (rawInt s.heap.objs.size) -> (∃ a b,dz h' TO a b) -> s5 h' i1 x t (k+1) -> s5 h' i2 y u (k+1) -> dz h' s.heap.objs.size (.str ⟨#[c]⟩ p) (.str ⟨#[d]⟩ q) ->
  aB4 [z,TO,i1,i2] s.heap h' -> Q (.ref s.heap.objs.size) { s with heap:=h',toks:=tk }) :
 ax (aA prog w) A (aP.«zip.__next__» ⟨[.ref z],[]⟩) (fun fin s'=>∃ v,fin=.done (.ret v) /\ Q v s') E s:=by
 show ax _ _ (field (.ref z) 2 >>= _) _ _ _
 refine ab (cm hz rfl (x:=.bool false) rfl ?_)
 show ax _ _ (field (.ref z) 3 >>= _) _ _ _
 refine ab (cm hz rfl (x:=.ref TI) rfl (ab (cw hTI rfl ?_)))
 show ax _ _ (dg (.ref z) >>= _) _ _ _
 refine ab ?_
 unfold dg
 refine ab (cm hz rfl (x:=.none) rfl (ac ?_))
 first | with_reducible refine wpAny_ite_true (by decide) ?_ | dsimp only [if_true]
 refine ab (dB (ab (cm hz rfl (x:=.ref TO) rfl (ab (eN hz (by simp) fun h₁ hz1 hs1=>?_)))))
 replace hz1:IsZip h₁ z TI TO .ellipsis:=hz1
 refine ab ?_
 dsimp only [List.zipIdx_cons,List.zipIdx_nil,cG,List.forIn_nil]
 refine ab (ab (wpAny_onRaise ?_))
 show ax _ _ (ca (.ref i1) >>= _) _ _ _
 refine ab (aB3 (h1.at fun o e=>hs1.extBut _ o D.a3 e) hx fun h₂ tk2 p h12 hs2=>ac ?_)
 have hTO2:dz h₂ TO a b:=hs2.extBut _ _ D.a8 (hs1.extBut _ _ D.a2 hTO)
 refine ab (cw hTO2 rfl (ab (wpAny_updateSeq_pair hTO2 fun h3 hTO3 hs3=>ab (ig (ac ?_)))))
 replace hTO3:dz h3 TO (.str ⟨#[c]⟩ p) b:=hTO3
 refine ab (ab (wpAny_onRaise ?_))
 show ax _ _ (ca (.ref i2) >>= _) _ _ _
 refine ab (aB3 (h2.at fun o e=>hs3.extBut _ o D.a9.symm (hs2.extBut _ o D.a10.symm (hs1.extBut _ o D.a4 e))) hy fun h4 tk4 q h24 hs4=>ac ?_)
 have hTO4:dz h4 TO (.str ⟨#[c]⟩ p) b:=hs4.extBut _ _ D.a9 hTO3
 refine ab (cw hTO4 rfl (ab (wpAny_updateSeq_pair hTO4 fun h5 hTO5 hs5=>ab (ig (ac (ac ?_))))))
 replace hTO5:dz h5 TO (.str ⟨#[c]⟩ p) (.str ⟨#[d]⟩ q):=hTO5
 refine ab (cw hTO5 rfl (ab (wpAny_newTuple ?_)))
 have hsz:h5.objs.size=s.heap.objs.size:=by rw [hs5.1,hs4.1,hs3.1,hs2.1,hs1.1]
 have k5:aB4 [z,TO,i1,i2] s.heap h5:=fun c o n e=>by
  simp only [aJ,List.not_mem_nil,or_false,not_or] at n
  exact hs5.extBut _ _ n.2.1 (hs4.extBut _ _ n.2.2.2 (hs3.extBut _ _ n.2.1 (hs2.extBut _ _ n.2.2.1 (hs1.extBut _ _ n.1 e))))
 have hz5:IsZip h5 z TI TO .ellipsis:=hs5.extBut _ _ D.a2.symm (hs4.extBut _ _ D.a4.symm (hs3.extBut _ _ D.a2.symm (hs2.extBut _ _ D.a3.symm hz1)))
 have h15:s5 h5 i1 x t (k+1):=h12.at fun o e=>hs5.extBut _ o D.a8.symm (hs4.extBut _ o D.a10 (hs3.extBut _ o D.a8.symm e))
 have h25:s5 h5 i2 y u (k+1):=h24.at fun o e=>hs5.extBut _ o D.a9.symm e
 have hzlt:z < h5.objs.size:=bG hz5
 show ax _ _ (aP.SmallTypes.ownedTupleHandOut (.ref z) (.ref h5.objs.size) >>= _) _ _ _
 refine ab ?_
 unfold aP.SmallTypes.ownedTupleHandOut
 have hz6:IsZip (h5.push { cls:=.type "tuple",data:=.seq #[.str ⟨#[c]⟩ p,.str ⟨#[d]⟩ q] }) z TI TO .ellipsis:=ak _ hz5
 refine ab (eN hz6 (by simp) fun h7 hz7 hs7=>?_)
 replace hz7:IsZip h7 z TI TO (rawInt h5.objs.size):=hz7
 refine eN hz7 (by simp) fun h8 hz8 hs8=>?_
 replace hz8:IsZip h8 z TI TO (rawInt h5.objs.size):=hz8
 have up:∀ c o,c≠z -> h5.get? c=some o -> h8.get? c=some o:=fun c o c1 e=>hs8.extBut _ _ c1 (hs7.extBut _ _ c1 (ak _ e))
 have hT8:dz h8 h5.objs.size (.str ⟨#[c]⟩ p) (.str ⟨#[d]⟩ q):=hs8.extBut _ _ (cZ hzlt) (hs7.extBut _ _ (cZ hzlt) (aK _ rfl))
 rw [hsz] at hz8 hT8
 refine ac (c5 _ rfl ?_)
 show Q (.ref h5.objs.size) _
 rw [hsz]
 exact hQ h8 _ p q hz8 (l8 _ _ (up _ _ D.a2 hTO5)) (h15.at fun o e=>up _ o D.a3 e) (h25.at fun o e=>up _ o D.a4 e) hT8 fun c o n e=>up c o (fun q=>n (q▸.head _)) (k5 c o n e)
theorem ce7 {z TI TO i1 i2:Nat} {k:Nat} {x y:Str} {t u:Tok} {a b:Value} {Q:Fin -> Shared -> Prop} (hh:A.handled=none) (D:ZA z TI TO i1 i2)
 (hz:IsZip s.heap z TI TO .none) (hTI:dz s.heap TI (.ref i1) (.ref i2)) (hTO:dz s.heap TO a b)
 (h1:s5 s.heap i1 x t k) (h2:s5 s.heap i2 y u k) (hend:x.cps[k]?=none \/ y.cps[k]?=none)
 (hE:∀ h' tk e,aB4 [z,TO,i1,i2] s.heap h' -> (∃ o,h'.get? e=some o /\ o.cls=.type "StopIteration") -> E (.ref e) { s with heap:=h',toks:=tk }) :
 ax (aA prog w) A (aP.«zip.__next__» ⟨[.ref z],[]⟩) Q E s:=by
 show ax _ _ (field (.ref z) 2 >>= _) _ _ _
 refine ab (cm hz rfl (x:=.bool false) rfl ?_)
 show ax _ _ (field (.ref z) 3 >>= _) _ _ _
 refine ab (cm hz rfl (x:=.ref TI) rfl (ab (cw hTI rfl ?_)))
 show ax _ _ (dg (.ref z) >>= _) _ _ _
 refine ab ?_
 unfold dg
 refine ab (cm hz rfl (x:=.none) rfl (ac ?_))
 first | with_reducible refine wpAny_ite_true (by decide) ?_ | dsimp only [if_true]
 refine ab (dB (ab (cm hz rfl (x:=.ref TO) rfl (ab (eN hz (by simp) fun h₁ hz1 hs1=>?_)))))
 replace hz1:IsZip h₁ z TI TO .ellipsis:=hz1
 refine ab ?_
 dsimp only [List.zipIdx_cons,List.zipIdx_nil,cG,List.forIn_nil]
 refine ab (ab (wpAny_onRaise ?_))
 show ax _ _ (ca (.ref i1) >>= _) _ _ _
 have h1':s5 h₁ i1 x t k:=h1.at fun o e=>hs1.extBut _ o D.a3 e
 cases hx:x.cps[k]? with
 | none =>
  refine ab (aX5 hh h1' hx fun h₂ e hs2 he=>?_)
  (refine b9 he fun oe hoe hce=>?_; try clear he)
  have hz2:IsZip h₂ z TI TO .ellipsis:=hs2 _ _ D.a3.symm hz1
  have hez:e≠z:=fun x=>by subst x; rw [hz2] at hoe; cases hoe; simp at hce
  refine eN hz2 (by simp) fun h3 _ hs3=>hE h3 _ e (fun c o n x=>?_) (c5 oe (hs3.extBut _ _ hez hoe) hce)
  simp only [aJ,List.not_mem_nil,or_false,not_or] at n
  exact hs3.extBut _ _ n.1 (hs2 _ _ n.2.2.1 (hs1.extBut _ _ n.1 x))
 | some c =>
  have hy:y.cps[k]?=none:=by rcases hend with h | h; rw [hx] at h; cases h; exact h
  refine ab (aB3 h1' hx fun h₂ tk2 p h12 hs2=>ac ?_)
  have hTO2:dz h₂ TO a b:=hs2.extBut _ _ D.a8 (hs1.extBut _ _ D.a2 hTO)
  refine ab (cw hTO2 rfl (ab (wpAny_updateSeq_pair hTO2 fun h3 hTO3 hs3=>ab (ig (ac (ab (ab (wpAny_onRaise ?_))))))))
  show ax _ _ (ca (.ref i2) >>= _) _ _ _
  refine ab (aX5 hh (h2.at fun o e=>hs3.extBut _ o D.a9.symm (hs2.extBut _ o D.a10.symm (hs1.extBut _ o D.a4 e))) hy fun h4 e hs4 he=>?_)
  (refine b9 he fun oe hoe hce=>?_; try clear he)
  have hz4:IsZip h4 z TI TO .ellipsis:=hs4 _ _ D.a4.symm (hs3.extBut _ _ D.a2.symm (hs2.extBut _ _ D.a3.symm hz1))
  have hez:e≠z:=fun x=>by subst x; rw [hz4] at hoe; cases hoe; simp at hce
  refine eN hz4 (by simp) fun h5 _ hs5=>hE h5 _ e (fun c o n x=>?_) (c5 oe (hs5.extBut _ _ hez hoe) hce)
  simp only [aJ,List.not_mem_nil,or_false,not_or] at n
  exact hs5.extBut _ _ n.1 (hs4 _ _ n.2.2.2 (hs3.extBut _ _ n.2.1 (hs2.extBut _ _ n.2.2.1 (hs1.extBut _ _ n.1 x))))
theorem ce8 (hh:A.handled=none) {z TI TO i1 i2:Nat} (D:ZA z TI TO i1 i2) (x y:Str) (t u:Tok) :
 WalksU prog w A z [z,TI,TO,i1,i2] [z,TO,i1,i2] (min x.cps.size y.cps.size)
  (fun i vals=>∃ c d p q,x.cps[i]?=some c /\ y.cps[i]?=some d /\ vals=#[.str ⟨#[c]⟩ p,.str ⟨#[d]⟩ q])
  (fun i h=>IsZip h z TI TO .none /\ dz h TI (.ref i1) (.ref i2) /\ (∃ a b,dz h TO a b) /\ s5 h i1 x t i /\ s5 h i2 y u i)
  (fun i T h=>IsZip h z TI TO (rawInt T) /\ dz h TI (.ref i1) (.ref i2) /\ (∃ a b,dz h TO a b) /\ s5 h i1 x t (i+1) /\ s5 h i2 y u (i+1) /\ T ∉ [z,TO,i1,i2]) where
 sub:=fun c hc=>by simp at hc ⊢; rcases hc with rfl | rfl | rfl | rfl<;>simp
 frame:=fun i h h' hst hk=>by
  (refine G7 hst fun hz hTI qz1 h1 h2=>?_; try clear hst; obtain ⟨a,b,hTO⟩:=qz1)
  exact (J7 (hk z (by simp) _ hz) (hk TI (by simp) _ hTI) (l8 a b (hk TO (by simp) _ hTO)) (h1.at fun o e=>hk i1 (by simp) o e) (h2.at fun o e=>hk i2 (by simp) o e))
 item:=fun i s Q E hi hst hQ=>by
  (refine G7 hst fun hz hTI qz2 h1 h2=>?_; try clear hst; obtain ⟨a,b,hTO⟩:=qz2)
  have hix:i < x.cps.size:=aW hi (bW ..)
  have hiy:i < y.cps.size:=aW hi (ed ..)
  have hT:s.TypeIs (.ref z) "zip":=(c5 _ hz rfl)
  have lt:∀ {c o},s.heap.get? c=some o -> s.heap.objs.size≠c:=fun e=>cZ (bG e)
  unfold cS
  refine ab (fR (cq (name:=aa "__next__") hT F.slot_zip_next
   (bP F.slot_zip_next hT F.entry_zip_next
    (ce6 D hz hTI hTO h1 h2 (cA hix) (cA hiy) fun h' tk p q a1 a2 a3 a4 a5 a6=>ac ?_) (F.args_zip_next_1 _))))
  refine hQ s.heap.objs.size _ h' tk (bw1 _ _ p q (cA hix) (cA hiy) rfl) (Q2 _ a5 rfl _ rfl)
   (Q1 a1 (a6 _ _ (by simp [D.a1,D.a5,D.a6,D.a7]) hTI) a2 a3 a4 ?_) fun c o hc e=>a6 c o hc e
  (refine c0 (h1.live) fun _ e1=>?_)
  (refine c0 (h2.live) fun _ e2=>?_)
  simp [lt hz,lt hTO,lt e1,lt e2]
 go:=fun elts k pos i T s Q E hm hQ=>by
  (refine N4 hm fun hz hTI qz3 h1 h2 _=>?_; try clear hm; obtain ⟨a,b,hTO⟩:=qz3)
  refine wpAny_letOwnedTupleGo_zip hz fun h' hz' hs'=>hQ h' (J7 hz' (hs'.extBut _ _ D.a1 hTI) (l8 a b (hs'.extBut _ _ D.a2 hTO)) (h1.at fun o e=>hs'.extBut _ o D.a3 e) (h2.at fun o e=>hs'.extBut _ o D.a4 e))
   fun c o hc e=>hs'.extBut _ _ (fun x=>hc (by simp [x])) e
 apart:=fun i T h hm=>hm.2.2.2.2.2
 done:=fun s Q E hst hQ=>by
  (refine G7 hst fun hz hTI qz4 h1 h2=>?_; try clear hst; obtain ⟨a,b,hTO⟩:=qz4)
  have hend:x.cps[min x.cps.size y.cps.size]?=none \/ y.cps[min x.cps.size y.cps.size]?=none:=by
   rcases Nat.le_total x.cps.size y.cps.size with h | h
   · exact .inl (by rw [cF h]; exact Array.getElem?_eq_none (ao _))
   · exact .inr (by rw [dC h]; exact Array.getElem?_eq_none (ao _))
  have hT:s.TypeIs (.ref z) "zip":=(c5 _ hz rfl)
  unfold cS
  refine ab (fR (cq (name:=aa "__next__") hT F.slot_zip_next
   (bP F.slot_zip_next hT F.entry_zip_next (ce7 hh D hz hTI hTO h1 h2 hend fun h' tk e hk he=>?_) (F.args_zip_next_1 _))))
  (refine b9 he fun o ho hc=>?_; try clear he)
  refine ab (eu (T:="StopIteration") (b:=true) (c5 o ho hc) isSubtype_stop ?_)
  exact ac (hQ _ _ fun c o hc e=>hk c o hc e)
 self:=fun i s Q E hst hQ=>wpAny_pyIter_zip hst.1 hQ
noncomputable def aX8 (h:Heap) (x y:Str) (t u:Tok):Heap :=
 ((((h.push (D3 x t)).push (D3 y u)).push { cls:=.type "tuple",data:=.seq #[.ref h.objs.size,.ref (h.push (D3 x t)).objs.size] }).push { cls:=.type "tuple",data:=.seq #[.none,.none] }).push
  { cls:=.type "zip",data:=.fields #[.none,.bool false,.bool false,.ref ((h.push (D3 x t)).push (D3 y u)).objs.size,.ref (((h.push (D3 x t)).push (D3 y u)).push { cls:=.type "tuple",data:=.seq #[.ref h.objs.size,.ref (h.push (D3 x t)).objs.size] }).objs.size] }
theorem ce9 (x y:Str) (t u:Tok) :
 Meets (aP.«zip.__new__» ⟨[.type "zip",.str x t,.str y u],[]⟩) (fun _ R s =>
  R (.ok (.ret (.ref ((((s.heap.push (D3 x t)).push (D3 y u)).push { cls:=.type "tuple",data:=.seq #[.ref s.heap.objs.size,.ref (s.heap.push (D3 x t)).objs.size] }).push { cls:=.type "tuple",data:=.seq #[.none,.none] }).objs.size))) { s with heap:=aX8 s.heap x y t u }) :=
 .of_wp fun prog w A R s h=>by
  obtain ⟨hp,g,d,tk,os⟩:=s
  have hsub:=sub_zip
  wp_walk using aX7 (x:=x) (t:=t),aX7 (x:=y) (t:=u)
  exact (c5 _ rfl h)
theorem cf0 {x y:Str} {t u:Tok} {Q:Value -> Shared -> Prop}
 (h:∀ h' n,n=s.heap.objs.size -> IsZip h' (n+4) (n+2) (n+3) .none -> dz h' (n+2) (.ref n) (.ref (n+1)) -> dz h' (n+3) .none .none -> s5 h' n x t 0 -> s5 h' (n+1) y u 0 -> h'.objs.size=n+5 ->
  o8 s.heap h' -> Q (.ref (n+4)) { s with heap:=h' }) :
 ax (aA prog w) A (call (.type "zip") [.str x t,.str y u]) Q E s:=by
 refine callType_new F.called_zip (by decide) (F.typeCall_zip_2 _ _) (F.newCall_zip_2 _ _) (fun obj=>F.args_object_init_3 obj _ _) F.entry_zip_new (ce9 x y t u) ?_
 unfold aX8
 simp only [cr]
 have g5:∀ (h:Heap) (o:Obj) (n:Nat),n=h.objs.size -> o.isFreed=false -> (h.push o).get? n=some o:=fun h o n e f=>by rw [e]; exact aK _ f
 have f1:∀ (x:Str) (t:Tok),(D3 x t).isFreed=false:=fun x t=>rfl
 refine ⟨(c5 _ (g5 _ _ _ (by simp only [cr]) rfl) rfl),h _ _ rfl (g5 _ _ _ (by simp only [cr]) rfl) ?_ ?_ ?_ ?_ (by simp only [cr]) ?_⟩
 · exact ak _ (ak _ (g5 _ _ _ (by simp only [cr]) rfl))
 · exact ak _ (g5 _ _ _ (by simp only [cr]) rfl)
 · exact aX6 (ak _ (ak _ (ak _ (ak _ (g5 _ _ _ rfl (f1 ..))))))
 · exact aX6 (ak _ (ak _ (ak _ (g5 _ _ _ (by simp only [cr]) (f1 ..)))))
 · exact fun c o e=>ak _ (ak _ (ak _ (ak _ (ak _ e))))
theorem cf1 (n:Nat):ZA (n+4) (n+2) (n+3) n (n+1):=by
 exact ⟨N8 (by decide),N8 (by decide),N8 (a:=0) (by decide),N8 (by decide),N8 (by decide),N8 (b:=0) (by decide),N8 (by decide),N8 (b:=0) (by decide),N8 (by decide),N8 (a:=0) (by decide)⟩
end
end Mine
end
section
open PySem PySem.W PyProof.Rows PySem.W.X PySem.SeqAt
namespace Mine
section
set_option tactic.hygienic false
structure af4 (KF:Frag) (c P:Nat):Prop where
 ex:∃ (oc:Obj) (vs:Array Value) (file:Str) (tf:Tok) (flags:Int) (tg:Tok) (inF:Bool) (text:Int) (tt:Tok),KF.lookup c=some oc /\ oc.cls=.type "code" /\ oc.data=.fields vs /\ vs.getD 11 .none=.ref P /\ vs[11]?=some (.ref P) /\ vs.getD 18 .none=.str file tf /\ vs.getD 7 .none=.int flags tg /\ vs.getD 9 .none=.bool inF /\ vs.getD 10 .none=.int text tt
 ne:c≠P
structure aa3 (P:Nat) (ps:Array Value) (h h':Heap):Prop where
 old:∀ b o,b≠P -> h.get? b=some o -> h'.get? b=some o
 tab:∃ more:List Value,ak7 (ps.toList++more) /\ h'.get? P=some { cls:=.none,data:=.fields (ps++more.toArray) }
theorem aX9 {α:Type}:∀ {l:List α} {i:Nat} {a:α},l[i]?=some a -> l.set i a=l
 | [],_,_,h=>by cases h
 | x::l,0,a,h=>by cases h; rfl
 | x::l,i+1,a,h=>by rw [List.set_cons_succ,aX9 (l:=l) (i:=i) (by simpa using h)]
section
variable {prog:Program} {w:World} {KF:Frag} {A:Around} {E:Value -> Shared -> Prop} {s:Shared}
theorem aY0 {env:Env} {c P:Nat} {ps:Array Value} {pos:Pos} {qual:Str} {scope:Scope} (hc:env.code=.ref c) (C:af4 KF c P) (B:Bs w KF s.heap) (g:aa3 P ps s.heap s.heap) :
 ax (aA prog w) A (genexprCode env pos qual scope) (fun code s'=>∃ h' tk,s'={ s with heap:=h',toks:=tk } /\ aa3 P ps s.heap h') E s:=by
 (refine bt6 (C.ex) fun oc vs file tf flags tg inF text tt hK h0 h1 h2 h3 h4 h5 h6 h7=>?_)
 (refine b9 (g.tab) fun more ht hP=>?_)
 have hoc:=B.k _ _ hK
 have hcode:s.heap.IsCode c P (ps++more.toArray):=(bx5 oc vs file tf flags tg inF text tt _ hoc h1 h2 h4 h5 h6 h7 hP rfl (by simpa [ak7] using ht) C.ne)
 have htab:s.heap.TableAt c P (ps++more.toArray):=⟨(N7 oc vs hoc h0 h1 h3),hP⟩
 cases q:codeAmong pos (ps++more.toArray).toList with
 | some c'=>exact wpAny_genexprCode_hit hc hcode q (L6 s.heap s.toks rfl g)
 | none =>
  refine wpAny_genexprCodeX hc hcode htab q fun c' h' tk hx hge hlt hcode' hrec htab' _=>⟨h',tk,rfl,fun b o hb e=>hx b o hb e,more++[rawInt pos.line,rawInt pos.col,.ref c'],?_,?_⟩
  · have:=TriplesOk_snoc pos.line pos.col (.ref c') (ps.toList++more) ht
    simpa [ak7,bD] using this
  · rw [htab'.2]
    simp [Array.append_assoc]
theorem d7.gens {F:d6} {ρ:List b7} {H:List O} {h:Heap} {gs:GT} {gs':Array GenState} (S:d7 w KF F ρ H h gs) (hb:∀ (k:Nat) (z:GenState),gs'[k]?=some z -> z.bare=true \/ gs.a[k]?=some z) (hp:∀ e∈ρ,e.fp≠[] -> ∀ x z,e.g=some x -> gs.a[x.1]?=some z -> gs'[x.1]?=some z) (hz:gs.a.size <= gs'.size):d7 w KF F ρ H h ⟨gs',gs.n⟩:=⟨S.bs,S.keep,S.len,S.ob,S.live,S.nd,S.off,S.gn,(fun k z hz=>(hb k z hz).elim .inl fun q=>S.bare k z q),fun i e o hi ho=>by
 have:=S.gf i e o hi ho
 cases o with
 | fresh fi body m=>(refine B5 this fun g env h1 h2=>?_; try clear this); (refine e8 (S.ob i e _ hi ho) fun _ _ _ hf _=>?_); exact (L6 g env h1 (hp e (ba hi) (by rw [hf]; exact ee _ _) _ _ h1 h2))
 | gone=>exact fun x hx=>aW (this x hx) hz
 | done=>(refine B5 this fun g env h1 h2=>?_; try clear this); (refine V5 (S.ob i e _ hi ho) fun _ _ _ _ hf _=>?_); exact (L6 g env h1 (hp e (ba hi) (by rw [hf]; exact ee _ _) _ _ h1 h2))
 | slp a fi m rest k y n=>(refine V5 this fun g env z h1 h2 h4=>?_; try clear this); (refine ad6 (S.ob i e _ hi ho) fun _ _ _ _ hf _=>?_); exact (T5 g env z h1 (hp e (ba hi) (by rw [hf]; exact ee _ _) _ _ h1 h2) h4)
 | _=>trivial,S.fo,S.tp⟩
theorem d7.grown {F:d6} {ρ:List b7} {H:List O} {h h':Heap} {gs:GT} {P i:Nat} {ps:Array Value} (S:d7 w KF F ρ H h gs) (hi:H[i]?=some (.tbl P ps)) (g:aa3 P ps h h'):d7 w KF F ρ H h' gs /\ TK h h':=by
 (refine b9 (S.at' hi) fun e he ho=>?_)
 (refine ai8 ho fun qz1 hf hg more ht hP=>?_; try clear ho; subst qz1)
 have t:TK h h':=.of_ext g.old fun o ho=>by
  rw [hP] at ho; cases ho
  rintro (⟨⟨xs,n,q⟩,_⟩ | ⟨q,_⟩)
  · cases q
  · cases q
 (refine b9 (g.tab) fun more' ht' hP'=>?_)
 have:=S.upd (o':=.tbl e.a ps) he (h':=h') (fun b o hb q=>g.old b o (fun z=>hb (by rw [hf,z]; exact .head _)) q) (fun b hb=>by rw [hf] at hb; rw [au.mp hb]; exact ⟨_,hP'⟩) t (ae0 rfl hf hg more' ht' hP') (hy:=fun o h q=>by rw [hi] at h; cases h; cases q)
 rw [aX9 hi] at this
 exact ⟨this,t⟩
theorem d7.tab {F:d6} {ρ:List b7} {H:List O} {h:Heap} {gs:GT} {P i:Nat} {ps:Array Value} (S:d7 w KF F ρ H h gs) (hi:H[i]?=some (.tbl P ps)):aa3 P ps h h:=by
 (refine b9 (S.at' hi) fun e he ho=>?_)
 (refine ai8 ho fun qz2 hf hg more ht hP=>?_; try clear ho; subst qz2)
 exact ⟨fun _ _ _ e=>e,more,ht,hP⟩
end
end
section
set_option tactic.hygienic false
noncomputable abbrev M5:EP:=fun _ _ _=>False
structure cf2 (h:Heap) (n:Nat) (x y:Str) (t u:Tok):Prop where
 z:IsZip h (n+4) (n+2) (n+3) .none
 ti:dz h (n+2) (.ref n) (.ref (n+1))
 to:dz h (n+3) .none .none
 i1:s5 h n x t 0
 i2:s5 h (n+1) y u 0
 sz:h.objs.size=n+5
section
variable {prog:Program} {w:World} {KF:Frag} {fi:FI} {d:Nat} {E:EP} {m:b8} {H:List O}
theorem cf3 {fz:Expr} {args:List Expr} {zpos:Pos} {x y:Str} (hz:WE prog w KF fi d M5 m H fz fun f H1=>f=.ty "zip" /\ w7 prog w KF fi d M5 m H1 args fun vs H2=>vs=[.str x,.str y] /\ H2=H)
 (hp:C5 args) (he:∀ env,eval (.Call fz args [] zpos) env=(do dT zpos (<- eval fz env) [] (dX zpos (dR args env)) (backToKw zpos (gr [] env))))
 {A:Around} {env:Env} {F:d6} {ρ:List b7} {s:Shared} {E':Value -> Shared -> Prop} (hA:k9 A d (n6 env F)) (S:d8 w KF fi env m F ρ H s.heap (gt s)) :
 ax (aA prog w) A (eval (.Call fz args [] zpos) env) (fun v s'=>∃ ρ' s2 n t u h',f0 ρ s ρ' s2 /\ d8 w KF fi env m F ρ' H s2.heap (gt s2) /\ n=s2.heap.objs.size /\ v=.ref (n+4) /\ s'={ s2 with heap:=h' } /\ o8 s2.heap h' /\ cf2 h' n x y t u) E' s:=by
 refine Call_ (ar (hz A env F ρ s hA S) (fun fv s₁ hx=>?_) fun _ _ x=>(F7 x).elim) (he env)
 (obtain ⟨ρ1,H1,f,st1,S1,ru,qz1⟩:=hx; refine d0 qz1 fun hf h₁=>?_; clear qz1)
 subst hf
 unfold VR at ru; subst ru
 rw [hp env]
 refine ij O9 (ar (Z9 h₁ hA S1) (fun a s2 hx=>?_) fun _ _ x=>(F7 x).elim)
 (refine d0 hx fun hkw qz2=>?_; try clear hx; obtain ⟨ρ2,H2,vs,st2,S2,rv,qz3⟩:=qz2; refine d0 qz3 fun hv hH=>?_; clear qz3)
 subst hv; subst hH
 (refine e8 (rv.cons_eq) fun v1 q1 e1 r1 rq=>?_)
 (refine e8 (rq.cons_eq) fun v2 q2 e2 r2 rq2=>?_)
 rw [rq2.nil_eq] at e2
 (refine c0 (r1.str_eq) fun t qz4=>?_; subst qz4)
 (refine c0 (r2.str_eq) fun u qz5=>?_; subst qz5)
 rw [hkw,e1,e2]
 exact cf0 fun h' n hn a1 a2 a3 a4 a5 a6 a7=>⟨ρ2,s2,n,t,u,h',st1.trans st2,S2,hn,rfl,rfl,a7,a1,a2,a3,a4,a5,a6⟩
noncomputable def aY1 (prog:Program) (w:World) (scope:Scope) (xa xb:Str) (elt:Expr) (f:Nat -> Nat -> Str):Prop :=
 ∀ (A':Around) (E':Value -> Shared -> Prop) (cenv:Env) (s:Shared) (mv:Str -> Option Value) (c d:Nat) (p q:Tok),A'.handled=none -> cenv.scope=scope -> s.heap.Ns cenv.locals mv -> mv xa=some (.str ⟨#[c]⟩ p) -> mv xb=some (.str ⟨#[d]⟩ q) ->
  ax (aA prog w) A' (eval elt cenv) (fun v s3=>(∃ u,v=.str (f c d) u) /\ Keeps s s3) E' s
noncomputable def B8 (x y:Str) (f:Nat -> Nat -> Str):List Str:=(x.cps.toList.zip y.cps.toList).map fun p=>f p.1 p.2
theorem cf4 {x y:Str} {f:Nat -> Nat -> Str} {i c d:Nat} (hx:x.cps[i]?=some c) (hy:y.cps[i]?=some d):(B8 x y f)[i]?=some (f c d):=by
 unfold B8
 have h1:x.cps.toList[i]?=some c:=by simpa using hx
 have h2:y.cps.toList[i]?=some d:=by simpa using hy
 rw [aU,(List.getElem?_zip_eq_some (z:=(c,d))).mpr ⟨h1,h2⟩]
 rfl
theorem cf5 {x y:Str} {f:Nat -> Nat -> Str}:(B8 x y f).length=min x.cps.size y.cps.size:=by
 unfold B8; simp
theorem cf6 {n b:Nat} (h:b∈[n+4,n+2,n+3,n,n+1]):b < n+5:=by simp at h; exact bz1 h
theorem aY2 {n b:Nat} (h:b∈[n+4,n+3,n,n+1]):n <= b:=by simp at h; exact bz2 h
theorem af5 (n:Nat):passing (fun _=>true) n 0=cB n:=by
 unfold passing; rw [dI,ik.mpr (fun _ _=>rfl)]
theorem cf7 {sep:Str} {k0:Nat} {sp ap pos zpos gpos pa pb pt:Pos} {kt:Nat} {xa xb:Str} {elt fz:Expr} {args:List Expr} {scope:Scope} {x y:Str} {f:Nat -> Nat -> Str} {i c P:Nat} {ps:Array Value} {o4:Obj} {b4:Nat} {pl:Env -> Sem Bool} {Q:V -> List O -> Prop}
 (hT:H[i]?=some (.tbl P ps)) (hc:fi.co=.ref c) (C:af4 KF c P) (hb4:nsIn KF aT "__builtins__"=some (some (.ref b4))) (h4:KF.lookup b4=some o4) (h4b:b4≠ew /\ o4.cls=.type "module" /\ o4.dict=some ew /\ o4.data=.plain)
 (hz:WE prog w KF fi d M5 m H fz fun f H1=>f=.ty "zip" /\ w7 prog w KF fi d M5 m H1 args fun vs H2=>vs=[.str x,.str y] /\ H2=H)
 (hco:scope.isCoroutine=false) (hfree:∀ y∈scope.names,y.2≠.free) (hcell:∀ y∈scope.names,y.2≠.cell) (h0:scope.names.lookup (".0":Str)=some NameKind.local) (hxa:scope.names.lookup xa=some .local) (hxb:scope.names.lookup xb=some .local) (hab:xa≠xb) (hkind:scope.kind=.function)
 (helt:aY1 prog w scope xa xb elt f) (hsz:min x.cps.size y.cps.size <= aB) (hok:JoinOk sep (B8 x y f)=true) (h:Q (.str (fF sep (B8 x y f))) H)
 (hp:C5 args:=by intro _; rfl) (hez:∀ env,eval (.Call fz args [] zpos) env=(do dT zpos (<- eval fz env) [] (dX zpos (dR args env)) (backToKw zpos (gr [] env))):=by intro _; rfl)
 (hfold:∀ env v,genFold (.Call fz args [] zpos) env v=pure v:=by intro _ _; rfl)
 (hpg:C5 [.GeneratorExp elt [⟨.Tuple [.Name xa pa,.Name xb pb] kt pt,.Call fz args [] zpos,[],0⟩] scope gpos]:=by intro _; rfl)
 (he:∀ env,eval (.Call (.Attribute (.Constant (.str sep) k0 sp) "join" ap) [.GeneratorExp elt [⟨.Tuple [.Name xa pa,.Name xb pb] kt pt,.Call fz args [] zpos,[],0⟩] scope gpos] [] pos) env=(do
  let ov <- eval (.Constant (.str sep) k0 sp) env
  fq ap.atName
  let (f,first) <- dH [ov] (iA ov "join" (pl env))
  dT pos f first (dX pos (dR [.GeneratorExp elt [⟨.Tuple [.Name xa pa,.Name xb pb] kt pt,.Call fz args [] zpos,[],0⟩] scope gpos] env)) []):=by intro _; rfl) :
 WE prog w KF fi d E m H (.Call (.Attribute (.Constant (.str sep) k0 sp) "join" ap) [.GeneratorExp elt [⟨.Tuple [.Name xa pa,.Name xb pb] kt pt,.Call fz args [] zpos,[],0⟩] scope gpos] [] pos) Q :=
 fun A env F ρ s hA S=>bA (ao _) (by
  refine ar ?_ (fun _ _ x=>x) fun _ _ x _=>x
  refine MethodCall_ (pl:=pl env) (bV (GM.join ?_)) (he env)
  rw [hpg env]
  refine gq O9 (fg (fU (wpAny_GeneratorExp_walksQT (env:=env) hA.hd hco (closureFor_none hfree) hcell h0 hxa hxb hab hkind hA.depth ?_ (hfold env))))
  refine ar (cf3 hz hp hez (E':=fun _ _=>False) hA (s:={ s with toks:=s.toks+1 }) (S.tk (aY _))) (fun xv s₁ hx=>?_) fun _ _ x=>x.elim
  (refine bt5 hx fun ρ2 s2 n t u h₃ st2 S2 hn ex es k₃ Z=>?_; try clear hx)
  subst ex es
  refine wpAny_pyIter_zip Z.z ?_
  have S3:d8 w KF fi env m F ρ2 H h₃ (gt s2):=S2.keeps k₃
  refine ⟨S3.b.lim,(ar (aY0 (ps:=ps) (E:=fun _ _=>False) (S3.ec.trans hc) C S3.b (S3.hs.tab hT)) (fun code s4=>W0 fun h₄ tk4 e4 g4=>?_) fun _ _ x=>x.elim)⟩
  subst e4
  (refine d0 (S3.toH.grown hT g4) fun T₄ tk43=>?_)
  have S4:=S3.ofH (az _) tk43 T₄
  (refine c0 (S4.b.g) fun mg hg=>?_)
  refine wpAny_builtinsFor (by rw [S4.eg]; exact hg) (mg_of S4.b.k hg hb4) h4b.1 (S4.b.k _ _ h4) h4b.2.1 h4b.2.2.1 h4b.2.2.2 ?_
  have hold:∀ b o,b≠P -> s2.heap.get? b=some o -> h₄.get? b=some o:=fun b o hb e=>g4.old b o hb (k₃ b o e)
  have PS:∃ o,s2.heap.get? P=some o:=by
   (refine b9 ((S2.hs.tab hT).tab) fun more _ hP=>?_)
   exact ⟨_,hP⟩
  have Plt:P < n:=by (refine c0 PS fun o ho=>?_; try clear PS); rw [hn]; exact bG ho
  have up:∀ b o,n <= b -> h₃.get? b=some o -> h₄.get? b=some o:=fun b o hb e=>g4.old b o (by exact bz3 hn Plt hb) e
  have Z₄:IsZip h₄ (n+4) (n+2) (n+3) .none /\ dz h₄ (n+2) (.ref n) (.ref (n+1)) /\ (∃ a b,dz h₄ (n+3) a b) /\ s5 h₄ n x t 0 /\ s5 h₄ (n+1) y u 0 :=
   (J7 (up _ _ (by exact bz4) Z.z) (up _ _ (by exact aN8) Z.ti) (l8 _ _ (up _ _ (by exact bz5) Z.to)) (Z.i1.at fun o e=>up _ o (by exact bz6) e) (Z.i2.at fun o e=>up _ o (by exact aN9) e))
  have lt4:∀ b,b < n+5 -> b < h₄.objs.size:=fun b hb=>by
   have:n+4 < h₄.objs.size:=bG Z₄.1
   exact bz7 hn hb this
  have cst:cStatics < n:=by
   (refine b9 (S2.b.lim) fun mc hm _=>?_)
   rw [hn]; exact hm.lt
  refine (av2 (n+4) ([n+4,n+2,n+3,n,n+1]) ([n+4,n+3,n,n+1]) (min x.cps.size y.cps.size) _ _ _ (fun _=>true) (fun j v=>∃ c d u,x.cps[j]?=some c /\ y.cps[j]?=some d /\ v=.str (f c d) u) rfl (fun A' hA'=>ce8 hA' (cf1 n) x y t u) ?_ Z₄ ?_ S4.b.lim ?_ ?_ ?_)
  · (intro j vals; refine bv0 fun c d p q _ _ qz6=>?_; subst qz6)
    exact (l8 _ _ rfl)
  · exact fun b hb=>lt4 b (cf6 hb)
  · exact fun hm=>absurd (aY2 hm) (Nat.not_le.mpr cst)
  · intro href hk
    refine ⟨fun A' E' j va vb s₅ m2 hA' hP hn' ha hb hkp=>?_,fun A' E' j va vb s₅ m2 hA' hP hpz hn' ha hb hkp=>?_⟩
    · exact ac ⟨rfl,s₅.heap,s₅.toks,rfl,fun _ _ e=>e⟩
    · (refine bs2 hP fun c d p q h1 h2 h3=>?_; try clear hP)
      have h3:va=.str ⟨#[c]⟩ p /\ vb=.str ⟨#[d]⟩ q:=by simpa using h3
      rw [h3.1] at ha
      rw [h3.2] at hb
      exact ar (helt A' E' _ s₅ m2 c d p q hA' rfl hn' ha hb) (fun v s₆=>m8 fun qz7 k=>c0 qz7 fun u e=>⟨(T5 c d u h1 h2 e),k⟩) fun _ _ x=>x
  · intro a h5 tk gs hbare hlt hsz5 keep5 W st
    refine iH ?_
    have ha5:h5.objs.size=a+1:=hsz5
    refine SC.joinGen (G:=GenOnlyQ s2.gens.size) W.in4_2 (fun j s' x=>x.1.typeIs) st (fun b hb=>?_) (.head _) (fun j v ⟨i',_,c,d,u,_,_,e⟩=>⟨_,_,e⟩) (fun s' l mv it=>?_) (by rw [af5,dn]; exact hsz)
    · show b < h5.objs.size
      rw [ha5]
      rcases aJ.mp hb with e | hb
      · rw [e]; exact cK _
      · have hlt':h₄.objs.size < a:=hlt
        rcases aJ.mp hb with e | hb
        · rw [e]; exact iI hlt
        · exact iI (iB (cQ.mp hb) hlt)
    · have hl:l.map (·.1)=B8 x y f:=by
       (refine d0 it fun i1 i2=>?_; try clear it)
       rw [af5,dn] at i1
       have hll:l.length=min x.cps.size y.cps.size:=by rw [<- i1]; simp [strValues]
       refine List.ext_getElem? fun j=>?_
       by_cases hj:j < l.length
       · have e1:(strValues l).toArray[j]?=some (.str l[j].1 l[j].2):=by simp [strValues,hj]
         (refine bs5 (i2 j _ e1) fun i' hi' c d u' h1 h2 h3=>?_)
         rw [af5,List.getElem?_range (by exact bz8 i1 hll hj)] at hi'
         cases hi'
         rw [cf4 h1 h2,aU,aq hj]
         rw [iq,(Value.str.inj h3).1]
       · rw [List.getElem?_eq_none (by simpa using hj),List.getElem?_eq_none (by rw [cf5,<- hll]; exact nq9 hj)]
      rw [hl]
      refine ⟨hok,fun t' k ht=>?_⟩
      have hge:∀ b,b < n -> b ∉ (h₄.objs.size::[n+4,n+3,n,n+1]):=fun b hb q=>by
       rcases aJ.mp q with e | q
       · have:n+4 < h₄.objs.size:=bG Z₄.1
         exact bz9 hn hb e this
       · have:=aY2 q; exact bA0 hn hb this
      have g:aa3 P ps s2.heap s'.heap:=⟨fun b o hb e=>mv.heap b o (hge b (by rw [hn]; exact bG e)) (keep5 b o (hold b o hb e)),by
       (refine b9 (g4.tab) fun more ht hP=>?_)
       exact (c5 more ht (mv.heap P _ (hge P Plt) (keep5 P _ hP)))⟩
      (refine d0 (S2.toH.grown hT g) fun T' tk'=>?_)
      have hb':∀ (k:Nat) z,s'.gens[k]?=some z -> z.bare=true \/ s2.gens[k]?=some z:=fun k z hz=>by
       rcases (show GenOnlyQ _ (s2.gens.push gs) s'.gens from mv.gens) with e | e
       · rw [e,fM] at hz
         split at hz
         · rw [<- cE hz]; exact .inl hbare
         · exact .inr hz
       · by_cases q:k=s2.gens.size
         · rw [q] at hz; exact .inl (e.2 z hz)
         · rw [e.1.2 _ q,fM,if_neg q] at hz; exact .inr hz
      have hpp:∀ e∈ρ2,e.fp≠[] -> ∀ (x:Nat×Env) c,e.g=some x -> s2.gens[x.1]?=some c -> s'.gens[x.1]?=some c:=fun e _ _ x c _ hx=>by
       have hlt:x.1 < s2.gens.size:=(cN.mp hx).1
       have hx':(s2.gens.push gs)[x.1]?=some c:=by rw [Array.getElem?_push_lt hlt]; rw [cA hlt] at hx; exact hx
       rcases (show GenOnlyQ _ (s2.gens.push gs) s'.gens from mv.gens) with e | e
       · rw [e]; exact hx'
       · rw [e.1.2 _ (bI hlt)]; exact hx'
      have hgs:s2.gens.size <= s'.gens.size:=by
       have hp:(s2.gens.push gs).size <= s'.gens.size:=by
        rcases (show GenOnlyQ _ (s2.gens.push gs) s'.gens from mv.gens) with e | e
        · rw [e]; exact ao _
        · rw [e.1.1]; exact ao _
       rw [eU] at hp
       exact aj9 hp
      refine ⟨ρ2,H,_,?_,S2.ofH (az _) tk' ((T'.gens hb' hpp hgs).tc S.hs ht),by unfold VR; exact ⟨_,rfl⟩,h⟩
      exact (show f0 ρ s ρ2 s2 from st2).trans (.same tk' mv.os hgs))
end
end
section
set_option tactic.hygienic false
noncomputable def z7 (c d:Nat):Str:=if ((⟨#[d]⟩:Str)==" ")=true then (if Txt.isspace ⟨#[c]⟩=true then ⟨#[c]⟩ else ⟨#[d]⟩) else ⟨#[d]⟩
section
variable {prog:Program} {w:World}
theorem cf8 {scope:Scope} {p1 p2 p3 p4 p5 p6 p7 p8 p9 p10:Pos} {k:Nat} (hkind:scope.kind=.function) (hxa:scope.names.lookup ("c":Str)=some .local) (hxb:scope.names.lookup ("tag_c":Str)=some .local) {pl:Env -> Sem Bool}
 (he:∀ env,eval (.Call (.Attribute (.Name "c" p4) "isspace" p5) [] [] p6) env=(do
  let ov <- eval (.Name "c" p4) env
  fq p5.atName
  let (f,first) <- dH [ov] (iA ov "isspace" (pl env))
  dT p6 f first (dX p6 (dR [] env)) [])) :
 aY1 prog w scope "c" "tag_c" (.IfExp (.BoolOp .And [.Compare (.Name "tag_c" p1) [.Eq] [.Constant (.str " ") k p2] p3,.Call (.Attribute (.Name "c" p4) "isspace" p5) [] [] p6] p7) (.Name "c" p8) (.Name "tag_c" p9) p10) z7 :=
 fun A E cenv s mv c d p q hA hsc hn ha hb=>by
  have kd:cenv.scope.kind=.function:=by rw [hsc]; exact hkind
  have ka:cenv.kindOf ("c":Str)=some .local:=by unfold cJ; rw [hsc]; exact hxa
  have kb:cenv.kindOf "tag_c"=some .local:=by unfold cJ; rw [hsc]; exact hxb
  have la:∀ {s':Shared} {pos:Pos} {Q:Value -> Shared -> Prop},s'.heap=s.heap -> Q (.str ⟨#[c]⟩ p) s' -> ax (aA prog w) A (eval (.Name "c" pos) cenv) Q E s':=fun e h=>iD (dQ kd ka (by rw [e]; exact hn) ha h) (by decide)
  have lb:∀ {s':Shared} {pos:Pos} {Q:Value -> Shared -> Prop},s'.heap=s.heap -> Q (.str ⟨#[d]⟩ q) s' -> ax (aA prog w) A (eval (.Name "tag_c" pos) cenv) Q E s':=fun e h=>iD (dQ kd kb (by rw [e]; exact hn) hb h) (by decide)
  have kp:∀ tk,Keeps s { s with toks:=tk }:=fun tk=>(L6 s.heap tk rfl (fun _ _ e=>e))
  refine IfExp_ (wpAny_isTrue_BoolOp (gj (wpAny_isTrue_Compare1 (lb rfl (bV (PyProof.Rows.eq_str (ck ?_))))))) 
  unfold z7
  cases e:((⟨#[d]⟩:Str)==" ") with
  | false =>
   simp only [bq,if_false]
   exact lb rfl ⟨⟨_,rfl⟩,kp _⟩
  | true =>
   refine gj (wpAny_isTrue_value ?_ rfl)
   refine MethodCall_ (pl:=pl cenv) (la rfl (GM.isspace (gq rfl (PyProof.Rows.evalArgs_none (SC.isspace (ck ?_)))))) (he cenv)
   cases e2:Txt.isspace ⟨#[c]⟩ with
   | false =>
    simp only [bq,if_false,if_true]
    exact lb rfl ⟨⟨_,rfl⟩,kp _⟩
   | true =>
    simp only [if_true]
    refine wpAny_allTrue_And_nil ?_
    simp only [if_true]
    exact la rfl ⟨⟨_,rfl⟩,kp _⟩
end
end
section
set_option tactic.hygienic false
noncomputable abbrev R2 (acc:Array Value) (c:Nat):Obj:={ cls:=.type "list",dict:=none,data:=.seq acc c,slots:=#[] }
theorem d8.gens {w:World} {KF:Frag} {fi:FI} {env:Env} {m:b8} {F:d6} {ρ:List b7} {H:List O} {h:Heap} {gs:GT} {gs':Array GenState} (S:d8 w KF fi env m F ρ H h gs) (hb:∀ (k:Nat) (z:GenState),gs'[k]?=some z -> z.bare=true \/ gs.a[k]?=some z) (hp:∀ e∈ρ,e.fp≠[] -> ∀ x z,e.g=some x -> gs.a[x.1]?=some z -> gs'[x.1]?=some z) (hz:gs.a.size <= gs'.size):d8 w KF fi env m F ρ H h ⟨gs',gs.n⟩ :=
 ⟨S.hs.gens hb hp hz,S.es,S.eg,S.eb,S.ec,S.ek,S.ef,S.lo,S.ns,S.cl,S.ce,S.cn,S.cu,S.cd,S.cf⟩
theorem cf9 {env:Env} {F:d6} (he:env.frame=some env.locals):n6 env F=env::F.fr:=if_pos he
section
variable {prog:Program} {w:World} {KF:Frag} {fi:FI} {d:Nat} {E:EP} {m:b8} {H:List O}
theorem aY3 {ρ:List b7} {h:Heap}:∀ {xs:List Str} {vs:List Value},vs.length=xs.length -> (∀ (j:Nat) (v:Value),vs[j]?=some v -> ∃ x t,xs[j]?=some x /\ v=Value.str x t) -> c8 ρ h (xs.map V.str) vs
 | [],vs,hl,_=>by rw [dl.mp hl]; exact .nil
 | x::xs,[],hl,_=>by simp at hl
 | x::xs,v::vs,hl,h=>by
  (refine B5 (h 0 v rfl) fun y t e hv=>?_)
  cases e
  refine .cons (by rw [hv]; unfold VR; exact ⟨_,rfl⟩) (aY3 (by simpa using hl) fun j u hj=>?_)
  simpa using h (j+1) u (by simpa using hj)
end
end
section
section
variable (prog:Program) (w:World) (KF:Frag) (fi:FI) (d:Nat) (E:EP)
noncomputable def WJ (m:b8) (H:List O) (out:Str):List Expr -> (V -> List O -> Prop) -> Prop
 | [],Q=>out.length <= aB /\ Q (.str out) H
 | e::es,Q=>WE prog w KF fi d E m H e fun v H1=>∃ y,v=.str y /\ (out++y).length <= aB /\ WJ m H1 (out++y) es Q
end
section
variable {prog:Program} {w:World} {KF:Frag} {fi:FI} {d:Nat} {E:EP} {m:b8} {H:List O}
theorem am5 {e:Expr} {pos:Pos} {Q:V -> List O -> Prop} (h:WE prog w KF fi d E m H e fun v H1=>∃ x,v=.str x /\ x.length <= aB /\ Q (.str x) H1):WE prog w KF fi d E m H (.FormattedValue e (-1) none pos) Q :=
 fun A env F ρ s hA S=>FormattedValue_plain (ar (h A env F ρ s hA S) (fun u s₁=>SQ.el fun ρ1 H1 v st1 S1 r qz1=>o0 qz1 fun x e hx h₁=>by
  subst e
  (refine c0 (r.str_eq) fun t qz2=>?_; subst qz2)
  exact bA (ao _) (formatField_str (fun t' tk ht=>⟨ρ1,H1,.str x,st1.trans (.same (.refl _) rfl),S1.tk ht,by unfold VR; exact ⟨_,rfl⟩,h₁⟩) hx)) fun _ _ x=>x)
theorem cg0 {es:List Expr} {Q:V -> List O -> Prop}:∀ {H:List O} {out:Str},WJ prog w KF fi d E m H out es Q -> ∀ A env F ρ s,k9 A d (n6 env F) -> d8 w KF fi env m F ρ H s.heap (gt s) ->
 ax (aA prog w) A (joinParts out (evalEach es env)) (SQ w KF VR fi env m F ρ s Q) (SE w KF fi env F ρ s E) s:=by
 induction es with
 | nil=>exact fun h A env F ρ s hA S=>joinParts_nilE (joinParts_nil ⟨ρ,_,.str _,.same (.refl _) rfl,S.tk (aY _),by unfold VR; exact ⟨_,rfl⟩,h.2⟩ h.1)
 | cons e es ih =>
  intro H out h A env F ρ s hA S
  refine joinParts_consE (joinParts_cons (ar ((show WE prog w KF fi d E m H e _ from h) A env F ρ s hA S) (fun u s₁ hx=>?_) fun _ _ x=>x))
  (obtain ⟨ρ1,H1,v,st1,S1,r,qz3⟩:=hx; refine o0 qz3 fun y e hy h₁=>?_; clear qz3)
  subst e
  (refine c0 (r.str_eq) fun t qz4=>?_; subst qz4)
  exact ⟨hy,ar (ih h₁ A env F ρ1 s₁ hA S1) (fun v s2=>SQ.el fun ρ2 H2 b st2 S2 rb h2=>⟨ρ2,H2,b,st1.trans st2,S2,rb,h2⟩) fun _ _ x=>x.step st1⟩
theorem am6 {v₁ v₂:Expr} {rest:List Expr} {pos:Pos} {Q:V -> List O -> Prop} (h:WJ prog w KF fi d E m H Str.empty (v₁::v₂::rest) Q):WE prog w KF fi d E m H (.JoinedStr (v₁::v₂::rest) pos) Q :=
 fun A env F ρ s hA S=>JoinedStr_many (cg0 h A env F ρ s hA S)
theorem am7 {out:Str} {Q:V -> List O -> Prop} (hz:out.length <= aB) (h:Q (.str out) H):WJ prog w KF fi d E m H out [] Q:=⟨hz,h⟩
theorem K2 {e:Expr} {es:List Expr} {out:Str} {Q:V -> List O -> Prop} (h:WE prog w KF fi d E m H e fun v H1=>∃ y,v=.str y /\ (out++y).length <= aB /\ WJ prog w KF fi d E m H1 (out++y) es Q):WJ prog w KF fi d E m H out (e::es) Q:=h
end
end
section
theorem aY4 {K:Frag} {h:Heap} {N:Nat} {mg:Str -> Option Value} {n:Str} {v:Value} (X:K.In h) (G:h.Ns N mg) (e:nsIn K N n=some (some v)):mg n=some v:=by
 exact aT5 X G e
structure R3 (KF:Frag) (C N:Nat):Prop where
 cl:∃ nm q bs sn sub col dd k0 k1 k2 k3 k5,KF.lookup C=some (excClassObj nm q C N bs [.type "object"] true sn sub false col dd k0 k1 k2 k3 k5 "object.__new__")
 ns:nsOkIn KF N=true
 ga:nsIn KF N "__getattribute__"=some none
 gh:nsIn KF N "__getattr__"=some none
 sa:nsIn KF N "__setattr__"=some none
section
variable {prog:Program} {w:World} {KF:Frag} {d:Nat} {E:i7} {H:List O}
theorem R3.nsp {C N:Nat} (K:R3 KF C N) {h:Heap} (B:Bs w KF h):∃ mN,h.Ns N mN:=⟨_,.of_isNs (isNs_of_in B.k K.ns)⟩
theorem k9.cls {A:Around} {C:Nat} {rest:List Value} {l:List Env} (h:k9 A (d+1) l):k9 (A.under (.builtin "type.__call__" ⟨.ref C::rest,[]⟩)) d l:=by
 have hw:(Code.builtin "type.__call__" ⟨.ref C::rest,[]⟩).weight <= 4:=by
  unfold Code.weight
  have h1:(Code.builtin "type.__call__" ⟨.ref C::rest,[]⟩).frames=0:=by rfl
  have h2:(Code.builtin "type.__call__" ⟨.ref C::rest,[]⟩).isCaller=false:=by rfl
  rw [h1,h2]
  split<;>split<;>simp
 have hu:(Code.builtin "type.__call__" ⟨.ref C::rest,[]⟩).cUnits <= 40:=by
  have h1:(Code.builtin "type.__call__" ⟨.ref C::rest,[]⟩).cUnits=1:=by rfl
  rw [h1]; decide
 refine ⟨h.fr,h.hd,?_,?_⟩
 · have:=h.dp; show A.depth+(Code.builtin "type.__call__" ⟨.ref C::rest,[]⟩).weight+4*d < _; exact bA1 hw this
 · have:=h.un; show A.units+(Code.builtin "type.__call__" ⟨.ref C::rest,[]⟩).cUnits+40*d+200 < _; exact bA2 hu this
theorem aY5 {C N fI:Nat} {oI:Obj} {xs:List V} {Q:V -> List O -> Prop} (K:R3 KF C N) (hi:nsIn KF N "__init__"=some (some (.ref fI))) (hfI:KF.lookup fI=some oI) (hfc:oI.cls=.type "function")
 (h:i5 prog w KF d E (H++[.inst C []]) (.st fI) (.ref H.length::xs) fun v H'=>v=.none /\ Q (.ref H.length) H'):i5 prog w KF (d+1) E H (.st C) xs Q :=
 fun A F ρ s u us hA S ru r=>by
  unfold VR at ru
  subst ru
  obtain ⟨hp,g,dr,tk,os⟩:=s
  have B:Bs w KF hp:=S.b
  (refine c0 (K.nsp B) fun mN hn=>?_)
  (refine ai7 (K.cl) fun nm q bs sn sub col dd k0 k1 k2 k3 k5 hC=>?_)
  refine wpAny_call_obj_init PySem.F.objNew (B.k _ _ hC) hn (aY4 B.k hn hi) (B.k _ _ hfI) hfc fun h' x dx M=>?_
  (refine V4 (M.inst) fun o hx hc hnc hdn=>?_)
  have hod:=M.dict o hx
  obtain ⟨mA,hdx,hns,hmA⟩:∃ mA,dx≠x /\ h'.Ns1 dx mA /\ ∀ n,mA n=none:=by
   rcases hdn with ⟨e,_⟩ | ⟨d',e,hne,hn'⟩
   · rw [hod] at e; cases e
   · rw [hod] at e; cases e; exact (i0 _ hne hn' (fun _=>rfl))
  have d1:=S.dead M.newX
  have d2:=S.dead M.newD
  have T:=(S.keeps M.keeps).adopt (a:=x) (r:=[dx]) (o:=.inst C []) (by simp [cP hdx]) (fun b hb=>by
   rcases aJ.mp hb with e | hb
   · rw [e]; exact (aj4 d1.1 d1.2 o hx)
   · rw [au.mp hb]
     (refine F3 hns fun od _ _ hd _=>?_; try clear hns)
     exact (aj4 d2.1 d2.2 od hd)) (av1 rfl dx rfl o mA hx hc hnc hod hns (fun n=>hmA n))
  have p:ρ<+:ρ++[⟨x,[x,dx],none⟩]:=aF _ _
  refine ar (h _ F _ ⟨h',g,dr,tk,os⟩ (.ref fI) (.ref x::us) hA.cls T (by unfold VR; rfl) (.cons (by unfold VR; exact (c5 _ (by rw [<- S.len,af]) rfl)) (r.mono p (.of_keep M.keeps)))) (fun v s'=>HQ.el fun ρ' H' b st T' rv qz1=>d0 qz1 fun hb hq=>?_) (fun _ _=>HE.el fun _ _ _ _ _ x _=>x.elim)
  subst hb
  unfold VR at rv
  refine ⟨rv,ρ',H',_,f0.trans (s₁:=⟨h',g,dr,tk,os⟩) (f0.add (.of_keep M.keeps) rfl) st,T',?_,hq⟩
  unfold VR
  exact (c5 _ (z4 st.1 (by rw [<- S.len,af])) rfl)
theorem aY6:∀ {ρ:List b7} {e:b7},(q0 ρ).Nodup -> e∈ρ -> e.fp.Nodup
 | [],_,_,h=>nomatch h
 | x::ρ,e,nd,h=>by
  have nd':(x.fp++q0 ρ).Nodup:=nd
  (refine l9 (gG.mp nd') fun n1 n2 _=>?_)
  rcases aJ.mp h with rfl | h
  · exact n1
  · exact aY6 n2 h
theorem aB5 {F:d6} {ρ:List b7} {h:Heap} {gs:GT} {i C:Nat} {fs:List (Str×V)} {e:b7} (S:d7 w KF F ρ H h gs) (hl:H[i]?=some (.inst C fs)) (he:ρ[i]?=some e) :
 ∃ dx o mA,e.fp=[e.a,dx] /\ h.get? e.a=some o /\ o.dict=some dx /\ dx≠e.a /\ h.Inst e.a C mA /\ h.Ns1 dx mA /\ FsR ρ h fs mA:=by
 (refine aL1 (S.ob i e _ he hl) fun g dx hf o mA h1 h2 h3 h4 h5 h6=>?_)
 have hne:dx≠e.a:=fun q=>by
  have nd:=S.nd
  have:e.fp.Nodup:=aY6 nd (ba he)
  rw [hf,q] at this
  simp at this
 exact (bw8 dx o mA hf h1 h4 hne (G9 o h1 h2 h3 (.inr (i0 dx h4 hne h5))) h5 h6)
theorem G2 {C N i f:Nat} {fs:List (Str×V)} {name:Str} {of:Obj} {y:Option Value} (K:R3 KF C N) (hf:nsIn KF N name=some (some (.ref f))) (hfo:KF.lookup f=some of) (hfc:of.cls=.type "function") (hB:aX (.type "object") name=pure y)
 (hl:H[i]?=some (.inst C fs)) (hsh:fs.lookup name=none):C6 prog w KF H (.ref i) name (.st f):=fun A F ρ s u pl Q E' S r h=>by
 (refine b9 (r.ref_eq) fun e he qz2=>?_; subst qz2)
 (refine au1 (aB5 S hl he) fun dx o mA hfp h1 h2 h3 I hns hfs=>?_)
 obtain ⟨hp,g,dr,tk,os⟩:=s
 have B:Bs w KF hp:=S.b
 (refine c0 (K.nsp B) fun mN hn=>?_)
 (refine ai7 (K.cl) fun nm q bs sn sub col dd k0 k1 k2 k3 k5 hC=>?_)
 refine method_of (B.k _ _ hC) hn (ns_none_of B.k hn K.ga) (ns_none_of B.k hn K.gh) (aY4 B.k hn hf) (B.k _ _ hfo) hfc hB I ?_ (h _ (by unfold VR; rfl))
 have:=hfs name
 rw [hsh] at this
 exact this
noncomputable def k7:List (Str×V) -> Str -> V -> List (Str×V)
 | [],n,v=>[(n,v)]
 | (m,u)::r,n,v=>if m=n then (m,v)::r else (m,u)::k7 r n v
theorem w8 {n k:Str} {v:V}:∀ {fs:List (Str×V)},(k7 fs n v).lookup k=if k=n then some v else fs.lookup k
 | []=>by
  unfold k7
  rw [bB]
  by_cases e:k=n
  · rw [if_pos e,e,beq_self_eq_true]
  · rw [if_neg e,show (k==n)=false by simpa using e]
 | (m,u)::r=>by
  unfold k7
  by_cases q:m=n
  · rw [if_pos q,bB,bB]
    by_cases e:k=n
    · rw [if_pos e,e,q,beq_self_eq_true]
    · rw [if_neg e,show (k==m)=false by rw [q]; simpa using e]
  · rw [if_neg q,bB,bB,w8]
    by_cases e:k=m
    · rw [e,beq_self_eq_true]; exact (if_neg q).symm
    · rw [show (k==m)=false by simpa using e]
theorem A8 {C N i:Nat} {fs:List (Str×V)} {name:Str} {v:V} {Q:Unit -> List O -> Prop} (K:R3 KF C N) (hna:nsIn KF N name=some none) (hB:aX (.type "object") name=pure none) (hl:H[i]?=some (.inst C fs)) (hsz:fs.length <= aB)
 (h:Q () (H.set i (.inst C (k7 fs name v)))):W2 prog w KF d E Z5 H (fun u v=>setAttr u name v) (.ref i) v Q:=fun A F ρ s u x hA S ru rv=>by
 (refine b9 (ru.ref_eq) fun e he qz3=>?_; subst qz3)
 (refine au1 (aB5 S hl he) fun dx o mA hfp h1 h2 h3 I hns hfs=>?_)
 obtain ⟨hp,g,dr,tk,os⟩:=s
 have B:Bs w KF hp:=S.b
 (refine c0 (K.nsp B) fun mN hn=>?_)
 (refine ai7 (K.cl) fun nm q bs sn sub col dd k0 k1 k2 k3 k5 hC=>?_)
 have hxC:e.a≠C:=fun q=>by
  (refine V4 I fun o' ho' _ hnc _=>?_; try clear I)
  rw [q] at ho'
  have:=B.k _ _ hC
  rw [this] at ho'
  cases ho'
  exact hnc _ rfl
 have hw:PySem.Within mA (fs.map (·.1)):=fun y hy=>by
  have:=hfs y
  split at this
  · rename_i z hz
    exact aV.mpr (c5 _ (mem_of_lookup hz) rfl)
  · exact absurd this hy
 refine bA (ao _) (store_attr PySem.F.store_object (B.k _ _ hC) hn (ns_none_of B.k hn K.sa) (ns_none_of B.k hn hna) hB hxC I (fun h' tk' I' hk hsame ht=>?_) hw (by simpa using hsz))
 (refine at9 (hsame o h1) fun o1 ho1 c1 c2 c3 c4=>?_)
 have eo:o1=o:=by
  have c4:=c4 dx h2
  cases o1; cases o
  simp_all
 subst eo
 (refine V4 I' fun o' ho' hc' hnc' hd'=>?_; try clear I')
 rw [ho1] at ho'
 cases ho'
 obtain ⟨hdx',hns'⟩:dx≠e.a /\ h'.Ns1 dx (fun y=>if y=name then some x else mA y):=by
  rcases hd' with ⟨q,_⟩ | ⟨d',q,hne,hn'⟩
  · rw [h2] at q; cases q
  · rw [h2] at q; cases q; exact ⟨hne,hn'⟩
 have keep:∀ b o,b≠dx -> hp.get? b=some o -> h'.get? b=some o:=fun b ob hb eb=>by
  by_cases q:b=e.a
  · subst q; rw [h1] at eb; cases eb; exact ho1
  · exact hk b ob q (fun o₀ d₀ g1 g2=>by rw [h1] at g1; cases g1; rw [h2] at g2; cases g2; exact hb) eb
 have tk:TK hp h':=.of_ext keep (ak8 hns.ns)
 have T:=S.upd (o':=.inst C (k7 fs name v)) he (h':=h') (fun b ob hb eb=>keep b ob (fun q=>hb (by rw [hfp,q]; exact .tail _ (.head _))) eb) (fun b hb=>by
  rw [hfp] at hb
  rcases aJ.mp hb with q | hb
  · rw [q]; exact ⟨_,ho1⟩
  · rw [au.mp hb]
    (refine F3 hns' fun od _ _ hd _=>?_; try clear hns')
    exact ⟨od,hd⟩) tk (av1 ((S.ob i e _ he hl).1) dx hfp o1 _ ho1 hc' hnc' h2 hns' (fun n=>by
  rw [w8]
  by_cases q:n=name
  · rw [q,if_pos rfl]
    exact (c5 x (if_pos rfl) (rv.mono (az _) tk))
  · rw [if_neg q]
    have:=hfs.mono (az _) tk n
    show match fs.lookup n with | some v=>∃ u,(if n=name then some x else mA n)=some u /\ VR ρ h' v u | none=>(if n=name then some x else mA n)=none
    rw [if_neg q]
    exact this)) (hy:=fun o h q=>by rw [hl] at h; cases h; cases q)
 exact ⟨ρ,_,(),.same tk rfl,T.tk ht,trivial,h⟩
end
end
section
set_option tactic.hygienic false
section
variable {prog:Program} {w:World} {KF:Frag} {d:Nat} {E:i7} {H:List O} {Q:V -> List O -> Prop}
-- membership
section
variable {k:Nat} {xs ys:List V} {e:V -> V -> Bool} {A:Around} {F:d6} {ρ:List b7} {s:Shared} {vs us:List Value}
noncomputable def aB6 (w:World) (KF:Frag) (H:List O) (k:Nat) (xs ys:List V) (e:V -> V -> Bool):Prop:=∀ (j:Nat) (x y:V),xs[j]?=some x -> ys[j]?=some y -> M3 w KF H k x y (e x y)
theorem aB7 (S:d7 w KF F ρ H s.heap (gt s)) (hu:A.units+k < cLine) (p2:c8 ρ s.heap xs vs) (q2:c8 ρ s.heap ys us) (he:aB6 w KF H k xs ys e) (j:Nat) (h1:j < vs.toArray.size) (h2:j < us.toArray.size) :
 EqAt A s vs.toArray[j] us.toArray[j] (P0 xs ys e j) /\ (vs.toArray[j]=us.toArray[j] -> P0 xs ys e j=true):=by
 rw [aI] at h1 h2
 (refine b9 (p2.get' (aq h1)) fun x hx rx=>?_)
 (refine b9 (q2.get' (aq h2)) fun y hy ry=>?_)
 have z:=he j x y hx hy A F ρ s _ _ hu S rx ry
 unfold P0
 rw [hx,hy]
 exact ⟨z.eq,z.same⟩
theorem cg1 (S:d7 w KF F ρ H s.heap (gt s)) (hu:A.units+k < cLine) (p2:c8 ρ s.heap xs vs) (q2:c8 ρ s.heap ys vs) (he:aB6 w KF H k xs ys e):B7 xs ys e=true:=by
 unfold B7
 rw [<- p2.len,<- q2.len,beq_self_eq_true,Bool.true_and,List.all_eq_true]
 intro j hj
 have hj':j < vs.toArray.size:=by rw [aI]; exact cQ.mp hj
 exact (aB7 S hu p2 q2 he j hj' hj').2 rfl
end
theorem cg2 {k l r:Nat} {xs ys:List V} {e:V -> V -> Bool} (hl:H[l]?=some (.list xs)) (hr:H[r]?=some (.list ys)) (he:aB6 w KF H k xs ys e):M3 w KF H (k+1) (.ref l) (.ref r) (B7 xs ys e):=fun A F ρ s u v hu S ru rv=>by
 (refine b9 (ru.ref_eq) fun a ha qz11=>?_; subst qz11)
 (refine b9 (rv.ref_eq) fun b hb qz12=>?_; subst qz12)
 (refine w5 (S.ob l a _ ha hl) fun f1 _ vs p1 p2=>?_)
 (refine w5 (S.ob r b _ hb hr) fun f2 _ us q1 q2=>?_)
 have hu1:A.in1.units+k < cLine:=by show A.units+1+k < cLine; exact nq6 hu
 have sm:Value.ref a.a=.ref b.a -> B7 xs ys e=true:=fun q=>by
  have e1:a.a=b.a:=by injection q
  have hlr:l=r:=ir fun hne=>ay1 S.nd ha hb hne (b:=a.a) (by rw [f1]; exact .head _) (by rw [f2,e1]; exact .head _)
  subst hlr
  rw [hl] at hr
  cases hr
  rw [ha] at hb
  cases hb
  exact cg1 (A:=A.in1) S hu1 p2 p2 he
 have rc:RcAt A s (.ref a.a) (.ref b.a) (B7 xs ys e) /\ RcNeAt A s (.ref a.a) (.ref b.a) (!B7 xs ys e):=by
  by_cases hlen:xs.length=ys.length
  · have h1:vs.toArray.size=us.toArray.size:=by rw [aI,aI,p2.len,q2.len,hlen]
    rw [aW0 (s:=s) p2 hlen]
    exact ⟨RcAt.lists p1.isList q1.isList h1 (by exact T6 hu) fun j h1 h2=>(aB7 (A:=A.in1) S hu1 p2 q2 he j h1 h2).1,RcNeAt.lists p1.isList q1.isList h1 (by exact T6 hu) fun j h1 h2=>(aB7 (A:=A.in1) S hu1 p2 q2 he j h1 h2).1⟩
  · rw [aW1 hlen]
    have hs:(vs.toArray.size !=us.toArray.size)=true:=by rw [aI,aI,p2.len,q2.len]; simpa using hlen
    exact ⟨RcAt.lists_lengths p1.isList q1.isList hs (by exact T6 hu),RcNeAt.lists_lengths p1.isList q1.isList hs (by exact T6 hu)⟩
 exact ⟨rc.1,rc.2,aA4 rc.1 (fun _ _ q=>nomatch q) sm,sm⟩
end
end
section
theorem aY7 (lo hi:Option Int) (n:Nat):eO lo hi 1 n=sliceRange (dM lo hi none n).1 (dM lo hi none n).2.1 (dM lo hi none n).2.2:=by
 unfold eO dM
 cases lo<;>cases hi<;>simp
theorem cg3 {α:Type} (xs:List α) (lo hi:Option Int) (h:(pick xs lo hi none).length=xs.length):pick xs lo hi none=xs:=by
 rw [af3] at h ⊢
 rw [bQ,ev] at h
 by_cases h0:xs=[]
 · subst h0; simp
 have:0 < xs.length:=List.length_pos_iff.mpr h0
 have ha:A7 lo 0 xs.length=0:=by exact bA3 h this
 rw [ha,dI,List.take_of_length_le (by exact bA4 h this ha)]
theorem aY8 (l:List Nat) (lo hi:Option Int):Txt.slice (S l) lo hi=S (pick l lo hi none):=by
 have e:((eO lo hi 1 (S l).length).filterMap ((S l).cps[·]?))=pick l lo hi none:=by
  rw [aY7,j5]
  unfold pick
  congr 1
  funext i
  show (l.toArray)[i]?=l[i]?
  simp
 have hlen:(eO lo hi 1 (S l).length).length=(pick l lo hi none).length:=by
  rw [j5,af3,aY7,aX0,aD,dn,bQ,ev]
  have:=aW9 (hi:=hi) (n:=l.length)
  exact bA5 this
 unfold Txt.slice
 split
 · rename_i h
   have h':(pick l lo hi none).length=l.length:=by
    rw [hlen,j5] at h
    simpa using h
   rw [cg3 l lo hi h']
 · rw [e]; rfl
end
section
set_option tactic.hygienic false
-- arguments,one by one
theorem R4 {us:List Value} (h:us.length=1):∃ a,us=[a]:=List.length_eq_one_iff.mp h
theorem X1 {us:List Value} (h:us.length=2):∃ a0 a1,us=[a0,a1]:=by
 cases us with
 | nil=>cases h
 | cons a us =>
  (refine c0 (R4 (iz h)) fun b0 e=>?_)
  exact (l8 a b0 (by rw [e]))
theorem aB8 {us:List Value} (h:us.length=3):∃ a0 a1 a2,us=[a0,a1,a2]:=by
 cases us with
 | nil=>cases h
 | cons a us =>
  (refine w0 (X1 (iz h)) fun b0 b1 e=>?_)
  exact (C3 a b0 b1 (by rw [e]))
theorem aY9 {us:List Value} (h:us.length=4):∃ a0 a1 a2 a3,us=[a0,a1,a2,a3]:=by
 cases us with
 | nil=>cases h
 | cons a us =>
  (refine B4 (aB8 (iz h)) fun b0 b1 b2 e=>?_)
  exact (T4 a b0 b1 b2 (by rw [e]))
theorem aZ0 {us:List Value} (h:us.length=5):∃ a0 a1 a2 a3 a4,us=[a0,a1,a2,a3,a4]:=by
 cases us with
 | nil=>cases h
 | cons a us =>
  (refine T2 (aY9 (iz h)) fun b0 b1 b2 b3 e=>?_)
  exact (aj3 a b0 b1 b2 b3 (by rw [e]))
section
variable (prog:Program) (w:World) (KF:Frag) (fi:FI) (d:Nat) (E:EP) (m:b8)
noncomputable abbrev KB2 (op:Operator) (a:V) (Q:V -> List O -> Prop):V -> List O -> Prop:=fun b H=>W2 prog w KF d (Em E m) VR H (dm op) a b Q
noncomputable abbrev KB1 (op:Operator) (r:Expr) (Q:V -> List O -> Prop):V -> List O -> Prop:=fun a H=>WE prog w KF fi d E m H r (KB2 prog w KF d E m op a Q)
noncomputable abbrev KU (op:UnaryOp) (Q:V -> List O -> Prop):V -> List O -> Prop:=fun a H=>W1 prog w KF d (Em E m) VR H (unaryOp op) a Q
noncomputable abbrev KC2 (op:CmpOp) (a:V) (Q:V -> List O -> Prop):V -> List O -> Prop:=fun b H=>W2 prog w KF d (Em E m) VR H (dw op) a b Q
noncomputable abbrev KC1 (op:CmpOp) (r:Expr) (Q:V -> List O -> Prop):V -> List O -> Prop:=fun a H=>WE prog w KF fi d E m H r (KC2 prog w KF d E m op a Q)
noncomputable abbrev KT (Q:Bool -> List O -> Prop):V -> List O -> Prop:=fun c H=>W1 prog w KF d (Em E m) L9 H truthy c Q
noncomputable abbrev KN (Q:Bool -> List O -> Prop):Bool -> List O -> Prop:=fun b H=>Q (!b) H
noncomputable abbrev aB9 (y:Expr) (r:List Expr) (pos:Pos) (Q:Bool -> List O -> Prop):Bool -> List O -> Prop:=fun b H=>if b=true then WT prog w KF fi d E m H (.BoolOp .And (y::r) pos) Q else Q false H
noncomputable abbrev KIf (x y:Expr) (Q:V -> List O -> Prop):Bool -> List O -> Prop:=fun b H=>if b=true then WE prog w KF fi d E m H x Q else WE prog w KF fi d E m H y Q
noncomputable abbrev KL (Q:V -> List O -> Prop):List V -> List O -> Prop:=fun vs H=>vs.length <= aB /\ Q (.ref H.length) (H++[.list vs])
noncomputable abbrev KTu (Q:V -> List O -> Prop):List V -> List O -> Prop:=fun vs H=>vs.length <= aB /\ Q (.tup vs) H
noncomputable abbrev KE2 (v:V) (Q:List V -> List O -> Prop):List V -> List O -> Prop:=fun vs H=>Q (v::vs) H
noncomputable abbrev KE1 (es:List Expr) (Q:List V -> List O -> Prop):V -> List O -> Prop:=fun v H=>w7 prog w KF fi d E m H es (KE2 v Q)
noncomputable abbrev ch0 (f:V) (Q:V -> List O -> Prop):List V -> List O -> Prop:=fun vs H=>i5 prog w KF d (Em E m) H f vs Q
noncomputable abbrev KCa (args:List Expr) (Q:V -> List O -> Prop):V -> List O -> Prop:=fun f H=>t8 KF f /\ w7 prog w KF fi d E m H args (ch0 prog w KF d E m f Q)
noncomputable abbrev ch2 (f x:V) (Q:V -> List O -> Prop):List V -> List O -> Prop:=fun vs H=>i5 prog w KF d (Em E m) H f (x::vs) Q
noncomputable abbrev KMe (name:Str) (args:List Expr) (Q:V -> List O -> Prop):V -> List O -> Prop:=fun x H=>∃ f,C6 prog w KF H x name f /\ t8 KF f /\ w7 prog w KF fi d E m H args (ch2 prog w KF d E m f x Q)
noncomputable abbrev KS2 (o:V) (Q:V -> List O -> Prop):V -> List O -> Prop:=fun i H=>W2 prog w KF d (Em E m) VR H J0 o i Q
noncomputable abbrev KS1 (slice:Expr) (Q:V -> List O -> Prop):V -> List O -> Prop:=fun o H=>WE prog w KF fi d E m H slice (KS2 prog w KF d E m o Q)
noncomputable abbrev ch6 (o lv uv:V) (Q:V -> List O -> Prop):V -> List O -> Prop:=fun kv H=>am1 prog w KF d (Em E m) H o lv uv kv Q
noncomputable abbrev ch7 (k:Option Expr) (o lv:V) (Q:V -> List O -> Prop):V -> List O -> Prop:=fun uv H=>R1 prog w KF d fi E m H k (ch6 prog w KF d E m o lv uv Q)
noncomputable abbrev ch8 (u k:Option Expr) (o:V) (Q:V -> List O -> Prop):V -> List O -> Prop:=fun lv H=>R1 prog w KF d fi E m H u (ch7 prog w KF fi d E m k o lv Q)
noncomputable abbrev ch9 (l u k:Option Expr) (Q:V -> List O -> Prop):V -> List O -> Prop:=fun o H=>R1 prog w KF d fi E m H l (ch8 prog w KF fi d E m u k o Q)
noncomputable abbrev KM (Q:b8 -> List O -> Prop):Unit -> List O -> Prop:=fun _ H=>Q m H
noncomputable abbrev KA2 (ov v:V) (Q:b8 -> List O -> Prop):V -> List O -> Prop:=fun iv H=>W3 prog w KF d (Em E m) Z5 H setItem ov iv v (KM m Q)
noncomputable abbrev KA1 (i:Expr) (v:V) (Q:b8 -> List O -> Prop):V -> List O -> Prop:=fun ov H=>WE prog w KF fi d E m H i (KA2 prog w KF d E m ov v Q)
noncomputable abbrev KAt (attr:Str) (v:V) (Q:b8 -> List O -> Prop):V -> List O -> Prop:=fun ov H=>W2 prog w KF d (Em E m) Z5 H (fun u v=>setAttr u attr v) ov v (KM m Q)
noncomputable abbrev KWt (es:List Expr) (Q:b8 -> List O -> Prop):List V -> List O -> Prop:=fun vs H=>WAs prog w KF fi d E m H es vs Q
noncomputable abbrev KNx (Q:Fl -> b8 -> List O -> Prop):b8 -> List O -> Prop:=fun m H=>Q .next m H
noncomputable abbrev KAs (t:Expr) (Q:Fl -> b8 -> List O -> Prop):V -> List O -> Prop:=fun v H=>WA prog w KF fi d E m H t v (KNx Q)
noncomputable abbrev ci5 (t':Expr) (v:V) (Q:Fl -> b8 -> List O -> Prop):b8 -> List O -> Prop:=fun m H=>WA prog w KF fi d E m H t' v (KNx Q)
noncomputable abbrev ci6 (t t':Expr) (Q:Fl -> b8 -> List O -> Prop):V -> List O -> Prop:=fun v H=>WA prog w KF fi d E m H t v (ci5 prog w KF fi d E t' v Q)
noncomputable abbrev ci7 (x:Str) (Q:Fl -> b8 -> List O -> Prop):V -> List O -> Prop:=fun c H=>Q .next (w6 m x c) H
noncomputable abbrev KAu (op:Operator) (a:V) (x:Str) (Q:Fl -> b8 -> List O -> Prop):V -> List O -> Prop:=fun b H=>W2 prog w KF d (Em E m) VR H (inplaceOp op) a b (ci7 m x Q)
noncomputable abbrev KSi (x y:List Stmt) (Q:Fl -> b8 -> List O -> Prop):Bool -> List O -> Prop:=fun b H=>if b=true then WB prog w KF fi d E m H x Q else WB prog w KF fi d E m H y Q
noncomputable abbrev KRe (Q:Fl -> b8 -> List O -> Prop):V -> List O -> Prop:=fun v H=>Q (.ret v) m H
noncomputable abbrev KEx (Q:Fl -> b8 -> List O -> Prop):V -> List O -> Prop:=fun _ H=>Q .next m H
noncomputable abbrev cj1 (rest:List Stmt) (Q:Fl -> b8 -> List O -> Prop):Fl -> b8 -> List O -> Prop:=fun f m H=>match f with | .next=>WB prog w KF fi d E m H rest Q | f=>Q f m H
noncomputable abbrev aZ4 (J:Nat -> b8 -> List O -> Prop) (i:Nat) (Q:Fl -> b8 -> List O -> Prop):Fl -> b8 -> List O -> Prop:=fun f m H=>match f with | .next | .cont=>J (i+1) m H | .brk=>Q .next m H | .ret v=>Q (.ret v) m H
noncomputable abbrev KFt (body:List Stmt) (J:Nat -> b8 -> List O -> Prop) (i:Nat) (Q:Fl -> b8 -> List O -> Prop):b8 -> List O -> Prop:=fun m H=>WB prog w KF fi d E m H body (aZ4 J i Q)
noncomputable abbrev KFi (target:Expr) (body:List Stmt) (Q:Fl -> b8 -> List O -> Prop):V -> List O -> Prop:=fun v H1=>∃ xs G,J8 prog w KF d (Em E m) H1 v xs G /\ ∃ J:Nat -> b8 -> List O -> Prop,J 0 m H1 /\ (∀ i m H,J i m H -> G H) /\
 (∀ i x m H,xs[i]?=some x -> J i m H -> WA prog w KF fi d E m H target x (KFt prog w KF fi d E body J i Q)) /\ (∀ m H,J xs.length m H -> Q .next m H)
noncomputable abbrev KFn (Q:V -> List O -> Prop):Fl -> b8 -> List O -> Prop:=fun f _ H=>match f with | .ret v=>Q v H | .next=>Q .none H | _=>False
end
section
variable {prog:Program} {w:World} {KF:Frag} {fi:FI} {d:Nat} {E:EP} {m:b8} {H:List O}
theorem g8 {l r:Expr} {op:Operator} {pos:Pos} {Q:V -> List O -> Prop} (h:WE prog w KF fi d E m H l (KB1 prog w KF fi d E m op r Q)):WE prog w KF fi d E m H (.BinOp l op r pos) Q:=bX6 h
theorem aZ5 {x:Expr} {op:UnaryOp} {pos:Pos} {Q:V -> List O -> Prop} (h:WE prog w KF fi d E m H x (KU prog w KF d E m op Q)):WE prog w KF fi d E m H (.UnaryOp op x pos) Q:=bX7 h
theorem l6 {l r:Expr} {op:CmpOp} {pos:Pos} {Q:Bool -> List O -> Prop} (h:WE prog w KF fi d E m H l (KC1 prog w KF fi d E m op r (KT prog w KF d E m Q))) (hm:behindInMarks op r=false:=by with_unfolding_all rfl):WT prog w KF fi d E m H (.Compare l [op] [r] pos) Q:=bX8 h hm
theorem w4 {e:Expr} {Q:Bool -> List O -> Prop} (h:WE prog w KF fi d E m H e (KT prog w KF d E m Q)) (he:∀ env whole,isTrue e env whole=(do let v <- whole; fq e.pos; dH [v] (truthy v)):=by intro _ _; rfl):WT prog w KF fi d E m H e Q:=bX9 h he
theorem aC1 {x:Expr} {pos:Pos} {Q:Bool -> List O -> Prop} (h:WT prog w KF fi d E m H x (KN Q)):WT prog w KF fi d E m H (.UnaryOp .Not x pos) Q:=bY0 h
theorem B9 {x y:Expr} {r:List Expr} {pos:Pos} {Q:Bool -> List O -> Prop} (h:WT prog w KF fi d E m H x (aB9 prog w KF fi d E m y r pos Q)):WT prog w KF fi d E m H (.BoolOp .And (x::y::r) pos) Q:=bY1 h
theorem aC2 {c x y:Expr} {pos:Pos} {Q:V -> List O -> Prop} (h:WT prog w KF fi d E m H c (KIf prog w KF fi d E m x y Q)):WE prog w KF fi d E m H (.IfExp c x y pos) Q:=bY2 h
theorem G3 {es:List Expr} {pos:Pos} {Q:V -> List O -> Prop} (h:w7 prog w KF fi d E m H es (KL Q)) (hp:C5 es:=by intro _; rfl):WE prog w KF fi d E m H (.List es pos) Q:=bY3 h hp
theorem y5 {es:List Expr} {k:Nat} {pos:Pos} {Q:V -> List O -> Prop} (h:w7 prog w KF fi d E m H es (KTu Q)) (hp:C5 es:=by intro _; rfl):WE prog w KF fi d E m H (.Tuple es k pos) Q:=bY4 h hp
theorem c6 {e:Expr} {es:List Expr} {Q:List V -> List O -> Prop} (h:WE prog w KF fi d E m H e (KE1 prog w KF fi d E m es Q)):w7 prog w KF fi d E m H (e::es) Q:=h
theorem n7 {func:Expr} {args:List Expr} {pos:Pos} {Q:V -> List O -> Prop} (h:WE prog w KF fi d E m H func (KCa prog w KF fi d E m args Q))
 (hp:C5 args:=by intro _; rfl) (he:∀ env,eval (.Call func args [] pos) env=(do dT pos (<- eval func env) [] (dX pos (dR args env)) (backToKw pos (gr [] env))):=by intro _; rfl):WE prog w KF fi d E m H (.Call func args [] pos) Q:=cb9 h hp he
theorem o6 {o:Expr} {name:Str} {apos pos:Pos} {args:List Expr} {pl:Env -> Sem Bool} {Q:V -> List O -> Prop} (h:WE prog w KF fi d E m H o (KMe prog w KF fi d E m name args Q))
 (hp:C5 args:=by intro _; rfl) (he:∀ env,eval (.Call (.Attribute o name apos) args [] pos) env=(do
  let ov <- eval o env
  fq apos.atName
  let (f,first) <- dH [ov] (iA ov name (pl env))
  dT pos f first (dX pos (dR args env)) []):=by intro _; rfl):WE prog w KF fi d E m H (.Call (.Attribute o name apos) args [] pos) Q:=cc0 h hp he
theorem A9 {value slice:Expr} {pos:Pos} {Q:V -> List O -> Prop} (h:WE prog w KF fi d E m H value (KS1 prog w KF fi d E m slice Q))
 (hs:∀ b o i,subscripted slice b o i=(match b with | true=>runValue (.builtin "lifetime.subscript" ⟨[o,i],[]⟩) | false=>operate [o,i] (getItem o i)):=by intro b o i; cases b<;>rfl):WE prog w KF fi d E m H (.Subscript value slice pos) Q:=cd0 h hs
theorem aC3 {value:Expr} {l u k:Option Expr} {p pos:Pos} {Q:V -> List O -> Prop} (h:WE prog w KF fi d E m H value (ch9 prog w KF fi d E m l u k Q)):WE prog w KF fi d E m H (.Subscript value (.Slice l u k p) pos) Q:=cd2 h
theorem aC4 {o i:Expr} {pos:Pos} {v:V} {Q:b8 -> List O -> Prop} (h:WE prog w KF fi d E m H o (KA1 prog w KF fi d E m i v Q)):WA prog w KF fi d E m H (.Subscript o i pos) v Q:=bY6 h
theorem B0 {o:Expr} {attr:Str} {pos:Pos} {v:V} {Q:b8 -> List O -> Prop} (h:WE prog w KF fi d E m H o (KAt prog w KF d E m attr v Q)):WA prog w KF fi d E m H (.Attribute o attr pos) v Q:=bY7 h
theorem aa4 {es:List Expr} {k:Nat} {pos:Pos} {v:V} {Q:b8 -> List O -> Prop} (h:W1 prog w KF d (Em E m) c8 H (fun u=>gp u es.length none) v (KWt prog w KF fi d E m es Q)) (hp:ay6 es:=by intro _; rfl):WA prog w KF fi d E m H (.Tuple es k pos) v Q:=bZ0 h hp
theorem l7 {t value:Expr} {pos:Pos} {Q:Fl -> b8 -> List O -> Prop} (h:WE prog w KF fi d E m H value (KAs prog w KF fi d E m t Q))
 (hs:∀ env,swapsWithSole [t] value pos.line env=pure false:=by intro _; rfl) (hw:∀ env,bR [t] value env=pure none:=by intro _; rfl) (he:∀ env,fW [t] env=[(false,dk t env)]:=by intro _; rfl):WS prog w KF fi d E m H (.Assign [t] value pos) Q:=bZ1 h hs hw he
theorem M6 {t t' value:Expr} {pos:Pos} {Q:Fl -> b8 -> List O -> Prop} (h:WE prog w KF fi d E m H value (ci6 prog w KF fi d E m t t' Q))
 (hw:∀ env,bR [t,t'] value env=pure none:=by intro _; rfl) (he:∀ env,fW [t,t'] env=[(false,dk t env),(false,dk t' env)]:=by intro _; rfl):WS prog w KF fi d E m H (.Assign [t,t'] value pos) Q:=bZ2 h hw he
theorem af7 {x:Str} {p pos:Pos} {op:Operator} {value:Expr} {a:V} {Q:Fl -> b8 -> List O -> Prop} (hk:O6 fi x) (hv:p0 m x=some a) (h:WE prog w KF fi d E m H value (KAu prog w KF d E m op a x Q)):WS prog w KF fi d E m H (.AugAssign (.Name x p) op value pos) Q:=bZ5 hk hv h
theorem o9 {c:Expr} {x y:List Stmt} {pos:Pos} {Q:Fl -> b8 -> List O -> Prop} (h:WT prog w KF fi d E m H c (KSi prog w KF fi d E m x y Q)):WS prog w KF fi d E m H (.If c x y pos) Q:=bZ6 h
theorem E5 {e:Expr} {pos:Pos} {Q:Fl -> b8 -> List O -> Prop} (h:WE prog w KF fi d E m H e (KRe m Q)):WS prog w KF fi d E m H (.Return (some e) pos) Q:=bZ7 h
theorem q9 {e:Expr} {pos:Pos} {Q:Fl -> b8 -> List O -> Prop} (h:WE prog w KF fi d E m H e (KEx m Q)) (hs:∀ env,swapsWith e none pos.line env=pure false:=by intro _; rfl):WS prog w KF fi d E m H (.Expr e pos) Q:=ca0 h hs
theorem c7 {st:Stmt} {rest:List Stmt} {Q:Fl -> b8 -> List O -> Prop} (h:WS prog w KF fi d E m H st (cj1 prog w KF fi d E rest Q)):WB prog w KF fi d E m H (st::rest) Q:=ca1 (by
 intro A env F ρ s hA S
 exact ar (h A env F ρ s hA S) (fun v s'=>D2.el fun ρ' H' m' fl st T rv q=>⟨ρ',H',m',fl,st,T,rv,by cases fl<;>exact q⟩) fun _ _ x=>x)
theorem X2 {target iter:Expr} {body:List Stmt} {pos:Pos} {Q:Fl -> b8 -> List O -> Prop} (h:WE prog w KF fi d E m H iter (KFi prog w KF fi d E m target body Q)) (hs:∀ env x,gH iter env x=pure x:=by intro _ _; rfl):WS prog w KF fi d E m H (.For target iter body [] pos) Q:=by
 refine ay8 (h.mono fun v H=>bv1 fun xs G hI J h0 h1 h2 h3=>(L7 xs G hI J h0 h1 (fun i x m H hx hJ=>?_) h3)) hs
 intro A env F ρ s u hA S r
 refine ar (h2 i x m H hx hJ A env F ρ s u hA S r) (fun _ s'=>AQ.el fun ρ' H' m' st T q=>⟨ρ',H',m',st,T,?_⟩) fun _ _ x=>x
 intro A env F ρ s hA S
 exact ar ((show WB prog w KF fi d E m' H' body (aZ4 J i Q) from q) A env F ρ s hA S) (fun v s'=>D2.el fun ρ' H' m' fl st T rv q=>⟨ρ',H',m',fl,st,T,rv,by cases fl<;>exact q⟩) fun _ _ x=>x
end
section
variable {prog:Program} {w:World} {KF:Frag} {d:Nat} {E:i7} {H:List O} {a:Nat} {o:Obj} {fd:FuncData} {body:List Stmt} {sc:Scope} {ps:List Str} {xs:List V}
theorem cj4 {Q:V -> List O -> Prop} (K:y3 KF a o fd body sc ps) (hgen:sc.isGenerator=false) (hlen:xs.length=ps.length)
 (h:WB prog w KF ⟨sc,true,fd.code⟩ d (fun _ _ _=>False) (r0 sc ps xs) H body (KFn Q)):i5 prog w KF (d+1) E H (.st a) xs Q:=by
 refine E3 K hgen hlen fun A env F ρ s hA S=>?_
 exact ar (h A env F ρ s hA S) (fun v s'=>D2.el fun ρ' H' m' fl st T rv q=>⟨ρ',H',m',fl,st,T,rv,by cases fl<;>exact q⟩) fun _ _ x=>x
end
section
variable {prog:Program} {w:World} {KF:Frag} {fi:FI} {d:Nat} {E:EP} {m:b8} {H:List O} {b:Bool}
-- the ways of a test
theorem w9 {x y:List Stmt} {Q:Fl -> b8 -> List O -> Prop} (hb:b=true) (h:WB prog w KF fi d E m H x Q):KSi prog w KF fi d E m x y Q b H:=by subst hb; exact h
theorem o5 {x y:List Stmt} {Q:Fl -> b8 -> List O -> Prop} (hb:¬ b=true) (h:WB prog w KF fi d E m H y Q):KSi prog w KF fi d E m x y Q b H:=by rw [Bool.not_eq_true] at hb; subst hb; exact h
theorem aZ6 {x y:Expr} {Q:V -> List O -> Prop} (hb:b=true) (h:WE prog w KF fi d E m H x Q):KIf prog w KF fi d E m x y Q b H:=by subst hb; exact h
theorem aZ7 {x y:Expr} {Q:V -> List O -> Prop} (hb:¬ b=true) (h:WE prog w KF fi d E m H y Q):KIf prog w KF fi d E m x y Q b H:=by rw [Bool.not_eq_true] at hb; subst hb; exact h
theorem D4 {y:Expr} {r:List Expr} {pos:Pos} {Q:Bool -> List O -> Prop} (hb:b=true) (h:WT prog w KF fi d E m H (.BoolOp .And (y::r) pos) Q):aB9 prog w KF fi d E m y r pos Q b H:=by subst hb; exact h
theorem E6 {y:Expr} {r:List Expr} {pos:Pos} {Q:Bool -> List O -> Prop} (hb:¬ b=true) (h:Q false H):aB9 prog w KF fi d E m y r pos Q b H:=by rw [Bool.not_eq_true] at hb; subst hb; exact h
end
end
section
noncomputable def cO2 (prog:Program) (w:World) (KF:Frag) (d:Nat) (E:i7) (H:List O) (f:V) (xs:List V) (Q:V -> List O -> Prop):Prop :=
 ∀ A F ρ s u us,k9 A d F.fr -> d7 w KF F ρ H s.heap (gt s) -> VR ρ s.heap f u -> c8 ρ s.heap xs us -> A4 (aA prog w) A (call u us) (HQ w KF VR F ρ s Q) (HE w KF F ρ s E) s
-- loops
end
section
noncomputable def cj5 (h:Heap) (a:Addr):Prop:=∃ o vs,h.get? a=some o /\ o.cls=.type "StopIteration" /\ o.data=.fields vs /\ vs[5]?=some .none
end
section
set_option tactic.hygienic false
structure cO3 (fs:List Frame):Prop where
 sp:splitAtGen fs=none
 gd:fs.any Frame.guarded=false
theorem af8 {ρ ρ':List b7} (q:ρ.map (·.a)=ρ'.map (·.a)) {i:Nat} {e:b7} (h:ρ[i]?=some e):∃ e',ρ'[i]?=some e' /\ e'.a=e.a:=by
 have:(ρ'.map (·.a))[i]?=some e.a:=by rw [<- q,aU,h]; rfl
 rw [aU] at this
 cases h':ρ'[i]? with
 | none=>rw [h'] at this; cases this
 | some e'=>rw [h'] at this; exact (c5 e' rfl (cE this))
mutual
theorem VR.ents {ρ ρ':List b7} {h:Heap} (q:ρ.map (·.a)=ρ'.map (·.a)):∀ {x:V} {v:Value},VR ρ h x v -> VR ρ' h x v
 | .none,v,r=>by unfold VR at r ⊢; exact r
 | .bool b,v,r=>by unfold VR at r ⊢; exact r
 | .int i,v,r=>by unfold VR at r ⊢; exact r
 | .flt x,v,r=>by unfold VR at r ⊢; exact r
 | .str x,v,r=>by unfold VR at r ⊢; exact r
 | .stk x t,v,r=>by unfold VR at r ⊢; exact r
 | .ty n,v,r=>by unfold VR at r ⊢; exact r
 | .bi n,v,r=>by unfold VR at r ⊢; exact r
 | .st a,v,r=>by unfold VR at r ⊢; exact r
 | .ref i,v,r=>by unfold VR at r ⊢; (refine b9 r fun e he z=>?_; try clear r); (refine b9 (af8 q he) fun e' h1 h2=>?_); exact (c5 e' h1 (by rw [h2]; exact z))
 | .rng a b,v,r=>by unfold VR at r ⊢; exact r
 | .tup xs,v,r=>by unfold VR at r ⊢; (refine e8 r fun a vs z y w=>?_; try clear r); exact (A3 a vs z y (c8.ents q w))
 | .sub c xs,v,r=>by unfold VR at r ⊢; (refine e8 r fun a vs z y w=>?_; try clear r); exact (A3 a vs z y (c8.ents q w))
theorem c8.ents {ρ ρ':List b7} {h:Heap} (q:ρ.map (·.a)=ρ'.map (·.a)):∀ {xs:List V} {vs:List Value},c8 ρ h xs vs -> c8 ρ' h xs vs
 | [],vs,r=>by unfold c8 at r ⊢; exact r
 | x::xs,vs,r=>by unfold c8 at r ⊢; (refine e8 r fun v t e a b=>?_; try clear r); exact (A3 v t e (VR.ents q a) (c8.ents q b))
end
end
end Mine
end
section
open PySem PySem.W PyProof.Rows PySem.Spec PySem.Calls
namespace Mine
set_option tactic.hygienic false
theorem cj6 {prog:Program} {w:World} {t:Sem Fin} {s:Shared} {R:cR -> Shared -> Prop} (hz:s.asleep)
 (h:A4 (aA prog w) callerA t (fun fin s'=>∃ f,fin=.done f /\ R (.ok f) s' /\ AllBare s'.gens) (fun e s'=>R (.error e) s' /\ AllBare s'.gens) s) :
 ∃ n r s' s'',schedN (denote table) prog w n (.single s ⟨t,.builtin "claim.caller" {},default,[]⟩)=.halted (outcomeOf r) s' /\ s'.forget=s''.forget /\ s'.heap.life=s.heap.life /\ R r s'':=by
 refine Ev.halts (den:=denote table) (prog:=prog) (w:=w) (R:=R) (s:=s) (t:=⟨t,.builtin "claim.caller" {},default,[]⟩) ?_ hz
 have:=h (.builtin "claim.caller" {}) default [] caller_in (K:=.pure) (H:=.raise) (gd:=id) (lv:=id) (Φ:=fun s' t'=>∃ r c p,t'=⟨leafOf r,c,p,[]⟩ /\ leftWithCleanup s'.gens=false /\ R r s') ?_ ?_
 · rw [bX0] at this; exact this
 · (intro fin p' s'; refine aj2 fun f qz1 hR hb=>?_; subst qz1)
   exact .now (T5 (.ok f) _ p' rfl (leftWithCleanup_false_of_bare hb) hR)
 · (intro e p' s'; refine m8 fun hR hb=>?_)
   exact .now (T5 (.error e) _ p' rfl (leftWithCleanup_false_of_bare hb) hR)
theorem cj7 {c:ClaimW} {tree:List Value -> Sem Fin} {w:World} {s:Shared} {free:Addr -> Prop} {gens:Prop} {z7:Heap -> Prop} (hz:s.asleep) (hgens:s.gens=#[])
 (spec:∀ args,c.pre args=true -> WData.layableAll args=true -> ∀ ord:List DictEntry -> List DictEntry,(∀ l,(ord l).Perm l) -> ∃ vs s₁,layAllW c.records (classAt s.heap) w.params ord args s=some (vs,s₁) /\
  A4 (aA c.prog w) callerA (tree vs) (fun fin s'=>∃ f,fin=.done f /\ (c.Ends s args vs s₁ (.ok f) s' /\ s'.os=s.os /\ z7 s'.heap) /\ AllBare s'.gens) (fun e s'=>(c.Ends s args vs s₁ (.error e) s' /\ s'.os=s.os /\ z7 s'.heap) /\ AllBare s'.gens) s₁) :
 c.CallFrom (fun vs=>⟨tree vs,.builtin "claim.caller" {},default,[]⟩) w free gens z7 s:=by
 intro args hpre hlay ord hord
 (refine B5 (spec args hpre hlay ord hord) fun vs s₁ hl hc=>?_)
 have hal:=layAllW_rest _ _ _ hl
 (refine bt3 (cj6 (R:=fun r s'=>c.Ends s args vs s₁ r s' /\ s'.os=s.os /\ z7 s'.heap) (Shared.asleep_of_life hal.2.2.2 hz) hc) fun n r s' s'' hs hf hlife hE hos hkp=>?_)
 (refine G7 (Shared.forget_eq hf) fun eh _ _ eo _=>?_)
 have hE':=hE.congr eh
 rw [<- eo] at hos
 refine (bx0 vs s₁ hl n _ s' hs ?_ (fun _ i x hx=>by rw [hgens] at hx; simp at hx) (by rw [eh]; exact hkp) (by rw [hlife,hal.2.2.2]) (Shared.rest_eq hos))
 rcases hE' with ⟨v,rfl,d1,d2,d3,d4,d5⟩ | ⟨e,ob,cls,rfl,d1,d2,d3,d4,d5⟩
 · exact .inl (bv8 v rfl d1 d2 d3 (fun b o y _=>d4 b o y) d5)
 · exact .inr (aM7 e ob cls rfl d1 d2 d3 d4 (fun b o y _=>d5 b o y))
end Mine
end
section
open PySem PySem.W PyProof.Rows PySem.W.X PySem.SeqAt
namespace Mine
section
theorem cj8 {α:Type} (xs:List α) (k:Nat):pick xs (some (k:Int)) none none=xs.drop k:=by
 rw [af3,aX1,show A7 none xs.length xs.length=xs.length from rfl]
 by_cases q:k <= xs.length
 · rw [cF q,List.take_of_length_le (Nat.le_of_eq ev)]
 · rw [dC (Nat.le_of_not_le q),List.drop_length,List.drop_eq_nil_of_le (Nat.le_of_not_le q),List.take_nil]
end
section
set_option tactic.hygienic false
theorem cj9 {vs:List Value} {k:Nat} (hlt:k < vs.length):(fun xs:Array Value=>xs.eraseIdxIfInBounds k) vs.toArray=(vs.take k++vs.drop (k+1)).toArray:=by
 dsimp only
 have e2:vs=vs.take k++vs[k]::vs.drop (k+1):=by rw [List.getElem_cons_drop,dL]
 have e3:(vs.take k).length=k:=by rw [bQ]; exact aQ7 hlt
 have:=kl_erase (vs.take k) (vs.drop (k+1)) vs[k]
 rw [e3,<- e2] at this
 exact this
theorem aZ8 {h:Heap} {l:Nat} {items:Array Value} (f:Array Value -> Array Value) (x:h.PlainList l items):(h.update l (bw f)).PlainList l (f items):=by
 (refine c0 x fun n e=>?_; try clear x)
 exact ⟨_,bM _ e rfl⟩
section
variable {prog:Program} {w:World} {KF:Frag} {d:Nat} {E:i7} {H:List O} {Q:V -> List O -> Prop}
theorem aZ9 {l:Nat} {xs:List V} {name:Str} {id:String} (slot:Slot "list" name id) (hty:eP (.builtin id)=pure (.type "method_descriptor")) (hl:H[l]?=some (.list xs)):C6 prog w KF H (.ref l) name (.bi id):=fun A F ρ s u pl K E' S r h=>by
 (refine b9 (r.ref_eq) fun e he qz1=>?_; subst qz1)
 (refine w5 (S.ob l e _ he hl) fun _ _ vs qz2 b=>?_; obtain ⟨n,a⟩:=qz2)
 exact getMethod_builtin (c5 _ a rfl) PySem.F.plainAttrs_list slot hty (fun a' e=>by cases e; exact (c5 _ a rfl)) (h _ W9)
end
end
section
noncomputable def ba0 (h:Heap) (S:List Nat):Heap:={ h with objs:=h.objs.mapIdx fun i o=>if i∈S then { o with data:=.freed } else o }
end
section
noncomputable def aC5 (L:List Nat) (h:Heap) (l:List Env):Prop:=∀ e∈l,e.scope.kind≠.module /\ ∃ a o,e.frame=some a /\ a∈L /\ h.get? a=some o /\ ∃ es ep,o.data=.dict es ep
structure am9 (L:List Nat) (e:Nat) (h₁ h:Heap):Prop where
 kp:∀ b o,b≠e -> b ∉ L -> h₁.get? b=some o -> h.get? b=some o
 lo:∀ b∈L,∀ o,h₁.get? b=some o -> ∃ sl,h.get? b=some { o with slots:=sl }
structure Fly (L:List Nat) (e:Nat) (cls a0:Value) (l:List Env) (h₁ h:Heap):Prop where
 fl:Heap.FlyingW (ba0 h₁ (e::L)) l e cls a0 h
 nt:am9 L e h₁ h
 fr:aC5 L h₁ l
end
section
noncomputable def cO4 (h:Heap) (a:Nat) (X:String) (args:List Value):Prop:=∃ t,h.ExcAt a X (.ref t) /\ h.TupAt t args
end
section
section
variable {prog:Program} {w:World} {A:Around} {Y:YP} {R:cR -> Shared -> Prop} {s:Shared}
structure cO5 (a g:Nat) (x:Nat) (s₁:Shared):Prop where
 gen:H0 s₁.heap a g 0
 ty:∃ X,s₁.TypeIs (.ref x) X /\ eQ (.type X) (.type "StopIteration")=pure false
end
end
section
structure ck0 (L:List Nat) (e:Nat) (cls a0:Value) (l:List Env) (a:Nat) (h₁ h:Heap):Prop where
 fl:Heap.HeldW (ba0 h₁ (e::L)) l e cls a0 a h
 nt:am9 L e h₁ h
 fr:aC5 L h₁ l
end
section
noncomputable def af9:Option Str -> List Value -> Prop
 | none,vs=>vs=[]
 | some m,vs=>∃ tk,vs=[.str m tk]
noncomputable def RzQ (w:World) (KF:Frag) (fi:FI) (env:Env) (m:b8) (F:d6) (ρ:List b7) (s:Shared) (X:String) (msg:Option Str) (Q:List O -> Prop) (e:Value) (s':Shared):Prop :=
 ∃ ρ' H' h₀ x args,e=.ref x /\ f0 ρ s ρ' s' /\ d8 w KF fi env m F ρ' H' s'.heap (gt s') /\ af9 msg args /\ Heap.MadeExc h₀ s'.heap x X args /\ z6 fi env F ρ' [x] /\ Q H'
end
section
noncomputable abbrev cO7 (env:Env) (F:d6):List Nat:=(n6 env F).filterMap (·.frame)
structure an0 (X:String):Prop where
 stop:eQ (.type X) (.type "StopIteration")=pure false
 rng:X≠"range"
 ty:eP (.type X)=pure (.type "type")
structure aC6 (w:World) (KF:Frag) (fi:FI) (env:Env) (m:b8) (F:d6) (ρ₀:List b7) (s₀:Shared) (H:List O) (ρ:List b7) (L:List Nat) (h₁:Heap) (t x:Nat) (args:List Value) (s:Shared):Prop where
 dict:∀ b∈L,∃ o es ep,h₁.get? b=some o /\ o.data=.dict es ep
 tup:h₁.get? t=some { cls:=.type "tuple",data:=.seq args.toArray }
 tx:t≠x
 tL:t ∉ L
 off:z6 fi env F ρ [x]
 land:∀ h'',am9 L x h₁ h'' -> f0 ρ₀ s₀ ρ { s with heap:=h'' } /\ d8 w KF fi env m F ρ H h'' (gt s)
section
variable (w:World) (KF:Frag) (fi:FI) (env:Env) (m:b8) (F:d6) (ρ₀:List b7) (s₀:Shared) (X:String) (msg:Option Str) (H:List O) (x:Nat) (s:Shared)
noncomputable def ck1:Prop:=∃ ρ L h₁ t args,af9 msg args /\ aC6 w KF fi env m F ρ₀ s₀ H ρ L h₁ t x args s /\ s.heap=h₁ /\ (∃ h₀,Heap.MadeExc h₀ h₁ x X args) /\ aC5 L h₁ (env::F.fr)
noncomputable def ba2 (l:List Env):Prop:=∃ ρ L h₁ t args,af9 msg args /\ aC6 w KF fi env m F ρ₀ s₀ H ρ L h₁ t x args s /\ Fly L x (.type X) (.ref t) l h₁ s.heap
noncomputable def ck2:Prop:=∃ ρ L h₁ t args,af9 msg args /\ aC6 w KF fi env m F ρ₀ s₀ H ρ L h₁ t x args s /\ ck0 L x (.type X) (.ref t) (env::F.fr) env.locals h₁ s.heap
noncomputable def ck3:Prop:=ck1 w KF fi env m F ρ₀ s₀ X msg H x s \/ ba2 w KF fi env m F ρ₀ s₀ X msg H x s (env::F.fr) \/ ck2 w KF fi env m F ρ₀ s₀ X msg H x s
end
end
section
inductive Ans where
 | txt (x:Str)
 | nothing
 | err (X:String) (msg:Option Str)
noncomputable def ba3 (w:World) (KF:Frag) (F:d6) (ρ:List b7) (s:Shared) (X:String) (msg:Option Str) (H:List O) (x:Nat) (l:List Env) (s':Shared):Prop :=
 ∃ ρ' L h₁ t args,af9 msg args /\ (∀ b∈L,∃ o es ep,h₁.get? b=some o /\ o.data=.dict es ep) /\ h₁.get? t=some { cls:=.type "tuple",data:=.seq args.toArray } /\ t≠x /\ t ∉ L /\ (F.f x=none /\ x ∉ q0 ρ') /\
  Fly L x (.type X) (.ref t) l h₁ s'.heap /\ ∀ h'',am9 L x h₁ h'' -> f0 ρ s ρ' { s' with heap:=h'' } /\ d7 w KF F ρ' H h'' (gt s')
structure aC7 (w:World) (KF:Frag) (fi:FI) (env:Env) (F:d6) (ρ:List b7) (H:List O) (s:Shared) (i:Nat) (e:b7) (g:Nat):Prop where
 S:d7 w KF F ρ H s.heap (gt s)
 he:ρ[i]?=some e
 hg:e.g=some (g,env)
 lt:g < s.gens.size
 fp:e.fp=e.a::j8 fi env
 gen:H0 s.heap e.a g 0
 int:eC env=false
 fr:env.frame=some env.locals
 sc:env.scope=fi.sc
 own:fi.own=true
section
variable {w:World} {KF:Frag} {fi:FI} {env:Env} {F:d6} {ρ ρ':List b7} {H H':List O} {s s₁:Shared} {i:Nat} {e:b7} {g:Nat} {m m':b8}
noncomputable abbrev aC7.bF (F:d6) (s:Shared) (e:b7):d6:=w1 F s.heap [e.a]
end
end
section
noncomputable def cO8 (prog:Program) (w:World) (KF:Frag) (d:Nat) (H:List O) (i:Nat) (Q:Ans -> List O -> Prop):Prop :=
 ∀ A F ρ s e,k9 A (d+1) F.fr -> d7 w KF F ρ H s.heap (gt s) -> ρ[i]?=some e -> (∃ g,H0 s.heap e.a g 0) /\
  A4 (aA prog w) A (callSpecial? (.ref e.a) (aa "__next__"))
   (fun r s'=>∃ ρ' H' x t,r=some (.str x t) /\ f0 ρ s ρ' s' /\ d7 w KF F ρ' H' s'.heap (gt s') /\ (∃ g,H0 s'.heap e.a g 0) /\ Q (.txt x) H')
   (fun v s'=>∃ a,v=.ref a /\ ((∃ ρ' H',cj5 s'.heap a /\ f0 ρ s ρ' s' /\ d7 w KF F ρ' H' s'.heap (gt s') /\ (∃ g,H0 s'.heap e.a g 0) /\ Q .nothing H') \/
    ∃ X msg H',ba3 w KF F ρ s X msg H' a F.fr s' /\ an0 X /\ Q (.err X msg) H')) s
structure GX where
 w:World
 KF:Frag
 fi:FI
 env:Env
 F:d6
 ρ:List b7
 s:Shared
inductive an2 where
 | yld (x:Str) (rest:List Stmt) (k:Kt) (y:Option Nat)
 | ret
 | exc (X:String) (msg:Option Str)
section
variable (prog:Program) (X:GX) (Q:an2 -> b8 -> List O -> Prop)
noncomputable def GYq:YP:=fun v z s₁=>∃ x u ρ' m' H' rest k y,v=.str x u /\ (z.bare=true \/ y.isSome=true) /\ Slp z X.env rest k y /\ f0 X.ρ X.s ρ' s₁ /\ d8 X.w X.KF X.fi X.env m' X.F ρ' H' s₁.heap (gt s₁) /\ Q (.yld x rest k y) m' H'
noncomputable def GRq:cR -> Shared -> Prop:=fun r s₁=>(r=.ok (.ret .none) /\ ∃ ρ' m' H',f0 X.ρ X.s ρ' s₁ /\ d8 X.w X.KF X.fi X.env m' X.F ρ' H' s₁.heap (gt s₁) /\ Q .ret m' H') \/
 ∃ x Xn msg m' H',r=.error (.ref x) /\ ba2 X.w X.KF X.fi X.env m' X.F X.ρ X.s Xn msg H' x s₁ X.F.fr /\ an0 Xn /\ Q (.exc Xn msg) m' H'
end
structure GX.Is (X:GX) (w:World) (KF:Frag) (fi:FI):Prop where
 hw:X.w=w
 hk:X.KF=KF
 hfi:X.fi=fi
 hfr:X.env.frame=some X.env.locals
 hint:eC X.env=false
 hsc:X.env.scope=fi.sc
end
section
section
variable {prog:Program} {w:World} {KF:Frag} {fi:FI} {env:Env} {F:d6} {ρ:List b7} {H:List O} {s:Shared} {i:Nat} {e:b7} {g:Nat} {m:b8} {A:Around} {d:Nat} {Q:Ans -> List O -> Prop}
noncomputable abbrev aC7.gx (w:World) (KF:Frag) (fi:FI) (env:Env) (F:d6) (ρ:List b7) (s:Shared) (i:Nat) (e:b7) (g:Nat):GX:=⟨w,KF,fi,env,aC7.bF F s e,ρ.set i ⟨e.a,[],e.g⟩,s.setGen g .running⟩
end
noncomputable def cP1 (prog:Program) (w:World) (KF:Frag) (d:Nat) (H:List O) (i:Nat) (Q:Ans -> List O -> Prop):Prop :=
 ∀ A F ρ s e,k9 A (d+1) F.fr -> d7 w KF F ρ H s.heap (gt s) -> ρ[i]?=some e -> (∃ g,H0 s.heap e.a g 0) /\
  A4 (aA prog w) A (cS (.ref e.a)) (fun r s'=>∃ ρ' H',f0 ρ s ρ' s' /\ d7 w KF F ρ' H' s'.heap (gt s') /\ (∃ g,H0 s'.heap e.a g 0) /\ ((r=none /\ Q .nothing H') \/ ∃ x t,r=some (.str x t) /\ Q (.txt x) H'))
   (fun x s'=>∃ a X msg H',x=.ref a /\ ba3 w KF F ρ s X msg H' a F.fr s' /\ an0 X /\ Q (.err X msg) H') s
end
section
noncomputable abbrev XPo:=String -> Option Str -> b8 -> List O -> Prop
noncomputable def cP2 (w:World) (KF:Frag) (fi:FI) (env:Env) (F:d6) (ρ:List b7) (s:Shared) (XP:XPo):Value -> Shared -> Prop:=fun v s'=>∃ x Xn msg m' H',v=.ref x /\ an0 Xn /\ ck3 w KF fi env m' F ρ s Xn msg H' x s' /\ XP Xn msg m' H'
end
section
noncomputable def C7 {α:Type} (lt:Nat -> Nat -> Bool) (n:Nat):KasT α -> Option α
 | .ret a=>some a
 | .ask i j k=>if i < n /\ j < n then C7 lt n (k (lt i j)) else none
theorem ba5 {α:Type} {cmp:Nat -> Nat -> (Bool -> Shared -> Prop) -> Shared -> Prop} {lt:Nat -> Nat -> Bool} {n:Nat} {s:Shared} (hc:∀ i j,i < n -> j < n -> ∀ C:Bool -> Shared -> Prop,C (lt i j) s -> cmp i j C s) {Q:α -> Shared -> Prop}:∀ (t:KasT α) (a:α),C7 lt n t=some a -> Q a s -> t.kasWp cmp Q s
 | .ret b,a,h,hq=>by cases h; exact hq
 | .ask i j k,a,h,hq=>by
  unfold C7 at h
  split at h
  · rename_i q
    exact hc i j q.1 q.2 _ (ba5 hc _ a h hq)
  · cases h
section
variable {prog:Program} {w:World} {A:Around} {E:Value -> Shared -> Prop} {s:Shared} {a:Nat} {vs:List Value} {κ:SortKind} {lt:Nat -> Nat -> Bool} {p:Array Nat}
theorem ck4 {n:Nat} {P:PySem.Fin -> Shared -> Prop} (ho:s.heap.get? a=some (cH "list" vs.toArray n)) (h2:2 <= vs.length) (h64:vs.length < 64)
 (hk:∀ h',(∀ b o,b≠a -> s.heap.get? b=some o -> h'.get? b=some o) -> ∀ Q:SortKind -> Shared -> Prop,Q κ { s with heap:=h' } -> ax (aA prog w) A (keyKind' vs.toArray) Q (fun _ _=>False) { s with heap:=h' })
 (hc:∀ h',(∀ b o,b≠a -> s.heap.get? b=some o -> h'.get? b=some o) -> ∀ i j,i < vs.length -> j < vs.length -> ∀ C:Bool -> Shared -> Prop,C (lt i j) { s with heap:=h' } -> kas_ask prog w A κ vs i j C { s with heap:=h' })
 (hg:C7 lt vs.length (kas_sort vs.length)=some p)
 (hP:∀ h' c,(∀ b o,b≠a -> s.heap.get? b=some o -> h'.get? b=some o) -> h'.get? a=some (cH "list" (ch (p.toList.map fun i=>vs.getD i Value.none)) c) -> P (.done (.ret .none)) { s with heap:=h' }) :
 ax (aA prog w) A (aP.«list.sort» ⟨[.ref a],[]⟩) P E s:=by
 obtain ⟨e1,ho1⟩:∃ e1,(s.heap.update a (bw fun _=>(#[]:Array Value))).get? a=some (cH "list" #[] e1):=⟨_,get?_update_seq ho fun _=>#[]⟩
 have k3:∀ b o,b≠a -> s.heap.get? b=some o -> (((s.heap.update a (bw fun _=>(#[]:Array Value))).push (cH "tuple" vs.toArray 0)).push (cH "list" #[] 0)).get? b=some o:=fun b o hb e =>
  ak _ (ak _ ((bz _ _ (cP hb)).trans e))
 have a3:(((s.heap.update a (bw fun _=>(#[]:Array Value))).push (cH "tuple" vs.toArray 0)).push (cH "list" #[] 0)).get? a=some (cH "list" #[] e1):=ak _ (ak _ ho1)
 rw [list_sort_plain]
 refine ab (listItems_at ho rfl (ab (listUpdate_at ho rfl ?_ (by rw [aI,sizeLine_eq]; exact aN5 h2 h64) (bm _))))
 refine ab (seqEpoch_at ho1 rfl (ab (wpAny_newTuple ?_ (by show vs.length <= _; rw [sizeLine_eq]; exact aN5 h2 h64))))
 refine ab (wpAny_newList ?_ (bm _))
 refine aM ?_
 show ax (aA prog w) A _ P E { s with heap:=((s.heap.update a (bw fun _=>(#[]:Array Value))).push (cH "tuple" vs.toArray 0)).push (cH "list" #[] 0) }
 dsimp only
 have hn2:¬ vs.toArray.size < 2:=by rw [aI]; exact bA6 h2 h64
 rw [if_neg hn2,if_neg hn2]
 generalize ((s.heap.update a (bw fun _=>(#[]:Array Value))).push (cH "tuple" vs.toArray 0)).push (cH "list" #[] 0)=h3 at k3 a3 ⊢
 refine ab (ar (hk h3 k3 (fun κ' s'=>κ'=κ /\ s'={ s with heap:=h3 }) ⟨rfl,rfl⟩) (fun κ' s0 hk'=>?_) fun _ _ x=>x.elim)
 (refine d0 hk' fun qz1 qz2=>?_; try clear hk'; subst qz1; subst qz2)
 have ask:(kas_sort vs.length).kasWp (kas_ask prog w A κ' vs) (fun q s'=>q=p /\ s'={ s with heap:=h3 }) { s with heap:=h3 }:=ba5 (fun i j hi hj C hC=>hc h3 k3 i j hi hj C hC) _ p hg ⟨rfl,rfl⟩
 refine ab (ar (kat_run (Q:=fun st' s'=>(p.size=vs.length /\ arrOf st'=p.map (kas_item (vs.toArray.zip vs.toArray)) /\ failedOf st'=none) /\ s'={ s with heap:=h3 }) rfl h2 h64 (fun p' st' s' a1 a2 a3 a4=>⟨(e9 (by rw [<- a4.1]; exact a1) (by rw [a2,a4.1]) a3),a4.2⟩) ask) ?_ fun _ _ e=>e)
 (intro qz3; obtain ⟨⟨⟩,st'⟩:=qz3; intro s'; refine m8 fun qz4 qz5=>?_; obtain ⟨hps,har,hf⟩:=qz4; subst qz5)
 dsimp only
 have hout:=kat_snds rfl har
 rw [hout]
 obtain ⟨c2,hc2⟩:∃ c2,(h3.update a (bw fun _=>ch (p.toList.map fun i=>vs.getD i Value.none))).get? a=some (cH "list" (ch (p.toList.map fun i=>vs.getD i Value.none)) c2):=⟨_,get?_update_seq a3 fun _=>ch (p.toList.map fun i=>vs.getD i Value.none)⟩
 refine ab (seqEpoch_at a3 rfl (ab (listUpdate_at a3 rfl ?_ (bm _) ?_)))
 · rw [hf]
   simp only [bne_self_eq_false,bq,if_false]
   exact ac (hP _ c2 (fun b o hb e=>(bz _ _ (cP hb)).trans (k3 b o hb e)) hc2)
 · rw [aI,aD,Array.length_toList,hps,sizeLine_eq]; exact bA7 h2 h64 hps
end
end
section
set_option tactic.hygienic false
noncomputable abbrev T3:=Int×Int×Int
noncomputable def t3 (x:T3):V:=.tup [.int x.1,.int x.2.1,.int x.2.2]
noncomputable def lt3 (x y:T3):Bool:=if x.1=y.1 then (if x.2.1=y.2.1 then decide (x.2.2 < y.2.2) else decide (x.2.1 < y.2.1)) else decide (x.1 < y.1)
noncomputable def t9 (ts:List T3) (i:Nat):T3:=ts.getD i (0,0,0)
end
section
section
variable {prog:Program} {w:World} {KF:Frag} {d:Nat} {E:i7} {H:List O}
structure cP3 (w:World) (KF:Frag) (i:Nat) (F:d6) (ρ₀:List b7) (s₀:Shared) (en:b7) (S:Nat) (s:Shared) (ρ:List b7) (H:List O):Prop where
 st:f0 ρ₀ s₀ ρ s
 T:d7 w KF F ρ H s.heap (gt s)
 he:ρ[i]?=some en
 gen:∃ g,H0 s.heap en.a g 0
 fS:F.f S=none
 oS:S ∉ q0 ρ
 ls:∃ acc c,s.heap.get? S=some (R2 acc c)
 nS:S≠en.a
end
end
section
set_option tactic.hygienic false
section
variable {prog:Program} {w:World} {KF:Frag} {fi:FI} {d:Nat} {E:EP} {m:b8} {H:List O}
theorem r6 {value:Expr} {attr:Str} {pos:Pos} {Q:V -> List O -> Prop} (h:WE prog w KF fi d E m H value fun o H1=>W1 prog w KF d (Em E m) VR H1 (fun u=>fw u attr true) o Q)
 (he:∀ env,eval (.Attribute value attr pos) env=(do
  let o <- eval value env
  fq pos.atName
  let r <- dH [o] (fw o attr true)
  letTemporaryGo value o r
  pure r):=by intro _; with_unfolding_all rfl):WE prog w KF fi d E m H (.Attribute value attr pos) Q :=
 fun A env F ρ s hA S=>by
  rw [he env]
  refine ab (ar (h A env F ρ s hA S) (fun u s₁ hx=>?_) fun _ _ x=>x)
  obtain ⟨ρ1,H1,o,st1,S1,ro,h₁⟩:=hx
  refine ab (cO (ab (aM (m6 st1 (lift S1 fun F' q T=>h₁ A F' ρ1 s₁ u (q▸hA) T ro) fun v s2 hx=>?_))))
  obtain ⟨ρ2,H2,v',st2,S2,rv,h2⟩:=hx
  exact ab (hO (ac ⟨ρ2,H2,v',st1.trans st2,S2,rv,h2⟩))
end
section
variable {prog:Program} {w:World} {KF:Frag} {d:Nat} {E:i7} {H:List O} {Q:V -> List O -> Prop}
theorem E7 {C N i:Nat} {fs:List (Str×V)} {name:Str} {v:V} {ex:Bool} (K:R3 KF C N) (hna:nsIn KF N name=some none) (hB:aX (.type "object") name=pure none) (hl:H[i]?=some (.inst C fs)) (hv:fs.lookup name=some v) (hb:∀ n,v≠.bi n) (h:Q v H) :
 W1 prog w KF d E VR H (fun u=>fw u name ex) (.ref i) Q:=fun A F ρ s u hA S ru=>by
 (refine b9 (ru.ref_eq) fun e he qz1=>?_; subst qz1)
 (refine au1 (aB5 S hl he) fun dx o mA hfp h1 h2 h3 I hns hfs=>?_)
 obtain ⟨hp,g,dr,tk,os⟩:=s
 have B:Bs w KF hp:=S.b
 (refine c0 (K.nsp B) fun mN hn=>?_)
 (refine ai7 (K.cl) fun nm q bs sn sub col dd k0 k1 k2 k3 k5 hC=>?_)
 have hx:=hfs name
 rw [hv] at hx
 (refine b9 hx fun x hx1 hx2=>?_; try clear hx)
 have hho:PySem.handedOut x=pure x:=by
  cases x with
  | builtin id =>
   exfalso
   cases v with
   | bi n=>exact hb n rfl
   | none=>unfold VR at hx2; cases hx2
   | bool b=>unfold VR at hx2; cases hx2
   | int b=>unfold VR at hx2; (refine c0 hx2 fun _ q=>?_; try clear hx2); cases q
   | flt b=>unfold VR at hx2; (refine b9 hx2 fun _ _ q=>?_; try clear hx2); cases q
   | str b=>unfold VR at hx2; (refine c0 hx2 fun _ q=>?_; try clear hx2); cases q
   | stk b t=>unfold VR at hx2; (refine d0 hx2 fun _ q=>?_; try clear hx2); cases q
   | ty b=>unfold VR at hx2; cases hx2
   | st b=>unfold VR at hx2; cases hx2
   | ref b=>unfold VR at hx2; (refine b9 hx2 fun _ _ q=>?_; try clear hx2); cases q
   | rng a b=>unfold VR at hx2; (refine b9 hx2 fun _ q _=>?_; try clear hx2); cases q
   | tup b=>unfold VR at hx2; (refine B5 hx2 fun _ _ q _=>?_; try clear hx2); cases q
   | sub c b=>unfold VR at hx2; (refine B5 hx2 fun _ _ q _=>?_; try clear hx2); cases q
  | _=>rfl
 exact load_attr (B.k _ _ hC) hn (ns_none_of B.k hn K.ga) (ns_none_of B.k hn hna) hB I hx1 hho ⟨ρ,H,v,.same (.refl _) rfl (ao _),S.tk (aY _),hx2,h⟩
end
section
variable {K:Type} [DecidableEq K]
noncomputable def U0 {prog:Program} {w:World} (knd:KeyKind prog w K) (kvs:List (K×V)):List b7 -> Heap -> Nat -> Prop:=fun ρ h a=>(a==sysModules)=false /\ ∃ us:List (K×Value),h.DictOf knd a us /\ us.map (·.1)=kvs.map (·.1) /\ c8 ρ h (kvs.map (·.2)) (us.map (·.2))
noncomputable abbrev dO {prog:Program} {w:World} (knd:KeyKind prog w K) (kvs:List (K×V)):O:=.prd (U0 knd kvs)
theorem U0.stab {prog:Program} {w:World} (knd:KeyKind prog w K) (kvs:List (K×V)):T7 (U0 knd kvs) where
 mono:=fun p t hk=>aL3 fun h0 us h1 h2 h3=>(Y9 h0 us (h1.at hk) h2 (h3.mono p t))
 ents:=fun q=>aL3 fun h0 us h1 h2 h3=>(Y9 h0 us h1 h2 (h3.ents q))
structure R5 {prog:Program} {w:World} (knd:KeyKind prog w K) (kv:K -> V):Prop where
 is:∀ {ρ:List b7} {h:Heap} {k:K} {u:Value},VR ρ h (kv k) u -> knd.is k u=true
theorem P2 {prog:Program} {w:World}:R5 (strKind prog w) V.str:=⟨fun r=>by (refine c0 (r.str_eq) fun t qz2=>?_; subst qz2); exact strKind_is prog w _ _⟩
theorem ba6 {prog:Program} {w:World}:R5 (fx prog w) V.int:=⟨fun r=>by (refine c0 (r.int_eq) fun t qz3=>?_; subst qz3); exact intKind_is prog w _ _⟩
noncomputable def x8 (kvs:List (K×V)) (k:K):Option V:=(kvs.find? fun kv=>kv.1=k).map (·.2)
noncomputable def E8 (kvs:List (K×V)) (k:K) (v:V):List (K×V):=if kvs.any (fun kv=>kv.1=k) then kvs.map (fun kv=>if kv.1=k then (kv.1,v) else kv) else kvs++[(k,v)]
theorem X3 {ρ:List b7} {h:Heap} {k:K}:∀ {kvs:List (K×V)} {us:List (K×Value)},us.map (·.1)=kvs.map (·.1) -> c8 ρ h (kvs.map (·.2)) (us.map (·.2)) ->
 (x8 kvs k=none /\ valueAt us k=none) \/ ∃ v u,x8 kvs k=some v /\ valueAt us k=some u /\ VR ρ h v u
 | [],[],_,_=>.inl ⟨rfl,rfl⟩
 | [],_::_,q,_=>by cases q
 | _::_,[],q,_=>by cases q
 | (k₁,v₁)::kvs,(k₂,u2)::us,q,r=>by
  simp only [aR,List.cons.injEq] at q
  obtain ⟨rfl,q⟩:=q
  obtain ⟨v,r',e,r1,r2⟩:=c8.cons_eq (show c8 ρ h (v₁::kvs.map (·.2)) (u2::us.map (·.2)) from r)
  cases e
  by_cases c:k₂=k
  · subst c
    refine .inr ⟨v₁,u2,?_,?_,r1⟩
    · unfold x8; rw [eG (by simp)]; rfl
    · unfold valueAt; rw [eG (by simp)]; rfl
  · have:=X3 (k:=k) q r2
    unfold x8 valueAt at this ⊢
    rw [eK (by simpa using c),eK (by simpa using c)]
    exact this
theorem ba7 {ρ:List b7} {h:Heap} {k:K} {v:V} {u:Value} (r:VR ρ h v u) {kvs:List (K×V)} {us:List (K×Value)} (q:us.map (·.1)=kvs.map (·.1)) (s:c8 ρ h (kvs.map (·.2)) (us.map (·.2))) :
 (stored us k u).map (·.1)=(E8 kvs k v).map (·.1) /\ c8 ρ h ((E8 kvs k v).map (·.2)) ((stored us k u).map (·.2)):=by
 have hany:(us.any fun kv=>decide (kv.1=k))=kvs.any fun kv=>decide (kv.1=k):=by
  have:∀ {α:Type} (l:List (K×α)),(l.any fun kv=>decide (kv.1=k))=(l.map (·.1)).any fun x=>decide (x=k):=fun l=>by rw [List.any_map]; rfl
  rw [this,this,q]
 unfold stored E8
 rw [hany]
 split
 · have key:∀ {kvs:List (K×V)} {us:List (K×Value)},us.map (·.1)=kvs.map (·.1) -> c8 ρ h (kvs.map (·.2)) (us.map (·.2)) ->
    (us.map fun kv=>if kv.1=k then (kv.1,u) else kv).map (·.1)=(kvs.map fun kv=>if kv.1=k then (kv.1,v) else kv).map (·.1) /\ c8 ρ h ((kvs.map fun kv=>if kv.1=k then (kv.1,v) else kv).map (·.2)) ((us.map fun kv=>if kv.1=k then (kv.1,u) else kv).map (·.2)):=by
    intro kvs
    induction kvs with
    | nil=>intro us q s; cases us with | nil=>exact ⟨rfl,.nil⟩ | cons _ _=>cases q
    | cons x kvs ih =>
     intro us q s
     cases us with
     | nil=>cases q
     | cons y us =>
      obtain ⟨k₁,v₁⟩:=x
      obtain ⟨k₂,u2⟩:=y
      simp only [aR,List.cons.injEq] at q
      obtain ⟨rfl,q⟩:=q
      obtain ⟨v',r',e,r1,r2⟩:=c8.cons_eq (show c8 ρ h (v₁::kvs.map (·.2)) (u2::us.map (·.2)) from s)
      cases e
      obtain ⟨a,b⟩:=ih q r2
      simp only [aR]
      refine ⟨?_,?_⟩
      · rw [a]; by_cases c:k₂=k<;>simp [c]
      · by_cases c:k₂=k
        · rw [if_pos c,if_pos c]; exact .cons r b
        · rw [if_neg c,if_neg c]; exact .cons r1 b
   exact key q s
 · rw [aQ,aQ,aQ,aQ,q]
   exact ⟨rfl,s.append (.cons r .nil)⟩
theorem ba8 {ρ:List b7} {h:Heap} {kvs:List (K×V)} {us:List (K×Value)} (q:us.map (·.1)=kvs.map (·.1)):us.length=kvs.length:=by
 have:=congrArg List.length q
 rwa [aD,aD] at this
section
variable {prog:Program} {w:World} {KF:Frag} {d:Nat} {E:i7} {H:List O} {knd:KeyKind prog w K} {kv:K -> V} {kvs:List (K×V)} {i:Nat} {k:K} {Q:V -> List O -> Prop}
theorem d7.dict {F:d6} {ρ:List b7} {h:Heap} {gs:GT} {e:b7} (S:d7 w KF F ρ H h gs) (hl:H[i]?=some (dO knd kvs)) (he:ρ[i]?=some e):e.fp=[e.a] /\ U0 knd kvs ρ h e.a:=let ⟨a,_,b,_⟩:=S.ob i e _ he hl; ⟨a,b⟩
theorem d7.dictTurn {F:d6} {ρ:List b7} {s:Shared} {e:b7} {h':Heap} {tk:Nat} {kvs':List (K×V)} (S:d7 w KF F ρ H s.heap (gt s)) (hl:H[i]?=some (dO knd kvs)) (he:ρ[i]?=some e) (hs:gP e.a s.heap h') (hd:U0 knd kvs' ρ h' e.a) :
 f0 ρ s ρ { s with heap:=h',toks:=tk } /\ d7 w KF F ρ (H.set i (dO knd kvs')) h' (gt s):=by
 (refine n9 (S.ob i e _ he hl) fun a b c st=>?_)
 (refine Y8 c fun _ us qz4 _=>?_; try clear c; obtain ⟨o,es,ep,ho,hex,hdd,_⟩:=qz4)
 (refine Y8 (id hd) fun _ us' qz5 _=>?_; obtain ⟨o',es',ep',ho',_⟩:=qz5)
 have t:TK s.heap h':=.of_ext (a:=e.a) (fun b o hb q=>(hs.2 b hb).trans q) fun o2 h2=>by
  rw [ho] at h2; cases h2
  rintro (⟨⟨xs,n,q⟩,_⟩ | ⟨q,_⟩)
  · rw [hdd] at q; cases q
  · rw [hex.1] at q; exact absurd q (by decide)
 refine ⟨.same t rfl (ao _),S.upd he (fun b q hb hq=>(hs.2 b (fun z=>hb (by rw [a,z]; exact .head _))).trans hq) (fun b hb=>?_) t (m5 a b hd (U0.stab _ _)) trivial fun o h q=>by rw [hl] at h; cases h; cases q⟩
 rw [a] at hb; rw [au.mp hb]; exact ⟨o',ho'⟩
theorem ag1 {fi:FI} {E:EP} {m:b8} {pos:Pos} (h:Q (.ref H.length) (H++[dO knd []])):WE prog w KF fi d E m H (.Dict [] [] pos) Q:=fun A env F ρ s hA S=>by
 rw [eval_Dict_empty]
 refine ab (cO ?_)
 unfold newDict
 refine bC ?_ (by size_fits)
 have kk:o8 s.heap (s.heap.push { cls:=.type "dict",data:=.dict #[] }):=fun _ _ e=>ak _ e
 have hD:=Heap.DictOf.new (knd:=knd) s.heap
 have hlo:(s.heap.objs.size==sysModules)=false:=by
  (refine c0 (S.b.g) fun mg qz6=>?_; refine F3 qz6 fun o es ep ho _=>?_; clear qz6)
  have:=bG ho
  refine beq_eq_false_iff_ne.mpr fun q=>?_
  rw [q] at this
  exact absurd this (by decide)
 (refine F3 (id hD) fun o _ _ ho _=>?_)
 have T:=S.toH.alloc (o:=dO knd []) kk (z5 _) ⟨o,ho⟩ (m5 rfl rfl (Y9 hlo ([]) hD rfl .nil) (U0.stab _ _))
 refine ⟨_,_,.ref H.length,.add (s:=s) (.of_keep kk) rfl (ao _),S.ofH (aF _ _) (.of_keep kk) T,?_,h⟩
 unfold VR
 exact (c5 _ (by rw [<- S.hs.len,af]) rfl)
theorem an3 {name:Str} {id:String} (slot:Slot "dict" name id) (hty:eP (.builtin id)=pure (.type "method_descriptor")) (hl:H[i]?=some (dO knd kvs)):C6 prog w KF H (.ref i) name (.bi id):=fun A F ρ s u pl K' E' S r h=>by
 (refine b9 (r.ref_eq) fun e he qz7=>?_; subst qz7)
 (refine d0 (S.dict hl he) fun _ qz8=>?_; refine Y8 qz8 fun _ us hd _=>?_; clear qz8)
 exact getMethod_builtin hd.typeIs PySem.F.plainAttrs_dict slot hty hd.mapOf.noDict (h _ W9)
theorem aC8 {x:V} (hk:R5 knd kv) (hl:H[i]?=some (dO knd kvs)) (h:Q ((x8 kvs k).getD x) H):i5 prog w KF d E H (.bi "dict.get") [.ref i,kv k,x] Q:=fun A F ρ s u us hA S ru r=>by
 rw [ru.bi_eq]
 (refine e8 (r.cons_eq) fun v q qz9 rv rq=>?_; subst qz9)
 (refine e8 (rq.cons_eq) fun v' q' qz10 rv' rq'=>?_; subst qz10)
 (refine e8 (rq'.cons_eq) fun v'' q'' qz11 rv'' rq''=>?_; subst qz11)
 rw [rq''.nil_eq]
 (refine b9 (rv.ref_eq) fun e he qz12=>?_; subst qz12)
 obtain ⟨_,lo,us,hd,hq,hr⟩:=S.dict hl he
 refine call_meetsIn eV hd.typeIs PySem.F.entry_dict_get (PySem.F.args_dict_get_3 _ _ _) (meets_dict_get_default knd e.a (hk.is rv') lo v'') (c5 _ hd.mapOf ?_)
 rcases X3 (k:=k) hq hr with ⟨a,b⟩ | ⟨y,z,a,b,c⟩
 · rw [b]; rw [a] at h
   exact ⟨ρ,H,x,.same (.refl _) rfl (ao _),S.tk (aY _),rv'',h⟩
 · rw [b]; rw [a] at h
   exact ⟨ρ,H,y,.same (.refl _) rfl (ao _),S.tk (aY _),c,h⟩
theorem ba9 {v:V} (hk:R5 knd kv) (hl:H[i]?=some (dO knd kvs)) (hv:x8 kvs k=some v) (h:Q v H):W2 prog w KF d E VR H J0 (.ref i) (kv k) Q:=fun A F ρ s u u' hA S ru ru'=>by
 (refine b9 (ru.ref_eq) fun e he qz13=>?_; subst qz13)
 obtain ⟨_,lo,us,hd,hq,hr⟩:=S.dict hl he
 rcases X3 (k:=k) hq hr with ⟨a,b⟩ | ⟨y,z,a,b,c⟩
 · rw [a] at hv; cases hv
 · rw [a] at hv; cases hv
   exact aA1 hd.typeIs slot_dict_getitem.lookup (wpAny_getItem_of (hk.is ru') hd.mapOf b ⟨ρ,H,v,.same (.refl _) rfl (ao _),S.tk (aY _),c,h⟩)
theorem aC9 {v:V} {Q:Unit -> List O -> Prop} (hk:R5 knd kv) (hl:H[i]?=some (dO knd kvs)) (hz:kvs.length <= aB) (h:Q () (H.set i (dO knd (E8 kvs k v)))):W3 prog w KF d E Z5 H setItem (.ref i) (kv k) v Q:=fun A F ρ s u u' u'' hA S ru ru' ru''=>by
 (refine b9 (ru.ref_eq) fun e he qz14=>?_; subst qz14)
 obtain ⟨_,lo,us,hd,hq,hr⟩:=S.dict hl he
 refine wpAny_setItem_pairs (hsz:=by rw [ba8 (ρ:=ρ) (h:=s.heap) hq]; exact hz) (hk.is ru') hd fun h' hd' hs=>?_
 (refine F3 (id hd') fun o' es' ep' ho' _=>?_)
 (refine ad7 (id hd) fun o es ep ho hex hdd _=>?_)
 have t:TK s.heap h':=.of_ext (a:=e.a) (fun b o hb q=>(hs.2 b hb).trans q) fun o2 h2=>by
  rw [ho] at h2; cases h2
  rintro (⟨⟨xs,n,q⟩,_⟩ | ⟨q,_⟩)
  · rw [hdd] at q; cases q
  · rw [hex.1] at q; exact absurd q (by decide)
 (refine d0 (ba7 (k:=k) (ru''.mono (az _) t) hq (hr.mono (az _) t)) fun a b=>?_)
 (refine d0 (S.dictTurn (tk:=s.toks+1) hl he hs (Y9 lo _ hd' a b)) fun st T=>?_)
 exact ⟨ρ,_,(),st,T.tk (aY _),trivial,h⟩
theorem ck5 {x:V} (hk:R5 knd kv) (hl:H[i]?=some (dO knd kvs)) (hz:kvs.length <= aB) (h1:∀ v,x8 kvs k=some v -> Q v H) (h2:x8 kvs k=none -> Q x (H.set i (dO knd (E8 kvs k x)))):i5 prog w KF d E H (.bi "dict.setdefault") [.ref i,kv k,x] Q:=fun A F ρ s u us hA S ru r=>by
 rw [ru.bi_eq]
 (refine e8 (r.cons_eq) fun v q qz15 rv rq=>?_; subst qz15)
 (refine e8 (rq.cons_eq) fun v' q' qz16 rv' rq'=>?_; subst qz16)
 (refine e8 (rq'.cons_eq) fun v'' q'' qz17 rv'' rq''=>?_; subst qz17)
 rw [rq''.nil_eq]
 (refine b9 (rv.ref_eq) fun e he qz18=>?_; subst qz18)
 obtain ⟨_,lo,us,hd,hq,hr⟩:=S.dict hl he
 (refine ad7 (id hd) fun o es ep ho hex hdd _=>?_)
 refine call_meetsIn PySem.F.slot_dict_setdefault hd.typeIs PySem.F.entry_dict_setdefault (by rfl) (kt_meets_setdefault knd e.a (hk.is rv') lo v'') (G9 us hd (by rw [ba8 (ρ:=ρ) (h:=s.heap) hq]; exact hz) (fun y hy=>?_) (fun hn h' hd' hs=>?_))
 · rcases X3 (k:=k) hq hr with ⟨a,b⟩ | ⟨y',z,a,b,c⟩
   · rw [b] at hy; cases hy
   · rw [b] at hy; cases hy
     exact ⟨ρ,H,y',.same (.refl _) rfl (ao _),S.tk (aY _),c,h1 _ a⟩
 · rcases X3 (k:=k) hq hr with ⟨a,b⟩ | ⟨y',z,a,b,c⟩
   · have t:TK s.heap h':=.of_ext (a:=e.a) (fun b o hb q=>(hs.2 b hb).trans q) fun o2 h2=>by
      rw [ho] at h2; cases h2
      rintro (⟨⟨xs,n,q⟩,_⟩ | ⟨q,_⟩)
      · rw [hdd] at q; cases q
      · rw [hex.1] at q; exact absurd q (by decide)
     have rx:=rv''.mono (az _) t
     (refine d0 (ba7 (k:=k) rx hq (hr.mono (az _) t)) fun a' b'=>?_)
     (refine d0 (S.dictTurn (tk:=s.toks+1) hl he hs (Y9 lo _ hd' a' b')) fun st T=>?_)
     exact ⟨ρ,_,x,st,T.tk (aY _),rx,h2 a⟩
   · rw [b] at hn; cases hn
end
end
end
section
theorem bb0:entryFor table "dict.__getattribute__"=some aP.«object.__getattribute__» :=
 entryFor_alias (id':="object.__getattribute__") (by kernel_rfl) (by decide +kernel) (by decide +kernel) (by kernel_rfl)
theorem aD0:aX (.type "method_descriptor") "__get__"=pure (some (.builtin "method_descriptor.__get__")):=by rw [aN,aG]; kernel_rfl
theorem aD1:aX (.type "method_descriptor") "__set__"=pure none:=by rw [aN,aG]; kernel_rfl
theorem aD2:aX (.type "method_descriptor") "__delete__"=pure none:=by rw [aN,aG]; kernel_rfl
theorem aD3:entryFor table "method_descriptor.__get__"=some aP.«method_descriptor.__get__»:=entryFor_of_tree (by kernel_rfl)
theorem aa5:Slot "method_descriptor" "__get__" "method_descriptor.__get__":=
 .of (owner:="method_descriptor") (n:="__get__") (by rw [aN,aG]; kernel_rfl) (by decide +kernel) (by decide +kernel) (by decide +kernel)
  (by first | exact .inl (by decide +kernel) | exact .inr (by decide +kernel)) (by rw [dh]; kernel_rfl)
theorem aD4 (a b c:Value):argsOk "method_descriptor.__get__" ⟨[a,b,c],[]⟩:=by unfold argsOk; kernel_rfl
noncomputable abbrev E9 (id:String) (a:Nat):Obj:={ cls:=.type "builtin_function_or_method",data:=.fields #[.builtin id,.ref a] }
section
variable {prog:Program} {w:World} {A:Around} {E:Value -> Shared -> Prop} {s:Shared} {a:Addr} {Q:Fin -> Shared -> Prop} {T id:String} {name:Str}
theorem bb1:eQ (.type "dict") (.type "dict")=pure true:=by rw [dh]; kernel_rfl
theorem ck6 (hT:s.TypeIs (.ref a) "dict")
 (h:s.heap.get? s.heap.objs.size=none -> Q (.done (.ret (.ref s.heap.objs.size))) { s with heap:=s.heap.push (E9 "dict.get" a) }):ax (aA prog w) A (aP.«method_descriptor.__get__» ⟨[.builtin "dict.get",.ref a,.type "dict"],[]⟩) Q E s:=by
 unfold aP.«method_descriptor.__get__»
 repeat (any_goals (first | assumption | wp_step))
 rw [show (".".intercalate ("dict.get".cutAt '.').dropLast)="dict" by decide +kernel]
 refine bX bb1 ?_
 first | with_reducible refine wpAny_ite_false (by decide) ?_ | simp only [Bool.not_true,bq,if_false]
 refine ac (ab ?_)
 unfold newFields
 refine bC ?_ (by size_fits)
 exact ac (h (z5 _))
theorem ck7 {es ep sl} {Q:Value -> Shared -> Prop} (hx:s.heap.get? a=some ⟨.type "dict",none,.dict es ep,sl⟩)
 (h:∀ tk,s.heap.get? s.heap.objs.size=none -> Q (.ref s.heap.objs.size) { s with heap:=s.heap.push (E9 "dict.get" a),toks:=tk }):ax (aA prog w) A (fw (.ref a) "get" true) Q E s:=by
 have hT:∀ tk',({ s with toks:=tk' }:Shared).TypeIs (.ref a) "dict":=fun _=>(c5 _ hx rfl)
 have f3:=da.lookup
 have f4:=da.bind (.ref a)
 have f5:aX (.type "dict") "get"=pure (some (.builtin "dict.get")):=eV.lookup
 have f6:eP (.builtin "dict.get")=pure (.type "method_descriptor"):=gS
 have f7:=aD0
 have f8:=aD1
 have f9:=aD2
 unfold fw getAttrBy
 refine ab (wpAny_mkText (aM (ab (eR (hT _) (ab (bX f3 ?_))))))
 dsimp only
 rw [if_neg (by simp [onTheHeap])]
 unfold getAttrByItsOwn
 repeat (any_goals (first | assumption | exact hT _ | ((with_reducible show ax _ _ (call (Value.builtin "dict.__getattribute__") _ _) _ _ _); refine bP da (hT _) bb0 ?_ (F.args_dict_getattribute_2 _ _)) | wp_step))
 refine cL aa5.plain aD3 (aa5.check _ _ _ _ _ _ _ _ (show ({ s with toks:=s.toks+1 }:Shared).TypeIs (.builtin "dict.get") "method_descriptor" from f6) (aD4 _ _ _) (ck6 (hT _) fun hn=>?_))
 dsimp only
 refine ac (c5 _ rfl ?_)
 exact ac (h _ hn)
end
end
section
set_option tactic.hygienic false
noncomputable def ag2 (id:String) (i:Nat):List b7 -> Heap -> Nat -> Prop:=fun ρ h a=>∃ e,ρ[i]?=some e /\ h.get? a=some (E9 id e.a)
noncomputable abbrev bO (id:String) (i:Nat):O:=.prd (ag2 id i)
theorem ag2.stab (id:String) (i:Nat):T7 (ag2 id i) where
 mono:=fun p t hk=>J6 fun e h1 h2=>(c5 e (z4 p h1) (hk _ h2))
 ents:=fun q=>J6 fun e h1 h2=>b9 (af8 q h1) fun e' h3 h4=>(c5 e' h3 (by rw [h4]; exact h2))
section
variable {prog:Program} {w:World} {KF:Frag} {d:Nat} {E:i7} {H:List O} {Q:V -> List O -> Prop} {K:Type} [DecidableEq K] {knd:KeyKind prog w K} {kv:K -> V} {kvs:List (K×V)} {i j:Nat} {k:K}
theorem ck8 (hl:H[i]?=some (dO knd kvs)) (h:Q (.ref H.length) (H++[bO "dict.get" i])):W1 prog w KF d E VR H (fun u=>fw u "get" true) (.ref i) Q:=fun A F ρ s u hA S ru=>by
 (refine b9 (ru.ref_eq) fun e he qz1=>?_; subst qz1)
 (refine d0 (S.dict hl he) fun _ qz2=>?_; refine Y8 qz2 fun lo us qz3 hq=>?_; clear qz2; obtain ⟨⟨c,dc,dt,sl⟩,es,ep,ho,hex,hdd,hr⟩:=qz3)
 (refine l9 hex fun h1 h2 h3=>?_; try clear hex)
 dsimp only at h1 h2 h3 hdd
 subst h1 h2 hdd
 refine bA (ao _) (ck7 ho fun tk hn ht=>?_)
 have kk:o8 s.heap (s.heap.push (E9 "dict.get" e.a)):=fun _ _ q=>ak _ q
 have T:=S.alloc (o:=bO "dict.get" i) kk hn ⟨_,aK _ rfl⟩ (m5 rfl rfl (c5 e (z4 (aF _ _) he) (aK _ rfl)) (ag2.stab _ _))
 refine ⟨_,_,.ref H.length,.add (s:=s) (.of_keep kk) rfl (ao _),T.tk ht,?_,h⟩
 unfold VR
 exact (c5 _ (by rw [<- S.len,af]) rfl)
theorem bb2:eQ (.type "dict") (.type "module")=pure false:=by rw [dh]; kernel_rfl
theorem ck9 (v x y:Value):(match dY "dict.get" with | some sig=>Bind.checkArgs "dict.get" { sig with full:=toString (Bind.lastOf "dict")++toString "."++toString (Bind.lastOf "dict.get") } ⟨[v,x,y],[]⟩ | none=>pure ())=(pure ():Sem Unit):=by kernel_rfl
theorem cl0:gv "dict.get"=some .method:=by kernel_rfl
theorem cl1:Manifest.varargsMethods.contains "dict.get"=false:=by decide +kernel
theorem cl2 {A:Around} {E:Value -> Shared -> Prop} {s:Shared} {p a:Addr} {x y:Value} {S:PySem.Spec} {Q:Value -> Shared -> Prop} (hp:s.heap.get? p=some (E9 "dict.get" a)) {es ep sl} (hx:s.heap.get? a=some ⟨.type "dict",none,.dict es ep,sl⟩)
 (g:MeetsIn prog w (aP.«dict.get» ⟨[.ref a,x,y],[]⟩) S) (h:S A (wants Q E) s):ax (aA prog w) A (call (.ref p) [x,y]) Q E s:=by
 have hT:s.TypeIs (.ref a) "dict":=(c5 _ hx rfl)
 refine cU (codeAny_of_tree ?_)
 show ax _ _ (callAny (.ref p) _) _ _ _
 refine nd_load hp ?_
 show ax _ _ (gT "dict.get" ⟨[.ref a,x,y],[]⟩ >>= fun _=>again (.builtin "dict.get" ⟨[.ref a,x,y],[]⟩)) _ _ _
 have f1:=ck9 (.ref a) x y
 have go:ax (aA prog w) (A.under (Code.call (.ref p) ⟨[x,y],[]⟩)) (again (.builtin "dict.get" ⟨[.ref a,x,y],[]⟩)) (fun fin s'=>match fin with | .done f=>wants Q E (.ok f) s' | .again c'=>c'.quiet=true /\ ft (aA prog w) A c' (wants Q E) s') (fun e s'=>wants Q E (.error e) s') s:=by
  refine ac ⟨fY _ (by decide +kernel),dU PySem.F.entry_dict_get ?_⟩
  rw [di (by decide +kernel) _]
  exact g A (wants Q E) s h
 refine ab ?_
 unfold gT
 cases hs:dY "dict.get" with
 | none=>exact ac go
 | some sig =>
  rw [hs] at f1
  rw [cl0]
  dsimp only at f1 ⊢
  rw [if_neg (by decide)]
  refine ab (eu hT bb2 ?_)
  rw [cl1]
  rw [if_neg (by decide)]
  unfold isType
  refine ab ?_
  dsimp only
  refine ab (wpAny_loadPart_at hx (ac ?_))
  dsimp only
  rw [if_neg (by decide)]
  refine ab (eR hT ?_)
  exact bX f1 go
theorem cl3 {x:V} (hk:R5 knd kv) (hj:H[j]?=some (bO "dict.get" i)) (hl:H[i]?=some (dO knd kvs)) (h:Q ((x8 kvs k).getD x) H):i5 prog w KF d E H (.ref j) [kv k,x] Q:=fun A F ρ s u us hA S ru r=>by
 (refine b9 (ru.ref_eq) fun ej hej qz4=>?_; subst qz4)
 (refine e8 (r.cons_eq) fun v' q' qz5 rv' rq'=>?_; subst qz5)
 (refine e8 (rq'.cons_eq) fun v'' q'' qz6 rv'' rq''=>?_; subst qz6)
 rw [rq''.nil_eq]
 (refine n9 (S.ob j ej _ hej hj) fun _ _ qz7 _=>?_; obtain ⟨e,he,hp⟩:=qz7)
 obtain ⟨_,lo,us,hd,hq,hr⟩:=S.dict hl he
 (refine ad7 (id hd) fun qz8 es ep ho hex hdd _=>?_; obtain ⟨c,dc,dt,sl⟩:=qz8)
 (refine l9 hex fun h1 h2 h3=>?_; try clear hex)
 dsimp only at h1 h2 h3 hdd
 subst h1 h2 hdd
 refine cl2 hp ho (meets_dict_get_default knd e.a (hk.is rv') lo v'') (c5 _ hd.mapOf ?_)
 rcases X3 (k:=k) hq hr with ⟨a,b⟩ | ⟨y,z,a,b,c⟩
 · rw [b]; rw [a] at h
   exact ⟨ρ,H,x,.same (.refl _) rfl (ao _),S.tk (aY _),rv'',h⟩
 · rw [b]; rw [a] at h
   exact ⟨ρ,H,y,.same (.refl _) rfl (ao _),S.tk (aY _),c,h⟩
end
end
section
section
variable {prog:Program} {w:World} {KF:Frag} {fi:FI} {d:Nat} {E:EP} {m:b8} {H:List O}
theorem cl4 {M:Model} {p a:Addr} {id:String} (h:Heap) (X:h.get? p=some (E9 id a)):∃ k,(k=Keeper.frame \/ k=Keeper.machine \/ k=Keeper.boundFrame) /\ cX M h (keeperOf (.ref p)) k :=
 (c5 .machine (.inr (.inl rfl)) ((dF (part:=none) X).andThen .now))
theorem aa6 {func:Expr} {args:List Expr} {pos:Pos} {Q:V -> List O -> Prop} (h:WE prog w KF fi d E m H func fun f H1=>∃ j,f=.ref j /\ w7 prog w KF fi d E m H1 args fun vs H2=>(∃ id i,H2[j]?=some (bO id i)) /\ i5 prog w KF d (Em E m) H2 (.ref j) vs Q)
 (hj:∀ j H1,w7 prog w KF fi d E m H1 args (fun vs H2=>(∃ id i,H2[j]?=some (bO id i)) /\ i5 prog w KF d (Em E m) H2 (.ref j) vs Q) -> w7 prog w KF fi d E m H1 args (fun vs H2=>(∃ id i,H2[j]?=some (bO id i)) /\ i5 prog w KF d (Em E m) H2 (.ref j) vs Q):=by intro _ _ x; exact x)
 (hp:C5 args:=by intro _; rfl) (he:∀ env,eval (.Call func args [] pos) env=(do dT pos (<- eval func env) [] (dX pos (dR args env)) (backToKw pos (gr [] env))):=by intro _; rfl):WE prog w KF fi d E m H (.Call func args [] pos) Q :=
 fun A env F ρ s hA S=>by
  refine Call_ (ar (h A env F ρ s hA S) (fun u s₁ hx=>?_) fun _ _ x=>x) (he env)
  (obtain ⟨ρ1,H1,f,st1,S1,ru,qz1⟩:=hx; refine b9 qz1 fun j qz2 h₁=>?_; clear qz1; subst qz2)
  rw [hp env]
  (refine b9 (ru.ref_eq) fun e he' qz3=>?_; subst qz3)
  refine callWith_of (P:=fun h=>∃ id a,h.get? e.a=some (E9 id a)) (by rw [O9]; rfl) (fun h=>ad8 fun id a X=>cl4 h X) (ar (Z9 h₁ hA S1) (fun x s2 hx=>?_) fun _ _ x=>x.step st1)
  (refine d0 hx fun hkw qz4=>?_; try clear hx; obtain ⟨ρ2,H2,vs,st2,S2,rv,qz5⟩:=qz4; refine d0 qz5 fun qz6 h2=>?_; clear qz5; obtain ⟨id,i,hb⟩:=qz6)
  have he2:=z4 st2.1 he'
  (refine n9 (S2.hs.ob j e _ he2 hb) fun _ _ qz7 _=>?_; obtain ⟨e2,_,hp2⟩:=qz7)
  refine ⟨(l8 id e2.a hp2),?_⟩
  rw [hkw]
  exact m6 (st1.trans st2) (lift S2 fun F' q T=>h2 A F' ρ2 s2 (.ref e.a) _ (q▸hA) T (by unfold VR; exact (c5 e he2 rfl)) rv) fun _ _ x=>x.step (st1.trans st2)
end
end
section
set_option tactic.hygienic false
theorem VR.stk_eq {ρ:List b7} {h:Heap} {x:Str} {t:Nat} {v:Value} (r:VR ρ h (.stk x t) v):t≠0 /\ v=.str x t:=by unfold VR at r; exact r
theorem ag3 {ρ:List b7} {h:Heap} {x:Str} {t:Nat} (ht:t≠0):VR ρ h (.stk x t) (.str x t):=by unfold VR; exact ⟨ht,rfl⟩
theorem VR.weak {ρ:List b7} {h:Heap} {x:Str} {t:Nat} {v:Value} (r:VR ρ h (.stk x t) v):VR ρ h (.str x) v:=by rw [r.stk_eq.2]; exact J9
section
variable {prog:Program} {w:World} {KF:Frag} {d:Nat} {E:i7} {H:List O} {Q:V -> List O -> Prop}
noncomputable def aD5:V -> Option Bool
 | .none=>some true
 | .str _=>some false
 | .stk _ _=>some false
 | .ref _=>some false
 | .int _=>some false
 | .tup _=>some false
 | .sub _ _=>some false
 | .st _=>some false
 | _=>none
theorem bb3 {x:V} {u:Value} {ρ:List b7} {h:Heap} {b:Bool} (hb:aD5 x=some b) (ru:VR ρ h x u):plainIs u .none=true /\ (u==.none)=b:=by
 cases x<;>first | cases hb | skip
 all_goals (unfold VR at ru)
 · subst ru; exact ⟨rfl,rfl⟩
 · (refine c0 ru fun _ qz1=>?_; try clear ru; subst qz1); exact ⟨rfl,rfl⟩
 · (refine c0 ru fun _ qz2=>?_; try clear ru; subst qz2); exact ⟨rfl,rfl⟩
 · (refine d0 ru fun _ qz3=>?_; try clear ru; subst qz3); exact ⟨rfl,rfl⟩
 · subst ru; exact ⟨rfl,rfl⟩
 · (refine b9 ru fun _ _ qz4=>?_; try clear ru; subst qz4); exact ⟨rfl,rfl⟩
 · (refine B5 ru fun _ _ qz5 _=>?_; try clear ru; subst qz5); exact ⟨rfl,rfl⟩
 · (refine B5 ru fun _ _ qz6 _=>?_; try clear ru; subst qz6); exact ⟨rfl,rfl⟩
theorem aa7 {x:V} {b:Bool} (hb:aD5 x=some b) (h:Q (.bool b) H):W2 prog w KF d E VR H (dw .Is) x .none Q:=fun A F ρ s u v hA S ru rv=>by
 (refine d0 (bb3 hb ru) fun h1 h2=>?_)
 rw [rv.none_eq]
 exact wpAny_is_plain h1 (by rw [h2]; exact y4 S A6 h)
theorem an4 {x:V} {b:Bool} (hb:aD5 x=some b) (h:Q (.bool (!b)) H):W2 prog w KF d E VR H (dw .IsNot) x .none Q:=fun A F ρ s u v hA S ru rv=>by
 (refine d0 (bb3 hb ru) fun h1 h2=>?_)
 rw [rv.none_eq]
 exact wpAny_isNot_plain h1 (by rw [h2]; exact y4 S A6 h)
theorem bb4 {x y:Str} {t t':Nat} (hN:nsIn KF cStatics iK=some none) (h1:t=t' \/ x=y -> Q (.bool true) H) (h:t≠t' -> Q (.bool false) H):W2 prog w KF d E VR H (dw .Is) (.stk x t) (.stk y t') Q:=fun A F ρ s u v hA S ru rv=>by
 (refine d0 (ru.stk_eq) fun ht qz7=>?_; subst qz7)
 (refine d0 (rv.stk_eq) fun ht' qz8=>?_; subst qz8)
 (refine b9 (S.b.dig) fun mc hm _=>?_)
 have hb:NoneBooked s.heap:=(c5 mc hm (ns_none_of S.b.k hm hN))
 have h0:¬ (t==0||t'==0)=true:=by simp [ht,ht']
 show ax _ _ (do return Value.bool (<- isSame.created (x==y) t t')) _ _ s
 refine ab ?_
 unfold isSame.created
 rw [if_neg h0]
 by_cases e:t=t'
 · rw [if_pos (by simpa using e)]
   exact ac (ac (y4 S A6 (h1 (.inl e))))
 · rw [if_neg (by simpa using e)]
   by_cases q:x=y
   · rw [if_neg (by simp [q])]
     refine ab (fh hb ?_)
     rw [if_neg bL]
     refine ab (fh hb ?_)
     rw [if_neg bL]
     refine ab (dB (ab (wpAny_askSetting (ac ?_))))
     have fin:∀ b:Bool,ax (aA prog w) A (pure (Value.bool b)) (HQ w KF VR F ρ s Q) (HE w KF F ρ s E) s:=fun b=>by
      cases b
      · exact ac (y4 S A6 (h e))
      · exact ac (y4 S A6 (h1 (.inr q)))
     exact fin _
   · rw [if_pos (by simpa using q)]
     exact ac (ac (y4 S A6 (h e)))
theorem d7.tick {c n:Nat} {F:d6} {ρ:List b7} {s:Shared} {h':Heap} (S:d7 w KF F ρ H s.heap (gt s)) (hk:o8 s.heap h') (hc:H[c]?=some (.clk n)):n <= s.toks /\ s.toks≠0 /\ d7 w KF F ρ (H.set c (.clk (s.toks+1))) h' ⟨s.gens,s.toks+1⟩:=by
 (refine b9 (S.at' hc) fun e he _=>?_)
 have T:=(S.keeps hk).tk (n:=s.toks+1) (aY _)
 exact (e9 (S.gf c e _ he hc) (cZ S.tp) (T.upd (o':=.clk (s.toks+1)) he (fun _ _ _ q=>q) (fun b hb=>T.live b (W8 he hb)) (.refl _) (show OR F ρ h' e (.clk n) from T.ob c e _ he hc) (ao _) (fun o h q=>by rw [hc] at h; cases h; cases q)))
end
end
section
theorem aa8 {α β:Type} {lt:Nat -> Nat -> Bool} {n:Nat} {f:α -> KasT β}:∀ (t:KasT α),C7 lt n (t.bind f)=(C7 lt n t).bind fun a=>C7 lt n (f a)
 | .ret a=>rfl
 | .ask i j k=>by
  show (if i < n /\ j < n then C7 lt n ((k (lt i j)).bind f) else none)=Option.bind (if i < n /\ j < n then C7 lt n (k (lt i j)) else none) _
  split
  · exact aa8 (k (lt i j))
  · rfl
section
variable {n:Nat} {r:Nat -> Nat}
noncomputable def ky (r:Nat -> Nat) (p:Array Nat) (i:Nat):Nat:=r (p.getD i 0)
noncomputable def M7 (r:Nat -> Nat) (i j:Nat):Bool:=decide (r i < r j)
structure u8 (n:Nat) (p:Array Nat):Prop where
 sz:p.size=n
 pm:p.Perm (cB n).toArray
theorem u8.get {p:Array Nat} (h:u8 n p) {i:Nat} (hi:i < n):p.getD i 0 < n /\ p[i]?=some (p.getD i 0):=by
 have hs:i < p.size:=by rw [h.sz]; exact hi
 have e:p[i]?=some (p.getD i 0):=by simp [Array.getD,hs]
 refine ⟨?_,e⟩
 have:=h.pm.mem_iff.mp (Array.mem_of_getElem? e)
 simpa using this
theorem u8.inj {p:Array Nat} (h:u8 n p) {i j:Nat} (hi:i < n) (hj:j < n) (e:p.getD i 0=p.getD j 0):i=j:=by
 have nd:p.toList.Nodup:=(Array.perm_iff_toList_perm.mp h.pm).nodup_iff.mpr (by simpa using List.nodup_range)
 have h1:=(h.get hi).2
 have h2:=(h.get hj).2
 rw [<- Array.getElem?_toList] at h1 h2
 have hl:i < p.toList.length:=(ae.mp h1).1
 exact (gN hl nd).mp (h1.trans (by rw [e]; exact h2.symm))
theorem u8.of {p q:Array Nat} (h:u8 n p) (hq:q.Perm p):u8 n q:=⟨(Array.Perm.size_eq hq).trans h.sz,hq.trans h.pm⟩
theorem aD6 {p:Array Nat} (inj:∀ i j,i < n -> j < n -> r i=r j -> i=j) (h:u8 n p) {i j:Nat} (hi:i < n) (hj:j < n) (hij:i≠j):ky r p i≠ky r p j:=fun e =>
 hij (h.inj hi hj (inj _ _ (h.get hi).1 (h.get hj).1 e))
theorem ag4 {α:Type} {p:Array Nat} (h:u8 n p) {i j:Nat} (hi:i < n) (hj:j < n) {k:Bool -> KasT α}:C7 (M7 r) n (.ask (p.getD i 0) (p.getD j 0) k)=C7 (M7 r) n (k (decide (ky r p i < ky r p j))):=by
 show (if p.getD i 0 < n /\ p.getD j 0 < n then _ else none)=_
 rw [if_pos ⟨(h.get hi).1,(h.get hj).1⟩]
 rfl
noncomputable def Up (r:Nat -> Nat) (p:Array Nat) (m:Nat):Prop:=∀ i j,i < j -> j < m -> ky r p i < ky r p j
noncomputable def X4 (r:Nat -> Nat) (p:Array Nat) (m:Nat):Prop:=∀ i j,i < j -> j < m -> ky r p j < ky r p i
theorem Up.step {p:Array Nat} {m:Nat} (h:Up r p m) (hm:1 <= m) (hl:ky r p (m - 1) < ky r p m):Up r p (m+1):=fun i j hij hj=>by
 by_cases e:j=m
 · subst e
   by_cases q:i=j - 1
   · rw [q]; exact hl
   · exact iB (h i (j - 1) (by exact aO0 hij hm q) (by exact aO1 hm)) hl
 · exact h i j hij (by exact ak0 hj e)
theorem X4.step {p:Array Nat} {m:Nat} (h:X4 r p m) (hm:1 <= m) (hl:ky r p m < ky r p (m - 1)):X4 r p (m+1):=fun i j hij hj=>by
 by_cases e:j=m
 · subst e
   by_cases q:i=j - 1
   · rw [q]; exact hl
   · exact iB hl (h i (j - 1) (by exact aO0 hij hm q) (by exact aO1 hm))
 · exact h i j hij (by exact ak0 hj e)
variable (inj:∀ i j,i < n -> j < n -> r i=r j -> i=j)
include inj
theorem aD7 {p:Array Nat} (h:u8 n p):∀ (f m:Nat),1 <= m -> m+f=n -> Up r p m -> ∃ k,C7 (M7 r) n (kas_asc p f m)=some k /\ m <= k /\ k <= n /\ Up r p k /\ (k < n -> ky r p k < ky r p (k - 1))
 | 0,m,_,hf,hu=>(aM2 m rfl (ao _) (by exact aO2 hf) hu (fun q=>by exact bA8 hf q))
 | f+1,m,hm,hf,hu=>by
  unfold kas_asc
  rw [ag4 h (by exact Q4 hf) (by exact nq4 hm hf)]
  by_cases c:ky r p m < ky r p (m - 1)
  · rw [if_pos (by simpa using c)]
    exact (aM2 m rfl (ao _) (by exact aO3 hf) hu (fun _=>c))
  · rw [if_neg (by simpa using c)]
    have ne:=aD6 inj h (i:=m) (j:=m - 1) (by exact Q4 hf) (by exact nq4 hm hf) (by exact aO4 hm hf)
    (refine o0 (aD7 h f (m+1) (by exact av9 hm hf) (by exact nq7 hf) (hu.step hm (by exact aw0 c ne))) fun k h1 h2 h3=>?_)
    exact (i0 k h1 (by exact aO5 hf h2) h3)
theorem bb5 {p:Array Nat} (h:u8 n p):∀ (f m:Nat),1 <= m -> m+f=n -> X4 r p m -> ∃ k,C7 (M7 r) n (kas_desc f p m 0)=some (p,k,0) /\ m <= k /\ k <= n /\ X4 r p k
 | 0,m,_,hf,hu=>(G9 m rfl (ao _) (by exact aO2 hf) hu)
 | f+1,m,hm,hf,hu=>by
  unfold kas_desc
  rw [ag4 h (by exact Q4 hf) (by exact nq4 hm hf)]
  by_cases c:ky r p m < ky r p (m - 1)
  · rw [if_pos (by simpa using c),if_neg (by exact aO6)]
    (refine o0 (bb5 h f (m+1) (by exact av9 hm hf) (by exact nq7 hf) (hu.step hm c)) fun k h1 h2 h3=>?_)
    exact (i0 k h1 (by exact aO5 hf h2) h3)
  · rw [if_neg (by simpa using c),ag4 h (by exact nq4 hm hf) (by exact Q4 hf)]
    have ne:=aD6 inj h (i:=m) (j:=m - 1) (by exact Q4 hf) (by exact nq4 hm hf) (by exact aO4 hm hf)
    rw [if_pos (by simp; exact aw0 c ne)]
    exact (G9 m rfl (ao _) (by exact aO3 hf) hu)
omit inj in
theorem aD8 {p:Array Nat} (h:u8 n p) (m:Nat):u8 n (kas_rev p 0 m):=h.of (mirror_perm _ _ _ _)
omit inj in
theorem bb6 {p:Array Nat} (h:u8 n p) {m:Nat} (hm:m <= n) {i:Nat} (hi:i < m):ky r (kas_rev p 0 m) i=ky r p (m - 1 - i):=by
 have e:=getElem?_mirror_all (xs:=p) (i:=0) (j:=m) (by rw [h.sz]; exact hm) i
 rw [if_pos ⟨bm _,hi⟩,iy] at e
 have h1:=((aD8 h m).get (i:=i) (by exact bA9 hm hi)).2
 have h2:=(h.get (i:=m - 1 - i) (by exact bB0 hm hi)).2
 have h1':(mirror p 0 m ((m - 0) / 2))[i]?=some ((kas_rev p 0 m).getD i 0):=h1
 rw [e,h2] at h1'
 unfold ky
 rw [cE h1']
omit inj in
theorem cl5 {p:Array Nat} (h:u8 n p) {m:Nat} (hm:m <= n) (hd:X4 r p m):Up r (kas_rev p 0 m) m:=fun i j hij hj=>by
 rw [bb6 h hm (by exact aO7 hij hj),bb6 h hm hj]
 exact hd _ _ (by exact bB1 hij hj) (by exact bB2 hij hj)
theorem cl6 {p:Array Nat} (h:u8 n p) (hn:2 <= n):∃ m p',C7 (M7 r) n (kas_count n p)=some (m,p') /\ u8 n p' /\ 1 <= m /\ m <= n /\ Up r p' m:=by
 (refine at9 (aD7 inj h (n - 1) 1 (ao _) (by exact bB3 hn) (fun i j hij hj=>by exact bB4 hij hj)) fun k h1 h2 h3 h4 h5=>?_)
 unfold kas_count
 rw [aa8,h1,dZ]
 by_cases c:k=n
 · rw [if_pos (by simpa using c)]
   exact (av0 k p rfl h h2 h3 h4)
 · rw [if_neg (by simpa using c)]
   by_cases c1:k > 1
   · rw [if_pos c1,ag4 h (by exact bB5 hn) (by exact bB6 h3 c1),if_pos (by simpa using h4 0 (k - 1) (by exact bB7 c1) (by exact bB8 c1))]
     exact (av0 k p rfl h h2 h3 h4)
   · rw [if_neg c1]
     have hk:k=1:=by omega
     subst hk
     have d2:X4 r p 2:=fun i j hij hj=>by
      have:i=0:=by exact bB9 hij hj
      have:j=1:=by exact bC0 hij hj this
      subst_vars
      exact h5 (by exact bC1 hn)
     (refine V4 (bb5 inj h (n - 2) 2 (by exact bC2) (by exact bC3 hn) d2) fun m g1 g2 g3 g4=>?_)
     unfold kas_descPart
     rw [aa8,show n - (1+1)=n - 2 from rfl,g1,dZ,if_neg (show ¬ (0:Nat) > 0 by exact aO6)]
     unfold kas_tail3
     (refine at9 (aD7 inj (aD8 h m) (n - m) m (by exact bC4 g2) (by exact aw1 g3) (cl5 h g3 g4)) fun k' i1 i2 i3 i4 _=>?_)
     rw [aa8,i1,dZ]
     exact (av0 k' _ rfl (aD8 h m) (by exact bC5 g2 i2) i3 i4)
theorem aD9 {p:Array Nat} (h:u8 n p) {k:Nat} (hk:k < n):∀ (f l b:Nat),l <= b -> b <= k -> b - l <= f -> (∀ i,i < l -> ky r p i < ky r p k) -> (∀ i,b <= i -> i < k -> ky r p k < ky r p i) -> Up r p k ->
 ∃ x,C7 (M7 r) n (kas_place p k f l b)=some x /\ x <= k /\ (∀ i,i < x -> ky r p i < ky r p k) /\ ∀ i,x <= i -> i < k -> ky r p k < ky r p i
 | 0,l,b,h1,h2,h3,h4,h5,_=>(G9 l rfl (by exact aw2 h1 h2) h4 (fun i hi=>h5 i (by exact bC6 h1 h3 hi)))
 | f+1,l,b,h1,h2,h3,h4,h5,hu=>by
  unfold kas_place
  by_cases c:l >= b
  · rw [if_pos c]
    exact (G9 l rfl (by exact bC7 h1 h2 c) h4 (fun i hi=>h5 i (by exact bC8 h1 c hi)))
  · rw [if_neg c,ag4 h hk (by exact aO8 hk h2 c)]
    by_cases q:ky r p k < ky r p ((l+b) / 2)
    · rw [if_pos (by simpa using q)]
      exact aD9 h hk f l ((l+b) / 2) (by exact bC9 c) (by exact bD0 h2 c) (by exact bD1 h3 c) h4 (fun i hi hik=>by
       by_cases e:i=(l+b) / 2
       · rw [e]; exact q
       · exact iB q (hu _ _ (by exact bD2 hi e) hik)) hu
    · rw [if_neg (by simpa using q)]
      have ne:=aD6 inj h (i:=k) (j:=(l+b) / 2) hk (by exact aO8 hk h2 c) (by exact bD3 h2 c)
      exact aD9 h hk f ((l+b) / 2+1) b (by exact bD4 c) h2 (by exact bD5 h3 c q ne) (fun i hi=>by
       by_cases e:i=(l+b) / 2
       · rw [e]; exact aw0 q ne
       · exact iB (hu i ((l+b) / 2) (by exact bD6 hi e) (by exact bD7 h2 c)) (by exact bD8 q ne hi e)) h5 hu
omit inj in
theorem bb7 {p:Array Nat} (h:u8 n p) {k x:Nat} (hk:k < n) (hx:x <= k) {i:Nat} (hi:i < n):ky r (bubble p k (k - x)) i=if i=x then ky r p k else if x < i /\ i <= k then ky r p (i - 1) else ky r p i:=by
 have e:=getElem?_bubble (xs:=p) (src:=k) (by rw [h.sz]; exact hk) (k - x) (by exact bD9 hx) i
 rw [show k - (k - x)=x by exact bE0 hx] at e
 have hg:u8 n (bubble p k (k - x)):=h.of (bubble_perm _ _ _)
 rw [(hg.get hi).2] at e
 unfold ky
 split at e
 · rename_i q
   rw [(h.get hk).2] at e
   rw [if_pos q,cE e]
 · rename_i q
   rw [if_neg q]
   split at e
   · rename_i q2
     rw [(h.get (i:=i - 1) (by exact bE1 hi q2)).2] at e
     rw [if_pos q2,cE e]
   · rename_i q2
     rw [(h.get hi).2] at e
     rw [if_neg q2,cE e]
theorem bb8:∀ (f:Nat) (p:Array Nat) (k:Nat),u8 n p -> 1 <= k -> k+f=n -> Up r p k -> ∃ p',C7 (M7 r) n (kas_bin f p k)=some p' /\ u8 n p' /\ Up r p' n
 | 0,p,k,h,_,hf,hu=>(i0 p rfl h (by rw [<- hf]; exact hu))
 | f+1,p,k,h,hk,hf,hu=>by
  unfold kas_bin
  (refine V4 (aD9 inj h (k:=k) (by exact Q4 hf) k 0 k (bm _) (ao _) (by exact bE2 hk hf) (fun i hi=>by exact bE3 hi) (fun i hi hik=>by exact bE4 hf hi hik) hu) fun x h1 h2 h3 h4=>?_)
  rw [aa8,h1,dZ]
  refine bb8 f _ (k+1) (h.of (bubble_perm _ _ _)) (by exact av9 hk hf) (by exact nq7 hf) fun i j hij hj=>?_
  rw [bb7 h (by exact Q4 hf) h2 (by exact bE5 hf hij hj),bb7 h (by exact Q4 hf) h2 (by exact bE6 hf hj)]
  by_cases a:i=x
  · rw [if_pos a,if_neg (by exact bE7 hij a),if_pos (by exact bE8 hf hij hj a)]
    exact h4 _ (by exact bE9 hij a) (by exact bF0 hf hij hj a)
  · rw [if_neg a]
    by_cases b:j=x
    · rw [if_pos b,if_neg (by exact bF1 hij b)]
      exact h3 _ (by exact bF2 hij b)
    · rw [if_neg b]
      by_cases c:x < i /\ i <= k
      · rw [if_pos c,if_pos (by exact bF3 hf hij hj c)]; exact hu _ _ (by exact bF4 hij c) (by exact aO9 hf hij hj)
      · rw [if_neg c]
        by_cases d:x < j /\ j <= k
        · rw [if_pos d]; exact hu _ _ (by exact bF5 hf hij hj a b c d) (by exact aO9 hf hij hj)
        · rw [if_neg d]; exact hu _ _ hij (by exact bF6 hf h2 hij hj b c d)
theorem cl7 (hn:2 <= n):∃ p,C7 (M7 r) n (kas_sort n)=some p /\ p.toList.Perm (cB n) /\ p.toList.Pairwise fun i j=>r i < r j:=by
 have g0:u8 n (cB n).toArray:=⟨by simp,.refl _⟩
 (refine bs1 (cl6 inj g0 hn) fun m p h1 h2 h3 h4 h5=>?_)
 have fin:∀ p',u8 n p' -> Up r p' n -> p'.toList.Perm (cB n) /\ p'.toList.Pairwise fun i j=>r i < r j:=fun p' hp hu=>by
  refine ⟨by simpa using Array.perm_iff_toList_perm.mp hp.pm,iu.mpr fun i j hi hj hij=>?_⟩
  have hj':j < n:=by rw [Array.length_toList,hp.sz] at hj; exact hj
  have:=hu i j hij hj'
  have e1:p'.getD i 0=p'.toList[i]:=by rw [Array.getElem_toList]; unfold Array.getD; rw [dif_pos (show i < p'.size by rw [hp.sz]; exact aO7 hij hj')]; rfl
  have e2:p'.getD j 0=p'.toList[j]:=by rw [Array.getElem_toList]; unfold Array.getD; rw [dif_pos (show j < p'.size by rw [hp.sz]; exact bF7 hj')]; rfl
  unfold ky at this
  rw [e1,e2] at this
  exact this
 unfold kas_sort
 rw [aa8,h1,dZ]
 by_cases c:m < n
 · rw [if_pos c]
   (refine o0 (bb8 inj (n - max m 1) p (max m 1) h2 (by exact bF8) (by exact bF9 h3 c) (by rw [show max m 1=m by exact bG0 h3]; exact h5)) fun p' i1 i2 i3=>?_)
   exact (c5 p' i1 (fin p' i2 i3))
 · rw [if_neg c]
   exact (c5 p rfl (fin p h2 (by rw [show n=m by exact bG1 h4 c]; exact h5)))
end
end
section
noncomputable def aa9 (xs:List V):List V:=xs.zipIdx.map fun p=>.tup [.int (p.2:Nat),p.1]
theorem bb9 {xs:List V}:(aa9 xs).length=xs.length:=by unfold aa9; rw [aD,List.length_zipIdx]
theorem bc0 {xs:List V} {i:Nat} {y:V} (h:(aa9 xs)[i]?=some y):∃ x,xs[i]?=some x /\ y=.tup [.int i,x]:=by
 unfold aa9 at h
 rw [aU,List.getElem?_zipIdx] at h
 cases e:xs[i]? with
 | none=>rw [e] at h; cases h
 | some x=>rw [e] at h; cases h; exact (c5 x rfl (by rw [iy]))
noncomputable abbrev bc1 (x:Str):List V:=x.cps.toList.map fun c=>V.str ⟨#[c]⟩
noncomputable def bc2:Expr -> Prop
 | .Tuple ..=>True
 | _=>False
section
variable {prog:Program} {w:World} {KF:Frag} {d:Nat} {E:i7} {H:List O} {Q:V -> List O -> Prop}
theorem bc3 {h:Heap} {e:Nat} {vs:Array Value} (he:h.get? e=some { cls:=.type "enumerate",dict:=none,data:=.fields vs,slots:=#[] }):∀ o,h.get? e=some o -> ¬ O1 o:=F6 he rfl rfl (by decide)
theorem bc4 {h:Heap} {a i:Nat} {ty:String} {x:Str} {t:Tok} (hty:ty="str_ascii_iterator" \/ ty="str_iterator") (hi:h.IsStrIter a ty x t i):∀ o,h.get? a=some o -> ¬ O1 o:=by
 (refine o0 hi fun o ho hc hd=>?_; try clear hi)
 exact F6 ho hc hd (by rcases hty with rfl | rfl<;>decide)
theorem cl8 {e it:Nat} {ty:String} {x:Str} {t:Tok} (hty:ty="str_ascii_iterator" \/ ty="str_iterator") (hne:e≠it) :
 O7 prog w KF e [e,it] (aa9 (bc1 x)) (fun _=>True) (fun i _ h=>(∃ old,IsEnum h e it (i:Nat) old) /\ h.IsStrIter it ty x t i)
  (fun v i _ h=>(∃ old a,v=.ref a /\ IsEnumOut h e it (i:Nat) old a) /\ h.IsStrIter it ty x t i) bc2 where
 frame:=fun i ρ h ρ' h' st _ _ k=>let ⟨⟨old,a⟩,o,b,r⟩:=st; ⟨⟨old,k e (.head _) _ a⟩,o,k it (.tail _ (.head _)) _ b,r⟩
 live:=fun i ρ h st b hb=>by
  (refine d0 st fun qz1 qz2=>?_; try clear st; refine b9 qz2 fun o c r=>?_; clear qz2; obtain ⟨old,a⟩:=qz1)
  rcases aJ.mp hb with rfl | hb
  · exact ⟨_,a⟩
  · rw [au.mp hb]; exact ⟨_,c⟩
 lot:=fun A i ρ s tg v E' md ht=>by
  (refine d0 md fun qz3 qz4=>?_; try clear md; refine b9 qz4 fun o c r=>?_; clear qz4; obtain ⟨old,a,rfl,he⟩:=qz3)
  cases tg
  case Tuple es k p =>
   refine wpAny_letOwnedTupleGo_enum he fun h' he' hs'=>⟨⟨⟨old,he'⟩,o,hs'.extBut _ _ (cP hne) c,r⟩,⟨rfl,ao _⟩,rfl,.of_ext (fun b o hb q=>hs'.extBut b o hb q) (bc3 he),fun b o hb q=>hs'.extBut b o (fun z=>hb (by rw [z]; exact .head _)) q⟩
  all_goals exact ht.elim
 item:=fun A F ρ H s i y E' hh S _ st hy=>by
  (refine b9 (bc0 hy) fun c hc qz5=>?_; subst qz5)
  rw [aU] at hc
  (refine b9 (bp.mp hc) fun c' hc' qz6=>?_; subst qz6)
  have hi:i < x.cps.size:=by have:=(ae.mp hc').1; simpa using this
  have hx:x.cps[i]?=some c':=by simpa using hc'
  (refine d0 st fun qz7 hit=>?_; try clear st; obtain ⟨old,he⟩:=qz7)
  have go:∀ D:Draws prog w A.in1 it [it] x.cps.size (fun i v=>∃ c u,x.cps[i]?=some c /\ v=.str ⟨#[c]⟩ u) (fun i h=>h.IsStrIter it ty x t i),ax (aA prog w) A (cS (.ref e)) (fun r s'=>∃ v,r=some v /\ VR ρ s'.heap (.tup [.int i,.str ⟨#[c']⟩]) v /\ ((∃ old a,v=.ref a /\ IsEnumOut s'.heap e it ((i+1:Nat):Int) old a) /\ s'.heap.IsStrIter it ty x t (i+1)) /\ w2 [e,it] s s') E' s:=fun D=>by
   refine bA (ao _) (wpAny_pyNext_enum_itemD D he hit hi hne (fun q=>hne (au.mp q)) fun v h' tk hv ho hit' ht hz hk hle=>?_)
   (refine B5 hv fun c2 u h2 qz8=>?_; try clear hv; subst qz8)
   rw [hx] at h2
   cases h2
   refine ⟨_,rfl,?_,⟨(L6 _ _ rfl (by simpa using ho)),hit'⟩,⟨rfl,hle⟩,rfl,fun b o hb im=>hk b o (fun q=>?_) (fun q=>?_) hb,fun b o hb q=>hk b o (fun z=>hb (by rw [z]; exact .head _)) (fun z=>hb (by rw [z]; exact .tail _ (.head _))) q⟩
   · unfold VR
     exact (A3 _ ([_,_]) rfl (Q2 _ ht rfl _ rfl) (.cons (by unfold VR; exact ⟨_,rfl⟩) (.cons (by unfold VR; exact ⟨_,rfl⟩) .nil)))
   · exact bc3 he o (q▸hb) im
   · exact bc4 hty hit o (q▸hb) im
  rcases hty with rfl | rfl
  · exact go (Draws.strAscii (A:=A.in1) hh it x t)
  · exact go (Draws.strWide (A:=A.in1) hh it x t)
 pl:=fun h=>(h (.Slice none none none default)).elim
 done:=fun A F ρ H s E' hh S _ st=>by
  (refine d0 st fun qz9 hit=>?_; try clear st; obtain ⟨old,he⟩:=qz9)
  have hn:(aa9 (bc1 x)).length=x.cps.size:=by rw [bb9]; simp
  rw [hn] at he hit
  have go:∀ D:Draws prog w A.in1 it [it] x.cps.size (fun i v=>∃ c u,x.cps[i]?=some c /\ v=.str ⟨#[c]⟩ u) (fun i h=>h.IsStrIter it ty x t i),ax (aA prog w) A (cS (.ref e)) (fun r s'=>r=none /\ w2 [e,it] s s') E' s:=fun D =>
   wpAny_pyNext_enum_endD D he hit fun h' hk=>⟨rfl,⟨rfl,ao _⟩,rfl,.of_ext (fun b o hb q=>hk b o hb q) (bc4 hty hit),fun b o hb q=>hk b o (fun z=>hb (by rw [z]; exact .tail _ (.head _))) q⟩
  rcases hty with rfl | rfl
  · exact go (Draws.strAscii (A:=A.in1) hh it x t)
  · exact go (Draws.strWide (A:=A.in1) hh it x t)
 self:=fun A i ρ s K E' st hK=>let ⟨⟨old,he⟩,_⟩:=st; wpAny_pyIter_enum he hK
end
section
variable {prog:Program} {w:World} {KF:Frag} {fi:FI} {d:Nat} {E:EP} {m:b8} {H:List O}
theorem cl9 {x s:Str} {t:Nat} {pos:Pos} {Q:V -> List O -> Prop} (hl:fi.sc.names.lookup x=some .local) (hv:p0 m x=some (.stk s t)) (h:Q (.str s) H) (hd:(x==("__debug__":Str))=false:=by decide):WE prog w KF fi d E m H (.Name x pos) Q:=fun A env F ρ s₀ hA S =>
 ar (b6 (Q:=fun v H'=>v=.stk s t /\ H'=H) hl hv ⟨rfl,rfl⟩ hd A env F ρ s₀ hA S) (fun u s'=>SQ.el fun ρ' H' v st T r qz10=>d0 qz10 fun e e'=>by subst e e'; exact ⟨ρ',_,.str s,st,T,r.weak,h⟩) fun _ _ x=>x
theorem cm0 {target b:Expr} {body:List Stmt} {sn:Str} {p1 p2 pos:Pos} {Q:Fl -> b8 -> List O -> Prop} (hs:fi.sc.names.lookup sn=some .globalImplicit) (eS:nsIn KF aT sn=some none) (bS:bU sn=some (.type "enumerate")) (dS:(sn==("__debug__":Str))=false) (nS:sn≠"__name__") (ht:bc2 target)
 (h:WE prog w KF fi d E m H b fun v H1=>∃ x,v=.str x /\ ∃ J:Nat -> b8 -> List O -> Prop,J 0 m H1 /\
  (∀ i c m H,x.cps[i]?=some c -> J i m H -> WA prog w KF fi d E m H target (.tup [.int i,.str ⟨#[c]⟩]) fun m2 H2=>WB prog w KF fi d E m2 H2 body fun f m3 H3=>match f with | .next | .cont=>J (i+1) m3 H3 | .brk=>Q .next m3 H3 | .ret v=>Q (.ret v) m3 H3) /\
  (∀ m H,J x.cps.size m H -> Q .next m H)) (hp:C5 [b]:=by intro _; rfl) (he:∀ env,eval (.Call (.Name sn p1) [b] [] p2) env=(do dT p2 (<- eval (.Name sn p1) env) [] (dX p2 (dR [b] env)) (backToKw p2 (gr [] env))):=by intro _; rfl)
 (hf:∀ env x,gH (.Call (.Name sn p1) [b] [] p2) env x=pure x:=by intro _ _; rfl):WS prog w KF fi d E m H (.For target (.Call (.Name sn p1) [b] [] p2) body [] pos) Q :=
 fun A env F ρ s hA S=>by
  (refine c0 (S.b.g) fun mg hg=>?_)
  (refine b9 (S.b.bi) fun mb hmb hb'=>?_)
  refine wpAny_For (Call_ (dA S.kd ((S.kind sn).trans hs) (fA (S.eg▸hg) (al1 S.b.k hg eS) (S.eb▸hmb) ((hb' sn nS).trans bS) ?_) dS) (he env)) (hf env)
  rw [hp env]
  refine ij O9 (fg (fU (ar (h A env F ρ s hA S) (fun u s₁ hx=>?_) fun _ _ x=>x)))
  (obtain ⟨ρ1,H1,v,st1,S1,r,qz11⟩:=hx; refine br9 qz11 fun x e J hJ0 hT hD=>?_; clear qz11)
  subst e
  (refine c0 (r.str_eq) fun t qz12=>?_; subst qz12)
  refine iH (call_enumerate_str fun h' ie hit hsz hk=>wpAny_pyIter_enum ie ?_)
  have hn:s₁.heap.objs.size+1≠s₁.heap.objs.size:=Nat.succ_ne_self _
  have hty:strIterType x="str_ascii_iterator" \/ strIterType x="str_iterator":=by unfold strIterType; split<;>simp
  have S2:d8 w KF fi env m F ρ1 H1 h' (gt s₁):=S1.keeps hk
  have off:z6 fi env F ρ1 [s₁.heap.objs.size+1,s₁.heap.objs.size]:=S1.fresh fun b hb=>by
   rcases aJ.mp hb with rfl | hb
   · exact Heap.get?_none_of_le (aY _)
   · rw [au.mp hb]; exact z5 _
  refine aT8 hA (st1.trans (.same (s':={ s₁ with heap:=h' }) (.of_keep hk) rfl (ao _))) S2 (cl8 hty hn) ⟨⟨_,ie⟩,hit⟩ off ht J hJ0 (fun _ _ _ _=>trivial) (fun i y m H hy hJ=>?_) fun m H hJ=>hD m H (by rw [bb9,aD,Array.length_toList] at hJ; exact hJ)
  (refine b9 (bc0 hy) fun c hc qz13=>?_; subst qz13)
  rw [aU] at hc
  (refine b9 (bp.mp hc) fun c' hc' qz14=>?_; subst qz14)
  exact hT i c' m H (by simpa using hc') hJ
end
end
section
set_option tactic.hygienic false
theorem cm1:eQ (.type "set") (.type "set")=pure true:=by rw [dh]; kernel_rfl
theorem cm2:eQ (.type "set") (.type "module")=pure false:=by rw [dh]; kernel_rfl
theorem cm3:entryFor table "set.__getattribute__"=some aP.«object.__getattribute__» :=
 entryFor_alias (id':="object.__getattribute__") (by kernel_rfl) (by decide +kernel) (by decide +kernel) (by kernel_rfl)
theorem cm4 (v x:Value):(match dY "dict.__contains__" with | some sig=>Bind.checkArgs "dict.__contains__" { sig with full:=toString (Bind.lastOf "dict")++toString "."++toString (Bind.lastOf "dict.__contains__") } ⟨[v,x],[]⟩ | none=>pure ())=(pure ():Sem Unit):=by kernel_rfl
theorem cm5:gv "dict.__contains__"=some .method:=by kernel_rfl
theorem cm6:Manifest.varargsMethods.contains "dict.__contains__"=false:=by decide +kernel
theorem cm7 (v x:Value):(match dY "set.__contains__" with | some sig=>Bind.checkArgs "set.__contains__" { sig with full:=toString (Bind.lastOf "set")++toString "."++toString (Bind.lastOf "set.__contains__") } ⟨[v,x],[]⟩ | none=>pure ())=(pure ():Sem Unit):=by kernel_rfl
theorem cm8:gv "set.__contains__"=some .method:=by kernel_rfl
theorem cm9:Manifest.varargsMethods.contains "set.__contains__"=false:=by decide +kernel
theorem cn0:eP (.builtin "set.__contains__")=pure (.type "method_descriptor"):=by show builtinType _=_; rw [builtinType_eq_fast]; kernel_rfl
section
variable {prog:Program} {w:World} {A:Around} {E:Value -> Shared -> Prop} {s:Shared} {a:Addr} {Q:Fin -> Shared -> Prop} {T id:String} {name:Str}
theorem cn1 (hT:s.TypeIs (.ref a) "dict")
 (h:s.heap.get? s.heap.objs.size=none -> Q (.done (.ret (.ref s.heap.objs.size))) { s with heap:=s.heap.push (E9 "dict.__contains__" a) }):ax (aA prog w) A (aP.«method_descriptor.__get__» ⟨[.builtin "dict.__contains__",.ref a,.type "dict"],[]⟩) Q E s:=by
 unfold aP.«method_descriptor.__get__»
 repeat (any_goals (first | assumption | wp_step))
 rw [show (".".intercalate ("dict.__contains__".cutAt '.').dropLast)="dict" by decide +kernel]
 refine bX bb1 ?_
 first | with_reducible refine wpAny_ite_false (by decide) ?_ | simp only [Bool.not_true,bq,if_false]
 refine ac (ab ?_)
 unfold newFields
 refine bC ?_ (by size_fits)
 exact ac (h (z5 _))
theorem cn2 {es ep sl} {Q:Value -> Shared -> Prop} (hx:s.heap.get? a=some ⟨.type "dict",none,.dict es ep,sl⟩)
 (h:∀ tk,s.heap.get? s.heap.objs.size=none -> Q (.ref s.heap.objs.size) { s with heap:=s.heap.push (E9 "dict.__contains__" a),toks:=tk }):ax (aA prog w) A (fw (.ref a) "__contains__" true) Q E s:=by
 have hT:∀ tk',({ s with toks:=tk' }:Shared).TypeIs (.ref a) "dict":=fun _=>(c5 _ hx rfl)
 have f3:=da.lookup
 have f4:=da.bind (.ref a)
 have f5:aX (.type "dict") "__contains__"=pure (some (.builtin "dict.__contains__")):=F.slot_dict_contains.lookup
 have f6:eP (.builtin "dict.__contains__")=pure (.type "method_descriptor"):=PySem.F.type_dict_contains
 have f7:=aD0
 have f8:=aD1
 have f9:=aD2
 unfold fw getAttrBy
 refine ab (wpAny_mkText (aM (ab (eR (hT _) (ab (bX f3 ?_))))))
 dsimp only
 rw [if_neg (by simp [onTheHeap])]
 unfold getAttrByItsOwn
 repeat (any_goals (first | assumption | exact hT _ | ((with_reducible show ax _ _ (call (Value.builtin "dict.__getattribute__") _ _) _ _ _); refine bP da (hT _) bb0 ?_ (F.args_dict_getattribute_2 _ _)) | wp_step))
 refine cL aa5.plain aD3 (aa5.check _ _ _ _ _ _ _ _ (show ({ s with toks:=s.toks+1 }:Shared).TypeIs (.builtin "dict.__contains__") "method_descriptor" from f6) (aD4 _ _ _) (cn1 (hT _) fun hn=>?_))
 dsimp only
 refine ac (c5 _ rfl ?_)
 exact ac (h _ hn)
theorem cn3 {A:Around} {E:Value -> Shared -> Prop} {s:Shared} {p a:Addr} {x:Value} {S:PySem.Spec} {Q:Value -> Shared -> Prop} (hp:s.heap.get? p=some (E9 "dict.__contains__" a)) {es ep sl} (hx:s.heap.get? a=some ⟨.type "dict",none,.dict es ep,sl⟩)
 (g:MeetsIn prog w (aP.«dict.__contains__» ⟨[.ref a,x],[]⟩) S) (h:S A (wants Q E) s):ax (aA prog w) A (call (.ref p) [x]) Q E s:=by
 have hT:s.TypeIs (.ref a) "dict":=(c5 _ hx rfl)
 refine cU (codeAny_of_tree ?_)
 show ax _ _ (callAny (.ref p) _) _ _ _
 refine nd_load hp ?_
 show ax _ _ (gT "dict.__contains__" ⟨[.ref a,x],[]⟩ >>= fun _=>again (.builtin "dict.__contains__" ⟨[.ref a,x],[]⟩)) _ _ _
 have f1:=cm4 (.ref a) x
 have go:ax (aA prog w) (A.under (Code.call (.ref p) ⟨[x],[]⟩)) (again (.builtin "dict.__contains__" ⟨[.ref a,x],[]⟩)) (fun fin s'=>match fin with | .done f=>wants Q E (.ok f) s' | .again c'=>c'.quiet=true /\ ft (aA prog w) A c' (wants Q E) s') (fun e s'=>wants Q E (.error e) s') s:=by
  refine ac ⟨fY _ (by decide +kernel),dU PySem.F.entry_dict_contains ?_⟩
  rw [di (by decide +kernel) _]
  exact g A (wants Q E) s h
 refine ab ?_
 unfold gT
 cases hs:dY "dict.__contains__" with
 | none=>exact ac go
 | some sig =>
  rw [hs] at f1
  rw [cm5]
  dsimp only at f1 ⊢
  rw [if_neg (by decide)]
  refine ab (eu hT bb2 ?_)
  rw [cm6]
  rw [if_neg (by decide)]
  unfold isType
  refine ab ?_
  dsimp only
  refine ab (wpAny_loadPart_at hx (ac ?_))
  dsimp only
  rw [if_neg (by decide)]
  refine ab (eR hT ?_)
  exact bX f1 go
theorem cn4 (hT:s.TypeIs (.ref a) "set")
 (h:s.heap.get? s.heap.objs.size=none -> Q (.done (.ret (.ref s.heap.objs.size))) { s with heap:=s.heap.push (E9 "set.__contains__" a) }):ax (aA prog w) A (aP.«method_descriptor.__get__» ⟨[.builtin "set.__contains__",.ref a,.type "set"],[]⟩) Q E s:=by
 unfold aP.«method_descriptor.__get__»
 repeat (any_goals (first | assumption | wp_step))
 rw [show (".".intercalate ("set.__contains__".cutAt '.').dropLast)="set" by decide +kernel]
 refine bX cm1 ?_
 first | with_reducible refine wpAny_ite_false (by decide) ?_ | simp only [Bool.not_true,bq,if_false]
 refine ac (ab ?_)
 unfold newFields
 refine bC ?_ (by size_fits)
 exact ac (h (z5 _))
theorem cn5 {es ep tt sl} {Q:Value -> Shared -> Prop} (hx:s.heap.get? a=some ⟨.type "set",none,.set es ep tt,sl⟩)
 (h:∀ tk,s.heap.get? s.heap.objs.size=none -> Q (.ref s.heap.objs.size) { s with heap:=s.heap.push (E9 "set.__contains__" a),toks:=tk }):ax (aA prog w) A (fw (.ref a) "__contains__" true) Q E s:=by
 have hT:∀ tk',({ s with toks:=tk' }:Shared).TypeIs (.ref a) "set":=fun _=>(c5 _ hx rfl)
 have f3:=F.slot_set_getattribute.lookup
 have f4:=F.slot_set_getattribute.bind (.ref a)
 have f5:aX (.type "set") "__contains__"=pure (some (.builtin "set.__contains__")):=F.slot_set_contains.lookup
 have f6:eP (.builtin "set.__contains__")=pure (.type "method_descriptor"):=cn0
 have f7:=aD0
 have f8:=aD1
 have f9:=aD2
 unfold fw getAttrBy
 refine ab (wpAny_mkText (aM (ab (eR (hT _) (ab (bX f3 ?_))))))
 dsimp only
 rw [if_neg (by simp [onTheHeap])]
 unfold getAttrByItsOwn
 repeat (any_goals (first | assumption | exact hT _ | ((with_reducible show ax _ _ (call (Value.builtin "set.__getattribute__") _ _) _ _ _); refine bP F.slot_set_getattribute (hT _) cm3 ?_ (F.args_set_getattribute_2 _ _)) | wp_step))
 refine cL aa5.plain aD3 (aa5.check _ _ _ _ _ _ _ _ (show ({ s with toks:=s.toks+1 }:Shared).TypeIs (.builtin "set.__contains__") "method_descriptor" from f6) (aD4 _ _ _) (cn4 (hT _) fun hn=>?_))
 dsimp only
 refine ac (c5 _ rfl ?_)
 exact ac (h _ hn)
theorem cn6 {A:Around} {E:Value -> Shared -> Prop} {s:Shared} {p a:Addr} {x:Value} {S:PySem.Spec} {Q:Value -> Shared -> Prop} (hp:s.heap.get? p=some (E9 "set.__contains__" a)) {es ep tt sl} (hx:s.heap.get? a=some ⟨.type "set",none,.set es ep tt,sl⟩)
 (g:MeetsIn prog w (aP.«frozenset.__contains__» ⟨[.ref a,x],[]⟩) S) (h:S A (wants Q E) s):ax (aA prog w) A (call (.ref p) [x]) Q E s:=by
 have hT:s.TypeIs (.ref a) "set":=(c5 _ hx rfl)
 refine cU (codeAny_of_tree ?_)
 show ax _ _ (callAny (.ref p) _) _ _ _
 refine nd_load hp ?_
 show ax _ _ (gT "set.__contains__" ⟨[.ref a,x],[]⟩ >>= fun _=>again (.builtin "set.__contains__" ⟨[.ref a,x],[]⟩)) _ _ _
 have f1:=cm7 (.ref a) x
 have go:ax (aA prog w) (A.under (Code.call (.ref p) ⟨[x],[]⟩)) (again (.builtin "set.__contains__" ⟨[.ref a,x],[]⟩)) (fun fin s'=>match fin with | .done f=>wants Q E (.ok f) s' | .again c'=>c'.quiet=true /\ ft (aA prog w) A c' (wants Q E) s') (fun e s'=>wants Q E (.error e) s') s:=by
  refine ac ⟨fY _ (by decide +kernel),dU entry_set_contains ?_⟩
  rw [di (by decide +kernel) _]
  exact g A (wants Q E) s h
 refine ab ?_
 unfold gT
 cases hs:dY "set.__contains__" with
 | none=>exact ac go
 | some sig =>
  rw [hs] at f1
  rw [cm8]
  dsimp only at f1 ⊢
  rw [if_neg (by decide)]
  refine ab (eu hT cm2 ?_)
  rw [cm9]
  rw [if_neg (by decide)]
  unfold isType
  refine ab ?_
  dsimp only
  refine ab (wpAny_loadPart_at hx (ac ?_))
  dsimp only
  rw [if_neg (by decide)]
  refine ab (eR hT ?_)
  exact bX f1 go
end
end
section
set_option tactic.hygienic false
noncomputable def an5 {prog:Program} {w:World} {K:Type} [DecidableEq K] (knd:KeyKind prog w K) (S:K -> Bool) (n:Nat):List b7 -> Heap -> Nat -> Prop:=fun _ h a=>h.SetOf knd a S n
noncomputable abbrev sO {prog:Program} {w:World} {K:Type} [DecidableEq K] (knd:KeyKind prog w K) (S:K -> Bool) (n:Nat):O:=.prd (an5 knd S n)
theorem an5.stab {prog:Program} {w:World} {K:Type} [DecidableEq K] (knd:KeyKind prog w K) (S:K -> Bool) (n:Nat):T7 (an5 knd S n) where
 mono:=fun _ _ hk=>bu8 fun o es ep t ho r=>(aM3 o es ep t (hk _ ho) r)
 ents:=fun _ x=>x
section
variable {prog:Program} {w:World} {KF:Frag} {d:Nat} {E:i7} {H:List O} {Q:V -> List O -> Prop} {K:Type} [DecidableEq K] {knd:KeyKind prog w K} {kv:K -> V} {kvs:List (K×V)} {i j:Nat} {k:K} {S:K -> Bool} {n:Nat}
theorem d7.set {F:d6} {ρ:List b7} {h:Heap} {gs:GT} {e:b7} (T:d7 w KF F ρ H h gs) (hl:H[i]?=some (sO knd S n)) (he:ρ[i]?=some e):h.SetOf knd e.a S n:=let ⟨_,_,b,_⟩:=T.ob i e _ he hl; b
theorem bc5 (knd:KeyKind prog w K) (h:Q (.ref H.length) (H++[sO knd (fun _=>false) 0])):i5 prog w KF d E H (.ty "set") [] Q:=fun A F ρ s u us hA T ru r=>by
 rw [ru.ty_eq,r.nil_eq]
 refine call_set_0 fun led=>?_
 have kk:o8 s.heap (s.heap.push { cls:=.type "set",dict:=none,data:=.set #[] 0 (.fresh 0 0 led) }):=fun _ _ q=>ak _ q
 have hg:(s.heap.push { cls:=.type "set",dict:=none,data:=.set #[] 0 (.fresh 0 0 led) }).get? s.heap.objs.size=some { cls:=.type "set",dict:=none,data:=.set #[] 0 (.fresh 0 0 led) }:=aK _ rfl
 have U:=T.alloc (o:=sO knd (fun _=>false) 0) kk (z5 _) ⟨_,hg⟩ (m5 rfl rfl (bx1 _ (#[]) 0 _ hg (e9 rfl rfl rfl) rfl (fun e he=>by simp at he) (fun k=>by simp) (by decide) (by rfl) rfl) (an5.stab _ _ _))
 refine ⟨_,_,.ref H.length,.add (s:=s) (s':={ s with heap:=s.heap.push { cls:=.type "set",dict:=none,data:=.set #[] 0 (.fresh 0 0 led) } }) (.of_keep kk) rfl (ao _),U,?_,h⟩
 unfold VR
 exact (c5 _ (by rw [<- T.len,af]) rfl)
theorem bc6 {F:d6} {ρ:List b7} {s:Shared} {e:b7} {id:String} {tk:Nat} (T:d7 w KF F ρ H s.heap (gt s)) (he:ρ[i]?=some e) (ht:s.toks <= tk) (h:Q (.ref H.length) (H++[bO id i])):HQ w KF VR F ρ s Q (.ref s.heap.objs.size) { s with heap:=s.heap.push (E9 id e.a),toks:=tk }:=by
 have kk:o8 s.heap (s.heap.push (E9 id e.a)):=fun _ _ q=>ak _ q
 have U:=T.alloc (o:=bO id i) kk (z5 _) ⟨_,aK _ rfl⟩ (m5 rfl rfl (c5 e (z4 (aF _ _) he) (aK _ rfl)) (ag2.stab _ _))
 refine ⟨_,_,.ref H.length,.add (s:=s) (.of_keep kk) rfl (ao _),U.tk ht,?_,h⟩
 unfold VR
 exact (c5 _ (by rw [<- T.len,af]) rfl)
theorem cn7 (hl:H[i]?=some (dO knd kvs)) (h:Q (.ref H.length) (H++[bO "dict.__contains__" i])):W1 prog w KF d E VR H (fun u=>fw u "__contains__" true) (.ref i) Q:=fun A F ρ s u hA T ru=>by
 (refine b9 (ru.ref_eq) fun e he qz1=>?_; subst qz1)
 (refine d0 (T.dict hl he) fun _ qz2=>?_; refine Y8 qz2 fun lo us qz3 hq=>?_; clear qz2; obtain ⟨⟨c,dc,dt,sl⟩,es,ep,ho,hex,hdd,hr⟩:=qz3)
 (refine l9 hex fun h1 h2 h3=>?_; try clear hex)
 dsimp only at h1 h2 h3 hdd
 subst h1 h2 hdd
 exact bA (ao _) (cn2 ho fun tk hn ht=>bc6 T he ht h)
theorem cn8 (hl:H[i]?=some (sO knd S n)) (h:Q (.ref H.length) (H++[bO "set.__contains__" i])):W1 prog w KF d E VR H (fun u=>fw u "__contains__" true) (.ref i) Q:=fun A F ρ s u hA T ru=>by
 (refine b9 (ru.ref_eq) fun e he qz4=>?_; subst qz4)
 (refine au0 (T.set hl he) fun qz5 es ep tt ho hex hdd hr=>?_; obtain ⟨c,dc,dt,sl⟩:=qz5)
 (refine l9 hex fun h1 h2 h3=>?_; try clear hex)
 dsimp only at h1 h2 h3 hdd
 subst h1 h2 hdd
 exact bA (ao _) (cn5 ho fun tk hn ht=>bc6 T he ht h)
theorem cn9 (hk:R5 knd kv) (hj:H[j]?=some (bO "dict.__contains__" i)) (hl:H[i]?=some (dO knd kvs)) (h:Q (.bool (x8 kvs k).isSome) H):i5 prog w KF d E H (.ref j) [kv k] Q:=fun A F ρ s u us hA T ru r=>by
 (refine b9 (ru.ref_eq) fun ej hej qz6=>?_; subst qz6)
 (refine e8 (r.cons_eq) fun v' q' qz7 rv' rq'=>?_; subst qz7)
 rw [rq'.nil_eq]
 (refine n9 (T.ob j ej _ hej hj) fun _ _ qz8 _=>?_; obtain ⟨e,he,hp⟩:=qz8)
 obtain ⟨_,lo,us,hd,hq,hr⟩:=T.dict hl he
 (refine ad7 (id hd) fun qz9 es ep ho hex hdd _=>?_; obtain ⟨c,dc,dt,sl⟩:=qz9)
 (refine l9 hex fun h1 h2 h3=>?_; try clear hex)
 dsimp only at h1 h2 h3 hdd
 subst h1 h2 hdd
 refine cn3 hp ho (meets_dict_contains knd e.a (hk.is rv') lo) (c5 _ hd.mapOf ?_)
 rcases X3 (k:=k) hq hr with ⟨a,b⟩ | ⟨y,z,a,b,c⟩
 · rw [b]; rw [a] at h
   exact ⟨ρ,H,_,.same (.refl _) rfl (ao _),T.tk (aY _),A6,h⟩
 · rw [b]; rw [a] at h
   exact ⟨ρ,H,_,.same (.refl _) rfl (ao _),T.tk (aY _),A6,h⟩
theorem co0 (hk:R5 knd kv) (hs:∀ (k:K) ρ h u,VR ρ h (kv k) u -> u.scannable=true) (hj:H[j]?=some (bO "set.__contains__" i)) (hl:H[i]?=some (sO knd S n)) (h:Q (.bool (S k)) H):i5 prog w KF d E H (.ref j) [kv k] Q:=fun A F ρ s u us hA T ru r=>by
 (refine b9 (ru.ref_eq) fun ej hej qz10=>?_; subst qz10)
 (refine e8 (r.cons_eq) fun v' q' qz11 rv' rq'=>?_; subst qz11)
 rw [rq'.nil_eq]
 (refine n9 (T.ob j ej _ hej hj) fun _ _ qz12 _=>?_; obtain ⟨e,he,hp⟩:=qz12)
 have hS:=T.set hl he
 (refine au0 (id hS) fun qz13 es ep tt ho hex hdd _=>?_; obtain ⟨c,dc,dt,sl⟩:=qz13)
 (refine l9 hex fun h1 h2 h3=>?_; try clear hex)
 dsimp only at h1 h2 h3 hdd
 subst h1 h2 hdd
 refine cn6 (S:=fun A R s=>ax (aA prog w) A.in1 (aP.«frozenset.__contains__» ⟨[.ref e.a,v'],[]⟩) (fun fin s'=>match fin with | .done f=>R (.ok f) s' | .again c'=>c'.quiet=true /\ ft (aA prog w) A c' R s') (fun e s'=>R (.error e) s') s) hp ho (fun _ _ _ h=>h) ?_
 unfold aP.«frozenset.__contains__» aP.Frozenset.oneOther
 simp only [List.isEmpty_nil,bind_assoc]
 unfold aP.Frozenset.addrOf aP.Frozenset.withSetAsKey setContains
 refine ab (ac ?_)
 try dsimp only
 refine ab (ac ?_)
 try dsimp only
 refine ab (wpAny_tryCatch (aM (ab (knd.pyHash (hk.is rv') (ab (wpAny_setFind_of (s:={ s with toks:=s.toks+1 }) (hk.is rv') (hs _ _ _ _ rv') hS fun r hr=>(ac ?_)))))))
 show ax _ _ (ret (Value.bool r.isSome)) _ _ _
 rw [hr]
 exact ac ⟨ρ,H,_,.same (.refl _) rfl (ao _),T.tk (aY _),A6,h⟩
theorem co1 (k:Str) (ρ:List b7) (h:Heap) (u:Value) (r:VR ρ h (.str k) u):u.scannable=true:=by
 (refine c0 (r.str_eq) fun t qz14=>?_; subst qz14)
 rfl
end
end
section
set_option tactic.hygienic false
noncomputable abbrev C8 (C N:Nat) (nm q:Str) (k0 k1 k2 k3 k5:Option Value):Obj:=⟨.type "type",none,.cls ⟨nm,[.type "tuple"],[.ref C,.type "tuple",.type "object"],N,q,false,[],[],false,none,false⟩,#[k0,k1,k2,k3,some .none,k5]⟩
section
variable {M:Model} {h:Heap} {C N:Nat} {nm q:Str} {k0 k1 k2 k3 k5:Option Value}
theorem ag5 (hC:h.get? C=some (C8 C N nm q k0 k1 k2 k3 k5)):cX M h (mroOf (.ref C)) [.ref C,.type "tuple",.type "object"]:=((dF (part:=none) hC).andThen .now).andThen .now
theorem aE0 (hC:h.get? C=some (C8 C N nm q k0 k1 k2 k3 k5)):cX M h (Bind.madeBy (.ref C)) none:=by
 intro A Q E s k qq
 unfold Bind.madeBy
 refine ab (ag5 hC A _ E s k ?_)
 rw [cG]
 refine ab (ab (ab (ab (wpAny_loadPart (k _ _ hC) (ac ?_)))))
 exact ac (ac (ac qq))
theorem co2:aP.Slots.bestBase [.type "tuple"]=pure (.type "tuple"):=by kernel_rfl
theorem aE1:Bind.madeBy (.type "tuple")=pure (some "tuple.__new__"):=F.called_tuple.made
theorem bc7 (hC:h.get? C=some (C8 C N nm q k0 k1 k2 k3 k5)):cX M h (Bind.staticBase (.ref C)) (.type "tuple"):=by
 intro A Q E s k qq
 unfold Bind.staticBase
 refine ab (ag5 hC A _ E s k ?_)
 rw [cG]
 refine ab (ab (ab (aE0 hC A _ E s k ?_)))
 dsimp only
 rw [if_neg (by decide)]
 refine ab (ab (wpAny_loadPart (k _ _ hC) (ac ?_)))
 dsimp only
 refine ab (bX co2 (ac ?_))
 dsimp only
 rw [cG]
 refine ab (ab (bX aE1 ?_))
 exact ac (ac (ac qq))
theorem co3 (hC:h.get? C=some (C8 C N nm q k0 k1 k2 k3 k5)):cX M h (Bind.madeHere "tuple.__new__" (.ref C)) ():=by
 unfold Bind.madeHere
 exact (bc7 hC).andThen (cX.of_pure (by rw [aE1]; simp only [pure_bind,iq,bne_self_eq_false,bq,if_false]))
theorem U1 {b:Value} (hC:h.get? C=some (C8 C N nm q k0 k1 k2 k3 k5)) (hb:b=.ref C \/ b=.type "tuple" \/ b=.type "object"):cX M h (eQ (.ref C) b) true:=by
 intro A Q E s k qq
 unfold eQ
 refine ab (ag5 hC A _ E s k ?_)
 have e:[.ref C,.type "tuple",.type "object"].contains b=true:=by rcases hb with rfl | rfl | rfl<;>simp
 dsimp only
 rw [if_neg (fun q=>nomatch q),e]
 exact ac qq
end
theorem co4:gv "tuple.__new__"=some .builtinFn:=by decide +kernel
theorem co5:splitId "tuple.__new__"=some ("tuple","__new__"):=by decide +kernel
theorem co6 (xs:Args):(Code.builtin "tuple.__new__" xs).quiet=true:=fY _ (by decide +kernel)
theorem co7 (a x:Value):argsOk "tuple.__new__" ⟨[a,x],[]⟩:=by unfold argsOk; kernel_rfl
section
variable {prog:Program} {w:World} {A:Around} {s:Shared} {R:cR -> Shared -> Prop} {E:Value -> Shared -> Prop} {C N:Nat} {nm q:Str} {k0 k1 k2 k3 k5:Option Value}
theorem co8 {x:Addr} {vs:Array Value} (hC:s.heap.get? C=some (C8 C N nm q k0 k1 k2 k3 k5)) (hi:cX (aA prog w) s.heap (aX (.ref C) "__init__") (some (.builtin "object.__init__"))) (hx:s.heap.IsTuple x vs) (hz:vs.size <= aB)
 (h:∀ h' dx,o8 s.heap h' -> R (.ok (.ret (.ref h'.objs.size))) { s with heap:=h'.push ⟨.ref C,some dx,.seq vs 0,#[]⟩ }):ft (aA prog w) A (.call (.builtin "tuple.__new__") ⟨[.ref C,.ref x],[]⟩) R s:=by
 obtain ⟨hp,g,dr,tk,os⟩:=s
 (refine J5 hx fun o hxo hxc n hxd=>?_; try clear hx)
 dsimp only at hC hi hxo h
 refine codeAny_call_builtin_code (co6 _) ?_
 have b:=bc7 (M:=aA prog w) hC
 have sb:=U1 (M:=aA prog w) hC (.inr (.inl rfl))
 have hr:=co3 (M:=aA prog w) hC
 have ha:=co7 (.ref C) (.ref x)
 unfold checkBuiltinCall
 rw [co4,co5]
 dsimp only
 have mt:cX (aA prog w) hp (Bind.madeBy (.type "tuple")) (some "tuple.__new__"):=cX.of_pure aE1
 rw [if_pos (by decide)]
 repeat (first | with_reducible refine wpAny_ite_false (by decide) ?_ | lk)
 refine dU F.entry_tuple_new ?_
 unfold aP.«tuple.__new__»
 repeat (first | with_reducible refine wpAny_ite_false (by decide) ?_ | with_reducible refine wpAny_ite_true (by decide) ?_ | (with_reducible refine wpAny_collect_seq (hsz:=hz) x (.inr rfl) hxo hxc hxd (fun h' hk=>?_)) | ((with_reducible show ax _ _ (collect _ >>= _) _ _ _); refine ab ?_) | lk)
 rw [Array.toArray_toList,if_neg (bN.mpr hz)]
 unfold newObjAsIs classHasDel
 have hC2:=ak (⟨.ref C,some h'.objs.size,.seq vs 0,#[]⟩:Obj) (ak ({ cls:=.type "dict",data:=.dict #[] }:Obj) (hk _ _ hC))
 refine ab (wpAny_alloc (ab (ab (wpAny_load hC2 (ac ?_)))))
 exact ac (ac (h _ _ fun b o e=>ak _ (hk b o e)))
theorem co9 (hC:s.heap.get? C=some (C8 C N nm q k0 k1 k2 k3 k5)) (hi:cX (aA prog w) s.heap (aX (.ref C) "__init__") (some (.builtin "object.__init__"))) {y:Addr} {o:Obj} (hy:s.heap.get? y=some o) (hyc:o.cls=.ref C) (us:List Value) {Q:Value -> Shared -> Prop}
 (hQ:Q .none s):ax (aA prog w) A (call (.builtin "object.__init__") (.ref y::us)) Q E s:=by
 obtain ⟨hp,g,dr,tk,os⟩:=s
 dsimp only at hC hi hy
 have mt:=aE0 (M:=aA prog w) hC
 have t1:cX (aA prog w) hp (eP (.ref y)) (.ref C):=(dF hy).andThen (by rw [hyc]; exact .now)
 have t2:cX (aA prog w) hp (iF (.ref y) (.type "object")) true:=t1.andThen (U1 hC (.inr (.inr rfl)))
 have ha:argsOk "object.__init__" ⟨.ref y::us,[]⟩:=by unfold argsOk; kernel_rfl
 refine cU (cL oi_plain entry_oi (@check_slot (aA prog w) _ _ _ "object.__init__" "object" "__init__" (.ref y) us [] _ oi_kind oi_split t2 ha ?_))
 unfold aP.«object.__init__»
 cases us with
 | nil=>exact ac hQ
 | cons u us =>
  repeat (first | dsimp only [bne_self_eq_false,bq,if_false,beq_self_eq_true,if_true,List.isEmpty_cons,Bool.not_false,Bool.true_or] | lk)
  exact hQ
end
structure R6 (KF:Frag) (C N f:Nat):Prop where
 cl:∃ nm q k0 k1 k2 k3 k5,KF.lookup C=some (C8 C N nm q k0 k1 k2 k3 k5)
 call:specialIn KF (.ref C) "__call__"=some (some (.builtin "type.__call__"))
 typ:instIn KF (.ref C) (.type "type")=some true
 rd:readsIn KF C (.type "type")=true
 nw:∃ p rest,findCls KF (.ref C) (.type "type") "__new__"=some (.get (.builtin "staticmethod.__get__") (.ref p) .none (.ref C)) /\ recIn KF p "staticmethod"=some (.ref f::rest)
 it:fG KF (.ref C) "__init__"=some (some (.builtin "object.__init__"))
section
variable {prog:Program} {w:World} {KF:Frag} {d:Nat} {E:i7} {H:List O} {Q:V -> List O -> Prop} {C N f:Nat} {xs:List V}
theorem bc8 (K:R6 KF C N f) (hz:xs.length <= aB) (h:Q (.sub C xs) H):i5 prog w KF d E H (.bi "tuple.__new__") [.st C,.tup xs] Q:=fun A F ρ s u us hA S ru r=>by
 rw [ru.bi_eq]
 (refine e8 (r.cons_eq) fun v q qz1 rv rq=>?_; subst qz1)
 (refine e8 (rq.cons_eq) fun v' q' qz2 rv' rq'=>?_; subst qz2)
 rw [rq'.nil_eq]
 unfold VR at rv
 subst rv
 (refine e8 (rv'.tup_eq) fun x vs qz3 hx rs=>?_; subst qz3)
 (refine L5 (K.cl) fun nm qq k0 k1 k2 k3 k5 hC=>?_)
 refine cU (co8 (S.b.k _ _ hC) (fH S.b.k K.it) hx (by simpa using (rs.len▸hz)) fun h' dx hk=>?_)
 have kk:o8 s.heap (h'.push ⟨.ref C,some dx,.seq vs.toArray 0,#[]⟩):=fun b o e=>ak _ (hk b o e)
 refine ⟨ρ,H,.sub C xs,.same (s':={ s with heap:=h'.push ⟨.ref C,some dx,.seq vs.toArray 0,#[]⟩ }) (.of_keep kk) rfl (ao _),S.keeps kk,?_,h⟩
 unfold VR
 exact (A3 _ vs rfl (Q2 _ (aK _ rfl) rfl _ rfl) (rs.mono (az _) (.of_keep kk)))
theorem cp0 (K:R6 KF C N f) (h:i5 prog w KF d E H (.st f) (.st C::xs) fun v H'=>(∃ ys,v=.sub C ys) /\ Q v H'):i5 prog w KF (d+1) E H (.st C) xs Q:=fun A F ρ s u us hA S ru r=>by
 unfold VR at ru
 subst ru
 (refine L5 (K.cl) fun nm qq k0 k1 k2 k3 k5 hC=>?_)
 (refine B5 (K.nw) fun p rest hn hp=>?_)
 have X:=S.b.k
 have hC':=X _ _ hC
 refine cU (codeAny_of_tree ?_)
 show ax _ _ (callAny (.ref C) _) _ _ _
 refine nd_load hC' ?_
 show ax _ _ (callAny.viaDunder (.ref C) _) _ _ _
 unfold callAny.viaDunder
 refine ab ((looks_specialIn X K.call).at ?_)
 dsimp only
 rw [tc_bind]
 refine ab (ac (ab (ac (ac (a:=Fin.again (.call (.builtin "type.__call__") ⟨.ref C::us,[]⟩)) (And.intro rfl (codeAny_call_builtin_at (fY _ (by decide +kernel)) entry_typeCall (check_slot tc_kind tc_split (looks_instIn X K.typ) (tc_args _ _ _) ?_)))))))
 unfold aP.«type.__call__»
 have hm:=ag5 (M:=aA prog w) hC'
 have hd:=aE0 (M:=aA prog w) hC'
 dsimp only
 rw [if_neg (by simp)]
 refine ab (hm.at ?_)
 dsimp only [List.isEmpty_cons]
 rw [if_neg (by decide)]
 refine ab (hd.at ?_)
 dsimp only
 refine ab (cls_bind (s:=s) X K.rd hn (cU (sm_get (s:={ s with toks:=s.toks+1 }) X hp (handed_on (by rfl) (ab (aM (ar (h _ F ρ { s with toks:=s.toks+1 } (.ref f) (.ref C::us) hA.cls (S.tk (aY _)) (by unfold VR; rfl) (.cons (by unfold VR; rfl) r)) (fun v s' hx=>?_) (fun _ _=>HE.el fun _ _ _ _ _ x _=>x.elim))))))))
 (obtain ⟨ρ',H',b,st,T,rv,qz4⟩:=hx; refine d0 qz4 fun qz5 hq=>?_; clear qz4; obtain ⟨ys,e⟩:=qz5)
 subst e
 have rv':=rv
 unfold VR at rv'
 (refine e8 rv' fun y vs qz6 qz7 _=>?_; try clear rv'; subst qz6; obtain ⟨o,ho,hoc,hod⟩:=qz7)
 have X':=T.b.k
 have hC2:=X' _ _ hC
 have t1:cX (aA prog w) s'.heap (eP (.ref y)) (.ref C):=(dF ho).andThen (by rw [hoc]; exact .now)
 unfold iF
 refine ab (ab (t1.here ((U1 hC2 (.inl rfl)).here ?_)))
 rw [if_neg (by decide)]
 refine ab (aM ?_)
 unfold callSpecial? specialOf
 refine ab (ab (t1.here ((fH X' K.it).here ?_)))
 dsimp only
 refine aM ?_
 rw [oi_bind]
 refine ab (ac (ab (co9 hC2 (fH X' K.it) ho hoc us (ac ?_))))
 exact ac ⟨ρ',H',.sub C ys,(f0.same (s:=s) (s':={ s with toks:=s.toks+1 }) (.refl _) rfl (ao _)).trans st,T,rv,hq⟩
end
end
section
set_option tactic.hygienic false
section
variable {prog:Program} {w:World} {KF:Frag} {fi:FI} {d:Nat} {E:EP} {m:b8} {H:List O}
noncomputable def aE2 (prog:Program) (w:World) (KF:Frag) (H:List O) (x:V) (name:Str) (f:V):Prop :=
 ∀ A F ρ (s:Shared) u (pl:Sem Bool) (K:Value×List Value -> Shared -> Prop) (E':Value -> Shared -> Prop),d7 w KF F ρ H s.heap (gt s) -> VR ρ s.heap x u -> (∀ fu,VR ρ s.heap f fu -> K (fu,[]) { s with toks:=s.toks+1 }) -> ax (aA prog w) A (iA u name pl) K E' s
theorem bc9 {o:Expr} {name:Str} {apos pos:Pos} {args:List Expr} {pl:Env -> Sem Bool} {Q:V -> List O -> Prop} (h:WE prog w KF fi d E m H o fun x H1=>∃ f,aE2 prog w KF H1 x name f /\ t8 KF f /\ w7 prog w KF fi d E m H1 args fun vs H2=>i5 prog w KF d (Em E m) H2 f vs Q)
 (hp:C5 args:=by intro _; rfl) (he:∀ env,eval (.Call (.Attribute o name apos) args [] pos) env=(do
  let ov <- eval o env
  fq apos.atName
  let (f,first) <- dH [ov] (iA ov name (pl env))
  dT pos f first (dX pos (dR args env)) []):=by intro _; rfl):WE prog w KF fi d E m H (.Call (.Attribute o name apos) args [] pos) Q :=
 fun A env F ρ s hA S=>by
  refine MethodCall_ (pl:=pl env) (ar (h A env F ρ s hA S) (fun u s₁ hx=>?_) fun _ _ x=>x) (he env)
  (obtain ⟨ρ1,H1,x,st1,S1,ru,qz1⟩:=hx; refine o0 qz1 fun f hm hf h₁=>?_; clear qz1)
  refine hm A _ ρ1 s₁ u _ _ _ S1.toH ru fun fu rf=>?_
  rw [hp env]
  have st2:=st1.trans (f0.same (ρ:=ρ1) (s:=s₁) (s':={ s₁ with toks:=s₁.toks+1 }) (.refl _) rfl (ao _))
  exact m6 st2 (az6 (s:={ s₁ with toks:=s₁.toks+1 }) (first:=[]) hf h₁ hA (S1.tk (aY _)) rf .nil) fun _ _ x=>x.step st2
theorem cp1:eP (.type "tuple")=pure (.type "type"):=by first | rfl | kernel_rfl
theorem cp2:findCls [] (.type "tuple") (.type "type") "__new__"=some (.val (.builtin "tuple.__new__")):=by kernel_rfl
theorem cp3 {T id:String} {name:Str} (h1:eP (.type T)=pure (.type "type")) (h2:Manifest.isStub T=false) (h3:findCls [] (.type T) (.type "type") name=some (.val (.builtin id))) (h4:handedIn (.builtin id)=true):aE2 prog w KF H (.ty T) name (.bi id):=fun A F ρ s u pl K E' S ru h=>by
 rw [ru.ty_eq]
 (refine c0 (S.b.g) fun mg hg=>?_)
 obtain ⟨h0,Fr0,k0⟩:∃ h0:Heap,Fr h0 aT s.heap mg /\ Frag.In [] h0:=⟨{ objs:=#[] },⟨hg,fun b o e=>by simp [Heap.get?] at e,bm _⟩,fun _ _ e=>nomatch e⟩
 exact method_type Fr0 k0 h1 h2 h3 h4 (h (.builtin id) W9)
theorem bd0:aE2 prog w KF H (.ty "tuple") "__new__" (.bi "tuple.__new__"):=cp3 cp1 (by decide +kernel) cp2 (by decide +kernel)
end
end
section
set_option tactic.hygienic false
section
variable {prog:Program} {w:World} {A:Around} {s:Shared} {E:Value -> Shared -> Prop} {C N x y:Nat} {nm q:Str} {k0 k1 k2 k3 k5:Option Value}
theorem bd1 (self:Value):bindSpecial (.builtin "tuple.__lt__") self=pure (.builtin "tuple.__lt__",[self]):=PySem.F.slot_tuple_lt.bind self
theorem cp4:gv "tuple.__lt__"=some .slot:=by decide +kernel
theorem cp5:splitId "tuple.__lt__"=some ("tuple","__lt__"):=by decide +kernel
theorem an6 {a:Nat} {o:Obj} {vs:Array Value} {n:Nat} {Q:Array Value -> Shared -> Prop} (ho:s.heap.get? a=some o) (hd:o.data=.seq vs n) (h:Q vs s):ax (aA prog w) A (eW (.ref a)) Q E s:=by
 unfold eW seqItems?
 refine ab (ab (wpAny_load ho ?_))
 rw [hd]
 exact ac (ac h)
theorem aE3 {a b:Int} {t u:Tok} {Q:Value -> Shared -> Prop} (h:Q (.bool (decide (a < b))) s):ax (aA prog w) A (richCompare .Lt (.int a t) (.int b u)) Q E s:=PySem.P.lt_int h
theorem an7 {ρ:List b7} {h:Heap} {X:T3} {v:Value} (r:VR ρ h (.sub C [.int X.1,.int X.2.1,.int X.2.2]) v):∃ a t1 t2 t3,v=.ref a /\ E2 h a C #[.int X.1 t1,.int X.2.1 t2,.int X.2.2 t3]:=by
 unfold VR at r
 (refine e8 r fun a vs qz1 ht hv=>?_; try clear r; subst qz1)
 obtain ⟨v1,q1,rfl,r1,hv⟩:=hv.cons_eq
 obtain ⟨v2,q2,rfl,r2,hv⟩:=hv.cons_eq
 obtain ⟨v3,q3,rfl,r3,hv⟩:=hv.cons_eq
 have:=hv.nil_eq
 subst this
 (refine c0 (r1.int_eq) fun t1 qz2=>?_; subst qz2)
 (refine c0 (r2.int_eq) fun t2 qz3=>?_; subst qz3)
 (refine c0 (r3.int_eq) fun t3 qz4=>?_; subst qz4)
 exact (aM3 a t1 t2 t3 rfl ht)
theorem bd2 {X Y:T3} {t1 t2 t3' u1 u2 u3:Tok} (hC:s.heap.get? C=some (C8 C N nm q k0 k1 k2 k3 k5)) (hx:E2 s.heap x C #[.int X.1 t1,.int X.2.1 t2,.int X.2.2 t3']) (hy:E2 s.heap y C #[.int Y.1 u1,.int Y.2.1 u2,.int Y.2.2 u3]) {Q:Value -> Shared -> Prop}
 (h:Q (.bool (lt3 X Y)) s):ax (aA prog w) A (call (.builtin "tuple.__lt__") [.ref x,.ref y]) Q E s:=by
 obtain ⟨hp,g,dr,tk,os⟩:=s
 (refine J5 hx fun ox hox hcx nx hdx=>?_; try clear hx)
 (refine J5 hy fun oy hoy hcy ny hdy=>?_; try clear hy)
 dsimp only at hC hox hoy
 have t1':cX (aA prog w) hp (eP (.ref x)) (.ref C):=(dF hox).andThen (by rw [hcx]; exact .now)
 have t2':cX (aA prog w) hp (eP (.ref y)) (.ref C):=(dF hoy).andThen (by rw [hcy]; exact .now)
 have i1:cX (aA prog w) hp (iF (.ref x) (.type "tuple")) true:=t1'.andThen (U1 hC (.inr (.inl rfl)))
 have i2:cX (aA prog w) hp (iF (.ref y) (.type "tuple")) true:=t2'.andThen (U1 hC (.inr (.inl rfl)))
 refine cU (cL PySem.F.slot_tuple_lt.plain PySem.F.entry_tuple_lt (@check_slot (aA prog w) _ _ _ "tuple.__lt__" "tuple" "__lt__" (.ref x) [.ref y] [] _ cp4 cp5 i1 (PySem.F.args_tuple_lt_2 _ _) ?_))
 unfold aP.«tuple.__lt__»
 iterate 12 (try lk)
 rw [if_neg (by decide)]
 refine ab (an6 hox hdx (ab (an6 hoy hdy (ab ?_))))
 show ax _ _ (forIn [(Value.int X.1 t1,Value.int Y.1 u1),(Value.int X.2.1 t2,Value.int Y.2.1 u2),(Value.int X.2.2 t3',Value.int Y.2.2 u3)] _ _) _ _ _
 unfold lt3 at h
 rw [cG]
 refine ab (ab (wpAny_eqBool_int ?_))
 by_cases e1:X.1=Y.1
 case neg =>
  rw [if_neg e1] at h
  rw [show (X.1==Y.1)=false from beq_eq_false_iff_ne.mpr e1,if_pos (by decide)]
  exact ab (dB (ab (aE3 (ab (ac (ac (ac (ac h))))))))
 rw [if_pos e1] at h
 rw [show (X.1==Y.1)=true from beq_iff_eq.mpr e1,if_neg (by decide)]
 refine ac ?_
 dsimp only
 rw [cG]
 refine ab (ab (wpAny_eqBool_int ?_))
 by_cases e2:X.2.1=Y.2.1
 case neg =>
  rw [if_neg e2] at h
  rw [show (X.2.1==Y.2.1)=false from beq_eq_false_iff_ne.mpr e2,if_pos (by decide)]
  exact ab (dB (ab (aE3 (ab (ac (ac (ac (ac h))))))))
 rw [if_pos e2] at h
 rw [show (X.2.1==Y.2.1)=true from beq_iff_eq.mpr e2,if_neg (by decide)]
 refine ac ?_
 dsimp only
 rw [cG]
 refine ab (ab (wpAny_eqBool_int ?_))
 by_cases e3:X.2.2=Y.2.2
 case neg =>
  rw [show (X.2.2==Y.2.2)=false from beq_eq_false_iff_ne.mpr e3,if_pos (by decide)]
  exact ab (dB (ab (aE3 (ab (ac (ac (ac (ac h))))))))
 rw [show (X.2.2==Y.2.2)=true from beq_iff_eq.mpr e3,if_neg (by decide)]
 refine ac ?_
 dsimp only
 rw [e3,decide_eq_false (Int.lt_irrefl _)] at h
 exact ac (ac h)
theorem cp6 {K:Frag} {X Y:T3} {u v:Value} {ρ:List b7} (B:K.In s.heap) (hC:s.heap.get? C=some (C8 C N nm q k0 k1 k2 k3 k5)) (hl:fG K (.ref C) "__lt__"=some (some (.builtin "tuple.__lt__"))) (hu:A.units < cLine) (ru:VR ρ s.heap (.sub C [.int X.1,.int X.2.1,.int X.2.2]) u) (rv:VR ρ s.heap (.sub C [.int Y.1,.int Y.2.1,.int Y.2.2]) v) {Q:Bool -> Shared -> Prop} (h:Q (lt3 X Y) s) :
 ax (aA prog w) A (keyLt' oneType' u v) Q (fun _ _=>False) s:=by
 (refine ai9 (an7 ru) fun x t1 t2 t3 qz5 hx=>?_; subst qz5)
 (refine ai9 (an7 rv) fun y u1 u2 u3 qz6 hy=>?_; subst qz6)
 (refine o0 (id hx) fun ox hox hcx _=>?_)
 have ty:cX (aA prog w) s.heap (eP (.ref x)) (.ref C):=(dF hox).andThen (by rw [hcx]; exact .now)
 rw [keyLt'_oneType,oneLt'_eq]
 first | with_reducible refine wpAny_ite_true (by decide) ?_ | simp only [if_true]
 refine ab (wpAny_cRoomFor hu ?_)
 dsimp only [callSpecialIfBound?,bindSpecialIfBound?]
 refine ab (aM (ab (ab (ab (ty.here ((fH B hl).here (ab (wpAny_askSetting (wpAny_ite ?_)))))))))
 split
 · exact ab (bX (bd1 _) (ac (ab (bd2 hC hx hy (ac (ck h))))))
 · exact wpAny_tryCatch (ab (bX (bd1 _) (ac (ab (bd2 hC hx hy (ac (ck h)))))))
end
section
variable {prog:Program} {w:World} {A:Around} {E:Value -> Shared -> Prop} {s:Shared} {a:Nat} {vs:List Value}
theorem cp7 {n:Nat} {P:PySem.Fin -> Shared -> Prop} (ho:s.heap.get? a=some (cH "list" vs.toArray n)) (h2:vs.length < 2)
 (hP:∀ h' c,(∀ b o,b≠a -> s.heap.get? b=some o -> h'.get? b=some o) -> h'.get? a=some (cH "list" vs.toArray c) -> P (.done (.ret .none)) { s with heap:=h' }) :
 ax (aA prog w) A (aP.«list.sort» ⟨[.ref a],[]⟩) P E s:=by
 obtain ⟨e1,ho1⟩:∃ e1,(s.heap.update a (bw fun _=>(#[]:Array Value))).get? a=some (cH "list" #[] e1):=⟨_,get?_update_seq ho fun _=>#[]⟩
 have k3:∀ b o,b≠a -> s.heap.get? b=some o -> (((s.heap.update a (bw fun _=>(#[]:Array Value))).push (cH "tuple" vs.toArray 0)).push (cH "list" #[] 0)).get? b=some o:=fun b o hb e =>
  ak _ (ak _ ((bz _ _ (cP hb)).trans e))
 have a3:(((s.heap.update a (bw fun _=>(#[]:Array Value))).push (cH "tuple" vs.toArray 0)).push (cH "list" #[] 0)).get? a=some (cH "list" #[] e1):=ak _ (ak _ ho1)
 rw [list_sort_plain]
 refine ab (listItems_at ho rfl (ab (listUpdate_at ho rfl ?_ (by rw [aI,sizeLine_eq]; exact aP0 h2) (bm _))))
 refine ab (seqEpoch_at ho1 rfl (ab (wpAny_newTuple ?_ (by show vs.length <= _; rw [sizeLine_eq]; exact aP0 h2))))
 refine ab (wpAny_newList ?_ (bm _))
 refine aM ?_
 show ax (aA prog w) A _ P E { s with heap:=((s.heap.update a (bw fun _=>(#[]:Array Value))).push (cH "tuple" vs.toArray 0)).push (cH "list" #[] 0) }
 dsimp only
 have hn2:vs.toArray.size < 2:=by rw [aI]; exact bG2 h2
 rw [if_pos hn2,if_pos hn2]
 generalize ((s.heap.update a (bw fun _=>(#[]:Array Value))).push (cH "tuple" vs.toArray 0)).push (cH "list" #[] 0)=h3 at k3 a3 ⊢
 refine ab (ac (ab (ac ?_)))
 dsimp only
 have hout:(arrOf (SortSt.mk' general' (vs.toArray.zip vs.toArray) #[] 7 none)).map (·.2)=vs.toArray:=by
  show (vs.toArray.zip vs.toArray).map (·.2)=vs.toArray
  rw [List.zip_toArray,List.map_toArray]
  congr 1
  exact List.map_snd_zip (ao _)
 rw [hout]
 obtain ⟨c2,hc2⟩:∃ c2,(h3.update a (bw fun _=>vs.toArray)).get? a=some (cH "list" vs.toArray c2):=⟨_,get?_update_seq a3 fun _=>vs.toArray⟩
 refine ab (seqEpoch_at a3 rfl (ab (listUpdate_at a3 rfl ?_ (bm _) (by rw [aI,sizeLine_eq]; exact bG3 h2))))
 first | with_reducible refine wpAny_ite_false (by decide) ?_ | simp only [bne_self_eq_false,bq,if_false]
 exact ac (hP _ c2 (fun b o hb e=>(bz _ _ (cP hb)).trans (k3 b o hb e)) hc2)
end
noncomputable abbrev K3 (C:Nat) (m:T3):V:=.sub C [.int m.1,.int m.2.1,.int m.2.2]
theorem c8.getS {ρ:List b7} {h:Heap} {C:Nat} {ts:List T3} {vs:List Value} (r:c8 ρ h (ts.map (K3 C)) vs) {i:Nat} (hi:i < vs.length):VR ρ h (K3 C (t9 ts i)) (vs.getD i Value.none):=by
 have hl:vs.length=ts.length:=by rw [r.len,aD]
 (refine b9 (r.get' (aq hi)) fun x hx hr=>?_)
 rw [aU,aq (hl▸hi)] at hx
 cases hx
 unfold t9
 rw [bo,bo,aq hi,aq (hl▸hi)]
 exact hr
section
variable {prog:Program} {w:World} {KF:Frag} {d:Nat} {E:i7} {H:List O} {Q:V -> List O -> Prop} {C N f:Nat}
theorem cp8 {l:Nat} {ts:List T3} (K:R6 KF C N f) (hlt:fG KF (.ref C) "__lt__"=some (some (.builtin "tuple.__lt__"))) (hl:H[l]?=some (.list (ts.map (K3 C)))) (h64:ts.length < 64) (h0:∀ i,i < ts.length -> 0 <= (t9 ts i).1) (inj:∀ i j,i < ts.length -> j < ts.length -> (t9 ts i).1=(t9 ts j).1 -> i=j)
 (h:∀ ts':List T3,ts'.Perm ts -> ts'.Pairwise (fun x y=>x.1 < y.1) -> Q .none (H.set l (.list (ts'.map (K3 C))))):i5 prog w KF d E H (.bi "list.sort") [.ref l] Q:=fun A F ρ s u us hA S ru r=>by
 rw [ru.bi_eq]
 (refine e8 (r.cons_eq) fun v q qz7 rv rq=>?_; subst qz7)
 rw [rq.nil_eq]
 (refine b9 (rv.ref_eq) fun e he qz8=>?_; subst qz8)
 (refine L5 (K.cl) fun nm qq k0 k1 k2 k3 k5 hC=>?_)
 (refine w5 (S.ob l e _ he hl) fun ea eg vs hpl b=>?_)
 (refine c0 (id hpl) fun c ho=>?_)
 have hlen:vs.length=ts.length:=by rw [b.len,aD]
 have fin:∀ (h':Heap) (c':Nat) (ts':List T3) (us':List Value),(∀ b o,b≠e.a -> s.heap.get? b=some o -> h'.get? b=some o) -> h'.get? e.a=some (cH "list" us'.toArray c') -> c8 ρ s.heap (ts'.map (K3 C)) us' -> ts'.Perm ts -> ts'.Pairwise (fun x y=>x.1 < y.1) -> HQ w KF VR F ρ s Q .none { s with heap:=h' }:=fun h' c' ts' us' hk hD rr hp hs=>by
  (refine d0 (S.turn (tk:=s.toks) hl he hk ⟨c',hD⟩ rr) fun st T=>?_)
  exact ⟨ρ,_,.none,st,T,az7,h ts' hp hs⟩
 have tkk:∀ h',(∀ b o,b≠e.a -> s.heap.get? b=some o -> h'.get? b=some o) -> TK s.heap h':=fun h' hk=>.of_ext hk (ak9 hpl.isList)
 have bb:∀ h',(∀ b o,b≠e.a -> s.heap.get? b=some o -> h'.get? b=some o) -> Bs w KF h':=fun h' hk=>S.bs h' fun b o q=>by
  (refine b9 (S.keep b o q) fun o' e' u=>?_)
  exact (c5 o' (hk b o' (fun m=>by rw [S.off b (W8 he (by rw [ea,m]; exact .head _))] at q; cases q) e') u)
 refine bP slot_list_sort (c5 _ ho rfl) entry_list_sort ?_ (args_list_sort _)
 by_cases h2:vs.length < 2
 · exact cp7 ho h2 fun h' c hk hD=>(c5 _ rfl (fin h' c ts vs hk hD b (List.Perm.refl _) (by
    match ts,hlen▸h2 with
    | [],_=>exact .nil
    | [_],_=>exact List.pairwise_singleton _ _
    | _::_::r,q=>exact absurd (show r.length+1+1 < 2 from q) (by exact bG4))))
 have h2:2 <= vs.length:=bN.mp h2
 (refine o0 (cl7 (n:=ts.length) (r:=fun i=>(t9 ts i).1.toNat) (fun i j hi hj q=>inj i j hi hj ((Int.toNat_of_nonneg (h0 i hi)).symm.trans ((congrArg Int.ofNat q).trans (Int.toNat_of_nonneg (h0 j hj))))) (by rw [<- hlen]; exact h2)) fun p hp pm pw=>?_)
 have hpl':∀ i∈p.toList,i < ts.length:=fun i hi=>cQ.mp (pm.mem_iff.mp hi)
 refine ck4 (κ:=oneType') (lt:=M7 fun i=>(t9 ts i).1.toNat) ho h2 (by rw [hlen]; exact h64) (fun h' hk Q' hq=>?_) (fun h' hk i j hi hj C' hC'=>?_) (by rw [hlen]; exact hp) fun h' c hk hD=>?_
 · refine kas_kind (T:=.ref C) h2 (fun v hv=>?_) (by rfl) (by simp) hq
   obtain ⟨i,hi,rfl⟩:=List.mem_iff_getElem.mp hv
   have rr:=(b.mono (az _) (tkk h' hk)).getS hi
   rw [bo,aq hi,Option.getD_some] at rr
   (refine ai9 (an7 rr) fun x t1 t2 t3 e1 hx=>?_)
   rw [e1]
   (refine o0 hx fun ox hox hcx _=>?_; try clear hx)
   exact (dF hox).andThen (by rw [hcx]; exact .now)
 · have rr:=b.mono (az _) (tkk h' hk)
   have B:=bb h' hk
   refine cp6 (s:={ s with heap:=h' }) (K:=KF) B.k (B.k _ _ hC) hlt ?_ (rr.getS hi) (rr.getS hj) ?_
   · have:=hA.un
     show A.units+1 < cLine
     exact bG5 this
   · have e:lt3 (t9 ts i) (t9 ts j)=M7 (fun i=>(t9 ts i).1.toNat) i j:=by
      rw [hlen] at hi hj
      have z1:=h0 i hi
      have z2:=h0 j hj
      unfold M7 lt3
      by_cases q:(t9 ts i).1=(t9 ts j).1
      · have:=inj i j hi hj q
        subst this
        simp
      · rw [if_neg q]
        exact decide_eq_decide.mpr (aS6 z1 z2)
     rw [e]; exact hC'
 · have rel:∀ is:List Nat,(∀ i∈is,i < ts.length) -> c8 ρ s.heap ((is.map (t9 ts)).map (K3 C)) (is.map fun i=>vs.getD i Value.none):=by
    intro is
    induction is with
    | nil=>intro _; exact .nil
    | cons i is ih=>intro hi; exact .cons (b.getS (by rw [hlen]; exact hi i (.head _))) (ih fun j hj=>hi j (.tail _ hj))
   refine (c5 _ rfl (fin h' c (p.toList.map (t9 ts)) _ hk hD (rel p.toList hpl') ?_ ?_))
   · have:=pm.map (t9 ts)
     have e:(cB ts.length).map (t9 ts)=ts:=by
      refine List.ext_getElem (by simp) fun i h1 h2=>?_
      rw [List.getElem_map,List.getElem_range]
      unfold t9
      rw [bo,aq h2]; rfl
     rw [e] at this
     exact this
   · rw [du]
     refine iC (fun {i j} hi hj q=>?_) pw
     have z1:=h0 i (hpl' i hi)
     have z2:=h0 j (hpl' j hj)
     exact (aS6 z1 z2).mpr q
end
end
section
set_option tactic.hygienic false
section
variable {prog:Program} {w:World} {A:Around} {E:Value -> Shared -> Prop} {s:Shared} {C N a:Nat} {nm q:Str} {k0 k1 k2 k3 k5:Option Value}
theorem bd3 (self:Value):bindSpecial (.builtin "tuple.__iter__") self=pure (.builtin "tuple.__iter__",[self]):=PySem.F.slot_tuple_iter.bind self
theorem cp9:gv "tuple.__iter__"=some .slot:=by decide +kernel
theorem cq0:splitId "tuple.__iter__"=some ("tuple","__iter__"):=by decide +kernel
theorem bd4 {o:Obj} {Q:Value -> Shared -> Prop} (hC:s.heap.get? C=some (C8 C N nm q k0 k1 k2 k3 k5)) (ho:s.heap.get? a=some o) (hc:o.cls=.ref C)
 (h:Q (.ref s.heap.objs.size) { s with heap:=s.heap.push { cls:=.type "tuple_iterator",data:=.fields #[.ref a,.int 0 0] } }):ax (aA prog w) A (call (.builtin "tuple.__iter__") [.ref a]) Q E s:=by
 have i1:cX (aA prog w) s.heap (iF (.ref a) (.type "tuple")) true:=((dF ho).andThen (by rw [hc]; exact .now)).andThen (U1 hC (.inr (.inl rfl)))
 refine cU (cL PySem.F.slot_tuple_iter.plain PySem.F.entry_tuple_iter (@check_slot (aA prog w) _ _ _ "tuple.__iter__" "tuple" "__iter__" (.ref a) [] [] _ cp9 cq0 i1 (PySem.F.args_tuple_iter_1 _) ?_))
 show ax _ _ (do ret (<- newFields "tuple_iterator" [.ref a,rawInt 0])) _ _ s
 exact ab (bC (ac h))
theorem cq1 {K:Frag} {o:Obj} {Q:Value -> Shared -> Prop} (X:K.In s.heap) (hC:s.heap.get? C=some (C8 C N nm q k0 k1 k2 k3 k5)) (hit:fG K (.ref C) "__iter__"=some (some (.builtin "tuple.__iter__"))) (ho:s.heap.get? a=some o) (hc:o.cls=.ref C)
 (h:Q (.ref s.heap.objs.size) { s with heap:=s.heap.push { cls:=.type "tuple_iterator",data:=.fields #[.ref a,.int 0 0] } }):ax (aA prog w) A (pyIter (.ref a)) Q E s:=by
 have ty:cX (aA prog w) s.heap (eP (.ref a)) (.ref C):=(dF ho).andThen (by rw [hc]; exact .now)
 have sp:cX (aA prog w) s.heap (specialOf (.ref a) "__iter__") (some (.builtin "tuple.__iter__")):=ty.andThen (fH X hit)
 unfold pyIter
 refine ab (sp.here ?_)
 dsimp only
 unfold callSpecialIfBoundUnlessNone? bindSpecialIfBound?
 refine ab (aM (ab (ab (sp.here ?_))))
 dsimp only
 have hT:∀ s':Shared,s'.heap=s.heap.push { cls:=.type "tuple_iterator",data:=.fields #[.ref a,.int 0 0] } -> s'.TypeIs (.ref s.heap.objs.size) "tuple_iterator":=fun s' e=>(c5 _ (by rw [e]; exact aK _ rfl) rfl)
 refine ab (wpAny_askSetting (wpAny_ite ?_))
 split
 · refine ab (bX (bd3 _) (ac ?_))
   dsimp only
   rw [if_neg (by decide)]
   refine ab (bd4 hC ho hc (ac ?_))
   dsimp only
   exact ab (cV (hT _ rfl) PySem.F.slot_tuple_iterator_next.lookup (ac h))
 · refine wpAny_tryCatch (ab (bX (bd3 _) (ac ?_)))
   dsimp only
   rw [if_neg (by decide)]
   refine ab (bd4 hC ho hc (ac ?_))
   dsimp only
   exact ab (cV (hT _ rfl) PySem.F.slot_tuple_iterator_next.lookup (ac h))
theorem cq2 {it t i:Nat} {items:Array Value} {x:Value} {Q:Option Value -> Shared -> Prop} (hit:s.heap.IsTupleIter it t i) (ht:E2 s.heap t C items) (hx:items[i]?=some x)
 (hQ:∀ h',h'.IsTupleIter it t (i+1) -> gP it s.heap h' -> Q (some x) { s with heap:=h' }):ax (aA prog w) A (cS (.ref it)) Q E s:=by
 (refine o0 (id hit) fun o ho hc hd=>?_)
 (refine J5 ht fun ol hol _ nl hdl=>?_; try clear ht)
 unfold cS
 refine ab (fR (cq (name:=aa "__next__") hit.typeIs eX (bP eX hit.typeIs F.entry_tuple_iterator_next ?_ (F.args_tuple_iterator_next_1 _))))
 show ax _ _ (field (.ref it) 0 >>= _) _ _ s
 refine ab (cm ho hd (x:=.ref t) rfl ?_)
 show ax _ _ (if (Value.ref t==Value.none)=true then _ else _) _ _ s
 rw [if_neg (show ¬ ((Value.ref t==Value.none)=true) from bL)]
 show ax _ _ (field (.ref it) 1 >>= _) _ _ s
 refine ab (cm ho hd (x:=.int i 0) rfl ?_)
 show ax _ _ (seqItems? (.ref t) >>= _) _ _ s
 refine ab (cw hol hdl ?_)
 simp only [gK,hx]
 refine ab (wpAny_setField ho hd (by simp) (ac (c5 x rfl (ac (hQ _ ?_ (ii ..))))))
 exact (i0 _ (bM _ ho (Obj.isFreed_of_fields (Obj.data_mapFields hd _))) ((Obj.cls_mapFields ..).trans hc) (by rw [Obj.data_mapFields hd]; simp [rawInt]))
theorem cq3 {it t i:Nat} {items:Array Value} {Q:Option Value -> Shared -> Prop} (hh:A.handled=none) (hit:s.heap.IsTupleIter it t i) (ht:E2 s.heap t C items) (hx:items[i]?=none)
 (hQ:∀ h',Heap.ExtBut it s.heap h' -> Q none { s with heap:=h' }):ax (aA prog w) A (cS (.ref it)) Q E s:=by
 (refine o0 (id hit) fun o ho hc hd=>?_)
 (refine J5 ht fun ol hol _ nl hdl=>?_; try clear ht)
 unfold cS
 refine ab (fR (cq (name:=aa "__next__") hit.typeIs eX (bP eX hit.typeIs F.entry_tuple_iterator_next ?_ (F.args_tuple_iterator_next_1 _))))
 show ax _ _ (field (.ref it) 0 >>= _) _ _ s
 refine ab (cm ho hd (x:=.ref t) rfl ?_)
 show ax _ _ (if (Value.ref t==Value.none)=true then _ else _) _ _ s
 rw [if_neg (show ¬ ((Value.ref t==Value.none)=true) from bL)]
 show ax _ _ (field (.ref it) 1 >>= _) _ _ s
 refine ab (cm ho hd (x:=.int i 0) rfl ?_)
 show ax _ _ (seqItems? (.ref t) >>= _) _ _ s
 refine ab (cw hol hdl ?_)
 simp only [gK,hx]
 refine ab (dB (ab (wpAny_setField ho hd (by simp) ?_)))
 show ax _ _ (newExc (.type "StopIteration") [] >>= _) _ _ _
 refine ab ?_
 simp only [newExc,newTuple]
 refine ab (bC ?_ (by size_fits))
 refine ab (m:=gU _ _) (bX (a:=Value.none) (by first | rfl | (simp only [gU]; rfl)) (bC ?_ (by size_fits)))
 dsimp only [raiseNew]
 refine ab (wpAny_handled ?_)
 first | rw [show A.in1.handled=none from hh] | rw [hh]
 refine ab (ac (wpAny_throw ?_))
 refine ab (eu (T:="StopIteration") (b:=true) (c5 _ (aK _ rfl) rfl) isSubtype_stop ?_)
 exact ac (hQ _ (((ii ..).extBut.push _).push _))
end
section
variable {prog:Program} {w:World} {KF:Frag} {d:Nat} {E:i7} {H:List O} {C N f:Nat}
theorem cq4 {xs:List V} {I:Nat}:O7 prog w KF I [I] xs (fun _=>True) (fun i ρ h=>∃ a vs,h.IsTupleIter I a i /\ E2 h a C (ch vs) /\ c8 ρ h xs vs) (fun _=>fun i ρ h=>∃ a vs,h.IsTupleIter I a i /\ E2 h a C (ch vs) /\ c8 ρ h xs vs) (fun _=>True) where
 frame:=fun i ρ h ρ' h' ⟨a,vs,⟨o,ho,r⟩,t,q⟩ p tk k=>⟨a,vs,⟨o,k I (.head _) o ho,r⟩,ak6 tk t,q.mono p tk⟩
 live:=fun i ρ h=>W0 fun a vs qz1 _=>o0 qz1 fun o ho hc hd b hb=>by rw [au.mp hb]; exact ⟨o,ho⟩
 lot:=fun A i ρ s t v E' st _=>by (refine B5 (id st) fun a vs qz2 _=>?_; obtain ⟨o,ho,hc,hd⟩:=qz2); exact ae7 ho hc (by decide) ⟨st,.refl⟩
 item:=fun A F ρ H s i x E' hh S hG st hx=>by
  (refine e8 st fun a vs st ht hv=>?_)
  (refine b9 (hv.get hx) fun v hv1 hv2=>?_)
  (refine o0 (id st) fun o ho hc hd=>?_)
  refine cq2 st ht (x:=v) (by simpa using hv1) fun h' hit' hs'=>?_
  have c:w2 [I] s { s with heap:=h',toks:=s.toks }:=F5 (fun b o hb e=>hs'.extBut b o hb e) (F6 ho hc hd (by decide))
  exact (G9 v rfl (hv2.mono (az _) c.2.2.1) (A3 a vs hit' (ak6 c.2.2.1 ht) (hv.mono (az _) c.2.2.1)) c)
 pl:=fun _ _ _ _ _ x=>x
 done:=fun A F ρ H s E' hh S hG st=>by
  (refine e8 st fun a vs st ht hv=>?_)
  (refine o0 (id st) fun o ho hc hd=>?_)
  exact cq3 hh st ht (by simp [hv.len]) fun h' he'=>⟨rfl,F5 (tk:=s.toks) (fun b o hb e=>he' b o hb e) (F6 ho hc hd (by decide))⟩
 self:=fun A i ρ s K E'=>W0 fun a vs st _ hK=>wpAny_pyIter_tupleiter st hK
theorem cq5 {xs:List V} (K:R6 KF C N f) (hit:fG KF (.ref C) "__iter__"=some (some (.builtin "tuple.__iter__"))):J8 prog w KF d E H (.sub C xs) xs (fun _=>True):=fun A F ρ s u hA S r=>by
 unfold VR at r
 (refine e8 r fun a vs qz3 ht hv=>?_; try clear r; subst qz3)
 (refine L5 (K.cl) fun nm qq k0 k1 k2 k3 k5 hC=>?_)
 (refine o0 (id ht) fun o ho hc _=>?_)
 have k:o8 s.heap (s.heap.push { cls:=.type "tuple_iterator",data:=.fields #[.ref a,.int 0 0] }):=fun _ _ e=>ak _ e
 exact cq1 S.b.k (S.b.k _ _ hC) hit ho hc (W5 _ ([_]) _ _ rfl (cq4 (C:=C)) (A3 a vs (i0 _ (aK _ rfl) rfl rfl) (ak6 (.of_keep k) ht) (hv.mono (az _) (.of_keep k))) k ⟨rfl,ao _⟩ rfl (fun b hb=>by rw [au.mp hb]; exact z5 _))
theorem aE4 {n:Nat} {xs:List V} {Q:List V -> List O -> Prop} (K:R6 KF C N f) (hit:fG KF (.ref C) "__iter__"=some (some (.builtin "tuple.__iter__"))) (hn:n=xs.length) (h:Q xs H):W1 prog w KF d E c8 H (fun u=>gp u n none) (.sub C xs) Q:=fun A F ρ s u hA S ru=>by
 subst hn
 have hI:=cq5 (prog:=prog) (w:=w) (d:=d) (E:=E) (H:=H) (xs:=xs) K hit A F ρ s u hA S ru
 obtain ⟨a,vs,ea,ht,hv⟩:∃ a vs,u=.ref a /\ E2 s.heap a C (ch vs) /\ c8 ρ s.heap xs vs:=by unfold VR at ru; exact ru
 subst ea
 (refine o0 (id ht) fun o ho hc _=>?_)
 have sp:cX (aA prog w) s.heap (specialOf (.ref a) "__iter__") (some (.builtin "tuple.__iter__")):=(cX.andThen (a:=.ref C) ((dF ho).andThen (by rw [hc]; exact .now)) (fH S.b.k hit))
 unfold gp
 refine ab ?_
 unfold notIterableAtAll
 refine ab (sp.here (ac ?_))
 first | with_reducible refine wpAny_ite_false (by decide) ?_ | simp only [bq,if_false]
 refine ab (aM (ar hI (fun it s₁ hx=>?_) fun _ _ x=>x))
 (refine aj0 hx fun I fp St Md e IT hSt hk hg hos hf=>?_; try clear hx)
 subst e
 have S1:d7 w KF F ρ H s₁.heap (gt s₁):=(S.keeps hk).gte hg.1 hg.2
 have hfp:∀ b∈fp,F.f b=none /\ b ∉ q0 ρ:=fun b hb=>⟨(S.dead (hf b hb)).2,(S.dead (hf b hb)).1⟩
 refine ab (aM (ar (aA9 IT hA.hd trivial (fun b hb=>⟨(hfp b hb).1,(hfp b hb).2⟩) xs.length 0 s₁ (by exact aN6) S1 hSt) (fun us s2=>N6 fun rus st2 c2=>?_) fun _ _ x=>x))
 rw [dI] at rus
 have S2:=S1.chg hfp c2
 rw [if_neg (by rw [rus.len]; exact aN7)]
 refine ab (aM (ar (IT.done A F ρ H s2 _ hA.hd S2 trivial st2) (fun r s3=>m8 fun e c3=>?_) fun _ _ x=>x))
 subst e
 first | with_reducible refine wpAny_ite_false (by decide) ?_ | simp only [Option.isSome_none,bq,if_false]
 exact ac ⟨ρ,H,xs,((f0.same (.of_keep hk) hos (by rw [hg.1]; exact ao _)).trans c2.step).trans c3.step,S2.chg hfp c3,rus.mono (az _) c3.2.2.1,h⟩
theorem cq6 {l:Nat} {xs:List V} {x:V} {Q:V -> List O -> Prop} (hl:H[l]?=some (.list (xs++[x]))) (hz:xs.length < aB) (h:Q x (H.set l (.list xs))):i5 prog w KF d E H (.bi "list.pop") [.ref l] Q:=fun A F ρ s u us hA S ru r=>by
 rw [ru.bi_eq]
 (refine e8 (r.cons_eq) fun v q qz4 rv rq=>?_; subst qz4)
 rw [rq.nil_eq]
 (refine b9 (rv.ref_eq) fun e he qz5=>?_; subst qz5)
 (refine w5 (S.ob l e _ he hl) fun h1 h2 vs a b=>?_)
 (refine c0 (id a) fun n ho=>?_)
 have hlen:vs.length=xs.length+1:=by rw [b.len,aE]; rfl
 (refine b9 (b.get (i:=xs.length) (x:=x) (by simp)) fun y hy ry=>?_)
 have hlt:xs.length < vs.length:=by exact bG6 hlen
 have hi:vs.toArray.size - 1=xs.length:=by rw [aI]; exact aw3 hlen
 have hy':vs.toArray[vs.toArray.size - 1]?=some y:=by rw [hi]; simpa using hy
 refine call_meets PySem.F.slot_list_pop (c5 _ ho rfl) PySem.F.entry_list_pop (PySem.F.args_list_pop_1 _) (@PySem.MeetsSeq.list_pop_last e.a vs.toArray n y hy' (by rw [aI]; exact bG7 hz hlen hi)) ⟨ho,?_⟩
 rw [hi]
 have b':c8 ρ s.heap xs (vs.take xs.length++vs.drop (xs.length+1)):=by
  have:=b.take xs.length
  rw [List.take_left] at this
  rw [gu (by exact bG8 hlen),bg]
  exact this
 (refine d0 (S.turn (tk:=s.toks) (h':=s.heap.update e.a (bw fun xs':Array Value=>xs'.eraseIdxIfInBounds xs.length)) (ys:=xs) (us:=vs.take xs.length++vs.drop (xs.length+1)) hl he (fun b o hb e=>(bz _ _ (cP hb)).trans e) (by rw [<- cj9 hlt]; exact aZ8 _ a) b') fun st S'=>?_)
 exact ⟨ρ,_,x,st,S',ry.mono (az _) st.2.1,h⟩
end
section
variable {prog:Program} {w:World} {KF:Frag} {fi:FI} {d:Nat} {E:EP} {m:b8} {H:List O}
theorem cq7 {t t' t'' value:Expr} {pos:Pos} {Q:Fl -> b8 -> List O -> Prop} (h:WE prog w KF fi d E m H value fun v H1=>WA prog w KF fi d E m H1 t v fun m2 H2=>WA prog w KF fi d E m2 H2 t' v fun m3 H3=>WA prog w KF fi d E m3 H3 t'' v fun m4 H4=>Q .next m4 H4)
 (hw:∀ env,bR [t,t',t''] value env=pure none:=by intro _; rfl) (he:∀ env,fW [t,t',t''] env=[(false,dk t env),(false,dk t' env),(false,dk t'' env)]:=by intro _; rfl):WS prog w KF fi d E m H (.Assign [t,t',t''] value pos) Q :=
 fun A env F ρ s hA S=>by
  refine wpAny_Assign_stores (ar (h A env F ρ s hA S) (fun u s₁ hx=>?_) fun _ _ x=>x) rfl (hw env)
  obtain ⟨ρ1,H1,v,st1,S1,r,h₁⟩:=hx
  rw [he env]
  show ax _ A (do dH [u] (dk t env u); dH [u] (dk t' env u); dk t'' env u) _ _ _
  refine ab (aM (m6 st1 (ar (h₁ A env F ρ1 s₁ u hA S1 r) (fun _ s2=>AQ.el fun ρ2 H2 m2 st2 S2 h2=>?_) fun _ _ x=>x) fun _ _ x=>x))
  refine ab (aM (m6 (st1.trans st2) (ar (h2 A env F ρ2 s2 u hA S2 (r.mono st2.1 st2.2.1)) (fun _ s3=>AQ.el fun ρ3 H3 m3 st3 S3 h3=>?_) fun _ _ x=>x) fun _ _ x=>x))
  exact m6 ((st1.trans st2).trans st3) (h3 A env F ρ3 s3 u hA S3 ((r.mono st2.1 st2.2.1).mono st3.1 st3.2.1)) fun _ s4=>AQ.el fun ρ4 H4 m4 st4 S4 h4=>⟨ρ4,H4,m4,.next,((st1.trans st2).trans st3).trans st4,S4,rfl,h4⟩
end
end
section
set_option tactic.hygienic false
section
variable {prog:Program} {w:World} {KF:Frag} {d:Nat} {E:i7} {H:List O}
noncomputable def ag6 (prog:Program) (w:World) (KF:Frag) (d:Nat) (E:i7) (H:List O) (f:V) (xs:List V) (Q:V -> List O -> Prop):Prop :=
 ∀ A F ρ s u us,k9 A d F.fr -> d7 w KF F ρ H s.heap (gt s) -> VR ρ s.heap f u -> c8 ρ s.heap xs us -> ft (aA prog w) A (.call u ⟨us,[]⟩) (fun r s'=>match r with | .ok (.ret v)=>HQ w KF VR F ρ s Q v s' | .ok _=>False | .error e=>HE w KF F ρ s E e s') s
theorem cq8 {a:Nat} {o:Obj} {fd:FuncData} {body:List Stmt} {sc:Scope} {ps:List Str} {xs:List V} {Q:V -> List O -> Prop} (K:y3 KF a o fd body sc ps) (hgen:sc.isGenerator=false) (hlen:xs.length=ps.length)
 (h:WB prog w KF ⟨sc,true,fd.code⟩ d (fun _ _ _=>False) (r0 sc ps xs) H body fun f m' H'=>match f with | .ret v=>Q v H' | .next=>Q .none H' | _=>False):ag6 prog w KF (d+1) E H (.st a) xs Q :=
 fun A F ρ s u us hA S ru r=>by
  have hsc:=K.hsc
  subst hsc
  unfold VR at ru
  subst ru
  have B:=S.b
  (refine d0 (az5 K.toFnB B) fun ho hcd=>?_)
  have hul:us.length=ps.length:=r.len.trans hlen
  refine codeAny_call_function hA.depth ho K.hd K.hco hgen K.hb hcd (BindsTo.of_eq (K.hbd us hul) _ _ _ _ ?_)
  rw [K.hcl]
  refine bA (ao _) (hU K.hk (fun x hx=>?_) fun env he s₁ X ht=>?_)
  · have hx1:x.1∈ps:=by rw [<- ae9 hul]; exact aV.mpr (c5 x hx rfl)
    rcases K.hkd x.1 hx1 with q | q
    · exact .inl q
    · (refine c0 (al7 (n:=s.heap.objs.size+1) (mem_of_lookup q)) fun c hc=>?_)
      exact .inr ⟨q,by rw [M2 (al6 K.hnd) hc]; rfl⟩
  · subst he
    (refine d0 (az4 K.toFnB hlen S r X ht) fun st1 S1=>?_)
    refine ⟨S1.b.lim,codeAny_func (ar (h _ _ F ρ s₁ (hA.deeper rfl) S1) (fun f s2 hx=>?_) (fun _ _ x=>(F7 x).elim))⟩
    obtain ⟨ρ2,H2,m2,fl,st2,S2,rf,h2⟩:=hx
    cases fl with
    | next=>cases rf; exact ⟨ρ2,H2,.none,st1.trans st2,S2.hs,by unfold VR; rfl,h2⟩
    | ret v=>(refine b9 rf fun u qz1 r=>?_; try clear rf; subst qz1); exact ⟨ρ2,H2,v,st1.trans st2,S2.hs,r,h2⟩
    | brk=>exact h2.elim
    | cont=>exact h2.elim
noncomputable def an8 (f C:Nat):List b7 -> Heap -> Nat -> Prop:=fun ρ h a=>h.get? a=some (methodObj (.ref f) (.ref C))
noncomputable abbrev M8 (f C:Nat):O:=.prd (an8 f C)
theorem an8.stab (f C:Nat):T7 (an8 f C) where
 mono:=fun p t hk h=>hk _ h
 ents:=fun q h=>h
noncomputable def ag7 (l k:Nat):List b7 -> Heap -> Nat -> Prop:=fun ρ h a=>∃ e,ρ[l]?=some e /\ h.IsListIter a e.a k
noncomputable abbrev y6 (l k:Nat):O:=.prd (ag7 l k)
theorem ag7.stab (l k:Nat):T7 (ag7 l k) where
 mono:=fun p t hk=>J6 fun e h1 qz2=>b9 qz2 fun o ho r=>⟨e,z4 p h1,o,hk _ ho,r⟩
 ents:=fun q=>J6 fun e h1 h2=>b9 (af8 q h1) fun e' h3 h4=>(c5 e' h3 (by rw [h4]; exact h2))
noncomputable def an9 (i j:Nat):List b7 -> Heap -> Nat -> Prop:=fun ρ h a=>∃ ei ej t,ρ[i]?=some ei /\ ρ[j]?=some ej /\ h.IsTuple t #[.ref ei.a] /\ h.get? a=some { cls:=.type "map",data:=.fields #[.ref t,.ref ej.a] }
noncomputable abbrev R7 (i j:Nat):O:=.prd (an9 i j)
theorem an9.stab (i j:Nat):T7 (an9 i j) where
 mono:=fun p t hk=>aL4 fun ei ej tt h1 h2 h3 h4=>(aj6 ei ej tt (z4 p h1) (z4 p h2) (ae3 t h3) (hk _ h4))
 ents:=fun q=>aL4 fun ei ej tt h1 h2 h3 h4=>b9 (af8 q h1) fun e' g1 g2=>b9 (af8 q h2) fun f' k1 k2=>(aj6 e' f' tt g1 k1 (by rw [g2]; exact h3) (by rw [k2]; exact h4))
theorem cq9 {C N f f' p:Nat} {rest:List Value} {name:Str} {Q:V -> List O -> Prop} (K:R6 KF C N f) (hn:findCls KF (.ref C) (.type "type") name=some (.get (.builtin "classmethod.__get__") (.ref p) .none (.ref C))) (hp:recIn KF p "classmethod"=some (.ref f'::rest)) (h:Q (.ref H.length) (H++[M8 f' C])):W1 prog w KF d E VR H (fun u=>fw u name true) (.st C) Q:=fun A F ρ s u hA S ru=>by
 unfold VR at ru
 subst ru
 refine cls_bind (s:=s) S.b.k K.rd hn (cU (cm_get (s:={ s with toks:=s.toks+1 }) S.b.k hp (handed_on (by rfl) ?_)))
 have kk:o8 s.heap (s.heap.push (methodObj (.ref f') (.ref C))):=fun _ _ q=>ak _ q
 have U:=S.alloc (o:=M8 f' C) kk (z5 _) ⟨_,aK _ rfl⟩ (m5 rfl rfl (aK _ rfl) (an8.stab _ _))
 refine ⟨_,_,.ref H.length,.add (s:=s) (s':={ s with heap:=s.heap.push (methodObj (.ref f') (.ref C)),toks:=s.toks+1 }) (.of_keep kk) rfl (ao _),U.tk (aY _),?_,h⟩
 unfold VR
 exact (c5 _ (by rw [<- S.len,af]) rfl)
end
end
section
set_option tactic.hygienic false
theorem cr0:Slot "map" "__init__" "object.__init__" :=
 .of (owner:="object") (n:="__init__") (by rw [aN,aG]; kernel_rfl) (by decide +kernel) (by decide +kernel) (by decide +kernel) (by first | exact .inl (by decide +kernel) | exact .inr (by decide +kernel)) (by rw [dh]; kernel_rfl)
theorem bd5:Slot "map" "__iter__" "map.__iter__" :=
 .of (owner:="map") (n:="__iter__") (by rw [aN,aG]; kernel_rfl) (by decide +kernel) (by decide +kernel) (by decide +kernel) (by first | exact .inl (by decide +kernel) | exact .inr (by decide +kernel)) (by rw [dh]; kernel_rfl)
theorem ag8:Slot "map" "__next__" "map.__next__" :=
 .of (owner:="map") (n:="__next__") (by rw [aN,aG]; kernel_rfl) (by decide +kernel) (by decide +kernel) (by decide +kernel) (by first | exact .inl (by decide +kernel) | exact .inr (by decide +kernel)) (by rw [dh]; kernel_rfl)
theorem bd6:entryFor table "map.__next__"=some aP.«map.__next__»:=entryFor_of_tree (by kernel_rfl)
theorem bd7 (a:Value):argsOk "map.__next__" ⟨[a],[]⟩:=by unfold argsOk; kernel_rfl
theorem cr1 (a:Value):argsOk "map.__iter__" ⟨[a],[]⟩:=by unfold argsOk; kernel_rfl
theorem cr2:entryFor table "map.__iter__"=some aP.«dict_keyiterator.__iter__» :=
 entryFor_alias (id':="dict_keyiterator.__iter__") (by kernel_rfl) (by first | rfl | decide +kernel | (unfold String.splitOn; simp +decide [String.splitOnAux])) (by decide +kernel) (by kernel_rfl)
theorem bd8:mroOf (.type "map")=pure [.type "map",.type "object"]:=by rw [mroOf_type]; kernel_rfl
theorem cr3:aX (.type "map") "__new__"=pure (some (.builtin "map.__new__")):=by rw [aN,aG]; kernel_rfl
theorem cr4:TypeCalled "map" "map.__new__" "object.__init__" :=
 ⟨by decide +kernel,by decide +kernel,(l8 _ _ bd8),madeBy_type bd8 cr3 (by decide +kernel),by decide +kernel,by rw [dh]; kernel_rfl,cr0⟩
theorem cr5 (a b:Value):checkTypeCall "map" ⟨[a,b],[]⟩=pure ():=by kernel_rfl
theorem cr6 (a b:Value):checkBuiltinCall "map.__new__" ⟨[.type "map",a,b],[]⟩=pure ():=by kernel_rfl
theorem cr7:entryFor table "map.__new__"=some aP.«map.__new__»:=entryFor_of_tree (by kernel_rfl)
theorem cr8:eQ (.type "map") (.type "map")=pure true:=by rw [dh]; kernel_rfl
theorem cr9:aX (.type "map") "__len__"=pure none:=by rw [aN,aG]; kernel_rfl
theorem cs0:aX (.type "map") "__length_hint__"=pure none:=by rw [aN,aG]; kernel_rfl
noncomputable abbrev ab0 (h:Heap) (l:Addr):Heap:=h.push { cls:=.type "list_iterator",data:=.fields #[.ref l,.int 0 0] }
noncomputable abbrev P3 (h:Heap) (l:Addr):Heap:=(ab0 h l).push { cls:=.type "tuple",data:=.seq #[.ref h.objs.size] }
noncomputable abbrev ab1 (h:Heap) (l:Addr) (f:Value):Heap:=(P3 h l).push { cls:=.type "map",data:=.fields #[.ref (ab0 h l).objs.size,f] }
theorem cs1 (l:Addr) (f:Value) (xs:Array Value) :
 Meets (aP.«map.__new__» ⟨[.type "map",f,.ref l],[]⟩) (fun _ R s=>s.heap.IsList l xs /\ R (.ok (.ret (.ref (P3 s.heap l).objs.size))) { s with heap:=ab1 s.heap l f }) :=
 .of_wp fun prog w A R s h=>by
  obtain ⟨hp,g,d,tk,os⟩:=s; (refine d0 h fun hl h=>?_)
  have hsub:=cr8
  have hL:Heap.IsList (Shared.heap ⟨hp,g,d,tk,os⟩) l xs:=hl
  wp_walk using wpAny_pyIter_list hL
  exact (c5 _ rfl h)
section
variable {prog:Program} {w:World} {KF:Frag} {d:Nat} {E:i7} {H:List O} {j l:Nat} {xs:List V}
theorem cs2 {Q:V -> List O -> Prop} (hl:H[l]?=some (.list xs)) (h:Q (.ref (H.length+1)) (H++[y6 l 0]++[R7 H.length j])):i5 prog w KF d E H (.ty "map") [.ref j,.ref l] Q:=fun A F ρ s u us hA S ru r=>by
 rw [ru.ty_eq]
 (refine e8 (r.cons_eq) fun v q qz1 rv rq=>?_; subst qz1)
 (refine e8 (rq.cons_eq) fun v' q' qz2 rv' rq'=>?_; subst qz2)
 rw [rq'.nil_eq]
 (refine b9 (rv.ref_eq) fun ej hj qz3=>?_; subst qz3)
 (refine b9 (rv'.ref_eq) fun e he qz4=>?_; subst qz4)
 (refine w5 (S.ob l e _ he hl) fun h1 h2 vs a b=>?_)
 refine callType_new cr4 (by decide) (cr5 _ _) (cr6 _ _) (fun obj=>PySem.F.args_object_init_3 obj _ _) cr7 (cs1 e.a (.ref ej.a) vs.toArray) ⟨a.isList,?_⟩
 have z1:(ab0 s.heap e.a).objs.size=s.heap.objs.size+1:=cr ..
 have z2:(P3 s.heap e.a).objs.size=s.heap.objs.size+2:=by rw [cr,z1]
 have k3:o8 s.heap (ab1 s.heap e.a (.ref ej.a)):=fun b o x=>ak _ (ak _ (ak _ x))
 have g3:(ab1 s.heap e.a (.ref ej.a)).get? (P3 s.heap e.a).objs.size=some { cls:=.type "map",data:=.fields #[.ref (ab0 s.heap e.a).objs.size,.ref ej.a] }:=aK _ rfl
 have g2:(ab1 s.heap e.a (.ref ej.a)).get? (ab0 s.heap e.a).objs.size=some { cls:=.type "tuple",data:=.seq #[.ref s.heap.objs.size] }:=ak _ (aK _ rfl)
 have g1:(ab1 s.heap e.a (.ref ej.a)).get? s.heap.objs.size=some { cls:=.type "list_iterator",data:=.fields #[.ref e.a,.int 0 0] }:=ak _ (ak _ (aK _ rfl))
 have S1:=S.alloc (o:=y6 l 0) k3 (z5 _) ⟨_,g1⟩ (m5 rfl rfl ⟨e,z4 (aF _ _) he,_,g1,rfl,rfl⟩ (ag7.stab _ _))
 have nz:(P3 s.heap e.a).objs.size ∉ q0 (ρ++[⟨s.heap.objs.size,[s.heap.objs.size],none⟩]) /\ F.f (P3 s.heap e.a).objs.size=none:=by
  have:=S.dead (b:=(P3 s.heap e.a).objs.size) (Heap.get?_none_of_le (by rw [z2]; exact aN8))
  refine ⟨fun hm=>?_,this.2⟩
  rw [show q0 (ρ++[⟨s.heap.objs.size,[s.heap.objs.size],none⟩])=q0 ρ++[s.heap.objs.size] by simp [q0]] at hm
  rcases bh.mp hm with q | q
  · exact this.1 q
  · rw [au.mp q] at z2; exact bG9 z2
 have hi:(ρ++[⟨s.heap.objs.size,[s.heap.objs.size],none⟩]:List b7)[H.length]?=some ⟨s.heap.objs.size,[s.heap.objs.size],none⟩:=by rw [<- S.len,af]
 have S2:=S1.adopt (a:=(P3 s.heap e.a).objs.size) (r:=[]) (o:=R7 H.length j) (dP.mpr ⟨fun q=>(nomatch q),iN⟩) (fun b hb=>by rw [au.mp hb]; exact (aj4 nz.1 nz.2 _ g3))
  (m5 rfl rfl (aj6 ⟨s.heap.objs.size,[s.heap.objs.size],none⟩ ej ((ab0 s.heap e.a).objs.size) (z4 (aF _ _) hi) (z4 (aF _ _) (z4 (aF _ _) hj)) (Q2 _ g2 rfl _ rfl) g3) (an9.stab _ _))
 refine ⟨(c5 _ g3 rfl),_,_,.ref (H.length+1),(f0.add (s:=s) (s':={ s with heap:=ab1 s.heap e.a (.ref ej.a) }) (.of_keep k3) rfl (ao _)).trans (f0.add (.refl _) rfl (ao _)),S2,?_,h⟩
 unfold VR
 refine (c5 ⟨(P3 s.heap e.a).objs.size,[(P3 s.heap e.a).objs.size],none⟩ ?_ rfl)
 rw [show H.length+1=(ρ++[⟨s.heap.objs.size,[s.heap.objs.size],none⟩]:List b7).length by rw [aE,S.len]; rfl,af]
end
end
section
set_option tactic.hygienic false
theorem k9.in1 {A:Around} {d:Nat} {l:List Env} (h:k9 A (d+1) l):k9 A.in1 d l:=⟨h.fr,h.hd,by have:=h.dp; show A.depth+4*d < fm; exact bH0 this,by have:=h.un; show A.units+1+40*d+200 < cLine; exact bH1 this⟩
section
variable {prog:Program} {w:World} {KF:Frag} {d:Nat} {E:i7} {H:List O} {i j l k mm f C:Nat} {xs:List V} {x:V}
theorem d7.litUp {F:d6} {ρ:List b7} {s:Shared} {e:b7} {h':Heap} {n:Nat} (S:d7 w KF F ρ H s.heap (gt s)) (hi:H[i]?=some (y6 l k)) (he:ρ[i]?=some e) (hn:∃ el,ρ[l]?=some el /\ h'.IsListIter e.a el.a n) (hs:gP e.a s.heap h') :
 f0 ρ s ρ { s with heap:=h' } /\ d7 w KF F ρ (H.set i (y6 l n)) h' (gt s):=by
 (refine n9 (S.ob i e _ he hi) fun a b qz1 _=>?_; obtain ⟨el,hel,o,ho,hc,hd⟩:=qz1)
 (refine b9 (id hn) fun el' hel' qz2=>?_; refine b9 qz2 fun o' ho' hr'=>?_; clear qz2)
 have t:TK s.heap h':=.of_ext (a:=e.a) (fun b o hb q=>hs.extBut b o hb q) (F6 ho hc hd (by decide))
 exact ⟨.same t rfl (ao _),S.upd he (fun b q hb hq=>hs.extBut b q (fun z=>hb (by rw [a,z]; exact .head _)) hq) (fun b hb=>by rw [a] at hb; rw [au.mp hb]; exact ⟨o',ho'⟩) t (m5 a b hn (ag7.stab _ _)) trivial fun o h q=>by rw [hi] at h; cases h; cases q⟩
theorem cs3 {F:d6} {ρ:List b7} {s:Shared} {em:b7} {A:Around} {R:V -> List O -> Prop} (hA:k9 A (d+1) F.fr) (S:d7 w KF F ρ H s.heap (gt s)) (hi:H[i]?=some (y6 l k)) (hm:H[mm]?=some (R7 i j)) (hj:H[j]?=some (M8 f C)) (hl:H[l]?=some (.list xs)) (hij:i≠j) (hx:xs[k]?=some x) (he:ρ[mm]?=some em)
 (hc:ag6 prog w KF d E (H.set i (y6 l (k+1))) (.st f) [.st C,x] R):ax (aA prog w) A (cS (.ref em.a)) (fun r s'=>∃ v,r=some v /\ HQ w KF VR F ρ s R v s') (fun _ _=>False) s:=by
 (refine n9 (S.ob mm em _ he hm) fun _ _ qz3 _=>?_; obtain ⟨ei,ej,t,hei,hej,⟨ot,hot,hct,nt,hdt⟩,hom⟩:=qz3)
 (refine n9 (S.ob j ej _ hej hj) fun _ _ hoj _=>?_)
 (refine n9 (S.ob i ei _ hei hi) fun ia ib qz4 _=>?_; obtain ⟨el,hel,hit⟩:=qz4)
 (refine w5 (S.ob l el _ hel hl) fun _ _ vs hpl hvs=>?_)
 (refine b9 (hvs.get hx) fun v hv rv=>?_)
 have hT:s.TypeIs (.ref em.a) "map":=(c5 _ hom rfl)
 unfold cS
 refine ab (fR (cq (name:=aa "__next__") hT ag8 (bP ag8 hT bd6 ?_ (bd7 _))))
 show ax _ _ (field (.ref em.a) 0 >>= _) _ _ s
 refine ab (cm hom rfl (x:=.ref t) rfl ?_)
 show ax _ _ (seqItems? (.ref t) >>= _) _ _ s
 refine ab (cw hot hdt ?_)
 dsimp only
 rw [<- Array.forIn_toList]
 show ax _ _ (forIn [Value.ref ei.a] _ _ >>= _) _ _ s
 rw [cG]
 refine ab (ab ?_)
 dsimp only
 refine ab (aM (wpAny_nextOf_list_item hit hpl.isList (x:=v) (by simpa using hv) fun h' hit' hs'=>(ac ?_)))
 dsimp only
 rw [List.forIn_nil]
 refine ac ?_
 (refine d0 (S.litUp hi hei (c5 el hel hit') hs') fun st1 S1=>?_)
 (refine o0 hit fun oi hoi hci _=>?_; try clear hit)
 have n1:em.a≠ei.a:=fun q=>by rw [q,hoi] at hom; cases hom; exact absurd hci (by simp)
 have n2:ej.a≠ei.a:=fun q=>by
  have hoj:s.heap.get? ej.a=some (methodObj (.ref f) (.ref C)):=hoj
  rw [q,hoi] at hoj; cases hoj; exact absurd hci (by simp)
 have hom':=hs'.extBut _ _ n1 hom
 have hoj':h'.get? ej.a=some (methodObj (.ref f) (.ref C)):=hs'.extBut _ _ n2 hoj
 show ax _ _ (field (.ref em.a) 1 >>= _) _ _ { s with heap:=h' }
 refine ab (cm hom' rfl (x:=.ref ej.a) rfl (ab (aM (cU (method_call (s:={ s with heap:=h' }) hoj' (codeAny_mono (hc A.in1 F ρ { s with heap:=h' } (.ref f) [.ref C,v] hA.in1 S1 (by unfold VR; rfl) (.cons (by unfold VR; rfl) (.cons (rv.mono (az _) st1.2.1) .nil))) fun r s2 hr=>?_))))))
 cases r with
 | error e=>obtain ⟨_,_,_,_,_,z,_⟩:=hr; exact z.elim
 | ok fl =>
  cases fl with
  | ret y =>
   obtain ⟨ρ2,H2,y',st2,S2,ry,hR⟩:=hr
   refine ab (ig (ac (c5 _ rfl (ac ⟨y,rfl,ρ2,H2,y',st1.trans st2,S2,ry,hR⟩))))
  | _=>exact hr.elim
theorem cs4 {A:Around} {E:Value -> Shared -> Prop} {s:Shared} {it l i:Nat} {items:Array Value} {Q:Value -> Shared -> Prop} (hh:A.handled=none) (hit:s.heap.IsListIter it l i) (hl:s.heap.IsList l items) (hx:items[i]?=none)
 (hE:∀ h' e,Heap.ExtBut it s.heap h' -> (∃ o,h'.get? it=some o) -> (∃ o,h'.get? e=some o /\ o.cls=.type "StopIteration") -> E (.ref e) { s with heap:=h' }):ax (aA prog w) A (ca (.ref it)) Q E s:=by
 (refine o0 (id hit) fun o ho hc hd=>?_)
 (refine J5 hl fun ol hol _ nl hdl=>?_; try clear hl)
 unfold ca
 refine ab (cq (name:=aa "__next__") hit.typeIs slot_listiter_next (bP slot_listiter_next hit.typeIs entry_listiter_next ?_ (args_listiter_next _)))
 show ax _ _ (field (.ref it) 0 >>= _) _ _ s
 refine ab (cm ho hd (x:=.ref l) rfl ?_)
 show ax _ _ (if (Value.ref l==Value.none)=true then _ else _) _ _ s
 rw [if_neg (show ¬ ((Value.ref l==Value.none)=true) from bL)]
 show ax _ _ (field (.ref it) 1 >>= _) _ _ s
 refine ab (cm ho hd (x:=.int i 0) rfl ?_)
 show ax _ _ (seqItems? (.ref l) >>= _) _ _ s
 refine ab (cw hol hdl ?_)
 simp only [gK,hx]
 refine ab (dB (ab (wpAny_setField ho hd (by simp) ?_)))
 show ax _ _ (newExc (.type "StopIteration") [] >>= _) _ _ _
 refine ab ?_
 simp only [newExc,newTuple]
 refine ab (bC ?_ (by size_fits))
 refine ab (m:=gU _ _) (bX (a:=Value.none) (by first | rfl | (simp only [gU]; rfl)) (bC ?_ (by size_fits)))
 dsimp only [raiseNew]
 refine ab (wpAny_handled ?_)
 first | rw [show A.in1.handled=none from hh] | rw [hh]
 refine ab (ac (wpAny_throw ?_))
 exact hE _ _ (((ii ..).extBut.push _).push _) ⟨_,ak _ (ak _ (bM _ ho (Obj.isFreed_of_fields (Obj.data_mapFields hd _))))⟩ (c5 _ (aK _ rfl) rfl)
noncomputable def ao0:List b7 -> Heap -> Nat -> Prop:=fun _ _ _=>True
noncomputable abbrev X5:O:=.prd ao0
theorem ao0.stab:T7 ao0 where
 mono:=fun _ _ _ _=>trivial
 ents:=fun _ _=>trivial
theorem cs5 {F:d6} {ρ:List b7} {s:Shared} {em:b7} {A:Around} (hA:A.handled=none) (S:d7 w KF F ρ H s.heap (gt s)) (hi:H[i]?=some (y6 l xs.length)) (hm:H[mm]?=some (R7 i j)) (hl:H[l]?=some (.list xs)) (he:ρ[mm]?=some em) :
 ax (aA prog w) A (cS (.ref em.a)) (fun r s'=>r=none /\ f0 ρ s ρ s' /\ d7 w KF F ρ (H.set i X5) s'.heap (gt s')) (fun _ _=>False) s:=by
 (refine n9 (S.ob mm em _ he hm) fun _ _ qz5 _=>?_; obtain ⟨ei,ej,t,hei,hej,⟨ot,hot,hct,nt,hdt⟩,hom⟩:=qz5)
 (refine n9 (S.ob i ei _ hei hi) fun ia ib qz6 _=>?_; obtain ⟨el,hel,hit⟩:=qz6)
 (refine w5 (S.ob l el _ hel hl) fun _ _ vs hpl hvs=>?_)
 have hT:s.TypeIs (.ref em.a) "map":=(c5 _ hom rfl)
 unfold cS
 refine ab (fR (cq (name:=aa "__next__") hT ag8 (bP ag8 hT bd6 ?_ (bd7 _))))
 show ax _ _ (field (.ref em.a) 0 >>= _) _ _ s
 refine ab (cm hom rfl (x:=.ref t) rfl ?_)
 show ax _ _ (seqItems? (.ref t) >>= _) _ _ s
 refine ab (cw hot hdt ?_)
 dsimp only
 rw [<- Array.forIn_toList]
 show ax _ _ (forIn [Value.ref ei.a] _ _ >>= _) _ _ s
 rw [cG]
 refine ab (ab ?_)
 dsimp only
 refine ab (aM (cs4 (by first | exact hA | (show A.in1.handled=none; exact hA)) hit hpl.isList (by simp [hvs.len]) fun h' e hx hlv hE=>?_))
 (refine b9 hE fun oe hoe hce=>?_; try clear hE)
 refine ab (eu (T:="StopIteration") (b:=true) (c5 oe hoe hce) isSubtype_stop ?_)
 (refine o0 (id hit) fun oi hoi hci hdi=>?_)
 have t:TK s.heap h':=.of_ext (a:=ei.a) (fun b o hb q=>hx b o hb q) (F6 hoi hci hdi (by decide))
 exact ac (e9 rfl (f0.same (s':={ s with heap:=h' }) t rfl (ao _)) (S.upd hei (fun b q hb hq=>hx b q (fun z=>hb (by rw [ia,z]; exact .head _)) hq) (fun b hb=>by rw [ia] at hb; rw [au.mp hb]; exact hlv) t (m5 ia ib trivial ao0.stab) trivial fun o h q=>by rw [hi] at h; cases h; cases q))
theorem s6 {H L:List O} {n:Nat} {o:O} (h:H[n]?=some o):(H++L)[n]?=some o:=by rw [bf (ae.mp h).1]; exact h
theorem cs6 {H:List O} {n:Nat} {o:O} (h:H[n]?=some o):H.set n o=H:=List.ext_getElem? fun m=>by
 by_cases e:n=m
 · subst e; rw [bT (ae.mp h).1,h]
 · rw [bZ e]
theorem bd9 {H L:List O} {n:Nat} {o:O} (h:n < H.length):(H++L).set n o=H.set n o++L:=by rw [List.set_append_left _ _ h]
theorem cs7 {F:d6} {A:Around} {em eS:b7} {g:V -> V} {H₀:List O} {R:cR -> Shared -> Prop} {res:Value} (hA:k9 A (d+2) F.fr) (hi:i < H₀.length) (him:i≠mm) (hil:i≠l) (hij:i≠j) (hm:H₀[mm]?=some (R7 i j)) (hj:H₀[j]?=some (M8 f C)) (hl:H₀[l]?=some (.list xs)) (hz:xs.length <= aB)
 (hc:∀ x∈xs,∀ H',ag6 prog w KF d E H' (.st f) [.st C,x] fun y H''=>y=g x /\ H''=H') {ρ₀:List b7} {s₀:Shared}
 (hR:∀ ρ s,f0 ρ₀ s₀ ρ s -> d7 w KF F ρ (H₀.set i X5++[.list (xs.map g)]) s.heap (gt s) -> R (.ok (.ret res)) s) :
 ∀ (q n:Nat) (ρ:List b7) (s:Shared),xs.length - n=q -> n <= xs.length -> f0 ρ₀ s₀ ρ s -> d7 w KF F ρ (H₀.set i (y6 l n)++[.list ((xs.take n).map g)]) s.heap (gt s) -> ρ[mm]?=some em -> ρ[H₀.length]?=some eS ->
  ft (aA prog w) A (.builtin "list.extend.loop" ⟨[.ref eS.a,.ref em.a,res],[]⟩) R s:=by
 have at':∀ n,(H₀.set i (y6 l n)++[.list ((xs.take n).map g)])[i]?=some (y6 l n):=fun n=>s6 (bT hi)
 have am:∀ n,(H₀.set i (y6 l n)++[.list ((xs.take n).map g)])[mm]?=some (R7 i j):=fun n=>s6 (by rw [bZ him]; exact hm)
 have aj:∀ n,(H₀.set i (y6 l n)++[.list ((xs.take n).map g)])[j]?=some (M8 f C):=fun n=>s6 (by rw [bZ hij]; exact hj)
 have al:∀ n,(H₀.set i (y6 l n)++[.list ((xs.take n).map g)])[l]?=some (.list xs):=fun n=>s6 (by rw [bZ hil]; exact hl)
 have aS:∀ n m,(H₀.set i (y6 l n)++[.list ((xs.take m).map g)])[H₀.length]?=some (.list ((xs.take m).map g)):=fun n m=>by rw [show H₀.length=(H₀.set i (y6 l n)).length by rw [bH],af]
 intro q
 induction q with
 | zero =>
  intro n ρ s hq hn st S hem heS
  have hin:n=xs.length:=by exact aP1 hq hn
  subst hin
  refine dU PySem.F.entry_extend_loop ?_
  rw [di fj _]
  show ax _ A.in1 (cS (.ref em.a) >>= _) _ _ s
  refine ab (ar (cs5 (A:=A.in1) (i:=i) (j:=j) hA.hd S (at' _) (am _) (al _) hem) (fun r s' hx=>?_) fun _ _ x=>x.elim)
  (refine l9 hx fun qz7 st' S'=>?_; try clear hx; subst qz7)
  rw [bd9 (by rw [bH]; exact hi),db,dE] at S'
  exact ac (hR ρ s' (st.trans st') S')
 | succ q ih =>
  intro n ρ s hq hn st S hem heS
  have hlt:n < xs.length:=by exact aP2 hq hn
  refine dU PySem.F.entry_extend_loop ?_
  rw [di fj _]
  show ax _ A.in1 (cS (.ref em.a) >>= _) _ _ s
  refine ab (ar (cs3 (A:=A.in1) (d:=d) (hA.in1) S (at' _) (am _) (aj _) (al _) hij (aq hlt) hem (hc _ (dG hlt) _)) (fun r s' hx=>?_) fun _ _ x=>x.elim)
  (refine b9 hx fun v qz8 qz9=>?_; try clear hx; obtain ⟨ρ',H',y,st',S',ry,qz10⟩:=qz9; refine d0 qz10 fun qz11 qz12=>?_; clear qz10; subst qz8; subst qz11; subst qz12)
  rw [bd9 (by rw [bH]; exact hi),db] at S'
  have hem':=z4 st'.1 hem
  have heS':=z4 st'.1 heS
  (refine w5 (S'.ob H₀.length eS _ heS' (aS _ _)) fun e1 e2 vs qz13 hvs=>?_; obtain ⟨c,ho⟩:=qz13)
  have hvl:vs.length=n:=by rw [hvs.len,aD,bQ,cF hn]
  show ax _ A.in1 (gW eS.a (·.push v) >>= _) _ _ _
  refine ab (dy ho rfl ?_ (by rw [aI]; exact bH2 hz hlt hvl) (by show (vs.toArray.push v).size <= aB+1; rw [eU,aI]; exact bH3 hz hlt hvl))
  have hp:(s'.heap.update eS.a (bw (·.push v))).PlainList eS.a (vs++[v]).toArray:=by
   have:=aZ8 (fun xs:Array Value=>xs.push v) ⟨c,ho⟩
   simpa using this
  (refine d0 (S'.turn (tk:=s'.toks) (ys:=(xs.take (n+1)).map g) (us:=vs++[v]) (aS _ _) heS' (fun b o hb e=>(bz _ _ (cP hb)).trans e) hp (by rw [fJ hlt,aQ]; exact hvs.append (.cons ry .nil))) fun st2 S2=>?_)
  refine ac ⟨plainId_quiet fj _,ih (n+1) ρ' _ (by exact bH4 hq hlt hvl) hlt ((st.trans st').trans st2) ?_ hem' heS'⟩
  rw [gV _ _ (by rw [bH]; exact ao _)] at S2
  rw [show H₀.length - (H₀.set i (y6 l (n+1))).length=0 by rw [bH]; exact bH5] at S2
  exact S2
theorem cs8 {g:V -> V} {Q:V -> List O -> Prop} (hi:H[i]?=some (y6 l 0)) (hm:H[mm]?=some (R7 i j)) (hj:H[j]?=some (M8 f C)) (hl:H[l]?=some (.list xs)) (him:i≠mm) (hil:i≠l) (hij:i≠j) (hz:xs.length <= aB)
 (hc:∀ x∈xs,∀ H',ag6 prog w KF d E H' (.st f) [.st C,x] fun y H''=>y=g x /\ H''=H') (h:Q (.ref H.length) (H.set i X5++[.list (xs.map g)])):i5 prog w KF (d+3) E H (.ty "list") [.ref mm] Q:=fun A F ρ s u us hA S ru r=>by
 rw [ru.ty_eq]
 (refine e8 (r.cons_eq) fun v q qz14 rv rq=>?_; subst qz14)
 rw [rq.nil_eq]
 (refine b9 (rv.ref_eq) fun em hem qz15=>?_; subst qz15)
 refine callType_codes (Q₁:=fun obj s₁=>obj=.ref s.heap.objs.size /\ s₁={ s with heap:=s.heap.push { cls:=.type "list",data:=.seq #[] } }) PySem.F.called_list (PySem.F.typeCall_list_1 _) PySem.F.entry_list_init (code_list_new _ ⟨rfl,rfl⟩) fun obj s₁ h₁=>?_
 (refine d0 h₁ fun qz16 qz17=>?_; try clear h₁; subst qz16; subst qz17)
 have hS:(s.heap.push { cls:=.type "list",data:=.seq #[] }).get? s.heap.objs.size=some { cls:=.type "list",data:=.seq #[] }:=aK _ rfl
 refine (e9 (c5 _ hS rfl) (PySem.F.args_list_init_2 _ _) ?_)
 have kk:o8 s.heap (s.heap.push { cls:=.type "list",data:=.seq #[] }):=fun _ _ x=>ak _ x
 have S1:=S.alloc (o:=.list (((xs.take 0).map g))) kk (z5 _) ⟨_,hS⟩ (W4 rfl rfl ([]) ⟨0,hS⟩ .nil)
 have he1:(ρ++[⟨s.heap.objs.size,[s.heap.objs.size],none⟩]:List b7)[H.length]?=some ⟨s.heap.objs.size,[s.heap.objs.size],none⟩:=by rw [<- S.len,af]
 have hem1:=z4 (aF ρ [⟨s.heap.objs.size,[s.heap.objs.size],none⟩]) hem
 have st1:=f0.add (ρ:=ρ) (s:=s) (s':={ s with heap:=s.heap.push { cls:=.type "list",data:=.seq #[] } }) (a:=s.heap.objs.size) (r:=[]) (.of_keep kk) rfl (ao _)
 (refine n9 (S.ob mm em _ hem hm) fun _ _ qz18 _=>?_; obtain ⟨ei,ej,t,hei,hej,_,hom⟩:=qz18)
 have hne:s.heap.objs.size≠em.a:=cZ (bG hom)
 have hT:∀ h':Heap,(∀ b o,b≠s.heap.objs.size -> (s.heap.push { cls:=.type "list",data:=.seq #[] }).get? b=some o -> h'.get? b=some o) -> ({ s with heap:=h' }:Shared).TypeIs (.ref em.a) "map":=fun h' hk=>(c5 _ (hk _ _ hne.symm (kk _ _ hom)) rfl)
 show ax _ _ (do let old <- gw (.ref s.heap.objs.size); aP.List.listUpdate (.ref s.heap.objs.size) (fun _=>#[]); letGo old.toList.reverse; cI (.ref s.heap.objs.size) (.ref em.a) .none) _ _ _
 refine ab ?_
 unfold gw
 refine ab (cw hS rfl (ac ?_))
 show ax _ _ (gW s.heap.objs.size (fun _=>#[]) >>= fun _=>letGo (#[]:Array Value).toList.reverse >>= fun _=>cI (.ref s.heap.objs.size) (.ref em.a) .none) _ _ _
 refine ab (dy hS rfl (ab (ig ?_)))
 have hS1:=bM (a:=s.heap.objs.size) (bw (fun _=>(#[]:Array Value))) hS rfl
 have o1:∀ b o,b≠s.heap.objs.size -> (s.heap.push { cls:=.type "list",data:=.seq #[] }).get? b=some o -> ((s.heap.push { cls:=.type "list",data:=.seq #[] }).update s.heap.objs.size (bw (fun _=>(#[]:Array Value)))).get? b=some o:=fun b o hb e=>(bz _ _ (cP hb)).trans e
 generalize (s.heap.push { cls:=.type "list",data:=.seq #[] }).update s.heap.objs.size (bw (fun _=>(#[]:Array Value)))=h1 at hS1 o1 ⊢
 unfold cI
 have T1:=hT h1 o1
 refine ab (eR T1 ?_)
 have e1:fK (.ref s.heap.objs.size) (.ref em.a)=false:=by simp [fK,hne]
 have e2:(Value.type "map"==Value.type "list")=false:=by decide
 have e3:(Value.type "map"==Value.type "tuple")=false:=by decide
 simp only [e1,e2,e3,Bool.or_false,bq,if_false]
 refine ab (wpAny_pyIter_slot T1 bd5 (bP bd5 T1 cr2 ?_ (cr1 _)))
 show ax _ _ (ret (.ref em.a)) _ _ _
 refine ac (bv9 _ rfl ("map") _ T1 ag8.lookup (ab (aM ?_)))
 unfold aP.List.listLengthHint
 refine ab (cV T1 cr9 ?_)
 show ax _ _ (specialOf (Value.ref em.a) (aa "__length_hint__") >>= _) _ _ _
 refine ab (cV T1 cs0 (ac ?_))
 show ax _ _ (rule "list.extend.makes-room" >>= fun _=>aP.List.listTouch (.ref s.heap.objs.size) >>= fun _=>again (.builtin "list.extend.loop" ⟨[.ref s.heap.objs.size,.ref em.a,.none],[]⟩)) _ _ _
 refine ab (dB (ab ?_))
 show ax _ _ (gW s.heap.objs.size (·.push .none) >>= fun _=>gW s.heap.objs.size (·.pop)) _ _ _
 refine ab (dy hS1 rfl ?_)
 have hS2:=bM (bw (·.push Value.none)) hS1 rfl
 refine dy (hz:=by seq_fits) hS2 rfl ?_
 have hS3:=bM (bw (·.pop)) hS2 rfl
 have o3:∀ b o,b≠s.heap.objs.size -> (s.heap.push { cls:=.type "list",data:=.seq #[] }).get? b=some o -> ((h1.update s.heap.objs.size (bw (·.push Value.none))).update s.heap.objs.size (bw (·.pop))).get? b=some o:=fun b o hb e=>(bz _ _ (cP hb)).trans ((bz _ _ (cP hb)).trans (o1 b o hb e))
 generalize (h1.update s.heap.objs.size (bw (·.push Value.none))).update s.heap.objs.size (bw (·.pop))=h3 at hS3 o3 ⊢
 (refine d0 (S1.turn (s:={ s with heap:=s.heap.push { cls:=.type "list",data:=.seq #[] } }) (tk:=s.toks) (ys:=(xs.take 0).map g) (us:=[]) af he1 o3 ⟨_,hS3⟩ .nil) fun st3 S3=>?_)
 rw [gV _ _ (ao _),Nat.sub_self] at S3
 rw [show H++[O.list ((xs.take 0).map g)].set 0 (O.list ((xs.take 0).map g))=H++[O.list ((xs.take 0).map g)] from rfl,show H++[O.list ((xs.take 0).map g)]=H.set i (y6 l 0)++[O.list ((xs.take 0).map g)] by rw [cs6 hi]] at S3
 refine ac ⟨plainId_quiet fj _,?_⟩
 have hlt:=(ae.mp hi).1
 refine cs7 (A:=A.in1) (em:=em) (eS:=⟨s.heap.objs.size,[s.heap.objs.size],none⟩) (H₀:=H) (ρ₀:=ρ++[⟨s.heap.objs.size,[s.heap.objs.size],none⟩]) (s₀:={ s with heap:=s.heap.push { cls:=.type "list",data:=.seq #[] } }) hA.in1 hlt him hil hij hm hj hl hz hc (fun ρ' s' st' S'=>?_) xs.length 0 _ _ (by exact bH6) (bm _) st3 S3 hem1 he1
 refine ⟨rfl,ρ',_,.ref H.length,st1.trans st',S',?_,h⟩
 unfold VR
 exact (c5 _ (z4 st'.1 he1) rfl)
end
end
section
theorem cs9 (self:Value):bindSpecial (.builtin "tuple.__len__") self=pure (.builtin "tuple.__len__",[self]):=PySem.F.slot_tuple_len.bind self
theorem ct0:gv "tuple.__len__"=some .slot:=by decide +kernel
theorem ct1:splitId "tuple.__len__"=some ("tuple","__len__"):=by decide +kernel
theorem ct2 (a:Value):argsOk "tuple.__len__" ⟨[a],[]⟩:=by unfold argsOk; kernel_rfl
theorem ct3 (self:Value):bindSpecial (.builtin "tuple.__getitem__") self=pure (.builtin "tuple.__getitem__",[self]):=hV.bind self
theorem ct4:gv "tuple.__getitem__"=some .slot:=by decide +kernel
theorem ct5:splitId "tuple.__getitem__"=some ("tuple","__getitem__"):=by decide +kernel
theorem ct6 (a b:Value):argsOk "tuple.__getitem__" ⟨[a,b],[]⟩:=by unfold argsOk; kernel_rfl
section
variable {prog:Program} {w:World} {A:Around} {E:Value -> Shared -> Prop} {s:Shared} {C N a:Nat} {nm q:Str} {k0 k1 k2 k3 k5:Option Value}
theorem be0 {K:Frag} {o:Obj} {name:Str} {id:String} {us:List Value} {Q:Option Value -> Shared -> Prop} (X:K.In s.heap) (hf:fG K (.ref C) name=some (some (.builtin id))) (hb:∀ self,bindSpecial (.builtin id) self=pure (.builtin id,[self])) (ho:s.heap.get? a=some o) (hc:o.cls=.ref C)
 (h:ax (aA prog w) A (call (.builtin id) (.ref a::us)) (fun v=>Q (some v)) E s):ax (aA prog w) A (callSpecial? (.ref a) name us) Q E s:=by
 have ty:cX (aA prog w) s.heap (eP (.ref a)) (.ref C):=(dF ho).andThen (by rw [hc]; exact .now)
 unfold callSpecial?
 refine ab ((ty.andThen (fH X hf)).here ?_)
 dsimp only
 refine aM ?_
 rw [hb]
 refine ab (ac ?_)
 exact ab (ar h (fun _ _ z=>ac z) fun _ _ z=>z)
theorem ct7 {items:Array Value} {Q:Value -> Shared -> Prop} (hC:s.heap.get? C=some (C8 C N nm q k0 k1 k2 k3 k5)) (ha:E2 s.heap a C items) (h:Q (.int items.size s.toks) { s with toks:=s.toks+1 }):ax (aA prog w) A (call (.builtin "tuple.__len__") [.ref a]) Q E s:=by
 (refine J5 ha fun o ho hc n hd=>?_; try clear ha)
 have i1:cX (aA prog w) s.heap (iF (.ref a) (.type "tuple")) true:=((dF ho).andThen (by rw [hc]; exact .now)).andThen (U1 hC (.inr (.inl rfl)))
 refine cU (cL PySem.F.slot_tuple_len.plain PySem.F.entry_tuple_len (@check_slot (aA prog w) _ _ _ "tuple.__len__" "tuple" "__len__" (.ref a) [] [] _ ct0 ct1 i1 (ct2 _) ?_))
 show ax _ _ (eW (.ref a) >>= _) _ _ s
 refine ab (an6 ho hd ?_)
 exact ab (wpAny_mkInt (ac h))
end
section
variable {prog:Program} {w:World} {KF:Frag} {d:Nat} {E:i7} {H:List O} {Q:V -> List O -> Prop} {C N f:Nat} {xs:List V}
theorem ct8 (K:R6 KF C N f) (hln:fG KF (.ref C) "__len__"=some (some (.builtin "tuple.__len__"))) (hz:xs.length <= aB) (h:Q (.int xs.length) H):i5 prog w KF d E H (.bi "len") [.sub C xs] Q:=fun A F ρ s u us hA S ru r=>by
 rw [ru.bi_eq]
 (refine e8 (r.cons_eq) fun v q qz1 rv rq=>?_; subst qz1)
 rw [rq.nil_eq]
 unfold VR at rv
 (refine e8 rv fun a vs qz2 ha hvs=>?_; try clear rv; subst qz2)
 (refine L5 (K.cl) fun nm qq k0 k1 k2 k3 k5 hC=>?_)
 (refine o0 (id ha) fun o ho hc _=>?_)
 have hs:aB=2 ^ 24:=rfl
 have hl:=hvs.len
 refine Calls.call_function_entry PySem.kind_len PySem.plain_len PySem.entry_len (PySem.args_len1 _) ?_
 unfold aP.«len»
 refine ab (m:=oneArg "len" _) (ac (ab (m:=callSpecial? (.ref a) (aa "__len__")) (be0 S.b.k hln cs9 ho hc (ct7 (S.b.k _ _ hC) ha (ab (aM (ac (ab (ig ?_)))))))))
 show ax _ _ (if ((vs.toArray.size:Nat):Int) < 0 then _ else _) _ _ _
 rw [if_neg (by omega)]
 show ax _ _ (if ((vs.toArray.size:Nat):Int) >= 2 ^ 63 then _ else _) _ _ _
 rw [if_neg (by rw [aI,hl]; omega)]
 rw [aI,hl]
 exact ab (wpAny_mkInt (ac (c5 _ rfl (u7 S E4 h))))
end
end
section
noncomputable def B1 (m n:Nat):UInt64:=Float64.ofFrac false (2*m) n
noncomputable def be1:UInt64:=4611686018427387904
theorem aE5:∀ m:Fin 26,∀ n:Fin 51,Float64.div (Float64.mul be1 (eY (m.val:Int))) (eY ((n.val:Nat)+1:Int))=B1 m.val (n.val+1) /\ Float64.isInf (B1 m.val (n.val+1))=false /\ (fk (B1 m.val (n.val+1)) (B1 m.val (n.val+1))==some .eq)=true:=by decide +kernel
theorem aE6:∀ n:Fin 52,Float64.isInf (eY (n.val:Int))=false /\ (n.val≠0 -> Float64.isZero (eY (n.val:Int))=false):=by decide +kernel
section
variable {prog:Program} {w:World} {KF:Frag} {d:Nat} {E:i7} {H:List O} {Q:V -> List O -> Prop}
theorem ao1 {ρ:List b7} {h:Heap} {x:UInt64} {t:Tok} (ht:t≠0):VR ρ h (.flt x) (.float x t):=by unfold VR; exact (c5 t ht rfl)
theorem VR.flt_eq {ρ:List b7} {h:Heap} {x:UInt64} {v:Value} (r:VR ρ h (.flt x) v):∃ t,t≠0 /\ v=.float x t:=by unfold VR at r; exact r
theorem ct9 {fi:FI} {E:EP} {m:b8} {x:UInt64} {k:Nat} {pos:Pos} (h:Q (.flt x) H):WE prog w KF fi d E m H (.Constant (.float x) k pos) Q:=fun A env F ρ s hA S =>
 AutoFloatOps.wpAny_Constant_float ⟨ρ,H,_,.refl,S.tk (aY _),ao1 (cZ S.hs.tp),h⟩
theorem cu0 {a:UInt64} {n:Nat} (hn:n <= 51) (h:Q (.flt (Float64.mul a (eY (n:Int)))) H):W2 prog w KF d E VR H (dm .Mult) (.flt a) (.int (n:Nat)) Q:=fun A F ρ s u v hA S ru rv=>by
 (refine b9 (ru.flt_eq) fun t ht qz1=>?_; subst qz1); (refine c0 (rv.int_eq) fun t' qz2=>?_; subst qz2)
 exact AutoFloatOps.mul_fi_1 (by rw [(aE6 ⟨n,by exact aw4 hn⟩).1]; exact bL) (u7 S (ao1 (cZ S.tp)) h)
theorem cu1 {a:UInt64} {n:Nat} (hn:n <= 51) (h0:n≠0) (h:Q (.flt (Float64.div a (eY (n:Int)))) H):W2 prog w KF d E VR H (dm .Div) (.flt a) (.int (n:Nat)) Q:=fun A F ρ s u v hA S ru rv=>by
 (refine b9 (ru.flt_eq) fun t ht qz3=>?_; subst qz3); (refine c0 (rv.int_eq) fun t' qz4=>?_; subst qz4)
 exact AutoFloatOps.truediv_fi_2 (by rw [(aE6 ⟨n,by exact aw4 hn⟩).1]; exact bL) (by rw [(aE6 ⟨n,by exact aw4 hn⟩).2 h0]; exact bL) (u7 S (ao1 (cZ S.tp)) h)
theorem aE7 {m n:Nat} (hm:m <= 25) (hn:n <= 51) (h0:n≠0) (h:Q (.flt (B1 m n)) H):W2 prog w KF d E VR H (dm .Div) (.int ((2*m:Nat):Int)) (.int (n:Nat)) Q:=fun A F ρ s u v hA S ru rv=>by
 (refine c0 (ru.int_eq) fun t qz5=>?_; subst qz5); (refine c0 (rv.int_eq) fun t' qz6=>?_; subst qz6)
 have f:=aE5 ⟨m,by exact aw6 hm⟩ ⟨n - 1,by exact aw7 hn⟩
 rw [show n - 1+1=n by exact aw8 hn h0] at f
 have e:Float64.ofFrac (decide (((2*m:Nat):Int) < 0) !=decide (((n:Nat):Int) < 0)) ((2*m:Nat):Int).natAbs ((n:Nat):Int).natAbs=B1 m n:=by
  rw [decide_eq_false (by omega),decide_eq_false (by omega),Int.natAbs_natCast,Int.natAbs_natCast]; rfl
 refine AutoIntOps.truediv_2 (by simp; exact bH7 h0) (by rw [e,f.2.1]; exact bL) ?_
 rw [e]
 exact u7 S (ao1 (cZ S.tp)) h
end
end
section
set_option tactic.hygienic false
section
variable {prog:Program} {w:World} {A:Around} {E:Value -> Shared -> Prop} {s:Shared} {C N a:Nat} {nm q:Str} {k0 k1 k2 k3 k5:Option Value}
theorem cu2 {M:Model} {h:Heap} {b:Value} (hC:h.get? C=some (C8 C N nm q k0 k1 k2 k3 k5)) (hb:b≠.ref C /\ b≠.type "tuple" /\ b≠.type "object"):cX M h (eQ (.ref C) b) false:=by
 intro A Q E s k qq
 unfold eQ
 refine ab (ag5 hC A _ E s k ?_)
 have e:[.ref C,.type "tuple",.type "object"].contains b=false:=by simp [hb.1,hb.2.1,hb.2.2]
 dsimp only
 rw [if_neg (fun q=>nomatch q),e]
 exact ac qq
theorem cu3 {o:Obj} {k:Value} {name:Str} {Q:Value -> Shared -> Prop} (hC:s.heap.get? C=some (C8 C N nm q k0 k1 k2 k3 k5)) (ho:s.heap.get? a=some o) (hc:o.cls=.ref C) (h:Q k s):ax (aA prog w) A (sequenceKey (.ref a) k name) Q E s:=by
 have ty:cX (aA prog w) s.heap (eP (.ref a)) (.ref C):=(dF ho).andThen (by rw [hc]; exact .now)
 unfold sequenceKey
 refine ab (ty.here ?_)
 dsimp only
 refine ab ?_
 have key:ax (aA prog w) A (seqItemTypes.anyM fun n=>eQ (.ref C) (.type n)) (fun b s'=>b=false /\ s'=s) E s:=by
  unfold seqItemTypes
  simp only [List.anyM]
  repeat (first | exact ac ⟨rfl,rfl⟩ | refine ab ((cu2 hC (e9 (by simp) (by simp) (by simp))).here ?_))
 refine ar key (fun b s' hb=>?_) fun _ _ x=>x
 (refine d0 hb fun qz1 qz2=>?_; try clear hb; subst qz1; subst qz2)
 rw [if_pos (by rfl)]
 exact ac h
theorem cu4 {K:Frag} {items:Array Value} {k:Int} {u:Tok} {j:Nat} {x:Value} {Q:Value -> Shared -> Prop} (X:K.In s.heap) (hf:fG K (.ref C) "__getitem__"=some (some (.builtin "tuple.__getitem__"))) (hC:s.heap.get? C=some (C8 C N nm q k0 k1 k2 k3 k5)) (ht:E2 s.heap a C items)
 (hlo:-(2 ^ 63) <= k) (hhi:k < 2 ^ 63) (hj:seqIndex? k items.size=some j) (hx:items[j]?=some x) (h:Q x s):ax (aA prog w) A (getItem (.ref a) (.int k u)) Q E s:=by
 (refine J5 (id ht) fun o ho hc n hd=>?_)
 have i1:cX (aA prog w) s.heap (iF (.ref a) (.type "tuple")) true:=((dF ho).andThen (by rw [hc]; exact .now)).andThen (U1 hC (.inr (.inl rfl)))
 unfold getItem
 refine aM (ab (cu3 hC ho hc (ab (be0 X hf ct3 ho hc (cU (cL hV.plain PySem.F.entry_tuple_getitem (@check_slot (aA prog w) _ _ _ "tuple.__getitem__" "tuple" "__getitem__" (.ref a) [.int k u] [] _ ct4 ct5 i1 (ct6 _ _) ?_)))))))
 show ax _ _ (eW (.ref a) >>= _) _ _ s
 refine ab (an6 ho hd (ab (eR (typeIs_int s k u) ?_)))
 rw [if_neg (by decide)]
 refine ab (cV (T:="int") (typeIs_int s k u) int_index ?_)
 rw [if_neg (by simp)]
 refine ab (bX (a:=k) rfl ?_)
 rw [if_neg (by simp only [Bool.or_eq_true,decide_eq_true_eq]; exact bH8 hlo hhi)]
 simp only [hj,dZ,hx]
 exact ac (ac h)
theorem cu5 {K:Frag} {o:Obj} {id:String} {Q:Bool -> Shared -> Prop} (X:K.In s.heap) (hf:fG K (.ref C) "__getitem__"=some (some (.builtin id))) (ho:s.heap.get? a=some o) (hc:o.cls=.ref C) (h:Q false s):ax (aA prog w) A (getitemInPython (.ref a)) Q E s:=by
 have ty:cX (aA prog w) s.heap (eP (.ref a)) (.ref C):=(dF ho).andThen (by rw [hc]; exact .now)
 unfold getitemInPython
 exact ab ((ty.andThen (fH X hf)).here (ac h))
theorem cu6 {K:Frag} {x:Str} {p1 p2 p3 p4:Pos} {k:Nat} {cenv:Env} {mv:Str -> Option Value} {items:Array Value} {v:Value} {Q:Value -> Shared -> Prop} (hk:cenv.scope.kind=.function) (hx:cenv.kindOf x=some .local) (hn:s.heap.Ns cenv.locals mv) (hm:mv x=some (.ref a)) (hdb:(x==("__debug__":Str))=false)
 (X:K.In s.heap) (hf:fG K (.ref C) "__getitem__"=some (some (.builtin "tuple.__getitem__"))) (hC:s.heap.get? C=some (C8 C N nm q k0 k1 k2 k3 k5)) (ht:E2 s.heap a C items) (h1:1 <= items.size) (hz:items.size <= 100) (hv:items[items.size - 1]?=some v) (h:∀ tk,s.toks <= tk -> Q v { s with toks:=tk }) :
 ax (aA prog w) A (eval (.Subscript (.Name x p1) (.UnaryOp .USub (.Constant (.int 1) k p2) p3) p4) cenv) Q E s:=by
 (refine o0 (id ht) fun o ho hc _=>?_)
 refine Subscript_ (iD (dQ hk hx hn hm ?_) hdb)
 refine wpAny_UnaryOp (wpAny_Constant_int (PySem.P.neg_int ?_))
 have e:∀ i,hW (.Name x p1) (.UnaryOp .USub (.Constant (.int 1) k p2) p3) (.ref a) i=(do let r <- J0 (.ref a) i; letTemporaryGo (.Name x p1) (.ref a) r; pure r):=fun i=>by
  have hs:∀ b o i,subscripted (.UnaryOp .USub (.Constant (.int 1) k p2) p3) b o i=(match b with | true=>runValue (.builtin "lifetime.subscript" ⟨[o,i],[]⟩) | false=>operate [o,i] (getItem o i)):=by intro b o i; cases b<;>rfl
  unfold hW J0
  first
   | (simp only [hs,bind_assoc]; rfl)
   | simp only [hs,bind_assoc]
 rw [e]
 unfold J0
 refine ab (ab (cu5 (s:={ s with toks:=s.toks+1+1 }) X hf ho hc ?_))
 dsimp only
 refine wpAny_operating (cu4 (s:={ s with toks:=s.toks+1+1 }) (j:=items.size - 1) X hf hC ht (by omega) (by omega) (by unfold seqIndex?; simp; omega) hv ?_)
 exact ab (hO (ac (h _ (bd _ 2))))
end
end
section
section
variable {prog:Program} {w:World} {KF:Frag} {fi:FI} {d:Nat} {E:EP} {m:b8} {H:List O}
noncomputable abbrev lastOf (x:Str) (p1 p2 p3 p4:Pos) (k:Nat):Expr:=.Subscript (.Name x p1) (.UnaryOp .USub (.Constant (.int 1) k p2) p3) p4
noncomputable def P4 (ts:List T3) (j:Nat):Int:=(t9 ts j).2.2
theorem aE8 {ts:List T3} (h:∀ t∈ts,0 <= t.2.2 /\ t.2.2 <= 100):∀ n,n <= ts.length -> 0 <= preSum (P4 ts) n /\ preSum (P4 ts) n <= 100*n /\ preSum (P4 ts) n=((ts.take n).map (·.2.2)).sum
 | 0,_=>(e9 (Int.le_refl _) (Int.le_refl _) (by simp [preSum]))
 | n+1,hn=>by
  (refine l9 (aE8 h n (by exact aj9 hn)) fun h1 h2 h3=>?_)
  have e:t9 ts n=ts[n]:=by unfold t9; rw [bo,aq (by exact aw5 hn)]; rfl
  have b:=h ts[n] (dG (by exact aw5 hn))
  unfold preSum P4
  rw [e]
  refine (e9 (by show 0 <= preSum (P4 ts) n+_; exact bH9 hn h1 h3 b) (by show preSum (P4 ts) n+_ <= 100*((n+1:Nat):Int); rw [Int.natCast_succ,Int.mul_add,Int.mul_one]; exact Int.add_le_add h2 b.2) ?_)
  show preSum (P4 ts) n+_=_
  rw [h3,fJ (by exact aw5 hn),aQ,List.sum_append]
  simp
noncomputable def X6 (H:List O) (k:Nat):O -> O
 | .clk n=>match H[k]? with
  | some (.clk n₀)=>if n=n₀ then .clk n else .clk 0
  | _=>.clk 0
 | o=>o
noncomputable def U2 (H H1:List O):List O:=H1.zipIdx.map fun x=>X6 H x.2 x.1
theorem be2 {H H1:List O} {k:Nat}:(U2 H H1)[k]?=(H1[k]?).map (X6 H k):=by
 unfold U2
 rw [aU,List.getElem?_zipIdx]
 cases H1[k]? with
 | none=>rfl
 | some o=>simp
theorem be3 {H H1:List O} {k:Nat} {o:O} (h:H1[k]?=some o) (hk:(∀ n,o≠.clk n) \/ H[k]?=some o):(U2 H H1)[k]?=some o:=by
 rw [be2,h]
 show some (X6 H k o)=some o
 cases o
 case clk n =>
  rcases hk with q | q
  · exact absurd rfl (q n)
  · show some (match H[k]? with | some (.clk n₀)=>if n=n₀ then O.clk n else .clk 0 | _=>.clk 0)=_
    rw [q]
    show some (if n=n then O.clk n else .clk 0)=_
    rw [if_pos rfl]
 all_goals rfl
theorem be4 {H:List O} {i n:Nat}:(X6 H i (.clk n)=.clk n /\ H[i]?=some (.clk n)) \/ X6 H i (.clk n)=.clk 0:=by
 show ((match H[i]? with | some (.clk n₀)=>if n=n₀ then O.clk n else .clk 0 | _=>.clk 0)=_ /\ _) \/ (match H[i]? with | some (.clk n₀)=>if n=n₀ then O.clk n else .clk 0 | _=>.clk 0)=_
 cases q:H[i]? with
 | none=>exact .inr rfl
 | some o =>
  cases o
  case clk n₀ =>
   show ((if n=n₀ then O.clk n else .clk 0)=_ /\ _) \/ (if n=n₀ then O.clk n else .clk 0)=_
   by_cases e:n=n₀
   · subst e; rw [if_pos rfl]; exact .inl ⟨rfl,rfl⟩
   · rw [if_neg e]; exact .inr rfl
  all_goals exact .inr rfl
theorem d7.tcm {F F':d6} {ρ ρ₀:List b7} {H H1:List O} {h h₀:Heap} {gs g:GT} {k:Nat} (T:d7 w KF F ρ H1 h gs) (S:d7 w KF F' ρ₀ H h₀ g) (hn:g.n <= k):d7 w KF F ρ (U2 H H1) h ⟨gs.a,k⟩:=by
 have len:(U2 H H1).length=H1.length:=by unfold U2; rw [aD,List.length_zipIdx]
 have back:∀ {i:Nat} {o:O},(U2 H H1)[i]?=some o -> ∃ o1,H1[i]?=some o1 /\ o=X6 H i o1:=fun {i o} e=>by
  rw [be2] at e
  (refine b9 (bp.mp e) fun o1 h1 h2=>?_)
  exact (c5 o1 h1 h2.symm)
 refine ⟨T.bs,T.keep,T.len.trans len.symm,fun i e o hi ho=>?_,T.live,T.nd,T.off,T.gn,fun q z hz=>(T.bare q z hz).imp id (au3 fun i e o env h1 h2 h3 h4=>(t7 i e o env h1 h2 (be3 h3 (.inl fun n e=>by rw [e] at h4; cases h4)) h4)),fun i e o hi ho=>?_,T.fo,aW S.tp hn⟩
 · (refine b9 (back ho) fun o1 h1 qz1=>?_; subst qz1)
   have x:=T.ob i e o1 hi h1
   cases o1
   case clk n =>
    have c:∃ n',X6 H i (.clk n)=.clk n':=be4.elim (fun q=>⟨_,q.1⟩) fun q=>⟨_,q⟩
    (refine c0 c fun n' c=>?_)
    rw [c]; exact x
   all_goals exact x
 · (refine b9 (back ho) fun o1 h1 qz2=>?_; subst qz2)
   have x:=T.gf i e o1 hi h1
   cases o1
   case clk n =>
    rcases be4 (H:=H) (i:=i) (n:=n) with ⟨c,q⟩ | c
    · rw [c]
      have hi':i < ρ₀.length:=by rw [S.len]; exact (ae.mp q).1
      exact ag (S.gf i _ _ (aq hi') q) hn
    · rw [c]; exact bm _
   all_goals exact x
theorem cu7 {x sn:Str} {p1 p2 p3 p4 px sp gpos pos:Pos} {k:Nat} {iter:Expr} {scope:Scope} {i c P C N f b4:Nat} {o4:Obj} {Q:V -> List O -> Prop}
 (hc:fi.co=.ref c) (CI:af4 KF c P) (hb4:nsIn KF aT "__builtins__"=some (some (.ref b4))) (h4:KF.lookup b4=some o4) (h4b:b4≠ew /\ o4.cls=.type "module" /\ o4.dict=some ew /\ o4.data=.plain)
 (hs:fi.sc.names.lookup sn=some .globalImplicit) (eS:nsIn KF aT sn=some none) (bS:bU sn=some (.builtin "sum")) (dS:(sn==("__debug__":Str))=false) (nS:sn≠"__name__")
 (hco:scope.isCoroutine=false) (hfree:∀ y∈scope.names,y.2≠.free) (hcell:∀ y∈scope.names,y.2≠.cell) (h0:scope.names.lookup (".0":Str)=some NameKind.local) (hx:scope.names.lookup x=some .local) (hkind:scope.kind=.function) (hdb:(x==("__debug__":Str))=false)
 (K:R6 KF C N f) (hf:fG KF (.ref C) "__getitem__"=some (some (.builtin "tuple.__getitem__")))
 (hit:WE prog w KF fi d M5 m H iter fun v H1=>∃ (l:Nat) (ts:List T3) (ps:Array Value),v=.ref l /\ H1[l]?=some (.list (ts.map (K3 C))) /\ H1[i]?=some (.tbl P ps) /\ ts.length <= 100 /\ (∀ t∈ts,0 <= t.2.2 /\ t.2.2 <= 100) /\ ∀ H2:List O,(∀ (k:Nat) (o:O),H1[k]?=some o -> ((∀ n,o≠.clk n) \/ H[k]?=some o) -> H2[k]?=some o) -> Q (.int (ts.map (·.2.2)).sum) H2)
 (hfold:∀ env v,genFold iter env v=pure v:=by intro _ _; rfl)
 (hpg:C5 [.GeneratorExp (lastOf x p1 p2 p3 p4 k) [⟨.Name x px,iter,[],0⟩] scope gpos]:=by intro _; rfl)
 (he:∀ env,eval (.Call (.Name sn sp) [.GeneratorExp (lastOf x p1 p2 p3 p4 k) [⟨.Name x px,iter,[],0⟩] scope gpos] [] pos) env=(do dT pos (<- eval (.Name sn sp) env) [] (dX pos (dR [.GeneratorExp (lastOf x p1 p2 p3 p4 k) [⟨.Name x px,iter,[],0⟩] scope gpos] env)) (backToKw pos (gr [] env))):=by intro _; rfl) :
 WE prog w KF fi d E m H (.Call (.Name sn sp) [.GeneratorExp (lastOf x p1 p2 p3 p4 k) [⟨.Name x px,iter,[],0⟩] scope gpos] [] pos) Q :=
 fun A env F ρ s hA S=>bA (ao _) (by
  refine ar ?_ (fun _ _ x=>x) fun _ _ x _=>x
  obtain ⟨mg,hg⟩:=S.b.g
  (refine b9 (S.b.bi) fun mb hmb hb'=>?_)
  refine Call_ (dA S.kd ((S.kind sn).trans hs) (fA (S.eg▸hg) (al1 S.b.k hg eS) (S.eb▸hmb) ((hb' sn nS).trans bS) ?_) dS) (he env)
  rw [hpg env]
  refine gq O9 (fg (fU (wpAny_GeneratorExp_walksQ (env:=env) hA.hd hco (closureFor_none hfree) hcell h0 hx hkind hA.depth ?_ (hfold env))))
  refine ar (hit A env F ρ s hA S) (fun xv s2 hx=>?_) fun _ _ x=>(F7 x).elim
  (obtain ⟨ρ2,H2,v,st2,S2,rv,qz3⟩:=hx; refine bt0 qz3 fun l ts ps e hl hT hlen hts hQ=>?_; clear qz3)
  subst e
  (refine b9 (rv.ref_eq) fun el hel qz4=>?_; subst qz4)
  (refine w5 (S2.hs.ob l el _ hel hl) fun la lb vs hpl hvs=>?_)
  obtain ⟨n,hn⟩:∃ n,n=s2.heap.objs.size:=⟨_,rfl⟩
  refine wpAny_pyIter_list hpl.isList ?_
  have k₃:o8 s2.heap (s2.heap.push { cls:=.type "list_iterator",data:=.fields #[.ref el.a,.int 0 0] }):=fun _ _ q=>ak _ q
  have i3:(s2.heap.push { cls:=.type "list_iterator",data:=.fields #[.ref el.a,.int 0 0] }).get? n=some { cls:=.type "list_iterator",data:=.fields #[.ref el.a,.int 0 0] }:=by rw [hn]; exact aK _ rfl
  rw [<- hn]
  generalize s2.heap.push { cls:=.type "list_iterator",data:=.fields #[.ref el.a,.int 0 0] }=h3 at k₃ i3 ⊢
  have S3:d8 w KF fi env m F ρ2 H2 h3 (gt s2):=S2.keeps k₃
  refine ⟨S3.b.lim,(ar (aY0 (ps:=ps) (E:=fun _ _=>False) (S3.ec.trans hc) CI S3.b (S3.hs.tab hT)) (fun code s4=>W0 fun h₄ tk4 e4 g4=>?_) fun _ _ x=>x.elim)⟩
  subst e4
  (refine d0 (S3.toH.grown hT g4) fun T₄ tk43=>?_)
  have S4:=S3.ofH (az _) tk43 T₄
  (refine c0 (S4.b.g) fun mg hg=>?_)
  refine wpAny_builtinsFor (by rw [S4.eg]; exact hg) (mg_of S4.b.k hg hb4) h4b.1 (S4.b.k _ _ h4) h4b.2.1 h4b.2.2.1 h4b.2.2.2 ?_
  have hold:∀ b o,b≠P -> s2.heap.get? b=some o -> h₄.get? b=some o:=fun b o hb e=>g4.old b o hb (k₃ b o e)
  have PS:∃ o,s2.heap.get? P=some o:=by
   (refine b9 ((S2.hs.tab hT).tab) fun more _ hP=>?_)
   exact ⟨_,hP⟩
  have Plt:P < n:=by (refine c0 PS fun o ho=>?_; try clear PS); rw [hn]; exact bG ho
  have i4:=g4.old n _ (by exact bI0 hn Plt) i3
  have lt4:n < h₄.objs.size:=bG i4
  have cst:cStatics < n:=by
   (refine b9 (S2.b.lim) fun mc hm _=>?_)
   rw [hn]; exact hm.lt
  have lin:el.a < n:=by (refine b9 (hpl.isList) fun o ho _=>?_); rw [hn]; exact bG ho
  have noP:∀ b o,s2.heap.get? b=some o -> o.cls≠.none -> b≠P:=fun b o ho hcl q=>by
   (refine b9 ((S2.hs.tab hT).tab) fun more _ hP=>?_)
   rw [q,hP] at ho; cases ho; exact hcl rfl
  have L₄:h₄.IsList el.a vs.toArray:=by
   (refine o0 (hpl.isList) fun o ho hcl r=>?_)
   exact (i0 o (hold _ _ (noP _ _ ho (by rw [hcl]; exact fun q=>nomatch q)) ho) hcl r)
  have hvl:vs.length=ts.length:=by rw [hvs.len,aD]
  refine (bx4 n ([n,el.a]) ([n]) vs.toArray.size _ _ (fun _=>true) (fun j v=>∃ t tok,ts[j]?=some t /\ v=.int t.2.2 tok) rfl (fun A' hA'=>Walks.list hA' n el.a (bI lin) vs.toArray) ⟨(i0 _ i4 rfl rfl),L₄⟩ ?_ S4.b.lim ?_ ?_ ?_)
  · intro b hb
    rcases aJ.mp hb with e | hb
    · rw [e]; exact lt4
    · rw [au.mp hb]; show el.a < h₄.objs.size; exact aP3 hn lt4 lin
  · exact fun hm=>absurd (au.mp hm) (bI cst)
  · intro href hk
    refine ⟨fun A' E' j v s₅ m2 hA' hP hn' hm hkp=>?_,fun A' E' j v s₅ m2 hA' hP hpz hn' hm hkp=>?_⟩
    · exact ac ⟨rfl,s₅.heap,s₅.toks,rfl,fun _ _ e=>e⟩
    · have up:∀ b o,b < n -> h₄.get? b=some o -> s₅.heap.get? b=some o:=fun b o hb e=>hkp b (cQ.mpr (by show b < h₄.objs.size; exact aP3 hn lt4 hb)) (fun q=>absurd (au.mp q) (bI hb)) o (hk b o e)
      have X₅:KF.In s₅.heap:=fun a o e=>up a o (by rw [hn]; exact bG (S2.b.k a o e)) (S4.b.k a o e)
      (refine L5 (K.cl) fun nm qq k0 k1 k2 k3 k5 hC=>?_)
      have hj:j < ts.length:=by have:=(cN.mp hP).1; rw [aI,hvl] at this; exact this
      (refine b9 (hvs.get' (i:=j) (v:=v) (by simpa using hP)) fun y hy ry=>?_)
      rw [aU,aq hj] at hy
      cases hy
      (refine ai9 (an7 ry) fun t' t1 t2 t3 qz5 ht'=>?_; subst qz5)
      have ht5:E2 s₅.heap t' C #[.int ts[j].1 t1,.int ts[j].2.1 t2,.int ts[j].2.2 t3]:=by
       (refine o0 ht' fun o ho hcl r=>?_; try clear ht')
       exact (i0 o (up _ _ (by rw [hn]; exact bG ho) (hold _ _ (noP _ _ ho (by rw [hcl]; exact fun q=>nomatch q)) ho)) hcl r)
      refine cu6 (K:=KF) (cenv:=genEnv scope [] h₄.objs.size code ew env) (v:=.int ts[j].2.2 t3) hkind (by simpa [genEnv,cJ] using hx) hn' hm hdb X₅ hf (X₅ _ _ hC) ht5 (show 1 <= 3 by decide) (show 3 <= 100 by decide) (by rfl) fun tk htk=>?_
      exact ⟨(L6 (ts[j]) t3 (aq hj) rfl),s₅.heap,tk,rfl,fun _ _ e=>e⟩
  · intro a h5 tk gs hbare hlt hsz5 keep5 W st
    refine iH ?_
    have ha5:h5.objs.size=a+1:=hsz5
    have W1:=W.of_in1.of_in1.of_in1
    have np:(passing (fun _=>true) vs.toArray.size 0).length=ts.length:=by rw [af5,dn,aI,hvl]
    refine call_sum_walkS (W1.self 0 _ _ _ st ((bx2 a _ _ _ _ _ _ (P4 ts) rfl W1 st (fun b hb=>?_) (fun j v hv=>?_) (fun j hj=>?_) (fun s' t' mv=>?_))))
    · show b < h5.objs.size
      rw [ha5]
      rcases aJ.mp hb with e | hb
      · rw [e]; exact cK _
      · have hlt':h₄.objs.size < a:=hlt
        rcases aJ.mp hb with e | hb
        · rw [e]; exact iI hlt
        · exact iI (iB (cQ.mp hb) hlt)
    · (refine bs0 hv fun i' hi' t tok h1 h2=>?_; try clear hv)
      rw [af5,ae] at hi'
      (refine c0 hi' fun q1 q2=>?_; try clear hi')
      rw [List.getElem_range] at q2
      subst q2
      refine ⟨tok,?_⟩
      rw [h2]
      unfold P4 t9
      rw [bo,h1]; rfl
    · rw [np] at hj
      have p1:=aE8 hts (j+1) (by exact bI1 hvl np hj)
      have e:t9 ts j=ts[j]:=by unfold t9; rw [bo,aq hj]; rfl
      have b:=hts ts[j] (dG hj)
      unfold InLong
      refine (e9 ?_ (Int.le_trans (by decide) p1.1) (by omega))
      unfold P4
      rw [e]; exact ⟨Int.le_trans (by decide) b.1,Int.lt_of_le_of_lt b.2 (by decide)⟩
    · have hge:∀ b,b < n -> b ∉ (h₄.objs.size::[n]):=fun b hb q=>by
       rcases aJ.mp q with e | q
       · exact bI2 hn lt4 hb e
       · have:=au.mp q; exact bI3 hn hb this
      have g:aa3 P ps s2.heap s'.heap:=⟨fun b o hb e=>mv.heap b o (hge b (by rw [hn]; exact bG e)) (keep5 b o (hold b o hb e)),by
       (refine b9 (g4.tab) fun more ht hP=>?_)
       exact (c5 more ht (mv.heap P _ (hge P Plt) (keep5 P _ hP)))⟩
      (refine d0 (S2.toH.grown hT g) fun T' tk'=>?_)
      have hb':∀ (k:Nat) z,s'.gens[k]?=some z -> z.bare=true \/ s2.gens[k]?=some z:=fun k z hz=>by
       rcases (show GenOnlyQ _ (s2.gens.push gs) s'.gens from mv.gens) with e | e
       · rw [e,fM] at hz
         split at hz
         · rw [<- cE hz]; exact .inl hbare
         · exact .inr hz
       · by_cases q:k=s2.gens.size
         · rw [q] at hz; exact .inl (e.2 z hz)
         · rw [e.1.2 _ q,fM,if_neg q] at hz; exact .inr hz
      have hpp:∀ e∈ρ2,e.fp≠[] -> ∀ (x:Nat×Env) c,e.g=some x -> s2.gens[x.1]?=some c -> s'.gens[x.1]?=some c:=fun e _ _ x c _ hx=>by
       have hlt:x.1 < s2.gens.size:=(cN.mp hx).1
       have hx':(s2.gens.push gs)[x.1]?=some c:=by rw [Array.getElem?_push_lt hlt]; rw [cA hlt] at hx; exact hx
       rcases (show GenOnlyQ _ (s2.gens.push gs) s'.gens from mv.gens) with e | e
       · rw [e]; exact hx'
       · rw [e.1.2 _ (bI hlt)]; exact hx'
      have hgs:s2.gens.size <= s'.gens.size:=by
       have hp:(s2.gens.push gs).size <= s'.gens.size:=by
        rcases (show GenOnlyQ _ (s2.gens.push gs) s'.gens from mv.gens) with e | e
        · rw [e]; exact ao _
        · rw [e.1.1]; exact ao _
       rw [eU] at hp
       exact aj9 hp
      intro ht
      rw [np,(aE8 hts ts.length (ao _)).2.2,dE]
      exact ⟨ρ2,U2 H H2,_,st2.trans (.same tk' mv.os hgs),S2.ofH (az _) tk' ((T'.gens hb' hpp hgs).tcm S.hs ht),by unfold VR; exact ⟨_,rfl⟩,hQ _ fun k o h1 h2=>be3 h1 h2⟩)
end
end
section
section
variable {prog:Program} {w:World} {KF:Frag} {fi:FI} {d:Nat} {E:EP} {m:b8} {H:List O}
theorem cu8 {i:Str} {k c n:Nat} {pos:Pos} {Q:V -> List O -> Prop} (hc:H[c]?=some (.clk n)) (h:∀ t,n <= t -> t≠0 -> Q (.stk i t) (H.set c (.clk (t+1)))):WE prog w KF fi d E m H (.Constant (.str i) k pos) Q :=
 fun A env F ρ s hA S=>bV (by
  (refine l9 (S.toH.tick (fun _ _ q=>q) hc) fun h1 h2 T=>?_)
  exact ⟨ρ,_,.stk i s.toks,.same (.refl _) rfl (ao _),S.ofH (az _) (.refl _) T,ag3 h2,h _ h1 h2⟩)
end
section
variable {prog:Program} {w:World} {KF:Frag} {d:Nat} {E:i7} {H:List O} {Q:V -> List O -> Prop}
theorem cu9 {c n t':Nat} {x y:Str} (hc:H[c]?=some (.clk n)) (hy:y.length≠0) (hz:x.length+y.length <= aB) (h0:x.length=0 -> Q (.stk y t') H) (h:x.length≠0 -> ∀ t,n <= t -> t≠0 -> Q (.stk (x++y) t) (H.set c (.clk (t+1)))):W2 prog w KF d E VR H (dm .Add) (.str x) (.stk y t') Q:=fun A F ρ s u v hA S ru rv=>by
 (refine c0 (ru.str_eq) fun t qz1=>?_; subst qz1); (refine d0 (rv.stk_eq) fun ht qz2=>?_; subst qz2)
 refine P.add_str ?_
 by_cases hx:x.length=0
 · rw [if_pos (by simpa using hx)]
   exact y4 S (ag3 ht) (h0 hx)
 rw [if_neg (by simpa using hx),if_neg (by simpa using hy)]
 (refine l9 (S.tick (fun _ _ q=>q) hc) fun h1 h2 T=>?_)
 refine ⟨by rw [Str.length_append]; exact hz,ρ,_,.stk (x++y) s.toks,.same (.refl _) rfl (ao _),T,ag3 h2,h hx _ h1 h2⟩
theorem cv0:∀ k:Nat,k < 24 -> aP.Int.intTooBig (((aP.Int.intBits 4:Nat):Int)*(k:Int))=false:=by decide +kernel
theorem cv1:∀ k:Nat,k < 24 -> ((4:Int) ^ k).natAbs.log2 < 9000:=by decide +kernel
theorem cv2 {k:Nat} (hk:k < 24) (h:Q (.int (4 ^ k)) H):W2 prog w KF d E VR H (dm .Pow) (.int 4) (.int (k:Nat)) Q:=fun A F ρ s u v hA S ru rv=>by
 (refine c0 (ru.int_eq) fun t qz3=>?_; subst qz3); (refine c0 (rv.int_eq) fun t' qz4=>?_; subst qz4)
 by_cases q:k=0
 · subst q
   exact PySem.AutoIntOps.pow_0 (by decide) (by decide) (u7 S E4 h)
 · refine PySem.AutoIntOps.pow_4 (bK _) (by simpa using q) (by decide) (by decide) ?_ ?_
   · rw [cv0 k hk]; decide
   · exact u7 S E4 h
theorem cv3 {k:Nat} {x:Int} (hk:k < 24) (h:Q (.int (x.fdiv (4 ^ k))) H):W2 prog w KF d E VR H (dm .FloorDiv) (.int x) (.int (4 ^ k)) Q:=aV0 (Int.pow_ne_zero (by decide)) (PyProof.noPylong_of_log2 (cv1 k hk)) h
end
end
section
set_option tactic.hygienic false
theorem cv4 {l:List Nat} {c:Nat} (hc:c∈l):∃ r,aP.Str.occurrences (S l) (S [c]) 0 (S l).length 1=l.idxOf c::r:=by
 have hat:∀ i,PySem.StrLaws.At (S l) (S [c]) (S l).length i↔l[i]?=some c:=fun i=>by
  have:=PySem.StrLaws.subAt_one (S l) c i
  simpa [S,PySem.StrLaws.At] using this
 rcases PySem.StrLaws.occ_head (S l) (S [c]) 1 (ao 1) with ⟨h0,hn⟩ | ⟨i,r,h0,hi,hn⟩
 · (refine c0 (bJ hc) fun i hi=>?_)
   exact absurd ((hat i).mpr hi) (hn i)
 · refine ⟨r,?_⟩
   rw [h0]
   congr 1
   have h1:=(hat i).mp hi
   have h2:∀ k,k < i -> l[k]?≠some c:=fun k hk q=>hn k hk ((hat k).mpr q)
   have hk:l[l.idxOf c]?=some c:=by
    rw [aq (eT hc),List.getElem_idxOf]
   have a1:¬ l.idxOf c < i:=fun q=>h2 _ q hk
   have a2:¬ i < l.idxOf c:=fun q=>by
    have:=List.not_of_lt_findIdx (p:=(·==c)) (xs:=l) q
    (refine c0 (ae.mp h1) fun hl e=>?_)
    rw [e] at this
    simp at this
   exact bI4 a1 a2
section
variable {prog:Program} {w:World} {KF:Frag} {d:Nat} {E:i7} {H:List O} {Q:V -> List O -> Prop}
theorem be5 {x:Str}:C6 prog w KF H (.str x) "index" (.bi "str.index"):=fun A F ρ s u pl K E' S r h=>by
 (refine c0 (r.str_eq) fun t qz1=>?_; subst qz1); exact GM.index (h _ W9)
theorem be6 {l:List Nat} {c:Nat} (hc:c∈l) (h:Q (.int (l.idxOf c:Nat)) H):i5 prog w KF d E H (.bi "str.index") [.str (S l),.str (S [c])] Q:=fun A F ρ s u us hA S ru r=>by
 rw [ru.bi_eq]
 (refine e8 (r.cons_eq) fun v q qz2 rv rq=>?_; subst qz2)
 (refine e8 (rq.cons_eq) fun v' q' qz3 rv' rq'=>?_; subst qz3)
 rw [rq'.nil_eq]
 (refine c0 (rv.str_eq) fun t qz4=>?_; subst qz4)
 (refine c0 (rv'.str_eq) fun t' qz5=>?_; subst qz5)
 (refine c0 (cv4 hc) fun r ho=>?_)
 exact SC.index ho (u7 S E4 h)
theorem cv5 (c n:Nat):Txt.mul (S [c]) (n:Nat)=S (aZ n c):=by
 have:=mul_one_list c (n:Int)
 show (⟨(Txt.mul ⟨#[c]⟩ (n:Int)).cps⟩:Str)=_
 rw [<- aX2 (Txt.mul ⟨#[c]⟩ (n:Int)),this,gK]
theorem aE9 {c n:Nat} (hn:n <= 16777216) (h:Q (.str (S (aZ n c))) H):W2 prog w KF d E VR H (dm .Mult) (.str (S [c])) (.int (n:Nat)) Q:=fun A F ρ s u v hA S ru rv=>by
 (refine c0 (ru.str_eq) fun t qz6=>?_; subst qz6); (refine c0 (rv.int_eq) fun t' qz7=>?_; subst qz7)
 refine bA (ao _) (SB.mul (mulOk_of 1 n (ao _) (Int.le_refl _) (by omega) hn (by exact bI5 hn)) fun t' k ht=>?_)
 rw [cv5]
 exact u7 S J9 h ht
end
section
variable {prog:Program} {w:World} {KF:Frag} {fi:FI} {d:Nat} {E:EP} {m:b8} {H:List O} {b:Bool}
theorem be7 {x y:Expr} {Q:V -> List O -> Prop} (v:V) (h1:b=true -> WE prog w KF fi d E m H x fun u H'=>u=v /\ H'=H) (h2:¬ b=true -> WE prog w KF fi d E m H y fun u H'=>u=v /\ H'=H) (h:Q v H):KIf prog w KF fi d E m x y Q b H:=by
 by_cases hb:b=true
 · exact aZ6 hb ((h1 hb).mono fun u H'=>m8 fun a c=>by subst a; subst c; exact h)
 · exact aZ7 hb ((h2 hb).mono fun u H'=>m8 fun a c=>by subst a; subst c; exact h)
theorem cv6 {st:Stmt} {Q Q':Fl -> b8 -> List O -> Prop} (h:WS prog w KF fi d E m H st Q) (hq:∀ f m H,Q f m H -> Q' f m H):WS prog w KF fi d E m H st Q' :=
 fun A env F ρ s hA S=>ar (h A env F ρ s hA S) (fun v s'=>D2.el fun ρ' H' m' f st T rv q=>⟨ρ',H',m',f,st,T,rv,hq _ _ _ q⟩) fun _ _ x=>x
end
end
section
set_option tactic.hygienic false
structure ao2 (prog:Program) (w:World) (A:Around) (I S n:Nat) (P:Nat -> Value -> Prop) (St:Nat -> Shared -> Prop) (Fn:Shared -> Prop):Prop where
 ty:∀ i s,St i s -> s.TypeIs (.ref I) "generator"
 frame:∀ i s s',St i s -> (∀ b o,b≠S -> s.heap.get? b=some o -> s'.heap.get? b=some o) -> (∃ acc c,s'.heap.get? S=some (R2 acc c)) -> s'.gens=s.gens -> s'.os=s.os -> s'.toks=s.toks -> St i s'
 item:∀ i (s:Shared) (Q:Option Value -> Shared -> Prop) (E:Value -> Shared -> Prop),i < n -> St i s ->
  (∀ v s',P i v -> St (i+1) s' -> (∀ o,s.heap.get? S=some o -> s'.heap.get? S=some o) -> Q (some v) s') -> ax (aA prog w) A (cS (.ref I)) Q E s
 done:∀ (s:Shared) (Q:Option Value -> Shared -> Prop) (E:Value -> Shared -> Prop),St n s -> (∀ s',Fn s' -> (∀ o,s.heap.get? S=some o -> s'.heap.get? S=some o) -> Q none s') -> ax (aA prog w) A (cS (.ref I)) Q E s
 self:∀ i (s:Shared) (Q:Value -> Shared -> Prop) (E:Value -> Shared -> Prop),St i s -> Q (.ref I) s -> ax (aA prog w) A (pyIter (.ref I)) Q E s
section
variable {prog:Program} {w:World} {A:Around} {I S n:Nat} {P:Nat -> Value -> Prop} {St:Nat -> Shared -> Prop} {Fn:Shared -> Prop}
theorem cv7 {R:cR -> Shared -> Prop} (W:ao2 prog w A.in1 I S n P St Fn) (hn:n <= aB) (res:Value) (hR:∀ s' acc c,Fn s' -> s'.heap.get? S=some (R2 acc c) -> ItemsOf P acc n -> R (.ok (.ret res)) s') :
 ∀ (k i:Nat) (s:Shared) (acc:Array Value) (c:Nat),n - i=k -> i <= n -> St i s -> s.heap.get? S=some (R2 acc c) -> ItemsOf P acc i ->
 ft (aA prog w) A (.builtin "list.extend.loop" ⟨[.ref S,.ref I,res],[]⟩) R s:=by
 intro k
 induction k with
 | zero =>
  intro i s acc c hk hi hst hS hacc
  have hin:i=n:=by exact aP1 hk hi
  subst hin
  refine dU F.entry_extend_loop ?_
  rw [di il _]
  show ax _ A.in1 (cS (.ref I) >>= _) _ _ s
  exact ab (W.done s _ _ hst fun s' hm hk'=>ac (hR s' acc c hm (hk' _ hS) hacc))
 | succ k ih =>
  intro i s acc c hk hi hst hS hacc
  have hlt:i < n:=by exact aP2 hk hi
  refine dU F.entry_extend_loop ?_
  rw [di il _]
  show ax _ A.in1 (cS (.ref I) >>= _) _ _ s
  refine ab (W.item i s _ _ hlt hst fun v s' hP hst' hk'=>?_)
  have hS':=hk' _ hS
  show ax _ A.in1 (gW S (·.push v) >>= _) _ _ _
  refine ab ?_
  have hS2:=bM (h:=s'.heap) (a:=S) (bw (·.push v)) hS' rfl
  refine dy hS' rfl (ac ⟨plainId_quiet il _,ih (i+1) _ (acc.push v) _ (by exact bI6 hk hlt) hlt
   (W.frame _ s' _ hst' (fun b o hb e=>(bz _ _ (cP hb)).trans e) (l8 _ _ hS2) rfl rfl rfl) hS2 (hacc.push hP)⟩) (by rw [hacc.1]; exact bI7 hn hlt) (by show (acc.push v).size <= aB+1; rw [eU,hacc.1]; exact bI8 hn hlt)
theorem cv8 {R:cR -> Shared -> Prop} {s:Shared} (W:ao2 prog w A.in1 I S n P St Fn) (hst:St 0 s) (hSI:S≠I) (hS:s.heap.get? S=some (R2 #[] 0))
 (hR:∀ s' acc c,Fn s' -> s'.heap.get? S=some (R2 acc c) -> ItemsOf P acc n -> R (.ok (.ret .none)) s') (hn:n <= aB) :
 ax (aA prog w) A.in1 (aP.«list.__init__» ⟨[.ref S,.ref I],[]⟩)
  (fun fin s'=>match fin with | .done f=>R (.ok f) s' | .again c'=>c'.quiet=true /\ ft (aA prog w) A c' R s') (fun e s'=>R (.error e) s') s:=by
 show ax _ A.in1 (do let old <- gw (.ref S); aP.List.listUpdate (.ref S) (fun _=>#[]); letGo old.toList.reverse; cI (.ref S) (.ref I) .none) _ _ s
 refine ab ?_
 unfold gw
 refine ab (cw hS rfl (ac ?_))
 show ax _ A.in1 (gW S (fun _=>#[]) >>= fun _=>letGo (#[]:Array Value).toList.reverse >>= fun _=>cI (.ref S) (.ref I) .none) _ _ s
 refine ab (dy hS rfl (ab (ig ?_)))
 have hS1:=bM (h:=s.heap) (a:=S) (bw (fun _=>(#[]:Array Value))) hS rfl
 have st1:St 0 { s with heap:=s.heap.update S (bw (fun _=>(#[]:Array Value))) }:=W.frame 0 s _ hst (fun b o hb e=>(bz _ _ (cP hb)).trans e) (l8 _ _ hS1) rfl rfl rfl
 unfold cI
 refine ab (eR (W.ty 0 _ st1) ?_)
 have h1:fK (.ref S) (.ref I)=false:=by simp [fK,hSI]
 have h2:(Value.type "generator"==Value.type "list")=false:=by decide
 have h3:(Value.type "generator"==Value.type "tuple")=false:=by decide
 simp only [h1,h2,h3,Bool.or_false,bq,if_false]
 refine ab (W.self 0 _ _ _ st1 (ab (aM ?_)))
 unfold aP.List.listLengthHint
 refine ab (cV (W.ty 0 _ st1) F.gen_no_len ?_)
 show ax _ A.in1 (specialOf (Value.ref I) (aa "__length_hint__") >>= _) _ _ _
 refine ab (cV (W.ty 0 _ st1) F.gen_no_hint (ac ?_))
 show ax _ A.in1 (rule "list.extend.makes-room" >>= fun _=>aP.List.listTouch (.ref S) >>= fun _ =>
  again (.builtin "list.extend.loop" ⟨[.ref S,.ref I,.none],[]⟩)) _ _ _
 refine ab (dB (ab ?_))
 show ax _ A.in1 (gW S (·.push .none) >>= fun _=>gW S (·.pop)) _ _ _
 refine ab (dy hS1 rfl ?_)
 have hS2:=bM (bw (·.push Value.none)) hS1 rfl
 refine dy (hz:=by seq_fits) hS2 rfl ?_
 have hS3:=bM (bw (·.pop)) hS2 rfl
 exact ac ⟨plainId_quiet il _,cv7 W hn _ hR n 0 _ _ _ rfl (bm _)
  (W.frame 0 _ _ st1 (fun b o hb e=>(bz _ _ (cP hb)).trans ((bz _ _ (cP hb)).trans e)) (l8 _ _ hS3) rfl rfl rfl) hS3 (ItemsOf.nil P)⟩
theorem cv9 {s:Shared} {Q:Value -> Shared -> Prop} {E:Value -> Shared -> Prop} (W:ao2 prog w A.in1.in1 I s.heap.objs.size n P St Fn) (hI:I < s.heap.objs.size) (hn:n <= aB)
 (hst:St 0 { s with heap:=s.heap.push { cls:=.type "list",data:=.seq #[] } })
 (hQ:∀ s' acc c,Fn s' -> s'.heap.get? s.heap.objs.size=some (R2 acc c) -> ItemsOf P acc n -> Q (.ref s.heap.objs.size) s'):ax (aA prog w) A (call (.type "list") [.ref I]) Q E s:=by
 refine callType_codes (Q₁:=fun obj s₁=>obj=.ref s.heap.objs.size /\ s₁={ s with heap:=s.heap.push { cls:=.type "list",data:=.seq #[] } }) F.called_list (F.typeCall_list_1 _) F.entry_list_init
  (code_list_new _ ⟨rfl,rfl⟩) fun obj s₁ h₁=>?_
 (refine d0 h₁ fun qz1 qz2=>?_; try clear h₁; subst qz1; subst qz2)
 have hS:(s.heap.push { cls:=.type "list",data:=.seq #[] }).get? s.heap.objs.size=some { cls:=.type "list",data:=.seq #[] }:=aK _ rfl
 exact (e9 (c5 _ hS rfl) (F.args_list_init_2 _ _) (cv8 W hst (cZ hI) hS (fun s' acc c hm hS' hacc=>⟨rfl,hQ s' acc c hm hS' hacc⟩) hn))
end
end
section
set_option tactic.hygienic false
structure DX where
 w:World
 KF:Frag
 fi:FI
 env:Env
 F:d6
 a:Nat
 g:Nat
 S:Nat
 ρI:List b7
 sI:Shared
structure SI (X:DX) (m:b8) (H:List O) (ρ:List b7) (s:Shared):Prop where
 st:f0 X.ρI X.sI ρ s
 sim:d8 X.w X.KF X.fi X.env m X.F ρ H s.heap (gt s)
 off:z6 X.fi X.env X.F ρ [X.S,X.a]
 ls:∃ acc c,s.heap.get? X.S=some (R2 acc c)
 gen:s.heap.IsGen X.a X.g
 gs:X.g < s.gens.size
 gx:∀ e∈ρ,∀ x,e.g=some x -> x.1≠X.g
 ne:X.S≠X.a
structure Lk (X:DX) (s s':Shared):Prop where
 old:∀ b o,b≠X.S -> s.heap.get? b=some o -> s'.heap.get? b=some o
 ls:∃ acc c,s'.heap.get? X.S=some (R2 acc c)
 os:s'.os=s.os
 bare:∀ (k:Nat) (z:GenState),s'.gens[k]?=some z -> z.bare=true \/ s.gens[k]?=some z
 sz:s.gens.size <= s'.gens.size
 gk:∀ k,k≠X.g -> ∀ z,s.gens[k]?=some z -> s'.gens[k]?=some z
 tk:s.toks <= s'.toks
noncomputable def ao3 (X:DX) (s s':Shared):Prop:=∀ o,s.heap.get? X.S=some o -> s'.heap.get? X.S=some o
section
variable {X:DX} {m m':b8} {H H':List O} {ρ ρ':List b7} {s s' s'':Shared}
theorem SI.live (Z:SI X m H ρ s):∀ b∈[X.S,X.a],∃ o,s.heap.get? b=some o:=fun b hb=>by
 rcases aJ.mp hb with e | hb
 · (refine w0 (Z.ls) fun acc c h=>?_); rw [e]; exact ⟨_,h⟩
 · rw [au.mp hb]
   (refine F3 (Z.gen) fun o _ _ h _=>?_); exact ⟨_,h⟩
theorem SI.run (Z:SI X m H ρ s) (st:f0 ρ s ρ' s') (T:d8 X.w X.KF X.fi X.env m' (w1 X.F s.heap [X.S,X.a]) ρ' H' s'.heap (gt s')):SI X m' H' ρ' s' /\ ao3 X s s':=by
 (refine l9 (Z.sim.unbase Z.off Z.live st.1 st.2.2.2 T) fun U off k=>?_)
 (refine w0 (Z.ls) fun acc c h=>?_)
 (refine F3 (Z.gen) fun o nm qn ho r=>?_)
 exact ⟨⟨Z.st.trans st,U,off,(l8 acc c (k _ (.head _) _ h)),(Q3 o nm qn (k _ (.tail _ (.head _)) _ ho) r),aW Z.gs st.2.2.1.2,fun e he x hx=>by
  obtain ⟨i,hi,rfl⟩:=List.mem_iff_getElem.mp he
  by_cases q:i < ρ.length
  · refine Z.gx _ (dG q) x ?_
    (refine c0 (st.1) fun t e=>?_)
    subst e
    rwa [List.getElem_append_left q] at hx
  · exact cZ (aW Z.gs ((st.2.2.2 i _ (bN.mp q) (aq hi)).2 x hx)),Z.ne⟩,fun o h=>k _ (.head _) _ h⟩
theorem SI.look (Z:SI X m H ρ s) (l:Lk X s s'):SI X m H ρ s':=by
 (refine w0 (Z.ls) fun acc c h=>?_)
 have t:TK s.heap s'.heap:=.of_ext (a:=X.S) (fun b o hb e=>l.old b o hb e) (ak9 (xs:=acc) (Q2 _ h rfl _ rfl))
 have chg:w2 [X.S] s { s' with gens:=s.gens }:=(m5 ⟨rfl,l.tk⟩ l.os t (fun b o hb e=>l.old b o (fun q=>hb (q▸.head _)) e))
 have U:=Z.sim.chg (fp:=[X.S]) (fun b hb=>Z.off b (by rw [au.mp hb]; exact .head _)) chg
 (refine F3 (Z.gen) fun o nm qn ho r=>?_)
 exact ⟨Z.st.trans (.same t l.os l.sz),U.gens l.bare (fun e he _ x c hx hc=>l.gk _ (Z.gx e he x hx) _ hc) l.sz,Z.off,l.ls,(Q3 o nm qn (l.old _ _ Z.ne.symm ho) r),aW Z.gs l.sz,Z.gx,Z.ne⟩
theorem Lk.refl (Z:SI X m H ρ s):Lk X s s:=⟨fun _ _ _ e=>e,Z.ls,rfl,fun _ _ e=>.inr e,ao _,fun _ _ _ e=>e,ao _⟩
theorem Lk.trans (a:Lk X s s') (b:Lk X s' s''):Lk X s s'':=⟨fun c o hc e=>b.old c o hc (a.old c o hc e),b.ls,b.os.trans a.os,fun k z e=>(b.bare k z e).elim .inl (a.bare k z),ag a.sz b.sz,fun k hk z e=>b.gk k hk z (a.gk k hk z e),ag a.tk b.tk⟩
theorem be8 {s:Shared} {g:Nat} {x:GenState} (hx:x.bare=true):∀ (k:Nat) (z:GenState),(s.setGen g x).gens[k]?=some z -> z.bare=true \/ s.gens[k]?=some z:=fun k z hz=>by
 have hz:(s.gens.setIfInBounds g x)[k]?=some z:=hz
 by_cases q:g=k
 · subst q
   rw [Array.getElem?_setIfInBounds_self] at hz
   split at hz
   · cases hz; exact .inl hx
   · cases hz
 · rw [Array.getElem?_setIfInBounds_ne q] at hz; exact .inr hz
theorem Lk.setGen (Z:SI X m H ρ s) {x:GenState} (hx:x.bare=true):Lk X s (s.setGen X.g x):=⟨fun _ _ _ e=>e,Z.ls,rfl,be8 hx,by show s.gens.size <= (s.gens.setIfInBounds X.g x).size; rw [Array.size_setIfInBounds]; exact ao _,fun k hk z e=>by
 show (s.gens.setIfInBounds X.g x)[k]?=some z
 rw [Array.getElem?_setIfInBounds_ne (cP hk)]; exact e,ao _⟩
end
noncomputable def be9 (X:DX) (Qe:List O -> Prop):Nat -> Shared -> Shared -> Prop:=fun n s₀ s₁=>n=0 /\ ao3 X s₀ s₁ /\ ∃ m H ρ,SI X m H ρ s₁ /\ Qe H
noncomputable def GY (X:DX) (xs:List Str):Protocol:=fun n s₀ v s₁ next=>(∃ x t,xs[xs.length - 1 - n]?=some x /\ v=.str x t) /\ ao3 X s₀ s₁ /\ (∃ m H ρ,SI X m H ρ s₁) /\ ∀ s'',Lk X s₁ s'' -> next (.send .none) s''
section
variable (prog:Program) (X:DX) (xs:List Str) (Qe:List O -> Prop) (A:Around) (c:Code) (d:Nat)
noncomputable def SO (n:Nat) (m:b8) (H:List O) (t:Sem Fin):Prop:=∀ ρ s s₀,SI X m H ρ s -> ao3 X s₀ s -> Seg (aA prog X.w) A (fun n s₀ r s₁=>r=.ok (.ret .none) /\ be9 X Qe n s₀ s₁) (GY X xs) n s₀ c t [] s
end
section
variable {prog:Program} {X:DX} {xs:List Str} {Qe:List O -> Prop} {A:Around} {c:Code} {d n:Nat} {m:b8} {H:List O} {K:Flow -> Sem Fin} {Hd:Value -> Sem Fin}
theorem K4 (h:SO prog X xs Qe A c n m H (K .next)):SO prog X xs Qe A c n m H ((execs [] X.env).wrap K Hd id id):=fun ρ s s₀ Z k=>seg_execs_nil (h ρ s s₀ Z k)
theorem ao4 (h:Qe H):SO prog X xs Qe A c 0 m H (.pure (.done (.ret .none))):=fun ρ s s₀ Z k=>seg_end (.ok (.ret .none)) ⟨rfl,rfl,k,m,H,ρ,Z,h⟩
theorem aF0 {st:Stmt} {rest:List Stmt} (hr:k9 (A.over c []) d (n6 X.env X.F)) (h:WS prog X.w X.KF X.fi d M5 m H st fun f m' H'=>match f with | .next=>SO prog X xs Qe A c n m' H' ((execs rest X.env).wrap K Hd id id) | _=>False) :
 SO prog X xs Qe A c n m H ((execs (st::rest) X.env).wrap K Hd id id):=fun ρ s s₀ Z k=>by
 refine seg_execs_cons (seg_wrap (ar (h _ X.env (w1 X.F s.heap _) ρ s hr (Z.sim.rebase Z.off)) (fun f s₁ hx=>?_) fun _ _ x=>(F7 x).elim))
 obtain ⟨ρ1,H1,m1,fl,st1,S1,rf,h₁⟩:=hx
 (refine d0 (Z.run st1 S1) fun Z₁ k₁=>?_)
 cases fl with
 | next=>cases rf; exact h₁ ρ1 s₁ s₀ Z₁ fun o e=>k₁ o (k o e)
 | _=>exact h₁.elim
theorem K5 {e:Expr} {ypos pos:Pos} {rest:List Stmt} (hr:k9 (A.over c []) d (n6 X.env X.F)) (h:WE prog X.w X.KF X.fi d M5 m H e fun v H'=>(∃ t,v=.str t /\ xs[xs.length - 1 - n]?=some t) /\ SO prog X xs Qe A c n m H' ((execs rest X.env).wrap K Hd id id))
 (hco:X.env.scope.isCoroutine=false) (hi:eC X.env=false):SO prog X xs Qe A c (n+1) m H ((execs (.Expr (.Yield (some e) ypos) pos::rest) X.env).wrap K Hd id id):=fun ρ s s₀ Z k=>by
 refine seg_execs_cons (seg_Expr_Yield rfl rfl rfl (ar (h _ X.env (w1 X.F s.heap _) ρ s hr (Z.sim.rebase Z.off)) (fun v s₁=>SQ.el fun ρ1 H1 x st1 S1 rv qz1=>d0 qz1 fun qz2 h₁=>b9 qz2 fun t e hx kap hk=>?_) fun _ _ x=>(F7 x).elim) hco hi)
 subst e
 (refine d0 (Z.run st1 S1) fun Z₁ k₁=>?_)
 (refine c0 (rv.str_eq) fun u qz3=>?_; subst qz3)
 exact (m5 (L6 t u hx rfl) (fun o e=>k₁ o (k o e)) (C3 _ _ _ Z₁) (fun s'' l=>hk .none s'' (h₁ ρ1 s'' s'' (Z₁.look l) fun o e=>e)))
theorem U3 {test:Expr} {body orelse rest:List Stmt} {pos:Pos} (hr:k9 (A.over c []) d (n6 X.env X.F)) (h:WT prog X.w X.KF X.fi d M5 m H test fun b H'=>SO prog X xs Qe A c n m H' ((execs (if b=true then body else orelse) X.env).wrap (fun f=>match f with | .next=>(execs rest X.env).wrap K Hd id id | f=>K f) Hd id id)) :
 SO prog X xs Qe A c n m H ((execs (.If test body orelse pos::rest) X.env).wrap K Hd id id):=fun ρ s s₀ Z k=>by
 refine seg_execs_cons ?_
 rw [exec_If]
 refine seg_at ?_
 show Seg _ A _ _ n s₀ c (((isTrue test X.env (eval test X.env)).bind fun b=>if b=true then execs body X.env else execs orelse X.env).wrap _ _ _ _) [] s
 rw [Sem.bind_eq_wrap,Sem.wrap_wrap]
 refine seg_wrap (ar (h _ X.env (w1 X.F s.heap _) ρ s hr (Z.sim.rebase Z.off)) (fun b s₁ hx=>?_) fun _ _ x=>(F7 x).elim)
 obtain ⟨ρ1,H1,b',st1,S1,rb,h₁⟩:=hx
 cases rb
 (refine d0 (Z.run st1 S1) fun Z₁ k₁=>?_)
 have:=h₁ ρ1 s₁ s₀ Z₁ fun o e=>k₁ o (k o e)
 cases b
 · exact this
 · exact this
theorem cw0 {body:List Stmt} (h:SO prog X xs Qe A (.func body X.env) n m H ((execs body X.env).wrap (fun f=>.pure (.done (.ret (match f with | .ret v=>v | _=>.none)))) (fun e=>(leaving X.env e).wrap (fun _=>.raise e) .raise id id) id id)) :
 SO prog X xs Qe A (.func body X.env) n m H ((aA prog X.w).den (.func body X.env)):=fun ρ s s₀ Z k=>seg_func (h ρ s s₀ Z k)
end
end
section
set_option tactic.hygienic false
section
variable {prog:Program} {w:World} {A:Around} {E:Value -> Shared -> Prop} {s:Shared}
theorem bf0 {a:Addr} {g n:Nat} {gs:GenState} {P:Nat -> Shared -> Shared -> Prop} {Y:Protocol} {Q:Option Value -> Shared -> Prop} (hh:A.handled=none)
 (hl:s.heap.NoLimit) (hroom:A.depth < fm) (hg:s.heap.IsGen a g) (hgs:s.gens[g]?=some gs)
 (hgo:gs.Goes (aA prog w) A.in1 (fun n s₀ r s₁=>r=.ok (.ret .none) /\ P n s₀ s₁) Y n (.send .none) (s.setGen g .running))
 (hY:∀ v s₁ gs',gs'.bare=true -> Y (n - 1) (s.setGen g .running) v s₁ (fun r' s''=>match n with
  | 0=>False
  | m+1=>gs'.Goes (aA prog w) A.in1 (fun n s₀ r s₁=>r=.ok (.ret .none) /\ P n s₀ s₁) Y m r' s'') -> Q (some v) (s₁.setGen g gs'))
 (hP:∀ s₁,P n (s.setGen g .running) s₁ -> ∀ h',o8 s₁.heap h' -> Q none { s₁.setGen g .finished with heap:=h' }) :
 ax (aA prog w) A (cS (.ref a)) Q E s:=by
 unfold cS
 refine ab (fR (cq (name:=aa "__next__") hg.typeIs slot_gen_next
  (bP slot_gen_next hg.typeIs entry_gen_next ?_ (args_gen_next _))))
 show ax _ A.in1 (aP.Generator.genWake (.ref a) (.send .none)) _ _ s
 unfold aP.Generator.genWake
 refine ab (aM (wpAny_genNumber hg (ab (wpAny_genState hgs ?_))))
 cases gs with
 | running=>exact hgo.elim
 | finished=>exact hgo.elim
 | _ =>
  refine ab (wpAny_roomToWake hl hroom ?_)
  show ax _ A.in1 (.resume g (.send .none) [] _) _ _ s
  refine wpAny_resumeQ hgs hgo (fun x s₁ hx=>?_) (fun v s₁ gs' hb hv=>?_)
  · (refine d0 hx fun qz1 hp=>?_; try clear hx; subst qz1)
    show ax _ A.in1 (newExc (.type "StopIteration") [] >>= _) _ _ _
    refine ab ?_
    simp only [newExc,newTuple]
    refine ab (bC ?_ (by size_fits))
    refine ab (m:=gU _ _) (bX (a:=Value.none) (by first | rfl | (simp only [gU]; rfl)) (bC ?_ (by size_fits)))
    dsimp only [raiseNew]
    refine ab (ab (wpAny_handled ?_))
    first | rw [show A.in1.handled=none from hh] | rw [hh]
    refine wpAny_throw (ab (eu (T:="StopIteration") (b:=true) (c5 _ (aK _ rfl) rfl) isSubtype_stop ?_))
    exact ac (hP s₁ hp _ fun b o hb=>ak _ (ak _ hb))
  · exact ac (c5 v rfl (ac (hY v s₁ gs' hb hv)))
end
noncomputable def GSt (prog:Program) (X:DX) (xs:List Str) (Qe:List O -> Prop) (A:Around) (i:Nat) (s:Shared):Prop :=
 (∃ m H ρ,SI X m H ρ s) /\ ∃ gs,s.gens[X.g]?=some gs /\ ∀ s'',Lk X s s'' -> gs.Goes (aA prog X.w) A.in1 (fun n s₀ r s₁=>r=.ok (.ret .none) /\ be9 X Qe n s₀ s₁) (GY X xs) (xs.length - i) (.send .none) s''
theorem cw1 {prog:Program} {X:DX} {xs:List Str} {Qe:List O -> Prop} {A:Around} (hh:A.handled=none) (hroom:A.depth < fm) :
 ao2 prog X.w A X.a X.S xs.length (fun i v=>∃ x t,xs[i]?=some x /\ v=.str x t) (GSt prog X xs Qe A) (fun s=>∃ m H ρ,SI X m H ρ s /\ Qe H) where
 ty:=fun i s=>m8 fun qz2 _=>B4 qz2 fun m H ρ Z=>Z.gen.typeIs
 frame:=fun i s s' ⟨⟨m,H,ρ,Z⟩,gs,hgs,hgo⟩ hk hS hg ho ht=>by
  have l:Lk X s s':=⟨hk,hS,ho,fun _ _ e=>.inr (by rw [hg] at e; exact e),by rw [hg]; exact ao _,fun _ _ _ e=>by rw [hg]; exact e,Nat.le_of_eq ht.symm⟩
  exact (au9 (C3 m H ρ (Z.look l)) gs (by rw [hg]; exact hgs) (fun s'' l'=>hgo s'' (l.trans l')))
 item:=fun i s Q E hi ⟨⟨m,H,ρ,Z⟩,gs,hgs,hgo⟩ hQ=>by
  refine bf0 (n:=xs.length - i) hh Z.sim.b.lim hroom Z.gen hgs (hgo _ (.setGen Z rfl)) (fun v s₁ gs' hb=>V9 fun qz3 k qz4 nx=>B5 qz3 fun x t hx e=>B4 qz4 fun m1 H1 ρ1 Z₁=>?_) (fun s₁=>m8 fun h0 _=>absurd h0 (by exact bI9 hi h0))
  obtain ⟨j,hj⟩:∃ j,xs.length - i=j+1:=⟨xs.length - i - 1,by exact bJ0 hi⟩
  rw [hj] at nx hx
  have e1:xs.length - 1 - (j+1 - 1)=i:=by exact bJ1 hi hj
  rw [e1] at hx
  have e2:xs.length - (i+1)=j:=by exact bJ2 hi hj e1
  have l1:Lk X s₁ (s₁.setGen X.g gs'):=.setGen Z₁ hb
  refine hQ v _ (L6 x t hx e) (au9 (C3 m1 H1 ρ1 (Z₁.look l1)) gs' ?_ (fun s'' l=>?_)) k
  · show (s₁.gens.setIfInBounds X.g gs')[X.g]?=some gs'
    rw [Array.getElem?_setIfInBounds_self_of_lt Z₁.gs]
  · rw [e2]; exact nx s'' (l1.trans l)
 done:=fun s Q E ⟨⟨m,H,ρ,Z⟩,gs,hgs,hgo⟩ hQ=>by
  have e0:xs.length - xs.length=0:=Nat.sub_self _
  rw [e0] at hgo
  refine bf0 (n:=0) hh Z.sim.b.lim hroom Z.gen hgs (hgo _ (.setGen Z rfl)) (fun v s₁ gs' hb ⟨_,_,⟨m1,H1,ρ1,Z₁⟩,nx⟩=>(nx s₁ (.refl Z₁)).elim) (fun s₁ ⟨_,k,m1,H1,ρ1,Z₁,hq⟩ h' hk=>?_)
  have l1:Lk X s₁ { s₁.setGen X.g .finished with heap:=h' }:=⟨fun b o _ e=>hk b o e,let ⟨acc,c,h⟩:=Z₁.ls; ⟨acc,c,hk _ _ h⟩,rfl,be8 rfl,(Lk.setGen Z₁ (x:=.finished) rfl).sz,(Lk.setGen Z₁ (x:=.finished) rfl).gk,ao _⟩
  exact hQ _ (Q3 m1 H1 ρ1 (Z₁.look l1) hq) fun o e=>hk _ _ (k o e)
 self:=fun i s Q E=>m8 fun qz5 _=>B4 qz5 fun m H ρ Z hQ=>wpAny_pyIter_gen Z.gen hQ
end
section
set_option tactic.hygienic false
noncomputable def bf2 (prog:Program) (w:World) (KF:Frag) (d:Nat) (H:List O) (fa:Nat) (vs:List V) (xs:List Str) (Qe:List O -> Prop):Prop :=
 ∃ o fd body sc ps,y3 KF fa o fd body sc ps /\ sc.isGenerator=true /\ vs.length=ps.length /\ ∀ env F a g S ρI sI A,env.scope=sc -> eC env=false -> env.frame=some env.locals -> k9 (A.over (.func body env) []) d (n6 env F) ->
  SO prog ⟨w,KF,⟨sc,true,fd.code⟩,env,F,a,g,S,ρI,sI⟩ xs Qe A (.func body env) xs.length (r0 sc ps vs) H ((execs body env).wrap (fun f=>.pure (.done (.ret (match f with | .ret v=>v | _=>.none)))) (fun e=>(leaving env e).wrap (fun _=>.raise e) .raise id id) id id)
theorem Heap.get?_none_of_ge {h:Heap} {b:Nat} (hb:h.objs.size <= b):h.get? b=none:=by
 cases q:h.get? b with
 | none=>rfl
 | some o=>exact absurd (bG q) (bN.mpr hb)
theorem k9.gen {A:Around} {d:Nat} {F:d6} {env:Env} (h:k9 A (d+1) F.fr) (he:env.frame=some env.locals) (body:List Stmt):k9 (A.in1.in1.in1.over (.func body env) []) d (n6 env F):=by
 refine ⟨by rw [cf9 he]; show A.frames.map ([env]++·)=_; rw [h.fr]; rfl,h.hd,?_,?_⟩
 · have:=h.dp
   show A.depth+0+1+4*d < fm
   exact bJ3 this
 · have:=h.un
   show A.units+1+1+1+0+3+40*d+200 < cLine
   exact bJ4 this
section
variable {prog:Program} {w:World} {KF:Frag} {fi:FI} {d:Nat} {E:EP} {m:b8} {H:List O}
theorem cw2 {fl o:Expr} {name:Str} {args:List Expr} {ap pos pos':Pos} {pl:Env -> Sem Bool} {Q:V -> List O -> Prop}
 (h:WE prog w KF fi (d+1) M5 m H fl fun f H₀=>f=.ty "list" /\ WE prog w KF fi (d+1) M5 m H₀ o fun x H1=>∃ fa,C6 prog w KF H1 x name (.st fa) /\ t8 KF (.st fa) /\ w7 prog w KF fi (d+1) M5 m H1 args fun vs H2 =>
  ∃ xs Qe,bf2 prog w KF d H2 fa (x::vs) xs Qe /\ xs.length <= aB /\ ∀ H',Qe H' -> Q (.ref H'.length) (H'++[.list (xs.map V.str)]))
 (hp:C5 args:=by intro _; rfl) (hpg:C5 [.Call (.Attribute o name ap) args [] pos']:=by intro _; rfl)
 (he:∀ env,eval (.Call fl [.Call (.Attribute o name ap) args [] pos'] [] pos) env=(do dT pos (<- eval fl env) [] (dX pos (dR [.Call (.Attribute o name ap) args [] pos'] env)) (backToKw pos (gr [] env))):=by intro _; rfl)
 (hem:∀ env,eval (.Call (.Attribute o name ap) args [] pos') env=(do
  let ov <- eval o env
  fq ap.atName
  let (f,first) <- dH [ov] (iA ov name (pl env))
  dT pos' f first (dX pos' (dR args env)) []):=by intro _; rfl) :
 WE prog w KF fi (d+1) E m H (.Call fl [.Call (.Attribute o name ap) args [] pos'] [] pos) Q :=
 fun A env F ρ s hA S=>by
  refine Call_ (ar (h A env F ρ s hA S) (fun fv s₀ hx=>?_) fun _ _ x=>(F7 x).elim) (he env)
  (obtain ⟨ρ₀,H₀,f,st0,S₀,ru,qz1⟩:=hx; refine d0 qz1 fun hf h₀=>?_; clear qz1)
  subst hf
  unfold VR at ru; subst ru
  rw [hpg env]
  refine ij O9 (fg (fU (MethodCall_ (pl:=pl env) (ar (h₀ A env F ρ₀ s₀ hA S₀) (fun u s₁ hx=>?_) fun _ _ x=>(F7 x).elim) (hem env))))
  (obtain ⟨ρ1,H1,x,st1,S1,rx,qz2⟩:=hx; refine o0 qz2 fun fa hm hf h₁=>?_; clear qz2)
  refine hm A _ ρ1 s₁ u _ _ _ S1.toH rx fun fu rf=>?_
  unfold VR at rf; subst rf
  rw [hp env]
  refine callWith_of (by rw [O9]; rfl) (keeps_K (K:=KF) hf) (ar (Z9 h₁ hA S1) (fun y s2 hy=>?_) fun _ _ x=>(F7 x).elim)
  (refine d0 hy fun hkw qz3=>?_; try clear hy; obtain ⟨ρ2,H2,vs,st2,S2,rv,qz4⟩:=qz3; refine e8 qz4 fun xs Qe qz5 hsz hQ=>?_; clear qz4; obtain ⟨ob',fd',body,sc,ps,K,hgen,hlen,hSO⟩:=qz5)
  have B:=S2.b
  refine ⟨B.k,?_⟩
  (refine d0 (az5 K.toFnB B) fun ho hcd=>?_)
  rw [hkw]
  have hsc:=K.hsc
  subst hsc
  have rus:c8 ρ2 s2.heap (x::vs) (u::y.pos):=.cons (rx.mono st2.1 st2.2.1) rv
  have hul:(u::y.pos).length=ps.length:=rus.len.trans hlen
  refine cU (codeAny_call_generator hA.depth ho K.hd K.hco hgen K.hb hcd ?_)
  show ax _ _ (bindArgs fd' ⟨u::y.pos,[]⟩) _ _ _
  rw [K.hbd _ hul,K.hcl]
  refine ac (bA (ao _) (hU K.hk (fun z hz=>?_) fun env' he' s3 Xc ht=>?_))
  · have hx1:z.1∈ps:=by rw [<- ae9 hul]; exact aV.mpr (c5 z hz rfl)
    rcases K.hkd z.1 hx1 with q | q
    · exact .inl q
    · (refine c0 (al7 (n:=s2.heap.objs.size+1) (mem_of_lookup q)) fun c hc=>?_)
      exact .inr ⟨q,by rw [M2 (al6 K.hnd) hc]; rfl⟩
  subst he'
  (refine d0 (az4 K.toFnB hlen S2.toH rus Xc ht) fun st3 S3=>?_)
  (refine B5 (Xc.done) fun h3 tk3 e3 k₃=>?_)
  subst e3
  refine ⟨S3.b.lim,iH (cv9 (n:=xs.length) (cw1 (X:=⟨w,KF,⟨fd'.scope,true,fd'.code⟩,dD fd' s2.heap.objs.size fa,t0 F s2.heap env (j8 fi env),h3.objs.size,s2.gens.size,_,ρ2,s2⟩) (Qe:=Qe) (xs:=xs) hA.hd hA.depth) (by rw [cr]; exact cK _) hsz ?_ ?_)⟩
  · have kh:o8 h3 ((h3.push { cls:=.type "generator",data:=.fields #[.int s2.gens.size 0,.str fd'.name tk3,.str fd'.qualname (tk3+1)] }).push { cls:=.type "list",data:=.seq #[] }):=fun b o e=>ak _ (ak _ e)
    have hgen4:((h3.push { cls:=.type "generator",data:=.fields #[.int s2.gens.size 0,.str fd'.name tk3,.str fd'.qualname (tk3+1)] }).push { cls:=.type "list",data:=.seq #[] }).IsGen h3.objs.size s2.gens.size:=(aj6 _ _ _ (ak _ (aK _ rfl)) rfl rfl rfl)
    have hoff:z6 ⟨fd'.scope,true,fd'.code⟩ (dD fd' s2.heap.objs.size fa) (t0 F s2.heap env (j8 fi env)) ρ2 [(h3.push { cls:=.type "generator",data:=.fields #[.int s2.gens.size 0,.str fd'.name tk3,.str fd'.qualname (tk3+1)] }).objs.size,h3.objs.size]:=S3.fresh fun b hb=>by
     rcases aJ.mp hb with e | hb
     · have e:b=h3.objs.size+1:=by rw [e,cr]
       exact Heap.get?_none_of_ge (by rw [e]; exact aY _)
     · rw [au.mp hb]; exact z5 _
    have hb:∀ (k:Nat) (z:GenState),(s2.gens.push (.fresh (.func body (dD fd' s2.heap.objs.size fa))))[k]?=some z -> z.bare=true \/ s2.gens[k]?=some z:=fun k z hz=>by
     rw [fM] at hz
     split at hz
     · cases hz; exact .inl rfl
     · exact .inr hz
    refine (fun Z=>((au9 (C3 _ _ _ Z) (.fresh (.func body (dD fd' s2.heap.objs.size fa))) (Array.getElem?_push_size ..) (fun s'' l=>⟨rfl,cw0 (hSO _ _ _ _ _ _ _ _ rfl (by unfold eC; simp [K.hk]) rfl (k9.gen (F:=t0 F s2.heap env (j8 fi env)) hA rfl _)) ρ2 s'' s'' (SI.look Z l) fun o e=>e⟩)):GSt prog _ xs Qe _ 0 _)) ⟨.same (.of_keep fun b o e=>kh b o (k₃ b o e)) rfl ?_,((S3.keeps kh).gens hb (fun e he _ x c hx hc=>by
     show (s2.gens.push _)[x.1]?=_
     rw [Array.getElem?_push_lt (S2.hs.glt he hx)]; rw [cA (S2.hs.glt he hx)] at hc; exact hc) (by rw [eU]; exact aY _)).tk (n:=tk3+1+1) (cj (aY _)),hoff,(l8 _ _ (aK _ rfl)),hgen4,?_,fun e he x hx=>bI (S2.hs.glt he hx),?_⟩
    · show s2.gens.size <= (s2.gens.push _).size
      rw [eU]; exact aN9
    · show s2.gens.size < (s2.gens.push _).size
      rw [eU]; exact ak1
    · show (h3.push _).objs.size≠h3.objs.size
      rw [cr]; exact aQ8
  · (intro s' acc c; refine bu5 fun m' H' ρ' Z hq=>?_; intro hS it)
    have z1:=Z.off _ (.head _)
    have p:ρ2<+:ρ'++[⟨(h3.push { cls:=.type "generator",data:=.fields #[.int s2.gens.size 0,.str fd'.name tk3,.str fd'.qualname (tk3+1)] }).objs.size,[(h3.push { cls:=.type "generator",data:=.fields #[.int s2.gens.size 0,.str fd'.name tk3,.str fd'.qualname (tk3+1)] }).objs.size],none⟩]:=Z.st.1.trans (aF _ _)
    have T:=Z.sim.hs.adopt (r:=[]) (o:=.list (xs.map V.str)) (dP.mpr ⟨fun q=>(nomatch q),iN⟩) (fun b hb=>by rw [au.mp hb]; exact (aj4 z1.2.1 z1.1 _ hS)) (W4 rfl rfl acc.toList ⟨_,hS⟩ (aY3 (by simpa using it.1) fun j v hj=>it.2 j v (by simpa using hj)))
    refine ⟨_,_,.ref H'.length,((st0.trans st1).trans st2).trans (Z.st.trans (.add (.refl _) rfl)),S2.ofH p Z.st.2.1 T,?_,hQ H' hq⟩
    unfold VR
    exact (c5 _ (by rw [<- Z.sim.hs.len,af]) rfl)
end
end
section
section
variable {prog:Program} {w:World} {KF:Frag} {fi:FI} {d:Nat} {E:EP} {m:b8} {H:List O}
theorem X7 {x:Str} {y:Str} {t:Nat} {pos:Pos} {Q:V -> List O -> Prop} (hl:fi.sc.names.lookup x=some .local) (hv:p0 m x=some (.stk y t)) (h:Q (.str y) H) (hd:(x==("__debug__":Str))=false:=by decide):WE prog w KF fi d E m H (.Name x pos) Q :=
 fun A env F ρ s hA S=>by
  (refine e8 (S.get hv hl) fun mv u hn e r=>?_)
  exact iD (dQ S.kd ((S.kind x).trans hl) hn e ⟨ρ,H,_,.refl,S,r.weak,h⟩) hd
theorem X8 {x:Str} {y:Str} {t:Nat} {pos:Pos} {Q:V -> List O -> Prop} (hl:fi.sc.names.lookup x=some .cell) (hv:p0 m x=some (.stk y t)) (h:Q (.str y) H) (hd:(x==("__debug__":Str))=false:=by decide):WE prog w KF fi d E m H (.Name x pos) Q :=
 fun A env F ρ s hA S=>by
  (refine c0 (S.ce x (.inl hl)) fun c hc=>?_)
  (refine b9 (S.cl x c hc) fun ov hi r=>?_)
  rw [hv] at r
  (refine b9 (r.some_of) fun u qz1 r=>?_; subst qz1)
  exact iD (wpAny_loadName_cell S.kd ((S.kind x).trans hl) hc hi ⟨ρ,H,_,.refl,S,r.weak,h⟩) hd
end
end
section
section
variable {w:World} {KF:Frag} {H:List O}
theorem aF1 (hN:nsIn KF cStatics iK=some none) {k:Nat} {x:UInt64} (hx:(fk x x==some .eq)=true) (hn:Float64.isNaN x=false):M3 w KF H k (.flt x) (.flt x) true:=fun A F ρ s u v hu S ru rv=>by
 (refine b9 (ru.flt_eq) fun t ht qz1=>?_; subst qz1)
 (refine b9 (rv.flt_eq) fun t' ht' qz2=>?_; subst qz2)
 have rc:RcAt A s (.float x t) (.float x t') true:=fun prog w E Q hq=>AutoFloatOps.eq_0 (by rw [hx]; exact hq)
 have rn:RcNeAt A s (.float x t) (.float x t') (!true):=fun prog w E Q hq=>AutoFloatOps.ne_0 (by
  have:(fk x x !=some Ordering.eq)=false:=by unfold bne; rw [hx]; rfl
  rw [this]; exact hq)
 refine ⟨rc,rn,fun prog w' E Q hq=>?_,fun _=>rfl⟩
 (refine b9 (S.b.dig) fun mc hm _=>?_)
 have hb:NoneBooked s.heap:=(c5 mc hm (ns_none_of S.b.k hm hN))
 unfold eqBool
 refine aM (wpAny_ite_split (fun hab=>ab (dB (ac hq))) (fun _=>?_))
 have main:ax (aA prog w') A (do let x <- richCompare .Eq (Value.float x t) (.float x t'); gR x) Q E s:=ab (rc prog w' E _ (by
  unfold gR
  first | exact ck hq | exact ac hq | exact aM (ck hq) | exact ab (ck (ac hq))))
 show ax (aA prog w') A (isSame.created (x==x&&!Float64.isNaN x) t t' >>= fun b=>if b=true then pure true else do let x <- richCompare .Eq (Value.float x t) (.float x t'); gR x) Q E s
 refine ab ?_
 unfold isSame.created
 rw [if_neg (by simp [ht,ht'])]
 by_cases e:t=t'
 · rw [if_pos (by simpa using e)]
   exact ac (ac hq)
 · rw [if_neg (by simpa using e),if_neg (by simp [hn])]
   refine ab (fh hb ?_)
   rw [if_neg bL]
   refine ab (fh hb ?_)
   rw [if_neg bL]
   refine ab (dB (ab (wpAny_askSetting (ac ?_))))
   have fin:∀ b:Bool,ax (aA prog w') A (if b=true then pure true else do let x <- richCompare .Eq (Value.float x t) (.float x t'); gR x) Q E s:=fun b=>by
    cases b
    · exact main
    · exact ac hq
   exact fin _
end
end
section
section
variable {prog:Program} {w:World} {KF:Frag} {d:Nat} {E:i7} {H:List O} {Q:V -> List O -> Prop}
theorem cw3 {fi:FI} {E:EP} {m:b8} {k1 k2 k3 k4 v1 v2 v3 v4:Str} {a1 a2 a3 a4 b1 b2 b3 b4:Nat} {p1 p2 p3 p4 q1 q2 q3 q4 pos:Pos} (hm:(k1≠k2 /\ k1≠k3 /\ k1≠k4) /\ (k2≠k3 /\ k2≠k4) /\ k3≠k4)
 (h:Q (.ref H.length) (H++[dO (strKind prog w) [(k1,.str v1),(k2,.str v2),(k3,.str v3),(k4,.str v4)]])) :
 WE prog w KF fi d E m H (.Dict [some (.Constant (.str k1) a1 p1),some (.Constant (.str k2) a2 p2),some (.Constant (.str k3) a3 p3),some (.Constant (.str k4) a4 p4)] [.Constant (.str v1) b1 q1,.Constant (.str v2) b2 q2,.Constant (.str v3) b3 q3,.Constant (.str v4) b4 q4] pos) Q:=fun A env F ρ s hA S=>by
 refine wpAny_Dict_pairs (knd:=strKind prog w) (pairs:=[(eval (.Constant (.str k1) a1 p1) env,do let x <- eval (.Constant (.str v1) b1 q1) env; fq pos; pure x),(eval (.Constant (.str k2) a2 p2) env,do let x <- eval (.Constant (.str v2) b2 q2) env; fq pos; pure x),(eval (.Constant (.str k3) a3 p3) env,do let x <- eval (.Constant (.str v3) b3 q3) env; fq pos; pure x),(eval (.Constant (.str k4) a4 p4) env,do let x <- eval (.Constant (.str v4) b4 q4) env; fq pos; pure x)]) rfl (ee _ _) (by show 4 <= 15; decide) (evalPairs_cons (bV (ab (bV (ab (cO (ac (evalPairs_cons (bV (ab (bV (ab (cO (ac (evalPairs_cons (bV (ab (bV (ab (cO (ac (evalPairs_cons (bV (ab (bV (ab (cO (ac (evalPairs_nil ?_)))))))))))))))))))))))))))))
 obtain ⟨n,hn⟩:∃ n,n=s.toks:=⟨_,rfl⟩
 have hD:=Heap.DictOf.new (knd:=strKind prog w) s.heap
 refine (i0 ([(k1,.str v1 (n+1)),(k2,.str v2 (n+1+1+1)),(k3,.str v3 (n+1+1+1+1+1)),(k4,.str v4 (n+1+1+1+1+1+1+1))]) ⟨strKind_is prog w _ _,by rw [hn],strKind_is prog w _ _,by rw [hn],strKind_is prog w _ _,by rw [hn],strKind_is prog w _ _,by rw [hn],trivial⟩ hD (fun h' hd hs=>?_))
 have em:merged ([]:List (Str×Value)) [(k1,.str v1 (n+1)),(k2,.str v2 (n+1+1+1)),(k3,.str v3 (n+1+1+1+1+1)),(k4,.str v4 (n+1+1+1+1+1+1+1))]=[(k1,.str v1 (n+1)),(k2,.str v2 (n+1+1+1)),(k3,.str v3 (n+1+1+1+1+1)),(k4,.str v4 (n+1+1+1+1+1+1+1))]:=by
  (refine l9 hm fun qz1 qz2 x6=>?_; try clear hm; obtain ⟨x1,x2,x3⟩:=qz1; obtain ⟨x4,x5⟩:=qz2)
  simp [merged,stored,x1,x2,x3,x4,x5,x6]
 rw [em] at hd
 have kk:o8 s.heap h':=fun b o e=>(hs.extBut b o (fun q=>absurd (bG e) (by rw [q]; exact Nat.lt_irrefl _)) (ak _ e))
 have hlo:(s.heap.objs.size==sysModules)=false:=by
  (refine c0 (S.b.g) fun mg qz3=>?_; refine F3 qz3 fun o es ep ho _=>?_; clear qz3)
  have:=bG ho
  refine beq_eq_false_iff_ne.mpr fun q=>?_
  rw [q] at this
  exact absurd this (by decide)
 (refine F3 (id hd) fun o _ _ ho _=>?_)
 have T:=S.toH.alloc (o:=dO (strKind prog w) [(k1,.str v1),(k2,.str v2),(k3,.str v3),(k4,.str v4)]) kk (z5 _) ⟨o,ho⟩ (m5 rfl rfl (Y9 hlo _ hd rfl (.cons J9 (.cons J9 (.cons J9 (.cons J9 .nil))))) (U0.stab _ _))
 refine ⟨_,_,.ref H.length,.add (s:=s) (.of_keep kk) rfl (ao _),(S.ofH (aF _ _) (.of_keep kk) T).tk ?_,?_,h⟩
 · show s.toks <= s.toks+1+1+1+1+1+1+1+1+_
   exact bJ5
 unfold VR
 exact (c5 _ (by rw [<- S.hs.len,af]) rfl)
theorem cw4 {x:UInt64} (h:Q (.bool true) H):i5 prog w KF d E H (.bi "isinstance") [.flt x,.ty "float"] Q:=fun A F ρ s u us hA S ru r=>by
 rw [ru.bi_eq]
 (refine e8 (r.cons_eq) fun v q qz4 rv rq=>?_; subst qz4)
 (refine e8 (rq.cons_eq) fun v' q' qz5 rv' rq'=>?_; subst qz5)
 rw [rq'.nil_eq,rv'.ty_eq]
 (refine b9 (rv.flt_eq) fun t ht qz6=>?_; subst qz6)
 exact call_isinstance (isinstance_true (Tx:="float") PySem.F.isi_meta_float PySem.F.isi_self_float) ⟨rfl,y4 S A6 h⟩
theorem aF2 {n:Nat} (hn:n <= 1000) (h:Q (.int ((2*n:Nat):Int)) H):W2 prog w KF d E VR H (dm .Mult) (.int 2) (.int (n:Nat)) Q:=by
 refine cc1 (IntMulOk.of_left (by decide)) ?_
 rw [show (2:Int)*(n:Nat)=((2*n:Nat):Int) by omega]
 exact h
end
end
section
set_option tactic.hygienic false
theorem aF3 {x:UInt64} (h:(fk x x==some .eq)=true):Float64.isNaN x=false:=by
 unfold fk at h
 unfold Float64.isNaN
 cases e:Float64.decode x<;>rw [e] at h<;>simp at h ⊢
theorem bf3 {m n:Nat} (hm:m <= 25) (hn:n <= 51) (h0:n≠0):(fk (B1 m n) (B1 m n)==some .eq)=true:=by
 have f:=aE5 ⟨m,by exact aw6 hm⟩ ⟨n - 1,by exact aw7 hn⟩
 rw [show n - 1+1=n by exact aw8 hn h0] at f
 exact f.2.2
section
variable {w:World} {KF:Frag} {H:List O}
theorem cw5 (hN:nsIn KF cStatics iK=some none) {l r:Nat} {x y z:UInt64} (hx:(fk x x==some .eq)=true) (hy:(fk y y==some .eq)=true) (hz:(fk z z==some .eq)=true)
 (hl:H[l]?=some (.list [.flt x,.flt y,.flt z])) (hr:H[r]?=some (.list [.flt x,.flt y,.flt z])):M3 w KF H 1 (.ref l) (.ref r) true:=by
 have:=cg2 (w:=w) (KF:=KF) (k:=0) (e:=fun _ _=>true) hl hr fun j u v hu hv=>by
  match j,hu,hv with
  | 0,hu,hv=>cases hu; cases hv; exact aF1 hN hx (aF3 hx)
  | 1,hu,hv=>cases hu; cases hv; exact aF1 hN hy (aF3 hy)
  | 2,hu,hv=>cases hu; cases hv; exact aF1 hN hz (aF3 hz)
  | n+3,hu,hv=>simp at hu
 exact this
end
end
end Mine
end
section
open PySem PySem.W PyProof.Rows PySem.Spec PySem.Calls
namespace Mine
noncomputable def cw6 (tk:Nat) (q:Program) (loose:List Str) (XP:(Str -> Option Value) -> Heap -> Prop) (YP:World -> Heap -> Prop) (r:RowW) (d:DefRec) (kwd:List (Str×Expr)):Prop :=
 ∀ (w:World) (s₀ s₁:Shared) (mg mb:Str -> Option Value),Ground q loose r.records XP w s₀ mg mb s₁.heap -> YP w s₁.heap -> ∀ (a:Addr) (o:Obj) (pm cd doc dV kV:Value),s₁.heap.get? a=some o ->
  o.data=.func { docDef d.name d.params d.body d.scope pm cd doc with defaults:=dV,kwdefaults:=kV } -> s₁.heap.CodeRec cd d.name -> Dflts mg s₁.heap d.params kwd dV kV -> mg d.name=some (.ref a) -> s₁.gens=#[] -> tk <= s₁.toks ->
  ∀ (args:List WData) (vals:List Value) (as:List Addr),r.claim.pre args=true -> WData.layableAll args=true -> ReadsAllW r.records (classAt s₀.heap) s₁.heap vals args as -> WellAll w.params s₁.heap vals args -> (∀ a∈as,(a==sysModules)=false) ->
   A4 (aA r.prog w) callerA (PySem.call (.ref a) vals) (fun v s'=>GoodWG r.claim (classAt s₀.heap) (ExcName.means s₀.heap) args s₁ (.ok (.ret v)) s') (fun e s'=>GoodWG r.claim (classAt s₀.heap) (ExcName.means s₀.heap) args s₁ (.error e) s') s₁
theorem holds_T {tk:Nat} {r:OpenRow} {q:Program} {loose:List Str} {Xt:Shared -> Bool} {XP:(Str -> Option Value) -> Heap -> Prop} {α:Type} {Yf:Shared -> α} {Ya:World -> α} {YP:World -> Heap -> Prop} {d:DefRec} {kwd:List (Str×Expr)} {N:Nat}
 (left:LeftO r.prog q loose Xt Yf Ya N) (hY:∀ w s,Yf s=Ya w -> YP w s.heap) (htk:∀ w s,Yf s=Ya w -> tk <= s.toks) (hYk:∀ w h h',YP w h -> (∀ b o,h.get? b=some o -> h'.get? b=some o) -> YP w h')
 (hX:∀ s,Xt s=true -> XP (s.heap.nsMap aT) s.heap) (hXk:∀ mg h h',XP mg h -> (∀ b o,h.get? b=some o -> h'.get? b=some o) -> XP mg h')
 (hdef:defOf q r.name=some (d,kwd)) (hp:r.prog.theDef r.name=some (d.params,d.body,d.scope)) (hk:kwWritten? d.params.kwonlyargs d.params.kw_defaults=some kwd) (hRf:∀ s,Xt s=true -> RecFacts r.records s.heap) (hwr:(!r.writes||r.records.isEmpty)=true)
 (k1:r.wellSaid=true) (ok:(chainsOk q&&opensWell r.prog&&(frees r.toRowW&&r.within.isEmpty))=true) (hb:r.prog.bare) (hw:r.toRowW.promised) (call:cw6 tk q loose XP YP r.toRowW d kwd):r.Holds:=by
 (refine d0 (gY.mp ok) fun ok k5=>?_)
 (refine d0 (gY.mp ok) fun hch o1=>?_)
 (refine d0 (gY.mp k5) fun k5 k6=>?_)
 (refine G7 (frees_parts k5) fun hsame hu ha hap hm=>?_)
 refine ⟨k1,hw,(e9 hb o1 (by show r.toRowW.makers.map _=[]; rw [hm]; rfl)),hw.witness,fun w=>⟨(left.behind hX hch w).1,fun s' hs'=>?_⟩⟩
 (refine bt1 ((left.behind (XP:=fun mg h=>XP mg h /\ RecFacts r.records h) (fun s hs=>⟨hX s hs,hRf s hs⟩) hch w).2 s' hs') fun s₀ hf hg0 s hT hz hgens hg G00 y=>?_)
 have G0:Ground q loose [] XP w s (s.heap.nsMap aT) (s.heap.nsMap ew) s.heap:=⟨G00.T,G00.B,G00.D,G00.TE,G00.TD,G00.W,G00.X.1,G00.cls,G00.has,G00.apart,G00.once,G00.K⟩
 have RF:=G00.X.2
 have hT':=hT
 have hgens:s.gens=#[]:=Array.eq_empty_of_size_eq_zero (beq_iff_eq.mp hgens)
 have G:Ground q loose r.records XP w s _ _ s.heap:=RF.ground G0
 refine (bw6 s₀ hf hg0 s hT (fun n hn=>?_) RF.1 RF.2.1 (cj7 (c:=r.toRowW.claim) hz hgens fun args hpre hlay ord hord=>?_))
 · obtain rfl:n=r.name:=by split at hn<;>simp_all
   exact pinned_of_view hg G0 hdef hp hk
 (refine c0 (dN.mp (layAllW_isSome (P:=w.params) (ord:=ord) G.has args r.toRowW.args s (pre_splitW hpre).1)) fun qz1 hl=>?_; obtain ⟨vs,s₁⟩:=qz1)
 have keeps:=layAllW_keeps _ _ _ hl
 have hal:=layAllW_rest _ _ _ hl
 (refine o0 (reads_layAllW hord _ _ _ hl hlay s₁.heap (fun _ _ e=>e)) fun as hrd hin hold=>?_)
 have L:Laid r.records w s s₁ args vs as:=⟨(c5 ord hord hl),hrd,hin,hold,keeps,hal.1.trans hgens,hal.2.2.1⟩
 have G₁:=G.keeps hXk keeps
 (refine bt4 (G₁.fn hdef) fun a o pm cd doc dV kV h1 h2 h3 h4 h5=>?_)
 have h:=call w s s₁ _ _ G₁ (hYk _ _ _ (hY w s y) keeps) a o pm cd doc dV kV h2 h3 h4 h5 (defOf_name hdef▸h1) L.gens (ag (htk w s y) (layAllW_grows _ _ _ hl).toks) args vs as hpre hlay L.reads L.well (L.low G.low)
 have hi:=ident_freeW hu ha hap
 have hwi:r.toRowW.claim.within=[]:=List.isEmpty_iff.mp k6
 refine (L6 vs s₁ hl (aS9 (up (wpAny_nsGet G₁.T.g ?_))))
 rw [h1]
 refine aS9 (ax6 h (fun v s' g=>bW7 (M:=aA r.prog w) (c5 _ rfl ?_)) fun e s' g=>?_)
 · have z:=g.laid (c:=r.toRowW.claim) hsame hwi hi L
   exact ⟨(e9 z.1 z.2.1 (fun q=>⟨namesKept_of hT' hg _ keeps g.2.1.old,noTable hwr q⟩)),z.2.2⟩
 · have z:=g.laid (c:=r.toRowW.claim) hsame hwi hi L
   exact ⟨(e9 z.1 z.2.1 (fun q=>⟨namesKept_of hT' hg _ keeps g.2.1.old,noTable hwr q⟩)),z.2.2⟩
end Mine
end
section
open PySem PySem.W PyProof.Rows PySem.W.X PySem.SeqAt
namespace Mine
section
set_option tactic.hygienic false
noncomputable def MM (a b:List Nat) (i j:Nat):Prop:=∃ c,a[i]?=some c /\ b[j]?=some c
structure Rows (a b:List Nat):Prop where
 na:a.Nodup
 nb:b.Nodup
 mo:∀ i j i' j',MM a b i j -> MM a b i' j' -> i < i' -> j < j'
section
variable {a b:List Nat}
theorem MM.lt {i j:Nat} (h:MM a b i j):i < a.length /\ j < b.length:=b9 (h) fun _ h1 h2=>⟨(ae.mp h1).1,(ae.mp h2).1⟩
theorem Rows.fn (R:Rows a b) {i j j':Nat} (h:MM a b i j) (h':MM a b i j'):j=j':=by
 (refine b9 h fun c h1 h2=>?_; clear h)
 (refine b9 h' fun c' h3 h4=>?_; clear h')
 rw [h1] at h3; cases h3
 exact (gN (ae.mp h2).1 R.nb).mp (h2.trans h4.symm)
theorem Rows.inj (R:Rows a b) {i i' j:Nat} (h:MM a b i j) (h':MM a b i' j):i=i':=by
 (refine b9 h fun c h1 h2=>?_; clear h)
 (refine b9 h' fun c' h3 h4=>?_; clear h')
 rw [h2] at h4; cases h4
 exact (gN (ae.mp h1).1 R.na).mp (h1.trans h3.symm)
theorem Rows.iff (R:Rows a b) {i j i' j':Nat} (h:MM a b i j) (h':MM a b i' j'):i < i'↔j < j':=by
 refine ⟨R.mo _ _ _ _ h h',fun q=>?_⟩
 rcases Nat.lt_trichotomy i i' with e | e | e
 · exact e
 · subst e; have:=R.fn h h'; exact bJ6 q this
 · have:=R.mo _ _ _ _ h' h e; exact bJ7 q this
noncomputable def M9 (a b:List Nat) (i j k:Nat):Prop:=∀ t,t < k -> MM a b (i+t) (j+t)
structure D6 (a b:List Nat) (alo ahi blo bhi:Nat):Prop where
 a1:alo <= ahi
 a2:ahi <= a.length
 b1:blo <= bhi
 b2:bhi <= b.length
 iff:∀ i j,MM a b i j -> (alo <= i /\ i < ahi↔blo <= j /\ j < bhi)
structure F0 (a b:List Nat) (alo ahi blo bhi i j k:Nat):Prop where
 d:M9 a b i j k
 a1:alo <= i
 a2:i+k <= ahi
 b1:blo <= j
 b2:j+k <= bhi
 no:k=0 -> ∀ i' j',MM a b i' j' -> alo <= i' -> i' < ahi -> blo <= j' -> j' < bhi -> False
structure C0 (a b:List Nat) (alo blo bhi i:Nat) (bi bj bs:Nat) (r:Option (Nat×Nat)):Prop where
 d:M9 a b bi bj bs
 a1:alo <= bi
 a2:bi+bs <= i
 b1:blo <= bj
 b2:bj+bs <= bhi
 no:bs=0 -> ∀ i' j',MM a b i' j' -> alo <= i' -> i' < i -> blo <= j' -> j' < bhi -> False
 r:∀ j k,r=some (j,k) -> 1 <= k /\ alo+k <= i /\ blo+k <= j+1 /\ j < bhi /\ M9 a b (i - k) (j+1 - k) k
theorem C0.start {alo blo bhi:Nat} (h:blo <= bhi):C0 a b alo blo bhi alo alo blo 0 none:=⟨fun t ht=>absurd ht (gc _),ao _,ao _,ao _,h,fun _ _ _ _ h1 h2=>absurd h2 (bN.mpr h1),fun _ _ q=>nomatch q⟩
theorem C0.skip {alo blo bhi i bi bj bs:Nat} {r:Option (Nat×Nat)} (F:C0 a b alo blo bhi i bi bj bs r) (h:∀ j,MM a b i j -> blo <= j -> j < bhi -> False):C0 a b alo blo bhi (i+1) bi bj bs none :=
 ⟨F.d,F.a1,cj F.a2,F.b1,F.b2,fun q i' j' hm h1 h2 h3 h4=>by
  by_cases e:i'=i
  · subst e; exact h j' hm h3 h4
  · exact F.no q i' j' hm h1 (by exact ak0 h2 e) h3 h4,fun _ _ q=>nomatch q⟩
noncomputable def t5 (r:Option (Nat×Nat)) (j:Nat):Nat:=match r with
 | some (j',k)=>if j'+1=j then k else 0
 | none=>0
theorem C0.run {alo blo bhi i bi bj bs j:Nat} {r:Option (Nat×Nat)} (F:C0 a b alo blo bhi i bi bj bs r) (hm:MM a b i j) (h0:alo <= i) (h1:blo <= j) (h2:j < bhi) :
 1 <= t5 r j+1 /\ alo+(t5 r j+1) <= i+1 /\ blo+(t5 r j+1) <= j+1 /\ j < bhi /\ M9 a b (i+1 - (t5 r j+1)) (j+1 - (t5 r j+1)) (t5 r j+1):=by
 have one:M9 a b (i+1 - (0+1)) (j+1 - (0+1)) (0+1):=fun t ht=>by
  have:t=0:=by exact bJ8 ht
  subst this
  exact hm
 cases r with
 | none=>exact (J7 (by simp [t5]) (by simp [t5]; exact nq3 h0) (by simp [t5]; exact nq3 h1) h2 one)
 | some p =>
  obtain ⟨j',k⟩:=p
  (refine G7 (F.r j' k rfl) fun g1 g2 g3 g4 g5=>?_)
  by_cases e:j'+1=j
  · have er:t5 (some (j',k)) j=k:=by unfold t5; exact if_pos e
    rw [er]
    refine (J7 (by exact bJ9 g1 er) (by exact bK0 g2 er) (by exact bK1 g3 e er) h2 (fun t ht=>?_))
    by_cases q:t < k
    · have:=g5 t q
      have e1:i+1 - (k+1)=i - k:=by exact bK2 g2 er
      have e2:j+1 - (k+1)=j'+1 - k:=by exact bK3 g3 e er
      rw [e1,e2]; exact this
    · have et:k=t:=Nat.le_antisymm (bx q) (Nat.le_of_lt_succ ht)
      subst et
      have e1:i+1 - (k+1)+k=i:=by rw [Nat.add_sub_add_right]; exact Nat.sub_add_cancel (ag (Nat.le_add_left k alo) g2)
      have e2:j+1 - (k+1)+k=j:=by rw [Nat.add_sub_add_right]; exact Nat.sub_add_cancel (e▸ag (Nat.le_add_left k blo) g3)
      rw [e1,e2]; exact hm
  · have er:t5 (some (j',k)) j=0:=by unfold t5; exact if_neg e
    rw [er]
    exact (J7 (by exact bK4) (by exact aP4 h0) (by exact aP4 h1) h2 one)
theorem C0.better {alo blo bhi i bi bj bs j:Nat} {r:Option (Nat×Nat)} (F:C0 a b alo blo bhi i bi bj bs r) (hm:MM a b i j) (h0:alo <= i) (h1:blo <= j) (h2:j < bhi) (hb:bs < t5 r j+1) :
 C0 a b alo blo bhi (i+1) (i+1 - (t5 r j+1)) (j+1 - (t5 r j+1)) (t5 r j+1) (some (j,t5 r j+1)):=by
 have g:=F.run hm h0 h1 h2
 (refine G7 g fun g1 g2 g3 g4 g5=>?_; clear g)
 refine ⟨g5,by exact aP5 g2,by exact bK5 g2,by exact aP5 g3,by exact bK6 h2 g3,fun q=>absurd q (Nat.succ_ne_zero _),fun j' k' q=>?_⟩
 cases q
 exact (J7 g1 g2 g3 g4 g5)
theorem C0.same {alo blo bhi i bi bj bs j:Nat} {r:Option (Nat×Nat)} (F:C0 a b alo blo bhi i bi bj bs r) (hm:MM a b i j) (h0:alo <= i) (h1:blo <= j) (h2:j < bhi) (hb:¬ bs < t5 r j+1) :
 C0 a b alo blo bhi (i+1) bi bj bs (some (j,t5 r j+1)):=by
 have g:=F.run hm h0 h1 h2
 refine ⟨F.d,F.a1,cj F.a2,F.b1,F.b2,fun q=>absurd (q▸Nat.succ_pos _) hb,fun j' k' q=>?_⟩
 cases q
 exact g
theorem C0.done {alo ahi blo bhi bi bj bs:Nat} {r:Option (Nat×Nat)} (F:C0 a b alo blo bhi ahi bi bj bs r):F0 a b alo ahi blo bhi bi bj bs:=⟨F.d,F.a1,F.a2,F.b1,F.b2,F.no⟩
theorem F0.left {alo ahi blo bhi i j k:Nat} (F:F0 a b alo ahi blo bhi i j k) (hi:alo < i) (hj:blo < j) (hm:MM a b (i - 1) (j - 1)):F0 a b alo ahi blo bhi (i - 1) (j - 1) (k+1):=by
 have:=F.a2
 have:=F.b2
 refine ⟨fun t ht=>?_,by exact aP6 hi,by exact aP7 hi (by assumption),by exact aP6 hj,by exact aP7 hj this,fun q=>by omega⟩
 cases t with
 | zero=>exact hm
 | succ t =>
  have e1:i - 1+(t+1)=i+t:=by exact aP8 hi
  have e2:j - 1+(t+1)=j+t:=by exact aP8 hj
  rw [e1,e2]; exact F.d t (by exact bK7 ht)
theorem F0.right {alo ahi blo bhi i j k:Nat} (F:F0 a b alo ahi blo bhi i j k) (hi:i+k < ahi) (hj:j+k < bhi) (hm:MM a b (i+k) (j+k)):F0 a b alo ahi blo bhi i j (k+1):=by
 refine ⟨fun t ht=>?_,F.a1,by exact aP9 hi,F.b1,by exact aP9 hj,fun q=>by omega⟩
 by_cases e:t=k
 · subst e; exact hm
 · exact F.d t (by exact ak0 ht e)
theorem D6.l {alo ahi blo bhi i j k:Nat} (R:Rows a b) (W:D6 a b alo ahi blo bhi) (F:F0 a b alo ahi blo bhi i j k) (hk:k≠0):D6 a b alo i blo j:=by
 have h0:=F.d 0 (Nat.pos_of_ne_zero hk)
 refine ⟨F.a1,ag (ag (bd i k) F.a2) W.a2,F.b1,ag (ag (bd j k) F.b2) W.b2,fun i' j' hm=>?_⟩
 have h1:=W.iff i' j' hm
 have h2:i' < i↔j' < j:=R.iff hm h0
 exact ⟨fun p=>⟨(h1.mp ⟨p.1,aW p.2 (ag (bd i k) F.a2)⟩).1,h2.mp p.2⟩,fun p=>⟨(h1.mpr ⟨p.1,aW p.2 (ag (bd j k) F.b2)⟩).1,h2.mpr p.2⟩⟩
theorem D6.r {alo ahi blo bhi i j k:Nat} (R:Rows a b) (W:D6 a b alo ahi blo bhi) (F:F0 a b alo ahi blo bhi i j k) (hk:k≠0):D6 a b (i+k) ahi (j+k) bhi:=by
 cases k with
 | zero=>exact absurd rfl hk
 | succ k =>
  have h0:=F.d k (cK k)
  refine ⟨F.a2,W.a2,F.b2,W.b2,fun i' j' hm=>?_⟩
  have h1:=W.iff i' j' hm
  have h2:i+k < i'↔j+k < j':=R.iff h0 hm
  exact ⟨fun p=>⟨h2.mp p.1,(h1.mp ⟨ag F.a1 (ag (bd i _) p.1),p.2⟩).2⟩,fun p=>⟨h2.mpr p.1,(h1.mpr ⟨ag F.b1 (ag (bd j _) p.1),p.2⟩).2⟩⟩
theorem D6.start (a b:List Nat):D6 a b 0 a.length 0 b.length:=⟨bm _,ao _,bm _,ao _,fun i j h=>by have:=h.lt; exact bK8 this⟩
end
noncomputable abbrev Bl:=Nat×Nat×Nat
noncomputable abbrev Wd:=Nat×Nat×Nat×Nat
noncomputable def P5 (m:Bl):Nat×Nat:=(m.1,m.1+m.2.2)
noncomputable def K6 (w:Wd):Nat×Nat:=(w.1,w.2.1)
noncomputable def G4 (x y:Nat×Nat):Prop:=x.2 <= y.1 \/ y.2 <= x.1
theorem G4.symm {x y:Nat×Nat} (h:G4 x y):G4 y x:=h.elim .inr .inl
structure K7 (a b:List Nat) (q:List Wd) (f:List Bl):Prop where
 w:∀ x∈q,D6 a b x.1 x.2.1 x.2.2.1 x.2.2.2
 d:∀ m∈f,M9 a b m.1 m.2.1 m.2.2 /\ m.2.2≠0
 c:∀ i j,MM a b i j -> (∃ m∈f,m.1 <= i /\ i < m.1+m.2.2) \/ ∃ x∈q,x.1 <= i /\ i < x.2.1
 ap:(f.map P5++q.map K6).Pairwise G4
noncomputable def y7 (q:List Wd):Nat:=(q.map fun x=>2*(x.2.1 - x.1)+1).sum
section
variable {a b:List Nat}
theorem K7.start (a b:List Nat):K7 a b [(0,a.length,0,b.length)] []:=⟨fun x hx=>by rw [au.mp hx]; exact D6.start a b,fun m hm=>(nomatch hm),fun i j h=>.inr (i0 _ (.head _) (bm _) h.lt.1),by simp⟩
theorem bf4 {f:List Bl} {q:List Wd} {x:Nat×Nat} (h:(f.map P5++(q++[(x.1,x.2,0,0)]).map K6).Pairwise G4):(f.map P5++q.map K6).Pairwise G4 /\ ∀ y∈f.map P5++q.map K6,G4 y x:=by
 rw [aQ,<- bD,dW] at h
 exact ⟨h.1,fun y hy=>h.2.2 y hy _ (.head _)⟩
theorem K7.none {q:List Wd} {f:List Bl} {alo ahi blo bhi i j:Nat} (Z:K7 a b (q++[(alo,ahi,blo,bhi)]) f) (F:F0 a b alo ahi blo bhi i j 0):K7 a b q f:=by
 have W:D6 a b alo ahi blo bhi:=Z.w _ (cC _ (.head _))
 refine ⟨fun x hx=>Z.w x (cM _ hx),Z.d,fun i' j' hm=>?_,(bf4 (x:=(alo,ahi)) (by have:=Z.ap; rw [aQ] at this ⊢; exact this)).1⟩
 rcases Z.c i' j' hm with h | ⟨x,hx,h1,h2⟩
 · exact .inl h
 · rcases bh.mp hx with hx | hx
   · exact .inr (i0 x hx h1 h2)
   · rw [au.mp hx] at h1 h2
     have:=(W.iff i' j' hm).mp ⟨h1,h2⟩
     exact (F.no rfl i' j' hm h1 h2 this.1 this.2).elim
noncomputable def C2 (alo blo i j:Nat):List Wd:=if alo < i /\ blo < j then [(alo,i,blo,j)] else []
noncomputable def F1 (ahi bhi i j:Nat):List Wd:=if i < ahi /\ j < bhi then [(i,ahi,j,bhi)] else []
theorem aF4 {alo blo i j:Nat}:∀ y∈(C2 alo blo i j).map K6,y=(alo,i):=by
 unfold C2
 split
 · exact fun y hy=>au.mp hy
 · exact fun y hy=>nomatch hy
theorem bf5 {ahi bhi i j:Nat}:∀ y∈(F1 ahi bhi i j).map K6,y=(i,ahi):=by
 unfold F1
 split
 · exact fun y hy=>au.mp hy
 · exact fun y hy=>nomatch hy
theorem K7.some {q:List Wd} {f:List Bl} {alo ahi blo bhi i j k:Nat} (R:Rows a b) (Z:K7 a b (q++[(alo,ahi,blo,bhi)]) f) (F:F0 a b alo ahi blo bhi i j k) (hk:k≠0) :
 K7 a b (q++C2 alo blo i j++F1 ahi bhi (i+k) (j+k)) (f++[(i,j,k)]):=by
 have W:D6 a b alo ahi blo bhi:=Z.w _ (cC _ (.head _))
 have A:=bf4 (x:=(alo,ahi)) (f:=f) (q:=q) (by have:=Z.ap; rw [aQ] at this ⊢; exact this)
 (refine d0 A fun A1 A2=>?_; clear A)
 have f1:=F.a1
 have f2:=F.a2
 refine ⟨fun x hx=>?_,fun m hm=>?_,fun i' j' hm=>?_,?_⟩
 · rcases bh.mp hx with hx | hx
   · rcases bh.mp hx with hx | hx
     · exact Z.w x (cM _ hx)
     · unfold C2 at hx
       split at hx
       · rw [au.mp hx]; exact W.l R F hk
       · cases hx
   · unfold F1 at hx
     split at hx
     · rw [au.mp hx]; exact W.r R F hk
     · cases hx
 · rcases bh.mp hm with hm | hm
   · exact Z.d m hm
   · rw [au.mp hm]; exact ⟨F.d,hk⟩
 · rcases Z.c i' j' hm with ⟨m,h,h1⟩ | ⟨x,hx,h1,h2⟩
   · exact .inl (c5 m (cM _ h) h1)
   · rcases bh.mp hx with hx | hx
     · exact .inr (i0 x (cM _ (cM _ hx)) h1 h2)
     · rw [au.mp hx] at h1 h2
       dsimp only at h1 h2
       have hb:=(W.iff i' j' hm).mp ⟨h1,h2⟩
       have hl:=(W.l R F hk).iff i' j' hm
       have hr:=(W.r R F hk).iff i' j' hm
       by_cases e1:i' < i
       · have:=hl.mp ⟨h1,e1⟩
         refine .inr (i0 (alo,i,blo,j) (cM _ (cC _ ?_)) h1 e1)
         unfold C2
         rw [if_pos ⟨by exact bK9 f1 h1 e1,by exact bL0 hb this⟩]
         exact .head _
       · by_cases e2:i' < i+k
         · exact .inl (i0 (i,j,k) (cC _ (.head _)) (by show i <= i'; exact nq9 e1) e2)
         · have:=hr.mp ⟨by exact aQ0 e2,h2⟩
           refine .inr (i0 (i+k,ahi,j+k,bhi) (cC _ ?_) (by show i+k <= i'; exact aQ0 e2) h2)
           unfold F1
           rw [if_pos ⟨by exact bL1 f2 h2 e2,by exact bL2 hb this⟩]
           exact .head _
 · have key:(f.map P5++q.map K6++([(i,i+k)]++(C2 alo blo i j).map K6++(F1 ahi bhi (i+k) (j+k)).map K6)).Pairwise G4:=by
    have sub:∀ y∈[(i,i+k)]++(C2 alo blo i j).map K6++(F1 ahi bhi (i+k) (j+k)).map K6,alo <= y.1 /\ y.2 <= ahi:=fun y hy=>by
     have f3:=ag (bd i k) f2
     have f4:=ag f1 (bd i k)
     rcases bh.mp hy with hy | hy
     · rcases bh.mp hy with hy | hy
       · rw [au.mp hy]; exact ⟨f1,f2⟩
       · rw [aF4 y hy]; exact ⟨ao _,f3⟩
     · rw [bf5 y hy]; exact ⟨f4,ao _⟩
    refine dW.mpr (e9 A1 ?_ (fun x hx y hy=>?_))
    · refine dW.mpr ⟨dW.mpr ⟨List.pairwise_singleton _ _,?_,fun x hx y hy=>?_⟩,?_,fun x hx y hy=>?_⟩
      · unfold C2; split
        · exact List.pairwise_singleton _ _
        · exact .nil
      · rw [au.mp hx,aF4 y hy]; exact .inr (ao _)
      · unfold F1; split
        · exact List.pairwise_singleton _ _
        · exact .nil
      · rw [bf5 y hy]
        rcases bh.mp hx with hx | hx
        · rw [au.mp hx]; exact .inl (ao _)
        · rw [aF4 x hx]; exact .inl (bd _ _)
    · have h1:=A2 x hx
      have h2:=sub y hy
      unfold G4 at h1 ⊢
      dsimp only at h1
      exact bL3 h1 h2
   refine (List.Perm.pairwise_iff (fun h=>G4.symm h) ?_).mp key
   simp only [aQ,aR,fC,bD]
   refine List.Perm.append_left _ ?_
   rw [<- bD (q.map K6),<- bD [P5 (i,j,k)]]
   exact List.Perm.append_right _ List.perm_append_comm
theorem ao5 (q r:List Wd):y7 (q++r)=y7 q+y7 r:=by unfold y7; rw [aQ,List.sum_append]
theorem aF5 {q:List Wd} {w:Wd}:y7 q < y7 (q++[w]):=by rw [ao5]; show _ < _+(2*(w.2.1 - w.1)+1+0); exact bL4
theorem cw7 {q:List Wd} {alo ahi blo bhi i j k:Nat} (F:F0 a b alo ahi blo bhi i j k) (hk:k≠0):y7 (q++C2 alo blo i j++F1 ahi bhi (i+k) (j+k)) < y7 (q++[(alo,ahi,blo,bhi)]):=by
 have:=F.a1
 have:=F.a2
 rw [ao5,ao5,ao5]
 have e:y7 [(alo,ahi,blo,bhi)]=2*(ahi - alo)+1:=by unfold y7; simp
 have l:y7 (C2 alo blo i j) <= 2*(i - alo)+1:=by unfold C2; split<;>(unfold y7; simp)
 have r:y7 (F1 ahi bhi (i+k) (j+k)) <= 2*(ahi - (i+k))+1:=by unfold F1; split<;>(unfold y7; simp)
 rw [e]; exact bL5 hk (by assumption) this l r
end
noncomputable def u0 (a b:List Nat):Nat -> Nat -> List Bl -> Prop
 | i,j,[]=>i <= a.length /\ j <= b.length /\ ∀ i' j',MM a b i' j' -> i' < i
 | i,j,m::r=>i <= m.1 /\ j <= m.2.1 /\ (∀ i' j',MM a b i' j' -> i <= i' -> m.1 <= i') /\ M9 a b m.1 m.2.1 m.2.2 /\ m.1+m.2.2 <= a.length /\ m.2.1+m.2.2 <= b.length /\ u0 a b (m.1+m.2.2) (m.2.1+m.2.2) r
end
section
set_option tactic.hygienic false
section
variable {a b:List Nat}
theorem bf6 (R:Rows a b):∀ (g:List Bl) (i j:Nat),(∀ m∈g,M9 a b m.1 m.2.1 m.2.2 /\ m.2.2≠0) -> g.Pairwise (fun x y=>x.1+x.2.2 <= y.1) -> (∀ m∈g,i <= m.1 /\ j <= m.2.1) ->
 (∀ i' j',MM a b i' j' -> i' < i \/ ∃ m∈g,m.1 <= i' /\ i' < m.1+m.2.2) -> i <= a.length -> j <= b.length -> u0 a b i j g
 | [],i,j,_,_,_,hc,hi,hj=>(e9 hi hj (fun i' j' hm=>(hc i' j' hm).elim id (J6 fun m hm _=>nomatch hm)))
 | (x,y,k)::r,i,j,hd,hp,hg,hc,hi,hj=>by
  (refine d0 (hg _ (.head _)) fun h1 h2=>?_)
  (refine d0 (hd _ (.head _)) fun d1 d2=>?_)
  dsimp only at h1 h2 d1 d2
  rw [List.pairwise_cons] at hp
  have last:=d1 (k - 1) (by exact bx8 d2)
  have lt:=last.lt
  refine (F4 h1 h2 (fun i' j' hm hle=>?_) d1 (by show x+k <= _; exact aQ1 lt) (by show y+k <= _; exact aQ2 lt) (bf6 R r (x+k) (y+k) (fun m hm=>hd m (.tail _ hm)) hp.2 (fun m hm=>?_) (fun i' j' hm=>?_) (by exact aQ1 lt) (by exact aQ2 lt)))
  · rcases hc i' j' hm with q | ⟨m,hm',q1,q2⟩
    · exact absurd q (bN.mpr hle)
    · rcases aJ.mp hm' with rfl | hm'
      · exact q1
      · have:=hp.1 m hm'
        show x <= i'
        exact ag (ag (bd x k) this) q1
  · have g1:=hp.1 m hm
    dsimp only at g1
    refine ⟨g1,?_⟩
    (refine d0 (hd m (.tail _ hm)) fun e1 e2=>?_)
    have f:=e1 0 (by exact bx7 e2)
    have:=(R.iff last f).mp (by exact bL6 d2 g1 e2)
    exact bL7 e2 this
  · rcases hc i' j' hm with q | ⟨m,hm',q1,q2⟩
    · exact .inl (by exact bL8 h1 q)
    · rcases aJ.mp hm' with rfl | hm'
      · exact .inl q2
      · exact .inr (i0 m hm' q1 q2)
theorem cw8 (R:Rows a b) {f g:List Bl} (Z:K7 a b [] f) (hp:g.Perm f) (hs:g.Pairwise fun x y=>x.1 < y.1):u0 a b 0 0 g:=by
 have hd:∀ m∈g,M9 a b m.1 m.2.1 m.2.2 /\ m.2.2≠0:=fun m hm=>Z.d m (hp.mem_iff.mp hm)
 refine bf6 R g 0 0 hd ?_ (fun m _=>⟨bm _,bm _⟩) (fun i j hm=>?_) (bm _) (bm _)
 · have ap:(f.map P5).Pairwise G4:=by have:=Z.ap; simpa using this
   have ap':(g.map P5).Pairwise G4:=(List.Perm.pairwise_iff (fun h=>G4.symm h) (hp.map P5)).mpr ap
   rw [du] at ap'
   have both:=ap'.and hs
   refine iC (fun {x y} hx hy h=>?_) both
   (refine d0 h fun h1 h2=>?_; clear h)
   have:=(hd y hy).2
   unfold G4 P5 at h1
   dsimp only at h1
   exact bL9 h1 h2 this
 · rcases Z.c i j hm with ⟨m,h1,h2⟩ | ⟨x,hx,_⟩
   · exact .inr (c5 m (hp.mem_iff.mpr h1) h2)
   · cases hx
theorem bf7 {x y k k':Nat} {r:List Bl}:∀ {na:List Bl} {i j:Nat},u0 a b i j (na++(x,y,k)::(x+k,y+k,k')::r) -> u0 a b i j (na++(x,y,k+k')::r)
 | [],i,j,h=>by
  (refine br8 h fun h1 h2 h3 h4 h5 h6 g1 g2 g3 g4 g5 g6 g7=>?_; clear h)
  dsimp only at *
  refine (F4 h1 h2 h3 (fun t ht=>?_) (by show x+(k+k') <= _; exact aQ3 g5) (by show y+(k+k') <= _; exact aQ3 g6) ?_)
  · have ht:t < k+k':=ht
    by_cases q:t < k
    · exact h4 t q
    · have:=g4 (t - k) (by exact bM0 ht q)
      rw [show x+k+(t - k)=x+t by exact aQ4 q,show y+k+(t - k)=y+t by exact aQ4 q] at this
      exact this
  · show u0 a b (x+(k+k')) (y+(k+k')) r
    rw [<- Nat.add_assoc,<- Nat.add_assoc]; exact g7
 | m::na,i,j,h=>(F4 h.1 h.2.1 h.2.2.1 h.2.2.2.1 h.2.2.2.2.1 h.2.2.2.2.2.1 (bf7 h.2.2.2.2.2.2))
theorem aF6 {x y:Nat} {r:List Bl}:∀ {na:List Bl} {i j:Nat},u0 a b i j (na++(x,y,0)::r) -> u0 a b i j (na++r)
 | [],i,j,h=>by
  (refine V3 h fun h1 h2 h3 h4 h5 h6 h7=>?_; clear h)
  dsimp only at *
  rw [Nat.add_zero,Nat.add_zero] at h7
  cases r with
  | nil=>exact (e9 (by have:=h7.1; exact aQ5 h1 h5) (by have:=h7.2.1; exact aQ5 h2 h6) (fun i' j' hm=>by
   have g1:=h7.2.2 i' j' hm
   by_cases q:i' < i
   · exact q
   · have:=h3 i' j' hm (by exact nq9 q); exact bM1 g1 this))
  | cons m r =>
   (refine V3 h7 fun g1 g2 g3 g4 g5 g6 g7=>?_; clear h7)
   exact (F4 (by exact aw2 h1 g1) (by exact aw2 h2 g2) (fun i' j' hm hle=>g3 i' j' hm (h3 i' j' hm hle)) g4 g5 g6 g7)
 | m::na,i,j,h=>(F4 h.1 h.2.1 h.2.2.1 h.2.2.2.1 h.2.2.2.2.1 h.2.2.2.2.2.1 (aF6 h.2.2.2.2.2.2))
theorem bf8:∀ {na:List Bl} {i j:Nat},u0 a b i j na -> u0 a b i j (na++[(a.length,b.length,0)])
 | [],i,j,h=>⟨h.1,h.2.1,fun i' j' hm hle=>absurd (h.2.2 i' j' hm) (bN.mpr hle),fun t ht=>absurd ht (gc _),ao _,ao _,ao _,ao _,fun i' j' hm=>hm.lt.1⟩
 | m::na,i,j,h=>(F4 h.1 h.2.1 h.2.2.1 h.2.2.2.1 h.2.2.2.2.1 h.2.2.2.2.2.1 (bf8 h.2.2.2.2.2.2))
theorem cw9 {g:List Bl} (h:u0 a b 0 0 g):u0 a b 0 0 ([]++(0,0,0)::g):=(F4 (ao _) (ao _) (fun _ _ _ _=>bm _) (fun t ht=>absurd ht (gc _)) (bm _) (bm _) h)
theorem cx0 {r:List Bl}:∀ {i j:Nat},u0 a b i j r -> ∀ m∈r,m.1+m.2.2 <= a.length /\ m.2.1+m.2.2 <= b.length:=by
 induction r with
 | nil=>intro i j _ m hm; cases hm
 | cons x r ih =>
  intro i j h m hm
  rcases aJ.mp hm with rfl | hm
  · exact ⟨h.2.2.2.2.1,h.2.2.2.2.2.1⟩
  · exact ih h.2.2.2.2.2.2 m hm
end
end
section
section
variable {a b:List Nat}
theorem bf9 {i c:Nat} (h:a[i]?=some c) (hb:c∈b):∃ j,MM a b i j:=by
 (refine c0 (bJ hb) fun j hj=>?_)
 exact ⟨j,c,h,hj⟩
theorem bg0 {l:List Nat} (h:∀ c∈l,c ∉ b):(l.filter (·∈b)).length=0:=by
 rw [dl,List.filter_eq_nil_iff]
 intro c hc
 simpa using h c hc
theorem cx1 {l:List Nat} (h:∀ c∈l,c∈b):(l.filter (·∈b)).length=l.length:=by
 rw [ik.mpr]
 intro c hc
 simpa using h c hc
theorem bg1:∀ {bs:List Bl} {i j:Nat},u0 a b i j bs -> (bs.map (·.2.2)).sum=((a.drop i).filter (·∈b)).length
 | [],i,j,h=>by
  show 0=_
  rw [bg0]
  intro c hc hb
  (refine c0 (bJ hc) fun t ht=>?_)
  rw [dK] at ht
  (refine c0 (bf9 ht hb) fun j' hm=>?_)
  exact absurd (h.2.2 _ _ hm) (bN.mpr (bd _ _))
 | (x,y,k)::r,i,j,h=>by
  (refine V3 h fun h1 h2 h3 h4 h5 h6 h7=>?_; clear h)
  dsimp only at h1 h2 h3 h4 h5 h6 h7
  have ih:=bg1 h7
  rw [aR,hZ,ih]
  have e1:a.drop i=(a.drop i).take (x - i)++((a.drop x).take k++a.drop (x+k)):=by
   rw [<- fy,dL,show a.drop x=(a.drop i).drop (x - i) by rw [fy]; congr 1; exact bM2 h1,dL]
  rw [e1,fX,fX,aE,aE]
  have f1:(((a.drop i).take (x - i)).filter (·∈b)).length=0:=bg0 fun c hc hb=>by
   (refine c0 (bJ hc) fun t ht=>?_)
   rw [List.getElem?_take] at ht
   split at ht
   · rename_i q
     rw [dK] at ht
     (refine c0 (bf9 ht hb) fun j' hm=>?_)
     exact absurd (Nat.add_lt_of_lt_sub' q) (bN.mpr (h3 _ _ hm (by exact aQ9)))
   · cases ht
  have f2:(((a.drop x).take k).filter (·∈b)).length=k:=by
   rw [cx1]
   · rw [bQ,ev]; exact bM3 h5
   · intro c hc
     (refine c0 (bJ hc) fun t ht=>?_)
     rw [List.getElem?_take] at ht
     split at ht
     · rename_i q
       rw [dK] at ht
       (refine b9 (h4 t q) fun c' m1 m2=>?_)
       rw [ht] at m1; cases m1
       exact ba m2
     · cases ht
  rw [f1,f2]
  show k+_=0+(k+_)
  exact bM4
end
end
section
noncomputable def AL:List Nat:=[9,97,98,32,99,100,12,101,102,103,104,13,105,106,107,108,109,110,111,112,113,114,115,116]
noncomputable def ag9 (n:Int) (k:Nat):Bool:=(n.fdiv (4 ^ k)).fmod 4 !=3
noncomputable def D8 (n:Int):List Nat:=((cB 24).filter (ag9 n)).map fun k=>AL.getD k 0
noncomputable def n8 (n:Int):List Nat:=D8 n++[10]
theorem aF7 (n:Int):(D8 n).length <= 24:=by
 unfold D8
 rw [aD]
 exact ag (dJ _ _) (by rw [dn]; exact ao _)
theorem aF8 (n:Int):(n8 n).length <= 25:=by
 unfold n8
 rw [aE]
 exact br (aF7 n)
theorem cx2 (n:Int):(n8 n).length≠0:=by
 unfold n8
 rw [aE]
 exact Nat.succ_ne_zero _
noncomputable def K8 (c:Nat):Nat:=(AL++[10]).idxOf c
theorem aF9:∀ k:Nat,k < 24 -> K8 (AL.getD k 0)=k:=by decide
theorem cx3:K8 10=24:=by decide
theorem bg2 (n:Int):(n8 n).Pairwise fun c d=>K8 c < K8 d:=by
 unfold n8 D8
 rw [dW]
 refine (e9 ?_ (List.pairwise_singleton _ _) (fun c hc d hd=>?_))
 · rw [du]
   have h1:((cB 24).filter (ag9 n)).Pairwise (· < ·):=List.Pairwise.sublist List.filter_sublist List.pairwise_lt_range
   have h2:∀ k∈(cB 24).filter (ag9 n),k < 24:=fun k hk=>cQ.mp (cT.mp hk).1
   refine iC (fun {x y} hx hy hxy=>?_) h1
   rw [aF9 _ (h2 _ hx),aF9 _ (h2 _ hy)]
   exact hxy
 · (refine b9 (aV.mp hc) fun k hk qz1=>?_; subst qz1)
   have hk:=cQ.mp (cT.mp hk).1
   rw [au.mp hd,aF9 _ hk,cx3]
   exact hk
theorem bg3 {a:List Nat} (h:a.Pairwise fun c d=>K8 c < K8 d) {i j c d:Nat} (hi:a[i]?=some c) (hj:a[j]?=some d) (hij:i < j):K8 c < K8 d:=by
 (refine c0 (ae.mp hi) fun h1 e1=>?_)
 (refine c0 (ae.mp hj) fun h2 e2=>?_)
 rw [<- e1,<- e2]
 exact iu.mp h i j h1 h2 hij
theorem cx4 {a b:List Nat} (ha:a.Pairwise fun c d=>K8 c < K8 d) (hb:b.Pairwise fun c d=>K8 c < K8 d):Rows a b where
 na:=ha.imp fun {c d} h e=>by rw [e] at h; exact Nat.lt_irrefl _ h
 nb:=hb.imp fun {c d} h e=>by rw [e] at h; exact Nat.lt_irrefl _ h
 mo:=fun i j i' j'=>J6 fun c h1 h2=>J6 fun c' h3 h4 hlt=>by
  have p:=bg3 ha h1 h3 hlt
  rcases Nat.lt_trichotomy j j' with e | e | e
  · exact e
  · subst e; rw [h2] at h4; cases h4; exact absurd p (Nat.lt_irrefl _)
  · exact absurd (bg3 hb h4 h2 e) (Nat.lt_asymm p)
theorem bg4 (x y:Int):Rows (n8 x) (n8 y):=cx4 (bg2 x) (bg2 y)
theorem cx5 (x y:Int):MM (n8 x) (n8 y) ((n8 x).length - 1) ((n8 y).length - 1):=by
 have h:∀ z,(n8 z)[(n8 z).length - 1]?=some 10:=fun z=>by
  unfold n8
  rw [aE,show (D8 z).length+[10].length - 1=(D8 z).length from rfl,af]
 exact (c5 10 (h x) (h y))
-- the marks
noncomputable def C9 (c:Nat):Bool:=decide (c∈[9,32,12,13,10])
noncomputable def z8 (other:List Nat) (al:Nat) (s:List Nat×List Nat×List Nat) (c:Nat):List Nat×List Nat×List Nat :=
 if c∈other then (s.1++aZ s.2.1.length (if 0 < s.2.2.idxOf c then 94 else al)++[if C9 c=true then c else 32],[],s.2.2.drop (s.2.2.idxOf c+1)) else (s.1,s.2.1++[c],s.2.2)
noncomputable def F2 (other:List Nat) (al:Nat) (row:List Nat):List Nat×List Nat×List Nat:=row.foldl (z8 other al) ([],[],other)
theorem ao6 {other:List Nat} {al:Nat} {row:List Nat} {c:Nat}:F2 other al (row++[c])=z8 other al (F2 other al row) c:=by
 unfold F2; rw [List.foldl_append]; rfl
theorem cx6 {other:List Nat} {al:Nat} {s:List Nat×List Nat×List Nat} {c:Nat}:(z8 other al s c).1.length+(z8 other al s c).2.1.length=s.1.length+s.2.1.length+1:=by
 unfold z8
 split
 · simp; exact aQ6
 · simp; exact aQ6
theorem aG0 {other:List Nat} {al:Nat}:∀ (n:Nat) (row:List Nat),row.length=n -> (F2 other al row).1.length+(F2 other al row).2.1.length=n
 | 0,row,h=>by rw [dl.mp h]; rfl
 | n+1,row,h=>by
  have hne:row≠[]:=fun q=>by rw [q] at h; cases h
  rw [<- List.dropLast_concat_getLast hne,ao6,cx6,aG0 n _ (by rw [List.length_dropLast]; exact aw3 h)]
theorem bg5 {other:List Nat} {al:Nat}:∀ (n:Nat) (row:List Nat),row.length=n -> (F2 other al row).2.2.length <= other.length
 | 0,row,h=>by rw [dl.mp h]; exact ao _
 | n+1,row,h=>by
  have hne:row≠[]:=fun q=>by rw [q] at h; cases h
  rw [<- List.dropLast_concat_getLast hne,ao6]
  have:=bg5 (other:=other) (al:=al) n row.dropLast (by rw [List.length_dropLast]; exact aw3 h)
  unfold z8
  split
  · show (List.drop _ _).length <= _
    rw [ev]; exact ag (Nat.sub_le _ _) this
  · exact this
noncomputable def ah0 (M:List Nat):List Nat:=(M.reverse.dropWhile C9).reverse
theorem aG1 {M:List Nat} {n:Nat} (h1:∀ c∈M.drop n,C9 c=true) (h2:(M.take n).getLast?.all fun c=>!C9 c):ah0 M=M.take n:=by
 unfold ah0
 have e:M.reverse=(M.drop n).reverse++(M.take n).reverse:=by rw [<- List.reverse_append,dL]
 rw [e,List.dropWhile_append_of_pos (fun c hc=>h1 c (List.mem_reverse.mp hc))]
 cases q:(M.take n).reverse with
 | nil=>rw [List.dropWhile_nil,List.reverse_nil]; exact (List.reverse_eq_nil_iff.mp q).symm
 | cons c r =>
  have e2:M.take n=r.reverse++[c]:=by rw [<- List.reverse_reverse (M.take n),q,iG]
  rw [e2,List.getLast?_concat] at h2
  have h2:C9 c=false:=by simpa using h2
  rw [List.dropWhile_cons,if_neg (by rw [h2]; decide),e2,iG]
noncomputable def X9 (row other:List Nat) (al:Nat):List Nat:=ah0 (F2 other al row).1
noncomputable def bg6 (row other:List Nat) (al:Nat):Prop:=∀ (i c:Nat),row[i]?=some c -> c∈other -> c∈(F2 other al (row.take i)).2.2
theorem aG2 {α:Type} {p q:Prop} [Decidable p] [Decidable q] {x x' y y':α} (h:p↔q) (e1:x=x') (e2:y=y'):(if p then x else y)=if q then x' else y':=by
 subst e1 e2
 by_cases hp:p
 · rw [if_pos hp,if_pos (h.mp hp)]
 · rw [if_neg hp,if_neg fun q=>hp (h.mpr q)]
section
variable {a b:List Nat} {al:Nat}
theorem ao7 (nb:b.Nodup) {p j c:Nat} (hj:b[j]?=some c) (hp:p <= j):c∈b.drop p /\ (b.drop p).idxOf c=j - p:=by
 have hlt:=(ae.mp hj).1
 have hd:(b.drop p)[j - p]?=some c:=by rw [dK,show p+(j - p)=j by exact aw1 hp]; exact hj
 have hm:c∈b.drop p:=ba hd
 refine ⟨hm,?_⟩
 have nd:(b.drop p).Nodup:=nb.sublist (List.drop_sublist _ _)
 have h2:(b.drop p)[(b.drop p).idxOf c]?=some c:=by
  rw [aq (eT hm),List.getElem_idxOf]
 exact (gN (eT hm) nd).mp (h2.trans hd.symm)
theorem bg7 (R:Rows a b):∀ i,i <= a.length -> ∃ p,(F2 b al (a.take i)).2.2=b.drop p /\ ∀ i' j',MM a b i' j' -> i <= i' -> p <= j'
 | 0,_=>(c5 0 rfl (fun _ _ _ _=>bm _))
 | i+1,h=>by
  (refine b9 (bg7 R i (Nat.le_of_succ_le h)) fun p e hp=>?_)
  have hi:i < a.length:=h
  rw [eZ,aq hi,Option.toList_some,ao6]
  unfold z8
  split
  · rename_i hc
    (refine c0 (bJ hc) fun j hj=>?_)
    have m0:MM a b i j:=(c5 _ (aq hi) hj)
    have hpj:=hp i j m0 (ao _)
    refine (c5 (j+1) ?_ (fun i' j' hm hle=>R.mo _ _ _ _ m0 hm hle))
    show List.drop _ _=_
    rw [e,(ao7 R.nb hj hpj).2,fy]
    exact congrArg (List.drop · b) (congrArg Nat.succ (Nat.add_sub_of_le hpj))
  · exact (c5 p e (fun i' j' hm hle=>hp i' j' hm (by exact aj9 hle)))
theorem bg8 (R:Rows a b):bg6 a b al:=fun i c hi hc=>by
 have hlt:=(ae.mp hi).1
 (refine b9 (bg7 (al:=al) R i (Nat.le_of_lt hlt)) fun p e hp=>?_)
 (refine c0 (bJ hc) fun j hj=>?_)
 rw [e]
 exact (ao7 R.nb hj (hp i j (c5 c hi hj) (ao _))).1
noncomputable def K9 (a b:List Nat):Nat -> Nat -> List Bl -> Prop
 | i,j,[]=>i=a.length /\ j=b.length
 | i,j,m::r=>i <= m.1 /\ j <= m.2.1 /\ (∀ i' c,a[i']?=some c -> i <= i' -> i' < m.1 -> c ∉ b) /\ (∀ j' c,b[j']?=some c -> j <= j' -> j' < m.2.1 -> c ∉ a) /\ M9 a b m.1 m.2.1 m.2.2 /\ (m.2.2=0 -> i=m.1 /\ j=m.2.1) /\ K9 a b (m.1+m.2.2) (m.2.1+m.2.2) r
theorem MM.swap {i j:Nat} (h:MM a b i j):MM b a j i:=b9 (h) fun c h1 h2=>(c5 c h2 h1)
theorem Rows.swap (R:Rows a b):Rows b a:=⟨R.nb,R.na,fun j i j' i' h h' hlt=>(R.iff h.swap h'.swap).mpr hlt⟩
theorem K9.swap:∀ {bs:List Bl} {i j:Nat},K9 a b i j bs -> K9 b a j i (bs.map fun m=>(m.2.1,m.1,m.2.2))
 | [],i,j,h=>⟨h.2,h.1⟩
 | m::r,i,j,⟨h1,h2,h3,h4,h5,h6,h7⟩=>(F4 h2 h1 h4 h3 (fun t ht=>(h5 t ht).swap) (fun q=>⟨(h6 q).2,(h6 q).1⟩) h7.swap)
theorem bg9 (R:Rows a b) (hl:MM a b (a.length - 1) (b.length - 1)):∀ {bs:List Bl} {i j:Nat},u0 a b i j bs -> (∀ m∈bs,m.2.2=0 -> m.1=a.length /\ m.2.1=b.length) -> (∀ i' j',MM a b i' j' -> (i' < i↔j' < j)) -> K9 a b i j bs
 | [],i,j,⟨h1,h2,h3⟩,_,hs=>by
  have h4:=h3 _ _ hl
  have h5:=(hs _ _ hl).mp h4
  exact ⟨by have:=hl.lt; exact bM5 h1 h4 this,by have:=hl.lt; exact bM6 h2 h5⟩
 | m::r,i,j,⟨h1,h2,h3,h4,h5,h6,h7⟩,hz,hs=>by
  obtain ⟨x,y,k⟩:=m
  dsimp only at h1 h2 h3 h4 h5 h6 h7 ⊢
  have hz0:=hz _ (.head _)
  dsimp only at hz0
  have gapA:∀ i' j',MM a b i' j' -> i <= i' -> i' < x -> False:=fun i' j' hm q1 q2=>by have:=h3 i' j' hm q1; exact bM7 q2 this
  have sync:∀ i' j',MM a b i' j' -> (i' < x+k↔j' < y+k):=fun i' j' hm=>by
   by_cases q:k=0
   · have e:=hz0 q
     have:=hm.lt
     rw [e.1,e.2]; exact bM8 q this
   · have mk:MM a b (x+(k - 1)) (y+(k - 1)):=h4 _ (by exact bM9 q)
     have:=R.iff mk hm
     have:=R.iff hm mk
     have:i'=x+(k - 1) -> j'=y+(k - 1):=fun e=>by subst e; exact (R.fn hm mk)
     have:j'=y+(k - 1) -> i'=x+(k - 1):=fun e=>by subst e; exact (R.inj hm mk)
     exact bN0 (by assumption) (by assumption) this
  have zero:k=0 -> i=x /\ j=y:=fun q=>by
   have e:=hz0 q
   have hll:=hl.lt
   have h8:a.length - 1 < i:=bE fun q'=>gapA _ _ hl q' (by exact bN1 e hll)
   have h9:=(hs _ _ hl).mp h8
   exact bN2 h1 h2 e hll h8 h9
  refine (F4 h1 h2 (fun i' c hc q1 q2 hb=>?_) (fun j' c hc q1 q2 ha=>?_) h4 zero (bg9 R hl h7 (fun m hm=>hz m (.tail _ hm)) sync))
  · dsimp only at q1 q2
    (refine c0 (bJ hb) fun j' hj=>?_)
    exact gapA i' j' (c5 c hc hj) q1 q2
  · dsimp only at q1 q2
    (refine c0 (bJ ha) fun i' hi=>?_)
    have hm:MM a b i' j':=(c5 c hi hc)
    have e1:=hs i' j' hm
    by_cases q:k=0
    · exact absurd (aW q2 ((zero q).2▸q1)) (Nat.lt_irrefl _)
    · have m0:MM a b (x+0) (y+0):=h4 0 (by exact bN3 q)
      exact gapA i' j' hm (bx fun p=>bN.mpr q1 (e1.mp p)) ((R.iff hm m0).mpr q2)
noncomputable def tG (al:Nat):Nat -> Nat -> List Bl -> List Nat
 | _,_,[]=>[]
 | i,j,m::r=>aZ (m.1 - i) (if j < m.2.1 then 94 else al)++aZ m.2.2 32++tG al (m.1+m.2.2) (m.2.1+m.2.2) r
noncomputable def kw (c d:Nat):Nat:=if d=32 /\ C9 c=true then c else d
theorem bh0 {M mine th:List Nat}:∀ {g:List Nat},(∀ c∈g,c ∉ b) -> g.foldl (z8 b al) (M,mine,th)=(M,mine++g,th)
 | [],_=>by rw [bg]; rfl
 | c::r,h=>by
  rw [List.foldl_cons]
  have:z8 b al (M,mine,th) c=(M,mine++[c],th):=by unfold z8; rw [if_neg (h c (.head _))]
  rw [this,bh0 (fun d hd=>h d (.tail _ hd)),bD]; rfl
theorem cx7 (nb:b.Nodup) {x y:Nat}:∀ {k j:Nat} {M mine:List Nat},j <= y -> M9 a b x y (k+1) -> ((a.drop x).take (k+1)).foldl (z8 b al) (M,mine,b.drop j)=(M++aZ mine.length (if j < y then 94 else al)++((a.drop x).take (k+1)).map fun c=>if C9 c=true then c else 32,[],b.drop (y+k+1)):=by
 intro k
 induction k generalizing x y with
 | zero =>
  intro j M mine hj hd
  (refine b9 (hd 0 (by exact bN4)) fun c h1 h2=>?_)
  rw [Nat.add_zero] at h1 h2
  have hx:=(ae.mp h1)
  have e1:(a.drop x).take (0+1)=[c]:=by rw [cW hx.1,hx.2]; rfl
  rw [e1,List.foldl_cons,List.foldl_nil,aR,fC]
  unfold z8
  rw [if_pos (ba h2)]
  dsimp only
  rw [(ao7 nb h2 hj).2,fy]
  refine Prod.ext ?_ (Prod.ext rfl ?_)
  · dsimp only
    congr 3
    exact aG2 Nat.sub_pos_iff_lt rfl rfl
  · dsimp only
    exact congrArg (List.drop · b) (congrArg Nat.succ (Nat.add_sub_of_le hj))
 | succ k ih =>
  intro j M mine hj hd
  (refine b9 (hd 0 (by exact bN5)) fun c h1 h2=>?_)
  rw [Nat.add_zero] at h1 h2
  have hx:=(ae.mp h1)
  have e1:(a.drop x).take (k+1+1)=c::(a.drop (x+1)).take (k+1):=by rw [cW hx.1,hx.2]; rfl
  rw [e1,List.foldl_cons,aR]
  have e2:z8 b al (M,mine,b.drop j) c=(M++aZ mine.length (if j < y then 94 else al)++[if C9 c=true then c else 32],[],b.drop (y+1)):=by
   unfold z8
   rw [if_pos (ba h2)]
   dsimp only
   rw [(ao7 nb h2 hj).2,fy]
   refine Prod.ext ?_ (Prod.ext rfl ?_)
   · dsimp only
     congr 3
     exact aG2 Nat.sub_pos_iff_lt rfl rfl
   · dsimp only
     exact congrArg (List.drop · b) (congrArg Nat.succ (Nat.add_sub_of_le hj))
  rw [e2,ih (ao _) (fun t ht=>by have:=hd (t+1) (Nat.succ_lt_succ ht); rwa [show x+(t+1)=x+1+t from Nat.add_right_comm x t 1,show y+(t+1)=y+1+t from Nat.add_right_comm y t 1] at this)]
  refine Prod.ext ?_ (Prod.ext rfl ?_)
  · dsimp only
    rw [List.length_nil,List.replicate_zero,bg,bD,bD,bD]
    rfl
  · dsimp only
    exact congrArg (List.drop · b) (congrArg Nat.succ (Nat.add_right_comm y 1 k))
theorem aG3:∀ {bs:List Bl} {i j:Nat},K9 a b i j bs -> i+(tG al i j bs).length=a.length
 | [],i,j,h=>h.1
 | m::r,i,j,⟨h1,h2,h3,h4,h5,h6,h7⟩=>by
  have:=aG3 h7
  unfold tG
  rw [aE,aE,cD,cD]
  exact bN6 h1 this
theorem bh1 {s:Nat} (hs:s≠32):∀ g:List Nat,cz kw g (aZ g.length s)=aZ g.length s
 | []=>rfl
 | c::r=>by
  rw [cb,List.replicate_succ,gz,bh1 hs r]
  unfold kw
  rw [if_neg fun q=>hs q.1]
theorem bh2:∀ g:List Nat,cz kw g (aZ g.length 32)=g.map fun c=>if C9 c=true then c else 32
 | []=>rfl
 | c::r=>by
  rw [cb,List.replicate_succ,gz,bh2 r,aR]
  unfold kw
  congr 1
  exact aG2 ⟨fun q=>q.2,fun q=>⟨rfl,q⟩⟩ rfl rfl
theorem aG4 (nb:b.Nodup) (hal:al≠32):∀ {bs:List Bl} {i j:Nat} {M:List Nat},K9 a b i j bs -> ((a.drop i).foldl (z8 b al) (M,[],b.drop j)).1=M++cz kw (a.drop i) (tG al i j bs)
 | [],i,j,M,h=>by
  rw [h.1,List.drop_length]
  show M=M++cz kw [] _
  rw [List.zipWith_nil_left,bg]
 | (x,y,k)::r,i,j,M,⟨h1,h2,h3,h4,h5,h6,h7⟩=>by
  dsimp only at h1 h2 h3 h4 h5 h6 h7
  unfold tG
  dsimp only
  by_cases q:k=0
  · (refine d0 (h6 q) fun e1 e2=>?_)
    subst e1 e2 q
    rw [Nat.sub_self,List.replicate_zero,List.replicate_zero,gi,gi]
    exact aG4 nb hal h7
  · obtain ⟨k,rfl⟩:∃ k',k=k'+1:=⟨k - 1,by exact bN7 q⟩
    have hx:x+k+1 <= a.length:=by have:=(h5 k (by exact ak1)).lt; exact bN8 this
    obtain ⟨g,eg⟩:∃ g,g=(a.drop i).take (x - i):=⟨_,rfl⟩
    obtain ⟨bl,ebl⟩:∃ bl,bl=(a.drop x).take (k+1):=⟨_,rfl⟩
    have gl:g.length=x - i:=by rw [eg,bQ,ev]; exact bN9 h1 hx
    have bll:bl.length=k+1:=by rw [ebl,bQ,ev]; exact bO0 hx
    have ea:a.drop i=g++(bl++a.drop (x+(k+1))):=by
     rw [eg,ebl]
     have e1:a.drop i=(a.drop i).take (x - i)++(a.drop i).drop (x - i):=(dL _ _).symm
     rw [fy,show i+(x - i)=x by exact aw1 h1] at e1
     have e2:a.drop x=(a.drop x).take (k+1)++(a.drop x).drop (k+1):=(dL _ _).symm
     rw [fy] at e2
     rw [<- e2]
     exact e1
    have gm:∀ c∈g,c ∉ b:=fun c hc=>by
     rw [eg] at hc
     (refine c0 (bJ hc) fun t ht=>?_)
     rw [List.getElem?_take] at ht
     split at ht
     · rw [dK] at ht
       exact h3 _ _ ht (bd _ _) (by exact bO1 h1 (by assumption))
     · cases ht
    rw [ea,List.foldl_append,List.foldl_append,bh0 gm,gi]
    have fb:=cx7 (al:=al) (a:=a) nb (M:=M) (mine:=g) h2 h5
    rw [<- ebl] at fb
    rw [fb,show b.drop (y+k+1)=b.drop (y+(k+1)) from rfl,aG4 nb hal h7,bD (aZ _ _)]
    rw [List.zipWith_append (by rw [gl,cD]),List.zipWith_append (by rw [bll,cD]),<- gl,<- bll,bh2,bh1 (by split; decide; exact hal)]
    rw [bD,bD]
theorem cx8 (R:Rows a b) (hal:al≠32) {bs:List Bl} (h:K9 a b 0 0 bs):(F2 b al a).1=cz kw a (tG al 0 0 bs):=by
 have:=aG4 (al:=al) (M:=[]) R.nb hal h
 rw [dI,dI,gi] at this
 exact this
end
end
section
noncomputable def KK (P:Params):Frag:=(K P).filter fun x=>x.1 !=248&&x.1 !=220&&x.1 !=331
theorem cx9 (w:World):y3 (KK w.params) 82 (o82 w.params) (q8 (o82 w.params)) (j0 (c9 3 4)) (i6 (c9 3 4)) ["_cls","a","b","size"] where
 hsc:=by rfl
 hK:=by kernel_rfl
 hd:=by rfl
 hb:=by rfl
 hg:=by rfl
 hbl:=by rfl
 hcl:=by rfl
 hcd:=(t7 81 (o81 w.params) _ _ (by rfl) (by kernel_rfl) (by rfl) (by rfl))
 hbd:=fun us hu=>by (refine T2 (aY9 hu) fun a0 a1 a2 a3 qz1=>?_; subst qz1); rfl
 hps:=by decide
 hnd:=by decide
 hkd:=by decide
 hco:=by rfl
 hk:=by rfl
 hnf:=by decide
theorem cy0 (w:World):y3 (KK w.params) 89 (o89 w.params) (q8 (o89 w.params)) (j0 (c9 3 5)) (i6 (c9 3 5)) ["cls","iterable"] where
 hsc:=by rfl
 hK:=by kernel_rfl
 hd:=by rfl
 hb:=by rfl
 hg:=by rfl
 hbl:=by rfl
 hcl:=by rfl
 hcd:=(t7 88 (o88 w.params) _ _ (by rfl) (by kernel_rfl) (by rfl) (by rfl))
 hbd:=fun us hu=>by (refine w0 (X1 hu) fun a0 a1 qz2=>?_; subst qz2); rfl
 hps:=by decide
 hnd:=by decide
 hkd:=by decide
 hco:=by rfl
 hk:=by rfl
 hnf:=by decide
theorem cy1 (w:World):y3 (KK w.params) 145 (ai0 w.params) (q8 (ai0 w.params)) (j0 (m7 4)) (i6 (m7 4)) ["matches","length"] where
 hsc:=by rfl
 hK:=by kernel_rfl
 hd:=by rfl
 hb:=by rfl
 hg:=by rfl
 hbl:=by rfl
 hcl:=by rfl
 hcd:=(t7 144 (ar5 w.params) _ _ (by rfl) (by kernel_rfl) (by rfl) (by rfl))
 hbd:=fun us hu=>by (refine w0 (X1 hu) fun a0 a1 qz3=>?_; subst qz3); rfl
 hps:=by decide
 hnd:=by decide
 hkd:=by decide
 hco:=by rfl
 hk:=by rfl
 hnf:=by decide
theorem ao8 (w:World):t8 (KK w.params) (.st 145):=by show keepIn _ _=true; kernel_rfl
theorem cy2 (w:World):FnB (KK w.params) 160 (Y2 w.params) (q8 (Y2 w.params)) (j0 (c9 5 1)) (i6 (c9 5 1)) ["self","isjunk","a","b","autojunk"] where
 hsc:=by rfl
 hK:=by kernel_rfl
 hd:=by rfl
 hb:=by rfl
 hg:=by rfl
 hbl:=by rfl
 hcl:=by rfl
 hcd:=(t7 159 (ar9 w.params) _ _ (by rfl) (by kernel_rfl) (by rfl) (by rfl))
 hps:=by decide
 hnd:=by decide
 hkd:=by decide
 hco:=by rfl
 hk:=by rfl
 hnf:=by decide
theorem cy3 (w:World):y3 (KK w.params) 167 (ac9 w.params) (q8 (ac9 w.params)) (j0 (c9 5 2)) (i6 (c9 5 2)) ["self","a","b"] where
 hsc:=by rfl
 hK:=by kernel_rfl
 hd:=by rfl
 hb:=by rfl
 hg:=by rfl
 hbl:=by rfl
 hcl:=by rfl
 hcd:=(t7 166 (as0 w.params) _ _ (by rfl) (by kernel_rfl) (by rfl) (by rfl))
 hbd:=fun us hu=>by (refine B4 (aB8 hu) fun a0 a1 a2 qz4=>?_; subst qz4); rfl
 hps:=by decide
 hnd:=by decide
 hkd:=by decide
 hco:=by rfl
 hk:=by rfl
 hnf:=by decide
theorem cy4 (w:World):t8 (KK w.params) (.st 167):=by show keepIn _ _=true; kernel_rfl
theorem cy5 (w:World):y3 (KK w.params) 174 (U8 w.params) (q8 (U8 w.params)) (j0 (c9 5 3)) (i6 (c9 5 3)) ["self","a"] where
 hsc:=by rfl
 hK:=by kernel_rfl
 hd:=by rfl
 hb:=by rfl
 hg:=by rfl
 hbl:=by rfl
 hcl:=by rfl
 hcd:=(t7 173 (as1 w.params) _ _ (by rfl) (by kernel_rfl) (by rfl) (by rfl))
 hbd:=fun us hu=>by (refine w0 (X1 hu) fun a0 a1 qz5=>?_; subst qz5); rfl
 hps:=by decide
 hnd:=by decide
 hkd:=by decide
 hco:=by rfl
 hk:=by rfl
 hnf:=by decide
theorem bh3 (w:World):t8 (KK w.params) (.st 174):=by show keepIn _ _=true; kernel_rfl
theorem cy6 (w:World):y3 (KK w.params) 181 (U9 w.params) (q8 (U9 w.params)) (j0 (c9 5 4)) (i6 (c9 5 4)) ["self","b"] where
 hsc:=by rfl
 hK:=by kernel_rfl
 hd:=by rfl
 hb:=by rfl
 hg:=by rfl
 hbl:=by rfl
 hcl:=by rfl
 hcd:=(t7 180 (as2 w.params) _ _ (by rfl) (by kernel_rfl) (by rfl) (by rfl))
 hbd:=fun us hu=>by (refine w0 (X1 hu) fun a0 a1 qz6=>?_; subst qz6); rfl
 hps:=by decide
 hnd:=by decide
 hkd:=by decide
 hco:=by rfl
 hk:=by rfl
 hnf:=by decide
theorem bh4 (w:World):t8 (KK w.params) (.st 181):=by show keepIn _ _=true; kernel_rfl
theorem cy7 (w:World):y3 (KK w.params) 188 (Y3 w.params) (q8 (Y3 w.params)) (j0 (c9 5 5)) (i6 (c9 5 5)) ["self"] where
 hsc:=by rfl
 hK:=by kernel_rfl
 hd:=by rfl
 hb:=by rfl
 hg:=by rfl
 hbl:=by rfl
 hcl:=by rfl
 hcd:=(t7 187 (as3 w.params) _ _ (by rfl) (by kernel_rfl) (by rfl) (by rfl))
 hbd:=fun us hu=>by (refine c0 (R4 hu) fun a0 qz7=>?_; subst qz7); rfl
 hps:=by decide
 hnd:=by decide
 hkd:=by decide
 hco:=by rfl
 hk:=by rfl
 hnf:=by decide
theorem cy8 (w:World):t8 (KK w.params) (.st 188):=by show keepIn _ _=true; kernel_rfl
theorem cy9 (w:World):FnB (KK w.params) 196 (V0 w.params) (q8 (V0 w.params)) (j0 (c9 5 6)) (i6 (c9 5 6)) ["self","alo","ahi","blo","bhi"] where
 hsc:=by rfl
 hK:=by kernel_rfl
 hd:=by rfl
 hb:=by rfl
 hg:=by rfl
 hbl:=by rfl
 hcl:=by rfl
 hcd:=(t7 195 (as5 w.params) _ _ (by rfl) (by kernel_rfl) (by rfl) (by rfl))
 hps:=by decide
 hnd:=by decide
 hkd:=by decide
 hco:=by rfl
 hk:=by rfl
 hnf:=by decide
theorem cz0 (w:World):t8 (KK w.params) (.st 196):=by show keepIn _ _=true; kernel_rfl
theorem cz1 (w:World):y3 (KK w.params) 203 (V1 w.params) (q8 (V1 w.params)) (j0 (c9 5 7)) (i6 (c9 5 7)) ["self"] where
 hsc:=by rfl
 hK:=by kernel_rfl
 hd:=by rfl
 hb:=by rfl
 hg:=by rfl
 hbl:=by rfl
 hcl:=by rfl
 hcd:=(t7 202 (as6 w.params) _ _ (by rfl) (by kernel_rfl) (by rfl) (by rfl))
 hbd:=fun us hu=>by (refine c0 (R4 hu) fun a0 qz8=>?_; subst qz8); rfl
 hps:=by decide
 hnd:=by decide
 hkd:=by decide
 hco:=by rfl
 hk:=by rfl
 hnf:=by decide
theorem bh5 (w:World):t8 (KK w.params) (.st 203):=by show keepIn _ _=true; kernel_rfl
theorem cz2 (w:World):y3 (KK w.params) 210 (Y4 w.params) (q8 (Y4 w.params)) (j0 (c9 5 8)) (i6 (c9 5 8)) ["self"] where
 hsc:=by rfl
 hK:=by kernel_rfl
 hd:=by rfl
 hb:=by rfl
 hg:=by rfl
 hbl:=by rfl
 hcl:=by rfl
 hcd:=(t7 209 (as7 w.params) _ _ (by rfl) (by kernel_rfl) (by rfl) (by rfl))
 hbd:=fun us hu=>by (refine c0 (R4 hu) fun a0 qz9=>?_; subst qz9); rfl
 hps:=by decide
 hnd:=by decide
 hkd:=by decide
 hco:=by rfl
 hk:=by rfl
 hnf:=by decide
theorem cz3 (w:World):t8 (KK w.params) (.st 210):=by show keepIn _ _=true; kernel_rfl
theorem cz4 (w:World):y3 (KK w.params) 225 (ad0 w.params) (q8 (ad0 w.params)) (j0 (c9 5 10)) (i6 (c9 5 10)) ["self"] where
 hsc:=by rfl
 hK:=by kernel_rfl
 hd:=by rfl
 hb:=by rfl
 hg:=by rfl
 hbl:=by rfl
 hcl:=by rfl
 hcd:=(t7 224 (ad1 w.params) _ _ (by rfl) (by kernel_rfl) (by rfl) (by rfl))
 hbd:=fun us hu=>by (refine c0 (R4 hu) fun a0 qz10=>?_; subst qz10); rfl
 hps:=by decide
 hnd:=by decide
 hkd:=by decide
 hco:=by rfl
 hk:=by rfl
 hnf:=by decide
theorem cz5 (w:World):t8 (KK w.params) (.st 225):=by show keepIn _ _=true; kernel_rfl
theorem cz6 (w:World):y3 (KK w.params) 232 (Y5 w.params) (q8 (Y5 w.params)) (j0 (c9 5 11)) (i6 (c9 5 11)) ["self"] where
 hsc:=by rfl
 hK:=by kernel_rfl
 hd:=by rfl
 hb:=by rfl
 hg:=by rfl
 hbl:=by rfl
 hcl:=by rfl
 hcd:=(t7 231 (as9 w.params) _ _ (by rfl) (by kernel_rfl) (by rfl) (by rfl))
 hbd:=fun us hu=>by (refine c0 (R4 hu) fun a0 qz11=>?_; subst qz11); rfl
 hps:=by decide
 hnd:=by decide
 hkd:=by decide
 hco:=by rfl
 hk:=by rfl
 hnf:=by decide
theorem cz7 (w:World):t8 (KK w.params) (.st 232):=by show keepIn _ _=true; kernel_rfl
theorem cz8 (w:World):y3 (KK w.params) 239 (ad2 w.params) (q8 (ad2 w.params)) (j0 (c9 5 12)) (i6 (c9 5 12)) ["self"] where
 hsc:=by rfl
 hK:=by kernel_rfl
 hd:=by rfl
 hb:=by rfl
 hg:=by rfl
 hbl:=by rfl
 hcl:=by rfl
 hcd:=(t7 238 (at0 w.params) _ _ (by rfl) (by kernel_rfl) (by rfl) (by rfl))
 hbd:=fun us hu=>by (refine c0 (R4 hu) fun a0 qz12=>?_; subst qz12); rfl
 hps:=by decide
 hnd:=by decide
 hkd:=by decide
 hco:=by rfl
 hk:=by rfl
 hnf:=by decide
theorem cz9 (w:World):t8 (KK w.params) (.st 239):=by show keepIn _ _=true; kernel_rfl
theorem cA0 (w:World):y3 (KK w.params) 322 (ai4 w.params) (q8 (ai4 w.params)) (j0 (m7 9)) (i6 (m7 9)) ["number"] where
 hsc:=by rfl
 hK:=by kernel_rfl
 hd:=by rfl
 hb:=by rfl
 hg:=by rfl
 hbl:=by rfl
 hcl:=by rfl
 hcd:=(t7 321 (at5 w.params) _ _ (by rfl) (by kernel_rfl) (by rfl) (by rfl))
 hbd:=fun us hu=>by (refine c0 (R4 hu) fun a0 qz13=>?_; subst qz13); rfl
 hps:=by decide
 hnd:=by decide
 hkd:=by decide
 hco:=by rfl
 hk:=by rfl
 hnf:=by decide
theorem aG5 (w:World):t8 (KK w.params) (.st 322):=by show keepIn _ _=true; kernel_rfl
theorem cA1 (w:World):y3 (KK w.params) 329 (ai5 w.params) (q8 (ai5 w.params)) (j0 (m7 10)) (i6 (m7 10)) ["row","other","alone"] where
 hsc:=by rfl
 hK:=by kernel_rfl
 hd:=by rfl
 hb:=by rfl
 hg:=by rfl
 hbl:=by rfl
 hcl:=by rfl
 hcd:=(t7 328 (at6 w.params) _ _ (by rfl) (by kernel_rfl) (by rfl) (by rfl))
 hbd:=fun us hu=>by (refine B4 (aB8 hu) fun a0 a1 a2 qz14=>?_; subst qz14); rfl
 hps:=by decide
 hnd:=by decide
 hkd:=by decide
 hco:=by rfl
 hk:=by rfl
 hnf:=by decide
theorem aG6 (w:World):t8 (KK w.params) (.st 329):=by show keepIn _ _=true; kernel_rfl
theorem cA2 (w:World):y3 (KK w.params) 334 (ad5 w.params) (q8 (ad5 w.params)) (j0 (m7 11)) (i6 (m7 11)) ["script"] where
 hsc:=by rfl
 hK:=by kernel_rfl
 hd:=by rfl
 hb:=by rfl
 hg:=by rfl
 hbl:=by rfl
 hcl:=by rfl
 hcd:=(t7 333 (at8 w.params) _ _ (by rfl) (by kernel_rfl) (by rfl) (by rfl))
 hbd:=fun us hu=>by (refine c0 (R4 hu) fun a0 qz15=>?_; subst qz15); rfl
 hps:=by decide
 hnd:=by decide
 hkd:=by decide
 hco:=by rfl
 hk:=by rfl
 hnf:=by decide
theorem aG7 (w:World):nsIn (KK w.params) aT "_calculate_ratio"=some (some (.ref 145)):=by kernel_rfl
theorem cA3 (w:World):nsIn (KK w.params) aT "SequenceMatcher"=some (some (.ref 242)):=by kernel_rfl
theorem bh6 (w:World):nsIn (KK w.params) aT "Match"=some (some (.ref 135)):=by kernel_rfl
theorem D9 (w:World):nsIn (KK w.params) aT "len"=some none:=by kernel_rfl
theorem E0:bU "len"=some (.builtin "len"):=by kernel_rfl
theorem bh7 (w:World):nsIn (KK w.params) aT "range"=some none:=by kernel_rfl
theorem bh8:bU "range"=some (.type "range"):=by kernel_rfl
theorem cA4 (w:World):nsIn (KK w.params) aT "enumerate"=some none:=by kernel_rfl
theorem cA5:bU "enumerate"=some (.type "enumerate"):=by kernel_rfl
theorem bh9 (w:World):nsIn (KK w.params) aT "set"=some none:=by kernel_rfl
theorem bi0:bU "set"=some (.type "set"):=by kernel_rfl
theorem bi1 (w:World):nsIn (KK w.params) aT "list"=some none:=by kernel_rfl
theorem bi2:bU "list"=some (.type "list"):=by kernel_rfl
theorem cA6 (w:World):nsIn (KK w.params) aT "map"=some none:=by kernel_rfl
theorem cA7:bU "map"=some (.type "map"):=by kernel_rfl
theorem cA8 (w:World):nsIn (KK w.params) aT "sum"=some none:=by kernel_rfl
theorem cA9:bU "sum"=some (.builtin "sum"):=by kernel_rfl
theorem bi3 (w:World):nsIn (KK w.params) aT "min"=some none:=by kernel_rfl
theorem bi4:bU "min"=some (.builtin "min"):=by kernel_rfl
theorem bi5 (w:World):nsIn (KK w.params) aT "tuple"=some none:=by kernel_rfl
theorem bi6:bU "tuple"=some (.type "tuple"):=by kernel_rfl
theorem cB0 (w:World):nsIn (KK w.params) aT "isinstance"=some none:=by kernel_rfl
theorem cB1:bU "isinstance"=some (.builtin "isinstance"):=by kernel_rfl
theorem cB2 (w:World):nsIn (KK w.params) aT "float"=some none:=by kernel_rfl
theorem cB3:bU "float"=some (.type "float"):=by kernel_rfl
theorem j6 (w:World):R3 (KK w.params) 242 241 where
 cl:=(aL8 ("SequenceMatcher") ("SequenceMatcher") ([.type "object"]) ([]) ([]) none none none none (some (.str (aa "SequenceMatcher") 389)) (some (.str (aa "SequenceMatcher") 397)) (some (.bool true)) (by kernel_rfl))
 ns:=by kernel_rfl
 ga:=by kernel_rfl
 gh:=by kernel_rfl
 sa:=by kernel_rfl
theorem ab2 (w:World):t8 (KK w.params) (.st 242):=by show keepIn _ _=true; kernel_rfl
theorem ao9 (w:World):t8 (KK w.params) (.st 135):=by show keepIn _ _=true; kernel_rfl
theorem P6 (w:World):R6 (KK w.params) 135 134 82 where
 cl:=(au6 ("Match") ("Match") (some (.ref 65)) none (some (.str (aa "Match") 253)) (some (.str (aa "Match") 261)) (some (.bool false)) (by kernel_rfl))
 call:=by kernel_rfl
 typ:=by kernel_rfl
 rd:=by kernel_rfl
 nw:=(L6 136 ([]) (by kernel_rfl) (by kernel_rfl))
 it:=by kernel_rfl
theorem bi7:aX (.type "object") "isjunk"=pure none:=by rw [aN,aG]; kernel_rfl
theorem bi8 (w:World):nsIn (KK w.params) 241 "isjunk"=some none:=by kernel_rfl
theorem R8:aX (.type "object") "a"=pure none:=by rw [aN,aG]; kernel_rfl
theorem R9 (w:World):nsIn (KK w.params) 241 "a"=some none:=by kernel_rfl
theorem P7:aX (.type "object") "b"=pure none:=by rw [aN,aG]; kernel_rfl
theorem P8 (w:World):nsIn (KK w.params) 241 "b"=some none:=by kernel_rfl
theorem bi9:aX (.type "object") "autojunk"=pure none:=by rw [aN,aG]; kernel_rfl
theorem bj0 (w:World):nsIn (KK w.params) 241 "autojunk"=some none:=by kernel_rfl
theorem ab3:aX (.type "object") "matching_blocks"=pure none:=by rw [aN,aG]; kernel_rfl
theorem ab4 (w:World):nsIn (KK w.params) 241 "matching_blocks"=some none:=by kernel_rfl
theorem ah1:aX (.type "object") "opcodes"=pure none:=by rw [aN,aG]; kernel_rfl
theorem ah2 (w:World):nsIn (KK w.params) 241 "opcodes"=some none:=by kernel_rfl
theorem ap0:aX (.type "object") "fullbcount"=pure none:=by rw [aN,aG]; kernel_rfl
theorem ap1 (w:World):nsIn (KK w.params) 241 "fullbcount"=some none:=by kernel_rfl
theorem bj1:aX (.type "object") "b2j"=pure none:=by rw [aN,aG]; kernel_rfl
theorem bj2 (w:World):nsIn (KK w.params) 241 "b2j"=some none:=by kernel_rfl
theorem bj3:aX (.type "object") "bjunk"=pure none:=by rw [aN,aG]; kernel_rfl
theorem bj4 (w:World):nsIn (KK w.params) 241 "bjunk"=some none:=by kernel_rfl
theorem cB4:aX (.type "object") "bpopular"=pure none:=by rw [aN,aG]; kernel_rfl
theorem cB5 (w:World):nsIn (KK w.params) 241 "bpopular"=some none:=by kernel_rfl
theorem cB6 (w:World):nsIn (KK w.params) 241 "set_seqs"=some (some (.ref 167)):=by kernel_rfl
theorem cB7:aX (.type "object") "set_seqs"=pure none:=by rw [aN,aG]; kernel_rfl
theorem bj5 (w:World):nsIn (KK w.params) 241 "set_seq1"=some (some (.ref 174)):=by kernel_rfl
theorem bj6:aX (.type "object") "set_seq1"=pure none:=by rw [aN,aG]; kernel_rfl
theorem bj7 (w:World):nsIn (KK w.params) 241 "set_seq2"=some (some (.ref 181)):=by kernel_rfl
theorem bj8:aX (.type "object") "set_seq2"=pure none:=by rw [aN,aG]; kernel_rfl
theorem cB8 (w:World):nsIn (KK w.params) 241 "_SequenceMatcher__chain_b"=some (some (.ref 188)):=by kernel_rfl
theorem cB9:aX (.type "object") "_SequenceMatcher__chain_b"=pure none:=by rw [aN,aG]; kernel_rfl
theorem cC0 (w:World):nsIn (KK w.params) 241 "find_longest_match"=some (some (.ref 196)):=by kernel_rfl
theorem cC1:aX (.type "object") "find_longest_match"=pure none:=by rw [aN,aG]; kernel_rfl
theorem bj9 (w:World):nsIn (KK w.params) 241 "get_matching_blocks"=some (some (.ref 203)):=by kernel_rfl
theorem bk0:aX (.type "object") "get_matching_blocks"=pure none:=by rw [aN,aG]; kernel_rfl
theorem cC2 (w:World):nsIn (KK w.params) 241 "get_opcodes"=some (some (.ref 210)):=by kernel_rfl
theorem cC3:aX (.type "object") "get_opcodes"=pure none:=by rw [aN,aG]; kernel_rfl
theorem cC4 (w:World):nsIn (KK w.params) 241 "ratio"=some (some (.ref 225)):=by kernel_rfl
theorem cC5:aX (.type "object") "ratio"=pure none:=by rw [aN,aG]; kernel_rfl
theorem cC6 (w:World):nsIn (KK w.params) 241 "quick_ratio"=some (some (.ref 232)):=by kernel_rfl
theorem cC7:aX (.type "object") "quick_ratio"=pure none:=by rw [aN,aG]; kernel_rfl
theorem cC8 (w:World):nsIn (KK w.params) 241 "real_quick_ratio"=some (some (.ref 239)):=by kernel_rfl
theorem cC9:aX (.type "object") "real_quick_ratio"=pure none:=by rw [aN,aG]; kernel_rfl
end
section
theorem cD0 {w:World} {E:i7} {H:List O} {d:Nat} {x y z:V} {Q:V -> List O -> Prop} (h:Q (.sub 135 [x,y,z]) H):i5 pP w (KK w.params) (d+1) E H (.st 82) [.st 135,x,y,z] Q:=by
 refine E3 (cx9 w) (by rfl) (by rfl) ?_
 have e:r0 (i6 (c9 3 4)) ["_cls","a","b","size"] [.st 135,x,y,z]=[nv "_cls" (.st 135),nv "a" x,nv "b" y,nv "size" z]:=by rfl
 rw [e]
 refine c7 (q9 (j7 (c7 (E5 (bc9 (pl:=fun _=>_) (M0 rfl (bi5 _) bi6 ((i0 _ bd0 trivial (c6 (b6 rfl rfl (c6 (y5 (c6 (b6 rfl rfl (c6 (b6 rfl rfl (c6 (b6 rfl rfl (d9 ⟨by show 3 <= aB; decide,(d9 ?_)⟩)))))))))))))))))))
 exact bc8 (P6 w) (by show 3 <= aB; decide) h
theorem cD1 {w:World} {E:i7} {H:List O} {d:Nat} {x y z:V} {Q:V -> List O -> Prop} (h:Q (.sub 135 [x,y,z]) H):i5 pP w (KK w.params) (d+2) E H (.st 135) [x,y,z] Q :=
 cp0 (P6 w) (cD0 ⟨⟨_,rfl⟩,h⟩)
end
section
set_option tactic.hygienic false
noncomputable def B2 (a b mb oc fc bj jk pp:V):List (Str×V):=[("isjunk",.none),("a",a),("b",b),("autojunk",.bool true),("matching_blocks",mb),("opcodes",oc),("fullbcount",fc),("b2j",bj),("bjunk",jk),("bpopular",pp)]
noncomputable def t6 (b:List Nat) (p:Nat -> Nat):List (Str×V):=b.zipIdx.map fun x=>(S [x.1],.ref (p x.2))
structure r8 (w:World) (H:List O) (mi:Nat) (a b:List Nat) (ta tb:Nat) (mb oc fc:V) (bj jk pp:Nat) (p:Nat -> Nat):Prop where
 o:H[mi]?=some (.inst 242 (B2 (.stk (S a) ta) (.stk (S b) tb) mb oc fc (.ref bj) (.ref jk) (.ref pp)))
 d:H[bj]?=some (dO (strKind pP w) (t6 b p))
 l:∀ j,j < b.length -> H[p j]?=some (.list [.int (j:Nat)])
 s:H[jk]?=some (sO (strKind pP w) (fun _=>false) 0)
theorem ap2 {c e:Nat}:S [c]=S [e]↔c=e:=by rw [am2]; simp
theorem aG8 {p:Nat -> Nat}:∀ {b:List Nat} {n:Nat} {c:Nat},b.Nodup -> x8 (((b.zipIdx n).map fun x=>(S [x.1],V.ref (p x.2)))) (S [c])=(match b.findIdx? (·==c) with | some j=>some (.ref (p (n+j))) | none=>none)
 | [],_,_,_=>rfl
 | e::b,n,c,nd=>by
  rw [List.zipIdx_cons,aR]
  unfold x8
  by_cases q:e=c
  · subst q
    rw [eG (by simp),List.findIdx?_cons]
    simp
  · have ih:=aG8 (p:=p) (b:=b) (n:=n+1) (c:=c) (dP.mp nd).2
    unfold x8 at ih
    rw [eK (by simpa [ap2] using q),ih,List.findIdx?_cons,if_neg (by simpa using q)]
    cases b.findIdx? (·==c) with
    | none=>rfl
    | some j=>simp only [iq]; rw [Nat.add_right_comm,Nat.add_assoc]
theorem cD2 {p:Nat -> Nat} {b:List Nat} {j c:Nat} (nd:b.Nodup) (h:b[j]?=some c):x8 (t6 b p) (S [c])=some (.ref (p j)):=by
 unfold t6
 rw [aG8 nd]
 have hj:=(ae.mp h).1
 have e:b.findIdx? (·==c)=some j:=by
  rw [List.findIdx?_eq_some_iff_getElem]
  refine (c5 hj (by rw [(ae.mp h).2]; simp) (fun k hk=>?_))
  have:b[k]?≠b[j]?:=fun q=>by
   have:=(gN (by exact aR0 hj hk) nd).mp q
   exact bO2 hk this
  rw [aq (by exact aR0 hj hk),h] at this
  simpa using this
 rw [e]
 show some (V.ref (p (0+j)))=_
 rw [iy]
theorem bk1 {p:Nat -> Nat} {b:List Nat} {c:Nat} (nd:b.Nodup) (h:c ∉ b):x8 (t6 b p) (S [c])=none:=by
 unfold t6
 rw [aG8 nd]
 have e:b.findIdx? (·==c)=none:=by
  rw [List.findIdx?_eq_none_iff]
  intro x hx
  simpa using fun q:x=c=>h (q▸hx)
 rw [e]
section
variable {prog:Program} {w:World} {KF:Frag} {d:Nat} {E:i7} {H:List O}
theorem L1 {C N i:Nat} {fs:List (Str×V)} {name x:Str} {t:Nat} {ex:Bool} {Q:V -> List O -> Prop} (K:R3 KF C N) (hna:nsIn KF N name=some none) (hB:aX (.type "object") name=pure none) (hl:H[i]?=some (.inst C fs)) (hv:fs.lookup name=some (.stk x t)) (h:Q (.str x) H) :
 W1 prog w KF d E VR H (fun u=>fw u name ex) (.ref i) Q:=fun A F ρ s u hA S ru =>
 ar (E7 (Q:=fun v H'=>v=.stk x t /\ H'=H) K hna hB hl hv (fun _ q=>nomatch q) ⟨rfl,rfl⟩ A F ρ s u hA S ru) (fun _ _ ⟨ρ',H',v,st,T,r,e1,e2⟩=>by subst e1 e2; exact ⟨ρ',_,.str x,st,T,r.weak,h⟩) fun _ _ x=>x
end
theorem ah3 {fi:FI} {x y z:Str} (hx:fi.sc.names.lookup x=some .local) (hy:fi.sc.names.lookup y=some .local) (hz:fi.sc.names.lookup z=some .local):∀ u∈[x,y,z],O6 fi u:=fun u hu=>by
 rcases aJ.mp hu with rfl | hu
 · exact .inl hx
 · rcases aJ.mp hu with rfl | hu
   · exact .inl hy
   · rw [au.mp hu]; exact .inl hz
section
variable {w:World} {E:i7} {H:List O} {d mi:Nat} {a b:List Nat} {ta tb:Nat} {mb oc fc:V} {bj jk pp:Nat} {p:Nat -> Nat} {alo ahi blo bhi:Nat} {Q:V -> List O -> Prop}
theorem cD3 (w:World) (s:Shared) (us:List Value) (B:Bs w (KK w.params) s.heap) (hu:us.length=5):BindsTo s (q8 (V0 w.params)) ⟨us,[]⟩ ((["self","alo","ahi","blo","bhi"]:List Str).zip (us++[])):=by
 (refine Y7 (aZ0 hu) fun a0 a1 a2 a3 a4 qz1=>?_; subst qz1)
 exact BindsTo.of_defaults (T:=189) (o:=as4 w.params) (n:=0) (items:=#[.int 0 464,.none,.int 0 465,.none]) (by rfl) (B.k _ _ (by kernel_rfl)) (by rfl) (by rfl) (by rfl)
noncomputable abbrev nmF (mi alo ahi blo bhi:Nat) (av bv dv sv x y z j2 no i jg nj j k:Option V):b8:=[nv "self" (.ref mi),nv "alo" (.int (alo:Nat)),nv "ahi" (.int (ahi:Nat)),nv "blo" (.int (blo:Nat)),nv "bhi" (.int (bhi:Nat)),("a",av),("b",bv),("b2j",dv),("isbjunk",sv),("besti",x),("bestj",y),("bestsize",z),("j2len",j2),("nothing",no),("i",i),("j2lenget",jg),("newj2len",nj),("j",j),("k",k)]
noncomputable abbrev rD (r:Option (Nat×Nat)):List (Int×V):=match r with | none=>[] | some (j,k)=>[((j:Int),.int (k:Nat))]
theorem cD4 {r:Option (Nat×Nat)} {j:Nat}:(x8 (rD r) ((j:Int) - 1)).getD (.int 0)=.int (t5 r j:Nat):=by
 cases r with
 | none=>rfl
 | some x =>
  obtain ⟨j',k⟩:=x
  unfold t5 x8 rD
  dsimp only
  by_cases e:j'+1=j
  · rw [if_pos e,eG (by simp; omega)]; rfl
  · rw [if_neg e,eK (by simp; omega)]; rfl
theorem r8.mono {H':List O} (S0:r8 w H mi a b ta tb mb oc fc bj jk pp p) (h:H<+:H'):r8 w H' mi a b ta tb mb oc fc bj jk pp p:=by
 (refine c0 h fun L qz2=>?_; clear h; subst qz2)
 have k:∀ {i:Nat} {o:O},H[i]?=some o -> (H++L)[i]?=some o:=fun e=>by rw [bf (ae.mp e).1]; exact e
 exact ⟨k S0.o,k S0.d,fun j hj=>k (S0.l j hj),k S0.s⟩
theorem l4 {H H':List O} (h:H<+:H') {i:Nat} {o:O} (e:H[i]?=some o):H'[i]?=some o:=by
 (refine c0 h fun L qz3=>?_; clear h; subst qz3)
 rw [bf (ae.mp e).1]; exact e
theorem J3 {H H':List O} {o:O} (h:H<+:H'):H<+:H'++[o]:=h.trans (aF _ _)
theorem N0 {H H':List O} {o:O} {i:Nat} (h:H<+:H') (hi:H.length <= i):H<+:H'.set i o:=by
 (refine c0 h fun L qz4=>?_; clear h; subst qz4)
 rw [gV _ _ hi]
 exact aF _ _
inductive FJ (w:World) (mi:Nat) (a b:List Nat) (alo ahi blo bhi bj sb no:Nat) (H:List O) (i:Nat):b8 -> List O -> Prop
 | mk {H':List O} {bi bt bs:Nat} {x y z:Int} {nj iv jg jv kv:Option V} {dj:Nat} {r:Option (Nat×Nat)} (pre:H<+:H') (ex:x=(bi:Nat)) (ey:y=(bt:Nat)) (ez:z=(bs:Nat)) (hd:H'[dj]?=some (dO (fx pP w) (rD r))) (F:C0 a b alo blo bhi i bi bt bs r) :
  FJ w mi a b alo ahi blo bhi bj sb no H i (nmF mi alo ahi blo bhi (some (.str (S a))) (some (.str (S b))) (some (.ref bj)) (some (.ref sb)) (some (.int x)) (some (.int y)) (some (.int z)) (some (.ref dj)) (some (.ref no)) iv jg nj jv kv) H'
inductive FT (w:World) (mi:Nat) (a b:List Nat) (alo ahi blo bhi bj sb no:Nat) (H:List O) (i:Nat):b8 -> List O -> Prop
 | mk {H':List O} {bi bt bs:Nat} {x y z:Int} {j2 iv jg jv kv:Option V} {dj:Nat} {r:Option (Nat×Nat)} (pre:H<+:H') (ex:x=(bi:Nat)) (ey:y=(bt:Nat)) (ez:z=(bs:Nat)) (hd:H'[dj]?=some (dO (fx pP w) (rD r))) (F:C0 a b alo blo bhi i bi bt bs r) :
  FT w mi a b alo ahi blo bhi bj sb no H i (nmF mi alo ahi blo bhi (some (.str (S a))) (some (.str (S b))) (some (.ref bj)) (some (.ref sb)) (some (.int x)) (some (.int y)) (some (.int z)) j2 (some (.ref no)) iv jg (some (.ref dj)) jv kv) H'
noncomputable abbrev fiF (w:World):FI:=⟨i6 (c9 5 6),true,(q8 (V0 w.params)).code⟩
noncomputable def U4:Stmt -> List Stmt
 | .For _ _ b _ _=>b
 | .While _ b _ _=>b
 | _=>[]
noncomputable def B3 (k:Nat) (l:List Stmt):Stmt:=(l[k]?).getD (.Pass ⟨0,0,0,0⟩)
noncomputable def bk2:List Stmt:=U4 (B3 7 (j0 (c9 5 6)))
theorem bk3 {sb no i:Nat} {m:b8} {H':List O} (J:FT w mi a b alo ahi blo bhi bj sb no H i m H') {Q:Fl -> b8 -> List O -> Prop} (hQ:∀ m H',FJ w mi a b alo ahi blo bhi bj sb no H i m H' -> Q .next m H') :
 WB pP w (KK w.params) (fiF w) d (fun _ _ _=>False) m H' (bk2.drop 3) Q:=by
 obtain ⟨pre,ex,ey,ez,hd,F⟩:=J
 refine c7 (l7 (b6 rfl rfl (e7 (.inl rfl) (e6 ?_))))
 exact hQ _ _ (.mk pre ex ey ez hd F)
theorem cD5 (R:Rows a b) (S0:r8 w H mi a b ta tb mb oc fc bj jk pp p) (W:D6 a b alo ahi blo bhi) (ha:a.length <= 100) (hb:b.length <= 100) {sb no i c:Nat} {m:b8} {H':List O} (hno:H[no]?=some (.list [])) (hc:a[i]?=some c) (h0:alo <= i)
 (J:FJ w mi a b alo ahi blo bhi bj sb no H i m H') {Q:Fl -> b8 -> List O -> Prop} (hQ:∀ m H',FJ w mi a b alo ahi blo bhi bj sb no H (i+1) m H' -> Q .next m H') :
 WB pP w (KK w.params) (fiF w) d (fun _ _ _=>False) (w6 m "i" (.int (i:Nat))) H' bk2 Q:=by
 obtain @⟨H',bi,bt,bs,x,y,z,nj0,iv,jg0,jv,kv,dj,r,pre,ex,ey,ez,hd,F⟩:=J
 subst ex ey ez
 refine c7 (l7 (r6 (b6 rfl rfl (ck8 hd (e7 (.inl rfl) (c7 (l7 (ag1 (knd:=fx pP w) (e7 (.inl rfl) (c7 ?_))))))))))
 have q1:∃ H2,H2=H'++[bO "dict.get" dj]++[dO (fx pP w) (rD none)]:=⟨_,rfl⟩
 (refine c0 q1 fun H2 e2=>?_; clear q1)
 have p2:H<+:H2:=by rw [e2]; exact J3 (J3 pre)
 have g1:H2[H'.length]?=some (bO "dict.get" dj):=by rw [e2]; exact l4 (aF _ _) af
 have g2:H2[(H'++[bO "dict.get" dj]).length]?=some (dO (fx pP w) (rD none)):=by rw [e2]; exact af
 have g3:=l4 (H':=H2) (by rw [e2]; exact J3 (aF _ _)) hd
 have g4:H.length <= (H'++[bO "dict.get" dj]).length:=(J3 pre).length_le
 rw [<- e2]
 generalize (H'++[bO "dict.get" dj]).length=nj at g2 g4 ⊢
 generalize H'.length=jg at g1 ⊢
 clear e2 hd pre
 clear H'
 refine X2 (o6 (pl:=fun _=>_) (b6 rfl rfl ((i0 _ (an3 eV gS (l4 p2 S0.d)) trivial (c6 (A9 (b6 rfl rfl (b6 rfl rfl (P1 hc (ag ha (by decide)) (c6 (b6 rfl rfl (d9 (aC8 P2 (l4 p2 S0.d) ?_)))))))))))))
 by_cases hcb:c∈b
 · (refine c0 (bJ hcb) fun j hj=>?_)
   have hM:MM a b i j:=(c5 c hc hj)
   have hjl:=(ae.mp hj).1
   rw [cD2 R.nb hj,Option.getD_some]
   refine (L7 _ _ (O8 (.inl (l4 p2 (S0.l j hjl)))) (fun n m H''=>(n=0 /\ m=nmF mi alo ahi blo bhi (some (.str (S a))) (some (.str (S b))) (some (.ref bj)) (some (.ref sb)) (some (.int (bi:Nat))) (some (.int (bt:Nat))) (some (.int (bs:Nat))) (some (.ref dj)) (some (.ref no)) (some (.int (i:Nat))) (some (.ref jg)) (some (.ref nj)) jv kv /\ H''=H2) \/ (n=1 /\ FT w mi a b alo ahi blo bhi bj sb no H (i+1) m H'')) (.inl (e9 rfl rfl rfl)) ?_ ?_ ?_)
   · rintro n m H'' (⟨_,rfl,rfl⟩ | ⟨_,pre,_⟩)
     · exact .inl (l4 p2 (S0.l j hjl))
     · exact .inl (l4 pre (S0.l j hjl))
   · rintro n x m H'' hx (⟨rfl,rfl,rfl⟩ | ⟨rfl,_⟩)
     · cases hx
       refine e7 (.inl rfl) (c7 (o9 (l6 (b6 rfl rfl (b6 rfl rfl (F8 (i9 ?_)))))))
       by_cases c1:j < blo
       · refine w9 (decide_eq_true (aO.mpr c1)) ?_
         refine c7 (bZ9 ?_)
         exact .inr ⟨rfl,.mk p2 rfl rfl rfl g2 (F.skip fun j' hm h1 _=>absurd (R.fn hM hm▸c1) (bN.mpr h1))⟩
       refine o5 (fun q=>c1 (aO.mp (of_decide_eq_true q))) (e6 (c7 (o9 (l6 (b6 rfl rfl (b6 rfl rfl (aV2 (i9 ?_))))))))
       by_cases c2:bhi <= j
       · refine w9 (decide_eq_true (Int.ofNat_le.mpr c2)) ?_
         refine c7 (bZ8 (c7 (l7 (b6 rfl rfl (e7 (.inl rfl) (e6 ?_))))))
         exact hQ _ _ (.mk p2 rfl rfl rfl g2 (F.skip fun j' hm _ h1=>absurd (R.fn hM hm▸c2) (Nat.not_le.mpr h1)))
       refine o5 (fun q=>c2 (Int.ofNat_le.mp (of_decide_eq_true q))) (e6 (c7 (M6 (g8 (aa6 (b6 rfl rfl ((c5 _ rfl (c6 (g8 (b6 rfl rfl (j9 (K0 (c6 (j9 (d9 ⟨(l8 _ _ g1),(cl3 ba6 g1 g3 ?_)⟩))))))))))))))))
       rw [cD4]
       refine j9 (s8 (e7 (.inl rfl) (aC4 (b6 rfl rfl (b6 rfl rfl (aC9 ba6 g2 (by show 0 <= aB; decide) ?_))))))
       have g5:(H''.set nj (dO (fx pP w) (E8 (rD none) (j:Int) (.int ((t5 r j:Nat)+1)))))[nj]?=some (dO (fx pP w) (rD (some (j,t5 r j+1)))):=bT (ae.mp g2).1
       have p3:=N0 (o:=dO (fx pP w) (E8 (rD none) (j:Int) (.int ((t5 r j:Nat)+1)))) p2 g4
       generalize H''.set nj _=H3 at g5 p3 ⊢
       refine c7 (o9 (l6 (b6 rfl rfl (b6 rfl rfl (X0 (i9 ?_))))))
       by_cases c3:bs < t5 r j+1
       · refine w9 (decide_eq_true (aO.mpr c3)) ?_
         refine c7 (M1 (xs:=["besti","bestj","bestsize"]) (ah3 (by rfl) (by rfl) (by rfl)) ?_ (fun env he=>by unfold bR de cJ; rw [he]; rfl))
         refine y5 (c6 (g8 (g8 (b6 rfl rfl (b6 rfl rfl (K0 (j9 (s8 (c6 (g8 (g8 (b6 rfl rfl (b6 rfl rfl (K0 (j9 (s8 (c6 (b6 rfl rfl (d9 ⟨by show 3 <= aB; decide,(G1 rfl ⟨rfl,(e6 (e6 ?_))⟩)⟩)))))))))))))))))))
         have G:=F.better hM h0 (bN.mp c1) (Nat.not_le.mp c2) c3
         have r1:=F.run hM h0 (bN.mp c1) (Nat.not_le.mp c2)
         exact .inr ⟨rfl,.mk p3 (aS4 (ag (Nat.le_add_left _ _) r1.2.1)) (aS4 (ag (Nat.le_add_left _ _) r1.2.2.1)) rfl g5 G⟩
       · refine o5 (fun q=>c3 (aO.mp (of_decide_eq_true q))) ?_
         refine e6 (e6 ?_)
         exact .inr ⟨rfl,.mk p3 rfl rfl rfl g5 (F.same hM h0 (bN.mp c1) (Nat.not_le.mp c2) c3)⟩
     · cases hx
   · rintro m H'' (⟨q,_⟩ | ⟨_,J⟩)
     · cases q
     · exact bk3 J hQ
 · rw [bk1 R.nb hcb]
   refine (L7 _ _ (O8 (.inl (l4 p2 hno))) (fun n m H''=>FT w mi a b alo ahi blo bhi bj sb no H (i+1) m H'') (.mk p2 rfl rfl rfl g2 (F.skip fun j hm _ _=>?_)) ?_ ?_ ?_)
   · (refine b9 hm fun c' h1 h2=>?_; clear hm)
     rw [hc] at h1; cases h1
     exact hcb (ba h2)
   · (intro n m H''; intro qz5; obtain ⟨pre,_⟩:=qz5)
     exact .inl (l4 pre hno)
   · rintro n x m H'' hx _
     cases hx
   · rintro m H'' J
     exact bk3 J hQ
end
end
section
section
variable {w:World} {E:i7} {H:List O} {d mi:Nat} {a b:List Nat} {ta tb:Nat} {mb oc fc:V} {bj jk pp:Nat} {p:Nat -> Nat} {alo ahi blo bhi:Nat} {Q:V -> List O -> Prop}
inductive FW (mi:Nat) (a b:List Nat) (alo ahi blo bhi bj sb no:Nat) (H:List O):Nat -> Nat -> Nat -> b8 -> List O -> Prop
 | mk {H':List O} {i j k:Nat} {x y z:Int} {j2 nj iv jg jv kv:Option V} (pre:H<+:H') (ex:x=(i:Nat)) (ey:y=(j:Nat)) (ez:z=(k:Nat)) (F:F0 a b alo ahi blo bhi i j k) :
  FW mi a b alo ahi blo bhi bj sb no H i j k (nmF mi alo ahi blo bhi (some (.str (S a))) (some (.str (S b))) (some (.ref bj)) (some (.ref sb)) (some (.int x)) (some (.int y)) (some (.int z)) j2 (some (.ref no)) iv jg nj jv kv) H'
theorem FW.el {i j k:Nat} {m:b8} {H':List O} {P:b8 -> Prop} (J:FW mi a b alo ahi blo bhi bj sb no H i j k m H') (g:∀ {j2 nj iv jg jv kv},H<+:H' -> F0 a b alo ahi blo bhi i j k -> P (nmF mi alo ahi blo bhi (some (.str (S a))) (some (.str (S b))) (some (.ref bj)) (some (.ref sb)) (some (.int (i:Nat))) (some (.int (j:Nat))) (some (.int (k:Nat))) j2 (some (.ref no)) iv jg nj jv kv)):P m:=by
 obtain ⟨pre,rfl,rfl,rfl,F⟩:=J
 exact g pre F
theorem bk4 {i j c e:Nat} (h1:a[i]?=some c) (h2:b[j]?=some e) (h:(S [c]==S [e])=true):MM a b i j:=by
 rw [aB1] at h
 have:c=e:=by simpa using h
 exact (c5 c h1 (this▸h2))
theorem ap3 {w:World} {d:Nat} {E:i7} {Q:V -> List O -> Prop} {H H':List O} {sb jk c:Nat} (pre:H<+:H') (h1:H[sb]?=some (bO "set.__contains__" jk)) (h2:H[jk]?=some (sO (strKind pP w) (fun _=>false) 0)) (h:Q (.bool false) H'):i5 pP w (KK w.params) d E H' (.ref sb) [.str (S [c])] Q :=
 co0 (kv:=V.str) P2 co1 (l4 pre h1) (l4 pre h2) h
section
variable (S0:r8 w H mi a b ta tb mb oc fc bj jk pp p) (W:D6 a b alo ahi blo bhi) (ha:a.length <= 100) (hb:b.length <= 100) {sb no:Nat} (hsb:H[sb]?=some (bO "set.__contains__" jk)) {i j k:Nat} {m:b8} {H':List O} (J:FW mi a b alo ahi blo bhi bj sb no H i j k m H')
 {Q:Fl -> b8 -> List O -> Prop} (hQ:∀ m H' i j k,FW mi a b alo ahi blo bhi bj sb no H i j k m H' -> Q .next m H')
include S0 W ha hb hsb J hQ
theorem cD6:WS pP w (KK w.params) (fiF w) d (fun _ _ _=>False) m H' (B3 8 (j0 (c9 5 6))) Q:=by
 refine Z6 (fun n m H'=>∃ j k,FW mi a b alo ahi blo bhi bj sb no H n j k m H') i (l8 j k J) ?_
 (intro n m H'; intro qz1; refine w0 qz1 fun j k qz2=>?_; clear qz1; apply qz2.el; intro _ _ _ _ _ _ pre F; clear qz2)
 refine B9 (l6 (b6 rfl rfl (b6 rfl rfl (X0 (i9 ?_)))))
 by_cases c1:alo < n
 case neg=>exact E6 (fun q=>c1 (aO.mp (of_decide_eq_true q))) (hQ _ _ _ _ _ (.mk pre rfl rfl rfl F))
 refine D4 (decide_eq_true (aO.mpr c1)) (B9 (l6 (b6 rfl rfl (b6 rfl rfl (X0 (i9 ?_))))))
 by_cases c2:blo < j
 case neg=>exact E6 (fun q=>c2 (aO.mp (of_decide_eq_true q))) (hQ _ _ _ _ _ (.mk pre rfl rfl rfl F))
 refine D4 (decide_eq_true (aO.mpr c2)) ?_
 have h1:n - 1 < a.length:=ax0 (Nat.zero_lt_of_lt c1) F.a2 W.a2
 have h2:j - 1 < b.length:=ax0 (Nat.zero_lt_of_lt c2) F.b2 W.b2
 refine B9 (aC1 (w4 (aa6 (b6 rfl rfl ((c5 _ rfl (c6 (A9 (b6 rfl rfl (g8 (b6 rfl rfl (j9 (K0 ?_)))))))))))))
 rw [Z2 (by exact Z0 c2)]
 refine P1 (aq h2) (ag hb (by decide)) ?_
 refine ⟨(l8 _ _ (l4 pre hsb)),(ap3 pre hsb S0.s (i9 (D4 rfl (T8 (l6 (A9 (b6 rfl rfl (g8 (b6 rfl rfl (j9 (K0 ?_)))))))))))⟩
 rw [Z2 (by exact Z0 c1)]
 refine P1 (aq h1) (ag ha (by decide)) ?_
 refine A9 (b6 rfl rfl (g8 (b6 rfl rfl (j9 (K0 ?_)))))
 rw [Z2 (by exact Z0 c2)]
 refine P1 (aq h2) (ag hb (by decide)) ?_
 refine aV4 (i9 ?_)
 split
 · rename_i q
   refine c7 (M1 (xs:=["besti","bestj","bestsize"]) (ah3 (by rfl) (by rfl) (by rfl)) ?_ (fun env he=>by unfold bR de cJ; rw [he]; rfl))
   refine y5 (c6 (g8 (b6 rfl rfl (j9 (K0 (c6 (g8 (b6 rfl rfl (j9 (K0 (c6 (g8 (b6 rfl rfl (j9 (s8 (d9 ⟨by show 3 <= aB; decide,(G1 rfl ⟨rfl,(e6 ?_)⟩)⟩))))))))))))))))
   exact (bv6 (n - 1) (Nat.sub_lt (Nat.zero_lt_of_lt c1) Nat.one_pos) (j - 1) (k+1) (.mk pre (Z2 (by exact Z0 c1)) (Z2 (by exact Z0 c2)) rfl (F.left c1 c2 (bk4 (aq h1) (aq h2) q))))
 · exact hQ _ _ _ _ _ (.mk pre rfl rfl rfl F)
theorem cD7:WS pP w (KK w.params) (fiF w) d (fun _ _ _=>False) m H' (B3 9 (j0 (c9 5 6))) Q:=by
 refine Z6 (fun n m H'=>∃ i j k,n=ahi - (i+k) /\ FW mi a b alo ahi blo bhi bj sb no H i j k m H') (ahi - (i+k)) (Q3 i j k rfl J) ?_
 (intro n m H'; intro qz3; refine F3 qz3 fun i j k en qz4=>?_; clear qz3; subst en; apply qz4.el; intro _ _ _ _ _ _ pre F; clear qz4)
 refine B9 (l6 (g8 (b6 rfl rfl (b6 rfl rfl (s8 (b6 rfl rfl (F8 (i9 ?_))))))))
 by_cases c1:i+k < ahi
 case neg=>exact E6 (fun q=>c1 (aO.mp (of_decide_eq_true q))) (hQ _ _ _ _ _ (.mk pre rfl rfl rfl F))
 refine D4 (decide_eq_true (aO.mpr c1)) (B9 (l6 (g8 (b6 rfl rfl (b6 rfl rfl (s8 (b6 rfl rfl (F8 (i9 ?_)))))))))
 by_cases c2:j+k < bhi
 case neg=>exact E6 (fun q=>c2 (aO.mp (of_decide_eq_true q))) (hQ _ _ _ _ _ (.mk pre rfl rfl rfl F))
 refine D4 (decide_eq_true (aO.mpr c2)) ?_
 have h1:i+k < a.length:=aW c1 W.a2
 have h2:j+k < b.length:=aW c2 W.b2
 refine B9 (aC1 (w4 (aa6 (b6 rfl rfl ((c5 _ rfl (c6 (A9 (b6 rfl rfl (g8 (b6 rfl rfl (b6 rfl rfl (s8 (P1 (k:=j+k) (aq h2) (ag hb (by decide)) ?_))))))))))))))
 refine ⟨(l8 _ _ (l4 pre hsb)),(ap3 pre hsb S0.s (i9 (D4 rfl (T8 (l6 (A9 (b6 rfl rfl (g8 (b6 rfl rfl (b6 rfl rfl (s8 (P1 (k:=i+k) (aq h1) (ag ha (by decide)) ?_))))))))))))⟩
 refine A9 (b6 rfl rfl (g8 (b6 rfl rfl (b6 rfl rfl (s8 (P1 (k:=j+k) (aq h2) (ag hb (by decide)) ?_))))))
 refine aV4 (i9 ?_)
 split
 · rename_i q
   refine c7 (af7 (.inl rfl) rfl (j9 (aU8 (e6 ?_))))
   exact (bw0 _ (by show ahi - (i+(k+1)) < ahi - (i+k); exact bO3 c1) i j (k+1) rfl (.mk pre rfl rfl rfl (F.right c1 c2 (bk4 (aq h1) (aq h2) q))))
 · exact hQ _ _ _ _ _ (.mk pre rfl rfl rfl F)
theorem cD8:WS pP w (KK w.params) (fiF w) d (fun _ _ _=>False) m H' (B3 10 (j0 (c9 5 6))) Q:=by
 refine Z6 (fun n m H'=>∃ i j k,FW mi a b alo ahi blo bhi bj sb no H i j k m H') 0 (C3 i j k J) ?_
 (intro n m H'; intro qz5; refine B4 qz5 fun n j k qz6=>?_; clear qz5; apply qz6.el; intro _ _ _ _ _ _ pre F; clear qz6)
 refine B9 (l6 (b6 rfl rfl (b6 rfl rfl (X0 (i9 ?_)))))
 by_cases c1:alo < n
 case neg=>exact E6 (fun q=>c1 (aO.mp (of_decide_eq_true q))) (hQ _ _ _ _ _ (.mk pre rfl rfl rfl F))
 refine D4 (decide_eq_true (aO.mpr c1)) (B9 (l6 (b6 rfl rfl (b6 rfl rfl (X0 (i9 ?_))))))
 by_cases c2:blo < j
 case neg=>exact E6 (fun q=>c2 (aO.mp (of_decide_eq_true q))) (hQ _ _ _ _ _ (.mk pre rfl rfl rfl F))
 refine D4 (decide_eq_true (aO.mpr c2)) ?_
 have h2:j - 1 < b.length:=ax0 (Nat.zero_lt_of_lt c2) F.b2 W.b2
 refine B9 (w4 (aa6 (b6 rfl rfl ((c5 _ rfl (c6 (A9 (b6 rfl rfl (g8 (b6 rfl rfl (j9 (K0 ?_))))))))))))
 rw [Z2 (by exact Z0 c2)]
 refine P1 (aq h2) (ag hb (by decide)) ?_
 refine ⟨(l8 _ _ (l4 pre hsb)),(ap3 pre hsb S0.s (i9 ?_))⟩
 exact E6 (fun q=>nomatch q) (hQ _ _ _ _ _ (.mk pre rfl rfl rfl F))
theorem cD9:WS pP w (KK w.params) (fiF w) d (fun _ _ _=>False) m H' (B3 11 (j0 (c9 5 6))) Q:=by
 refine Z6 (fun n m H'=>∃ i j k,FW mi a b alo ahi blo bhi bj sb no H i j k m H') 0 (C3 i j k J) ?_
 (intro n m H'; intro qz7; refine B4 qz7 fun i j k qz8=>?_; clear qz7; apply qz8.el; intro _ _ _ _ _ _ pre F; clear qz8)
 refine B9 (l6 (g8 (b6 rfl rfl (b6 rfl rfl (s8 (b6 rfl rfl (F8 (i9 ?_))))))))
 by_cases c1:i+k < ahi
 case neg=>exact E6 (fun q=>c1 (aO.mp (of_decide_eq_true q))) (hQ _ _ _ _ _ (.mk pre rfl rfl rfl F))
 refine D4 (decide_eq_true (aO.mpr c1)) (B9 (l6 (g8 (b6 rfl rfl (b6 rfl rfl (s8 (b6 rfl rfl (F8 (i9 ?_)))))))))
 by_cases c2:j+k < bhi
 case neg=>exact E6 (fun q=>c2 (aO.mp (of_decide_eq_true q))) (hQ _ _ _ _ _ (.mk pre rfl rfl rfl F))
 refine D4 (decide_eq_true (aO.mpr c2)) ?_
 have h2:j+k < b.length:=aW c2 W.b2
 refine B9 (w4 (aa6 (b6 rfl rfl ((c5 _ rfl (c6 (A9 (b6 rfl rfl (g8 (b6 rfl rfl (b6 rfl rfl (s8 (P1 (k:=j+k) (aq h2) (ag hb (by decide)) ?_)))))))))))))
 refine ⟨(l8 _ _ (l4 pre hsb)),(ap3 pre hsb S0.s (i9 ?_))⟩
 exact E6 (fun q=>nomatch q) (hQ _ _ _ _ _ (.mk pre rfl rfl rfl F))
end
theorem cE0 (R:Rows a b) (S0:r8 w H mi a b ta tb mb oc fc bj jk pp p) (W:D6 a b alo ahi blo bhi) (ha:a.length <= 100) (hb:b.length <= 100) (h:∀ H' i j k,H<+:H' -> F0 a b alo ahi blo bhi i j k -> Q (.sub 135 [.int (i:Nat),.int (j:Nat),.int (k:Nat)]) H') :
 i5 pP w (KK w.params) (d+3) E H (.st 196) [.ref mi,.int (alo:Nat),.int (ahi:Nat),.int (blo:Nat),.int (bhi:Nat)] Q:=by
 refine al8 (ds:=[]) (dv:=[]) (cy9 w) (by rfl) (by rfl) (fun ρ h=>.nil) (fun s us B hu=>cD3 w s us B hu) ?_
 have e:r0 (i6 (c9 5 6)) ["self","alo","ahi","blo","bhi"] ([.ref mi,.int (alo:Nat),.int (ahi:Nat),.int (blo:Nat),.int (bhi:Nat)]++[])=nmF mi alo ahi blo bhi none none none none none none none none none none none none none none:=by rfl
 rw [e]
 refine c7 (q9 (j7 (c7 (l7 (y5 (c6 (r6 (b6 rfl rfl (L1 (j6 w) (R9 w) R8 S0.o (by rfl) (c6 (r6 (b6 rfl rfl (L1 (j6 w) (P8 w) P7 S0.o (by rfl) (c6 (r6 (b6 rfl rfl (E7 (j6 w) (bj2 w) bj1 S0.o (by rfl) (by intro _ q; cases q) (c6 (r6 (r6 (b6 rfl rfl (E7 (j6 w) (bj4 w) bj3 S0.o (by rfl) (by intro _ q; cases q) ?_))))))))))))))))))))))
 skip
 refine cn8 S0.s (d9 ⟨by show 4 <= aB; decide,(aa4 (G1 rfl (e7 (.inl (by rfl)) (e7 (.inl (by rfl)) (e7 (.inl (by rfl)) (e7 (.inl (by rfl)) (c7 (o9 (l6 (b6 rfl rfl (O5 (aa7 (b:=false) rfl (i9 (o5 (by decide) (e6 (c7 (o9 (l6 (b6 rfl rfl (O5 (aa7 (b:=false) rfl (i9 (o5 (by decide) (e6 (c7 (M1 (xs:=["besti","bestj","bestsize"]) (ah3 (by rfl) (by rfl) (by rfl)) ?_ (fun env he=>by unfold bR de cJ; rw [he]; rfl)))))))))))))))))))))))))))⟩)
 refine y5 (c6 (b6 rfl rfl (c6 (b6 rfl rfl (c6 (j9 (d9 ⟨by show 3 <= aB; decide,(G1 rfl ⟨rfl,(c7 (l7 (ag1 (knd:=fx pP w) (e7 (.inl rfl) (c7 (l7 (G3 (d9 ⟨by show 0 <= aB; decide,(e7 (.inl rfl) (c7 ?_))⟩))))))))⟩)⟩)))))))
 obtain ⟨H1,e1⟩:∃ H1,H1=H++[bO "set.__contains__" jk]++[dO (fx pP w) (rD none)]++[O.list []]:=⟨_,rfl⟩
 have p1:H<+:H1:=by rw [e1]; exact J3 (J3 (aF _ _))
 have g1:H1[H.length]?=some (bO "set.__contains__" jk):=by rw [e1]; exact l4 (J3 (aF _ _)) af
 have g2:H1[(H++[bO "set.__contains__" jk]).length]?=some (dO (fx pP w) (rD none)):=by rw [e1]; exact l4 (aF _ _) af
 have g3:H1[(H++[bO "set.__contains__" jk]++[dO (fx pP w) (rD none)]).length]?=some (.list []):=by rw [e1]; exact af
 rw [<- e1]
 generalize (H++[bO "set.__contains__" jk]++[dO (fx pP w) (rD none)]).length=no at g3 ⊢
 generalize (H++[bO "set.__contains__" jk]).length=j2 at g2 ⊢
 generalize H.length=sb at g1 ⊢
 have S1:=S0.mono p1
 clear e1
 refine X2 (n7 (M0 rfl (bh7 _) bh8 ⟨trivial,c6 (b6 rfl rfl (c6 (b6 rfl rfl (d9 (cc5 ((L7 _ _ (aU0 (i62 (by have:=W.a1; have:=W.a2; exact bO4 ha (by assumption) this)) (i62 (by have:=W.a2; exact bO5 ha this))) (fun k m H'=>FJ w mi a b alo ahi blo bhi bj sb no H1 (alo+k) m H') (.mk (az _) rfl rfl rfl g2 (C0.start W.b1)) (fun _ _ _ _=>trivial) ?_ ?_)))))))⟩))
 · intro k x m H' hx J
   rw [aU] at hx
   (refine b9 (bp.mp hx) fun k' hk' qz9=>?_; subst qz9)
   (refine c0 (ae.mp hk') fun hk1 hk2=>?_)
   rw [List.getElem_range] at hk2
   subst hk2
   rw [dn] at hk1
   have hl:alo+k < a.length:=aW (Nat.add_lt_of_lt_sub' ((Int.toNat_sub ahi alo)▸hk1)) W.a2
   refine e7 (.inl (by rfl)) ?_
   exact cD5 R S1 W ha hb g3 (aq hl) (bd _ _) J fun m H' J=>J
 · intro m H' J
   rw [aD,dn,show alo+((ahi:Int) - (alo:Int)).toNat=ahi by rw [Int.toNat_sub]; exact Nat.add_sub_of_le W.a1] at J
   obtain ⟨pre,ex,ey,ez,hd,F⟩:=J
   refine c7 (cD6 S1 W ha hb g1 (.mk pre ex ey ez F.done) fun m H' i j k J=>(c7 (cD7 S1 W ha hb g1 J fun m H' i j k J=>(c7 (cD8 S1 W ha hb g1 J fun m H' i j k J=>(c7 (cD9 S1 W ha hb g1 J fun m H' i j k J=>?_)))))))
   apply J.el; intro _ _ _ _ _ _ pre F
   clear J
   refine c7 (E5 (n7 (I0 rfl (bh6 _) ⟨by first | exact ao9 _ | exact ao8 _ | exact ab2 _,c6 (b6 rfl rfl (c6 (b6 rfl rfl (c6 (b6 rfl rfl (d9 ?_))))))⟩)))
   exact cD1 (h _ _ _ _ (p1.trans pre) F)
end
end
section
set_option tactic.hygienic false
theorem aG9 (w:World):fG (KK w.params) (.ref 135) "__iter__"=some (some (.builtin "tuple.__iter__")):=by kernel_rfl
theorem sub_lt (w:World):fG (KK w.params) (.ref 135) "__lt__"=some (some (.builtin "tuple.__lt__")):=by kernel_rfl
noncomputable abbrev tI (m:Bl):T3:=((m.1:Int),(m.2.1:Int),(m.2.2:Int))
noncomputable abbrev u5 (m:Bl):V:=K3 135 (tI m)
noncomputable abbrev z9 (m:Bl):V:=t3 (tI m)
noncomputable abbrev L2 (x:Wd):V:=.tup [.int (x.1:Nat),.int (x.2.1:Nat),.int (x.2.2.1:Nat),.int (x.2.2.2:Nat)]
noncomputable abbrev nmB (mi:Nat) (la lb qu ml alo ahi blo bhi i j k x i1 j1 k1 na i2 j2 k2:Option V):b8:=[nv "self" (.ref mi),("la",la),("lb",lb),("queue",qu),("matching_blocks",ml),("alo",alo),("ahi",ahi),("blo",blo),("bhi",bhi),("i",i),("j",j),("k",k),("x",x),("i1",i1),("j1",j1),("k1",k1),("non_adjacent",na),("i2",i2),("j2",j2),("k2",k2)]
noncomputable abbrev Y0 (w:World):FI:=⟨i6 (c9 5 7),true,(q8 (V1 w.params)).code⟩
section
variable {w:World} {E:i7} {H:List O} {d mi:Nat} {a b:List Nat} {ta tb:Nat} {mb oc fc:V} {bj jk pp:Nat} {p:Nat -> Nat} {qu ml:Nat}
inductive GJ (mi:Nat) (a b:List Nat) (qu ml:Nat) (H:List O):Nat -> b8 -> List O -> Prop
 | mk {H':List O} {q:List Wd} {f:List Bl} {alo ahi blo bhi i j k x:Option V} (pre:H<+:H') (hq:H'[qu]?=some (.list (q.map L2))) (hf:H'[ml]?=some (.list (f.map u5))) (Z:K7 a b q f) (le:f.length+y7 q <= 51) :
  GJ mi a b qu ml H (y7 q) (nmB mi (some (.int (a.length:Nat))) (some (.int (b.length:Nat))) (some (.ref qu)) (some (.ref ml)) alo ahi blo bhi i j k x none none none none none none none) H'
theorem aH0 (q:List Wd):q.length <= y7 q:=by
 unfold y7
 induction q with
 | nil=>exact ao _
 | cons x q ih=>rw [aR,hZ,cb]; exact bO6 ih
theorem x9 {H:List O} {i j:Nat} {o o':O} (hij:i≠j) (h:H[j]?=some o):(H.set i o')[j]?=some o:=by rw [bZ hij]; exact h
theorem o7 {H:List O} {i:Nat} {o o':O} (h:H[i]?=some o):(H.set i o')[i]?=some o':=bT (ae.mp h).1
noncomputable def cE1:Stmt -> List Stmt
 | .If _ x _ _=>x
 | _=>[]
noncomputable def bk5:List Stmt:=cE1 (B3 2 (U4 (B3 5 (j0 (c9 5 7)))))
section
variable {alo ahi blo bhi i j k:Nat} {x:V} {q:List Wd} {f:List Bl} {H':List O} {la lb:V}
noncomputable abbrev ap4 (mi:Nat) (la lb:V) (qu ml alo ahi blo bhi i j k:Nat) (x:V):b8:=nmB mi (some la) (some lb) (some (.ref qu)) (some (.ref ml)) (some (.int (alo:Nat))) (some (.int (ahi:Nat))) (some (.int (blo:Nat))) (some (.int (bhi:Nat))) (some (.int (i:Nat))) (some (.int (j:Nat))) (some (.int (k:Nat))) (some x) none none none none none none none
theorem cE2 (hqu:H.length <= qu) (hne:qu≠ml) (pre:H<+:H') (hq:H'[qu]?=some (.list (q.map L2))) (hf:H'[ml]?=some (.list (f.map u5))) (hz:q.length <= 60) {Q:Fl -> b8 -> List O -> Prop}
 (hQ:∀ H',H<+:H' -> H'[qu]?=some (.list ((q++C2 alo blo i j).map L2)) -> H'[ml]?=some (.list (f.map u5)) -> Q .next (ap4 mi la lb qu ml alo ahi blo bhi i j k x) H') :
 WS pP w (KK w.params) (Y0 w) (d+3) (fun _ _ _=>False) (ap4 mi la lb qu ml alo ahi blo bhi i j k x) H' (B3 1 bk5) Q:=by
 refine o9 (B9 (l6 (b6 rfl rfl (b6 rfl rfl (F8 (i9 ?_))))))
 by_cases c1:alo < i
 case neg =>
  refine E6 (fun q=>c1 (aO.mp (of_decide_eq_true q))) (o5 (by decide) (e6 (hQ _ pre ?_ hf)))
  unfold C2; rw [if_neg (fun z=>c1 z.1),bg]; exact hq
 refine D4 (decide_eq_true (aO.mpr c1)) (T8 (l6 (b6 rfl rfl (b6 rfl rfl (F8 (i9 ?_))))))
 by_cases c2:blo < j
 case neg =>
  refine o5 (fun q=>c2 (aO.mp (of_decide_eq_true q))) (e6 (hQ _ pre ?_ hf))
  unfold C2; rw [if_neg (fun z=>c2 z.2),bg]; exact hq
 refine w9 (decide_eq_true (aO.mpr c2)) (c7 (q9 (o6 (pl:=fun _=>_) (b6 rfl rfl ((i0 _ (R0 hq) trivial (c6 (y5 (c6 (b6 rfl rfl (c6 (b6 rfl rfl (c6 (b6 rfl rfl (c6 (b6 rfl rfl (d9 ⟨by show 4 <= aB; decide,(d9 (Q9 hq (by rw [aD]; exact ag hz (by decide)) (e6 (hQ _ (N0 pre hqu) ?_ (x9 hne hf)))))⟩)))))))))))))))))
 unfold C2; rw [if_pos ⟨c1,c2⟩,aQ]; exact o7 hq
theorem cE3 (hqu:H.length <= qu) (hne:qu≠ml) (pre:H<+:H') (hq:H'[qu]?=some (.list (q.map L2))) (hf:H'[ml]?=some (.list (f.map u5))) (hz:q.length <= 60) {Q:Fl -> b8 -> List O -> Prop}
 (hQ:∀ H',H<+:H' -> H'[qu]?=some (.list ((q++F1 ahi bhi (i+k) (j+k)).map L2)) -> H'[ml]?=some (.list (f.map u5)) -> Q .next (ap4 mi la lb qu ml alo ahi blo bhi i j k x) H') :
 WS pP w (KK w.params) (Y0 w) (d+3) (fun _ _ _=>False) (ap4 mi la lb qu ml alo ahi blo bhi i j k x) H' (B3 2 bk5) Q:=by
 refine o9 (B9 (l6 (g8 (b6 rfl rfl (b6 rfl rfl (s8 (b6 rfl rfl (F8 (i9 ?_)))))))))
 by_cases c1:i+k < ahi
 case neg =>
  refine E6 (fun q=>c1 (aO.mp (of_decide_eq_true q))) (o5 (by decide) (e6 (hQ _ pre ?_ hf)))
  unfold F1; rw [if_neg (fun z=>c1 z.1),bg]; exact hq
 refine D4 (decide_eq_true (aO.mpr c1)) (T8 (l6 (g8 (b6 rfl rfl (b6 rfl rfl (s8 (b6 rfl rfl (F8 (i9 ?_)))))))))
 by_cases c2:j+k < bhi
 case neg =>
  refine o5 (fun q=>c2 (aO.mp (of_decide_eq_true q))) (e6 (hQ _ pre ?_ hf))
  unfold F1; rw [if_neg (fun z=>c2 z.2),bg]; exact hq
 refine w9 (decide_eq_true (aO.mpr c2)) (c7 (q9 (o6 (pl:=fun _=>_) (b6 rfl rfl ((i0 _ (R0 hq) trivial (c6 (y5 (c6 (g8 (b6 rfl rfl (b6 rfl rfl (s8 (c6 (b6 rfl rfl (c6 (g8 (b6 rfl rfl (b6 rfl rfl (s8 (c6 (b6 rfl rfl (d9 ⟨by show 4 <= aB; decide,(d9 (Q9 hq (by rw [aD]; exact ag hz (by decide)) (e6 (hQ _ (N0 pre hqu) ?_ (x9 hne hf)))))⟩)))))))))))))))))))))))
 unfold F1; rw [if_pos ⟨c1,c2⟩,aQ]; exact o7 hq
end
theorem cE4 (R:Rows a b) (S0:r8 w H mi a b ta tb mb oc fc bj jk pp p) (ha:a.length <= 25) (hb:b.length <= 25) (hqu:H.length <= qu) (hml:H.length <= ml) (hne:qu≠ml) {n:Nat} {m:b8} {H':List O} (J:GJ mi a b qu ml H n m H') {Q:Fl -> b8 -> List O -> Prop} (hQ:∀ m H',GJ mi a b qu ml H 0 m H' -> Q .next m H') :
 WS pP w (KK w.params) (Y0 w) (d+3) (fun _ _ _=>False) m H' (B3 5 (j0 (c9 5 7))) Q:=by
 refine Z6 (fun n m H'=>GJ mi a b qu ml H n m H') n J ?_
 rintro n m H' @⟨H',q,f,alo,ahi,blo,bhi,i,j,k,x,pre,hq,hf,Z,le⟩
 refine w4 (b6 rfl rfl (cc8 (.inl hq) (by rw [aD]; exact ag (ag (aH0 q) (ag (Nat.le_add_left _ _) le)) (by decide)) ?_))
 rcases List.eq_nil_or_concat q with rfl | ⟨q,w',rfl⟩
 · exact hQ _ _ (.mk pre hq hf Z le)
 rw [List.concat_eq_append] at hq Z le ⊢
 rw [if_pos (by simp)]
 obtain ⟨alo',ahi',blo',bhi'⟩:=w'
 rw [aQ] at hq
 have hz:q.length <= 51:=ag (ag (Nat.le_of_lt (Nat.lt_of_le_of_lt (aH0 q) aF5)) (Nat.le_add_left _ _)) le
 refine c7 (l7 (o6 (pl:=fun _=>_) (b6 rfl rfl ((i0 _ (aZ9 PySem.F.slot_list_pop PySem.F.type_list_pop hq) trivial (d9 (cq6 hq (by rw [aD]; exact Nat.lt_of_le_of_lt hz (by decide)) (aa4 (G1 rfl (e7 (.inl (by rfl)) (e7 (.inl (by rfl)) (e7 (.inl (by rfl)) (e7 (.inl (by rfl)) ?_)))))))))))))
 have pre1:=N0 (o:=.list (q.map L2)) pre hqu
 have hq1:=o7 (o':=.list (q.map L2)) hq
 have hf1:=x9 (o':=.list (q.map L2)) hne hf
 generalize H'.set qu (.list (q.map L2))=H1 at pre1 hq1 hf1 ⊢
 clear hq hf pre
 have W:D6 a b alo' ahi' blo' bhi':=Z.w _ (cC _ (.head _))
 have S1:=S0.mono pre1
 refine c7 (M6 (o6 (pl:=fun _=>_) (b6 rfl rfl ((i0 _ (G2 (j6 w) (cC0 w) (by kernel_rfl:(KK w.params).lookup 196=some (V0 w.params)) rfl cC1 S1.o (by rfl)) (cz0 w) ?_)))))
 refine c6 (b6 rfl rfl (c6 (b6 rfl rfl (c6 (b6 rfl rfl (c6 (b6 rfl rfl (d9 (cE0 R S1 W (ag ha (by decide)) (ag hb (by decide)) fun H2 i' j' k' p2 F=>?_)))))))))
 have pre2:=pre1.trans p2
 have hq2:=l4 p2 hq1
 have hf2:=l4 p2 hf1
 refine aa4 (aE4 (P6 w) (aG9 w) rfl (e7 (.inl (by rfl)) (e7 (.inl (by rfl)) (e7 (.inl (by rfl)) (e7 (.inl (by rfl)) (c7 (o9 (w4 (b6 rfl rfl (af0 ?_))))))))))
 by_cases hk:k'=0
 · refine o5 (by rw [hk]; decide) ?_
   refine e6 (e6 ?_)
   subst hk
   have Z':=Z.none F
   exact (c5 (y7 q) aF5 (.mk pre2 hq2 hf2 Z' (by have:=aF5 (q:=q) (w:=(alo',ahi',blo',bhi')); exact bO7 le this)))
 refine w9 (by simp [hk]) ?_
 have Z':=Z.some R F hk
 have lt:_ < y7 (q++[(alo',ahi',blo',bhi')]):=cw7 (q:=q) F hk
 have hfl:f.length <= 51:=by exact bO8 le
 refine c7 (q9 (o6 (pl:=fun _=>_) (b6 rfl rfl ((i0 _ (R0 hf2) trivial (c6 (b6 rfl rfl (d9 (Q9 hf2 (by rw [aD]; exact ag hfl (by decide)) ?_)))))))))
 have pre3:=N0 (o:=.list (f.map u5++[u5 (i',j',k')])) pre2 hml
 have hf3:(H2.set ml (.list (f.map u5++[u5 (i',j',k')])))[ml]?=some (.list ((f++[(i',j',k')]).map u5)):=by rw [aQ]; exact o7 hf2
 have hq3:=x9 (o':=.list (f.map u5++[u5 (i',j',k')])) hne.symm hq2
 generalize H2.set ml (.list (f.map u5++[u5 (i',j',k')]))=H3 at pre3 hf3 hq3 ⊢
 refine c7 ?_
 have hl1 : (q ++ C2 alo' blo' i' j').length <= 60 := by rw [aE]; have : (C2 alo' blo' i' j').length <= 1 := by unfold C2; split <;> simp
                                                         exact bO9 hz this
 refine cE2 hqu hne pre3 hq3 hf3 (by exact bP0 hz) fun H4 pre4 hq4 hf4=>(c7 (cE3 hqu hne pre4 hq4 hf4 hl1 fun H5 pre5 hq5 hf5=>(e6 (e6 ?_))))
 exact (c5 _ lt (.mk pre5 hq5 hf5 Z' (by rw [aE]; show f.length+1+_ <= _; rw [Nat.add_right_comm]; exact ag (Nat.add_lt_add_left lt _) le)))
end
end
section
set_option tactic.hygienic false
noncomputable def J4 (N:List Bl) (n:Nat):Prop:=N.length <= n /\ ∀ m∈N,m.2.2≠0
theorem J4.mono {N:List Bl} {n n':Nat} (h:J4 N n) (e:n <= n'):J4 N n':=⟨ag h.1 e,h.2⟩
theorem J4.push {N:List Bl} {n x y z:Nat} (h:J4 N n) (c:z≠0):J4 (N++[(x,y,z)]) (n+1):=⟨by rw [aE]; exact br h.1,fun m hm=>by
 rcases bh.mp hm with q | q
 · exact h.2 m q
 · rw [au.mp q]; exact c⟩
noncomputable def U5 (a b:List Nat) (bs:List Bl):Prop:=bs.length <= 53 /\ ∀ m∈bs,m.2.2=0 -> m.1=a.length /\ m.2.1=b.length
theorem J4.ends {N:List Bl} {a b:List Nat} (h:J4 N 52):U5 a b (N++[(a.length,b.length,0)]):=⟨by rw [aE]; exact br h.1,fun m hm q=>by
 rcases bh.mp hm with e | e
 · exact absurd q (h.2 m e)
 · rw [au.mp e]; exact ⟨rfl,rfl⟩⟩
section
variable {w:World} {E:i7} {H:List O} {d mi:Nat} {a b:List Nat} {ta tb:Nat} {mb oc fc:V} {bj jk pp:Nat} {p:Nat -> Nat} {qu ml na:Nat}
inductive MJ (mi:Nat) (a b:List Nat) (qu ml na:Nat) (H:List O) (g:List Bl):Nat -> b8 -> List O -> Prop
 | mk {H':List O} {n:Nat} {N:List Bl} {m:Bl} {x y z:Int} {alo ahi blo bhi i j k x' i2 j2 k2:Option V} (pre:H<+:H') (hn:H'[na]?=some (.list (N.map z9))) (hf:H'[ml]?=some (.list (g.map u5))) (ex:x=(m.1:Nat)) (ey:y=(m.2.1:Nat)) (ez:z=(m.2.2:Nat)) (C:u0 a b 0 0 (N++m::g.drop n)) (le:J4 N n) :
  MJ mi a b qu ml na H g n (nmB mi (some (.int (a.length:Nat))) (some (.int (b.length:Nat))) (some (.ref qu)) (some (.ref ml)) alo ahi blo bhi i j k x' (some (.int x)) (some (.int y)) (some (.int z)) (some (.ref na)) i2 j2 k2) H'
noncomputable def bk6:List Stmt:=U4 (B3 9 (j0 (c9 5 7)))
noncomputable def cE5:Stmt -> List Stmt
 | .If _ _ y _=>y
 | _=>[]
noncomputable def bk7:List Stmt:=cE5 (B3 0 bk6)
noncomputable abbrev bk8 (mi:Nat) (a b:List Nat) (qu ml na:Nat) (alo ahi blo bhi i j k x':Option V) (m q:Bl):b8:=nmB mi (some (.int (a.length:Nat))) (some (.int (b.length:Nat))) (some (.ref qu)) (some (.ref ml)) alo ahi blo bhi i j k x' (some (.int (m.1:Nat))) (some (.int (m.2.1:Nat))) (some (.int (m.2.2:Nat))) (some (.ref na)) (some (.int (q.1:Nat))) (some (.int (q.2.1:Nat))) (some (.int (q.2.2:Nat)))
theorem bk9 {g:List Bl} {n:Nat} {q m:Bl} {N:List Bl} {H':List O} {alo ahi blo bhi i j k x':Option V} (hgl:n < 51) (hna:H.length <= na) (hne:na≠ml) (pre:H<+:H') (hn:H'[na]?=some (.list (N.map z9))) (hf:H'[ml]?=some (.list (g.map u5))) (C:u0 a b 0 0 (N++m::q::g.drop (n+1))) (le:J4 N n) {Q:Fl -> b8 -> List O -> Prop} (hQ:∀ m H',MJ mi a b qu ml na H g (n+1) m H' -> Q .next m H') :
 WB pP w (KK w.params) (Y0 w) (d+3) (fun _ _ _=>False) (bk8 mi a b qu ml na alo ahi blo bhi i j k x' m q) H' bk7 Q:=by
 obtain ⟨x,y,z⟩:=m
 have le1:=le.1
 have fin:∀ (N':List Bl) (H':List O),H<+:H' -> H'[na]?=some (.list (N'.map z9)) -> H'[ml]?=some (.list (g.map u5)) -> u0 a b 0 0 (N'++q::g.drop (n+1)) -> J4 N' (n+1) -> WB pP w (KK w.params) (Y0 w) (d+3) (fun _ _ _=>False) (bk8 mi a b qu ml na alo ahi blo bhi i j k x' (x,y,z) q) H' (bk7.drop 1) Q:=fun N' H' pre hn hf C le=>by
  refine c7 (M1 (xs:=["i1","j1","k1"]) (ah3 (by rfl) (by rfl) (by rfl)) ?_ (fun env he=>by unfold bR de cJ; rw [he]; rfl))
  refine y5 (c6 (b6 rfl rfl (c6 (b6 rfl rfl (c6 (b6 rfl rfl (d9 ⟨by show 3 <= aB; decide,(G1 rfl ⟨rfl,(e6 ?_)⟩)⟩)))))))
  exact hQ _ _ (.mk pre hn hf rfl rfl rfl C le)
 refine c7 (o9 (w4 (b6 rfl rfl (af0 ?_))))
 by_cases c:z=0
 · refine o5 (by simp [c]) ?_
   subst c
   exact e6 (fin N H' pre hn hf (aF6 C) (le.mono (aY n)))
 · refine w9 (by simp [c]) ?_
   refine c7 (q9 (o6 (pl:=fun _=>_) (b6 rfl rfl ((i0 _ (R0 hn) trivial (c6 (y5 (c6 (b6 rfl rfl (c6 (b6 rfl rfl (c6 (b6 rfl rfl (d9 ⟨by show 3 <= aB; decide,(d9 (Q9 hn (by rw [aD]; exact ag (show N.length <= 51 by exact bP1 hgl le1) (by decide)) (e6 (fin (N++[(x,y,z)]) _ (N0 pre hna) ?_ (x9 hne hf) (by rw [bD]; exact C) (le.push c)))))⟩))))))))))))))
   rw [aQ]; exact o7 hn
theorem cE6 {g:List Bl} {n:Nat} {q:Bl} {m:b8} {H':List O} (hg:g[n]?=some q) (hgl:g.length <= 51) (hna:H.length <= na) (hne:na≠ml) (J:MJ mi a b qu ml na H g n m H') {Q:Fl -> b8 -> List O -> Prop} (hQ:∀ m H',MJ mi a b qu ml na H g (n+1) m H' -> Q .next m H') :
 WB pP w (KK w.params) (Y0 w) (d+3) (fun _ _ _=>False) (w6 (w6 (w6 m "i2" (.int (q.1:Nat))) "j2" (.int (q.2.1:Nat))) "k2" (.int (q.2.2:Nat))) H' bk6 Q:=by
 obtain @⟨H',n,N,⟨x,y,z⟩,x0,y0,z0,alo,ahi,blo,bhi,i,j,k,x',i2,j2,k2,pre,hn,hf,ex,ey,ez,C,le⟩:=J
 subst ex ey ez
 obtain ⟨x2,y2,z2⟩:=q
 dsimp only at C ⊢
 have hlt:=(ae.mp hg).1
 have eg:g.drop n=(x2,y2,z2)::g.drop (n+1):=by rw [cW hlt,(ae.mp hg).2]
 rw [eg] at C
 refine c7 (o9 (B9 (l6 (g8 (b6 rfl rfl (b6 rfl rfl (s8 (b6 rfl rfl (az8 (i9 ?_))))))))))
 by_cases c1:x+z=x2
 case neg =>
  refine E6 (fun q=>c1 (Int.ofNat_inj.mp (by simpa using q))) (o5 (by decide) ?_)
  exact bk9 (by exact aR1 hgl hlt) hna hne pre hn hf C le fun m H' J=>e6 (hQ m H' J)
 refine D4 (by simp; omega) (T8 (l6 (g8 (b6 rfl rfl (b6 rfl rfl (s8 (b6 rfl rfl (az8 (i9 ?_)))))))))
 by_cases c2:y+z=y2
 case neg =>
  refine o5 (fun q=>c2 (Int.ofNat_inj.mp (by simpa using q))) ?_
  exact bk9 (by exact aR1 hgl hlt) hna hne pre hn hf C le fun m H' J=>e6 (hQ m H' J)
 refine w9 (by simp; omega) ?_
 subst c1 c2
 refine c7 (af7 (.inl rfl) rfl (b6 rfl rfl (aU8 (e6 (e6 ?_)))))
 exact hQ _ _ (.mk (m:=(x,y,z+z2)) pre hn hf rfl rfl rfl (bf7 C) (le.mono (aY n)))
end
end
section
set_option tactic.hygienic false
theorem cE7 (w:World):fG (KK w.params) (.ref 135) "__len__"=some (some (.builtin "tuple.__len__")):=by kernel_rfl
theorem cE8 (w:World):findCls (KK w.params) (.ref 135) (.type "type") "_make"=some (.get (.builtin "classmethod.__get__") (.ref 91) .none (.ref 135)):=by kernel_rfl
theorem cE9 (w:World):recIn (KK w.params) 91 "classmethod"=some [.ref 89,.bool false]:=by kernel_rfl
section
theorem cF0 {w:World} {E:i7} {H:List O} {d:Nat} {m:Bl}:ag6 pP w (KK w.params) (d+1) E H (.st 89) [.st 135,z9 m] fun y H''=>y=u5 m /\ H''=H:=by
 refine cq8 (cy0 w) (by rfl) (by rfl) ?_
 have e:r0 (i6 (c9 3 5)) ["cls","iterable"] [.st 135,z9 m]=[nv "cls" (.st 135),nv "iterable" (z9 m),nn "result"]:=by rfl
 rw [e]
 refine c7 (q9 (j7 (c7 (l7 (bc9 (pl:=fun _=>_) (M0 rfl (bi5 _) bi6 ((i0 _ bd0 trivial (c6 (b6 rfl rfl (c6 (b6 rfl rfl (d9 (bc8 (P6 w) (by show 3 <= aB; decide) (e7 (.inl rfl) (c7 (o9 (l6 (n7 (A5 rfl (D9 _) E0 ⟨trivial,c6 (b6 rfl rfl (d9 (ct8 (P6 w) (cE7 w) (by show 3 <= aB; decide) (j9 (aV1 (i9 (o5 (by simp) (e6 (c7 (E5 (b6 rfl rfl ?_)))))))))))⟩))))))))))))))))))))
 exact ⟨rfl,rfl⟩
end
noncomputable def i8 (H H':List O) (mi:Nat):Prop:=∀ i o,i≠mi -> H[i]?=some o -> H'[i]?=some o
theorem i8.pre {H H':List O} (h:H<+:H') (mi:Nat):i8 H H' mi:=fun i o _ e=>l4 h e
theorem i8.set {H H':List O} {mi:Nat} (h:i8 H H' mi) (o:O):i8 H (H'.set mi o) mi:=fun i o' hi e=>x9 (cP hi) (h i o' hi e)
theorem i8.trans {H H' H'':List O} {mi:Nat} (h:i8 H H' mi) (g:i8 H' H'' mi):i8 H H'' mi:=fun i o hi e=>g i o hi (h i o hi e)
noncomputable def N1 (H:List O) (a b:List Nat) (mb:V):Prop:=mb=.none \/ ∃ x bs,mb=.ref x /\ H[x]?=some (.list (bs.map u5)) /\ u0 a b 0 0 bs /\ U5 a b bs
theorem ab8 {fi:FI} {x y:Str} (hx:fi.sc.names.lookup x=some .local) (hy:fi.sc.names.lookup y=some .local):∀ u∈[x,y],O6 fi u:=fun u hu=>by
 rcases aJ.mp hu with rfl | hu
 · exact .inl hx
 · rw [au.mp hu]; exact .inl hy
section
variable {w:World} {E:i7} {H:List O} {d mi:Nat} {a b:List Nat} {ta tb:Nat} {mb oc fc:V} {bj jk pp:Nat} {p:Nat -> Nat} {Q:V -> List O -> Prop}
theorem r8.put {H':List O} {mb' oc' fc':V} (S0:r8 w H mi a b ta tb mb oc fc bj jk pp p) (h:i8 H H' mi) (h1:H'[mi]?=some (.inst 242 (B2 (.stk (S a) ta) (.stk (S b) tb) mb' oc' fc' (.ref bj) (.ref jk) (.ref pp)))):r8 w H' mi a b ta tb mb' oc' fc' bj jk pp p:=by
 have ne:∀ {i:Nat} {o:O},H[i]?=some o -> (∀ C fs,o≠.inst C fs) -> i≠mi:=fun e hn q=>by
  subst q; rw [S0.o] at e; cases e; exact hn _ _ rfl
 exact ⟨h1,h _ _ (ne S0.d fun _ _ q=>nomatch q) S0.d,fun j hj=>h _ _ (ne (S0.l j hj) fun _ _ q=>nomatch q) (S0.l j hj),h _ _ (ne S0.s fun _ _ q=>nomatch q) S0.s⟩
theorem cF1 {f:List Bl} {ts:List T3} (h:ts.Perm (f.map tI)):∃ g:List Bl,g.Perm f /\ ts=g.map tI:=by
 refine (c5 (ts.map fun t=>(t.1.toNat,t.2.1.toNat,t.2.2.toNat)) ?_ ?_)
 · have:=h.map fun t:T3=>(t.1.toNat,t.2.1.toNat,t.2.2.toNat)
   rw [bu] at this
   rwa [show ((fun t:T3=>(t.1.toNat,t.2.1.toNat,t.2.2.toNat))∘tI)=id from funext fun m=>rfl,List.map_id] at this
 · rw [bu]
   have:∀ t∈ts,(tI∘fun t:T3=>(t.1.toNat,t.2.1.toNat,t.2.2.toNat)) t=t:=fun t ht=>by
    (refine b9 (aV.mp (h.mem_iff.mp ht)) fun m _ qz1=>?_; subst qz1)
    rfl
   rw [List.map_congr_left this]
   exact (List.map_id _).symm
theorem aH1 {f:List Bl} {i:Nat} (h:i < f.length):t9 (f.map tI) i=tI f[i]:=by
 unfold t9
 rw [bo,aU,aq h]; rfl
theorem cF2 {q:List Wd} {f:List Bl} (Z:K7 a b q f) {i j:Nat} (hi:i < f.length) (hj:j < f.length) (e:f[i].1=f[j].1):i=j:=by
 have ap:=(dW.mp Z.ap).1
 have key:∀ i j (hi:i < f.length) (hj:j < f.length),i < j -> f[i].1=f[j].1 -> False:=fun i j hi hj hij e=>by
  have:=iu.mp ap i j (by simpa using hi) (by simpa using hj) hij
  rw [List.getElem_map,List.getElem_map] at this
  have h1:=(Z.d _ (dG hi)).2
  have h2:=(Z.d _ (dG hj)).2
  exact this.elim (fun q=>bN.mpr q (Nat.lt_of_le_of_lt (Nat.le_of_eq e.symm) (Nat.lt_add_of_pos_right (Nat.pos_of_ne_zero h1)))) fun q=>bN.mpr q (Nat.lt_of_le_of_lt (Nat.le_of_eq e) (Nat.lt_add_of_pos_right (Nat.pos_of_ne_zero h2)))
 rcases Nat.lt_trichotomy i j with q | q | q
 · exact (key i j hi hj q e).elim
 · exact q
 · exact (key j i hj hi q e.symm).elim
noncomputable def ap5:V -> V
 | .tup xs=>.sub 135 xs
 | v=>v
theorem bl0 (S0:r8 w H mi a b ta tb mb oc fc bj jk pp p) (hla:a.length <= 25) {qu ml na:Nat} {N:List Bl} {H':List O} {alo ahi blo bhi i j k x i1 j1 k1 i2 j2 k2:Option V} (pre:H<+:H') (hn:H'[na]?=some (.list (N.map z9))) (hna:H.length <= na) (hN:J4 N 52) (C:u0 a b 0 0 N)
 (h:∀ H' x bs,(mb=.ref x \/ H.length <= x) -> i8 H H' mi -> r8 w H' mi a b ta tb (.ref x) oc fc bj jk pp p -> H'[x]?=some (.list (bs.map u5)) -> u0 a b 0 0 bs -> U5 a b bs -> Q (.ref x) H') :
 WB pP w (KK w.params) (Y0 w) (d+4) (fun _ _ _=>False) (nmB mi (some (.int (a.length:Nat))) (some (.int (b.length:Nat))) (some (.ref qu)) (some (.ref ml)) alo ahi blo bhi i j k x i1 j1 k1 (some (.ref na)) i2 j2 k2) H' ((j0 (c9 5 7)).drop 11) (KFn Q):=by
 refine c7 (q9 (o6 (pl:=fun _=>_) (b6 rfl rfl ⟨_,R0 hn,trivial,(c6 (y5 (c6 (b6 rfl rfl (c6 (b6 rfl rfl (c6 (j9 (d9 ⟨by show 3 <= aB; decide,(d9 (Q9 hn (by rw [aD]; exact ag hN.1 (by decide)) ?_))⟩)))))))))⟩)))
 have pre1:=N0 (o:=.list (N.map z9++[z9 (a.length,b.length,0)])) pre hna
 have hn1:(H'.set na (.list (N.map z9++[z9 (a.length,b.length,0)])))[na]?=some (.list ((N++[(a.length,b.length,0)]).map z9)):=by rw [o7 hn,aQ]; rfl
 have C1:=bf8 C
 have hN1:U5 a b (N++[(a.length,b.length,0)]):=hN.ends
 show WB _ _ _ _ _ _ _ (H'.set na (.list (N.map z9++[z9 (a.length,b.length,0)]))) _ _
 generalize H'.set na (.list (N.map z9++[z9 (a.length,b.length,0)]))=H1 at pre1 hn1 ⊢
 generalize N++[(a.length,b.length,0)]=bs at hn1 C1 hN1
 refine c7 (l7 (n7 (M0 rfl (bi1 _) bi2 ⟨trivial,c6 (n7 (M0 rfl (cA6 _) cA7 ⟨trivial,c6 (r6 (I0 rfl (bh6 _) (cq9 (P6 w) (cE8 w) (cE9 w) (c6 (b6 rfl rfl (d9 (cs2 (s6 hn1) ?_)))))))⟩))⟩)))
 have nlt:na < H1.length:=(ae.mp hn1).1
 obtain ⟨H3,e3⟩:∃ H3,H3=H1++[M8 89 135]++[y6 na 0]++[R7 (H1++[M8 89 135]).length H1.length]:=⟨_,rfl⟩
 have l2:(H1++[M8 89 135]).length=H1.length+1:=by rw [aE]; rfl
 rw [<- e3,l2]
 rw [l2] at e3
 have p3:H1<+:H3:=by rw [e3]; exact J3 (J3 (aF _ _))
 have qi:H3[H1.length+1]?=some (y6 na 0):=by rw [e3,<- l2]; exact s6 af
 have qm:H3[H1.length+1+1]?=some (R7 (H1.length+1) H1.length):=by rw [e3,show H1.length+1+1=(H1++[M8 89 135]++[y6 na 0]).length by rw [aE,l2]; rfl]; exact af
 have qj:H3[H1.length]?=some (M8 89 135):=by rw [e3]; exact s6 (s6 af)
 have l3:H1.length+1 < H3.length:=(ae.mp qi).1
 clear e3
 refine d9 (cs8 (f:=89) (C:=135) (l:=na) (g:=ap5) qi qm qj (l4 p3 hn1) (by exact bP2) (by exact bP3 nlt l2) (by exact aQ8) (by rw [aD]; exact ag hN1.1 (by decide)) (fun x hx H'=>?_) ?_)
 · (refine b9 (aV.mp hx) fun m _ qz2=>?_; subst qz2)
   exact cF0
 have p4:H<+:H3.set (H1.length+1) X5:=N0 (pre1.trans p3) (cj pre1.length_le)
 have q4:(H3.set (H1.length+1) X5++[O.list ((bs.map z9).map ap5)])[H3.length]?=some (.list (bs.map u5)):=by
  rw [show H3.length=(H3.set (H1.length+1) X5).length by rw [bH],af,bu]; rfl
 have p5:=J3 (o:=O.list ((bs.map z9).map ap5)) p4
 have l5:H.length <= H3.length:=(pre1.trans p3).length_le
 generalize H3.set (H1.length+1) X5++[O.list ((bs.map z9).map ap5)]=H4 at p5 q4 ⊢
 generalize H3.length=x0 at q4 l5 ⊢
 have S4:=S0.mono p5
 refine B0 (b6 rfl rfl (A8 (j6 w) (ab4 w) ab3 S4.o (by show 10 <= aB; decide) ?_))
 have kx:=(i8.pre p5 mi).set (.inst 242 (k7 (B2 (.stk (S a) ta) (.stk (S b) tb) mb oc fc (.ref bj) (.ref jk) (.ref pp)) "matching_blocks" (.ref x0)))
 have ox:(H4.set mi (.inst 242 (k7 (B2 (.stk (S a) ta) (.stk (S b) tb) mb oc fc (.ref bj) (.ref jk) (.ref pp)) "matching_blocks" (.ref x0))))[mi]?=some (.inst 242 (B2 (.stk (S a) ta) (.stk (S b) tb) (.ref x0) oc fc (.ref bj) (.ref jk) (.ref pp))):=o7 S4.o
 have lx:(H4.set mi (.inst 242 (k7 (B2 (.stk (S a) ta) (.stk (S b) tb) mb oc fc (.ref bj) (.ref jk) (.ref pp)) "matching_blocks" (.ref x0))))[x0]?=some (.list (bs.map u5)):=x9 (bI (aW (ae.mp S0.o).1 l5)) q4
 generalize H4.set mi _=H5 at kx ox lx ⊢
 have S5:=S0.put kx ox
 refine c7 (E5 (r6 (b6 rfl rfl (E7 (j6 w) (ab4 w) ab3 S5.o (by rfl) (by intro _ q; cases q) ?_))))
 skip
 exact h _ x0 bs (.inr l5) kx S5 lx C1 hN1
theorem bl1 (R:Rows a b) (S0:r8 w H mi a b ta tb mb oc fc bj jk pp p) (hmb:N1 H a b mb) (ha:a.length <= 25) (hb:b.length <= 25) (h:∀ H' x bs,(mb=.ref x \/ H.length <= x) -> i8 H H' mi -> r8 w H' mi a b ta tb (.ref x) oc fc bj jk pp p -> H'[x]?=some (.list (bs.map u5)) -> u0 a b 0 0 bs -> U5 a b bs -> Q (.ref x) H') :
 i5 pP w (KK w.params) (d+5) E H (.st 203) [.ref mi] Q:=by
 refine E3 (cz1 w) (by rfl) (by rfl) ?_
 have e:r0 (i6 (c9 5 7)) ["self"] [.ref mi]=nmB mi none none none none none none none none none none none none none none none none none none none:=by rfl
 rw [e]
 refine c7 (q9 (j7 (c7 (o9 (l6 (r6 (b6 rfl rfl (E7 (j6 w) (ab4 w) ab3 S0.o (by rfl) (by rcases hmb with rfl | ⟨x,bs,rfl,_⟩<;>(intro _ q; cases q)) (O5 ?_)))))))))
 rcases hmb with rfl | ⟨x,bs,rfl,hx,hC,hl⟩
 case inr =>
  refine an4 (b:=false) rfl (i9 (w9 rfl (c7 (E5 (r6 (b6 rfl rfl (E7 (j6 w) (ab4 w) ab3 S0.o (by rfl) (by intro _ q; cases q) ?_)))))))
  skip
  exact h H x bs (.inl rfl) (.pre (az _) _) S0 hx hC hl
 refine an4 (b:=true) rfl (i9 (o5 (by decide) (e6 (c7 (M1 (xs:=["la","lb"]) (ab8 (by rfl) (by rfl)) ?_ (fun env he=>by unfold bR de cJ; rw [he]; rfl))))))
 refine y5 (c6 (n7 (A5 rfl (D9 _) E0 ⟨trivial,c6 (r6 (b6 rfl rfl (L1 (j6 w) (R9 w) R8 S0.o (by rfl) (d9 (F9 (by rw [j5]; exact ag ha (by decide)) ?_)))))⟩)))
 rw [j5]
 refine c6 (n7 (A5 rfl (D9 _) E0 ⟨trivial,c6 (r6 (b6 rfl rfl (L1 (j6 w) (P8 w) P7 S0.o (by rfl) (d9 (F9 (by rw [j5]; exact ag hb (by decide)) ?_)))))⟩))
 rw [j5]
 refine d9 ⟨by show 2 <= aB; decide,(G1 rfl ⟨rfl,(c7 (l7 (G3 (c6 (y5 (c6 (j9 (c6 (b6 rfl rfl (c6 (j9 (c6 (b6 rfl rfl (d9 ⟨by show 4 <= aB; decide,(d9 ⟨by show 1 <= aB; decide,(e7 (.inl rfl) (c7 (l7 (G3 (d9 ⟨by show 0 <= aB; decide,(e7 (.inl (by rfl)) (c7 ?_))⟩)))))⟩)⟩))))))))))))))⟩)⟩
 have Z:=K7.start a b
 refine cE4 (d:=d+1) R S0 ha hb (qu:=H.length) (ml:=(H++[O.list [L2 (0,a.length,0,b.length)]]).length) (ao _) (by rw [aE]; exact bd _ _) (by rw [aE]; exact bI (cK _)) (.mk (q:=[(0,a.length,0,b.length)]) (f:=[]) (J3 (aF _ _)) (s6 af) af Z (by unfold y7; simp; exact bP4 ha)) fun m H' J=>?_
 have hml:H.length < (H++[O.list [L2 (0,a.length,0,b.length)]]).length:=by rw [aE]; exact cK _
 generalize (H++[O.list [L2 (0,a.length,0,b.length)]]).length=ml at J hml
 obtain ⟨z,hz,J⟩:∃ z,(0:Nat)=z /\ GJ mi a b H.length ml H z m H':=⟨_,rfl,J⟩
 obtain @⟨H',q,f,alo,ahi,blo,bhi,i,j,k,x,pre,hq,hf,Z,le⟩:=J
 have hq0:q=[]:=dl.mp (Nat.le_zero.mp (hz▸aH0 q))
 subst hq0
 have hfl:f.length <= 51:=ag (bd _ _) le
 have hf':H'[ml]?=some (.list ((f.map tI).map (K3 135))):=by rw [bu]; exact hf
 refine c7 (q9 (o6 (pl:=fun _=>_) (b6 rfl rfl ((i0 _ (aZ9 PySem.F.slot_list_sort PySem.F.type_list_sort hf') trivial (d9 (cp8 (P6 w) (sub_lt w) hf' (by rw [aD]; exact bP5 hfl) (fun i hi=>?_) (fun i j hi hj e=>?_) fun ts hp hs=>?_)))))))
 · rw [aD] at hi
   rw [aH1 hi]; exact bK _
 · rw [aD] at hi hj
   rw [aH1 hi,aH1 hj] at e
   exact cF2 Z hi hj (Int.ofNat_inj.mp e)
 (refine b9 (cF1 hp) fun g hg qz3=>?_; subst qz3)
 rw [du] at hs
 have C:=cw8 R Z hg (hs.imp fun h=>aO.mp h)
 have pre1:=N0 (o:=.list ((g.map tI).map (K3 135))) pre (Nat.le_of_lt hml)
 have hf1:(H'.set ml (.list ((g.map tI).map (K3 135))))[ml]?=some (.list (g.map u5)):=by rw [o7 hf,bu]; rfl
 generalize H'.set ml (.list ((g.map tI).map (K3 135)))=H1 at pre1 hf1 ⊢
 have hgl:g.length <= 51:=by rw [hg.length_eq]; exact hfl
 clear hf hf' hq pre hp hs Z
 refine c7 (cq7 (j9 (e7 (.inl rfl) (e7 (.inl rfl) (e7 (.inl rfl) (c7 (l7 (G3 (d9 ⟨by show 0 <= aB; decide,(e7 (.inl rfl) (c7 ?_))⟩)))))))))
 have pre2:=J3 (o:=O.list []) pre1
 have hf2:(H1++[O.list []])[ml]?=some (.list (g.map u5)):=s6 hf1
 have hn2:(H1++[O.list []])[H1.length]?=some (.list (([]:List Bl).map z9)):=af
 have hna:H.length <= H1.length:=pre1.length_le
 have hne:H1.length≠ml:=fun q=>by rw [<- q] at hf1; simp at hf1
 generalize H1++[O.list []]=H2 at pre2 hf2 hn2 ⊢
 generalize H1.length=na at hna hne hn2 ⊢
 clear hf1 pre1
 refine X2 (b6 rfl rfl ((L7 _ _ (O8 (.inl hf2)) (fun n m H'=>MJ mi a b H.length ml na H g n m H') (.mk (N:=[]) (m:=(0,0,0)) pre2 hn2 hf2 rfl rfl rfl (cw9 C) ⟨ao _,fun _ h=>nomatch h⟩) ?_ ?_ ?_)))
 · (intro n m H'; intro qz4; obtain ⟨_,_,hf,_⟩:=qz4)
   exact .inl hf
 · intro n x m H' hx J
   rw [aU] at hx
   (refine b9 (bp.mp hx) fun q hq qz5=>?_; subst qz5)
   refine aa4 (aE4 (P6 w) (aG9 w) rfl (e7 (.inl (by rfl)) (e7 (.inl (by rfl)) (e7 (.inl (by rfl)) ?_))))
   exact cE6 (d:=d+1) hq hgl hna hne J fun m H' J=>J
 · intro m H' J
   rw [aD] at J
   obtain ⟨n,hn0,J⟩:∃ n,g.length=n /\ MJ mi a b H.length ml na H g n m H':=⟨_,rfl,J⟩
   obtain @⟨H',n,N,⟨x,y,z⟩,x0,y0,z0,alo,ahi,blo,bhi,i,j,k,x',i2,j2,k2,pre,hn,hf,ex,ey,ez,C',le'⟩:=J
   subst ex ey ez
   rw [gu (Nat.le_of_eq hn0)] at C'
   dsimp only
   have le2:J4 N 51:=le'.mono (hn0▸hgl)
   refine c7 (o9 (w4 (b6 rfl rfl (af0 ?_))))
   by_cases c:z=0
   · refine o5 (by simp [c]) ?_
     subst c
     exact e6 (bl0 (d:=d) S0 ha pre hn hna (le2.mono (by decide)) (by have:=aF6 C'; rwa [bg] at this) h)
   · refine w9 (by simp [c]) ?_
     refine c7 (q9 (o6 (pl:=fun _=>_) (b6 rfl rfl ((i0 _ (R0 hn) trivial (c6 (y5 (c6 (b6 rfl rfl (c6 (b6 rfl rfl (c6 (b6 rfl rfl (d9 ⟨by show 3 <= aB; decide,(d9 (Q9 hn (by rw [aD]; exact ag le2.1 (by decide)) (e6 (bl0 (d:=d) (N:=N++[(x,y,z)]) S0 ha (N0 pre hna) ?_ hna (le2.push c) C' h))))⟩))))))))))))))
     rw [aQ]; exact o7 hn
end
end
section
set_option tactic.hygienic false
noncomputable abbrev Op:=Str×Nat×Nat×Nat×Nat
noncomputable def y8 (i x j y:Nat):Str:=if i < x then (if j < y then "replace" else "delete") else if j < y then "insert" else ""
noncomputable def P9 (i j:Nat) (m:Bl):List Op:=(if y8 i m.1 j m.2.1≠("":Str) then [(y8 i m.1 j m.2.1,i,m.1,j,m.2.1)] else [])++(if m.2.2≠0 then [(("equal":Str),m.1,m.1+m.2.2,m.2.1,m.2.1+m.2.2)] else [])
noncomputable def u6:Nat -> Nat -> List Bl -> List Op
 | _,_,[]=>[]
 | i,j,m::r=>P9 i j m++u6 (m.1+m.2.2) (m.2.1+m.2.2) r
noncomputable abbrev S6 (o:Op):V:=.tup [.str o.1,.int (o.2.1:Nat),.int (o.2.2.1:Nat),.int (o.2.2.2.1:Nat),.int (o.2.2.2.2:Nat)]
noncomputable def ah4 (H:List O) (a b:List Nat) (oc:V):Prop:=oc=.none \/ ∃ an bs,oc=.ref an /\ H[an]?=some (.list ((u6 0 0 bs).map S6)) /\ u0 a b 0 0 bs /\ U5 a b bs
theorem cF3 (i j:Nat) (m:Bl):(P9 i j m).length <= 2:=by
 unfold P9
 rw [aE]
 split<;>split<;>simp
noncomputable abbrev nmC (mi:Nat) (i j an ai bj size tag:Option V):b8:=[nv "self" (.ref mi),("i",i),("j",j),("answer",an),("ai",ai),("bj",bj),("size",size),("tag",tag)]
noncomputable abbrev fiC (w:World):FI:=⟨i6 (c9 5 8),true,(q8 (Y4 w.params)).code⟩
section
variable {w:World} {E:i7} {H:List O} {d mi an:Nat} {bs:List Bl}
inductive CJ (mi an:Nat) (H:List O) (bs:List Bl) (n:Nat):b8 -> List O -> Prop
 | mk {H':List O} {i j:Nat} {x y:Int} {A:List Op} {ai bj size tag:Option V} (kx:i8 H H' an) (ha:H'[an]?=some (.list (A.map S6))) (ex:x=(i:Nat)) (ey:y=(j:Nat)) (eq:A++u6 i j (bs.drop n)=u6 0 0 bs) (le:A.length <= 2*n) :
  CJ mi an H bs n (nmC mi (some (.int x)) (some (.int y)) (some (.ref an)) ai bj size tag) H'
noncomputable def ap7:List Stmt:=U4 (B3 4 (j0 (c9 5 8)))
noncomputable abbrev ap8 (mi:Nat) (i j:Nat) (an:Nat) (q:Bl) (tag:Str):b8:=nmC mi (some (.int (i:Nat))) (some (.int (j:Nat))) (some (.ref an)) (some (.int (q.1:Nat))) (some (.int (q.2.1:Nat))) (some (.int (q.2.2:Nat))) (some (.str tag))
theorem cF4 {i j:Nat} {q:Bl} {H':List O} {Q:Fl -> b8 -> List O -> Prop} (hQ:Q .next (ap8 mi i j an q (y8 i q.1 j q.2.1)) H'):WS pP w (KK w.params) (fiC w) d (fun _ _ _=>False) (ap8 mi i j an q "") H' (B3 1 ap7) Q:=by
 obtain ⟨x,y,z⟩:=q
 dsimp only at hQ ⊢
 refine o9 (B9 (l6 (b6 rfl rfl (b6 rfl rfl (F8 (i9 ?_))))))
 by_cases c1:i < x
 · refine D4 (decide_eq_true (aO.mpr c1)) ?_
   refine T8 (l6 (b6 rfl rfl (b6 rfl rfl (F8 (i9 ?_)))))
   by_cases c2:j < y
   · refine w9 (decide_eq_true (aO.mpr c2)) ?_
     refine c7 (l7 (j7 (e7 (.inl rfl) (e6 ?_))))
     rw [show y8 i x j y="replace" by unfold y8; rw [if_pos c1,if_pos c2]] at hQ
     exact hQ
   · refine o5 (fun q=>c2 (aO.mp (of_decide_eq_true q))) ?_
     refine c7 (o9 (l6 (b6 rfl rfl (b6 rfl rfl (F8 (i9 (w9 (decide_eq_true (aO.mpr c1)) (c7 (l7 (j7 (e7 (.inl rfl) (e6 (e6 ?_)))))))))))))
     rw [show y8 i x j y="delete" by unfold y8; rw [if_pos c1,if_neg c2]] at hQ
     exact hQ
 · refine E6 (fun q=>c1 (aO.mp (of_decide_eq_true q))) (o5 (by decide) ?_)
   refine c7 (o9 (l6 (b6 rfl rfl (b6 rfl rfl (F8 (i9 (o5 (fun q=>c1 (aO.mp (of_decide_eq_true q))) (c7 (o9 (l6 (b6 rfl rfl (b6 rfl rfl (F8 (i9 ?_))))))))))))))
   by_cases c2:j < y
   · refine w9 (decide_eq_true (aO.mpr c2)) ?_
     refine c7 (l7 (j7 (e7 (.inl rfl) (e6 (e6 (e6 ?_))))))
     rw [show y8 i x j y="insert" by unfold y8; rw [if_neg c1,if_pos c2]] at hQ
     exact hQ
   · refine o5 (fun q=>c2 (aO.mp (of_decide_eq_true q))) ?_
     refine e6 (e6 (e6 ?_))
     rw [show y8 i x j y="" by unfold y8; rw [if_neg c1,if_neg c2]] at hQ
     exact hQ
theorem cF5 (i x j y:Nat):((y8 i x j y).length !=0)=decide (y8 i x j y≠("":Str)):=by
 unfold y8
 split<;>split<;>decide
theorem cF6 {i j n:Nat} {q:Bl} {H':List O} {A:List Op} (hl:n < 53) (kx:i8 H H' an) (ha:H'[an]?=some (.list (A.map S6))) (eq:A++(P9 i j q++u6 (q.1+q.2.2) (q.2.1+q.2.2) (bs.drop (n+1)))=u6 0 0 bs) (le:A.length <= 2*n) {Q:Fl -> b8 -> List O -> Prop} (hQ:∀ m H',CJ mi an H bs (n+1) m H' -> Q .next m H') :
 WB pP w (KK w.params) (fiC w) d (fun _ _ _=>False) (ap8 mi i j an q (y8 i q.1 j q.2.1)) H' (ap7.drop 2) Q:=by
 obtain ⟨x,y,z⟩:=q
 dsimp only at eq ⊢
 have hz:A.length <= 106:=by exact bP6 hl le
 have rest:∀ (H':List O) (A':List Op),i8 H H' an -> H'[an]?=some (.list (A'.map S6)) -> A'.length <= 2*n+1 -> A'++((if z≠0 then [(("equal":Str),x,x+z,y,y+z)] else [])++u6 (x+z) (y+z) (bs.drop (n+1)))=u6 0 0 bs -> WB pP w (KK w.params) (fiC w) d (fun _ _ _=>False) (ap8 mi i j an (x,y,z) (y8 i x j y)) H' (ap7.drop 3) Q:=fun H' A' kx ha le eq=>by
  refine c7 (M1 (xs:=["i","j"]) (ab8 (by rfl) (by rfl)) ?_ (fun env he=>by unfold bR de cJ; rw [he]; rfl))
  refine y5 (c6 (g8 (b6 rfl rfl (b6 rfl rfl (s8 (c6 (g8 (b6 rfl rfl (b6 rfl rfl (s8 (d9 ⟨by show 2 <= aB; decide,(G1 rfl ⟨rfl,(c7 (o9 (w4 (b6 rfl rfl (af0 ?_)))))⟩)⟩)))))))))))
  by_cases c:z=0
  · refine o5 (by simp [c]) ?_
    refine e6 (e6 ?_)
    rw [if_neg (fun q=>q c),gi] at eq
    exact hQ _ _ (.mk (i:=x+z) (j:=y+z) kx ha rfl rfl eq (by exact bP7 le))
  · refine w9 (by simp [c]) ?_
    refine c7 (q9 (o6 (pl:=fun _=>_) (b6 rfl rfl ((i0 _ (R0 ha) trivial (c6 (y5 (c6 (j7 (c6 (b6 rfl rfl (c6 (b6 rfl rfl (c6 (b6 rfl rfl (c6 (b6 rfl rfl (d9 ⟨by show 5 <= aB; decide,(d9 (Q9 ha (by rw [aD]; exact ag (show A'.length <= 107 by exact bP8 hl le) (by decide)) (e6 (e6 ?_))))⟩))))))))))))))))))
    rw [if_pos c,<- bD] at eq
    exact hQ _ _ (.mk (i:=x+z) (j:=y+z) (A:=A'++[(("equal":Str),x,x+z,y,y+z)]) (kx.set _) (by rw [aQ]; exact o7 ha) rfl rfl eq (by rw [aE]; show A'.length+1 <= _; exact bP9 le))
 refine c7 (o9 (w4 (b6 rfl rfl (Q8 (by unfold y8; split<;>split<;>decide) ?_))))
 rw [cF5]
 by_cases c:y8 i x j y=("":Str)
 · refine o5 (by simp [c]) ?_
   refine e6 (rest H' A kx ha (by exact bQ0 le) ?_)
   unfold P9 at eq
   dsimp only at eq
   rw [if_neg (fun q=>q c),gi] at eq
   exact eq
 · refine w9 (decide_eq_true c) ?_
   refine c7 (q9 (o6 (pl:=fun _=>_) (b6 rfl rfl ((i0 _ (R0 ha) trivial (c6 (y5 (c6 (b6 rfl rfl (c6 (b6 rfl rfl (c6 (b6 rfl rfl (c6 (b6 rfl rfl (c6 (b6 rfl rfl (d9 ⟨by show 5 <= aB; decide,(d9 (Q9 ha (by rw [aD]; exact ag hz (by decide)) (e6 (rest _ (A++[(y8 i x j y,i,x,j,y)]) (kx.set _) (by rw [aQ]; exact o7 ha) (by rw [aE]; exact br le) ?_))))⟩))))))))))))))))))
   unfold P9 at eq
   dsimp only at eq
   rw [if_pos c] at eq
   simpa only [bD] using eq
theorem cF7 {n:Nat} {q:Bl} {m:b8} {H':List O} (hg:bs[n]?=some q) (hl:bs.length <= 53) (J:CJ mi an H bs n m H') {Q:Fl -> b8 -> List O -> Prop} (hQ:∀ m H',CJ mi an H bs (n+1) m H' -> Q .next m H') :
 WB pP w (KK w.params) (fiC w) d (fun _ _ _=>False) (w6 (w6 (w6 m "ai" (.int (q.1:Nat))) "bj" (.int (q.2.1:Nat))) "size" (.int (q.2.2:Nat))) H' ap7 Q:=by
 obtain @⟨H',i,j,x,y,A,ai,bj,size,tag,kx,ha,ex,ey,eq,le⟩:=J
 subst ex ey
 obtain ⟨x2,y2,z2⟩:=q
 dsimp only
 have hlt:=(ae.mp hg).1
 have eg:bs.drop n=(x2,y2,z2)::bs.drop (n+1):=by rw [cW hlt,(ae.mp hg).2]
 rw [eg] at eq
 refine c7 (l7 (j7 (e7 (.inl (by rfl)) (c7 (cF4 (q:=(x2,y2,z2)) ?_)))))
 exact cF6 (by exact bQ1 hl hlt) kx ha eq le hQ
end
end
section
set_option tactic.hygienic false
section
variable {w:World} {E:i7} {H:List O} {d mi:Nat} {a b:List Nat} {ta tb:Nat} {mb oc fc:V} {bj jk pp:Nat} {p:Nat -> Nat} {Q:V -> List O -> Prop}
theorem r8.lt (S0:r8 w H mi a b ta tb mb oc fc bj jk pp p):mi < H.length /\ bj < H.length /\ jk < H.length /\ ∀ j,j < b.length -> p j < H.length :=
 (m5 ((ae.mp S0.o).1) ((ae.mp S0.d).1) ((ae.mp S0.s).1) (fun j hj=>(ae.mp (S0.l j hj)).1))
theorem r8.kp {H':List O} {an n:Nat} (S0:r8 w H mi a b ta tb mb oc fc bj jk pp p) (h:i8 H H' an) (h1:mi < n /\ bj < n /\ jk < n /\ ∀ j,j < b.length -> p j < n) (hn:n <= an):r8 w H' mi a b ta tb mb oc fc bj jk pp p :=
 ⟨h _ _ (bI (aW h1.1 hn)) S0.o,h _ _ (bI (aW h1.2.1 hn)) S0.d,fun j hj=>h _ _ (by have:=h1.2.2.2 j hj; exact bQ2 hn this) (S0.l j hj),h _ _ (bI (aW h1.2.2.1 hn)) S0.s⟩
theorem cF8 (R:Rows a b) (S0:r8 w H mi a b ta tb mb oc fc bj jk pp p) (hmb:N1 H a b mb) (hoc:ah4 H a b oc) (ha:a.length <= 25) (hb:b.length <= 25)
 (h:∀ H' mb' an bs,i8 H H' mi -> r8 w H' mi a b ta tb mb' (.ref an) fc bj jk pp p -> N1 H' a b mb' -> H'[an]?=some (.list ((u6 0 0 bs).map S6)) -> u0 a b 0 0 bs -> U5 a b bs -> Q (.ref an) H') :
 i5 pP w (KK w.params) (d+6) E H (.st 210) [.ref mi] Q:=by
 refine E3 (cz2 w) (by rfl) (by rfl) ?_
 have e:r0 (i6 (c9 5 8)) ["self"] [.ref mi]=nmC mi none none none none none none none:=by rfl
 rw [e]
 refine c7 (q9 (j7 (c7 (o9 (l6 (r6 (b6 rfl rfl (E7 (j6 w) (ah2 w) ah1 S0.o (by rfl) (by rcases hoc with rfl | ⟨x,bs,rfl,_⟩<;>(intro _ q; cases q)) (O5 ?_)))))))))
 rcases hoc with rfl | ⟨x,bs,rfl,hx,hC,hl⟩
 case inr =>
  refine an4 (b:=false) rfl (i9 (w9 rfl (c7 (E5 (r6 (b6 rfl rfl (E7 (j6 w) (ah2 w) ah1 S0.o (by rfl) (by intro _ q; cases q) ?_)))))))
  skip
  exact h H mb x bs (.pre (az _) _) S0 hmb hx hC hl
 refine an4 (b:=true) rfl (i9 (o5 (by decide) (e6 (c7 (M6 (j9 (e7 (.inl rfl) (e7 (.inl rfl) (c7 (M6 (G3 (d9 ⟨by show 0 <= aB; decide,(B0 (b6 rfl rfl ?_))⟩))))))))))))
 have S1:=S0.mono (aF H [O.list []])
 refine A8 (j6 w) (ah2 w) ah1 S1.o (by show 10 <= aB; decide) ?_
 have kx1:=(i8.pre (aF H [O.list []]) mi).set (.inst 242 (k7 (B2 (.stk (S a) ta) (.stk (S b) tb) mb .none fc (.ref bj) (.ref jk) (.ref pp)) "opcodes" (.ref H.length)))
 have lt:=S0.lt
 have ox1:((H++[O.list []]).set mi (.inst 242 (k7 (B2 (.stk (S a) ta) (.stk (S b) tb) mb .none fc (.ref bj) (.ref jk) (.ref pp)) "opcodes" (.ref H.length))))[mi]?=some (.inst 242 (B2 (.stk (S a) ta) (.stk (S b) tb) mb (.ref H.length) fc (.ref bj) (.ref jk) (.ref pp))):=o7 S1.o
 have ax1:((H++[O.list []]).set mi (.inst 242 (k7 (B2 (.stk (S a) ta) (.stk (S b) tb) mb .none fc (.ref bj) (.ref jk) (.ref pp)) "opcodes" (.ref H.length))))[H.length]?=some (.list []):=x9 (bI lt.1) af
 have ln1:((H++[O.list []]).set mi (.inst 242 (k7 (B2 (.stk (S a) ta) (.stk (S b) tb) mb .none fc (.ref bj) (.ref jk) (.ref pp)) "opcodes" (.ref H.length)))).length=H.length+1:=by rw [bH,aE]; rfl
 generalize (H++[O.list []]).set mi _=H1 at kx1 ox1 ax1 ln1 ⊢
 obtain ⟨an,ean⟩:∃ an,an=H.length:=⟨_,rfl⟩
 rw [<- ean] at ox1 ax1 ln1 lt ⊢
 have S2:=S0.put kx1 ox1
 have mb2:N1 H1 a b mb:=by
  rcases hmb with e | ⟨x,bs,e,h1,h2,h3⟩
  · exact .inl e
  · refine .inr (N7 x bs e (kx1 _ _ (fun q=>?_) h1) h2 h3)
    rw [q,S0.o] at h1; cases h1
 refine e7 (.inl rfl) (c7 (X2 (o6 (pl:=fun _=>_) (b6 rfl rfl ((i0 _ (G2 (j6 w) (bj9 w) (by kernel_rfl:(KK w.params).lookup 203=some (V1 w.params)) rfl bk0 S2.o (by rfl)) (bh5 w) ?_))))))
 refine d9 (bl1 (d:=d) R S2 mb2 ha hb fun H3 x bs hx kx3 S3 lx C hl=>?_)
 have hxn:x≠an:=by
  rcases hx with e | e
  · rcases hmb with e' | ⟨x',bs',e',h1,_⟩
    · rw [e'] at e; cases e
    · rw [e'] at e; cases e
      exact bI (ean▸(ae.mp h1).1)
  · exact (bI (aW (ln1▸cK _) e)).symm
 have ax3:H3[an]?=some (.list (([]:List Op).map S6)):=kx3 _ _ (bI lt.1).symm ax1
 refine (L7 _ _ (O8 (.inl lx)) (fun n m H'=>CJ mi an H3 bs n m H') (.mk (A:=[]) (i:=0) (j:=0) (fun _ _ _ e=>e) ax3 rfl rfl rfl (bm _)) ?_ ?_ ?_)
 · (intro n m H'; intro qz1; obtain ⟨kx,_⟩:=qz1)
   exact .inl (kx _ _ hxn lx)
 · intro n y m H' hy J
   rw [aU] at hy
   (refine b9 (bp.mp hy) fun q hq qz2=>?_; subst qz2)
   refine aa4 (aE4 (P6 w) (aG9 w) rfl (e7 (.inl (by rfl)) (e7 (.inl (by rfl)) (e7 (.inl (by rfl)) ?_))))
   exact cF7 (d:=d+5) hq hl.1 J fun m H' J=>J
 · intro m H' J
   rw [aD] at J
   obtain ⟨n,hn0,J⟩:∃ n,bs.length=n /\ CJ mi an H3 bs n m H':=⟨_,rfl,J⟩
   obtain @⟨H',i,j,x1,y1,A,ai,bj',size,tag,kx,hA,ex,ey,eq,le⟩:=J
   subst ex ey
   rw [gu (Nat.le_of_eq hn0)] at eq
   rw [show u6 i j []=[] from rfl,bg] at eq
   subst eq
   refine c7 (E5 (b6 rfl rfl ?_))
   have S4:=S3.kp kx lt (ao _)
   refine h _ (.ref x) an bs ?_ S4 (.inr (N7 x bs rfl (kx _ _ hxn lx) C hl)) hA C hl
   intro i o hi e
   have hlt:i < an:=by rw [ean]; exact (ae.mp e).1
   exact kx _ _ (by exact bQ3 ln1 ean hlt) (kx3 _ _ hi (kx1 _ _ hi e))
end
end
section
set_option tactic.hygienic false
theorem aH3 {w:World} {E:i7} {H:List O} {d m n:Nat} {Q:V -> List O -> Prop} (hm:m <= 25) (hn:n <= 51) (h0:n≠0) (h:Q (.flt (B1 m n)) H):i5 pP w (KK w.params) (d+1) E H (.st 145) [.int (m:Nat),.int (n:Nat)] Q:=by
 refine E3 (cy1 w) (by rfl) (by rfl) ?_
 have e:r0 (i6 (m7 4)) ["matches","length"] [.int (m:Nat),.int (n:Nat)]=[nv "matches" (.int (m:Nat)),nv "length" (.int (n:Nat))]:=by rfl
 rw [e]
 refine c7 (o9 (w4 (b6 rfl rfl (af0 (w9 (by simp [h0]) (c7 (E5 (g8 (g8 (ct9 (b6 rfl rfl (cu0 (by exact bQ4 hm) (b6 rfl rfl (cu1 hn h0 ?_))))))))))))))
 skip
 have f:=(aE5 ⟨m,by exact aw6 hm⟩ ⟨n - 1,by exact aw7 hn⟩).1
 rw [show n - 1+1=n by exact aw8 hn h0,bV4 h0] at f
 show Q (.flt (Float64.div (Float64.mul be1 (eY (m:Int))) (eY (n:Int)))) H
 rw [f]
 exact h
section
variable {w:World} {E:i7} {H:List O} {d mi:Nat} {a b:List Nat} {ta tb:Nat} {mb oc fc:V} {bj jk pp:Nat} {p:Nat -> Nat} {Q:V -> List O -> Prop}
theorem cF9 (S0:r8 w H mi a b ta tb mb oc fc bj jk pp p) (ha:a.length <= 25) (hb:b.length <= 25) (h0:a.length≠0) (h:Q (.flt (B1 (min a.length b.length) (a.length+b.length))) H):i5 pP w (KK w.params) (d+2) E H (.st 239) [.ref mi] Q:=by
 refine E3 (cz8 w) (by rfl) (by rfl) ?_
 have e:r0 (i6 (c9 5 12)) ["self"] [.ref mi]=[nv "self" (.ref mi),nn "la",nn "lb"]:=by rfl
 rw [e]
 refine c7 (q9 (j7 (c7 (M1 (xs:=["la","lb"]) (ab8 (by rfl) (by rfl)) ?_ (fun env he=>by unfold bR de cJ; rw [he]; rfl)))))
 refine y5 (c6 (n7 (A5 rfl (D9 _) E0 ⟨trivial,c6 (r6 (b6 rfl rfl (L1 (j6 w) (R9 w) R8 S0.o (by rfl) (d9 (F9 (by rw [j5]; exact ag ha (by decide)) ?_)))))⟩)))
 rw [j5]
 refine c6 (n7 (A5 rfl (D9 _) E0 ⟨trivial,c6 (r6 (b6 rfl rfl (L1 (j6 w) (P8 w) P7 S0.o (by rfl) (d9 (F9 (by rw [j5]; exact ag hb (by decide)) ?_)))))⟩))
 rw [j5]
 refine d9 ⟨by show 2 <= aB; decide,(G1 rfl ⟨rfl,(c7 (E5 (n7 (I0 rfl (aG7 _) ⟨by first | exact ao9 _ | exact ao8 _ | exact ab2 _,c6 (n7 (A5 rfl (bi3 _) bi4 ⟨trivial,c6 (b6 rfl rfl (c6 (b6 rfl rfl (d9 (aV6 (c6 (g8 (b6 rfl rfl (b6 rfl rfl (s8 (d9 ?_)))))))))))⟩))⟩))))⟩)⟩
 rw [show (min ((a.length:Nat):Int) ((b.length:Nat):Int))=((min a.length b.length:Nat):Int) by omega]
 refine aH3 (m:=min a.length b.length) (n:=a.length+b.length) (by exact aw9 ha hb) (by exact ak2 ha hb) (by exact bQ5 ha hb h0) ?_
 skip
 exact h
end
end
section
set_option tactic.hygienic false
noncomputable def A0 (f:Nat -> V) (l:List Nat):List (Str×V):=l.map fun c=>(S [c],f c)
theorem ap9 {f:Nat -> V} {c:Nat}:∀ {l:List Nat},x8 (A0 f l) (S [c])=if c∈l then some (f c) else none
 | []=>rfl
 | e::l=>by
  unfold A0 x8
  rw [aR]
  by_cases q:e=c
  · subst q
    rw [eG (by simp),if_pos (.head _)]; rfl
  · have ih:=ap9 (f:=f) (c:=c) (l:=l)
    unfold A0 x8 at ih
    rw [eK (by simpa [ap2] using q),ih]
    by_cases r:c∈l
    · rw [if_pos r,if_pos (.tail _ r)]
    · rw [if_neg r,if_neg (fun z=>(aJ.mp z).elim (fun z=>q z.symm) r)]
theorem bl2 {f:Nat -> V} {c:Nat} {l:List Nat} (h:c ∉ l):E8 (A0 f l) (S [c]) (f c)=A0 f (l++[c]):=by
 unfold E8
 rw [if_neg]
 · unfold A0; rw [aQ]; rfl
 · intro q
   (refine b9 (List.any_eq_true.mp q) fun x hx e=>?_)
   (refine b9 (aV.mp hx) fun c' hc' qz1=>?_; subst qz1)
   have:=ap2.mp (of_decide_eq_true e)
   exact h (this▸hc')
theorem bl3 {f:Nat -> V} {l:List Nat}:(A0 f l).length=l.length:=aD _
noncomputable abbrev ab9:Nat -> V:=fun _=>.int (0+1)
noncomputable def ac0 (w:World) (H:List O) (b:List Nat) (fc:V):Prop:=fc=.none \/ ∃ x,fc=.ref x /\ H[x]?=some (dO (strKind pP w) (A0 ab9 b))
theorem aH4 {l:List Nat} (nd:l.Nodup) {n c:Nat} (h:l[n]?=some c):c ∉ l.take n /\ l.take (n+1)=l.take n++[c]:=by
 have hlt:=(ae.mp h).1
 have e:l.take (n+1)=l.take n++[c]:=by rw [fJ hlt,(ae.mp h).2]
 refine ⟨fun hm=>?_,e⟩
 have:(l.take (n+1)).Nodup:=nd.sublist (List.take_sublist _ _)
 rw [e,gG] at this
 exact this.2.2 c hm c (.head _) rfl
theorem N1.kp {H H':List O} {a b:List Nat} {mb:V} {mi C:Nat} {fs:List (Str×V)} (h:N1 H a b mb) (ho:H[mi]?=some (.inst C fs)) (k:i8 H H' mi):N1 H' a b mb:=by
 rcases h with e | ⟨x,bs,e,h1,h2,h3⟩
 · exact .inl e
 · exact .inr (N7 x bs e (k _ _ (fun q=>by rw [q,ho] at h1; cases h1) h1) h2 h3)
theorem ah4.kp {H H':List O} {a b:List Nat} {oc:V} {mi C:Nat} {fs:List (Str×V)} (h:ah4 H a b oc) (ho:H[mi]?=some (.inst C fs)) (k:i8 H H' mi):ah4 H' a b oc:=by
 rcases h with e | ⟨x,bs,e,h1,h2,h3⟩
 · exact .inl e
 · exact .inr (N7 x bs e (k _ _ (fun q=>by rw [q,ho] at h1; cases h1) h1) h2 h3)
theorem ac0.kp {w:World} {H H':List O} {b:List Nat} {fc:V} {mi C:Nat} {fs:List (Str×V)} (h:ac0 w H b fc) (ho:H[mi]?=some (.inst C fs)) (k:i8 H H' mi):ac0 w H' b fc:=by
 rcases h with e | ⟨x,e,h1⟩
 · exact .inl e
 · exact .inr (c5 x e (k _ _ (fun q=>by rw [q,ho] at h1; cases h1) h1))
noncomputable abbrev common (a b:List Nat):Nat:=(a.filter (·∈b)).length
section
variable {w:World} {E:i7} {H:List O} {d mi:Nat} {a b:List Nat} {ta tb:Nat} {mb oc fc:V} {bj jk pp:Nat} {p:Nat -> Nat} {Q:V -> List O -> Prop}
noncomputable abbrev nmK (mi:Nat) (fb elt av ah ma nu:Option V):b8:=[nv "self" (.ref mi),("fullbcount",fb),("elt",elt),("avail",av),("availhas",ah),("matches",ma),("numb",nu)]
noncomputable abbrev fiK (w:World):FI:=⟨i6 (c9 5 11),true,(q8 (Y5 w.params)).code⟩
noncomputable abbrev gB (b:List Nat) (c:Nat):Nat:=if c∈b then 1 else 0
noncomputable abbrev f2 (b:List Nat):Nat -> V:=fun c=>.int ((gB b c:Int) - 1)
theorem cG0 {b:List Nat} {c:Nat}:(x8 (A0 ab9 b) (S [c])).getD (.int 0)=.int (gB b c:Nat):=by
 rw [ap9]
 unfold gB
 split<;>rfl
inductive KJ (w:World) (mi:Nat) (a b:List Nat) (x y ah:Nat) (H:List O) (n:Nat):b8 -> List O -> Prop
 | mk {H':List O} {elt nu:Option V} {ma:Int} (pre:H<+:H') (hy:H'[y]?=some (dO (strKind pP w) (A0 (f2 b) (a.take n)))) (hah:H'[ah]?=some (bO "dict.__contains__" y)) (em:ma=((common (a.take n) b:Nat):Int)) :
  KJ w mi a b x y ah H n (nmK mi (some (.ref x)) elt (some (.ref y)) (some (.ref ah)) (some (.int ma)) nu) H'
theorem cG1 (R:Rows a b) {x y ah n c:Nat} {m:b8} {H':List O} (hx:H[x]?=some (dO (strKind pP w) (A0 ab9 b))) (hy0:H.length <= y) (hne:y≠ah) (hc:a[n]?=some c) (ha:a.length <= 25) (J:KJ w mi a b x y ah H n m H') {Q:Fl -> b8 -> List O -> Prop} (hQ:∀ m H',KJ w mi a b x y ah H (n+1) m H' -> Q .next m H') :
 WB pP w (KK w.params) (fiK w) (d+1) (fun _ _ _=>False) (w6 m "elt" (.str (S [c]))) H' (U4 (B3 5 (j0 (c9 5 11)))) Q:=by
 obtain @⟨H',elt,nu,ma,pre,hy,hah,em⟩:=J
 subst em
 (refine d0 (aH4 R.na hc) fun hnm htk=>?_)
 have hl:(A0 (f2 b) (a.take n)).length <= 25:=by rw [bl3,bQ]; exact bQ6 ha
 refine c7 (o9 (w4 (aa6 (b6 rfl rfl ((c5 _ rfl (c6 (b6 rfl rfl (d9 ⟨(l8 _ _ hah),(cn9 P2 hah hy ?_)⟩)))))))))
 rw [ap9,if_neg hnm]
 refine i9 (o5 (by decide) (c7 (l7 (o6 (pl:=fun _=>_) (b6 rfl rfl ((i0 _ (an3 eV gS (l4 pre hx)) trivial (c6 (b6 rfl rfl (c6 (j9 (d9 (aC8 P2 (l4 pre hx) ?_)))))))))))))
 rw [cG0]
 refine e7 (.inl rfl) (e6 (c7 (l7 (g8 (b6 rfl rfl (j9 (K0 (aC4 (b6 rfl rfl (b6 rfl rfl (aC9 P2 hy (ag hl (by decide)) ?_)))))))))))
 have p1:=N0 (o:=dO (strKind pP w) (E8 (A0 (f2 b) (a.take n)) (S [c]) (.int ((gB b c:Nat) - 1)))) pre hy0
 have y1:(H'.set y (dO (strKind pP w) (E8 (A0 (f2 b) (a.take n)) (S [c]) (.int ((gB b c:Nat) - 1)))))[y]?=some (dO (strKind pP w) (A0 (f2 b) (a.take (n+1)))):=by rw [htk,<- bl2 hnm]; exact o7 hy
 have a1:=x9 (o':=dO (strKind pP w) (E8 (A0 (f2 b) (a.take n)) (S [c]) (.int ((gB b c:Nat) - 1)))) hne hah
 generalize H'.set y _=H1 at p1 y1 a1 ⊢
 refine c7 (o9 (l6 (b6 rfl rfl (j9 (X0 (i9 ?_))))))
 by_cases q:c∈b
 · refine w9 (by unfold gB; rw [if_pos q]; decide) ?_
   refine c7 (l7 (g8 (b6 rfl rfl (j9 (s8 (e7 (.inl rfl) (e6 (e6 ?_))))))))
   exact hQ _ _ (.mk p1 y1 a1 (by unfold common; rw [htk,fX,List.filter_cons_of_pos (by simpa using q),aE]; rfl))
 · refine o5 (by unfold gB; rw [if_neg q]; decide) ?_
   refine e6 (e6 ?_)
   exact hQ _ _ (.mk p1 y1 a1 (by unfold common; rw [htk,fX,List.filter_cons_of_neg (by simpa using q),aE]; rfl))
theorem bl5 (R:Rows a b) (S0:r8 w H mi a b ta tb mb oc fc bj jk pp p) {x:Nat} (hfc:fc=.ref x) (hx:H[x]?=some (dO (strKind pP w) (A0 ab9 b))) (ha:a.length <= 25) (hb:b.length <= 25) (h0:a.length≠0) {fb elt:Option V}
 (h:∀ H',H<+:H' -> Q (.flt (B1 (common a b) (a.length+b.length))) H') :
 WB pP w (KK w.params) (fiK w) (d+1) (fun _ _ _=>False) (nmK mi fb elt none none none none) H ((j0 (c9 5 11)).drop 2) (KFn Q):=by
 subst hfc
 refine c7 (l7 (r6 (b6 rfl rfl (E7 (j6 w) (ap1 w) ap0 S0.o (by rfl) (by intro _ q; cases q) (e7 (.inl rfl) (c7 (l7 (ag1 (knd:=strKind pP w) (e7 (.inl rfl) (c7 (M1 (xs:=["availhas","matches"]) (ab8 (by rfl) (by rfl)) ?_ (fun env he=>by unfold bR de cJ; rw [he]; rfl))))))))))))
 refine y5 (c6 (r6 (b6 rfl rfl (cn7 af ?_))))
 refine c6 (j9 (d9 ⟨by show 2 <= aB; decide,(G1 rfl ⟨rfl,?_⟩)⟩))
 have p1:H<+:H++[dO (strKind pP w) []]++[bO "dict.__contains__" H.length]:=J3 (aF _ _)
 have y1:(H++[dO (strKind pP w) []]++[bO "dict.__contains__" H.length])[H.length]?=some (dO (strKind pP w) (A0 (f2 b) (a.take 0))):=s6 af
 have a1:(H++[dO (strKind pP w) []]++[bO "dict.__contains__" H.length])[(H++[dO (strKind pP w) []]).length]?=some (bO "dict.__contains__" H.length):=af
 have hne:H.length≠(H++[dO (strKind pP w) []]).length:=by rw [aE]; exact bI (cK _)
 generalize H++[dO (strKind pP w) []]++[bO "dict.__contains__" H.length]=H1 at p1 y1 a1 ⊢
 generalize (H++[dO (strKind pP w) []]).length=ah at a1 hne ⊢
 refine c7 (X2 (r6 (b6 rfl rfl (L1 (j6 w) (R9 w) R8 (S0.mono p1).o (by rfl) ((L7 _ _ am3 (fun n m H'=>KJ w mi a b x H.length ah H n m H') (.mk p1 y1 a1 rfl) (fun _ _ _ _=>trivial) ?_ ?_))))))
 · intro n v m H' hv J
   rw [aU] at hv
   (refine b9 (bp.mp hv) fun c hc qz2=>?_; subst qz2)
   refine e7 (.inl (by rfl)) ?_
   exact cG1 R hx (ao _) hne hc ha J fun m H' J=>J
 · intro m H' J
   rw [aD] at J
   obtain @⟨H',elt,nu,ma,pre,hy,hah,em⟩:=J
   subst em
   rw [dE]
   have S1:=S0.mono pre
   refine c7 (E5 (n7 (I0 rfl (aG7 _) ⟨by first | exact ao9 _ | exact ao8 _ | exact ab2 _,c6 (b6 rfl rfl (c6 (g8 (n7 (A5 rfl (D9 _) E0 ⟨trivial,c6 (r6 (b6 rfl rfl (L1 (j6 w) (R9 w) R8 S1.o (by rfl) (d9 (F9 (by rw [j5]; exact ag ha (by decide)) ?_)))))⟩)))))⟩)))
   rw [j5]
   refine n7 (A5 rfl (D9 _) E0 ⟨trivial,c6 (r6 (b6 rfl rfl (L1 (j6 w) (P8 w) P7 S1.o (by rfl) (d9 (F9 (by rw [j5]; exact ag hb (by decide)) ?_)))))⟩)
   rw [j5]
   refine s8 (d9 (aH3 (m:=common a b) (n:=a.length+b.length) (ag (dJ _ _) ha) (by exact ak2 ha hb) (by exact aR2 ha hb h0 hne) ?_))
   skip
   exact h _ pre
end
end
section
set_option tactic.hygienic false
section
variable {w:World} {E:i7} {H:List O} {d mi:Nat} {a b:List Nat} {ta tb:Nat} {mb oc fc:V} {bj jk pp:Nat} {p:Nat -> Nat} {Q:V -> List O -> Prop}
inductive QJ (w:World) (mi:Nat) (b:List Nat) (x:Nat) (H:List O) (n:Nat):b8 -> List O -> Prop
 | mk {H':List O} {elt:Option V} (kx:i8 H H' x) (hx:H'[x]?=some (dO (strKind pP w) (A0 ab9 (b.take n)))) :
  QJ w mi b x H n (nmK mi (some (.ref x)) elt none none none none) H'
theorem cG2 (R:Rows a b) (S0:r8 w H mi a b ta tb mb oc fc bj jk pp p) (hfc:ac0 w H b fc) (ha:a.length <= 25) (hb:b.length <= 25) (h0:a.length≠0)
 (h:∀ H' fc',i8 H H' mi -> r8 w H' mi a b ta tb mb oc fc' bj jk pp p -> ac0 w H' b fc' -> Q (.flt (B1 (common a b) (a.length+b.length))) H') :
 i5 pP w (KK w.params) (d+2) E H (.st 232) [.ref mi] Q:=by
 refine E3 (cz6 w) (by rfl) (by rfl) ?_
 have e:r0 (i6 (c9 5 11)) ["self"] [.ref mi]=nmK mi none none none none none none:=by rfl
 rw [e]
 refine c7 (q9 (j7 (c7 (o9 (l6 (r6 (b6 rfl rfl (E7 (j6 w) (ap1 w) ap0 S0.o (by rfl) (by rcases hfc with rfl | ⟨x,rfl,_⟩<;>(intro _ q; cases q)) (O5 ?_)))))))))
 rcases hfc with rfl | ⟨x,rfl,hx⟩
 case inr =>
  refine aa7 (b:=false) rfl (i9 (o5 (by decide) (e6 ?_)))
  exact bl5 (d:=d) R S0 rfl hx ha hb h0 fun H' hp=>h H' _ (.pre hp _) (S0.mono hp) (.inr (c5 x rfl (l4 hp hx)))
 refine aa7 (b:=true) rfl (i9 (w9 rfl (c7 (M6 (ag1 (knd:=strKind pP w) (B0 (b6 rfl rfl ?_)))))))
 have S1:=S0.mono (aF H [dO (strKind pP w) []])
 have lt:=S0.lt
 refine A8 (j6 w) (ap1 w) ap0 S1.o (by show 10 <= aB; decide) ?_
 have kx1:=(i8.pre (aF H [dO (strKind pP w) []]) mi).set (.inst 242 (k7 (B2 (.stk (S a) ta) (.stk (S b) tb) mb oc .none (.ref bj) (.ref jk) (.ref pp)) "fullbcount" (.ref H.length)))
 have ox1:((H++[dO (strKind pP w) []]).set mi (.inst 242 (k7 (B2 (.stk (S a) ta) (.stk (S b) tb) mb oc .none (.ref bj) (.ref jk) (.ref pp)) "fullbcount" (.ref H.length))))[mi]?=some (.inst 242 (B2 (.stk (S a) ta) (.stk (S b) tb) mb oc (.ref H.length) (.ref bj) (.ref jk) (.ref pp))):=o7 S1.o
 have xx1:((H++[dO (strKind pP w) []]).set mi (.inst 242 (k7 (B2 (.stk (S a) ta) (.stk (S b) tb) mb oc .none (.ref bj) (.ref jk) (.ref pp)) "fullbcount" (.ref H.length))))[H.length]?=some (dO (strKind pP w) (A0 ab9 (b.take 0))):=x9 (bI lt.1) af
 generalize (H++[dO (strKind pP w) []]).set mi _=H1 at kx1 ox1 xx1 ⊢
 obtain ⟨x,ex⟩:∃ x,x=H.length:=⟨_,rfl⟩
 rw [<- ex] at ox1 xx1 lt ⊢
 have S2:=S0.put kx1 ox1
 refine e7 (.inl rfl) (c7 (X2 (r6 (b6 rfl rfl (L1 (j6 w) (P8 w) P7 S2.o (by rfl) ((L7 _ _ am3 (fun n m H'=>QJ w mi b x H1 n m H') (.mk (fun _ _ _ e=>e) xx1) (fun _ _ _ _=>trivial) ?_ ?_)))))))
 · intro n v m H' hv J
   rw [aU] at hv
   (refine b9 (bp.mp hv) fun c hc qz1=>?_; subst qz1)
   obtain @⟨H',elt,kx,hx⟩:=J
   (refine d0 (aH4 R.nb hc) fun hnm htk=>?_)
   refine e7 (.inl (by rfl)) (c7 (l7 (g8 (o6 (pl:=fun _=>_) (b6 rfl rfl ((i0 _ (an3 eV gS hx) trivial (c6 (b6 rfl rfl (c6 (j9 (d9 (aC8 P2 hx ?_)))))))))))))
   rw [ap9,if_neg hnm,Option.getD_none]
   refine j9 (s8 (aC4 (b6 rfl rfl (b6 rfl rfl (aC9 P2 hx (by rw [bl3,bQ]; exact ag (ag (ed _ _) hb) (by decide)) (e6 ?_))))))
   exact .mk (kx.set _) (by rw [htk,<- bl2 hnm]; exact o7 hx)
 · intro m H' J
   rw [aD] at J
   obtain @⟨H',elt,kx,hx⟩:=J
   rw [dE] at hx
   have S3:=S2.kp kx lt (ao _)
   refine e6 (bl5 (d:=d) R S3 rfl hx ha hb h0 fun H'' hp=>h H'' (.ref x) (fun i o hi e=>?_) (S3.mono hp) (.inr (c5 x rfl (l4 hp hx))))
   have hlt:i < x:=by rw [ex]; exact (ae.mp e).1
   exact l4 hp (kx _ _ (by exact bQ7 ex hlt) (kx1 _ _ hi e))
end
end
section
set_option tactic.hygienic false
theorem bl6 (w:World):nsIn (KK w.params) aT "__builtins__"=some (some (.ref 4)):=by kernel_rfl
theorem cG3 (w:World):fG (KK w.params) (.ref 135) "__getitem__"=some (some (.builtin "tuple.__getitem__")):=by kernel_rfl
theorem cG4 (w:World):af4 (KK w.params) 224 220:=⟨(av2 (ad1 w.params) _ _ _ _ _ _ _ _ (by kernel_rfl) (by rfl) (by rfl) (by rfl) (by rfl) (by rfl) (by rfl) (by rfl) (by rfl)),by decide⟩
theorem bl7:∀ bs:List Bl,((bs.map tI).map (·.2.2)).sum=(((bs.map (·.2.2)).sum:Nat):Int)
 | []=>rfl
 | m::r=>by
  rw [aR,aR,aR,hZ,hZ,bl7 r]
  show (m.2.2:Int)+_=_
  omega
section
variable {w:World} {E:i7} {H:List O} {d mi i:Nat} {a b:List Nat} {ta tb:Nat} {mb oc fc:V} {bj jk pp:Nat} {p:Nat -> Nat} {ps:Array Value} {Q:V -> List O -> Prop}
theorem cG5 (R:Rows a b) (S0:r8 w H mi a b ta tb mb oc fc bj jk pp p) (hmb:N1 H a b mb) (hT:H[i]?=some (.tbl 220 ps)) (ha:a.length <= 25) (hb:b.length <= 25) (h0:a.length≠0)
 (h:∀ H' mb',i8 H H' mi -> r8 w H' mi a b ta tb mb' oc fc bj jk pp p -> N1 H' a b mb' -> Q (.flt (B1 (common a b) (a.length+b.length))) H') :
 i5 pP w (KK w.params) (d+6) E H (.st 225) [.ref mi] Q:=by
 refine E3 (cz4 w) (by rfl) (by rfl) ?_
 have e:r0 (i6 (c9 5 10)) ["self"] [.ref mi]=[nv "self" (.ref mi),nn "matches"]:=by rfl
 rw [e]
 have him:i≠mi:=fun q=>by rw [q,S0.o] at hT; cases hT
 refine c7 (q9 (j7 (c7 (l7 (cu7 (b4:=4) (o4:=o4 w.params) (i:=i) (C:=135) (by rfl) (cG4 w) (bl6 w) (by kernel_rfl) (m5 (by decide) rfl rfl rfl) (by rfl) (cA8 w) cA9 (by decide) (by decide) (by rfl) (by decide) (by decide) (by rfl) (by rfl) (by rfl) (by decide) (P6 w) (cG3 w) (o6 (pl:=fun _=>_) (b6 rfl rfl ((i0 _ (G2 (j6 w) (bj9 w) (by kernel_rfl:(KK w.params).lookup 203=some (V1 w.params)) rfl bk0 S0.o (by rfl)) (bh5 w) ?_)))))))))
 refine d9 (bl1 (d:=d) R S0 hmb ha hb fun H1 x bs _ kx S1 lx C hl=>((aM7 x (bs.map tI) ps rfl (by rw [bu]; exact lx) (kx _ _ him hT) (by have:=hl.1; rw [aD]; exact bQ8 this) (fun t ht=>?_) (fun H2 k2=>?_))))
 · (refine b9 (aV.mp ht) fun m hm qz1=>?_; subst qz1)
   have:=(cx0 C m hm).1
   have hl1:=hl.1
   exact ⟨bK _,by show (m.2.2:Int) <= 100; omega⟩
 have nc:∀ {i:Nat} {o:O},H1[i]?=some o -> (∀ n,o≠.clk n) -> H2[i]?=some o:=fun e h=>k2 _ _ e (.inl h)
 have S2:r8 w H2 mi a b ta tb (.ref x) oc fc bj jk pp p:=⟨nc S1.o (fun _ q=>nomatch q),nc S1.d (fun _ q=>nomatch q),fun j hj=>nc (S1.l j hj) (fun _ q=>nomatch q),nc S1.s (fun _ q=>nomatch q)⟩
 have kx2:i8 H H2 mi:=fun i o hi e=>k2 _ _ (kx _ _ hi e) (.inr e)
 have m2:N1 H2 a b (.ref x):=.inr (N7 x bs rfl (nc lx (fun _ q=>nomatch q)) C hl)
 rw [bl7,bg1 C,dI]
 refine e7 (.inl rfl) (c7 (E5 (n7 (I0 rfl (aG7 _) ⟨by first | exact ao9 _ | exact ao8 _ | exact ab2 _,c6 (b6 rfl rfl (c6 (g8 (n7 (A5 rfl (D9 _) E0 ⟨trivial,c6 (r6 (b6 rfl rfl (L1 (j6 w) (R9 w) R8 S2.o (by rfl) (d9 (F9 (by rw [j5]; exact ag ha (by decide)) ?_)))))⟩)))))⟩))))
 rw [j5]
 refine n7 (A5 rfl (D9 _) E0 ⟨trivial,c6 (r6 (b6 rfl rfl (L1 (j6 w) (P8 w) P7 S2.o (by rfl) (d9 (F9 (by rw [j5]; exact ag hb (by decide)) ?_)))))⟩)
 rw [j5]
 refine s8 (d9 (aH3 (m:=common a b) (n:=a.length+b.length) (ag (dJ _ _) ha) (by exact ak2 ha hb) (by exact aR2 ha hb h0 him) ?_))
 skip
 exact h _ _ kx2 S2 m2
end
end
section
set_option tactic.hygienic false
theorem cG6 {b:List Nat} {c:Nat} {p:Nat -> Nat}:t6 (b++[c]) p=t6 b p++[(S [c],.ref (p b.length))]:=by
 unfold t6
 rw [List.zipIdx_append,aQ]
 simp [List.zipIdx]
theorem cG7 {b:List Nat} {p:Nat -> Nat}:(t6 b p).length=b.length:=by unfold t6; rw [aD,List.length_zipIdx]
theorem cG8 {b:List Nat} {c:Nat} {p:Nat -> Nat} (h:c ∉ b):E8 (t6 b p) (S [c]) (.ref (p b.length))=t6 (b++[c]) p:=by
 rw [cG6]
 unfold E8
 rw [if_neg]
 intro q
 (refine b9 (List.any_eq_true.mp q) fun x hx e=>?_)
 (refine b9 (aV.mp hx) fun y hy qz1=>?_; subst qz1)
 have:=ap2.mp (of_decide_eq_true e)
 obtain ⟨y1,y2⟩:=y
 have hm:=List.mem_zipIdx hy
 simp only at this hm
 exact h (by rw [<- this,hm.2.2]; exact dG _)
section
variable {w:World} {E:i7} {H:List O} {d mi:Nat} {b:List Nat} {tb:Nat} {fs:List (Str×V)} {Q:V -> List O -> Prop}
noncomputable abbrev nmH (mi:Nat) (b b2j i elt ind junk isj pop n nt ix:Option V):b8:=[nv "self" (.ref mi),("b",b),("b2j",b2j),("i",i),("elt",elt),("indices",ind),("junk",junk),("isjunk",isj),("popular",pop),("n",n),("ntest",nt),("idxs",ix)]
noncomputable abbrev fiH (w:World):FI:=⟨i6 (c9 5 5),true,(q8 (Y3 w.params)).code⟩
inductive HJ (w:World) (mi:Nat) (b:List Nat) (tb bj L0:Nat) (H:List O) (n:Nat):b8 -> List O -> Prop
 | mk {H':List O} {i elt ind:Option V} (ln:H'.length=L0+n) (kx:i8 H H' bj) (hd:H'[bj]?=some (dO (strKind pP w) (t6 (b.take n) (L0+·)))) (hl:∀ j,j < n -> H'[L0+j]?=some (.list [.int (j:Nat)])) :
  HJ w mi b tb bj L0 H n (nmH mi (some (.stk (S b) tb)) (some (.ref bj)) i elt ind none none none none none none) H'
theorem cH0 (nd:b.Nodup) (hb:b.length <= 25) {bj L0 n c:Nat} {m:b8} {H':List O} (hbl:bj < L0) (hHl:H.length <= L0) (hc:b[n]?=some c) (J:HJ w mi b tb bj L0 H n m H') {Q:Fl -> b8 -> List O -> Prop} (hQ:∀ m H',HJ w mi b tb bj L0 H (n+1) m H' -> Q .next m H') :
 WB pP w (KK w.params) (fiH w) d (fun _ _ _=>False) (w6 (w6 m "i" (.int (n:Nat))) "elt" (.str (S [c]))) H' (U4 (B3 2 (j0 (c9 5 5)))) Q:=by
 obtain @⟨H',i,elt,ind,ln,kx,hd,hl⟩:=J
 (refine d0 (aH4 nd hc) fun hnm htk=>?_)
 have hlt:=(ae.mp hc).1
 have tl:(b.take n).length=n:=by rw [bQ]; exact aQ7 hlt
 refine c7 (l7 (o6 (pl:=fun _=>_) (b6 rfl rfl ((i0 _ (an3 PySem.F.slot_dict_setdefault PySem.F.type_dict_setdefault hd) trivial (c6 (b6 rfl rfl (c6 (G3 (d9 ⟨by show 0 <= aB; decide,(d9 ?_)⟩))))))))))
 rw [ln]
 refine ck5 (x:=.ref (L0+n)) P2 (s6 hd) (by rw [cG7,tl]; exact ag (show n <= 25 by exact bQ9 hb hlt tl) (by decide)) (fun v hv=>?_) (fun _=>?_)
 · rw [bk1 (nd.sublist (List.take_sublist _ _)) hnm] at hv; cases hv
 have put:E8 (t6 (b.take n) (L0+·)) (S [c]) (.ref (L0+n))=t6 (b.take (n+1)) (L0+·):=by
  rw [htk,<- cG8 hnm,tl]
 rw [put]
 have l1:((H'++[O.list []]).set bj (dO (strKind pP w) (t6 (b.take (n+1)) (L0+·)))).length=L0+(n+1):=by rw [bH,aE,ln]; rfl
 have d1:((H'++[O.list []]).set bj (dO (strKind pP w) (t6 (b.take (n+1)) (L0+·))))[bj]?=some (dO (strKind pP w) (t6 (b.take (n+1)) (L0+·))):=o7 (s6 hd)
 have n1:((H'++[O.list []]).set bj (dO (strKind pP w) (t6 (b.take (n+1)) (L0+·))))[L0+n]?=some (.list []):=x9 (by exact bR0 hb hbl ln hlt tl l1) (by rw [<- ln]; exact af)
 have k1:i8 H ((H'++[O.list []]).set bj (dO (strKind pP w) (t6 (b.take (n+1)) (L0+·)))) bj:=i8.set (fun i o hi e=>s6 (kx i o hi e)) _
 have h1:∀ j,j < n -> ((H'++[O.list []]).set bj (dO (strKind pP w) (t6 (b.take (n+1)) (L0+·))))[L0+j]?=some (.list [.int (j:Nat)]):=fun j hj=>x9 (by exact bR1 hbl ln tl l1) (s6 (hl j hj))
 generalize (H'++[O.list []]).set bj _=H1 at l1 d1 n1 k1 h1 ⊢
 refine e7 (.inl rfl) (c7 (q9 (o6 (pl:=fun _=>_) (b6 rfl rfl ((i0 _ (R0 n1) trivial (c6 (b6 rfl rfl (d9 (Q9 n1 (by show 0 <= aB; decide) (e6 (hQ _ _ (.mk (by rw [bH]; exact l1) (fun i o hi e=>?_) (x9 (by exact bR2 hb hbl ln hlt tl l1) d1) fun j hj=>?_)))))))))))))
 · have:i < H.length:=(ae.mp e).1
   exact x9 (by exact bR3 hb hHl ln hlt tl l1 this) (k1 i o hi e)
 · by_cases q:j=n
   · subst q; exact o7 n1
   · exact x9 (by exact bR4 tl q) (h1 j (by exact bR5 tl hj q))
end
end
section
set_option tactic.hygienic false
theorem L4 {n:Str} {v:V}:∀ {fs:List (Str×V)},(k7 fs n v).length <= fs.length+1
 | []=>ao _
 | (m,u)::r=>by
  unfold k7
  split
  · exact aY _
  · rw [cb,cb]; exact br L4
theorem cH1 {prog:Program} {w:World} {KF:Frag} {d:Nat} {E:i7} {H:List O} {f:V} {x:Str} {t:Nat} {Q:V -> List O -> Prop} (h:i5 prog w KF d E H f [.str x] Q):i5 prog w KF d E H f [.stk x t] Q:=fun A F ρ s u us hA S ru r=>by
 (refine e8 (r.cons_eq) fun v q qz1 rv rq=>?_; subst qz1)
 exact h A F ρ s u _ hA S ru (.cons rv.weak rq)
section
variable {w:World} {E:i7} {H:List O} {d mi:Nat} {b:List Nat} {tb:Nat} {fs:List (Str×V)} {Q:V -> List O -> Prop}
noncomputable abbrev S7 (fs:List (Str×V)) (bj jk pp:Nat):List (Str×V):=k7 (k7 (k7 fs "b2j" (.ref bj)) "bjunk" (.ref jk)) "bpopular" (.ref pp)
theorem cH2 (nd:b.Nodup) (hb:b.length <= 25) (hl:H[mi]?=some (.inst 242 fs)) (f1:fs.lookup (aa "b")=some (.stk (S b) tb)) (f2:fs.lookup (aa "isjunk")=some .none) (f3:fs.lookup (aa "autojunk")=some (.bool true)) (hsz:fs.length <= 20)
 (h:∀ H' bj jk pp p,i8 H H' mi -> H'[mi]?=some (.inst 242 (S7 fs bj jk pp)) -> H'[bj]?=some (dO (strKind pP w) (t6 b p)) -> (∀ j,j < b.length -> H'[p j]?=some (.list [.int (j:Nat)])) -> H'[jk]?=some (sO (strKind pP w) (fun _=>false) 0) -> Q .none H') :
 i5 pP w (KK w.params) (d+2) E H (.st 188) [.ref mi] Q:=by
 refine E3 (cy7 w) (by rfl) (by rfl) ?_
 have e:r0 (i6 (c9 5 5)) ["self"] [.ref mi]=nmH mi none none none none none none none none none none none:=by rfl
 rw [e]
 have hmi:=(ae.mp hl).1
 refine c7 (l7 (r6 (b6 rfl rfl (E7 (j6 w) (P8 w) P7 hl f1 (by intro _ q; cases q) (e7 (.inl rfl) (c7 (M6 (ag1 (knd:=strKind pP w) (B0 (b6 rfl rfl ?_))))))))))
 have o1:(H++[dO (strKind pP w) []])[mi]?=some (.inst 242 fs):=s6 hl
 refine A8 (j6 w) (bj2 w) bj1 o1 (ag hsz (by decide)) ?_
 have k1:=(i8.pre (aF H [dO (strKind pP w) []]) mi).set (.inst 242 (k7 fs "b2j" (.ref H.length)))
 have m1:=o7 (o':=.inst 242 (k7 fs "b2j" (.ref H.length))) o1
 have d1:((H++[dO (strKind pP w) []]).set mi (.inst 242 (k7 fs "b2j" (.ref H.length))))[H.length]?=some (dO (strKind pP w) (t6 (b.take 0) (H.length+1+·))):=x9 (by exact bR6 hmi) af
 have l1:((H++[dO (strKind pP w) []]).set mi (.inst 242 (k7 fs "b2j" (.ref H.length)))).length=H.length+1:=by rw [bH,aE]; rfl
 generalize (H++[dO (strKind pP w) []]).set mi _=H1 at k1 m1 d1 l1 ⊢
 obtain ⟨bj,ebj⟩:∃ bj,bj=H.length:=⟨_,rfl⟩
 rw [<- ebj] at m1 d1 l1 ⊢
 refine e7 (.inl (by rfl)) (c7 (cm0 (by rfl) (cA4 w) cA5 (by decide) (by decide) trivial (cl9 (by rfl) (by rfl) ((bv7 (S b) rfl (fun n m H'=>HJ w mi b tb bj (bj+1) H1 n m H') (.mk (by rw [l1]) (fun _ _ _ e=>e) d1 (fun j hj=>absurd hj (gc _))) ?_ ?_)))))
 · intro n c m H' hc J
   have hc':b[n]?=some c:=by simpa [S] using hc
   refine aa4 (G1 rfl (e7 (.inl (by rfl)) (e7 (.inl (by rfl)) ?_)))
   exact cH0 (d:=d+1) nd hb (cK _) (by rw [l1]; exact ao _) hc' J fun m H' J=>J
 · intro m H' J
   have hz:(S b).cps.size=b.length:=by simp [S]
   rw [hz] at J
   obtain @⟨H',i,elt,ind,ln,kx,hd,hls⟩:=J
   rw [dE] at hd
   have m2:=kx _ _ (show mi≠bj by exact bR7 hmi ebj hz ln) m1
   refine c7 (M6 (n7 (M0 rfl (bh9 _) bi0 ⟨trivial,d9 (bc5 (strKind pP w) (B0 (b6 rfl rfl ?_)))⟩)))
   have lk1:∀ {n:Str} {v u:V},n≠"b2j" -> fs.lookup n=some u -> (k7 fs "b2j" v).lookup n=some u:=fun hn e=>by rw [w8,if_neg hn]; exact e
   obtain ⟨jk,ejk⟩:∃ jk,jk=H'.length:=⟨_,rfl⟩
   have o3:(H'++[sO (strKind pP w) (fun _=>false) 0])[mi]?=some (.inst 242 (k7 fs "b2j" (.ref bj))):=s6 m2
   refine A8 (j6 w) (bj4 w) bj3 o3 (ag L4 (ag (br hsz) (by decide))) ?_
   have m3:=o7 (o':=.inst 242 (k7 (k7 fs "b2j" (.ref bj)) "bjunk" (.ref H'.length))) o3
   have d3:((H'++[sO (strKind pP w) (fun _=>false) 0]).set mi (.inst 242 (k7 (k7 fs "b2j" (.ref bj)) "bjunk" (.ref H'.length))))[bj]?=some (dO (strKind pP w) (t6 b (bj+1+·))):=x9 (by exact bR8 hmi ebj hz ln ejk) (s6 hd)
   have j3:((H'++[sO (strKind pP w) (fun _=>false) 0]).set mi (.inst 242 (k7 (k7 fs "b2j" (.ref bj)) "bjunk" (.ref H'.length))))[H'.length]?=some (sO (strKind pP w) (fun _=>false) 0):=x9 (by exact bR9 hb hmi ebj hz ln ejk) af
   have p3:∀ j,j < b.length -> ((H'++[sO (strKind pP w) (fun _=>false) 0]).set mi (.inst 242 (k7 (k7 fs "b2j" (.ref bj)) "bjunk" (.ref H'.length))))[bj+1+j]?=some (.list [.int (j:Nat)]):=fun j hj=>x9 (by exact bS0 hmi ebj hz ln ejk) (s6 (hls j hj))
   have k3:i8 H ((H'++[sO (strKind pP w) (fun _=>false) 0]).set mi (.inst 242 (k7 (k7 fs "b2j" (.ref bj)) "bjunk" (.ref H'.length)))) mi:=i8.set (fun i o hi e=>s6 (kx i o (by have:=(ae.mp e).1; exact bS1 ebj hz ln ejk this) (k1 i o hi e))) _
   have l3:((H'++[sO (strKind pP w) (fun _=>false) 0]).set mi (.inst 242 (k7 (k7 fs "b2j" (.ref bj)) "bjunk" (.ref H'.length)))).length=H'.length+1:=by rw [bH,aE]; rfl
   generalize (H'++[sO (strKind pP w) (fun _=>false) 0]).set mi _=H3 at m3 d3 j3 p3 k3 l3 ⊢
   rw [<- ejk] at m3 j3 l3 ⊢
   clear kx hd hls m2 o3 ln
   refine e7 (.inl rfl) (c7 (l7 (r6 (b6 rfl rfl (E7 (j6 w) (bi8 w) bi7 m3 (by rw [w8,if_neg (by decide)]; exact lk1 (by decide) f2) (by intro _ q; cases q) (e7 (.inl rfl) (c7 (o9 (w4 (b6 rfl rfl (cc2 (o5 (by decide) (e6 (c7 (M6 (n7 (M0 rfl (bh9 _) bi0 ⟨trivial,d9 (bc5 (strKind pP w) (B0 (b6 rfl rfl ?_)))⟩)))))))))))))))))
   have o4:(H3++[sO (strKind pP w) (fun _=>false) 0])[mi]?=some (.inst 242 (k7 (k7 fs "b2j" (.ref bj)) "bjunk" (.ref jk))):=s6 m3
   refine A8 (j6 w) (cB5 w) cB4 o4 (ag L4 (ag (br L4) (ag (br (br hsz)) (by decide)))) ?_
   have m4:=o7 (o':=.inst 242 (S7 fs bj jk H3.length)) o4
   have d4:((H3++[sO (strKind pP w) (fun _=>false) 0]).set mi (.inst 242 (S7 fs bj jk H3.length)))[bj]?=some (dO (strKind pP w) (t6 b (bj+1+·))):=x9 (by exact bS2 hmi ebj) (s6 d3)
   have j4:((H3++[sO (strKind pP w) (fun _=>false) 0]).set mi (.inst 242 (S7 fs bj jk H3.length)))[jk]?=some (sO (strKind pP w) (fun _=>false) 0):=x9 (fun q=>by rw [<- q,m3] at j3; cases j3) (s6 j3)
   have p4:∀ j,j < b.length -> ((H3++[sO (strKind pP w) (fun _=>false) 0]).set mi (.inst 242 (S7 fs bj jk H3.length)))[bj+1+j]?=some (.list [.int (j:Nat)]):=fun j hj=>x9 (by exact bS3 hmi ebj) (s6 (p3 j hj))
   have k4:i8 H ((H3++[sO (strKind pP w) (fun _=>false) 0]).set mi (.inst 242 (S7 fs bj jk H3.length))) mi:=i8.set (fun i o hi e=>s6 (k3 i o hi e)) _
   show WA _ _ _ _ _ _ _ ((H3++[sO (strKind pP w) (fun _=>false) 0]).set mi (.inst 242 (S7 fs bj jk H3.length))) _ _ _
   generalize (H3++[sO (strKind pP w) (fun _=>false) 0]).set mi (.inst 242 (S7 fs bj jk H3.length))=H4 at m4 d4 j4 p4 k4 ⊢
   refine e7 (.inl rfl) (c7 (l7 (n7 (A5 rfl (D9 _) E0 ⟨trivial,c6 (b6 rfl rfl (d9 (cH1 (F9 (by rw [j5]; exact ag hb (by decide)) ?_))))⟩))))
   rw [j5]
   refine e7 (.inl rfl) (c7 (o9 (B9 (w4 (r6 (b6 rfl rfl (E7 (j6 w) (bj0 w) bi9 m4 (by rw [w8,if_neg (by decide),w8,if_neg (by decide)]; exact lk1 (by decide) f3) (by intro _ q; cases q) (i9 (D4 rfl (T8 (l6 (b6 rfl rfl (j9 (aV2 (i9 (o5 (by simp; omega) (e6 (e6 ?_))))))))))))))))))
   exact h _ bj jk H3.length (bj+1+·) k4 m4 d4 p4 j4
end
end
section
set_option tactic.hygienic false
theorem aH5 (w:World):nsIn (KK w.params) cStatics iK=some none:=by kernel_rfl
section
variable {w:World} {E:i7} {H:List O} {d mi:Nat} {x:Str} {t:Nat} {va:V} {fs:List (Str×V)} {Q:V -> List O -> Prop}
noncomputable abbrev S8 (fs:List (Str×V)) (n:Str) (x:Str) (t:Nat):List (Str×V):=k7 (k7 (k7 fs n (.stk x t)) "matching_blocks" .none) "opcodes" .none
theorem bl9 (hl:H[mi]?=some (.inst 242 fs)) (fa:fs.lookup (aa "a")=some va) (hv:va=.none \/ ∃ y t',va=.stk y t') (hsz:fs.length <= 12)
 (hs:∀ y t',va=.stk y t' -> (t=t' \/ x=y) -> Q .none H) (hd:(∀ y t',va=.stk y t' -> t≠t') -> Q .none (H.set mi (.inst 242 (S8 fs "a" x t)))):i5 pP w (KK w.params) (d+1) E H (.st 174) [.ref mi,.stk x t] Q:=by
 refine E3 (cy5 w) (by rfl) (by rfl) ?_
 have e:r0 (i6 (c9 5 3)) ["self","a"] [.ref mi,.stk x t]=[nv "self" (.ref mi),nv "a" (.stk x t)]:=by rfl
 rw [e]
 have rest:(∀ y t',va=.stk y t' -> t≠t') -> WB pP w (KK w.params) ⟨i6 (c9 5 3),true,(q8 (U8 w.params)).code⟩ d (fun _ _ _=>False) [nv "self" (.ref mi),nv "a" (.stk x t)] H ((j0 (c9 5 3)).drop 2) (KFn Q):=fun hne=>by
  refine c7 (l7 (b6 rfl rfl (B0 (b6 rfl rfl (A8 (j6 w) (R9 w) R8 hl (ag hsz (by decide)) (c7 (M6 (O5 (B0 (b6 rfl rfl (A8 (j6 w) (ab4 w) ab3 (o7 hl) (ag L4 (ag (br hsz) (by decide))) ?_)))))))))))
  rw [db]
  refine B0 (b6 rfl rfl (A8 (j6 w) (ah2 w) ah1 (o7 hl) (ag L4 (ag (br L4) (ag (br (br hsz)) (by decide)))) ?_))
  rw [db]
  refine e6 ?_
  exact hd hne
 refine c7 (q9 (j7 (c7 (o9 (l6 (b6 rfl rfl (r6 (b6 rfl rfl (E7 (j6 w) (R9 w) R8 hl fa (by rcases hv with rfl | ⟨_,_,rfl⟩<;>(intro _ q; cases q)) ?_)))))))))
 skip
 rcases hv with rfl | ⟨y,t',rfl⟩
 · refine aa7 (b:=false) rfl ?_
   refine i9 (o5 (by decide) (e6 ?_))
   exact rest fun _ _ q=>nomatch q
 · refine bb4 (aH5 w) (fun hsm=>?_) fun hne=>?_
   · refine i9 ?_
     refine w9 rfl (c7 (aT6 ?_))
     exact hs y t' rfl hsm
   · refine i9 ?_
     refine o5 (by decide) (e6 ?_)
     exact rest fun _ _ q=>by cases q; exact hne
theorem bm0 {b:List Nat} (nd:b.Nodup) (hb:b.length <= 25) (hl:H[mi]?=some (.inst 242 fs)) (fb:fs.lookup (aa "b")=some va) (hv:va=.none \/ ∃ y t',va=.stk y t') (f2:fs.lookup (aa "isjunk")=some .none) (f3:fs.lookup (aa "autojunk")=some (.bool true)) (f4:fs.lookup (aa "_SequenceMatcher__chain_b")=none) (hsz:fs.length <= 12)
 (hs:∀ y t',va=.stk y t' -> (t=t' \/ S b=y) -> Q .none H)
 (hd:(∀ y t',va=.stk y t' -> t≠t') -> ∀ H' bj jk pp p,i8 H H' mi -> H'[mi]?=some (.inst 242 (S7 (k7 (S8 fs "b" (S b) t) "fullbcount" .none) bj jk pp)) -> H'[bj]?=some (dO (strKind pP w) (t6 b p)) -> (∀ j,j < b.length -> H'[p j]?=some (.list [.int (j:Nat)])) -> H'[jk]?=some (sO (strKind pP w) (fun _=>false) 0) -> Q .none H') :
 i5 pP w (KK w.params) (d+3) E H (.st 181) [.ref mi,.stk (S b) t] Q:=by
 refine E3 (cy6 w) (by rfl) (by rfl) ?_
 have e:r0 (i6 (c9 5 4)) ["self","b"] [.ref mi,.stk (S b) t]=[nv "self" (.ref mi),nv "b" (.stk (S b) t)]:=by rfl
 rw [e]
 have rest:(∀ y t',va=.stk y t' -> t≠t') -> WB pP w (KK w.params) ⟨i6 (c9 5 4),true,(q8 (U9 w.params)).code⟩ (d+2) (fun _ _ _=>False) [nv "self" (.ref mi),nv "b" (.stk (S b) t)] H ((j0 (c9 5 4)).drop 2) (KFn Q):=fun hne=>by
  refine c7 (l7 (b6 rfl rfl (B0 (b6 rfl rfl (A8 (j6 w) (P8 w) P7 hl (ag hsz (by decide)) (c7 (M6 (O5 (B0 (b6 rfl rfl (A8 (j6 w) (ab4 w) ab3 (o7 hl) (ag L4 (ag (br hsz) (by decide))) ?_)))))))))))
  rw [db]
  refine B0 (b6 rfl rfl ?_)
  have l2:(k7 (k7 fs "b" (.stk (S b) t)) "matching_blocks" .none).length <= 14:=ag L4 (br (ag L4 (br hsz)))
  have l3:(S8 fs "b" (S b) t).length <= 15:=ag L4 (br l2)
  refine A8 (j6 w) (ah2 w) ah1 (o7 hl) (ag l2 (by decide)) ?_
  rw [db]
  refine c7 (l7 (O5 (B0 (b6 rfl rfl (A8 (j6 w) (ap1 w) ap0 (o7 hl) (ag l3 (by decide)) ?_)))))
  rw [db]
  have m1:=o7 (o':=.inst 242 (k7 (S8 fs "b" (S b) t) "fullbcount" .none)) hl
  have k1:=(i8.pre (az H) mi).set (.inst 242 (k7 (S8 fs "b" (S b) t) "fullbcount" .none))
  generalize H.set mi _=H1 at m1 k1 ⊢
  refine c7 (q9 (o6 (pl:=fun _=>_) (b6 rfl rfl ((i0 _ (G2 (j6 w) (cB8 w) (by kernel_rfl:(KK w.params).lookup 188=some (Y3 w.params)) rfl cB9 m1 ?_) (cy8 w) ?_)))))
  · rw [w8,if_neg (by decide),w8,if_neg (by decide),w8,if_neg (by decide),w8,if_neg (by decide)]; exact f4
  refine d9 (cH2 (d:=d) nd hb m1 (by rw [w8,if_neg (by decide),w8,if_neg (by decide),w8,if_neg (by decide),w8,if_pos rfl]) (by rw [w8,if_neg (by decide),w8,if_neg (by decide),w8,if_neg (by decide),w8,if_neg (by decide)]; exact f2) (by rw [w8,if_neg (by decide),w8,if_neg (by decide),w8,if_neg (by decide),w8,if_neg (by decide)]; exact f3) (ag L4 (ag (br l3) (by decide))) fun H2 bj jk pp p k2 m2 h1 h2 h3=>(e6 ?_))
  exact hd hne H2 bj jk pp p (k1.trans k2) m2 h1 h2 h3
 refine c7 (q9 (j7 (c7 (o9 (l6 (b6 rfl rfl (r6 (b6 rfl rfl (E7 (j6 w) (P8 w) P7 hl fb (by rcases hv with rfl | ⟨_,_,rfl⟩<;>(intro _ q; cases q)) ?_)))))))))
 skip
 rcases hv with rfl | ⟨y,t',rfl⟩
 · refine aa7 (b:=false) rfl ?_
   refine i9 (o5 (by decide) (e6 ?_))
   exact rest fun _ _ q=>nomatch q
 · refine bb4 (aH5 w) (fun hsm=>?_) fun hne=>?_
   · refine i9 ?_
     refine w9 rfl (c7 (aT6 ?_))
     exact hs y t' rfl hsm
   · refine i9 ?_
     refine o5 (by decide) (e6 ?_)
     exact rest fun _ _ q=>by cases q; exact hne
end
end
section
set_option tactic.hygienic false
structure s7 (w:World) (H:List O) (mi:Nat) (a b:List Nat) (ta tb:Nat):Prop where
 ex:∃ mb oc fc bj jk pp p,r8 w H mi a b ta tb mb oc fc bj jk pp p /\ N1 H a b mb /\ ah4 H a b oc /\ ac0 w H b fc
section
variable {w:World} {E:i7} {H:List O} {d mi:Nat} {a b:List Nat} {ta tb t:Nat} {Q:V -> List O -> Prop}
theorem cH3 {a':List Nat} (I:s7 w H mi a b ta tb) (hu:t=ta -> a'=a) (h:∀ H' ta',i8 H H' mi -> s7 w H' mi a' b ta' tb -> (ta'=t \/ ta'=ta /\ a'=a) -> Q .none H'):i5 pP w (KK w.params) (d+1) E H (.st 174) [.ref mi,.stk (S a') t] Q:=by
 (refine V7 (I.ex) fun mb oc fc bj jk pp p S0 h1 h2 h3=>?_)
 refine bl9 S0.o (by rfl) (.inr (l8 _ _ rfl)) (by show 10 <= 12; decide) (fun y t' e hs=>?_) fun hd=>?_
 · cases e
   have ea:a'=a:=hs.elim hu fun q=>am2.mp q
   exact h H ta (.pre (az _) _) (ea▸I) (.inr ⟨rfl,ea⟩)
 · have k1:=(i8.pre (az H) mi).set (.inst 242 (S8 (B2 (.stk (S a) ta) (.stk (S b) tb) mb oc fc (.ref bj) (.ref jk) (.ref pp)) "a" (S a') t))
   have m1:(H.set mi (.inst 242 (S8 (B2 (.stk (S a) ta) (.stk (S b) tb) mb oc fc (.ref bj) (.ref jk) (.ref pp)) "a" (S a') t)))[mi]?=some (.inst 242 (B2 (.stk (S a') t) (.stk (S b) tb) .none .none fc (.ref bj) (.ref jk) (.ref pp))):=o7 S0.o
   generalize H.set mi _=H1 at k1 m1 ⊢
   have S1:=S0.put (mb':=mb) (oc':=oc) (fc':=fc) (H':=H.set mi (.inst 242 (B2 (.stk (S a) ta) (.stk (S b) tb) mb oc fc (.ref bj) (.ref jk) (.ref pp)))) ((i8.pre (az H) mi).set _) (o7 S0.o)
   have ne:∀ {i:Nat} {o:O},H[i]?=some o -> (∀ C fs,o≠.inst C fs) -> i≠mi:=fun e hn q=>by
    subst q; rw [S0.o] at e; cases e; exact hn _ _ rfl
   exact h H1 t k1 ⟨_,_,_,_,_,_,_,⟨m1,k1 _ _ (ne S0.d fun _ _ q=>nomatch q) S0.d,fun j hj=>k1 _ _ (ne (S0.l j hj) fun _ _ q=>nomatch q) (S0.l j hj),k1 _ _ (ne S0.s fun _ _ q=>nomatch q) S0.s⟩,.inl rfl,.inl rfl,h3.kp S0.o k1⟩ (.inl rfl)
theorem cH4 {b':List Nat} (I:s7 w H mi a b ta tb) (nd:b'.Nodup) (hb:b'.length <= 25) (hu:t=tb -> b'=b) (h:∀ H' tb',i8 H H' mi -> s7 w H' mi a b' ta tb' -> (tb'=t \/ tb'=tb /\ b'=b) -> Q .none H'):i5 pP w (KK w.params) (d+3) E H (.st 181) [.ref mi,.stk (S b') t] Q:=by
 (refine V7 (I.ex) fun mb oc fc bj jk pp p S0 h1 h2 h3=>?_)
 refine bm0 nd hb S0.o (by rfl) (.inr (l8 _ _ rfl)) (by rfl) (by rfl) (by rfl) (by show 10 <= 12; decide) (fun y t' e hs=>?_) fun hd H' bj' jk' pp' p' k1 m1 g1 g2 g3=>?_
 · cases e
   have eb:b'=b:=hs.elim hu fun q=>am2.mp q
   exact h H tb (.pre (az _) _) (eb▸I) (.inr ⟨rfl,eb⟩)
 · exact h H' t k1 ⟨_,_,_,bj',jk',pp',p',⟨m1,g1,g2,g3⟩,.inl rfl,.inl rfl,.inl rfl⟩ (.inl rfl)
theorem cH5 (I:s7 w H mi a b ta tb) (ha:a.length <= 25) (hb:b.length <= 25) (h0:a.length≠0) (h:Q (.flt (B1 (min a.length b.length) (a.length+b.length))) H):i5 pP w (KK w.params) (d+2) E H (.st 239) [.ref mi] Q:=by
 (refine V7 (I.ex) fun mb oc fc bj jk pp p S0 h1 h2 h3=>?_)
 exact cF9 S0 ha hb h0 h
theorem cH6 (R:Rows a b) (I:s7 w H mi a b ta tb) (ha:a.length <= 25) (hb:b.length <= 25) (h0:a.length≠0) (h:∀ H',i8 H H' mi -> s7 w H' mi a b ta tb -> Q (.flt (B1 (common a b) (a.length+b.length))) H'):i5 pP w (KK w.params) (d+2) E H (.st 232) [.ref mi] Q:=by
 (refine V7 (I.ex) fun mb oc fc bj jk pp p S0 h1 h2 h3=>?_)
 exact cG2 R S0 h3 ha hb h0 fun H' fc' k S1 f=>h H' k ⟨_,_,_,_,_,_,_,S1,h1.kp S0.o k,h2.kp S0.o k,f⟩
theorem cH7 {i:Nat} {ps:Array Value} (R:Rows a b) (I:s7 w H mi a b ta tb) (hT:H[i]?=some (.tbl 220 ps)) (ha:a.length <= 25) (hb:b.length <= 25) (h0:a.length≠0) (h:∀ H',i8 H H' mi -> s7 w H' mi a b ta tb -> Q (.flt (B1 (common a b) (a.length+b.length))) H'):i5 pP w (KK w.params) (d+6) E H (.st 225) [.ref mi] Q:=by
 (refine V7 (I.ex) fun mb oc fc bj jk pp p S0 h1 h2 h3=>?_)
 exact cG5 R S0 h1 hT ha hb h0 fun H' mb' k S1 m=>h H' k ⟨_,_,_,_,_,_,_,S1,m,h2.kp S0.o k,h3.kp S0.o k⟩
theorem cH8 (R:Rows a b) (I:s7 w H mi a b ta tb) (ha:a.length <= 25) (hb:b.length <= 25) (h:∀ H' an bs,i8 H H' mi -> s7 w H' mi a b ta tb -> H'[an]?=some (.list ((u6 0 0 bs).map S6)) -> u0 a b 0 0 bs -> U5 a b bs -> Q (.ref an) H'):i5 pP w (KK w.params) (d+6) E H (.st 210) [.ref mi] Q:=by
 (refine V7 (I.ex) fun mb oc fc bj jk pp p S0 h1 h2 h3=>?_)
 exact cF8 R S0 h1 h2 ha hb fun H' mb' an bs k S1 m l C hl=>h H' an bs k ⟨_,_,_,_,_,_,_,S1,m,.inr (N7 an bs rfl l C hl),h3.kp S0.o k⟩ l C hl
noncomputable abbrev fs4:List (Str×V):=[("isjunk",.none),("a",.none),("b",.none),("autojunk",.bool true)]
theorem cH9 (hl:H[mi]?=some (.inst 242 fs4)) (h:∀ H',i8 H H' mi -> s7 w H' mi [] [] 404 405 -> Q .none H'):i5 pP w (KK w.params) (d+4) E H (.st 167) [.ref mi,.stk "" 404,.stk "" 405] Q:=by
 refine E3 (cy3 w) (by rfl) (by rfl) ?_
 have e:r0 (i6 (c9 5 2)) ["self","a","b"] [.ref mi,.stk "" 404,.stk "" 405]=[nv "self" (.ref mi),nv "a" (.stk "" 404),nv "b" (.stk "" 405)]:=by rfl
 rw [e]
 refine c7 (q9 (j7 (c7 (q9 (o6 (pl:=fun _=>_) (b6 rfl rfl ((i0 _ (G2 (j6 w) (bj5 w) (by kernel_rfl:(KK w.params).lookup 174=some (U8 w.params)) rfl bj6 hl (by rfl)) (bh3 w) ?_))))))))
 refine c6 (b6 rfl rfl (d9 (bl9 hl (by rfl) (.inl rfl) (by decide) (fun _ _ q=>nomatch q) fun _=>?_)))
 have k1:=(i8.pre (az H) mi).set (.inst 242 (S8 fs4 "a" "" 404))
 have m1:=o7 (o':=.inst 242 (S8 fs4 "a" "" 404)) hl
 generalize H.set mi _=H1 at k1 m1 ⊢
 refine c7 (q9 (o6 (pl:=fun _=>_) (b6 rfl rfl ((i0 _ (G2 (j6 w) (bj7 w) (by kernel_rfl:(KK w.params).lookup 181=some (U9 w.params)) rfl bj8 m1 (by rfl)) (bh4 w) ?_)))))
 refine c6 (b6 rfl rfl (d9 (bm0 (b:=[]) .nil (bm _) m1 (by rfl) (.inl rfl) (by rfl) (by rfl) (by rfl) (by decide) (fun _ _ q=>nomatch q) fun _ H' bj jk pp p k2 m2 g1 g2 g3=>(e6 ?_))))
 exact h H' (k1.trans k2) ⟨_,_,_,bj,jk,pp,p,⟨m2,g1,g2,g3⟩,.inl rfl,.inl rfl,.inl rfl⟩
theorem cI0 (w:World) (s:Shared) (us:List Value) (B:Bs w (KK w.params) s.heap) (hu:us.length=2):BindsTo s (q8 (Y2 w.params)) ⟨us,[]⟩ ((["self","isjunk","a","b","autojunk"]:List Str).zip (us++[.str "" 404,.str "" 405,.bool true])):=by
 (refine w0 (X1 hu) fun a0 a1 qz1=>?_; subst qz1)
 exact BindsTo.of_defaults (T:=153) (o:=ar8 w.params) (n:=0) (items:=#[.none,.str "" 404,.str "" 405,.bool true]) (by rfl) (B.k _ _ (by kernel_rfl)) (by rfl) (by rfl) (by rfl)
theorem cI1 (hl:H[mi]?=some (.inst 242 [])) (h:∀ H',i8 H H' mi -> s7 w H' mi [] [] 404 405 -> Q .none H'):i5 pP w (KK w.params) (d+5) E H (.st 160) [.ref mi,.none] Q:=by
 refine al8 (ds:=[.stk "" 404,.stk "" 405,.bool true]) (dv:=[.str "" 404,.str "" 405,.bool true]) (cy2 w) (by rfl) (by rfl) (fun ρ h=>.cons (ag3 (by decide)) (.cons (ag3 (by decide)) (.cons (by unfold VR; rfl) .nil))) (fun s us B hu=>cI0 w s us B hu) ?_
 have e:r0 (i6 (c9 5 1)) ["self","isjunk","a","b","autojunk"] ([.ref mi,.none]++[.stk "" 404,.stk "" 405,.bool true])=[nv "self" (.ref mi),nv "isjunk" .none,nv "a" (.stk "" 404),nv "b" (.stk "" 405),nv "autojunk" (.bool true)]:=by rfl
 rw [e]
 refine c7 (q9 (j7 (c7 (l7 (b6 rfl rfl (B0 (b6 rfl rfl (A8 (j6 w) (bi8 w) bi7 hl (by decide) (c7 (M6 (O5 (B0 (b6 rfl rfl (A8 (j6 w) (R9 w) R8 (o7 hl) (by decide) ?_))))))))))))))
 rw [db]
 refine B0 (b6 rfl rfl (A8 (j6 w) (P8 w) P7 (o7 hl) (by decide) ?_))
 rw [db]
 refine c7 (l7 (b6 rfl rfl (B0 (b6 rfl rfl (A8 (j6 w) (bj0 w) bi9 (o7 hl) (by decide) ?_)))))
 rw [db]
 refine c7 (q9 (o6 (pl:=fun _=>_) (b6 rfl rfl ?_)))
 have m1:(H.set mi (.inst 242 fs4))[mi]?=some (.inst 242 fs4):=o7 hl
 have k1:=(i8.pre (az H) mi).set (.inst 242 fs4)
 refine (i0 _ (G2 (j6 w) (cB6 w) (by kernel_rfl:(KK w.params).lookup 167=some (ac9 w.params)) rfl cB7 m1 (by rfl)) (cy4 w) ?_)
 refine c6 (b6 rfl rfl (c6 (b6 rfl rfl (d9 (cH9 (d:=d) m1 fun H' k2 I=>(e6 ?_))))))
 exact h H' (k1.trans k2) I
theorem cI2 (h:∀ H',i8 (H++[.inst 242 []]) H' H.length -> s7 w H' H.length [] [] 404 405 -> Q (.ref H.length) H'):i5 pP w (KK w.params) (d+6) E H (.st 242) [.none] Q :=
 aY5 (oI:=Y2 w.params) (j6 w) (by kernel_rfl:nsIn (KK w.params) 241 "__init__"=some (some (.ref 160))) (by kernel_rfl) (by rfl) (cI1 (d:=d) af fun H' k I=>⟨rfl,h H' k I⟩)
end
end
section
set_option tactic.hygienic false
theorem cI3:("\tab cd\x0cefgh\x0dijklmnopqrst":Str)=S AL:=by decide
theorem bm1 {k:Nat} (hk:k < 24):AL[k]?=some (AL.getD k 0):=by
 rw [bo]
 have:k < AL.length:=hk
 rw [aq this]; rfl
noncomputable def vK (n:Int):V -> Bool | .int k=>ag9 n k.toNat | _=>false
noncomputable def vC:V -> V | .int k=>.str (S [AL.getD k.toNat 0]) | v=>v
theorem cI4 (n:Int):((((cB 24).map fun i=>V.int (i:Nat)).filter (vK n)).map vC)=((D8 n).map fun c=>S [c]).map V.str:=by
 unfold D8
 rw [List.filter_map,bu,bu,bu]
 rfl
theorem bm2:∀ cs:List Nat,(((cs.map fun c=>S [c]).map (·.length)).sum:Nat)=cs.length
 | []=>rfl
 | c::r=>by
  rw [aR,aR,hZ,bm2 r,cb]
  show 1+_=_
  exact aR3
theorem cI5 (cs:List Nat):fF (S []) (cs.map fun c=>S [c])=S cs:=by
 have:=aB2 (cs.map fun c=>[c])
 rw [bu] at this
 rw [show (cs.map fun c=>S [c])=cs.map (S∘fun c=>[c]) from rfl,this]
 congr 1
 clear this
 induction cs with
 | nil=>rfl
 | cons c r ih=>rw [aR,iL,ih]; rfl
section
variable {w:World} {E:i7} {H:List O} {d c n:Nat} {Q:V -> List O -> Prop}
theorem bm3 {x:Int} (hc:H[c]?=some (.clk n)) (h:∀ H' t,(∀ j o,j≠c -> H[j]?=some o -> H'[j]?=some o) -> H.length <= H'.length -> (∃ m,n <= m /\ t < m /\ H'[c]?=some (.clk m)) -> n <= t -> t≠0 -> Q (.stk (S (n8 x)) t) H'):i5 pP w (KK w.params) (d+1) E H (.st 322) [.int x] Q:=by
 refine E3 (cA0 w) (by rfl) (by rfl) ?_
 have e:r0 (i6 (m7 9)) ["number"] [.int x]=[nv "number" (.int x)]:=by rfl
 rw [e]
 refine c7 (E5 (g8 (o6 (pl:=fun _=>_) (j7 ((i0 _ aA7 trivial (c6 (Z8 ⟨by decide,by decide,by rfl,by dsimp only; decide⟩ (n7 (M0 rfl (bh7 _) bh8 ⟨trivial,c6 (j9 (d9 (cc4 (af2 (vK x) vC (ce5 (n:=24) (by decide)) trivial (by decide) ?_ ?_))))⟩))))))))))
 · intro v hv
   (refine b9 (aV.mp hv) fun k hk qz1=>?_; subst qz1)
   have hk:k < 24:=cQ.mp hk
   refine e7 (.inl rfl) ⟨rfl,?_⟩
   show WT _ _ _ _ _ _ _ _ _ _
   refine l6 (g8 (g8 (al0 rfl rfl (g8 (j9 (b6 rfl rfl (cv2 (by assumption) (cv3 (by assumption) (j9 (aU9 (by decide) (j9 (aV1 (i9 ((e9 rfl (by show _=ag9 x k; rfl) (fun _=>(A9 (j7 (b6 rfl rfl ?_)))))))))))))))))))
   rw [cI3]
   refine P1 (bm1 hk) (by decide) ⟨rfl,rfl⟩
 rw [cI4]
 refine aA8 (ys:=(D8 x).map fun c=>S [c]) (.inl af) ?_ ?_
 · rw [bm2]
   have:=aF7 x
   show _+_*0 <= _
   exact bS4 this
 rw [show (aa "")=S [] from rfl,cI5]
 have hc1:(H++[O.list (((D8 x).map fun c=>S [c]).map V.str)])[c]?=some (.clk n):=by
  rw [bf (ae.mp hc).1]; exact hc
 have hp:∀ j o,H[j]?=some o -> (H++[O.list (((D8 x).map fun c=>S [c]).map V.str)])[j]?=some o:=fun j o e=>by
  rw [bf (ae.mp e).1]; exact e
 have hl:H.length <= (H++[O.list (((D8 x).map fun c=>S [c]).map V.str)]).length:=by rw [aE]; exact aQ9
 generalize H++[O.list (((D8 x).map fun c=>S [c]).map V.str)]=H1 at hc1 hp hl ⊢
 refine cu8 hc1 fun t h1 h2=>?_
 have hc2:(H1.set c (.clk (t+1)))[c]?=some (.clk (t+1)):=bT (ae.mp hc1).1
 refine cu9 hc2 (by decide) ?_ (fun h0=>?_) fun h0 t' h1' h2'=>?_
 · rw [j5]
   have:=aF7 x
   show _+1 <= 16777216
   exact bS5 this
 · have e0:D8 x=[]:=dl.mp (by rw [j5] at h0; exact h0)
   refine (show Q (.stk "\n" t) (H1.set c (.clk (t+1))) from ?_)
   have e1:n8 x=[10]:=by unfold n8; rw [e0]; rfl
   have:=h (H1.set c (.clk (t+1))) t (fun j o hj e=>by rw [bZ (cP hj)]; exact hp _ _ e) (by rw [bH]; exact hl) (i0 (t+1) (by exact bS6 h1) (by exact ak1) hc2) h1 h2
   rw [e1] at this
   exact this
 · refine (show Q (.stk (S (D8 x)++S [10]) t') ((H1.set c (.clk (t+1))).set c (.clk (t'+1))) from ?_)
   rw [M4,db]
   exact h (H1.set c (.clk (t'+1))) t' (fun j o hj e=>by rw [bZ (cP hj)]; exact hp _ _ e) (by rw [bH]; exact hl) (i0 (t'+1) (by exact bS7 h1 h1') (by exact ak1) (bT (ae.mp hc1).1)) (by exact bS8 h1 h1') h2'
end
end
section
set_option tactic.hygienic false
noncomputable def aq1 (row other:List Nat) (al:Nat):List V:=if X9 row other al=[] then [] else [.str (S (63::32::X9 row other al++[10]))]
noncomputable abbrev nm8 (row other:List Nat) (al:Nat) (s:List Nat×List Nat×List Nat) (ov:Option V):b8:=[nv "row" (.str (S row)),nv "other" (.str (S other)),nv "alone" (.str (S [al])),nv "marks" (.str (S s.1)),nv "mine" (.str (S s.2.1)),nv "theirs" (.str (S s.2.2)),(aa "sign",ov)]
inductive MkJ (row other:List Nat) (al:Nat) (H:List O) (i:Nat):b8 -> List O -> Prop
 | mk {ov} :MkJ row other al H i (nm8 row other al (F2 other al (row.take i)) ov) H
inductive WhJ (row other:List Nat) (al:Nat) (M m2 m3:List Nat) (H:List O) (n:Nat):b8 -> List O -> Prop
 | mk {ov} (hn:n <= M.length) (hw:∀ c∈M.drop n,C9 c=true) :WhJ row other al M m2 m3 H n (nm8 row other al (M.take n,m2,m3) ov) H
theorem cI6 {l:List Nat} {c:Nat}:Txt.item (S (l++[c])) (-1)=S [c]:=by
 unfold Txt.item Txt.charAt
 rw [j5,aE]
 rw [show seqIndex? (-1) (l.length+[c].length)=some l.length from bV5 _]
 show (⟨#[((S (l++[c])).cps[l.length]?).getD 0]⟩:Str)=_
 have:(S (l++[c])).cps[l.length]?=some c:=by simp [S]
 rw [this]; rfl
theorem cI7 {α:Type} (xs:List α):pick xs none (some (-1)) none=xs.take (xs.length - 1):=by
 rw [af3]
 show (xs.drop 0).take ((max 0 (min (if (-1:Int) < 0 then (-1:Int)+xs.length else -1) (xs.length:Int))).toNat - 0)=_
 rw [if_pos (by decide),dI]
 congr 1
 cases xs.length with
 | zero=>rfl
 | succ n=>rw [Int.natCast_succ,Int.add_comm (n:Int) 1,Int.neg_add_cancel_left,Int.min_eq_left (Int.le_add_of_nonneg_left (by decide)),Int.max_eq_right (bK n)]; rfl
section
variable {w:World} {E:i7} {H:List O} {d:Nat} {row other:List Nat} {al:Nat} {Q:V -> List O -> Prop}
theorem bm4 (hs:bg6 row other al) (hr:row.length <= 25) (ho:other.length <= 25) (h:Q (.ref H.length) (H++[.list (aq1 row other al)])):i5 pP w (KK w.params) (d+1) E H (.st 329) [.str (S row),.str (S other),.str (S [al])] Q:=by
 refine E3 (cA1 w) (by rfl) (by rfl) ?_
 have e:r0 (i6 (m7 10)) ["row","other","alone"] [.str (S row),.str (S other),.str (S [al])]=[nv "row" (.str (S row)),nv "other" (.str (S other)),nv "alone" (.str (S [al])),nn "marks",nn "mine",nn "theirs",nn "sign"]:=by rfl
 rw [e]
 refine c7 (M1 (xs:=["marks","mine","theirs"]) (ah3 (by rfl) (by rfl) (by rfl)) ?_ (fun env he=>by unfold bR de cJ; rw [he]; rfl))
 refine y5 (c6 (j7 (c6 (j7 (c6 (b6 rfl rfl (d9 ⟨by show 3 <= aB; decide,(G1 rfl ⟨rfl,(c7 (X2 (b6 rfl rfl ((L7 _ _ am3 (fun n m H'=>MkJ row other al H n m H') .mk (fun _ _ _ _=>trivial) ?_ ?_)))))⟩)⟩)))))))
 · intro n v m H' hv J
   rw [aU] at hv
   (refine b9 (bp.mp hv) fun c hc qz1=>?_; subst qz1)
   obtain @⟨ov⟩:=J
   have hsk:=hs n c hc
   have htk:row.take (n+1)=row.take n++[c]:=by rw [eZ,hc]; rfl
   have hln:=aG0 (other:=other) (al:=al) _ (row.take n) rfl
   have hnn:(row.take n).length <= 25:=ag (by rw [bQ]; exact ed _ _) hr
   have hth:=bg5 (other:=other) (al:=al) _ (row.take n) rfl
   generalize er:F2 other al (row.take n)=r at hsk hln hth ⊢
   have er1:F2 other al (row.take (n+1))=z8 other al r c:=by rw [htk,ao6,er]
   refine e7 (.inl (by rfl)) (c7 (o9 (l6 (b6 rfl rfl (b6 rfl rfl (am4 (i9 ?_)))))))
   by_cases hin:c∈other
   · rw [show decide (c∈(S other).cps.toList)=true from decide_eq_true hin]
     have hit:=hsk hin
     have hidx:r.2.2.idxOf c < r.2.2.length:=eT hit
     have e2:z8 other al r c=(r.1++aZ r.2.1.length (if 0 < r.2.2.idxOf c then 94 else al)++[if C9 c=true then c else 32],[],r.2.2.drop (r.2.2.idxOf c+1)):=by unfold z8; rw [if_pos hin]
     refine w9 rfl (c7 (af7 (.inl rfl) rfl (g8 (aC2 (l6 (o6 (pl:=fun _=>_) (b6 rfl rfl ((i0 _ be5 trivial (c6 (b6 rfl rfl (d9 (be6 hit (j9 (X0 (i9 (be7 (.str (S [if 0 < r.2.2.idxOf c then 94 else al])) (fun q=>?_) (fun q=>?_) ?_)))))))))))))))))
     · rw [if_pos (by simpa using q)]
       refine j7 ?_
       exact ⟨rfl,rfl⟩
     · rw [if_neg (by simpa using q)]
       refine b6 rfl rfl ?_
       exact ⟨rfl,rfl⟩
     refine n7 (A5 rfl (D9 _) E0 ⟨trivial,c6 (b6 rfl rfl (d9 (F9 (by rw [j5]; show _ <= 16777216; exact aR4 hnn hln) ?_)))⟩)
     rw [j5]
     skip
     refine aE9 (by exact aR4 hnn hln) ?_
     skip
     refine az9 (by rw [j5,j5,cD]; show _ <= 16777216; exact bS9 hnn hln) ?_
     rw [M4]
     refine c7 (af7 (.inl rfl) rfl (aC2 (l6 (b6 rfl rfl (j7 (am4 (i9 ?_)))))))
     rw [show decide (c∈(aa "\t \x0c\x0d\n").cps.toList)=C9 c from rfl]
     refine be7 (.str (S [if C9 c=true then c else 32])) (fun q=>?_) (fun q=>?_) ?_
     · rw [if_pos q]
       refine b6 rfl rfl ?_
       exact ⟨rfl,rfl⟩
     · rw [if_neg q]
       refine j7 ?_
       exact ⟨rfl,rfl⟩
     skip
     refine az9 (by rw [j5,j5,aE,cD]; show _+1 <= 16777216; exact bT0 hnn hln) ?_
     rw [M4]
     refine c7 (M1 (xs:=["mine","theirs"]) (ab8 (by rfl) (by rfl)) ?_ (fun env he=>by unfold bR de cJ; rw [he]; rfl))
     refine y5 (c6 (j7 (c6 (aC3 (b6 rfl rfl (aB0 (g8 (o6 (pl:=fun _=>_) (b6 rfl rfl ((i0 _ be5 trivial (c6 (b6 rfl rfl (d9 (be6 hit (j9 (s8 (aa2 (aa2 (aV9 (lo:=some ((r.2.2.idxOf c+1:Nat):Int)) (hi:=none) rfl rfl (by rw [j5]; show _ <= 16777216; exact bT1 ho hth) ?_))))))))))))))))))))
     rw [aY8,cj8]
     refine d9 ⟨by show 2 <= aB; decide,(G1 rfl ⟨rfl,(e6 (e6 ?_))⟩)⟩
     rw [e2] at er1
     have:=@MkJ.mk row other al H (n+1) (some (.str (S [c])))
     rw [er1] at this
     exact this
   · rw [show decide (c∈(S other).cps.toList)=false from decide_eq_false hin]
     have e2:z8 other al r c=(r.1,r.2.1++[c],r.2.2):=by unfold z8; rw [if_neg hin]
     refine o5 bL (c7 (af7 (.inl rfl) rfl (b6 rfl rfl (az9 (by rw [j5]; show _+1 <= 16777216; exact bT2 hnn hln) ?_))))
     rw [M4]
     refine e6 (e6 ?_)
     rw [e2] at er1
     have:=@MkJ.mk row other al H (n+1) (some (.str (S [c])))
     rw [er1] at this
     exact this
 · intro m H' J
   rw [aD] at J
   obtain @⟨ov⟩:=J
   rw [dE]
   have hln:=aG0 (other:=other) (al:=al) _ row rfl
   have eM:X9 row other al=ah0 (F2 other al row).1:=rfl
   unfold aq1 at h
   rw [eM] at h
   generalize F2 other al row=r at hln h ⊢
   refine c7 (cv6 (Q:=fun f m H'=>f=.next /\ ∃ n ov,m=nm8 row other al (r.1.take n,r.2.1,r.2.2) ov /\ H'=H /\ n <= r.1.length /\ ah0 r.1=r.1.take n) (Z6 (fun n m H'=>WhJ row other al r.1 r.2.1 r.2.2 H n m H') r.1.length ?_ ?_) fun f m H'=>bu9 fun ef n ov em eH hn es=>?_)
   · have:=@WhJ.mk row other al r.1 r.2.1 r.2.2 H r.1.length ov (ao _) (by rw [List.drop_length]; intro c hc; cases hc)
     rw [dE] at this
     exact this
   rintro n m H' J
   obtain @⟨ov,hn,hw⟩:=J
   refine B9 (l6 (b6 rfl rfl (j7 (aV5 (i9 ?_)))))
   cases n with
    | zero =>
     refine E6 (by show ¬ (S [] !=aa "")=true; decide) ?_
     exact (aM4 rfl 0 ov rfl rfl hn (aG1 hw rfl))
    | succ k =>
     have hk:k < r.1.length:=hn
     have etk:r.1.take (k+1)=r.1.take k++[r.1[k]]:=by rw [eZ,aq hk]; rfl
     have hlt:(r.1.take (k+1)).length=k+1:=by rw [bQ]; exact bT3 hn
     refine D4 (by show (S (r.1.take (k+1)) !=aa "")=true; rw [show (aa "")=S [] from rfl,aX3,etk,decide_eq_false (List.append_ne_nil_of_right_ne_nil _ (ee _ _))]; rfl) (T8 (l6 (A9 (b6 rfl rfl (aZ5 (j9 (aV3 (aV7 ⟨by rw [j5,hlt]; exact (ax2 k).1,by rw [j5,hlt]; exact (ax2 k).2⟩ (by rw [j5,hlt]; show _ <= 16777216; exact aR5 hr hln hn hlt) ?_))))))))
     show KC1 pP w (KK w.params) _ _ _ _ _ _ _ (.str (Txt.item (S (r.1.take (k+1))) (-1))) H
     rw [etk,cI6]
     refine j7 (am4 (i9 ?_))
     have hdr:r.1.drop k=r.1[k]::r.1.drop (k+1):=cW hk
     by_cases hwk:C9 r.1[k]=true
     · refine (if_pos hwk).mpr ?_
       refine c7 (l7 (aC3 (b6 rfl rfl (aa2 (aB0 (aZ5 (j9 (aV3 (aa2 (aV9 (lo:=none) (hi:=some (-1)) rfl rfl (by rw [j5,<- etk,hlt]; show _ <= 16777216; exact aR5 hr hln hn hlt) ?_))))))))))
       rw [aY8,cI7,aE,show (r.1.take k).length+[r.1[k]].length - 1=(r.1.take k).length from rfl,List.take_left]
       refine e7 (.inl rfl) (e6 ?_)
       exact (c5 k (cK k) (.mk (Nat.le_of_lt hk) (fun c hc=>by rw [hdr] at hc; rcases aJ.mp hc with q | q; exact q▸hwk; exact hw c q)))
     · refine (if_neg hwk).mpr ?_
       exact (aM4 rfl (k+1) ov (by rw [etk]) rfl hn (aG1 hw (by rw [etk,List.getLast?_concat]; simpa using hwk)))
   subst ef em eH
   rw [es] at h
   have hlt:(r.1.take n).length <= 25:=by rw [bQ]; exact ag (ed _ _) (ag (bd _ _) (hln▸hr))
   generalize r.1.take n=M at h hlt ⊢
   refine c7 (E5 (aC2 (l6 (b6 rfl rfl (j7 (aV5 (i9 ?_)))))))
   rw [show (aa "")=S [] from rfl,aX3]
   by_cases h0:M=[]
   · rw [if_pos h0] at h
     refine aZ7 (by rw [decide_eq_true h0]; decide) (G3 (d9 ?_))
     exact ⟨by show 0 <= aB; decide,h⟩
   · rw [if_neg h0] at h
     refine aZ6 (by rw [decide_eq_false h0]; rfl) (G3 (c6 (g8 (g8 (j7 (b6 rfl rfl ?_))))))
     rw [show (aa "? ")=S [63,32] from rfl]
     refine K1 (by rw [j5,j5]; show 2+M.length <= 16777216; exact bT4 hlt) ?_
     rw [M4]
     refine j7 ?_
     rw [show (aa "\n")=S [10] from rfl]
     refine K1 (by rw [j5,j5,aE]; show 2+M.length+1 <= 16777216; exact bT5 hlt) ?_
     rw [M4]
     refine d9 ?_
     exact ⟨by show 1 <= aB; decide,h⟩
end
end
section
set_option tactic.hygienic false
theorem bm5 (w:World):nsIn (KK w.params) aT "_keep_original_ws"=some (some (.ref 253)):=by kernel_rfl
theorem bm6 (w:World):t8 (KK w.params) (.st 253):=by show keepIn _ _=true; kernel_rfl
theorem cI8 (w:World):y3 (KK w.params) 253 (ai3 w.params) (q8 (ai3 w.params)) (j0 (m7 6)) (i6 (m7 6)) ["s","tag_s"] where
 hsc:=by rfl
 hK:=by kernel_rfl
 hd:=by rfl
 hb:=by rfl
 hg:=by rfl
 hbl:=by rfl
 hcl:=by rfl
 hcd:=(t7 252 (ad3 w.params) _ _ (by rfl) (by kernel_rfl) (by rfl) (by rfl))
 hbd:=fun us hu=>by (refine w0 (X1 hu) fun a0 a1 qz1=>?_; subst qz1); rfl
 hps:=by decide
 hnd:=by decide
 hkd:=by decide
 hco:=by rfl
 hk:=by rfl
 hnf:=by decide
theorem cI9 (w:World):nsIn (KK w.params) aT "zip"=some none:=by kernel_rfl
theorem cJ0:bU "zip"=some (.type "zip"):=by kernel_rfl
theorem cJ1 (w:World):af4 (KK w.params) 252 248:=⟨(av2 (ad3 w.params) _ _ _ _ _ _ _ _ (by kernel_rfl) (by rfl) (by rfl) (by rfl) (by rfl) (by rfl) (by rfl) (by rfl) (by rfl)),by decide⟩
theorem bm7 {w:World} {E:i7} {H:List O} {d i:Nat} {x y:Str} {ps:Array Value} {Q:V -> List O -> Prop} (hT:H[i]?=some (.tbl 248 ps)) (hx:min x.cps.size y.cps.size <= aB) (hok:JoinOk "" (B8 x y z7)=true) (h:Q (.str (fF "" (B8 x y z7))) H):i5 pP w (KK w.params) (d+1) E H (.st 253) [.str x,.str y] Q:=by
 refine cj4 (cI8 w) (by rfl) (by rfl) ?_
 have e:r0 (i6 (m7 6)) ["s","tag_s"] [.str x,.str y]=[nv "s" (.str x),nv "tag_s" (.str y)]:=by rfl
 rw [e]
 refine c7 (q9 (j7 (c7 (E5 (cf7 (pl:=fun _=>_) (b4:=4) (o4:=o4 w.params) hT (by rfl) (cJ1 w) (bl6 w) (by kernel_rfl) (m5 (by decide) rfl rfl rfl) (x:=x) (y:=y) (f:=z7) ?_ (by rfl) (by decide) (by decide) (by rfl) (by rfl) (by rfl) (by decide) (by rfl) (cf8 (pl:=fun _=>_) (by rfl) (by rfl) (by rfl) (by intro _; rfl)) hx hok h)))))
 refine M0 (by rfl) (cI9 w) cJ0 ⟨rfl,(c6 (b6 rfl rfl (c6 (b6 rfl rfl (d9 ?_)))))⟩
 exact ⟨rfl,rfl⟩
theorem cJ2 (w:World):y3 (KK w.params) 310 (ad4 w.params) (q8 (ad4 w.params)) (j0 (c9 7 7)) (i6 (c9 7 7)) ["self","aline","bline","atags","btags"] where
 hsc:=by rfl
 hK:=by kernel_rfl
 hd:=by rfl
 hb:=by rfl
 hg:=by rfl
 hbl:=by rfl
 hcl:=by rfl
 hcd:=(t7 309 (at4 w.params) _ _ (by rfl) (by kernel_rfl) (by rfl) (by rfl))
 hbd:=fun us hu=>by (refine Y7 (aZ0 hu) fun a0 a1 a2 a3 a4 qz2=>?_; subst qz2); rfl
 hps:=by decide
 hnd:=by decide
 hkd:=by decide
 hco:=by rfl
 hk:=by rfl
 hnf:=by decide
noncomputable def D0 (a x:Str):Str:=iE (fF "" (B8 a x z7))
noncomputable def U6 (t:Str):Str:=Str.empty++"? "++t++"\n"
noncomputable def U7 (t:Str):List Str:=if (t.length !=0)=true then [U6 t] else []
noncomputable def qf (a b x y:Str):List Str:=("- "++a:Str)::(U7 (D0 a x)++("+ "++b:Str)::U7 (D0 b y))
structure Fits (a x:Str):Prop where
 n:min a.cps.size x.cps.size <= aB
 j:JoinOk "" (B8 a x z7)=true
 l:(fF "" (B8 a x z7)).length <= aB
 t:(D0 a x).length <= aB
 r1:(Str.empty++("? ":Str)++D0 a x).length <= aB
 r:(U6 (D0 a x)).length <= aB
 a:a.length+2 <= aB
theorem cJ3 {w:World} {H:List O} {d i:Nat} {ps:Array Value} {self:V} {a b x y:Str} (hT:H[i]?=some (.tbl 248 ps)) (f1:Fits a x) (f2:Fits b y) :
 bf2 pP w (KK w.params) (d+1) H 310 [self,.str a,.str b,.str x,.str y] (qf a b x y) (fun H'=>H'=H):=by
 refine (bw7 _ _ _ _ _ (cJ2 w) (by rfl) (by rfl) (fun env F ad g S ρI sI A hs hi hfm hr=>?_))
 have e:r0 (i6 (c9 7 7)) ["self","aline","bline","atags","btags"] [self,.str a,.str b,.str x,.str y]=[nv "self" self,nv "aline" (.str a),nv "bline" (.str b),nv "atags" (.str x),nv "btags" (.str y)]:=by rfl
 rw [e]
 refine aF0 hr ?_
 dsimp only
 refine q9 (j7 (aF0 hr ?_))
 dsimp only
 refine l7 (o6 (pl:=fun _=>_) (n7 (I0 rfl (bm5 _) ⟨by first | exact bm6 _ | exact trivial,c6 (b6 rfl rfl (c6 (b6 rfl rfl (d9 (bm7 hT f1.n f1.j ((i0 _ aW4 trivial (d9 (aW5 f1.l (e7 (.inl rfl) (aF0 hr ?_)))))))))))⟩)))
 dsimp only
 refine l7 (o6 (pl:=fun _=>_) (n7 (I0 rfl (bm5 _) ⟨by first | exact bm6 _ | exact trivial,c6 (b6 rfl rfl (c6 (b6 rfl rfl (d9 (bm7 hT f2.n f2.j ((i0 _ aW4 trivial (d9 (aW5 f2.l (e7 (.inl rfl) ?_))))))))))⟩)))
 have hc:∀ X:DX,X.env=env -> X.env.scope.isCoroutine=false:=fun X e=>by rw [e,hs]; rfl
 have hi':∀ X:DX,X.env=env -> eC X.env=false:=fun X e=>by rw [e]; exact hi
 have z1:("- ":Str).length+a.length <= aB:=by have:=f1.a; show 2+a.length <= aB; exact aR6 this
 have z2:("+ ":Str).length+b.length <= aB:=by have:=f2.a; show 2+b.length <= aB; exact aR6 this
 cases h1:((iE (fF "" (B8 a x z7))).length !=0)<;>cases h2:((iE (fF "" (B8 b y z7))).length !=0)
 · have eq:qf a b x y=[("- "++a:Str),("+ "++b:Str)]:=by
    unfold qf U7 D0
    rw [h1,h2]
    rfl
   rw [eq]
   refine K5 hr ?_ (hc _ rfl) (hi' _ rfl)
   dsimp only
   refine g8 (j7 (b6 rfl rfl (K1 z1 ⟨(c5 _ rfl rfl),(U3 hr ?_)⟩)))
   dsimp only
   refine w4 (b6 rfl rfl (Q8 f1.t ?_))
   rw [h1]
   refine K4 (K5 hr ?_ (hc _ rfl) (hi' _ rfl))
   dsimp only
   refine g8 (j7 (b6 rfl rfl (K1 z2 ⟨(c5 _ rfl rfl),(U3 hr ?_)⟩)))
   dsimp only
   refine w4 (b6 rfl rfl (Q8 f2.t ?_))
   rw [h2]
   refine K4 (K4 ?_)
   exact ao4 rfl
 · have eq:qf a b x y=[("- "++a:Str),("+ "++b:Str),U6 (D0 b y)]:=by
    unfold qf U7 D0
    rw [h1,h2]
    rfl
   rw [eq]
   refine K5 hr ?_ (hc _ rfl) (hi' _ rfl)
   dsimp only
   refine g8 (j7 (b6 rfl rfl (K1 z1 ⟨(c5 _ rfl rfl),(U3 hr ?_)⟩)))
   dsimp only
   refine w4 (b6 rfl rfl (Q8 f1.t ?_))
   rw [h1]
   refine K4 (K5 hr ?_ (hc _ rfl) (hi' _ rfl))
   dsimp only
   refine g8 (j7 (b6 rfl rfl (K1 z2 ⟨(c5 _ rfl rfl),(U3 hr ?_)⟩)))
   dsimp only
   refine w4 (b6 rfl rfl (Q8 f2.t ?_))
   rw [h2]
   refine K5 hr ?_ (hc _ rfl) (hi' _ rfl)
   dsimp only
   refine am6 (K2 (j7 (i0 _ rfl (by decide) (K2 (am5 (b6 rfl rfl ((aj5 _ rfl f2.t _ rfl f2.r1 (K2 (j7 (i0 _ rfl f2.r (am7 f2.r ⟨(c5 _ rfl rfl),K4 (K4 ?_)⟩))))))))))))
   exact ao4 rfl
 · have eq:qf a b x y=[("- "++a:Str),U6 (D0 a x),("+ "++b:Str)]:=by
    unfold qf U7 D0
    rw [h1,h2]
    rfl
   rw [eq]
   refine K5 hr ?_ (hc _ rfl) (hi' _ rfl)
   dsimp only
   refine g8 (j7 (b6 rfl rfl (K1 z1 ⟨(c5 _ rfl rfl),(U3 hr ?_)⟩)))
   dsimp only
   refine w4 (b6 rfl rfl (Q8 f1.t ?_))
   rw [h1]
   refine K5 hr ?_ (hc _ rfl) (hi' _ rfl)
   dsimp only
   refine am6 (K2 (j7 (i0 _ rfl (by decide) (K2 (am5 (b6 rfl rfl ((aj5 _ rfl f1.t _ rfl f1.r1 (K2 (j7 (i0 _ rfl f1.r (am7 f1.r ⟨(c5 _ rfl rfl),K4 (K5 hr ?_ (hc _ rfl) (hi' _ rfl))⟩))))))))))))
   dsimp only
   refine g8 (j7 (b6 rfl rfl (K1 z2 ⟨(c5 _ rfl rfl),(U3 hr ?_)⟩)))
   dsimp only
   refine w4 (b6 rfl rfl (Q8 f2.t ?_))
   rw [h2]
   refine K4 (K4 ?_)
   exact ao4 rfl
 · have eq:qf a b x y=[("- "++a:Str),U6 (D0 a x),("+ "++b:Str),U6 (D0 b y)]:=by
    unfold qf U7 D0
    rw [h1,h2]
    rfl
   rw [eq]
   refine K5 hr ?_ (hc _ rfl) (hi' _ rfl)
   dsimp only
   refine g8 (j7 (b6 rfl rfl (K1 z1 ⟨(c5 _ rfl rfl),(U3 hr ?_)⟩)))
   dsimp only
   refine w4 (b6 rfl rfl (Q8 f1.t ?_))
   rw [h1]
   refine K5 hr ?_ (hc _ rfl) (hi' _ rfl)
   dsimp only
   refine am6 (K2 (j7 (i0 _ rfl (by decide) (K2 (am5 (b6 rfl rfl ((aj5 _ rfl f1.t _ rfl f1.r1 (K2 (j7 (i0 _ rfl f1.r (am7 f1.r ⟨(c5 _ rfl rfl),K4 (K5 hr ?_ (hc _ rfl) (hi' _ rfl))⟩))))))))))))
   dsimp only
   refine g8 (j7 (b6 rfl rfl (K1 z2 ⟨(c5 _ rfl rfl),(U3 hr ?_)⟩)))
   dsimp only
   refine w4 (b6 rfl rfl (Q8 f2.t ?_))
   rw [h2]
   refine K5 hr ?_ (hc _ rfl) (hi' _ rfl)
   dsimp only
   refine am6 (K2 (j7 (i0 _ rfl (by decide) (K2 (am5 (b6 rfl rfl ((aj5 _ rfl f2.t _ rfl f2.r1 (K2 (j7 (i0 _ rfl f2.r (am7 f2.r ⟨(c5 _ rfl rfl),K4 (K4 ?_)⟩))))))))))))
   exact ao4 rfl
theorem cJ4 (w:World):FnB (KK w.params) 268 (Y6 w.params) (q8 (Y6 w.params)) (j0 (c9 7 1)) (i6 (c9 7 1)) ["self","linejunk","charjunk"] where
 hsc:=by rfl
 hK:=by kernel_rfl
 hd:=by rfl
 hb:=by rfl
 hg:=by rfl
 hbl:=by rfl
 hcl:=by rfl
 hcd:=(t7 267 (at2 w.params) _ _ (by rfl) (by kernel_rfl) (by rfl) (by rfl))
 hps:=by decide
 hnd:=by decide
 hkd:=by decide
 hco:=by rfl
 hk:=by rfl
 hnf:=by decide
theorem aq3 (w:World):R3 (KK w.params) 313 312 where
 cl:=(aL8 ("Differ") ("Differ") ([.type "object"]) ([]) ([]) none none none none (some (.str "Differ" 602)) (some (.str "Differ" 610)) (some (.bool true)) (by kernel_rfl))
 ns:=by kernel_rfl
 ga:=by kernel_rfl
 gh:=by kernel_rfl
 sa:=by kernel_rfl
theorem cJ5:aX (.type "object") "linejunk"=pure none:=by rw [aN,aG]; kernel_rfl
theorem cJ6:aX (.type "object") "charjunk"=pure none:=by rw [aN,aG]; kernel_rfl
theorem cJ7:aX (.type "object") "_qformat"=pure none:=by rw [aN,aG]; kernel_rfl
noncomputable def Y1:List (Str×V):=[("linejunk",.none),("charjunk",.none)]
theorem cJ8 (w:World) (s:Shared) (us:List Value) (B:Bs w (KK w.params) s.heap) (hu:us.length=1):BindsTo s (q8 (Y6 w.params)) ⟨us,[]⟩ ((["self","linejunk","charjunk"]:List Str).zip (us++[.none,.none])):=by
 match us,hu with
 | [u],_=>exact BindsTo.of_defaults (T:=261) (o:=at3 w.params) (n:=0) (items:=#[.none,.none]) (by rfl) (B.k _ _ (by kernel_rfl)) (by rfl) (by rfl) (by rfl)
theorem cJ9 {w:World} {E:i7} {H:List O} {d i:Nat} {Q:V -> List O -> Prop} (hl:H[i]?=some (.inst 313 [])) (h:Q .none (H.set i (.inst 313 Y1))):i5 pP w (KK w.params) (d+1) E H (.st 268) [.ref i] Q:=by
 refine al8 (ds:=[.none,.none]) (dv:=[.none,.none]) (cJ4 w) (by rfl) (by rfl) (fun ρ h=>.cons (by unfold VR; rfl) (.cons (by unfold VR; rfl) .nil)) (fun s us B hu=>cJ8 w s us B hu) ?_
 have e:r0 (i6 (c9 7 1)) ["self","linejunk","charjunk"] ([.ref i]++[.none,.none])=[nv "self" (.ref i),nv "linejunk" .none,nv "charjunk" .none]:=by rfl
 rw [e]
 refine c7 (q9 (j7 (c7 (l7 (b6 rfl rfl (B0 (b6 rfl rfl (A8 (aq3 w) (by kernel_rfl) cJ5 hl (by decide) (c7 (l7 (b6 rfl rfl (B0 (b6 rfl rfl ?_)))))))))))))
 have hi:i < H.length:=(ae.mp hl).1
 refine A8 (aq3 w) (by kernel_rfl) cJ6 (bT hi) (by decide) ?_
 refine e6 ?_
 rw [db]
 exact h
theorem cK0 {w:World} {E:i7} {H:List O} {d:Nat} {Q:V -> List O -> Prop} (h:Q (.ref H.length) (H++[.inst 313 Y1])):i5 pP w (KK w.params) (d+2) E H (.st 313) [] Q:=by
 refine aY5 (oI:=Y6 w.params) (aq3 w) (by kernel_rfl:nsIn (KK w.params) 312 "__init__"=some (some (.ref 268))) (by kernel_rfl) (by rfl) (cJ9 (af ..) ⟨rfl,?_⟩)
 rw [gV _ _ (ao _),Nat.sub_self]
 exact h
theorem cK1 {w:World} {H:List O} {i:Nat} (hl:H[i]?=some (.inst 313 Y1)):C6 pP w (KK w.params) H (.ref i) "_qformat" (.st 310) :=
 G2 (of:=ad4 w.params) (aq3 w) (by kernel_rfl) (by kernel_rfl) (by rfl) cJ7 hl (by rfl)
end
section
set_option tactic.hygienic false
noncomputable def sgT (t:Str):Nat:=if t=("equal":Str) then 32 else if t=("replace":Str) then 94 else if t=("delete":Str) then 45 else 43
noncomputable abbrev ah6:List (Str×V):=[("equal",.str " "),("replace",.str "^"),("delete",.str "-"),("insert",.str "+")]
noncomputable def ah7 (t:Str):Prop:=t=("equal":Str) \/ t=("replace":Str) \/ t=("delete":Str) \/ t=("insert":Str)
theorem bm8 {t:Str} (h:ah7 t):x8 ah6 t=some (.str (S [sgT t])):=by
 rcases h with rfl | rfl | rfl | rfl<;>rfl
noncomputable def G5 (o:Op):List Nat:=aZ (o.2.2.1 - o.2.1) (sgT o.1)
noncomputable def G6 (o:Op):List Nat:=aZ (o.2.2.2.2 - o.2.2.2.1) (sgT o.1)
theorem cK2 {i j x y k:Nat} (h1:i <= x) (h2:j <= y):((P9 i j (x,y,k)).map G5).flatten=aZ (x - i) (if j < y then 94 else 45)++aZ k 32 /\ ((P9 i j (x,y,k)).map G6).flatten=aZ (y - j) (if i < x then 94 else 43)++aZ k 32 /\
 ∀ o∈P9 i j (x,y,k),ah7 o.1 /\ o.2.1 <= o.2.2.1 /\ o.2.2.2.1 <= o.2.2.2.2:=by
 have eq:∀ k:Nat,(((if k≠0 then [(("equal":Str),x,x+k,y,y+k)] else []):List Op).map G5).flatten=aZ k 32 /\ (((if k≠0 then [(("equal":Str),x,x+k,y,y+k)] else []):List Op).map G6).flatten=aZ k 32 /\ ∀ o∈((if k≠0 then [(("equal":Str),x,x+k,y,y+k)] else []):List Op),ah7 o.1 /\ o.2.1 <= o.2.2.1 /\ o.2.2.2.1 <= o.2.2.2.2:=fun k=>by
  by_cases q:k=0
  · subst q
    exact (e9 rfl rfl (fun o h=>by rw [if_neg (by decide)] at h; cases h))
  · rw [if_pos q]
    refine (e9 ?_ ?_ (fun o h=>?_))
    · rw [aR,fC,iL,List.flatten_nil,bg]
      show aZ (x+k - x) 32=_
      rw [Nat.add_sub_cancel_left]
    · rw [aR,fC,iL,List.flatten_nil,bg]
      show aZ (y+k - y) 32=_
      rw [Nat.add_sub_cancel_left]
    · rw [au.mp h]; exact (e9 (.inl rfl) (bd _ _) (bd _ _))
 have gap:∀ t:Str,y8 i x j y=t -> (((if t≠("":Str) then [(t,i,x,j,y)] else []):List Op).map G5).flatten=aZ (x - i) (if j < y then 94 else 45) /\ (((if t≠("":Str) then [(t,i,x,j,y)] else []):List Op).map G6).flatten=aZ (y - j) (if i < x then 94 else 43) /\ ∀ o∈((if t≠("":Str) then [(t,i,x,j,y)] else []):List Op),ah7 o.1 /\ o.2.1 <= o.2.2.1 /\ o.2.2.2.1 <= o.2.2.2.2:=fun t ht=>by
  unfold y8 at ht
  by_cases c1:i < x
  · by_cases c2:j < y
    · rw [if_pos c1,if_pos c2] at ht
      subst ht
      rw [if_pos c1,if_pos c2,if_pos (by decide)]
      exact (e9 (bg _) (bg _) (fun o h=>by rw [au.mp h]; exact (e9 (.inr (.inl rfl)) h1 h2)))
    · rw [if_pos c1,if_neg c2] at ht
      subst ht
      rw [if_pos c1,if_neg c2,if_pos (by decide),show y - j=0 by exact Z1 h2 c2]
      refine (e9 (bg _) ?_ (fun o h=>by rw [au.mp h]; exact (e9 (.inr (.inr (.inl rfl))) h1 h2)))
      show aZ (y - j) _++[]=_
      rw [show y - j=0 by exact Z1 h2 c2]; rfl
  · by_cases c2:j < y
    · rw [if_neg c1,if_pos c2] at ht
      subst ht
      rw [if_neg c1,if_pos c2,if_pos (by decide),show x - i=0 by exact Z1 h1 c1]
      refine (e9 ?_ (bg _) (fun o h=>by rw [au.mp h]; exact (e9 (.inr (.inr (.inr rfl))) h1 h2)))
      show aZ (x - i) _++[]=_
      rw [show x - i=0 by exact Z1 h1 c1]; rfl
    · rw [if_neg c1,if_neg c2] at ht
      subst ht
      rw [if_neg (by decide),show x - i=0 by exact Z1 h1 c1,show y - j=0 by exact Z1 h2 c2]
      exact (e9 rfl rfl (fun o h=>by cases h))
 (refine l9 (gap _ rfl) fun g1 g2 g3=>?_)
 (refine l9 (eq k) fun e1 e2 e3=>?_)
 unfold P9
 refine (e9 ?_ ?_ (fun o h=>?_))
 · rw [aQ,io]
   exact congr (congrArg _ g1) e1
 · rw [aQ,io]
   exact congr (congrArg _ g2) e2
 · rcases bh.mp h with q | q
   · exact g3 o q
   · exact e3 o q
section
variable {a b:List Nat}
theorem aH8:∀ {bs:List Bl} {i j:Nat},K9 a b i j bs -> ((u6 i j bs).map G5).flatten=tG 45 i j bs /\ ((u6 i j bs).map G6).flatten=tG 43 j i (bs.map fun m=>(m.2.1,m.1,m.2.2)) /\ ∀ o∈u6 i j bs,ah7 o.1 /\ o.2.1 <= o.2.2.1 /\ o.2.2.2.1 <= o.2.2.2.2
 | [],i,j,_=>(e9 rfl rfl (fun o h=>by cases h))
 | (x,y,k)::r,i,j,⟨h1,h2,h3,h4,h5,h6,h7⟩=>by
  (refine l9 (cK2 (k:=k) h1 h2) fun s1 s2 s3=>?_)
  (refine l9 (aH8 h7) fun r1 r2 r3=>?_)
  refine (e9 ?_ ?_ (fun o h=>?_))
  · unfold u6
    rw [aQ,io,s1,r1]
    rfl
  · unfold u6
    rw [aQ,io,s2,r2]
    rfl
  · unfold u6 at h
    rcases bh.mp h with q | q
    · exact s3 o q
    · exact r3 o q
end
end
section
set_option tactic.hygienic false
noncomputable def kc (c d:Nat):Nat:=if d=32 /\ cY c=true then c else d
theorem cK3 (c d:Nat):z7 c d=S [kc c d]:=by
 unfold z7 kc
 have e:((⟨#[d]⟩:Str)==" ")=decide (d=32):=by
  have:=aB1 [d] [32]
  rw [show (decide ([d]=[32]))=decide (d=32) by simp] at this
  exact this
 have e2:Txt.isspace ⟨#[c]⟩=cY c:=by
  unfold Txt.isspace
  rw [show (⟨#[c]⟩:Str).length=1 from rfl]
  simp
 rw [e,e2]
 by_cases h:d=32
 · simp only [h,decide_true,if_true,true_and]
   split<;>rfl
 · simp only [h,decide_false,bq,if_false,false_and]
   rfl
noncomputable def kz (x y:List Nat):List Nat:=(x.zip y).map fun p=>kc p.1 p.2
theorem bm9 (x y:List Nat):B8 (S x) (S y) z7=((kz x y).map fun c=>[c]).map S:=by
 unfold B8 kz
 show ((x.toArray.toList).zip (y.toArray.toList)).map _=_
 rw [bu,bu]
 refine List.map_congr_left fun p _=>?_
 exact cK3 _ _
theorem bn0 (x y:List Nat):fF "" (B8 (S x) (S y) z7)=S (kz x y):=by
 rw [bm9,show (aa "")=S [] from rfl,aB2]
 congr 1
 induction kz x y with
 | nil=>rfl
 | cons a l ih=>rw [aR,iL,ih]; rfl
theorem bn1 (x y:List Nat):(kz x y).length=min x.length y.length:=by unfold kz; simp
theorem bn2 (x y:List Nat) (hx:x.length <= 5000) (hy:y.length <= 5000):Fits (S x) (S y):=by
 have sz:(6000:Nat) <= aB:=by decide
 have hl:(fF "" (B8 (S x) (S y) z7)).length <= 5000:=by rw [bn0,j5,bn1]; exact bT6 hx hy
 have ht:(D0 (S x) (S y)).length <= 5000:=ag (len_rstrip _) hl
 have ap:∀ a b:Str,(a++b).length=a.length+b.length:=fun a b=>by show (Str.append a b).cps.size=_; simp [Str.append]; rfl
 have r1:(Str.empty++("? ":Str)++D0 (S x) (S y)).length <= 5002:=by
  rw [ap,ap,show (Str.empty).length=0 from rfl,show ("? ":Str).length=2 from rfl]; exact bT7 ht
 refine ⟨?_,?_,by exact aR7 sz hl,by exact aR7 sz ht,by exact bT8 sz r1,?_,?_⟩
 · show min x.toArray.size y.toArray.size <= aB
   simp only [aI]; exact bT9 hx hy sz
 · refine joinOk_of ?_
   rw [bm9]
   have e:(((kz x y).map fun c=>[c]).map S).map (·.length)=(kz x y).map fun _=>1:=by
    rw [bu,bu]; exact List.map_congr_left fun c _=>by show (S [c]).length=1; rw [j5]; rfl
   rw [e,show (aa "").length=0 from rfl]
   have:((kz x y).map fun _=>1).sum=(kz x y).length:=by
    induction kz x y with
    | nil=>rfl
    | cons a l ih=>rw [aR,hZ,ih,cb]; exact aR3
   rw [this,bn1]; exact bU0 hx hy
 · unfold U6
   rw [ap,show ("\n":Str).length=1 from rfl]; exact bU1 sz r1
 · rw [j5]; exact bU2 hx sz
theorem cK4 (l:List Nat):∃ hi,hi <= l.length /\ iE (S l)=S (l.take hi) /\ (∀ k,hi <= k -> k < l.length -> cY (l.getD k 0)=true) /\ (hi=0 \/ cY (l.getD (hi - 1) 0)=false):=by
 (refine n9 (hi_facts cY (S l) 0 (bm _)) fun _ h0 h1 h2=>?_)
 have e:∀ k,(S l).cps.getD k 0=l.getD k 0:=fun k=>by show l.toArray.getD k 0=_; simp [Array.getD_eq_getD_getElem?,bo]
 rw [j5] at h0 h1
 refine (G9 (stripHi cY true (S l) 0) h0 ?_ (fun k a b=>by rw [<- e]; exact h1 k a b) ?_)
 · have q:iE (S l)=aP.Str.strSub (S l) 0 (stripHi cY true (S l) 0):=by unfold iE; rw [PyProof.Rows.stripBy_eq]; rfl
   rw [q]
   unfold aP.Str.strSub S
   simp
 · rw [<- e]; exact h2
noncomputable def u9 (row other:List Nat) (al:Nat):List Str:=if X9 row other al=[] then [] else [S (63::32::X9 row other al++[10])]
theorem bn3 (row other:List Nat) (al:Nat):aq1 row other al=(u9 row other al).map V.str:=by
 unfold aq1 u9
 split<;>rfl
noncomputable def S9 (c:Nat):Prop:=c∈AL++[10]
theorem bn4 {n:Int}:∀ c∈n8 n,S9 c:=fun c hc=>by
 unfold n8 D8 at hc
 unfold S9
 rcases bh.mp hc with h | h
 · (refine b9 (aV.mp h) fun k hk qz1=>?_; subst qz1)
   have hk:=cQ.mp (cT.mp hk).1
   exact cM _ (ba (bm1 hk))
 · exact cC _ h
theorem aH9 {c:Nat} (h:S9 c \/ c=94 \/ c=45 \/ c=43 \/ c=32):cY c=C9 c:=by
 have:∀ c∈AL++[10]++[94,45,43,32],cY c=C9 c:=by decide +kernel
 refine this c ?_
 rcases h with h | h
 · exact cM _ h
 · refine cC _ ?_
   rcases h with rfl | rfl | rfl | rfl<;>decide
theorem cK5 {x:List Nat}:∀ {y:List Nat},(∀ c∈x,S9 c) -> kz x y=cz kw x y:=by
 unfold kz
 induction x with
 | nil=>intro y _; rfl
 | cons c r ih =>
  intro y h
  cases y with
  | nil=>rfl
  | cons d q =>
   rw [List.zip_cons_cons,aR,gz,ih fun e he=>h e (.tail _ he)]
   congr 1
   unfold kc kw
   rw [aH9 (.inl (h c (.head _)))]
theorem cK6 {x:List Nat}:∀ {y:List Nat},(∀ c∈x,S9 c) -> (∀ d∈y,d=94 \/ d=45 \/ d=43 \/ d=32) -> ∀ c∈cz kw x y,S9 c \/ c=94 \/ c=45 \/ c=43 \/ c=32:=by
 induction x with
 | nil=>intro y _ _ c hc; cases hc
 | cons e r ih =>
  intro y h h2 c hc
  cases y with
  | nil=>cases hc
  | cons d q =>
   rw [gz] at hc
   rcases aJ.mp hc with rfl | hc
   · unfold kw
     split
     · exact .inl (h e (.head _))
     · exact .inr (h2 d (.head _))
   · exact ih (fun e he=>h e (.tail _ he)) (fun d hd=>h2 d (.tail _ hd)) c hc
theorem bn5 {al:Nat} (hal:al=45 \/ al=43):∀ {bs:List Bl} {i j:Nat},∀ d∈tG al i j bs,d=94 \/ d=45 \/ d=43 \/ d=32
 | [],_,_,d,h=>by cases h
 | m::r,i,j,d,h=>by
  unfold tG at h
  rcases bh.mp h with h | h
  · rcases bh.mp h with h | h
    · have:=(List.mem_replicate.mp h).2
      split at this
      · exact .inl this
      · rcases hal with e | e
        · exact .inr (.inl (this.trans e))
        · exact .inr (.inr (.inl (this.trans e)))
    · exact .inr (.inr (.inr (List.mem_replicate.mp h).2))
  · exact bn5 hal d h
theorem bn6 {a b:List Nat} {al:Nat} {bs:List Bl} (R:Rows a b) (hal:al=45 \/ al=43) (ha:∀ c∈a,S9 c) (h:K9 a b 0 0 bs):U7 (D0 (S a) (S (tG al 0 0 bs)))=u9 a b al:=by
 unfold D0
 rw [bn0,cK5 ha]
 (refine V4 (cK4 (cz kw a (tG al 0 0 bs))) fun hi h0 h1 h2 h3=>?_)
 rw [h1]
 have hin:=cK6 ha (bn5 hal (bs:=bs) (i:=0) (j:=0))
 have em:X9 a b al=(cz kw a (tG al 0 0 bs)).take hi:=by
  unfold X9
  rw [cx8 R (by rcases hal with rfl | rfl<;>decide) h]
  refine aG1 (fun c hc=>?_) ?_
  · (refine c0 (bJ hc) fun k hk=>?_)
    rw [dK] at hk
    (refine c0 (ae.mp hk) fun hlt e=>?_)
    have:=h2 (hi+k) (bd _ _) hlt
    rw [bo,hk] at this
    rw [<- aH9 (hin c (ba hk))]
    exact this
  · rcases Nat.eq_zero_or_pos hi with e | e
    · subst e; rfl
    · have hlt:hi - 1 < (cz kw a (tG al 0 0 bs)).length:=by omega
      have et:(cz kw a (tG al 0 0 bs)).take hi=(cz kw a (tG al 0 0 bs)).take (hi - 1)++[(cz kw a (tG al 0 0 bs))[hi - 1]]:=by
       conv=>lhs; rw [show hi=hi - 1+1 by exact bU3 e]
       rw [eZ,aq hlt]; rfl
      rw [et,List.getLast?_concat]
      have h4:=h3.resolve_left (by exact bU4 e)
      rw [bo,aq hlt] at h4
      have h5:=aH9 (hin _ (dG hlt))
      show (!C9 _)=true
      rw [<- h5]
      have h4:cY (cz kw a (tG al 0 0 bs))[hi - 1]=false:=h4
      rw [h4]; rfl
 unfold U7 u9
 rw [em,j5]
 generalize (cz kw a (tG al 0 0 bs)).take hi=M
 cases M with
 | nil=>rfl
 | cons c r =>
  rw [if_pos (by rfl),if_neg (ee _ _)]
  congr 1
  unfold U6
  rw [show Str.empty=S [] from rfl,show ("? ":Str)=S [63,32] from rfl,show ("\n":Str)=S [10] from rfl,M4,M4,M4]
  rfl
theorem cK7 {a b:List Nat} {bs:List Bl} (R:Rows a b) (ha:∀ c∈a,S9 c) (hb:∀ c∈b,S9 c) (h:K9 a b 0 0 bs) :
 qf (S a) (S b) (S (((u6 0 0 bs).map G5).flatten)) (S (((u6 0 0 bs).map G6).flatten))=("- "++S a:Str)::(u9 a b 45++("+ "++S b:Str)::u9 b a 43):=by
 (refine l9 (aH8 h) fun e1 e2 _=>?_)
 rw [e1,e2]
 unfold qf
 rw [bn6 R (.inl rfl) ha h,bn6 R.swap (.inr rfl) hb h.swap]
end
section
set_option tactic.hygienic false
noncomputable abbrev Q0 (p:Int×Nat):V:=.stk (S (n8 p.1)) p.2
structure N2 (L:List (Int×Nat)) (n:Nat):Prop where
 lo:∀ p∈L,405 < p.2
 hi:∀ p∈L,p.2 < n
 inj:∀ p∈L,∀ q∈L,p.2=q.2 -> p=q
theorem N2.nil {n:Nat}:N2 [] n:=⟨fun _ h=>(nomatch h),fun _ h=>(nomatch h),fun _ h=>(nomatch h)⟩
theorem N2.add {L:List (Int×Nat)} {n m t:Nat} {x:Int} (h:N2 L n) (h0:405 < n) (h1:n <= t) (h2:t < m):N2 (L++[(x,t)]) m:=by
 refine ⟨fun p hp=>?_,fun p hp=>?_,fun p hp q hq e=>?_⟩
 · rcases bh.mp hp with q | q
   · exact h.lo p q
   · rw [au.mp q]; exact aW h0 h1
 · rcases bh.mp hp with q | q
   · have:=h.hi p q; exact bU5 h1 h2 this
   · rw [au.mp q]; exact h2
 · rcases bh.mp hp with a | a<;>rcases bh.mp hq with b | b
   · exact h.inj p a q b e
   · rw [au.mp b] at e; have:=h.hi p a; dsimp only at e; omega
   · rw [au.mp a] at e; have:=h.hi q b; dsimp only at e; omega
   · rw [au.mp a,au.mp b]
noncomputable def E1 (c:Nat) (H H':List O):Prop:=(∀ j o,j≠c -> H[j]?=some o -> H'[j]?=some o) /\ H.length <= H'.length
theorem E1.trans {c:Nat} {H H' H'':List O} (a:E1 c H H') (b:E1 c H' H''):E1 c H H'':=⟨fun j o hj e=>b.1 j o hj (a.1 j o hj e),ag a.2 b.2⟩
theorem E1.app {c:Nat} {H L:List O}:E1 c H (H++L):=⟨fun j o _ e=>s6 e,by rw [aE]; exact bd _ _⟩
inductive LJ (c l:Nat) (xs:List V) (H:List O) (i:Nat):List V -> List O -> Prop
 | mk {L:List (Int×Nat)} {n:Nat} {H':List O} (kc:E1 c H H') (hc:H'[c]?=some (.clk n)) (h0:405 < n) (ok:N2 L n) (hl:H'[l]?=some (.list xs)) (le:L.length <= i):LJ c l xs H i (L.map Q0) H'
theorem bn7 (w:World):nsIn (KK w.params) aT "_law_row"=some (some (.ref 322)):=by kernel_rfl
section
variable {w:World} {H:List O} {d c s:Nat} {ns:List Int}
set_option hygiene false in
theorem cK8 {E:EP} {fi:FI} {m:b8} {cs:Int} {p1 p2 p3 p4 p5 p6 p7 p8 p9 q1 q2 q3 q4 q5 q6 q7:Pos} {n:Nat} {sc:Scope} {k1 k2 k3 k4:Nat} {Q:V -> List O -> Prop} (hok:Q7 sc fi) (hsc:sc={ kind:=.function,names:=[(".0",.local),("x",.local),("_law_row",.globalImplicit)],isGenerator:=false,isCoroutine:=false })
 (hn:ns.length <= 63) (hs:H[s]?=some (.arr (ns.map V.int))) (hsc':s≠c) (hc:H[c]?=some (.clk n)) (h0:405 < n) (hfi:fi.sc.names.lookup (aa "script")=some .local) (hm:p0 m (aa "script")=some (.ref s)) (hg:fi.sc.names.lookup (aa "_law_row")=some .globalImplicit)
 (h:∀ H' L n',E1 c H H' -> H'[c]?=some (.clk n') -> 405 < n' -> N2 L n' -> L.length <= 63 -> Q (.ref H'.length) (H'++[.list (L.map Q0)])) :
 WE pP w (KK w.params) fi (d+1) E m H (.ListComp (.Call (.Name "_law_row" p1) [.BinOp (.Name "x" p2) .FloorDiv (.Constant (.int 2) k1 p3) p4] [] p5) [⟨.Name "x" p6,.Subscript (.Name "script" p7) (.Slice none (some (.Constant (.int 63) k2 p8)) none p9) q1,[.Compare (.BinOp (.Name "x" q2) .Mod (.Constant (.int 2) k3 q3) q4) [.Eq] [.Constant (.int cs) k4 q5] q6],0⟩] sc q7) Q:=by
 subst hsc
 refine Z8 hok (aC3 (b6 hfi hm (aa2 (aB0 (j9 (aa2 (cd4 (.inr hs) (lo:=none) (hi:=some 63) (st:=none) rfl rfl rfl (by decide) (by rw [aD]; exact ag hn (by decide)) ?_)))))))
 have ep:pick (ns.map V.int) none (some 63) none=ns.map V.int:=by
  rw [show (63:Int)=((63:Nat):Int) from rfl,ce2,List.take_of_length_le (by rw [aD]; exact hn)]
 rw [ep]
 have hl:(H++[O.list (ns.map V.int)])[H.length]?=some (.list (ns.map V.int)):=af
 have kc:E1 c H (H++[O.list (ns.map V.int)]):=.app
 have hlc:H.length≠c:=fun q=>by rw [q] at hl; have:=s6 (L:=[O.list (ns.map V.int)]) hc; rw [hl] at this; cases this
 have hc1:=s6 (L:=[O.list (ns.map V.int)]) hc
 generalize H++[O.list (ns.map V.int)]=H1 at hl kc hc1 ⊢
 refine (aM6 _ _ (O8 (.inl hl)) (by rw [aD]; exact ag hn (by decide)) (fun i ys H'=>LJ c H.length (ns.map V.int) H i ys H') (.mk (L:=[]) kc hc1 h0 .nil hl (bm _)) ?_ ?_ ?_)
 · intro i ys H' J
   obtain @⟨L,n,H',kc,hc,h0,ok,hl,le⟩:=J
   exact ⟨.inl hl,by rw [aD]; exact le⟩
 · intro i v ys H' hv J
   obtain @⟨L,n,H',kc,hc,h0,ok,hl,le⟩:=J
   rw [aU] at hv
   (refine b9 (bp.mp hv) fun z hz qz1=>?_; subst qz1)
   refine e7 (.inl (by rfl)) ?_
   show WT _ _ _ _ _ _ _ _ _ _
   refine l6 (g8 (b6 rfl rfl (j9 (aU9 (by decide) (j9 (az8 (i9 ?_)))))))
   by_cases q:(z.fmod 2==cs)=true
   · refine (if_pos q).mpr ?_
     refine n7 (I0 rfl (bn7 _) ⟨by first | exact aG5 _,c6 (g8 (b6 rfl rfl (j9 (aV0 (by decide) (PyProof.noPylong_of_log2 (by decide +kernel)) (d9 (bm3 (d:=d) hc fun H2 t k1 l1=>aj2 fun m e1 e2 e3 e4 e5=>?_))))))⟩)
     have:=LJ.mk (c:=c) (l:=H.length) (xs:=ns.map V.int) (H:=H) (i:=i+1) (L:=L++[(z.fdiv 2,t)]) (kc.trans ⟨k1,l1⟩) e3 (by exact aR8 h0 e1) (ok.add h0 e4 e2) (k1 _ _ hlc hl) (by rw [aE]; exact br le)
     rw [aQ] at this
     exact this
   · refine (if_neg q).mpr ?_
     exact .mk kc hc h0 ok hl (cj le)
 · intro ys H' J
   obtain @⟨L,n,H',kc,hc,h0,ok,hl,le⟩:=J
   rw [aD] at le
   exact h _ _ _ kc hc h0 ok (ag le hn)
end
end
section
set_option tactic.hygienic false
section
variable {w:World} {H:List O} {mi:Nat} {a b:List Nat} {ta tb:Nat}
theorem cK9 (I:s7 w H mi a b ta tb):C6 pP w (KK w.params) H (.ref mi) "set_seq1" (.st 174):=by
 (refine V6 (I.ex) fun mb oc fc bj jk pp p S0 _=>?_)
 exact G2 (j6 w) (bj5 w) (by kernel_rfl:(KK w.params).lookup 174=some (U8 w.params)) rfl bj6 S0.o (by rfl)
theorem cL0 (I:s7 w H mi a b ta tb):C6 pP w (KK w.params) H (.ref mi) "set_seq2" (.st 181):=by
 (refine V6 (I.ex) fun mb oc fc bj jk pp p S0 _=>?_)
 exact G2 (j6 w) (bj7 w) (by kernel_rfl:(KK w.params).lookup 181=some (U9 w.params)) rfl bj8 S0.o (by rfl)
theorem cL1 (I:s7 w H mi a b ta tb):C6 pP w (KK w.params) H (.ref mi) "real_quick_ratio" (.st 239):=by
 (refine V6 (I.ex) fun mb oc fc bj jk pp p S0 _=>?_)
 exact G2 (j6 w) (cC8 w) (by kernel_rfl:(KK w.params).lookup 239=some (ad2 w.params)) rfl cC9 S0.o (by rfl)
theorem cL2 (I:s7 w H mi a b ta tb):C6 pP w (KK w.params) H (.ref mi) "quick_ratio" (.st 232):=by
 (refine V6 (I.ex) fun mb oc fc bj jk pp p S0 _=>?_)
 exact G2 (j6 w) (cC6 w) (by kernel_rfl:(KK w.params).lookup 232=some (Y5 w.params)) rfl cC7 S0.o (by rfl)
theorem cL3 (I:s7 w H mi a b ta tb):C6 pP w (KK w.params) H (.ref mi) "ratio" (.st 225):=by
 (refine V6 (I.ex) fun mb oc fc bj jk pp p S0 _=>?_)
 exact G2 (j6 w) (cC4 w) (by kernel_rfl:(KK w.params).lookup 225=some (ad0 w.params)) rfl cC5 S0.o (by rfl)
theorem cL4 (I:s7 w H mi a b ta tb):C6 pP w (KK w.params) H (.ref mi) "get_opcodes" (.st 210):=by
 (refine V6 (I.ex) fun mb oc fc bj jk pp p S0 _=>?_)
 exact G2 (j6 w) (cC2 w) (by kernel_rfl:(KK w.params).lookup 210=some (Y4 w.params)) rfl cC3 S0.o (by rfl)
theorem s7.pre {H':List O} (I:s7 w H mi a b ta tb) (hp:H<+:H'):s7 w H' mi a b ta tb:=by
 (refine V7 (I.ex) fun mb oc fc bj jk pp p S0 h1 h2 h3=>?_)
 have k:=i8.pre hp mi
 exact ⟨_,_,_,_,_,_,_,S0.mono hp,h1.kp S0.o k,h2.kp S0.o k,h3.kp S0.o k⟩
end
noncomputable abbrev nmL (f s bi mi:Nat) (two one total common shares codes tags rows:Option V):b8:=[nv "script" (.ref 0),nv "first" (.ref f),nv "second" (.ref s),nv "below" (.ref bi),nv "matcher" (.ref mi),("two",two),("one",one),("total",total),("common",common),("shares",shares),("codes",codes),("tags",tags),("rows",rows)]
noncomputable abbrev fiL (w:World):FI:=⟨i6 (m7 11),true,(q8 (ad5 w.params)).code⟩
noncomputable def cL5:List Stmt:=U4 (B3 4 (j0 (m7 11)))
noncomputable def cL6:List Stmt:=U4 (B3 1 cL5)
theorem bn9 (w:World):nsIn (KK w.params) aT "_law_marks"=some (some (.ref 329)):=by kernel_rfl
theorem cL7 (w:World):nsIn (KK w.params) aT "Differ"=some (some (.ref 313)):=by kernel_rfl
theorem aI0 (w:World):t8 (KK w.params) (.st 313):=by show keepIn _ _=true; kernel_rfl
theorem cL8 (w:World):t8 (KK w.params) (.st 310):=by show keepIn _ _=true; kernel_rfl
theorem cL9 (a b:List Nat):((a.map fun c=>V.str (S [c])).filter fun v=>match v with | .str x=>decide (x.cps.getD 0 0∈b) | _=>false)=(a.filter (·∈b)).map fun c=>V.str (S [c]):=by
 rw [List.filter_map]
 rfl
theorem bo0 {α:Type} {f:α -> List Nat} {ops:List α} {n:Nat} (h:(ops.map f).flatten.length <= n):∀ o∈ops,(f o).length <= n:=fun o ho=>by
 have:=(List.sublist_flatten_of_mem (aV.mpr (c5 o ho rfl)):List.Sublist (f o) (ops.map f).flatten)
 exact ag this.length_le h
theorem bo1 {α:Type} {f:α -> List Nat} {ops:List α} {n:Nat} (h:(ops.map f).flatten.length <= n):((ops.map fun o=>S (f o)).map (·.length)).sum <= n:=by
 rw [bu]
 rw [List.length_flatten,bu] at h
 have e:((fun x:Str=>x.length)∘fun o=>S (f o))=(List.length∘f):=funext fun o=>j5 _
 rw [e]; exact h
noncomputable def vA:V -> V | .tup [.str t,.int i1,.int i2,.int _,.int _]=>.str (S (aZ (i2.toNat - i1.toNat) (sgT t))) | v=>v
noncomputable def vB:V -> V | .tup [.str t,.int _,.int _,.int j1,.int j2]=>.str (S (aZ (j2.toNat - j1.toNat) (sgT t))) | v=>v
theorem cM0 (ops:List Op):((ops.map S6).filter fun _=>true).map vA=(ops.map fun o=>S (G5 o)).map V.str:=by
 rw [ik.mpr (fun _ _=>rfl),bu,bu]
 rfl
theorem cM1 (ops:List Op):((ops.map S6).filter fun _=>true).map vB=(ops.map fun o=>S (G6 o)).map V.str:=by
 rw [ik.mpr (fun _ _=>rfl),bu,bu]
 rfl
theorem bo2 {α:Type} {f:α -> List Nat} {ops:List α}:fF (S []) (ops.map fun o=>S (f o))=S (ops.map f).flatten:=by
 rw [<- aB2,bu]; rfl
theorem bo3:∀ (bs:List Bl) (i j:Nat),(u6 i j bs).length <= 2*bs.length
 | [],_,_=>ao _
 | m::r,i,j=>by
  unfold u6
  rw [aE,cb]
  have:=cF3 i j m
  have:=bo3 r (m.1+m.2.2) (m.2.1+m.2.2)
  exact bU6 (by assumption) this
theorem ac3 (r o:List Nat) (al:Nat):(u9 r o al).length <= 1:=by
 unfold u9
 split<;>simp
theorem bo4 {a:List Nat} (la:a.length <= 25) (p:Str) (hp:p.length=2):p.length+(S a).length <= aB:=by
 rw [hp,j5]
 exact ag (ip la 2) (by decide)
theorem N3 (H:List O) (x:O):∃ H' n,H'=H++[x] /\ n=H.length /\ H<+:H' /\ H'[n]?=some x:=(N7 _ _ rfl rfl (aF _ _) af)
section
variable {w:World} {H:List O} {d f s bi mi:Nat} {x y:Int} {ta tb tx ty:Nat} {ps1 ps2:Array Value}
theorem cM2 {total common shares codes tags rows:Option V} {Q:Fl -> b8 -> List O -> Prop} (I:s7 w H mi (n8 x) (n8 y) ta tb) (h1:H[1]?=some (.tbl 248 ps1)) (h2:H[2]?=some (.tbl 220 ps2)) (hb:H[bi]?=some (dO (strKind pP w) ah6)) (hm:2 < mi) (hbm:bi≠mi)
 (hQ:∀ H' total common shares codes tags rows,i8 H H' mi -> s7 w H' mi (n8 x) (n8 y) ta tb -> Q .next (nmL f s bi mi (some (.stk (S (n8 y)) ty)) (some (.stk (S (n8 x)) tx)) total common shares codes tags rows) H') :
 WB pP w (KK w.params) (fiL w) (d+6) (fun _ _ _=>False) (nmL f s bi mi (some (.stk (S (n8 y)) ty)) (some (.stk (S (n8 x)) tx)) total common shares codes tags rows) H (cL6.drop 1) Q:=by
 have R:=bg4 x y
 have la:=aF8 x
 have lb:=aF8 y
 have l0:=cx2 x
 have ina:=bn4 (n:=x)
 have inb:=bn4 (n:=y)
 have hlast:=cx5 x y
 generalize n8 x=a at *
 generalize n8 y=b at *
 refine c7 (M1 (xs:=["total","common"]) (ab8 (by rfl) (by rfl)) ?_ (fun env he=>by unfold bR de cJ; rw [he]; rfl))
 refine y5 (c6 (g8 (n7 (A5 rfl (D9 _) E0 ⟨trivial,c6 (X7 rfl rfl (d9 (F9 (by rw [j5]; exact ag la (by decide)) ?_)))⟩))))
 rw [j5]
 refine n7 (A5 rfl (D9 _) E0 ⟨trivial,c6 (X8 rfl rfl (d9 (F9 (by rw [j5]; exact ag lb (by decide)) ?_)))⟩)
 rw [j5]
 refine s8 (c6 (n7 (A5 rfl (D9 _) E0 ⟨trivial,c6 (Z8 ⟨by decide,by decide,by rfl,by dsimp only; decide⟩ (X7 rfl rfl (af2 (fun v=>match v with | .str x=>decide (x.cps.getD 0 0∈b) | _=>false) (fun v=>v) am3 trivial (by rw [aD]; exact ag la (by decide)) ?_ ?_)))⟩)))
 · intro v hv
   (refine b9 (aV.mp hv) fun c hc qz1=>?_; subst qz1)
   refine e7 (.inl (by rfl)) ⟨rfl,?_⟩
   show WT _ _ _ _ _ _ _ _ _ _
   refine l6 (b6 rfl rfl (X8 rfl rfl (am4 (i9 ((e9 rfl rfl (fun _=>(b6 rfl rfl ?_))))))))
   exact ⟨rfl,rfl⟩
 rw [List.map_id',cL9]
 have p1:H<+:H++[O.list ((a.filter (·∈b)).map fun c=>V.str (S [c]))]:=aF _ _
 have g1:(H++[O.list ((a.filter (·∈b)).map fun c=>V.str (S [c]))])[H.length]?=some (.list ((a.filter (·∈b)).map fun c=>V.str (S [c]))):=af
 have k1:=i8.pre p1 mi
 have I1:=I.pre p1
 generalize H++[O.list ((a.filter (·∈b)).map fun c=>V.str (S [c]))]=H1 at p1 g1 k1 I1 ⊢
 refine d9 (cc7 (.inl g1) (by rw [aD]; exact ag (dJ _ _) (ag la (by decide))) ?_)
 rw [aD,show (a.filter (·∈b)).length=Mine.common a b from rfl,<- Int.natCast_add]
 refine d9 ⟨by show 2 <= aB; decide,(G1 rfl ⟨rfl,(c7 (l7 (G3 (c6 (o6 (pl:=fun _=>_) (b6 rfl rfl ((i0 _ (cL1 I1) (cz9 w) (d9 (cH5 (d:=d+4) I1 la lb l0 (c6 (o6 (pl:=fun _=>_) (b6 rfl rfl ((i0 _ (cL2 I1) (cz7 w) (d9 (cH6 (d:=d+4) R I1 la lb l0 fun H2 k2 I2=>?_)))))))))))))))))⟩)⟩
 have k12:=k1.trans k2
 refine c6 (o6 (pl:=fun _=>_) (b6 rfl rfl ((i0 _ (cL3 I2) (cz5 w) (d9 ?_)))))
 have t2:=k12 _ _ (bI hm) h2
 refine cH7 (d:=d) R I2 t2 la lb l0 fun H3 k3 I3=>?_
 have k13:=k12.trans k3
 clear k1 k2 k3 k12 t2 g1 p1 I1 I2
 refine ⟨by show 3 <= aB; decide,?_⟩
 have cc:Mine.common a b <= 25:=ag (dJ _ _) la
 have n50:a.length+b.length <= 51:=by exact ak2 la lb
 have n0:a.length+b.length≠0:=by exact bU7 la l0 lb
 have c1:=bf3 (m:=min a.length b.length) (by exact aw9 la lb) n50 n0
 have c2:=bf3 cc n50 n0
 obtain ⟨L3,eL3⟩:∃ L3,L3=[V.flt (B1 (min a.length b.length) (a.length+b.length)),V.flt (B1 (Mine.common a b) (a.length+b.length)),V.flt (B1 (Mine.common a b) (a.length+b.length))]:=⟨_,rfl⟩
 rw [<- eL3]
 have p4:H3<+:H3++[O.list L3]:=aF _ _
 have g4:(H3++[O.list L3])[H3.length]?=some (.list L3):=af
 have k14:=k13.trans (i8.pre p4 mi)
 have I4:=I3.pre p4
 generalize H3++[O.list L3]=H4 at p4 g4 k14 I4 ⊢
 generalize H3.length=sh at g4 ⊢
 clear k13 I3 p4
 refine e7 (.inl rfl) (c7 (o9 (l6 (b6 rfl rfl (G3 (c6 (g8 (g8 (j9 (n7 (A5 rfl (bi3 _) bi4 ⟨trivial,c6 (n7 (A5 rfl (D9 _) E0 ⟨trivial,c6 (X7 rfl rfl (d9 (F9 (by rw [j5]; exact ag la (by decide)) ?_)))⟩))⟩)))))))))))
 rw [j5]
 refine c6 (n7 (A5 rfl (D9 _) E0 ⟨trivial,c6 (X8 rfl rfl (d9 (F9 (by rw [j5]; exact ag lb (by decide)) ?_)))⟩))
 rw [j5]
 refine d9 (aV6 ?_)
 rw [show min (a.length:Int) (b.length:Int)=((min a.length b.length:Nat):Int) from bV3 _ _]
 refine aF2 (by exact bU8 la lb) (b6 rfl rfl (aE7 (by exact aw9 la lb) n50 n0 (c6 (g8 (g8 (j9 (b6 rfl rfl (aF2 (by exact aR9 cc) (b6 rfl rfl (aE7 cc n50 n0 (c6 (g8 (g8 (j9 (b6 rfl rfl (aF2 (by exact aR9 cc) (b6 rfl rfl (aE7 cc n50 n0 (d9 ⟨by show 3 <= aB; decide,?_⟩)))))))))))))))))))
 rw [<- eL3]
 have p5:H4<+:H4++[O.list L3]:=aF _ _
 have g5:(H4++[O.list L3])[H4.length]?=some (.list L3):=af
 have g45:=l4 p5 g4
 have k15:=k14.trans (i8.pre p5 mi)
 have I5:=I4.pre p5
 generalize H4++[O.list L3]=H5 at p5 g5 g45 k15 I5 ⊢
 generalize H4.length=sh' at g5 ⊢
 clear k14 I4 p5 g4
 skip
 refine aA6 (by decide) (cw5 (aH5 w) c1 c2 c2 (eL3▸g45) (eL3▸g5)) (i9 (o5 (by decide) ?_))
 clear g5
 refine e6 (c7 (o9 (l6 (Z8 ⟨by decide,by decide,by rfl,by dsimp only; decide⟩ (b6 rfl rfl (af2 (fun _=>false) (fun v=>v) (O8 (.inl g45)) (.inl g45) (by rw [eL3]; show 3 <= aB; decide) ?_ ?_))))))
 · intro v hv
   have hv:∃ z,v=V.flt z:=by
    rw [eL3] at hv
    rcases aJ.mp hv with e | hv
    · exact ⟨_,e⟩
    rcases aJ.mp hv with e | hv
    · exact ⟨_,e⟩
    exact ⟨_,au.mp hv⟩
   (refine c0 hv fun z qz2=>?_; clear hv; subst qz2)
   refine e7 (.inl (by rfl)) ⟨rfl,?_⟩
   show WT _ _ _ _ _ _ _ _ _ _
   refine aC1 (w4 (n7 (A5 rfl (cB0 _) cB1 ⟨trivial,c6 (b6 rfl rfl (c6 (M0 rfl (cB2 _) cB3 (d9 (cw4 (i9 ?_))))))⟩)))
   exact (e9 rfl rfl (fun q=>nomatch q))
 rw [List.filter_eq_nil_iff.mpr (fun _ _=>bL),fC]
 have p6:H5<+:H5++[O.list []]:=aF _ _
 have g6:(H5++[O.list []])[H5.length]?=some (.list []):=af
 have k16:=k15.trans (i8.pre p6 mi)
 have I6:=I5.pre p6
 generalize H5++[O.list []]=H6 at p6 g6 k16 I6 ⊢
 generalize H5.length=s1 at g6 ⊢
 clear k15 I5 p6 g45
 refine G3 (d9 ⟨by show 0 <= aB; decide,?_⟩)
 have p7:H6<+:H6++[O.list []]:=aF _ _
 have g7:(H6++[O.list []])[H6.length]?=some (.list []):=af
 have g67:=l4 p7 g6
 have k17:=k16.trans (i8.pre p7 mi)
 have I7:=I6.pre p7
 generalize H6++[O.list []]=H7 at p7 g7 g67 k17 I7 ⊢
 generalize H6.length=s2 at g7 ⊢
 clear k16 I6 p7 g6
 skip
 refine aA6 (by decide) (aW3 (xs:=[]) (ys:=[]) g67 g7) (i9 (o5 (by decide) ?_))
 clear g67 g7
 refine e6 (c7 (l7 (o6 (pl:=fun _=>_) (b6 rfl rfl ((i0 _ (cL4 I7) (cz3 w) (d9 (cH8 (d:=d) R I7 la lb fun H8 an bs k8 I8 lc C hl=>?_))))))))
 have k18:=k17.trans k8
 clear k17 k8 I7
 have V8:K9 a b 0 0 bs:=bg9 R hlast C hl.2 fun i' j' _=>⟨fun q=>absurd q (gc _),fun q=>absurd q (gc _)⟩
 (refine l9 (aH8 V8) fun eA eB okO=>?_)
 have qm:=cK7 R ina inb V8
 refine e7 (.inl rfl) (c7 (l7 (o6 (pl:=fun _=>_) (j7 ((i0 _ aA7 trivial (c6 ?_)))))))
 have hb8:=k18 _ _ hbm hb
 have nA:((u6 0 0 bs).map G5).flatten.length <= 25:=by rw [eA]; have:=aG3 (al:=45) V8; exact aS0 la this
 have nB:((u6 0 0 bs).map G6).flatten.length <= 25:=by rw [eB]; have:=aG3 (al:=43) V8.swap; exact aS0 lb this
 have nO:(u6 0 0 bs).length <= aB:=ag (bo3 bs 0 0) (ag (Nat.mul_le_mul_left 2 hl.1) (by decide))
 clear eA eB V8
 generalize u6 0 0 bs=ops at *
 refine Z8 ⟨by decide,by decide,by rfl,by dsimp only; decide⟩ (b6 rfl rfl (af2 (fun _=>true) vA (O8 (.inl lc)) (.inl lc) (by rw [aD]; exact nO) ?_ ?_))
 · intro v hv
   (refine b9 (aV.mp hv) fun o ho qz3=>?_; subst qz3)
   (refine l9 (okO o ho) fun o1 o2 o3=>?_)
   have o4:=bo0 nA o ho
   refine e7 (.inl (by rfl)) ⟨rfl,rfl,rfl,fun _=>(g8 (A9 (al0 rfl rfl (A9 (b6 rfl rfl (j9 (aa0 (j:=0) (by decide) (by decide) rfl rfl ?_)))))))⟩
   skip
   refine ba9 P2 hb8 (bm8 o1) (g8 (A9 (b6 rfl rfl (j9 (aa0 (j:=2) (by decide) (by decide) rfl rfl (A9 (b6 rfl rfl (j9 (aa0 (j:=1) (by decide) (by decide) rfl rfl (K0 ?_))))))))))
   rw [show ((o.2.2.1:Nat):Int) - ((o.2.1:Nat):Int)=((o.2.2.1 - o.2.1:Nat):Int) by omega]
   refine aE9 (by unfold G5 at o4; rw [cD] at o4; exact aS1 o4) ⟨rfl,rfl⟩
 rw [cM0]
 have p9:H8<+:H8++[O.list ((ops.map fun o=>S (G5 o)).map V.str)]:=aF _ _
 have g9:(H8++[O.list ((ops.map fun o=>S (G5 o)).map V.str)])[H8.length]?=some (.list ((ops.map fun o=>S (G5 o)).map V.str)):=af
 have k19:=k18.trans (i8.pre p9 mi)
 have I9:=I8.pre p9
 have hb9:=l4 p9 hb8
 have lc9:=l4 p9 lc
 generalize H8++[O.list ((ops.map fun o=>S (G5 o)).map V.str)]=H9 at p9 g9 k19 I9 hb9 lc9 ⊢
 generalize H8.length=s3 at g9 ⊢
 clear k18 I8 hb8 lc p9
 refine d9 (aA8 (.inl g9) ?_ ?_)
 · have:=bo1 (f:=G5) nA
   show _+_*0 <= _
   exact aS2 this
 rw [show (aa "")=S [] from rfl,bo2]
 clear g9
 refine e7 (.inl rfl) (c7 (l7 (cw2 (d:=d+5) (pl:=fun _=>_) (M0 (by rfl) (bi1 _) bi2 ⟨rfl,(n7 (I0 rfl (cL7 _) ⟨by first | exact aG6 _ | exact aI0 _ | exact trivial,d9 (cK0 (d:=d+4) ?_)⟩))⟩))))
 have pA:H9<+:H9++[O.inst 313 Y1]:=aF _ _
 have gA:(H9++[O.inst 313 Y1])[H9.length]?=some (.inst 313 Y1):=af
 have k1A:=k19.trans (i8.pre pA mi)
 have IA:=I9.pre pA
 have hbA:=l4 pA hb9
 have lcA:=l4 pA lc9
 generalize H9++[O.inst 313 Y1]=HA at pA gA k1A IA hbA lcA ⊢
 generalize H9.length=df at gA ⊢
 clear k19 I9 hb9 lc9 pA
 refine (i0 310 (cK1 gA) (cL8 w) (c6 (X7 rfl rfl (c6 (X8 rfl rfl (c6 (b6 rfl rfl (c6 (o6 (pl:=fun _=>_) (j7 ((i0 _ aA7 trivial (c6 (Z8 ⟨by decide,by decide,by rfl,by dsimp only; decide⟩ (b6 rfl rfl (af2 (fun _=>true) vB (O8 (.inl lcA)) (.inl lcA) (by rw [aD]; exact nO) ?_ ?_))))))))))))))))
 · intro v hv
   (refine b9 (aV.mp hv) fun o ho qz4=>?_; subst qz4)
   (refine l9 (okO o ho) fun o1 o2 o3=>?_)
   have o4:=bo0 nB o ho
   refine e7 (.inl (by rfl)) ⟨rfl,rfl,rfl,fun _=>(g8 (A9 (al0 rfl rfl (A9 (b6 rfl rfl (j9 (aa0 (j:=0) (by decide) (by decide) rfl rfl ?_)))))))⟩
   skip
   refine ba9 P2 hbA (bm8 o1) (g8 (A9 (b6 rfl rfl (j9 (aa0 (j:=4) (by decide) (by decide) rfl rfl (A9 (b6 rfl rfl (j9 (aa0 (j:=3) (by decide) (by decide) rfl rfl (K0 ?_))))))))))
   rw [show ((o.2.2.2.2:Nat):Int) - ((o.2.2.2.1:Nat):Int)=((o.2.2.2.2 - o.2.2.2.1:Nat):Int) by omega]
   refine aE9 (by unfold G6 at o4; rw [cD] at o4; exact aS1 o4) ⟨rfl,rfl⟩
 rw [cM1]
 have pB:HA<+:HA++[O.list ((ops.map fun o=>S (G6 o)).map V.str)]:=aF _ _
 have gB:(HA++[O.list ((ops.map fun o=>S (G6 o)).map V.str)])[HA.length]?=some (.list ((ops.map fun o=>S (G6 o)).map V.str)):=af
 have k1B:=k1A.trans (i8.pre pB mi)
 have IB:=IA.pre pB
 generalize HA++[O.list ((ops.map fun o=>S (G6 o)).map V.str)]=HB at pB gB k1B IB ⊢
 generalize HA.length=s4 at gB ⊢
 clear k1A IA hbA lcA pB gA okO nO
 refine d9 (aA8 (.inl gB) ?_ ?_)
 · have:=bo1 (f:=G6) nB
   show _+_*0 <= _
   exact aS2 this
 rw [bo2]
 clear gB
 generalize (ops.map G5).flatten=tA at *
 generalize (ops.map G6).flatten=tB at *
 refine d9 ((A3 _ _ (cJ3 (d:=d+4) (i:=1) (ps:=ps1) (k1B _ _ (by exact aS3 hm) h1) (bn2 a tA (by exact ak3 la) (by exact ak3 nA)) (bn2 b tB (by exact ak3 lb) (by exact ak3 nB))) ?_ ?_))
 · rw [qm,cb,aE,cb]
   have:=ac3 a b 45
   have:=ac3 b a 43
   have:4 <= aB:=by decide
   exact bU9 (by assumption) (by assumption) this
 intro H' e
 rw [e,qm]
 clear e H'
 clear qm nA nB
 have pC:HB<+:HB++[O.list ((("- "++S a:Str)::(u9 a b 45++("+ "++S b:Str)::u9 b a 43)).map V.str)]:=aF _ _
 have gC:(HB++[O.list ((("- "++S a:Str)::(u9 a b 45++("+ "++S b:Str)::u9 b a 43)).map V.str)])[HB.length]?=some (.list ((("- "++S a:Str)::(u9 a b 45++("+ "++S b:Str)::u9 b a 43)).map V.str)):=af
 have k1C:=k1B.trans (i8.pre pC mi)
 have IC:=IB.pre pC
 generalize HB++[O.list ((("- "++S a:Str)::(u9 a b 45++("+ "++S b:Str)::u9 b a 43)).map V.str)]=HC at pC gC k1C IC ⊢
 generalize HB.length=rw' at gC ⊢
 clear k1B IB pC
 refine e7 (.inl rfl) (c7 (o9 (l6 (b6 rfl rfl (g8 (g8 (g8 (G3 (c6 (g8 (j7 (X7 rfl rfl (K1 (by exact bo4 la _ rfl) (d9 ⟨by show 1 <= aB; decide,?_⟩))))))))))))))
 (refine G8 (N3 HC (.list [.str ("- "++S a:Str)])) fun HD x1 eD ex pD gD=>?_)
 rw [<- eD,<- ex]
 clear eD ex
 refine n7 (I0 rfl (bn9 _) ⟨by first | exact aG6 _ | exact aI0 _ | exact trivial,c6 (X7 rfl rfl (c6 (X8 rfl rfl (c6 (j7 (d9 (bm4 (d:=d+5) (al:=45) (bg8 R) la lb ?_)))))))⟩)
 rw [bn3]
 (refine G8 (N3 HD (.list ((u9 a b 45).map V.str))) fun HE x2 eE ex pE gE=>?_)
 rw [<- eE,<- ex]
 clear eE ex
 refine am0 (l4 pE gD) gE (by rw [aD]; exact ag (ip (ac3 _ _ _) _) (by show 2 <= aB; decide)) ?_
 (refine G8 (N3 HE (.list ([.str ("- "++S a:Str)]++(u9 a b 45).map V.str))) fun HF x3 eF ex pF gF=>?_)
 rw [<- eF,<- ex]
 clear eF ex gE gD
 have pG:=(pD.trans pE).trans pF
 clear pD pE pF
 refine G3 (c6 (g8 (j7 (X8 rfl rfl (K1 (by exact bo4 lb _ rfl) (d9 ⟨by show 1 <= aB; decide,?_⟩))))))
 (refine G8 (N3 HF (.list [.str ("+ "++S b:Str)])) fun HI x4 eI ex pI gI=>?_)
 rw [<- eI,<- ex]
 clear eI ex
 refine am0 (l4 pI gF) gI (by rw [aE,aD]; exact ag (Nat.add_le_add_right (ip (ac3 _ _ _) _) _) (by show 3 <= aB; decide)) ?_
 (refine G8 (N3 HI (.list ([.str ("- "++S a:Str)]++(u9 a b 45).map V.str++[.str ("+ "++S b:Str)]))) fun HJ x5 eJ ex pJ gJ=>?_)
 rw [<- eJ,<- ex]
 clear eJ ex gF gI
 have pK:=(pG.trans pI).trans pJ
 clear pG pI pJ
 refine n7 (I0 rfl (bn9 _) ⟨by first | exact aG6 _ | exact aI0 _ | exact trivial,c6 (X8 rfl rfl (c6 (X7 rfl rfl (c6 (j7 (d9 (bm4 (d:=d+5) (al:=43) (bg8 R.swap) lb la ?_)))))))⟩)
 rw [bn3]
 (refine G8 (N3 HJ (.list ((u9 b a 43).map V.str))) fun HL x6 eL ex pL gL=>?_)
 rw [<- eL,<- ex]
 clear eL ex
 refine am0 (l4 pL gJ) gL (by rw [aE,aE,aD,aD]; exact ag (Nat.add_le_add (Nat.add_le_add_right (ip (ac3 _ _ _) _) _) (ac3 _ _ _)) (by show 4 <= aB; decide)) ?_
 (refine G8 (N3 HL (.list ([.str ("- "++S a:Str)]++(u9 a b 45).map V.str++[.str ("+ "++S b:Str)]++(u9 b a 43).map V.str))) fun HM x7 eM ex pM gM=>?_)
 rw [<- eM,<- ex]
 clear eM ex gJ gL
 have pN:=(pK.trans pL).trans pM
 clear pK pL pM
 refine aA6 (by decide) (aW3 (ys:=("- "++S a:Str)::(u9 a b 45++("+ "++S b:Str)::u9 b a 43)) (l4 pN gC) (gM.trans (by simp))) ?_
 rw [decide_eq_true rfl]
 refine i9 (o5 (by decide) (e6 (e6 ?_)))
 exact hQ _ _ _ _ _ _ _ (k1C.trans (i8.pre pN mi)) (IC.pre pN)
end
end
section
set_option tactic.hygienic false
noncomputable def m9 (L:List (Int×Nat)) (z:Nat) (b:List Nat) (tb:Nat):Prop:=(tb=z /\ b=[]) \/ ∃ p∈L,tb=p.2 /\ b=n8 p.1
theorem m9.hu {L:List (Int×Nat)} {n z tb:Nat} {b:List Nat} {p:Int×Nat} (h:m9 L z b tb) (ok:N2 L n) (hz:z <= 405) (hp:p∈L) (e:p.2=tb):n8 p.1=b:=by
 rcases h with ⟨e1,_⟩ | ⟨q,hq,e1,e2⟩
 · exact absurd (ok.lo p hp) (bN.mpr (ag (Nat.le_of_eq (e.trans e1)) hz))
 · rw [e2,ok.inj p hp q hq (e.trans e1)]
theorem m9.next {L:List (Int×Nat)} {z tb tb':Nat} {b:List Nat} {p:Int×Nat} (h:m9 L z b tb) (hp:p∈L) (e:tb'=p.2 \/ tb'=tb /\ n8 p.1=b):m9 L z (n8 p.1) tb':=by
 rcases e with e | ⟨e1,e2⟩
 · exact .inr (i0 p hp e rfl)
 · rw [e1,e2]; exact h
inductive J2 (w:World) (H:List O) (f s bi mi:Nat) (Lf Ls:List (Int×Nat)) (i:Nat):b8 -> List O -> Prop
 | mk {H' a ta b tb two one total common shares codes tags rows} (k:i8 H H' mi) (I:s7 w H' mi a b ta tb) (ha:m9 Lf 404 a ta) (hb:m9 Ls 405 b tb):J2 w H f s bi mi Lf Ls i (nmL f s bi mi two one total common shares codes tags rows) H'
inductive J1 (w:World) (H:List O) (f s bi mi:Nat) (Lf Ls:List (Int×Nat)) (y:Int×Nat) (i:Nat):b8 -> List O -> Prop
 | mk {H' a ta tb one total common shares codes tags rows} (k:i8 H H' mi) (I:s7 w H' mi a (n8 y.1) ta tb) (ha:m9 Lf 404 a ta) (hb:m9 Ls 405 (n8 y.1) tb):J1 w H f s bi mi Lf Ls y i (nmL f s bi mi (some (Q0 y)) one total common shares codes tags rows) H'
section
variable {w:World} {H:List O} {d f s bi mi:Nat} {Lf Ls:List (Int×Nat)} {nf nsn:Nat} {ps1 ps2:Array Value}
theorem cM3 {two one total common shares codes tags rows:Option V} {Q:Fl -> b8 -> List O -> Prop} (I:s7 w H mi [] [] 404 405) (h1:H[1]?=some (.tbl 248 ps1)) (h2:H[2]?=some (.tbl 220 ps2)) (hb:H[bi]?=some (dO (strKind pP w) ah6)) (hm:2 < mi) (hbm:bi≠mi)
 (hf:H[f]?=some (.list (Lf.map Q0))) (hs:H[s]?=some (.list (Ls.map Q0))) (hfm:f≠mi) (hsm:s≠mi) (of:N2 Lf nf) (os:N2 Ls nsn)
 (hQ:∀ H' two one total common shares codes tags rows,i8 H H' mi -> Q .next (nmL f s bi mi two one total common shares codes tags rows) H') :
 WS pP w (KK w.params) (fiL w) (d+6) (fun _ _ _=>False) (nmL f s bi mi two one total common shares codes tags rows) H (B3 4 (j0 (m7 11))) Q:=by
 refine ay8 (b6 rfl rfl ((L7 _ _ (O8 (.inl hs)) (J2 w H f s bi mi Lf Ls) (.mk (.pre (az _) _) I (.inl ⟨rfl,rfl⟩) (.inl ⟨rfl,rfl⟩)) ?_ ?_ ?_)))
 · (intro i m H'; intro qz1; obtain ⟨k,I,ha,hb'⟩:=qz1)
   exact .inl (k _ _ hsm hs)
 · rintro i v m H' hv J
   obtain @⟨H',a,ta,b,tb,two,one,total,common,shares,codes,tags,rows,k,I,ha,hb'⟩:=J
   rw [aU] at hv
   (refine b9 (bp.mp hv) fun y hy qz2=>?_; subst qz2)
   have hy:=ba hy
   refine e7 (.inr ⟨by rfl,by rfl⟩) (c7 (q9 (o6 (pl:=fun _=>_) (b6 rfl rfl ((i0 _ (cL0 I) (bh4 w) (c6 (al0 rfl rfl (d9 (cH4 (d:=d+3) I (bg4 0 y.1).nb (aF8 y.1) (fun e=>hb'.hu os (ao _) hy e) fun H2 tb' k2 I2 e2=>?_))))))))))
   have k2:=k.trans k2
   have hb2:=hb'.next hy e2
   clear I e2 k
   refine c7 (ay8 (b6 rfl rfl ((L7 _ _ (O8 (.inl (k2 _ _ hfm hf))) (J1 w H f s bi mi Lf Ls y) (.mk k2 I2 ha hb2) ?_ ?_ ?_))))
   · (intro i m H'; intro qz3; obtain ⟨k,I,ha,hb'⟩:=qz3)
     exact .inl (k _ _ hfm hf)
   · rintro i v m H' hv J
     obtain @⟨H',a,ta,tb,one,total,common,shares,codes,tags,rows,k,I,ha,hb'⟩:=J
     rw [aU] at hv
     (refine b9 (bp.mp hv) fun x hx qz4=>?_; subst qz4)
     have hx:=ba hx
     refine e7 (.inl (by rfl)) (c7 (q9 (o6 (pl:=fun _=>_) (b6 rfl rfl ((i0 _ (cK9 I) (bh3 w) (c6 (b6 rfl rfl (d9 (cH3 (d:=d+5) I (fun e=>ha.hu of (by decide) hx e) fun H3 ta' k3 I3 e3=>?_))))))))))
     have k3:=k.trans k3
     refine cM2 (ps1:=ps1) (ps2:=ps2) I3 (k3 _ _ (by exact aS3 hm) h1) (k3 _ _ (by exact bV0 hm) h2) (k3 _ _ hbm hb) hm hbm fun H4 total common shares codes tags rows k4 I4=>?_
     exact .mk (k3.trans k4) I4 (ha.next hx e3) hb'
   · (intro m H'; intro qz5; obtain ⟨k,I,ha,hb'⟩:=qz5)
     refine e6 ?_
     exact J2.mk k I ha hb'
 · (intro m H'; intro qz6; obtain ⟨k,I,ha,hb'⟩:=qz6)
   exact hQ _ _ _ _ _ _ _ _ _ k
set_option hygiene false in
theorem bo5 {c s0 n:Nat} {ns:List Int} {E:EP} {fi:FI} {m:b8} {cs kk:Int} {p1 p2 p3 p4 p5 p6 p7 p8 p9 q1 q2 q3 q4 q5 q6 q7 r1 r2 r3 r4 r5:Pos} {sc:Scope} {k1 k2 k3 k4 k5:Nat} {Q:V -> List O -> Prop} (hok:Q7 sc fi) (hsc:sc={ kind:=.function,names:=[(".0",.local),("x",.local),("_law_row",.globalImplicit)],isGenerator:=false,isCoroutine:=false })
 (hn:ns.length <= 63) (hs:H[s0]?=some (.arr (ns.map V.int))) (hsc':s0≠c) (hc:H[c]?=some (.clk n)) (h0:405 < n) (hfi:fi.sc.names.lookup (aa "script")=some .local) (hm:p0 m (aa "script")=some (.ref s0)) (hg:fi.sc.names.lookup (aa "_law_row")=some .globalImplicit)
 (h:∀ H' L n' l,E1 c H H' -> H'[c]?=some (.clk n') -> 405 < n' -> N2 L n' -> H'[l]?=some (.list (L.map Q0)) -> Q (.ref l) H') :
 WE pP w (KK w.params) fi (d+1) E m H (.BinOp (.ListComp (.Call (.Name "_law_row" p1) [.BinOp (.Name "x" p2) .FloorDiv (.Constant (.int 2) k1 p3) p4] [] p5) [⟨.Name "x" p6,.Subscript (.Name "script" p7) (.Slice none (some (.Constant (.int 63) k2 p8)) none p9) q1,[.Compare (.BinOp (.Name "x" q2) .Mod (.Constant (.int 2) k3 q3) q4) [.Eq] [.Constant (.int cs) k4 q5] q6],0⟩] sc q7) .Add (.List [.Call (.Name "_law_row" r1) [.Constant (.int kk) k5 r2] [] r3] r4) r5) Q:=by
 refine g8 (cK8 hok hsc hn hs hsc' hc h0 hfi hm hg fun H1 L n' kc hc1 hn1 ok hl=>?_)
 (refine G8 (N3 H1 (.list (L.map Q0))) fun H2 x1 e2 ex p2 g2=>?_)
 rw [<- e2,<- ex]
 have kc:=kc.trans (e2▸E1.app:E1 c H1 H2)
 clear e2 ex
 have hc2:=l4 p2 hc1
 refine G3 (c6 (n7 (I0 hg (bn7 _) ⟨by first | exact aG5 _ | exact ab2 _ | exact trivial,c6 (j9 (d9 (bm3 (d:=d) hc2 fun H3 t k3 l3=>aj2 fun m3 e1 e2 e3 e4 e5=>(d9 ⟨by show 1 <= aB; decide,?_⟩))))⟩)))
 have hx1:x1≠c:=fun q=>by rw [q,hc2] at g2; cases g2
 have g3:=k3 _ _ hx1 g2
 have kc:=kc.trans ⟨k3,l3⟩
 clear k3 l3 g2 hc2 p2
 (refine G8 (N3 H3 (.list [Q0 (kk,t)])) fun H4 x4 e4' ex p4 g4=>?_)
 rw [<- e4',<- ex]
 have kc:=kc.trans (e4'▸E1.app:E1 c H3 H4)
 clear e4' ex
 refine am0 (l4 p4 g3) g4 (by rw [aD]; exact ag (Nat.add_le_add_right hl 1) (by show 64 <= aB; decide)) ?_
 have hc4:=l4 p4 e3
 (refine G8 (N3 H4 (.list (L.map Q0++[Q0 (kk,t)]))) fun H5 x5 e5' ex p5 g5=>?_)
 rw [<- e5',<- ex]
 have kc:=kc.trans (e5'▸E1.app:E1 c H4 H5)
 exact h H5 (L++[(kk,t)]) m3 x5 kc (l4 p5 hc4) (by exact aR8 hn1 e1) (ok.add hn1 e4 e2) (by rw [aQ]; exact g5)
theorem cM4 {n:Nat} {ns:List Int} {Q:V -> List O -> Prop} (hn:ns.length <= 63) (h0:H[0]?=some (.arr (ns.map V.int))) (h1:H[1]?=some (.tbl 248 ps1)) (h2:H[2]?=some (.tbl 220 ps2)) (h3:H[3]?=some (.clk n)) (hn0:405 < n)
 (hQ:∀ H',H'[1]?=some (.tbl 248 ps1) -> H'[2]?=some (.tbl 220 ps2) -> (∃ m,H'[3]?=some (.clk m)) -> Q (.bool true) H'):i5 pP w (KK w.params) (d+7) (fun _ _=>False) H (.st 334) [.ref 0] Q:=by
 refine E3 (cA2 w) (by rfl) (by rfl) ?_
 have e:r0 (i6 (m7 11)) ["script"] [.ref 0]=[nv "script" (.ref 0),nn "first",nn "second",nn "below",nn "matcher",nn "two",nn "one",nn "total",nn "common",nn "shares",nn "codes",nn "tags",nn "rows"]:=by rfl
 rw [e]
 refine c7 (l7 (bo5 (d:=d+5) (c:=3) (s0:=0) ⟨by decide,by decide,by rfl,by dsimp only; decide⟩ rfl hn h0 (by decide) h3 hn0 (by rfl) (by rfl) (by rfl) fun H1 Lf nf f k1 c1 m1 of gf=>(e7 (.inl rfl) (c7 (l7 (bo5 (d:=d+5) (c:=3) (s0:=0) ⟨by decide,by decide,by rfl,by dsimp only; decide⟩ rfl hn (k1.1 _ _ (by decide) h0) (by decide) c1 m1 (by rfl) (by rfl) (by rfl) fun H2 Ls ns' s k2 c2 m2 os gs=>?_))))))
 have gf2:=k2.1 _ _ (fun q=>by rw [q,c1] at gf; cases gf) gf
 have k2:=k1.trans k2
 clear k1 c1 m1 gf
 refine e7 (.inl rfl) (c7 (l7 (cw3 (by decide) ?_)))
 (refine G8 (N3 H2 (dO (strKind pP w) ah6)) fun H3 bi e3 ex p3 g3=>?_)
 refine (show KAs _ _ _ _ _ _ _ _ _ (V.ref H2.length) (H2++[dO (strKind pP w) ah6]) from ?_)
 rw [<- e3,<- ex]
 clear e3 ex
 refine e7 (.inr ⟨rfl,rfl⟩) (c7 (l7 (n7 (I0 rfl (cA3 _) ⟨by first | exact aG5 _ | exact ab2 _ | exact trivial,c6 (O5 (d9 (cI2 (d:=d) fun H4 k4 I4=>?_)))⟩))))
 have kx:∀ {j:Nat} {o:O},H3[j]?=some o -> H4[j]?=some o /\ j≠H3.length:=fun {j o} q=>by
  have lt:=(ae.mp q).1
  exact ⟨k4 _ _ (bI lt) (l4 (aF _ _) q),bI lt⟩
 have a1:=kx (l4 p3 (k2.1 _ _ (by decide) h1))
 have a2:=kx (l4 p3 (k2.1 _ _ (by decide) h2))
 have a3:=kx (l4 p3 c2)
 have a4:=kx (l4 p3 gf2)
 have a5:=kx (l4 p3 gs)
 have a6:=kx g3
 have lt:2 < H3.length:=(ae.mp (l4 p3 (k2.1 _ _ (by decide) h2))).1
 clear kx k4
 generalize H3.length=mi at I4 a1 a2 a3 a4 a5 a6 lt ⊢
 refine e7 (.inl rfl) (c7 (cM3 (d:=d) I4 a1.1 a2.1 a6.1 lt a6.2 a4.1 a5.1 a4.2 a5.2 of os fun H5 two one total common shares codes tags rows k5=>(c7 (E5 (bX4 ?_)))))
 exact hQ _ (k5 _ _ a1.2 a1.1) (k5 _ _ a2.2 a2.1) ⟨_,k5 _ _ a3.2 a3.1⟩
end
end
section
set_option tactic.hygienic false
theorem aq4 {h h':Heap} {a:Nat} {m:Str -> Option Value} (x:h.Ns a m) (k:∀ o,h.get? a=some o -> h'.get? a=some o):h'.Ns a m:=F3 (x) fun o es ep e r=>(Q3 o es ep (k _ e) r)
theorem bo6 {ρ:List b7} {h:Heap}:∀ {vs:List Value} {ns:List Int},IntsAre vs ns -> c8 ρ h (ns.map V.int) vs
 | _,_,.nil=>.nil
 | _,_,.cons n t r=>.cons (by unfold VR; exact ⟨_,rfl⟩) (bo6 r)
theorem aI1 {β:Type} {p:Nat -> Bool} {a:Nat} {o:β}:∀ l:List (Nat×β),(l.filter fun x=>p x.1).lookup a=some o -> p a=true /\ l.lookup a=some o
 | [],h=>nomatch h
 | (b,q)::l,h=>by
  rw [List.filter_cons] at h
  rw [bB]
  by_cases hb:p b=true
  · rw [if_pos hb,bB] at h
    cases e:(a==b) with
    | true=>rw [e] at h; exact ⟨(beq_iff_eq.mp e).symm▸hb,h⟩
    | false=>rw [e] at h; exact aI1 l h
  · rw [if_neg hb] at h
    (refine d0 (aI1 l h) fun h1 h2=>?_)
    have:(a==b)=false:=by
     cases e:(a==b) with
     | true=>exact absurd ((beq_iff_eq.mp e)▸h1) hb
     | false=>rfl
    rw [this]; exact ⟨h1,h2⟩
theorem cM5 {P:Params} {a:Nat} {o:Obj} (h:(KK P).lookup a=some o):(a≠248 /\ a≠220 /\ a≠331) /\ (K P).lookup a=some o:=by
 (refine d0 (aI1 (p:=fun b=>b !=248&&b !=220&&b !=331) _ h) fun h1 h2=>?_)
 refine ⟨?_,h2⟩
 simpa [and_assoc] using h1
theorem bo7 {f:Nat -> Option Obj} {h:Heap} (k:O0 ⟨f,[]⟩ h) {b:Nat} {o:Obj} (e:f b=some o):h.get? b=some o:=by
 (refine b9 (k b o e) fun o' e' u=>?_)
 rw [e',u.ex (fun q=>nomatch q)]
theorem law_main (noY:∀ o:O,Z3 o=false) (w:World) (s:Shared) (l:Addr) (vs:List Value) (ns:List Int) (mg mb:Str -> Option Value) (hg:s.gens=#[]) (ht:406 <= s.toks) (X:Frag.In (K w.params) s.heap) (G:s.heap.Ns aT mg) (lim:s.heap.NoLimit) (hb:s.heap.Ns ew mb) (hbi:∀ x:Str,x≠"__name__" -> mb x=bU x) (dig:∃ mc,s.heap.Ns cStatics mc /\ mc "sys.int_max_str_digits"=none)
 (hl:s.heap.IsList l vs.toArray) (hi:IntsAre vs ns) (hn:ns.length <= 63)
 {Q:Value -> Shared -> Prop} {E:Value -> Shared -> Prop} (hQ:∀ s',OldK s.heap s'.heap -> s'.os=s.os -> AllBare s'.gens -> Q (.bool true) s'):A4 (aA pP w) callerA (call (.ref 334) [.ref l]) Q E s:=by
 have h1:s.heap.get? 248=some (at1 w.params):=X _ _ (by kernel_rfl)
 have h2:s.heap.get? 220=some (as8 w.params):=X _ _ (by kernel_rfl)
 have h3:s.heap.get? 331=some (at7 w.params):=X _ _ (by kernel_rfl)
 have hlx:l≠248 /\ l≠220 /\ l≠331:=by
  obtain ⟨o,ho,hc,_⟩:=id hl
  refine (e9 (fun e=>?_) (fun e=>?_) (fun e=>?_))
  · rw [e,h1] at ho; cases ho; cases hc
  · rw [e,h2] at ho; cases ho; cases hc
  · rw [e,h3] at ho; cases ho; cases hc
 obtain ⟨f,fe⟩:∃ f:Nat -> Option Obj,f=fun b=>if b=248 \/ b=220 \/ b=331 then none else s.heap.get? b:=⟨_,rfl⟩
 have ff:∀ b,(b≠248 /\ b≠220 /\ b≠331) -> f b=s.heap.get? b:=fun b hb=>by rw [fe]; exact if_neg fun q=>q.elim hb.1 fun q=>q.elim hb.2.1 hb.2.2
 have fn:∀ b,b∈[248,220,331] -> f b=none:=fun b hb=>by
  rw [fe]
  refine if_pos ?_
  simpa using hb
 have S:d7 w (KK w.params) ⟨f,[]⟩ [⟨l,[],none⟩,⟨248,[248],none⟩,⟨220,[220],none⟩,⟨331,[331],none⟩] [.arr (ns.map V.int),.tbl 248 #[],.tbl 220 #[],.clk s.toks] s.heap (gt s):=by
  refine ⟨fun h' k=>?_,fun b o e=>?_,rfl,fun i e o hi' ho'=>?_,fun b hb'=>?_,by show [248,220,331].Nodup; decide,fun b hb'=>fn b hb',by simp,fun x z hx=>?_,fun i e o hi' ho'=>?_,(fun e he=>nomatch he),by show 0 < s.toks; exact bV1 ht⟩
  · have kk:∀ b,(b≠248 /\ b≠220 /\ b≠331) -> ∀ o,s.heap.get? b=some o -> h'.get? b=some o:=fun b hb' o e=>bo7 k (by rw [ff b hb']; exact e)
    exact ⟨fun a o e=>d0 (cM5 e) fun e1 e2=>kk a e1 o (X a o e2),⟨mg,aq4 G (kk _ (by decide))⟩,b9 (lim) fun mc a b=>(c5 mc (aq4 a (kk _ (by decide))) b),(c5 mb (aq4 hb (kk _ (by decide))) hbi),b9 (dig) fun mc a b=>(c5 mc (aq4 a (kk _ (by decide))) b)⟩
  · have e:f b=some o:=e
    rw [fe] at e
    dsimp only at e
    split at e
    · cases e
    · exact (c5 o e .refl)
  · rcases i with _ | _ | _ | _ | i
    · cases hi'; cases ho'
      (refine b9 (id hl) fun o ho r=>?_)
      exact (m5 rfl rfl (c5 vs hl (bo6 hi)) (by show (f l).isSome=true; rw [ff _ hlx,ho]; rfl))
    · cases hi'; cases ho'
      exact (ae0 rfl rfl rfl ([]) trivial h1)
    · cases hi'; cases ho'
      exact (ae0 rfl rfl rfl ([]) trivial h2)
    · cases hi'; cases ho'
      exact (e9 rfl rfl h3)
    · simp at hi'
  · have hb':b∈[248,220,331]:=hb'
    rcases aJ.mp hb' with e | hb'
    · exact ⟨_,e▸h1⟩
    rcases aJ.mp hb' with e | hb'
    · exact ⟨_,e▸h2⟩
    exact ⟨_,au.mp hb'▸h3⟩
  · have hx:s.gens[x]?=some z:=hx
    rw [hg] at hx; simp at hx
  · rcases i with _ | _ | _ | _ | i
    · cases hi'; cases ho'; trivial
    · cases hi'; cases ho'; trivial
    · cases hi'; cases ho'; trivial
    · cases hi'; cases ho'; exact ao _
    · simp at hi'
 have hA:k9 callerA (0+7) []:=⟨rfl,rfl,by decide +kernel,by decide +kernel⟩
 refine ax6 (up (cM4 (w:=w) (d:=0) (ps1:=#[]) (ps2:=#[]) (n:=s.toks) (Q:=fun v H'=>v=.bool true /\ H'[1]?=some (.tbl 248 #[]) /\ H'[2]?=some (.tbl 220 #[]) /\ ∃ n,H'[3]?=some (.clk n)) hn rfl rfl rfl rfl (by exact bV2 ht) (fun _ a b c=>⟨rfl,a,b,c⟩) callerA _ _ s (.ref 334) [.ref l] hA S (by unfold VR; rfl) (.cons (by unfold VR; exact ⟨_,rfl,rfl⟩) .nil))) (fun v s' ⟨ρ',H',b,st,T,rv,hb',hT1,hT2,n,hT3⟩=>?_) (fun _ _ ⟨_,_,_,_,_,x,_⟩=>x.elim)
 subst hb'
 unfold VR at rv
 subst rv
 refine hQ s' ?_ st.2.2.1.1 fun z hz=>c0 (Array.getElem?_of_mem hz) fun k hk=>(T.bare k z hk).elim id fun ⟨i,_,o,_,_,_,h3,h4⟩=>by rw [noY o] at h4; cases h4
 have kp:∀ b o,(b≠248 /\ b≠220 /\ b≠331) -> s.heap.get? b=some o -> s'.heap.get? b=some o:=fun b o hb e=>bo7 T.keep (by rw [ff b hb]; exact e)
 (refine aK8 (T.at' hT1) fun e1 he1 ea1 _ _ more1 _ hm1=>?_)
 rw [ea1] at hm1
 (refine aK8 (T.at' hT2) fun e2 he2 ea2 _ _ more2 _ hm2=>?_)
 rw [ea2] at hm2
 (refine V4 (T.at' hT3) fun e3 he3 _ _ hm3=>?_)
 have q3:some e3=some ⟨331,[331],none⟩:=he3.symm.trans (z4 st.1 rfl)
 cases q3
 have c1:s.heap.get? 252=some (ad3 w.params):=X _ _ (by kernel_rfl)
 have t1:s.heap.TableAt 252 248 #[]:=⟨(N7 _ _ c1 (by rfl) (by rfl) (by rfl)),h1⟩
 have c2:s.heap.get? 224=some (ad1 w.params):=X _ _ (by kernel_rfl)
 have t2:s.heap.TableAt 224 220 #[]:=⟨(N7 _ _ c2 (by rfl) (by rfl) (by rfl)),h2⟩
 refine ⟨fun b o e=>?_,fun b o e=>?_⟩
 · by_cases q1:b=248
   · subst q1
     rw [h1] at e; cases e
     exact .inr (.inl (aM0 t1.isCodeTable rfl (#[]) more1.toArray rfl hm1))
   by_cases q2:b=220
   · subst q2
     rw [h2] at e; cases e
     exact .inr (.inl (aM0 t2.isCodeTable rfl (#[]) more2.toArray rfl hm2))
   by_cases q3:b=331
   · subst q3
     rw [h3] at e; cases e
     exact .inl hm3
   exact .inl (kp b o (e9 q1 q2 q3) e)
 · by_cases q1:b=248
   · exact ⟨_,q1▸hm1⟩
   by_cases q2:b=220
   · exact ⟨_,q2▸hm2⟩
   by_cases q3:b=331
   · exact ⟨_,q3▸hm3⟩
   exact ⟨_,kp b o (e9 q1 q2 q3) e⟩
end
end Mine
end
theorem PySem.Challenge.cw_dm0045_03_holds : PySem.Challenge.rw_dm0045_03.Holds := by
  w_on
  refine holds_law (by kernel_rfl) fun said => ?_
  refine Mine.holds_T (tk := 406) (q := Mine.q) (loose := Mine.loose) (Xt := fun s => xlAt Mine.q [] s && recOk [] s) (XP := XL Mine.q []) (Yf := fun s => (Hook.obs Mine.Hk s, Nat.ble 406 s.toks)) (Ya := fun w => (Hook.val Mine.Hk w, true)) (YP := Hook.says Mine.Hk) (N := 6000) Mine.left (fun w s e => Hook.of Mine.Hk w s (congrArg Prod.fst e)) (fun w s e => Nat.le_of_ble_eq_true (congrArg Prod.snd e)) (Hook.keeps Mine.Hk) (fun s e => xl_of s (Bool.and_eq_true_iff.mp e).1) XL.keeps (by rfl) (by rfl) (by rfl) (fun s e => recFacts_of (Bool.and_eq_true_iff.mp e).2) (by rfl) (by first | assumption | decide +kernel) (by decide +kernel) ⟨rfl, rfl, rfl, rfl, rfl, by decide +kernel⟩ ?hw ?hc
  case hw => w_witness2
  intro w s₀ s₁ mg mb G Y fa o pm cd doc dV kV ho hd hcd hD hmg hg ht args vals as hpre hlay hrd hwl hlo
  have KX := kIn_of Y
  clear ho hd hcd hD Y
  refine Ground.open G ?_
  intro T B D TE TW
  wrow_args hpre hlay hrd hwl hlo
  x_fa T KX hmg
  clear hmg
  rename_i ns _ _ _ _ _ _ _ l vs _ hL _ _ _ hI _ hn _
  refine Mine.law_main (fun _ => rfl) w s₁ l vs ns mg mb hg ht KX T.g T.nolimit T.b T.builtins T.nodigits hL hI (by omega) ?_
  intro s' h1 h2 h3
  exact ⟨.inl ⟨_, _, [], rfl, fun _ => rfl, ReadsW.bool true, by wrow_post, fun _ => ⟨List.nodup_nil, fun _ hm => (nomatch hm)⟩⟩, h1, h2, h3⟩

