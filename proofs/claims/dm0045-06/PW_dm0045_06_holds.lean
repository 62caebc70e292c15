import PyProof.Rows.All
import Wide.All
import OpenK.AllK
import PyProof.ExcStrAll.IndexError
import PyProof.ExcStrCall
import KE.KPop
import Wide.FinOn
import PySem.Challenge.RW_dm0045_06
open PySem PySem.W PyProof.Rows
set_option Elab.async false
set_option maxRecDepth 100000
set_option maxHeartbeats 0
namespace Mine
noncomputable abbrev pP : Program := PySem.Challenge.pw_dm0045_06
noncomputable abbrev rW : OpenLaw := PySem.Challenge.rw_dm0045_06
/-- Array.any over the whole array, by the list's recursor -/
noncomputable def anyF {α : Type} (as : Array α) (p : α → Bool) (i j : Nat) : Bool :=
  @Bool.rec (fun _ => Bool) (Array.any as p i j) (@Bool.rec (fun _ => Bool) (Array.any as p i j) (PySem.W.R.anyR as.toList p) (Nat.beq j as.size)) (Nat.beq i 0)
theorem anyF_eq : @Array.any.{0} = @anyF := by
  funext α as p i j
  unfold anyF
  cases h1 : Nat.beq i 0 with
  | false => rfl
  | true =>
    have e1 := Nat.eq_of_beq_eq_true h1
    subst e1
    cases h2 : Nat.beq j as.size with
    | false => rfl
    | true =>
      have e2 := Nat.eq_of_beq_eq_true h2
      subst e2
      show as.any p = PySem.W.R.anyR as.toList p
      rw [← PySem.W.R.anyR_eq, Array.any_toList]
noncomputable def tnB : Builtin := by
  refine (?F : (PySem.W.Fast.tw4202317264376624991 = ?w) → Builtin) ?h
  case F => exact fun _ => ?w
  case h =>
    unfold PySem.W.Fast.tw4202317264376624991
    rw [anyF_eq]
theorem tnB_eq : PySem.W.Fast.tw4202317264376624991 = tnB := by
  unfold PySem.W.Fast.tw4202317264376624991
  rw [anyF_eq]
  rfl
noncomputable def myTable (id : String) : Option Builtin :=
  @Bool.rec (fun _ => Option Builtin) (treeTable id) (some tnB) (Nat.beq (PySem.code id) (PySem.code "type.__new__"))
theorem table_my : treeTable = myTable := by
  funext id
  unfold myTable
  cases h : Nat.beq (PySem.code id) (PySem.code "type.__new__") with
  | false => rfl
  | true =>
    have e := Nat.eq_of_beq_eq_true h
    show treeTable id = some tnB
    have e2 : treeTable id = treeTable "type.__new__" := by unfold treeTable; rw [e]
    rw [e2, ← tnB_eq, ← PySem.W.Fast.te4202317264376624991]
    kernel_rfl
noncomputable def runT (tb : String → Option Builtin) (p : Program) (w : World) (n₀ : Nat) (ann : Option Value) : Nat → SharedT → Thread → Option SharedT
  | 0, _, _ => none
  | n + 1, s, t => match through t with
    | true => some s
    | false => match stepOk n₀ ann t with
      | false => none
      | true => match stepT (denote tb) p w s t with
        | some (s', t') => runT tb p w n₀ ann n s' t'
        | none => none
theorem runT_of {tb : String → Option Builtin} {p : Program} {w : World} {n₀ : Nat} {ann : Option Value} : ∀ (n : Nat) (s : SharedT) (t : Thread) (r : SharedT), runT tb p w n₀ ann n s t = some r → topRun tb p w n₀ ann n s.abs t = some r.abs
  | 0, _, _, _, h => by cases h
  | n + 1, s, t, r, h => by
    unfold runT at h
    unfold topRun
    cases ht : through t with
    | true => rw [ht] at h; cases h; rfl
    | false =>
      rw [ht] at h
      cases hk : stepOk n₀ ann t with
      | false => rw [hk] at h; cases h
      | true =>
        rw [hk] at h
        cases hs : stepT (denote tb) p w s t with
        | none => rw [hs] at h; cases h
        | some x =>
          obtain ⟨s', t'⟩ := x
          rw [hs] at h
          dsimp only at h ⊢
          rw [stepT_spec hs]
          exact runT_of n s' t' r h
noncomputable def bootT (P : Params) : BT :=
  let n := fun (o : Params → Obj) l r => BT.node (o P) l r
  n boot_o_0 (n boot_o_1 (n boot_o_3 (n boot_o_7 .nil .nil) .nil) (n boot_o_5 (n boot_o_9 .nil .nil) .nil)) (n boot_o_2 (n boot_o_4 (n boot_o_8 .nil .nil) .nil) (n boot_o_6 (n boot_o_10 .nil .nil) .nil))
theorem boot_abs (P : Params) : absHeap (bootT P) 11 (boot_heap P).life = boot_heap P := by kernel_rfl
noncomputable def looks1 (w : World) (s₁ : Shared) : Bool := (staticsOk [] (boot_heap w.params) s₁.heap && namesBound pP s₁.heap && gensDone s₁ && laidKept (boot_heap w.params) s₁.heap)
noncomputable def getT (s : SharedT) (a : Nat) : Option Obj := match Nat.blt a s.n with
  | true => (match s.tree.get a with | some o => alive o | none => none)
  | false => none
theorem getT_of {s : SharedT} {a : Nat} {o : Obj} (h : getT s a = some o) : s.abs.heap.get? a = some o := by
  unfold getT at h
  cases hb : Nat.blt a s.n with
  | false => rw [hb] at h; cases h
  | true =>
    rw [hb] at h
    cases hg : s.tree.get a with
    | none => rw [hg] at h; cases h
    | some o' =>
      rw [hg] at h
      exact (abs_get (Nat.le_of_ble_eq_true hb) hg).trans h
theorem getT_all {s : SharedT} : ∀ {as : List Nat} {os : List Obj}, as.map (getT s) = os.map some → as.map s.abs.heap.get? = os.map some
  | [], [], _ => rfl
  | [], _ :: _, h => by cases h
  | _ :: _, [], h => by cases h
  | a :: as, o :: os, h => by
    simp only [List.map_cons, List.cons.injEq] at h ⊢
    exact ⟨getT_of h.1, getT_all h.2⟩
section
universe u
variable {β : Type u}
noncomputable def fN (n : Nat) (k : Nat → β) : β := @Nat.rec (fun _ => β) (k 0) (fun m _ => k (Nat.succ m)) n
theorem fN_eq (n : Nat) (k : Nat → β) : fN n k = k n := by cases n <;> rfl
noncomputable def fList {α : Type} (g : α → (α → β) → β) (l : List α) : (List α → β) → β :=
  @List.rec α (fun _ => (List α → β) → β) (fun k => k []) (fun a _ ih k => g a fun a' => ih fun t' => k (a' :: t')) l
theorem fList_eq {α : Type} {g : α → (α → β) → β} (hg : ∀ a k, g a k = k a) (l : List α) : ∀ k : List α → β, fList g l k = k l := by
  induction l with
  | nil => intro k; rfl
  | cons a t ih => intro k; show g a _ = _; rw [hg]; exact ih _
noncomputable def fArr {α : Type} (g : α → (α → β) → β) (x : Array α) (k : Array α → β) : β := fList g x.toList fun l => k (Array.mk l)
theorem fArr_eq {α : Type} {g : α → (α → β) → β} (hg : ∀ a k, g a k = k a) (x : Array α) (k : Array α → β) : fArr g x k = k x := fList_eq hg _ _
noncomputable def fE (e : DictEntry) (k : DictEntry → β) : β := k ⟨e.1, e.2, e.3⟩
noncomputable def fV (v : Value) (k : Value → β) : β := match v with
  | .none => k .none | .ellipsis => k .ellipsis | .notImplemented => k .notImplemented
  | .bool b => k (.bool b) | .int i t => fN t fun t => k (.int i t) | .float b t => fN t fun t => k (.float b t) | .str s t => fN t fun t => k (.str s t) | .bytes b t => fN t fun t => k (.bytes b t)
  | .type n => k (.type n) | .builtin i => k (.builtin i) | .ref a => fN a fun a => k (.ref a)
theorem fV_eq (v : Value) (k : Value → β) : fV v k = k v := by cases v <;> simp only [fV, fN_eq]
noncomputable def fEV (e : DictEntry) (k : DictEntry → β) : β := fV e.2 fun a => fV e.3 fun b => k ⟨e.1, a, b⟩
theorem fEV_eq (e : DictEntry) (k : DictEntry → β) : fEV e k = k e := by unfold fEV; rw [fV_eq, fV_eq]
noncomputable def fD (d : Data) (k : Data → β) : β := match d with
  | .plain => k .plain
  | .prim v => k (.prim v)
  | .seq xs n => fArr fV xs fun xs => fN n fun n => k (.seq xs n)
  | .dict es n => fArr fEV es fun es => fN n fun n => k (.dict es n)
  | .set a b c => k (.set a b c)
  | .bytearray a b => k (.bytearray a b)
  | .cell v => k (.cell v)
  | .func f => k (.func f)
  | .cls c => fList fV c.bases fun bs => fList fV c.mro fun mro => fList fV c.subclasses fun sub => k (.cls ⟨c.name, bs, mro, c.ns, c.qualname, c.hasDict, c.slotNames, sub, c.abstract, c.collection, c.hasDel⟩)
  | .fields vs => fArr fV vs fun vs => k (.fields vs)
  | .freed => k .freed
theorem fD_eq (d : Data) (k : Data → β) : fD d k = k d := by
  cases d <;> simp only [fD, fArr_eq fV_eq, fArr_eq fEV_eq, fList_eq fV_eq, fN_eq]
noncomputable def fO (o : Obj) (k : Obj → β) : β := fD o.data fun d => fArr (fun x k => match x with | none => k none | some v => fV v fun v => k (some v)) o.slots fun sl => k ⟨o.cls, o.dict, d, sl⟩
theorem fO_eq (o : Obj) (k : Obj → β) : fO o k = k o := by
  unfold fO
  rw [fD_eq, fArr_eq]
  intro a k
  cases a with
  | none => rfl
  | some v => exact fV_eq _ _
noncomputable def fT (t : BT) : (BT → β) → β :=
  @BT.rec (fun _ => (BT → β) → β) (fun k => k .nil) (fun v _ _ l r k => fO v fun v => l fun l => r fun r => k (.node v l r)) t
theorem fT_eq (t : BT) : ∀ k : BT → β, fT t k = k t := by
  induction t with
  | nil => intro k; rfl
  | node v l r ihl ihr => intro k; show fO v (fun v => fT l fun l => fT r fun r => k (.node v l r)) = _; rw [fO_eq, ihl, ihr]
noncomputable def fS (s : SharedT) (k : SharedT → β) : β := fT s.1 fun t => fN s.2 fun n => fN s.6 fun tk => k ⟨t, n, s.3, s.4, s.5, tk, s.7⟩
theorem fS_eq (s : SharedT) (k : SharedT → β) : fS s k = k s := by unfold fS; rw [fT_eq, fN_eq, fN_eq]
end
/-- c steps of the machine, or fewer if the thread is through -/
noncomputable def goT (tb : String → Option Builtin) (p : Program) (w : World) (n₀ : Nat) (ann : Option Value) : Nat → SharedT → Thread → Option (Bool × SharedT × Thread)
  | 0, s, t => some (false, s, t)
  | n + 1, s, t => match through t with
    | true => some (true, s, t)
    | false => match stepOk n₀ ann t with
      | false => none
      | true => match stepT (denote tb) p w s t with
        | some (s', t') => goT tb p w n₀ ann n s' t'
        | none => none
/-- legs of c steps, the heap written out behind each -/
noncomputable def legs (tb : String → Option Builtin) (p : Program) (w : World) (n₀ : Nat) (ann : Option Value) (c : Nat) : Nat → SharedT → Thread → Option SharedT
  | 0, _, _ => none
  | m + 1, s, t => match goT tb p w n₀ ann c s t with
    | none => none
    | some (b, s', t') => match b with
      | true => some s'
      | false => fS s' fun s' => legs tb p w n₀ ann c m s' t'
section
variable {tb : String → Option Builtin} {p : Program} {w : World} {n₀ : Nat} {ann : Option Value}
theorem goT_run : ∀ (n N : Nat) (s s' : SharedT) (t t' : Thread) (b : Bool) (r : SharedT), goT tb p w n₀ ann n s t = some (b, s', t') → (if b then r = s' else runT tb p w n₀ ann N s' t' = some r) → ∃ M, M ≤ n + N + 1 ∧ runT tb p w n₀ ann M s t = some r
  | 0, N, s, s', t, t', b, r, h, k => by
    cases h
    exact ⟨N, by omega, k⟩
  | n + 1, N, s, s', t, t', b, r, h, k => by
    unfold goT at h
    cases ht : through t with
    | true =>
      rw [ht] at h
      cases h
      exact ⟨1, by omega, by unfold runT; rw [ht]; exact congrArg some (Eq.symm k)⟩
    | false =>
      rw [ht] at h
      cases hk : stepOk n₀ ann t with
      | false => rw [hk] at h; cases h
      | true =>
        rw [hk] at h
        cases hs : stepT (denote tb) p w s t with
        | none => rw [hs] at h; cases h
        | some x =>
          obtain ⟨s₂, t₂⟩ := x
          rw [hs] at h
          obtain ⟨M, hM, hr⟩ := goT_run n N s₂ s' t₂ t' b r h k
          exact ⟨M + 1, by omega, by unfold runT; rw [ht, hk, hs]; exact hr⟩
theorem legs_run {c : Nat} : ∀ (m : Nat) (s : SharedT) (t : Thread) (r : SharedT), legs tb p w n₀ ann c m s t = some r → ∃ M, M ≤ m * (c + 1) ∧ runT tb p w n₀ ann M s t = some r
  | 0, _, _, _, h => by cases h
  | m + 1, s, t, r, h => by
    unfold legs at h
    cases hg : goT tb p w n₀ ann c s t with
    | none => rw [hg] at h; cases h
    | some x =>
      obtain ⟨b, s', t'⟩ := x
      rw [hg] at h
      cases b with
      | true =>
        cases h
        obtain ⟨M, hM, hr⟩ := goT_run c 0 s r t t' true r hg rfl
        exact ⟨M, by rw [Nat.succ_mul]; omega, hr⟩
      | false =>
        dsimp only at h
        rw [fS_eq] at h
        obtain ⟨M₁, hM₁, hr₁⟩ := legs_run m s' t' r h
        obtain ⟨M, hM, hr⟩ := goT_run c M₁ s s' t t' false r hg hr₁
        exact ⟨M, by rw [Nat.succ_mul]; omega, hr⟩
end
/-- the k-th statement of the text; the j-th of its body; its parts -/
noncomputable def stAt (k : Nat) : Stmt := (pP.main.body[k]?).getD (.Pass ⟨0, 0, 0, 0⟩)
noncomputable def fBody : Stmt → List Stmt | .FunctionDef _ _ b _ _ _ _ _ _ _ => b | .ClassDef _ _ _ b _ _ _ _ _ _ _ => b | _ => []
noncomputable def fScope : Stmt → Scope | .FunctionDef _ _ _ _ _ _ sc _ _ _ => sc | _ => default
noncomputable def fArgs : Stmt → Arguments | .FunctionDef _ a _ _ _ _ _ _ _ _ => a | _ => default
noncomputable def docS (st : Stmt) : Str := match fBody st with | .Expr (.Constant (.str d) _ _) _ :: _ => d | _ => Str.empty
noncomputable def stIn (k j : Nat) : Stmt := ((fBody (stAt k))[j]?).getD (.Pass ⟨0, 0, 0, 0⟩)

noncomputable def o3 (P : Params) : Obj := ⟨(.type "dict"), none, (.dict ⟨[⟨PyData.keyHash P (Str.ofString "__name__"), (.str (Str.ofString "__name__") 165), (.str (Str.ofString "law_dm0045_06") 744)⟩, ⟨PyData.keyHash P (Str.ofString "__doc__"), (.str (Str.ofString "__doc__") 166), .none⟩, ⟨PyData.keyHash P (Str.ofString "__package__"), (.str (Str.ofString "__package__") 167), .none⟩, ⟨PyData.keyHash P (Str.ofString "__loader__"), (.str (Str.ofString "__loader__") 168), (.builtin "__main__.__loader__#opaque")⟩, ⟨PyData.keyHash P (Str.ofString "__spec__"), (.str (Str.ofString "__spec__") 169), .none⟩, ⟨PyData.keyHash P (Str.ofString "__annotations__"), (.str (Str.ofString "__annotations__") 170), (.ref 6)⟩, ⟨PyData.keyHash P (Str.ofString "__builtins__"), (.str (Str.ofString "__builtins__") 171), (.ref 4)⟩, ⟨PyData.keyHash P (Str.ofString "__file__"), (.str (Str.ofString "__file__") 173), (.str (Str.ofString "/claim/cut.py") 172)⟩, ⟨PyData.keyHash P (Str.ofString "__cached__"), (.str (Str.ofString "__cached__") 174), .none⟩, ⟨PyData.keyHash P (Str.ofString "_wall"), (.str (Str.ofString "_wall") 193), (.ref 21)⟩, ⟨PyData.keyHash P (Str.ofString "_tuplegetter"), (.str (Str.ofString "_tuplegetter") 252), (.ref 60)⟩, ⟨PyData.keyHash P (Str.ofString "Match"), (.str (Str.ofString "Match") 380), (.ref 135)⟩, ⟨PyData.keyHash P (Str.ofString "_calculate_ratio"), (.str (Str.ofString "_calculate_ratio") 388), (.ref 145)⟩, ⟨PyData.keyHash P (Str.ofString "SequenceMatcher"), (.str (Str.ofString "SequenceMatcher") 592), (.ref 242)⟩, ⟨PyData.keyHash P (Str.ofString "_keep_original_ws"), (.str (Str.ofString "_keep_original_ws") 601), (.ref 253)⟩, ⟨PyData.keyHash P (Str.ofString "Differ"), (.str (Str.ofString "Differ") 743), (.ref 313)⟩, ⟨PyData.keyHash P (Str.ofString "_law_asked"), (.str (Str.ofString "_law_asked") 754), (.ref 324)⟩, ⟨PyData.keyHash P (Str.ofString "_law_due"), (.str (Str.ofString "_law_due") 763), (.ref 331)⟩, ⟨PyData.keyHash P (Str.ofString "law"), (.str (Str.ofString "law") 785), (.ref 338)⟩]⟩ 19), ⟨[]⟩⟩
noncomputable def o248 (P : Params) : Obj := ⟨.none, none, (.fields ⟨[]⟩), ⟨[]⟩⟩
noncomputable def o313 (P : Params) : Obj := ⟨(.type "type"), none, (.cls ⟨(Str.ofString "Differ"), [(.type "object")], [(.ref 313), (.type "object")], 312, (Str.ofString "Differ"), true, [], [], false, none, false⟩), ⟨[none, none, some (.str (Str.ofString "Differ") 602), some (.str (Str.ofString "Differ") 610), some (.builtin "object.__new__"), some (.bool true)]⟩⟩
noncomputable def o312 (P : Params) : Obj := ⟨(.type "dict"), none, (.dict ⟨[⟨PyData.keyHash P (Str.ofString "__module__"), (.str (Str.ofString "__module__") 609), (.str (Str.ofString "cpy313.difflib") 194)⟩, ⟨PyData.keyHash P (Str.ofString "__firstlineno__"), (.str (Str.ofString "__firstlineno__") 613), (.int 491 612)⟩, ⟨PyData.keyHash P (Str.ofString "__doc__"), (.str (Str.ofString "__doc__") 615), (.str (docS (stAt 7)) 614)⟩, ⟨PyData.keyHash P (Str.ofString "__init__"), (.str (Str.ofString "__init__") 626), (.ref 268)⟩, ⟨PyData.keyHash P (Str.ofString "compare"), (.str (Str.ofString "compare") 643), (.ref 275)⟩, ⟨PyData.keyHash P (Str.ofString "_dump"), (.str (Str.ofString "_dump") 656), (.ref 282)⟩, ⟨PyData.keyHash P (Str.ofString "_plain_replace"), (.str (Str.ofString "_plain_replace") 672), (.ref 289)⟩, ⟨PyData.keyHash P (Str.ofString "_fancy_replace"), (.str (Str.ofString "_fancy_replace") 708), (.ref 296)⟩, ⟨PyData.keyHash P (Str.ofString "_fancy_helper"), (.str (Str.ofString "_fancy_helper") 722), (.ref 303)⟩, ⟨PyData.keyHash P (Str.ofString "_qformat"), (.str (Str.ofString "_qformat") 734), (.ref 310)⟩, ⟨PyData.keyHash P (Str.ofString "__static_attributes__"), (.str (Str.ofString "__static_attributes__") 737), (.ref 311)⟩, ⟨PyData.keyHash P (Str.ofString "__dict__"), (.str (Str.ofString "__dict__") 739), (.ref 314)⟩, ⟨PyData.keyHash P (Str.ofString "__weakref__"), (.str (Str.ofString "__weakref__") 741), (.ref 315)⟩]⟩ 3), ⟨[]⟩⟩
noncomputable def o268 (P : Params) : Obj := ⟨(.type "function"), none, (.func ⟨(Str.ofString "__init__"), (Str.ofString "Differ.__init__"), fArgs (stIn 7 1), .stmts (fBody (stIn 7 1)), fScope (stIn 7 1), 3, [], (.ref 261), .none, (.str (docS (stIn 7 1)) 625), (.str (Str.ofString "cpy313.difflib") 194), none, (.ref 267), .none, 0⟩), ⟨[]⟩⟩
noncomputable def o267 (P : Params) : Obj := ⟨(.type "code"), none, (.fields ⟨[(.str (Str.ofString "__init__") 617), (.str (Str.ofString "Differ.__init__") 618), (.str (Str.ofString "/claim/cut.py") 619), (.int 577 0), (.int 3 0), (.int 0 0), (.int 0 0), (.int 3 0), (.ref 262), (.bool true), (.int 181 0), (.ref 263), .none, (.ref 264), (.ref 265), (.ref 266), (.int 623 0), (.int 577 0), (.str (Str.ofString "/claim/cut.py") 624)]⟩), ⟨[]⟩⟩
noncomputable def o261 (P : Params) : Obj := ⟨(.type "tuple"), none, (.seq ⟨[.none, .none]⟩ 0), ⟨[]⟩⟩
noncomputable def o314 (P : Params) : Obj := ⟨(.type "getset_descriptor"), none, (.fields ⟨[(.str (Str.ofString "__dict__") 738), (.ref 313), (.builtin "function.__dict__"), (.builtin "function.__dict__#set")]⟩), ⟨[]⟩⟩
noncomputable def o315 (P : Params) : Obj := ⟨(.type "getset_descriptor"), none, (.fields ⟨[(.str (Str.ofString "__weakref__") 740), (.ref 313), (.builtin "ExceptionGroup.__weakref__"), .none]⟩), ⟨[]⟩⟩
noncomputable def o282 (P : Params) : Obj := ⟨(.type "function"), none, (.func ⟨(Str.ofString "_dump"), (Str.ofString "Differ._dump"), fArgs (stIn 7 3), .stmts (fBody (stIn 7 3)), fScope (stIn 7 3), 3, [], .none, .none, (.str (docS (stIn 7 3)) 655), (.str (Str.ofString "cpy313.difflib") 194), none, (.ref 281), .none, 0⟩), ⟨[]⟩⟩
noncomputable def o281 (P : Params) : Obj := ⟨(.type "code"), none, (.fields ⟨[(.str (Str.ofString "_dump") 644), (.str (Str.ofString "Differ._dump") 645), (.str (Str.ofString "/claim/cut.py") 646), (.int 638 0), (.int 5 0), (.int 0 0), (.int 0 0), (.int 35 0), (.ref 276), (.bool true), (.int 181 0), (.ref 277), .none, (.ref 278), (.ref 279), (.ref 280), (.int 653 0), (.int 638 0), (.str (Str.ofString "/claim/cut.py") 654)]⟩), ⟨[]⟩⟩
noncomputable def o324 (P : Params) : Obj := ⟨(.type "function"), none, (.func ⟨(Str.ofString "_law_asked"), (Str.ofString "_law_asked"), fArgs (stAt 9), .stmts (fBody (stAt 9)), fScope (stAt 9), 3, [], .none, .none, .none, (.str (Str.ofString "law_dm0045_06") 744), none, (.ref 323), .none, 0⟩), ⟨[]⟩⟩
noncomputable def o323 (P : Params) : Obj := ⟨(.type "code"), none, (.fields ⟨[(.str (Str.ofString "_law_asked") 746), (.str (Str.ofString "_law_asked") 747), (.str (Str.ofString "/claim/cut.py") 748), (.int 754 0), (.int 1 0), (.int 0 0), (.int 0 0), (.int 3 0), (.ref 318), (.bool true), (.int 181 0), (.ref 319), .none, (.ref 320), (.ref 321), (.ref 322), (.int 752 0), (.int 754 0), (.str (Str.ofString "/claim/cut.py") 753)]⟩), ⟨[]⟩⟩
noncomputable def o331 (P : Params) : Obj := ⟨(.type "function"), none, (.func ⟨(Str.ofString "_law_due"), (Str.ofString "_law_due"), fArgs (stAt 10), .stmts (fBody (stAt 10)), fScope (stAt 10), 3, [], .none, .none, .none, (.str (Str.ofString "law_dm0045_06") 744), none, (.ref 330), .none, 0⟩), ⟨[]⟩⟩
noncomputable def o330 (P : Params) : Obj := ⟨(.type "code"), none, (.fields ⟨[(.str (Str.ofString "_law_due") 755), (.str (Str.ofString "_law_due") 756), (.str (Str.ofString "/claim/cut.py") 757), (.int 761 0), (.int 2 0), (.int 0 0), (.int 0 0), (.int 3 0), (.ref 325), (.bool true), (.int 181 0), (.ref 326), .none, (.ref 327), (.ref 328), (.ref 329), (.int 761 0), (.int 761 0), (.str (Str.ofString "/claim/cut.py") 762)]⟩), ⟨[]⟩⟩
noncomputable def o338 (P : Params) : Obj := ⟨(.type "function"), none, (.func ⟨(Str.ofString "law"), (Str.ofString "law"), fArgs (stAt 11), .stmts (fBody (stAt 11)), fScope (stAt 11), 3, [], .none, .none, .none, (.str (Str.ofString "law_dm0045_06") 744), none, (.ref 337), .none, 0⟩), ⟨[]⟩⟩
noncomputable def o337 (P : Params) : Obj := ⟨(.type "code"), none, (.fields ⟨[(.str (Str.ofString "law") 764), (.str (Str.ofString "law") 765), (.str (Str.ofString "/claim/cut.py") 766), (.int 770 0), (.int 1 0), (.int 0 0), (.int 0 0), (.int 3 0), (.ref 332), (.bool true), (.int 181 0), (.ref 333), .none, (.ref 334), (.ref 335), (.ref 336), (.int 783 0), (.int 770 0), (.str (Str.ofString "/claim/cut.py") 784)]⟩), ⟨[]⟩⟩

noncomputable def K (P : Params) : List (Nat × Obj) := [(3, o3 P), (248, o248 P), (313, o313 P), (312, o312 P), (268, o268 P), (267, o267 P), (261, o261 P), (314, o314 P), (315, o315 P), (282, o282 P), (281, o281 P), (324, o324 P), (323, o323 P), (331, o331 P), (330, o330 P), (338, o338 P), (337, o337 P)]
noncomputable def asK : List Nat := [3, 248, 313, 312, 268, 267, 261, 314, 315, 282, 281, 324, 323, 331, 330, 338, 337]
noncomputable def kS (P : Params) : List (Option Obj) := [some (o3 P), some (o248 P), some (o313 P), some (o312 P), some (o268 P), some (o267 P), some (o261 P), some (o314 P), some (o315 P), some (o282 P), some (o281 P), some (o324 P), some (o323 P), some (o331 P), some (o330 P), some (o338 P), some (o337 P)]
noncomputable def q : Program := view pP [0, 2, 3, 4, 5, 6, 7, 9, 10, 11]
noncomputable def loose : List Str := ["_tuplegetter", "Match", "SequenceMatcher"]
noncomputable def run0 (w : World) (os : OsState) : Option SharedT := legs myTable pP w 11 (some (.ref 6)) 400 8 ⟨bootT w.params, 11, (boot_heap w.params).life, Array.mk [], boot_drawn, boot_toks, os⟩ (topStub pP)
noncomputable def topA (w : World) (os : OsState) : Option Bool := (run0 w os).map fun s => looks1 w s.abs
noncomputable def seen0 (s : Shared) := openSeen q loose [] (fun s => xlAt q [] s && recOk [] s) true s
noncomputable def topB (w : World) (os : OsState) := (run0 w os).map fun s => seen0 s.abs
noncomputable def goodB := openGood q loose
noncomputable def topC (w : World) (os : OsState) : Option (List (Option Obj)) := (run0 w os).map fun s => asK.map (getT s)
theorem twA : (fun (_ : World → OsState → Option Bool) => true) topA = true := by k_qdec
theorem twB : (fun _ => true) topB = true := by k_qdec
theorem twC : (fun _ => true) topC = true := by k_qdec
theorem twG : (fun _ => true) goodB = true := by k_qdec
theorem twK : (fun _ => true) kS = true := by k_qdec
theorem topA_ok (w : World) : topA w = fun _ => some true := by
  rw [PySem.W.Fast.te5067563107919825018]; kernel_rfl
theorem topB_ok (w : World) : topB w = fun _ => some goodB := by
  rw [PySem.W.Fast.te2543148203304448840, PySem.W.Fast.te4040843021490743674]; kernel_rfl
theorem topC_ok (w : World) : topC w = fun _ => some (kS w.params) := by
  rw [PySem.W.Fast.te17501544405551553966, PySem.W.Fast.te4783089825950041704]; kernel_rfl

theorem kS_eq (P : Params) : kS P = ((K P).map (·.2)).map some := rfl
theorem run_ok (w : World) (os : OsState) : ∃ r, run0 w os = some r ∧ looks1 w r.abs = true ∧ seen0 r.abs = goodB ∧ asK.map (getT r) = kS w.params := by
  have a := congrFun (topA_ok w) os
  have b := congrFun (topB_ok w) os
  have c := congrFun (topC_ok w) os
  unfold topA at a
  unfold topB at b
  unfold topC at c
  cases h : run0 w os with
  | none => rw [h] at a; cases a
  | some r =>
    rw [h] at a b c
    exact ⟨r, rfl, Option.some.inj a, Option.some.inj b, Option.some.inj c⟩
theorem imp0 : importedModules pP.main.body = [] := by kernel_rfl
theorem open0 (w : World) : (fencedOpening treeTable pP w 6000).map (fun s => (s.heap, s.gens, s.drawn, s.toks)) = some (boot_heap w.params, Array.mk [], boot_drawn, boot_toks) :=
  boot_open (p := pP) (N := 6000) (by kernel_rfl) (by rfl) (fun s => by kernel_rfl) w
theorem size1 (w : World) : ((boot_heap w.params).isNs mainGlobals && (Array.mk ([] : List GenState)).size == 0) = true := by kernel_rfl
theorem size2 (w : World) : (boot_heap w.params).objs.size = 11 := by kernel_rfl
theorem size3 (w : World) : (boot_heap w.params).nsMap mainGlobals "__annotations__" = some (.ref 6) := by kernel_rfl
theorem boot_s (w : World) (os : OsState) : (⟨bootT w.params, 11, (boot_heap w.params).life, Array.mk [], boot_drawn, boot_toks, os⟩ : SharedT).abs = ⟨boot_heap w.params, Array.mk [], boot_drawn, boot_toks, os⟩ := by
  unfold SharedT.abs; rw [boot_abs]
noncomputable abbrev Hk : Hook := kHook K asK fun _ => rfl
theorem from0 (w : World) (os : OsState) : ∃ r : SharedT, topFrom treeTable pP w 6000 ⟨boot_heap w.params, Array.mk [], boot_drawn, boot_toks, os⟩ = some r.abs ∧ seen0 r.abs = goodB ∧ asK.map r.abs.heap.get? = (K w.params).map fun p => some p.2 := by
  obtain ⟨r, h1, h2, h3, h4⟩ := run_ok w os
  unfold run0 at h1
  obtain ⟨M, hM, hr⟩ := legs_run 8 _ _ _ h1
  have hr := runT_of _ _ _ _ hr
  have hr := topRun_mono (6000 - M) _ _ _ _ hr
  rw [show M + (6000 - M) = 6000 by omega, ← table_my, boot_s] at hr
  refine ⟨r, ?_, h3, ?_⟩
  · unfold topFrom
    dsimp only
    rw [size1, size2, size3, hr, imp0]
    unfold looks1 at h2
    show (match staticsOk [] (boot_heap w.params) r.abs.heap && namesBound pP r.abs.heap && gensDone r.abs && laidKept (boot_heap w.params) r.abs.heap with | true => some r.abs | false => none) = _
    rw [h2]
  · rw [kS_eq] at h4
    rw [getT_all h4, List.map_map]
    rfl
theorem left : LeftO pP q loose (fun s => xlAt q [] s && recOk [] s) Hk.obs Hk.val 6000 := by
  intro w
  obtain ⟨⟨h, gs, d, k, os⟩, e, e'⟩ := Option.map_eq_some_iff.mp (open0 w)
  dsimp only at e'
  obtain ⟨e1, e2, e3, e4⟩ : h = boot_heap w.params ∧ gs = Array.mk [] ∧ d = boot_drawn ∧ k = boot_toks := by simpa only [Prod.mk.injEq] using e'
  subst e1 e2 e3 e4
  obtain ⟨r, t, h3, h4⟩ := from0 w os
  unfold openEnds
  rw [e, imp0, Option.bind_some, t, Option.map_some]
  unfold seen0 goodB at h3
  refine congrArg some ?_
  rw [h3]
  exact congrArg (Prod.mk _) h4
end Mine
section
open PySem PySem.W PyProof.Rows
namespace Mine
/-! runs that may sleep in «yield from» a generator -/
noncomputable def delegate0 (s : Shared) : Value → Bool
  | .ref a => match s.heap.get? a with
    | some o => !o.genNumber?.isSome
    | none => true
  | _ => true
/-- might a yield show something, where nothing is registered -/
noncomputable def closing0 (s : Shared) (frames : List Frame) (code : Code) (guarded : Bool) : Bool :=
  frames.any Frame.guarded || (guarded && match code with
    | .builtin "proto.yield_from" ⟨it :: _, _⟩ => delegate0 s it
    | _ => true)
theorem closing0_shows {s : Shared} {frames : List Frame} {code : Code} {g : Bool} (h : closing0 s frames code g = false) (hr : s.heap.life.registered = []) : closingShows s frames code g = false := by
  unfold closing0 at h
  unfold closingShows
  rw [Bool.or_eq_false_iff] at h ⊢
  refine ⟨h.1, ?_⟩
  have h2 := h.2
  cases g with
  | false => rfl
  | true =>
    rw [Bool.true_and] at h2 ⊢
    split at h2
    · rename_i it rest kw
      unfold delegate0 at h2
      cases it with
      | ref a =>
        show delegateShows s (.ref a) = false
        unfold delegateShows
        dsimp only at h2 ⊢
        cases ho : s.heap.get? a with
        | none => rw [ho] at h2
        | some o =>
          rw [ho] at h2
          dsimp only at h2 ⊢
          cases hn : o.genNumber? with
          | none => rw [hn] at h2; cases h2
          | some n => rw [hr]; rfl
      | _ => cases h2
    · cases h2
/-- a yield, out of «yield from», that shows nothing to the collector -/
noncomputable def mutedYield (s : Shared) (t : Thread) : Bool := match t.cur, splitAtGen t.stack with
  | .yield _ g _ _, some (frames, _, _) => !closing0 s frames t.code g
  | _, _ => false
noncomputable def calm2 (s : Shared) (t : Thread) : Bool := t.calm || mutedYield s t
inductive Ev (den : Code → Sem Fin) (prog : Program) (w : World) (Φ : Shared → Thread → Prop) : Shared → Thread → Prop
  | now {s t} : Φ s t → Ev den prog w Φ s t
  | step {s t s' t'} : calm2 s t = true → stepK den prog w s t = .go s' t' → Ev den prog w Φ s' t' → Ev den prog w Φ s t
section
variable {den : Code → Sem Fin} {prog : Program} {w : World}
theorem muted_yield {s : Shared} {t : Thread} (h : mutedYield s t = true) : ∃ v g l k fs b rest, t.cur = .yield v g l k ∧ splitAtGen t.stack = some (fs, b, rest) ∧ closing0 s fs t.code g = false := by
  unfold mutedYield at h
  split at h
  · rename_i v g l k fs b rest e1 e2
    exact ⟨v, g, l, k, fs, b, rest, e1, e2, by simpa using h⟩
  · cases h
theorem moves_muted (pr : Profile) (s : Shared) (t : Thread) (h : mutedYield s t = true) : (Config.single s t).moves pr = [.run 0] := by
  obtain ⟨v, g, l, k, fs, b, rest, e1, _⟩ := muted_yield h
  obtain ⟨cur, code, pos, stack⟩ := t
  dsimp only at e1
  subst e1
  simp [Config.moves, Config.single, movesFrom, Thread.moves]
theorem pick_muted (s : Shared) (t : Thread) (h : mutedYield s t = true) (hr : s.heap.life.registered = []) :
    (Config.single s t).pick w = .ok (.run 0, .single s t) := by
  have h1 : (Config.single s t).collect? w.params = none := by
    simp [Config.collect?, Config.single, (nothing_to_collect _ _ _ s t hr).1]
  have h2 : (Config.single s t).collectable = [] := by
    simp [Config.collectable, Config.single, (nothing_to_collect w.params _ _ s t hr).2]
  simp only [Config.pick, h1, h2, Config.pickThread, moves_muted _ s t h]
  cases w.params.lifetimes <;> simp
theorem lifeStep_muted (others : List Value) (s : Shared) (t : Thread) (h : mutedYield s t = true) (hz : s.asleep) : lifeStep den prog w others s t = step den prog w s t := by
  obtain ⟨v, g, l, k, fs, b, rest, e1, e2, e3⟩ := muted_yield h
  obtain ⟨cur, code, pos, stack⟩ := t
  dsimp only at e1 e2 e3
  subst e1
  obtain ⟨hr, hc⟩ := hz
  have e3 := closing0_shows e3 hr
  unfold lifeStep
  split
  · simp [collectorTurn?, e2, e3, Thread.atItsEnd, stepCounting, hc]
  · simp [stepCounting, hc]
theorem run_muted (s : Shared) (t : Thread) (h : mutedYield s t = true) (hl : ∀ others, lifeStep den prog w others s t = step den prog w s t) :
    (Config.single s t).run den prog w 0 = (step den prog w s t).lift := by
  obtain ⟨v, g, l, k, fs, b, rest, e1, e2, e3⟩ := muted_yield h
  obtain ⟨cur, code, pos, stack⟩ := t
  dsimp only at e1 e2 e3
  subst e1
  simp only [Config.run, Config.single]
  first
    | (simp [hl, others_single, frozenBadly, ThreadState.insideWrite]; split <;> simp_all [Step.lift, Config.single]; done)
    | (simp [hl, others_single, frozenBadly, ThreadState.insideWrite]; split <;> simp_all [Step.lift, Config.single] <;> split <;> simp; done)
    | (simp [hl, others_single, frozenBadly, ThreadState.insideWrite, Thread.finalizes]; split <;> simp_all [Step.lift, Config.single]; done)
    | (simp [hl, others_single, frozenBadly, ThreadState.insideWrite, Thread.finalizes]; split <;> simp_all [Step.lift, Config.single] <;> split <;> simp; done)
theorem sstep_calm2 (s : Shared) (t : Thread) {s' t'} (h : calm2 s t = true) (hr : s.asleep) (e : step den prog w s t = .go s' t') : sstep den prog w (.single s t) = .go (.single s' t') := by
  unfold calm2 at h
  rcases Bool.or_eq_true _ _ ▸ h with h | h
  · rcases sstep_single den prog w s t h hr with q | q
    · rw [q, e]; rfl
    · rw [q] at e; cases e
  · have hl := fun o => lifeStep_muted (den := den) (prog := prog) (w := w) o s t h hr
    simp only [sstep, pick_muted s t h hr.1, Config.move, run_muted s t h hl]
    rw [e]; rfl
theorem muted_forget {s s₂ : Shared} {t t₂ : Thread} (hs : s₂.forget = s.forget) (ht : t₂.forget = t.forget) : mutedYield s₂ t₂ = mutedYield s t := by
  obtain ⟨eh, _⟩ := Shared.forget_eq hs
  obtain ⟨cur, code, pos, stack⟩ := t
  obtain ⟨cur₂, code₂, pos₂, stack₂⟩ := t₂
  simp only [Thread.forget, Thread.mk.injEq] at ht
  obtain ⟨rfl, rfl, rfl, e⟩ := ht
  cases cur₂ with
  | yield v g l k =>
    unfold mutedYield
    dsimp only
    have a := splitAtGen_forgetAll stack
    have b := splitAtGen_forgetAll stack₂
    rw [e, a] at b
    cases h1 : splitAtGen stack with
    | none =>
      rw [h1] at b
      cases h2 : splitAtGen stack₂ with
      | none => rfl
      | some x => rw [h2] at b; cases b
    | some x =>
      obtain ⟨fs, y, r⟩ := x
      rw [h1] at b
      cases h2 : splitAtGen stack₂ with
      | none => rw [h2] at b; cases b
      | some x₂ =>
        obtain ⟨fs₂, y₂, r₂⟩ := x₂
        rw [h2] at b
        simp only [Option.map_some, Option.some.injEq, Prod.mk.injEq] at b
        have ea : fs.any Frame.guarded = fs₂.any Frame.guarded := by rw [← any_guarded_forgetAll fs, ← any_guarded_forgetAll fs₂, b.1]
        dsimp only
        unfold closing0
        rw [ea]
        unfold delegate0
        rw [eh]
  | _ => rfl
theorem calm2_forget {s s₂ : Shared} {t t₂ : Thread} (hs : s₂.forget = s.forget) (ht : t₂.forget = t.forget) : calm2 s₂ t₂ = calm2 s t := by
  unfold calm2
  rw [muted_forget hs ht, ← Thread.calm_forget t₂, ht, Thread.calm_forget]
/-- a run, on the real machine -/
theorem Ev.real {Φ : Shared → Thread → Prop} {s t} (h : Ev den prog w Φ s t) : ∀ s₂ t₂, s₂.forget = s.forget → t₂.forget = t.forget → s₂.asleep →
    ∃ n s' t' s₃ t₃, schedN den prog w n (.single s₂ t₂) = .running (.single s₃ t₃) ∧ s₃.forget = s'.forget ∧ t₃.forget = t'.forget ∧ Φ s' t' ∧ s₃.heap.life = s₂.heap.life := by
  induction h with
  | now h => exact fun s₂ t₂ hs ht ha => ⟨0, _, _, s₂, t₂, rfl, hs, ht, h, rfl⟩
  | @step s t s' t' c e _ ih =>
    intro s₂ t₂ hs ht ha
    have e2 : (PySem.step den prog w s₂ t₂).forget = (Step.go s' t').forget := by
      rw [step_same den prog w hs ht, ← stepK_forget, e]
    cases hst : PySem.step den prog w s₂ t₂ with
    | halt o x => rw [hst] at e2; cases e2
    | go s₃ t₃ =>
      rw [hst] at e2
      simp only [Step.forget, Step.go.injEq] at e2
      have hlife := step_life den prog w s₂ s₃ t₂ t₃ hst
      obtain ⟨n, a, b, s₄, t₄, h1, h2, h3, h4, h5⟩ := ih s₃ t₃ e2.1 e2.2 (Shared.asleep_of_life hlife ha)
      refine ⟨n + 1, a, b, s₄, t₄, ?_, h2, h3, h4, h5.trans hlife⟩
      show (match sstep den prog w (.single s₂ t₂) with | .go c' => schedN den prog w n c' | .halt o s => .halted o s) = _
      rw [sstep_calm2 s₂ t₂ (by rw [calm2_forget hs ht]; exact c) ha hst]
      exact h1
theorem schedN_add (n k : Nat) (c c' : Config) (h : schedN den prog w n c = .running c') : schedN den prog w (n + k) c = schedN den prog w k c' := by
  induction n generalizing c with
  | zero => cases h; rw [Nat.zero_add]
  | succ n ih =>
    rw [Nat.succ_add]
    simp only [schedN] at h ⊢
    split <;> rename_i q
    · rw [q] at h; exact ih _ h
    · rw [q] at h; cases h
/-- a run to its end -/
theorem Ev.halts {R : Result → Shared → Prop} {s t} (h : Ev den prog w (fun s' t' => ∃ r c p, t' = ⟨leafOf r, c, p, []⟩ ∧ leftWithCleanup s'.gens = false ∧ R r s') s t) (ha : s.asleep) :
    ∃ n r s' s'', schedN den prog w n (.single s t) = .halted (outcomeOf r) s' ∧ s'.forget = s''.forget ∧ s'.heap.life = s.heap.life ∧ R r s'' := by
  obtain ⟨n, s', t', s₃, t₃, h1, h2, h3, ⟨r, c, p, rfl, hl, hR⟩, h5⟩ := h.real s t rfl rfl ha
  have ht : t₃ = ⟨leafOf r, c, p, []⟩ := by
    obtain ⟨cur, code, pos, stack⟩ := t₃
    simp only [Thread.forget, Thread.mk.injEq, forgetAll_nil] at h3
    obtain ⟨rfl, rfl, rfl, e⟩ := h3
    cases stack with
    | nil => rfl
    | cons _ _ => cases e
  subst ht
  have hl3 : leftWithCleanup s₃.gens = false := by rw [leftWithCleanup_of_forget_eq h2]; exact hl
  have a3 : s₃.asleep := Shared.asleep_of_life h5 ha
  have hst : PySem.step den prog w s₃ ⟨leafOf r, c, p, []⟩ = .halt (outcomeOf r) s₃ := by
    obtain ⟨heap, gens, drawn, toks, os⟩ := s₃
    cases r <;> (show finish _ _ = _; unfold finish; rw [if_neg (by rw [hl3]; decide)]; rfl)
  refine ⟨n + 1, r, s₃, s', ?_, h2, h5, hR⟩
  rw [schedN_add n 1 _ _ h1]
  have hcalm : Thread.calm ⟨leafOf r, c, p, []⟩ = true := by cases r <;> rfl
  rcases sstep_single den prog w s₃ ⟨leafOf r, c, p, []⟩ hcalm a3 with q | q
  · simp only [schedN, q, hst]; rfl
  · rw [hst] at q
    cases r <;> cases q
end
end Mine
end
section
open PySem PySem.W PyProof.Rows
namespace Mine
theorem ctx_fits {Γ : Ctx} {st : List Frame} (h : Γ.Fits st) : Γ = Ctx.of Γ.code st := by
  obtain ⟨c, hd, ow, be, pa⟩ := Γ
  obtain ⟨h1, h2, h3, h4⟩ := h
  simp only at h1 h2 h3 h4
  subst h1 h2 h3 h4
  rfl
section
variable {M : Model} {Φ Ψ : Shared → Thread → Prop}
noncomputable abbrev EvM (M : Model) (Φ : Shared → Thread → Prop) := Ev M.den M.prog M.w Φ
theorem ev_step {s s' : Shared} {t t' : Thread} (e : M.step s t = .go s' t') (h : EvM M Φ s' t') : EvM M Φ s t := by
  cases hl : t.loud with
  | true => rw [M.step_loud hl] at e; cases e
  | false =>
    rw [M.step_quiet hl] at e
    refine .step ?_ e h
    unfold calm2
    rw [Thread.calm_eq, hl]
    cases hr : t.refused with
    | true => obtain ⟨what, q⟩ := stepK_refused M.den M.prog M.w (s := s) hr; rw [q] at e; cases e
    | false => rfl
theorem ev_runN {n : Nat} {s s' : Shared} {t t' : Thread} (e : M.runN n s t = .running s' t') (h : EvM M Φ s' t') : EvM M Φ s t := by
  induction n generalizing s t with
  | zero => injection e with e1 e2; subst e1 e2; exact h
  | succ n ih =>
    rw [runN_succ] at e
    cases hs : M.step s t with
    | go s₁ t₁ => rw [hs] at e; exact ev_step hs (ih e)
    | halt o s₁ => rw [hs] at e; cases e
theorem ev_runs {Γ : Ctx} {p : Pos} {t : Sem Fin} {s s' : Shared} {r : Result} {base : List Frame} (h : Runs M Γ p t [] s (.ret r) s') (hf : Γ.Fits base) (k : ∀ c' p', EvM M Φ s' ⟨leafOf r, c', p', base⟩) : EvM M Φ s ⟨t, Γ.code, p, base⟩ := by
  obtain ⟨n, t', c', p', pre', hn, rfl, rfl⟩ := (runs_reach h base hf).runN
  exact ev_runN hn (k c' p')
theorem ev_seg {Γ : Ctx} {p : Pos} {t : Sem Fin} {fs : List Frame} {s s₁ : Shared} {e₁ : End} {g : Nat} {k : GenResult → Sem Fin} {l : List Value} {c₁ : Code} {p₁ : Pos} {st : List Frame} (h : Runs M Γ p t fs s e₁ s₁) (hf : Γ.Fits (.gen g k l c₁ p₁ :: st)) (hq : e₁.quiet = true)
    (hk : EvM M Φ (s₁.setGen g e₁.genState) ⟨k e₁.result, c₁, p₁, st⟩) : EvM M Φ s ⟨t, Γ.code, p, fs ++ .gen g k l c₁ p₁ :: st⟩ := by
  obtain ⟨n, t', c', p', pre', hn, hx⟩ := (runs_reach h _ hf).runN
  exact ev_runN hn (ev_step (step_exit_gen s₁ g k l c₁ p₁ st hx hq) hk)
theorem up_go {α : Type} {c : Code} {st : List Frame} {K : α → Sem Fin} {H : Value → Sem Fin} {gd : Bool → Bool} {lv : List Value → List Value} {Q : α → Pos → Shared → Prop} {E : Value → Pos → Shared → Prop}
    (hK : ∀ a p' s', Q a p' s' → EvM M Φ s' ⟨K a, c, p', st⟩) (hH : ∀ e p' s', E e p' s' → EvM M Φ s' ⟨H e, c, p', st⟩) : ∀ (t : Sem α) (p : Pos) (s : Shared), Sem.wp M (Ctx.of c st) t Q E p s → EvM M Φ s ⟨t.wrap K H gd lv, c, p, st⟩ := by
  intro t
  induction t with
  | pure a => exact fun p s h => hK a p s h
  | raise e => exact fun p s h => hH e p s h
  | unsupported | finish | yield | fork | await | register => exact fun p s h => h.elim
  | rule tag k ih => exact fun p s h => ev_step (step_rule M s c p st tag _) (ih () p s h)
  | «at» p' k ih => exact fun p s h => ev_step (step_at M s c p st p' _) (ih () p' s h)
  | load a part k ih => exact fun p s ⟨o, ho, h⟩ => ev_step (step_load M s c p st part _ ho) (ih o p s h)
  | update a part f k ih => exact fun p s ⟨ha, h⟩ => ev_step (step_update M s c p st part f _ ha) (ih () p _ h)
  | loadIfAlive a k ih => exact fun p s h => ev_step (step_loadIfAlive M s c p st a _) (ih _ p s h)
  | point l k ih => exact fun p s h => ev_step (step_point M s c p st _ _) (ih () p s h)
  | alloc o k ih => exact fun p s h => ev_step (step_alloc M s c p st o _) (ih _ p _ h)
  | fresh k ih => exact fun p s h => ev_step (step_fresh M s c p st _) (ih _ p _ h)
  | ask k ih => exact fun p s h => ev_step (step_ask M s c p st _) (ih _ p s h)
  | choose src n k ih => exact fun p s ⟨hn, h⟩ => ev_step (step_choose M s c p st src _ hn) (ih _ p _ h)
  | os q l k ih => exact fun p s h => ev_step (step_os M s c p st q _ _) (ih _ p _ h)
  | call c' h g l k ih =>
    intro p s ⟨r, s₁, hr, hw⟩
    refine ev_step (step_call M s c p st c' h (gd g) (lv l) _) ?_
    refine ev_runs (Γ := (Ctx.of c st).enter c' h p) hr (Ctx.Fits.enter (Ctx.fits_of c st) c' _ h (gd g) (lv l) p []) fun c₂ p₂ => ?_
    exact ev_step (step_leaf_ret M s₁ c₂ p₂ st r _ h (gd g) (lv l) c p []) (ih r p s₁ hw)
  | handled own k ih =>
    intro p s h
    refine ev_step (step_handled M s c p st own _) ?_
    cases own <;> exact ih _ p s h
  | genState g k ih => exact fun p s ⟨x, hg, h⟩ => ev_step (step_genState M s c p st _ hg) (ih _ p s h)
  | newGen c' k ih => exact fun p s h => ev_step (step_newGen M s c p st c' _) (ih _ p _ h)
  | stack k ih => exact fun p s h => ev_step (step_stack M s c p st _) (ih _ p s h)
  | thread k ih => exact fun p s h => ev_step (step_thread M s c p st _) (ih _ p s h)
  | resume g r l k ih =>
    intro p s ⟨res, s', hw, h⟩
    have hk := ih res p s' h
    unfold Wakes at hw
    cases hg : s.gens[g]? with
    | none => rw [hg] at hw; exact hw.elim
    | some x =>
      rw [hg] at hw
      cases x with
      | fresh c' =>
        cases r with
        | send v =>
          by_cases hv : v = .none
          · subst hv
            obtain ⟨e₁, s₁, hr, hq, rfl, rfl⟩ := hw
            exact ev_step (step_resume_fresh M s c p st (lv l) _ hg) (ev_seg (Γ := (Ctx.of c st).wake c' p) (fs := []) hr (Ctx.Fits.wake (Ctx.fits_of c st) c' g _ (lv l) p) hq hk)
          · have q : res = .justStarted ∧ s' = s := by cases v <;> first | exact absurd rfl hv | exact hw
            obtain ⟨rfl, rfl⟩ := q
            exact ev_step (step_resume_justStarted M s' c p st (lv l) _ hg hv) hk
        | throw x => obtain ⟨rfl, rfl⟩ := hw; exact ev_step (step_resume_throwFresh M s c p st x (lv l) _ hg) hk
      | suspended k₀ l₀ c₀ p₀ fs cl =>
        obtain ⟨e₁, s₁, hr, hq, rfl, rfl⟩ := hw
        exact ev_step (step_resume_suspended M s c p st r (lv l) _ hg) (ev_seg (Γ := (Ctx.of c st).wake c₀ p) hr (Ctx.Fits.wake (Ctx.fits_of c st) c₀ g _ (lv l) p) hq hk)
      | running => obtain ⟨rfl, rfl⟩ := hw; exact ev_step (step_resume_running M s' c p st r (lv l) _ hg) hk
      | finished => obtain ⟨rfl, rfl⟩ := hw; exact ev_step (step_resume_finished M s' c p st r (lv l) _ hg) hk
end
/-- what a tree does, wherever it stands; it may drive generators that sleep in «yield from» -/
noncomputable def wpU {α : Type} (M : Model) (A : Around) (t : Sem α) (Q : α → Shared → Prop) (E : Value → Shared → Prop) (s : Shared) : Prop :=
  ∀ (c : Code) (p : Pos) (st : List Frame), (Ctx.of c st).In A → ∀ (K : α → Sem Fin) (H : Value → Sem Fin) (gd : Bool → Bool) (lv : List Value → List Value) (Φ : Shared → Thread → Prop),
    (∀ a p' s', Q a s' → EvM M Φ s' ⟨K a, c, p', st⟩) → (∀ e p' s', E e s' → EvM M Φ s' ⟨H e, c, p', st⟩) → EvM M Φ s ⟨t.wrap K H gd lv, c, p, st⟩
/-- what a code does -/
noncomputable def codeU (M : Model) (A : Around) (c : Code) (R : Result → Shared → Prop) (s : Shared) : Prop :=
  ∀ (p : Pos) (st : List Frame), (Ctx.of c st).Below A → ∀ (Φ : Shared → Thread → Prop), (∀ r s' c' p', R r s' → EvM M Φ s' ⟨leafOf r, c', p', st⟩) → EvM M Φ s ⟨M.den c, c, p, st⟩
section
variable {α β : Type} {M : Model} {A : Around} {s : Shared} {E E' : Value → Shared → Prop}
theorem up {t : Sem α} {Q : α → Shared → Prop} (h : wpAny M A t Q E s) : wpU M A t Q E s :=
  fun c p st hin K H gd lv Φ hK hH => up_go (Q := fun a _ s' => Q a s') (E := fun e _ s' => E e s') hK hH t p s (h _ p hin)
theorem wpU_mono {t : Sem α} {Q Q' : α → Shared → Prop} (h : wpU M A t Q E s) (hQ : ∀ a s, Q a s → Q' a s) (hE : ∀ e s, E e s → E' e s) : wpU M A t Q' E' s :=
  fun c p st hin K H gd lv Φ hK hH => h c p st hin K H gd lv Φ (fun a p' s' q => hK a p' s' (hQ a s' q)) fun e p' s' q => hH e p' s' (hE e s' q)
theorem wpU_pure {a : α} {Q : α → Shared → Prop} (h : Q a s) : wpU M A (pure a) Q E s := up (wpAny_pure h)
theorem wpU_throw {e : Value} {Q : α → Shared → Prop} (h : E e s) : wpU M A (throw e : Sem α) Q E s := up (wpAny_throw h)
theorem wpU_wrap {m : Sem α} {K₁ : α → Sem β} {H₁ : Value → Sem β} {g₁ : Bool → Bool} {l₁ : List Value → List Value} {Q : β → Shared → Prop} (h : wpU M A m (fun a s' => wpU M A (K₁ a) Q E s') (fun e s' => wpU M A (H₁ e) Q E s') s) : wpU M A (m.wrap K₁ H₁ g₁ l₁) Q E s := by
  intro c p st hin K H gd lv Φ hK hH
  rw [Sem.wrap_wrap]
  exact h c p st hin _ _ _ _ Φ (fun a p' s' q => q c p' st hin K H gd lv Φ hK hH) fun e p' s' q => q c p' st hin K H gd lv Φ hK hH
theorem wpU_bind {m : Sem α} {f : α → Sem β} {Q : β → Shared → Prop} (h : wpU M A m (fun a s' => wpU M A (f a) Q E s') E s) : wpU M A (m >>= f) Q E s := by
  rw [Sem.bind_eq_wrap']
  exact wpU_wrap (wpU_mono h (fun _ _ q => q) fun e s' q => wpU_throw q)
theorem wpU_tryCatch {m : Sem α} {k : Value → Sem α} {Q : α → Shared → Prop} (h : wpU M A m Q (fun e s' => wpU M A (k e) Q E s') s) : wpU M A (tryCatch m k) Q E s := by
  show wpU M A (m.tryCatch k) Q E s
  rw [Sem.tryCatch_eq_wrap]
  exact wpU_wrap (wpU_mono h (fun a s' q => wpU_pure q) fun _ _ q => q)
theorem wpU_onRaise {m : Sem α} {k : Value → Sem Unit} {Q : α → Shared → Prop} (h : wpU M A m Q (fun e s' => wpU M A (k e) (fun _ s'' => E e s'') E s') s) : wpU M A (m.onRaise k) Q E s := by
  rw [Sem.onRaise_eq_wrap]
  refine wpU_wrap (wpU_mono h (fun a s' q => wpU_pure q) fun e s' q => ?_)
  exact wpU_bind (f := fun _ => (throw e : Sem α)) (wpU_mono q (fun _ s'' x => wpU_throw x) fun _ _ x => x)
theorem wpU_attempt {m : Sem α} {Q : Except Value α → Shared → Prop} (h : wpU M A m (fun a => Q (.ok a)) (fun e => Q (.error e)) s) : wpU M A m.attempt Q E s := by
  unfold Sem.attempt
  exact wpU_tryCatch (wpU_bind (f := fun a => (pure (.ok a) : Sem (Except Value α))) (wpU_mono h (fun a s' q => wpU_pure q) fun e s' q => wpU_pure q))
theorem wpU_keep {vs : List Value} {m : Sem α} {Q : α → Shared → Prop} (h : wpU M A m Q E s) : wpU M A (m.keep vs) Q E s := by
  rw [Sem.keep_eq_wrap]
  exact wpU_wrap (wpU_mono h (fun a s' q => wpU_pure q) fun e s' q => wpU_throw q)
theorem wpU_holding {vs : List Value} {m : Sem α} {Q : α → Shared → Prop} (h : wpU M A m Q E s) : wpU M A (holding vs m) Q E s := by
  rw [PySem.holding_eq_keep]; exact wpU_keep h
theorem wpU_standAt {pos : Pos} {Q : Unit → Shared → Prop} (h : Q () s) : wpU M A (standAt pos) Q E s := up (wpAny_standAt h)
theorem wrap_id (t : Sem Fin) : t.wrap .pure .raise id id = t := by
  rw [← Sem.bind_eq_wrap]
  induction t <;> simp only [Sem.bind, *]
noncomputable def finU (M : Model) (A : Around) (R : Result → Shared → Prop) : Fin → Shared → Prop
  | .done f, s => R (.ok f) s
  | .again c, s => c.quiet = true ∧ codeU M A c R s
theorem codeU_of {c : Code} {R : Result → Shared → Prop} (h : wpU M (A.under c) (M.den c) (finU M A R) (fun e s' => R (.error e) s') s) : codeU M A c R s := by
  intro p st hb Φ hR
  rw [← wrap_id (M.den c)]
  refine h c p st hb.in _ _ _ _ Φ (fun f p' s' q => ?_) fun e p' s' q => hR (.error e) s' c p' q
  cases f with
  | done f => exact hR (.ok f) s' c p' q
  | again c' =>
    obtain ⟨hq, q⟩ := q
    exact ev_step (step_again M s' c p' st c' hq) (q p' st hb Φ hR)
theorem wpU_callT {c : Code} {h : Option Value} {g : Bool} {l : List Value} {k : Result → Sem α} {Q : α → Shared → Prop} (hc : codeU M (A.mark h) c (fun r s' => wpU M A (k r) Q E s') s) (hnb : h ≠ some byPass := by intro x; cases x) : wpU M A (.call c h g l k) Q E s := by
  intro c₀ p st hin K H gd lv Φ hK hH
  refine ev_step (step_call M s c₀ p st c h (gd g) (lv l) _) ?_
  have e : Ctx.of c (.ret (fun x => (k x).wrap K H gd lv) h (gd g) (lv l) c₀ p [] :: st) = (Ctx.of c₀ st).enter c h p := (ctx_fits (Ctx.Fits.enter (Ctx.fits_of c₀ st) c _ h (gd g) (lv l) p [])).symm
  refine hc p _ (by rw [e]; exact hin.enter c h p hnb) Φ fun r s' c' p' q => ?_
  exact ev_step (step_leaf_ret M s' c' p' st r _ h (gd g) (lv l) c₀ p []) (q c₀ p st hin K H gd lv Φ hK hH)
end
end Mine
end
section
open PySem PySem.W PyProof.Rows PySem.W.X PySem.SeqAt
namespace Mine
/-- what is asked where a generator gives a value; where it ends -/
noncomputable abbrev YP := Value → GenState → Shared → Prop
/-- the run of a generator's body, the frames fs above its own frame, to its next yield or its end -/
noncomputable def SegU (M : Model) (A : Around) (Y : YP) (R : Result → Shared → Prop) (c : Code) (t : Sem Fin) (fs : List Frame) (s : Shared) : Prop :=
  ∀ (p : Pos) (st : List Frame) (g : Nat) (k : GenResult → Sem Fin) (l : List Value) (c₁ : Code) (p₁ : Pos) (Φ : Shared → Thread → Prop), (Ctx.of c₁ st).In A →
    (∀ v gs' s', Y v gs' s' → EvM M Φ (s'.setGen g gs') ⟨k (.yielded v), c₁, p₁, st⟩) → (∀ r s', R r s' → EvM M Φ (s'.setGen g .finished) ⟨k (End.ret r).result, c₁, p₁, st⟩) → EvM M Φ s ⟨t, c, p, fs ++ .gen g k l c₁ p₁ :: st⟩
/-- a generator's state, woken by a next() -/
noncomputable def GoesU (M : Model) (A : Around) (Y : YP) (R : Result → Shared → Prop) (gs : GenState) (s : Shared) : Prop := match gs with
  | .fresh c => SegU M A Y R c (M.den c) [] s
  | .suspended k _ c _ fs _ => SegU M A Y R c (k (.send .none)) fs s
  | _ => False
theorem gen_ctx {A : Around} {c c₁ : Code} {fs st : List Frame} {g : Nat} {k : GenResult → Sem Fin} {l : List Value} {p₁ : Pos} (h : (Ctx.of c₁ st).In A) : (Ctx.of c (fs ++ .gen g k l c₁ p₁ :: st)).In (A.over c fs) := by
  rw [Ctx.of_append]
  have e : Ctx.of c (.gen g k l c₁ p₁ :: st) = (Ctx.of c₁ st).wake c p₁ := (ctx_fits (Ctx.Fits.wake (Ctx.fits_of c₁ st) c g k l p₁)).symm
  rw [e]
  exact (h.wake c p₁).over fs
section
variable {M : Model} {A : Around} {Y : YP} {R : Result → Shared → Prop} {c : Code} {fs : List Frame} {s : Shared}
theorem segU_wrap {α : Type} {m : Sem α} {K : α → Sem Fin} {H : Value → Sem Fin} {gd lv} (h : wpU M (A.over c fs) m (fun a s' => SegU M A Y R c (K a) fs s') (fun x s' => SegU M A Y R c (H x) fs s') s) : SegU M A Y R c (m.wrap K H gd lv) fs s :=
  fun p st g k l c₁ p₁ Φ hin hY hR => h c p _ (gen_ctx hin) K H gd lv Φ (fun a p' s' q => q p' st g k l c₁ p₁ Φ hin hY hR) fun e p' s' q => q p' st g k l c₁ p₁ Φ hin hY hR
theorem segU_bind {α : Type} {m : Sem α} {K : α → Sem Fin} (h : wpU M (A.over c fs) m (fun a s' => SegU M A Y R c (K a) fs s') (fun x s' => SegU M A Y R c (.raise x) fs s') s) : SegU M A Y R c (m >>= K) fs s := by
  rw [Sem.bind_eq_wrap']; exact segU_wrap h
theorem segU_at {p' : Pos} {k : Unit → Sem Fin} (h : SegU M A Y R c (k ()) fs s) : SegU M A Y R c (.at p' k) fs s :=
  segU_wrap (m := standAt p') (K := k) (H := .raise) (gd := id) (lv := id) (wpU_standAt h)
theorem segU_point {l : List Value} {k : Unit → Sem Fin} (h : SegU M A Y R c (k ()) fs s) : SegU M A Y R c (.point l k) fs s :=
  segU_wrap (m := point) (K := k) (H := .raise) (gd := id) (lv := fun _ => l) (up (wpAny_point h))
theorem segU_call {c' : Code} {h g l} {k : Result → Sem Fin} (hc : ∀ p, SegU M A Y R c' (M.den c') (.ret k h g l c p [] :: fs) s) : SegU M A Y R c (.call c' h g l k) fs s :=
  fun p st g' k' l' c₁ p₁ Φ hin hY hR => ev_step (step_call M s c p _ c' h g l k) (hc p p st g' k' l' c₁ p₁ Φ hin hY hR)
theorem segU_leaf {k h g l c₁ p₁ kp} (r : Result) (hk : SegU M A Y R c₁ (k r) fs s) : SegU M A Y R c (leafOf r) (.ret k h g l c₁ p₁ kp :: fs) s :=
  fun p st g' k' l' c₂ p₂ Φ hin hY hR => ev_step (step_leaf_ret M s c p _ r k h g l c₁ p₁ kp) (hk p₁ st g' k' l' c₂ p₂ Φ hin hY hR)
theorem segU_again {c' : Code} (hq : c'.quiet = true) (hc : SegU M A Y R c' (M.den c') fs s) : SegU M A Y R c (.pure (.again c')) fs s :=
  fun p st g' k' l' c₁ p₁ Φ hin hY hR => ev_step (step_again M s c p _ c' hq) (hc p st g' k' l' c₁ p₁ Φ hin hY hR)
theorem segU_end (r : Result) (h : R r s) : SegU M A Y R c (leafOf r) [] s :=
  fun p st g' k' l' c₁ p₁ Φ hin hY hR => ev_step (step_leaf_gen M s c p st r g' k' l' c₁ p₁) (hR r s h)
theorem split_gen {fs st : List Frame} {g : Nat} {k : GenResult → Sem Fin} {l : List Value} {c₁ : Code} {p₁ : Pos} (h : splitAtGen fs = none) : splitAtGen (fs ++ .gen g k l c₁ p₁ :: st) = some (fs, (g, k, c₁, p₁), st) := by
  rw [splitAtGen_append_none _ h, splitAtGen_gen]
  simp
/-- a yield that shows nothing -/
theorem segU_yield {v : Value} {gf : Bool} {l : List Value} {k : Resume → Sem Fin} (hfs : splitAtGen fs = none) (hs : closing0 s fs c gf = false) (h : ∀ p, Y v (.suspended k l c p fs (gf || fs.any Frame.guarded)) s) : SegU M A Y R c (.yield v gf l k) fs s :=
  fun p st g' k' l' c₁ p₁ Φ hin hY hR => by
    refine Ev.step (t' := ⟨k' (.yielded v), c₁, p₁, st⟩) (s' := s.setGen g' (.suspended k l c p fs (gf || fs.any Frame.guarded))) ?_ ?_ (hY v _ s (h p))
    · unfold calm2 mutedYield
      dsimp only
      rw [split_gen hfs]
      dsimp only
      rw [hs]
      exact Bool.or_true _
    · simp only [PySem.stepK, PySem.step, split_gen hfs]
      rfl
theorem closing_plain {fs : List Frame} (h : fs.any Frame.guarded = false) : closing0 s fs c false = false := by unfold closing0; rw [h]; rfl
end
end Mine
end
section
open PySem PySem.W PyProof.Rows PySem.W.X PySem.SeqAt
namespace Mine
/-- a generator that sleeps at the end of a for loop's body: woken, it goes on with the loop -/
structure LoopK (z : GenState) (env : Env) (tgt : Expr) (lbody : List Stmt) (I : Nat) : Prop where
  bare : z.bare = true
  go : ∃ (body : List Stmt) (kf : Result → Sem Fin) (lf : List Value) (p : Pos),
    (∀ (prog : Program) (w : World) (A : Around) (Y : YP) (R : Result → Shared → Prop) (s : Shared),
      SegU (model prog w) A Y R (.forLoop tgt (.ref I) lbody [] env) ((model prog w).den (.forLoop tgt (.ref I) lbody [] env)) [.ret kf none false lf (.func body env) p []] s → GoesU (model prog w) A Y R z s) ∧
    (∀ (prog : Program) (w : World) (A : Around) (Y : YP) (R : Result → Shared → Prop) (s : Shared), R (.ok (.ret .none)) s → SegU (model prog w) A Y R (.func body env) (kf (.ok .next)) [] s) ∧
    ∀ (prog : Program) (w : World) (A : Around) (Y : YP) (R : Result → Shared → Prop) (s : Shared) (e : Value),
      wpAny (model prog w) (A.over (.func body env) []) (do
        if (← field e 1) == .none then unsupported "frame.own-activation:exception-without-traceback"
        setFlight e env.frame) (fun _ s₁ => wpAny (model prog w) (A.over (.func body env) []) (leaving env e) (fun _ s' => R (.error e) s') (fun _ _ => False) s₁) (fun _ _ => False) s →
      SegU (model prog w) A Y R (.func body env) (kf (.error e)) [] s
end Mine
end
section
open PySem PySem.W PyProof.Rows PySem.W.X
namespace Mine
/-- values without their tokens and addresses -/
inductive V where
  | none
  | bool (b : Bool)
  | int (i : Int)
  | flt (x : UInt64)
  | str (s : Str)
  | ty (n : String)
  | bi (n : String)
  | st (a : Nat)
  | ref (i : Nat)
  | rng (a b : Int)
  | tup (xs : List V)
  | sub (c : Nat) (xs : List V)
noncomputable abbrev Names := List (Str × Option V)
noncomputable def getL (m : Names) (x : Str) : Option V := (m.lookup x).join
noncomputable def setL : Names → Str → V → Names
  | [], x, v => [(x, some v)]
  | (y, u) :: m, x, v => if x = y then (y, some v) :: m else (y, u) :: setL m x v
theorem getL_setL (m : Names) (x : Str) (v : V) (y : Str) : getL (setL m x v) y = if y = x then some v else getL m y := by
  induction m with
  | nil =>
    unfold setL getL
    rw [List.lookup_cons]
    by_cases e : y = x
    · rw [if_pos e, e, beq_self_eq_true]; rfl
    · rw [if_neg e, show (y == x) = false by simpa using e]
  | cons p m ih =>
    obtain ⟨z, u⟩ := p
    unfold setL
    by_cases e : x = z
    · rw [if_pos e]
      unfold getL
      rw [List.lookup_cons, List.lookup_cons]
      by_cases q : y = x
      · rw [if_pos q, q, e, beq_self_eq_true]; rfl
      · have : (y == z) = false := by simpa using (fun h => q (h.trans e.symm))
        rw [if_neg q, this]
    · rw [if_neg e]
      unfold getL at ih ⊢
      rw [List.lookup_cons, List.lookup_cons]
      by_cases q : y = z
      · rw [show (y == z) = true by simpa using q, if_neg (fun h => e (h.symm.trans q))]
      · rw [show (y == z) = false by simpa using q]
        exact ih
/-- a frame's kind: its scope; are its cells its own -/
structure FI where
  sc : Scope
  own : Bool
  co : Value
noncomputable def ownA (fi : FI) (env : Env) : List Nat := if fi.own = true then env.locals :: env.cells.map (·.2) else [env.locals]
theorem loc_own (fi : FI) (env : Env) : env.locals ∈ ownA fi env := by unfold ownA; split <;> exact .head _
/-- the objects that a call owns, without addresses; a generator that has not begun; one that is used up -/
inductive O where
  | list (xs : List V)
  | arr (xs : List V)
  | inst (C : Nat) (fs : List (Str × V))
  | tbl (P : Nat) (ps : Array Value)
  | fresh (fi : FI) (body : List Stmt) (m : Names)
  | gone
  | done
  | susp (fi : FI) (tgt : Expr) (lbody : List Stmt) (m : Names) (I : Nat)
  | rit (I : Nat) (lo : Int) (n : Nat)
structure Ent where
  a : Nat
  fp : List Nat
  g : Option (Nat × Env)
/-- what stands: objects; the frames that stand, the innermost first -/
structure Base where
  f : Nat → Option Obj
  fr : List Env
noncomputable def Base.lo (F : Base) : List Nat := F.fr.filterMap (·.frame)
/-- the same, but for a frame's slots -/
noncomputable def UpS (L : List Nat) (b : Nat) (o o' : Obj) : Prop := o' = o ∨ (b ∈ L ∧ ∃ sl, o' = { o with slots := sl })
theorem UpS.refl {L : List Nat} {b : Nat} {o : Obj} : UpS L b o o := .inl rfl
theorem UpS.same {L : List Nat} {b : Nat} {o o' : Obj} (h : UpS L b o o') : o'.cls = o.cls ∧ o'.data = o.data ∧ o'.dict = o.dict := by
  rcases h with rfl | ⟨_, sl, rfl⟩ <;> exact ⟨rfl, rfl, rfl⟩
theorem UpS.trans {L : List Nat} {b : Nat} {o o' o'' : Obj} (h : UpS L b o o') (h' : UpS L b o' o'') : UpS L b o o'' := by
  rcases h with rfl | ⟨m, sl, rfl⟩
  · exact h'
  · rcases h' with rfl | ⟨_, sl', rfl⟩
    · exact .inr ⟨m, sl, rfl⟩
    · exact .inr ⟨m, sl', rfl⟩
theorem UpS.mono {L L' : List Nat} {b : Nat} {o o' : Obj} (h : UpS L b o o') (hL : ∀ x ∈ L, x ∈ L') : UpS L' b o o' := by
  rcases h with rfl | ⟨m, sl, rfl⟩
  · exact .inl rfl
  · exact .inr ⟨hL _ m, sl, rfl⟩
noncomputable def KeepG (F : Base) (h : Heap) : Prop := ∀ b o, F.f b = some o → ∃ o', h.get? b = some o' ∧ UpS F.lo b o o'
/-- every frame that stands is among the objects -/
noncomputable def FrIn (F : Base) : Prop := ∀ e ∈ F.fr, e.scope.kind ≠ .module ∧ ∃ L o, e.frame = some L ∧ F.f L = some o ∧ ∃ es ep, o.data = .dict es ep
noncomputable abbrev Keep (h h' : Heap) : Prop := ∀ b o, h.get? b = some o → h'.get? b = some o
/-- objects that are never turned -/
noncomputable def Imm (o : Obj) : Prop := ((∃ xs n, o.data = .seq xs n) ∧ o.cls ≠ .type "list") ∨ (o.cls = .type "range" ∧ ∃ vs, o.data = .fields vs)
noncomputable def TK (h h' : Heap) : Prop := ∀ b o, h.get? b = some o → Imm o → h'.get? b = some o
theorem TK.refl (h : Heap) : TK h h := fun _ _ e _ => e
theorem TK.trans {h h' h'' : Heap} (x : TK h h') (y : TK h' h'') : TK h h'' := fun b o e i => y b o (x b o e i) i
theorem TK.of_keep {h h' : Heap} (k : Keep h h') : TK h h' := fun b o e _ => k b o e
theorem TK.of_ext {h h' : Heap} {a : Nat} (x : ∀ b o, b ≠ a → h.get? b = some o → h'.get? b = some o) (ha : ∀ o, h.get? a = some o → ¬ Imm o) : TK h h' := fun b o e i => x b o (fun q => ha o (q ▸ e) i) e
/-- what stands behind the top, in every heap of the call -/
structure Bs (w : World) (KF : Frag) (h : Heap) : Prop where
  k : Frag.In KF h
  g : ∃ mg, h.Ns mainGlobals mg
  lim : h.NoLimit
  bi : ∃ mb, h.Ns builtinsNs mb ∧ ∀ x : Str, x ≠ "__name__" → mb x = bootBuiltins x
  dig : ∃ mc, h.Ns cStatics mc ∧ mc "sys.int_max_str_digits" = none
noncomputable def IsRng (h : Heap) (r : Nat) (a b : Int) : Prop := ∃ t u k, IsRange h r a b 1 t u k
noncomputable def IsSub (h : Heap) (a c : Nat) (vs : Array Value) : Prop := ∃ o, h.get? a = some o ∧ o.cls = .ref c ∧ ∃ n, o.data = .seq vs n
mutual
noncomputable def VR (ρ : List Ent) (h : Heap) : V → Value → Prop
  | .none, v => v = .none
  | .bool b, v => v = .bool b
  | .int i, v => ∃ t, v = .int i t
  | .flt x, v => ∃ t, v = .float x t
  | .str x, v => ∃ t, v = .str x t
  | .ty n, v => v = .type n
  | .bi n, v => v = .builtin n
  | .st a, v => v = .ref a
  | .ref i, v => ∃ e, ρ[i]? = some e ∧ v = .ref e.a
  | .rng a b, v => ∃ r, v = .ref r ∧ IsRng h r a b
  | .tup xs, v => ∃ a vs, v = .ref a ∧ h.IsTuple a vs.toArray ∧ VRs ρ h xs vs
  | .sub c xs, v => ∃ a vs, v = .ref a ∧ IsSub h a c vs.toArray ∧ VRs ρ h xs vs
noncomputable def VRs (ρ : List Ent) (h : Heap) : List V → List Value → Prop
  | [], vs => vs = []
  | x :: xs, vs => ∃ v r, vs = v :: r ∧ VR ρ h x v ∧ VRs ρ h xs r
end
theorem tk_tuple {h h' : Heap} {a : Nat} {vs : Array Value} (k : TK h h') (x : h.IsTuple a vs) : h'.IsTuple a vs := by
  obtain ⟨o, ho, hc, n, hd⟩ := x
  exact ⟨o, k a o ho (.inl ⟨⟨_, _, hd⟩, by rw [hc]; decide⟩), hc, n, hd⟩
theorem tk_sub {h h' : Heap} {a c : Nat} {vs : Array Value} (k : TK h h') (x : IsSub h a c vs) : IsSub h' a c vs := by
  obtain ⟨o, ho, hc, n, hd⟩ := x
  exact ⟨o, k a o ho (.inl ⟨⟨_, _, hd⟩, by rw [hc]; exact fun q => nomatch q⟩), hc, n, hd⟩
theorem tk_rng {h h' : Heap} {r : Nat} {a b : Int} (k : TK h h') (x : IsRng h r a b) : IsRng h' r a b := by
  obtain ⟨t, u, q, ho⟩ := x
  exact ⟨t, u, q, k r _ ho (.inr ⟨rfl, _, rfl⟩)⟩
theorem pre_get {ρ ρ' : List Ent} (p : ρ <+: ρ') {i : Nat} {e : Ent} (h : ρ[i]? = some e) : ρ'[i]? = some e := by
  obtain ⟨t, rfl⟩ := p
  rw [List.getElem?_append_left (List.getElem?_eq_some_iff.mp h).1]
  exact h
mutual
theorem VR.mono {ρ ρ' : List Ent} {h h' : Heap} (p : ρ <+: ρ') (k : TK h h') : ∀ {x : V} {v : Value}, VR ρ h x v → VR ρ' h' x v
  | .none, v, r => by unfold VR at r ⊢; exact r
  | .bool b, v, r => by unfold VR at r ⊢; exact r
  | .int i, v, r => by unfold VR at r ⊢; exact r
  | .flt x, v, r => by unfold VR at r ⊢; exact r
  | .str x, v, r => by unfold VR at r ⊢; exact r
  | .ty n, v, r => by unfold VR at r ⊢; exact r
  | .bi n, v, r => by unfold VR at r ⊢; exact r
  | .st a, v, r => by unfold VR at r ⊢; exact r
  | .ref i, v, r => by unfold VR at r ⊢; obtain ⟨e, q, z⟩ := r; exact ⟨e, pre_get p q, z⟩
  | .rng a b, v, r => by unfold VR at r ⊢; obtain ⟨e, q, z⟩ := r; exact ⟨e, q, tk_rng k z⟩
  | .tup xs, v, r => by unfold VR at r ⊢; obtain ⟨a, vs, q, z, y⟩ := r; exact ⟨a, vs, q, tk_tuple k z, VRs.mono p k y⟩
  | .sub c xs, v, r => by unfold VR at r ⊢; obtain ⟨a, vs, q, z, y⟩ := r; exact ⟨a, vs, q, tk_sub k z, VRs.mono p k y⟩
theorem VRs.mono {ρ ρ' : List Ent} {h h' : Heap} (p : ρ <+: ρ') (k : TK h h') : ∀ {xs : List V} {vs : List Value}, VRs ρ h xs vs → VRs ρ' h' xs vs
  | [], vs, r => by unfold VRs at r ⊢; exact r
  | x :: xs, vs, r => by unfold VRs at r ⊢; obtain ⟨v, q, e, a, b⟩ := r; exact ⟨v, q, e, VR.mono p k a, VRs.mono p k b⟩
end
theorem VRs.nil {ρ : List Ent} {h : Heap} : VRs ρ h [] [] := by unfold VRs; rfl
theorem VRs.cons {ρ : List Ent} {h : Heap} {x : V} {v : Value} {xs : List V} {vs : List Value} (a : VR ρ h x v) (b : VRs ρ h xs vs) : VRs ρ h (x :: xs) (v :: vs) := by unfold VRs; exact ⟨v, vs, rfl, a, b⟩
theorem VRs.nil_eq {ρ : List Ent} {h : Heap} {vs : List Value} (r : VRs ρ h [] vs) : vs = [] := by unfold VRs at r; exact r
theorem VRs.cons_eq {ρ : List Ent} {h : Heap} {x : V} {xs : List V} {vs : List Value} (r : VRs ρ h (x :: xs) vs) : ∃ v q, vs = v :: q ∧ VR ρ h x v ∧ VRs ρ h xs q := by unfold VRs at r; exact r
theorem VRs.len {ρ : List Ent} {h : Heap} : ∀ {xs : List V} {vs : List Value}, VRs ρ h xs vs → vs.length = xs.length
  | [], vs, r => by rw [r.nil_eq]; rfl
  | x :: xs, vs, r => by obtain ⟨v, q, rfl, _, b⟩ := r.cons_eq; rw [List.length_cons, List.length_cons, VRs.len b]
theorem VRs.get {ρ : List Ent} {h : Heap} : ∀ {xs : List V} {vs : List Value} {i : Nat} {x : V}, VRs ρ h xs vs → xs[i]? = some x → ∃ v, vs[i]? = some v ∧ VR ρ h x v
  | [], _, _, _, _, e => by cases e
  | x :: xs, vs, 0, y, r, e => by obtain ⟨v, q, rfl, a, _⟩ := r.cons_eq; cases e; exact ⟨v, rfl, a⟩
  | x :: xs, vs, i + 1, y, r, e => by obtain ⟨v, q, rfl, _, b⟩ := r.cons_eq; exact VRs.get (xs := xs) (i := i) b (by simpa using e)
theorem VRs.get' {ρ : List Ent} {h : Heap} : ∀ {xs : List V} {vs : List Value} {i : Nat} {v : Value}, VRs ρ h xs vs → vs[i]? = some v → ∃ x, xs[i]? = some x ∧ VR ρ h x v
  | [], vs, _, _, r, e => by rw [r.nil_eq] at e; cases e
  | x :: xs, vs, 0, y, r, e => by obtain ⟨v, q, rfl, a, _⟩ := r.cons_eq; cases e; exact ⟨x, rfl, a⟩
  | x :: xs, vs, i + 1, y, r, e => by obtain ⟨v, q, rfl, _, b⟩ := r.cons_eq; exact VRs.get' (vs := q) (i := i) b (by simpa using e)
theorem VRs.append {ρ : List Ent} {h : Heap} : ∀ {xs : List V} {vs : List Value} {ys : List V} {us : List Value}, VRs ρ h xs vs → VRs ρ h ys us → VRs ρ h (xs ++ ys) (vs ++ us)
  | [], vs, _, _, r, y => by rw [r.nil_eq]; exact y
  | x :: xs, vs, _, _, r, y => by obtain ⟨v, q, rfl, a, b⟩ := r.cons_eq; exact .cons a (VRs.append b y)
theorem VRs.take {ρ : List Ent} {h : Heap} : ∀ {xs : List V} {vs : List Value} (n : Nat), VRs ρ h xs vs → VRs ρ h (xs.take n) (vs.take n)
  | [], vs, n, r => by rw [r.nil_eq, List.take_nil, List.take_nil]; exact .nil
  | x :: xs, vs, 0, r => by exact .nil
  | x :: xs, vs, n + 1, r => by obtain ⟨v, q, rfl, a, b⟩ := r.cons_eq; exact .cons a (VRs.take n b)
theorem VRs.drop {ρ : List Ent} {h : Heap} : ∀ {xs : List V} {vs : List Value} (n : Nat), VRs ρ h xs vs → VRs ρ h (xs.drop n) (vs.drop n)
  | [], vs, n, r => by rw [r.nil_eq, List.drop_nil, List.drop_nil]; exact .nil
  | x :: xs, vs, 0, r => by exact r
  | x :: xs, vs, n + 1, r => by obtain ⟨v, q, rfl, a, b⟩ := r.cons_eq; exact VRs.drop n b
theorem VRs.set {ρ : List Ent} {h : Heap} {x : V} {v : Value} (a : VR ρ h x v) : ∀ {xs : List V} {vs : List Value} (n : Nat), VRs ρ h xs vs → VRs ρ h (xs.set n x) (vs.set n v)
  | [], vs, n, r => by rw [r.nil_eq]; exact .nil
  | y :: xs, vs, 0, r => by obtain ⟨u, q, rfl, _, b⟩ := r.cons_eq; exact .cons a b
  | y :: xs, vs, n + 1, r => by obtain ⟨u, q, rfl, c, b⟩ := r.cons_eq; exact .cons c (VRs.set a n b)
/-- what is known of a name; none: nothing -/
noncomputable def OVR (ρ : List Ent) (h : Heap) : Option V → Option Value → Prop
  | none, _ => True
  | some x, some v => VR ρ h x v
  | some _, none => False
theorem OVR.mono {ρ ρ' : List Ent} {h h' : Heap} (p : ρ <+: ρ') (k : TK h h') : ∀ {x : Option V} {v : Option Value}, OVR ρ h x v → OVR ρ' h' x v
  | none, _, _ => trivial
  | some _, some _, r => VR.mono p k r
  | some _, none, r => r.elim
theorem OVR.some_of {ρ : List Ent} {h : Heap} {x : V} {v : Option Value} (r : OVR ρ h (some x) v) : ∃ u, v = some u ∧ VR ρ h x u := by
  cases v with
  | none => exact r.elim
  | some u => exact ⟨u, rfl, r⟩
noncomputable def fps (ρ : List Ent) : List Nat := ρ.flatMap (·.fp)
/-- an instance's dict -/
noncomputable def FsR (ρ : List Ent) (h : Heap) (fs : List (Str × V)) (mA : Str → Option Value) : Prop := ∀ n, match fs.lookup n with | some v => ∃ u, mA n = some u ∧ VR ρ h v u | none => mA n = none
theorem FsR.mono {ρ ρ' : List Ent} {h h' : Heap} {fs : List (Str × V)} {mA : Str → Option Value} (x : FsR ρ h fs mA) (p : ρ <+: ρ') (k : TK h h') : FsR ρ' h' fs mA := fun n => by
  have := x n
  split at this
  · obtain ⟨u, h1, h2⟩ := this; exact ⟨u, h1, h2.mono p k⟩
  · exact this
/-- rows of a code's table: line, column, code -/
noncomputable def Triples (l : List Value) : Prop := TriplesOk l
/-- a frame that stands -/
structure FrameAt (fi : FI) (env : Env) (m : Names) (ρ : List Ent) (h : Heap) : Prop where
  es : env.scope = fi.sc
  eg : env.globals = mainGlobals
  eb : env.builtins = builtinsNs
  ec : env.code = fi.co
  ek : fi.sc.kind = .function
  ef : env.frame = some env.locals
  ns : ∃ mv, h.Ns env.locals mv ∧ ∀ x, fi.sc.names.lookup x = some .local → OVR ρ h (getL m x) (mv x)
  cl : ∀ x c, env.cells.lookup x = some c → ∃ ov, h.IsCell c ov ∧ OVR ρ h (getL m x) ov
  ce : ∀ x, (fi.sc.names.lookup x = some .cell ∨ fi.sc.names.lookup x = some .free) → ∃ c, env.cells.lookup x = some c
  cn : ∀ x, fi.sc.names.lookup x = some .local → env.cells.lookup x = none
  cu : ∀ x c, (x, c) ∈ env.cells → env.cells.lookup x = some c ∧ c ≠ env.locals
  cd : env.cells.Pairwise fun x y => x.2 ≠ y.2
theorem FrameAt.mono {fi : FI} {env : Env} {m : Names} {ρ ρ' : List Ent} {h h' : Heap} (f : FrameAt fi env m ρ h) (hw : fi.own = true) (p : ρ <+: ρ') (t : TK h h') (hk : ∀ b ∈ ownA fi env, ∀ q, h.get? b = some q → h'.get? b = some q) : FrameAt fi env m ρ' h' := by
  refine ⟨f.es, f.eg, f.eb, f.ec, f.ek, f.ef, ?_, fun x c hc => ?_, f.ce, f.cn, f.cu, f.cd⟩
  · obtain ⟨mv, ⟨o, es, ep, ho, r⟩, hv⟩ := f.ns
    exact ⟨mv, ⟨o, es, ep, hk _ (loc_own fi env) o ho, r⟩, fun x hx => (hv x hx).mono p t⟩
  · obtain ⟨ov, ⟨o, ho, hd⟩, hv⟩ := f.cl x c hc
    exact ⟨ov, ⟨o, hk c (by unfold ownA; rw [if_pos hw]; exact .tail _ (List.mem_map.mpr ⟨_, mem_of_lookup hc, rfl⟩)) o ho, hd⟩, hv.mono p t⟩
/-- what a generator's number stands for -/
noncomputable def GR (gs : Array GenState) (e : Ent) : O → Prop
  | .fresh _ body _ => ∃ g env, e.g = some (g, env) ∧ gs[g]? = some (.fresh (.func body env))
  | .gone => ∀ x, e.g = some x → x.1 < gs.size
  | .done => ∃ g env, e.g = some (g, env) ∧ gs[g]? = some .finished
  | .susp _ tgt lb _ I => ∃ g env z, e.g = some (g, env) ∧ gs[g]? = some z ∧ LoopK z env tgt lb I
  | _ => True
noncomputable def OR (F : Base) (ρ : List Ent) (h : Heap) (e : Ent) : O → Prop
  | .list xs => e.fp = [e.a] ∧ e.g = none ∧ ∃ vs : List Value, h.PlainList e.a vs.toArray ∧ VRs ρ h xs vs
  | .arr xs => e.fp = [] ∧ e.g = none ∧ (∃ vs : List Value, h.IsList e.a vs.toArray ∧ VRs ρ h xs vs) ∧ (F.f e.a).isSome = true
  | .inst C fs => e.g = none ∧ ∃ dx, e.fp = [e.a, dx] ∧ ∃ o mA, h.get? e.a = some o ∧ o.cls = .ref C ∧ (∀ c, o.data ≠ .cls c) ∧ o.dict = some dx ∧ h.Ns1 dx mA ∧ FsR ρ h fs mA
  | .tbl P ps => e.a = P ∧ e.fp = [e.a] ∧ e.g = none ∧ ∃ more : List Value, Triples (ps.toList ++ more) ∧ h.get? e.a = some { cls := .none, data := .fields (ps ++ more.toArray) }
  | .fresh fi body m => ∃ g env, e.g = some (g, env) ∧ e.fp = e.a :: ownA fi env ∧ h.IsGen e.a g ∧ fi.own = true ∧ interactive env = false ∧ FrameAt fi env m ρ h
  | .gone => e.a ∈ e.fp ∨ e.g.isSome = true
  | .done => ∃ g env r, e.g = some (g, env) ∧ e.fp = e.a :: r ∧ h.IsGen e.a g
  | .susp fi _ _ m _ => ∃ g env, e.g = some (g, env) ∧ e.fp = e.a :: ownA fi env ∧ h.IsGen e.a g ∧ fi.own = true ∧ interactive env = false ∧ FrameAt fi env m ρ h
  | .rit I lo n => e.a = I ∧ e.fp = [e.a] ∧ e.g = none ∧ IsRangeIter h e.a lo n 1
theorem UpS.ex {L : List Nat} {b : Nat} {o o' : Obj} (h : UpS L b o o') (hb : b ∉ L) : o' = o := by
  rcases h with e | ⟨m, _⟩
  · exact e
  · exact absurd m hb
theorem FrIn.off {F : Base} (h : FrIn F) {b : Nat} (hb : F.f b = none) : b ∉ F.lo := fun q => by
  obtain ⟨e, he, hf⟩ := List.mem_filterMap.mp q
  obtain ⟨_, L, o, h2, h3, _⟩ := h e he
  rw [hf] at h2
  cases h2
  rw [hb] at h3
  cases h3
theorem isList_up {h h' : Heap} {L : List Nat} {a : Nat} {q : Obj} {xs : Array Value} (x : h.IsList a xs) (k : ∃ o', h.get? a = some o' ∧ UpS L a q o') (k' : ∃ o', h'.get? a = some o' ∧ UpS L a q o') : h'.IsList a xs := by
  obtain ⟨o, ho, hc, n, hd⟩ := x
  obtain ⟨o1, h1, u1⟩ := k
  obtain ⟨o2, h2, u2⟩ := k'
  rw [ho] at h1
  cases h1
  exact ⟨o2, h2, u2.same.1.trans (u1.same.1.symm.trans hc), n, u2.same.2.1.trans (u1.same.2.1.symm.trans hd)⟩
theorem ns1_at {h h' : Heap} {a : Nat} {m : Str → Option Value} (x : h.Ns1 a m) (hk : ∀ o, h.get? a = some o → h'.get? a = some o) : h'.Ns1 a m := by
  obtain ⟨o, es, ep, ho, r⟩ := x
  exact ⟨o, es, ep, hk _ ho, r⟩
/-- an object of the call's stands where nothing of its own is touched -/
theorem OR.mono {F : Base} {ρ ρ' : List Ent} {h h' : Heap} {e : Ent} {o : O} (x : OR F ρ h e o) (p : ρ <+: ρ') (t : TK h h') (kF : KeepG F h) (kF' : KeepG F h') (hk : ∀ b ∈ e.fp, ∀ q, h.get? b = some q → h'.get? b = some q) : OR F ρ' h' e o := by
  cases o with
  | list xs =>
    obtain ⟨a, b, vs, l, r⟩ := x
    exact ⟨a, b, vs, l.at (hk e.a (by rw [a]; exact .head _)), r.mono p t⟩
  | arr xs =>
    obtain ⟨a, b, ⟨vs, l, r⟩, f⟩ := x
    obtain ⟨q, hq⟩ := Option.isSome_iff_exists.mp f
    exact ⟨a, b, ⟨vs, isList_up l (kF _ _ hq) (kF' _ _ hq), r.mono p t⟩, f⟩
  | inst C fs =>
    obtain ⟨a, dx, b, o, mA, h1, h2, h3, h4, h6, h7⟩ := x
    exact ⟨a, dx, b, o, mA, hk e.a (by rw [b]; exact .head _) _ h1, h2, h3, h4, ns1_at h6 (hk dx (by rw [b]; exact .tail _ (.head _))), h7.mono p t⟩
  | tbl P ps =>
    obtain ⟨z, a, b, more, h0, h1⟩ := x
    exact ⟨z, a, b, more, h0, hk e.a (by rw [a]; exact .head _) _ h1⟩
  | fresh fi body m =>
    obtain ⟨g, env, h1, h2, ⟨o, nm, qn, ho, r⟩, h4, h5, h6⟩ := x
    exact ⟨g, env, h1, h2, ⟨o, nm, qn, hk e.a (by rw [h2]; exact .head _) _ ho, r⟩, h4, h5, h6.mono h4 p t fun b hb => hk b (by rw [h2]; exact .tail _ hb)⟩
  | gone => exact x
  | done =>
    obtain ⟨g, env, r, h1, h2, ⟨o, nm, qn, ho, q⟩⟩ := x
    exact ⟨g, env, r, h1, h2, ⟨o, nm, qn, hk e.a (by rw [h2]; exact .head _) _ ho, q⟩⟩
  | susp fi tgt lb m I =>
    obtain ⟨g, env, h1, h2, ⟨o, nm, qn, ho, r⟩, h4, h5, h6⟩ := x
    exact ⟨g, env, h1, h2, ⟨o, nm, qn, hk e.a (by rw [h2]; exact .head _) _ ho, r⟩, h4, h5, h6.mono h4 p t fun b hb => hk b (by rw [h2]; exact .tail _ hb)⟩
  | rit I lo n =>
    obtain ⟨z, a, b, h1⟩ := x
    exact ⟨z, a, b, hk e.a (by rw [a]; exact .head _) _ h1⟩
theorem OR.base {F F' : Base} {ρ : List Ent} {h : Heap} {e : Ent} {o : O} (x : OR F ρ h e o) (hF : ∀ b o, F.f b = some o → F'.f b = some o) : OR F' ρ h e o := by
  cases o with
  | arr xs =>
    obtain ⟨a, b, l, f⟩ := x
    obtain ⟨q, hq⟩ := Option.isSome_iff_exists.mp f
    exact ⟨a, b, l, by rw [hF _ _ hq]; rfl⟩
  | _ => exact x
theorem OR.own {F : Base} {ρ : List Ent} {h : Heap} {e : Ent} {o : O} (x : OR F ρ h e o) : (∃ xs, o = .arr xs) ∨ e.a ∈ e.fp ∨ e.g.isSome = true := by
  cases o with
  | arr xs => exact .inl ⟨xs, rfl⟩
  | list xs => right; left; rw [x.1]; exact .head _
  | inst C fs => right; left; obtain ⟨_, dx, b, _⟩ := x; rw [b]; exact .head _
  | tbl P ps => right; left; rw [x.2.1]; exact .head _
  | fresh fi body m => right; left; obtain ⟨g, env, h1, h2, _⟩ := x; rw [h2]; exact .head _
  | gone => exact .inr x
  | done => right; left; obtain ⟨_, _, _, _, h2, _⟩ := x; rw [h2]; exact .head _
  | susp fi tgt lb m I => right; left; obtain ⟨_, _, _, h2, _⟩ := x; rw [h2]; exact .head _
  | rit I lo n => right; left; rw [x.2.1]; exact .head _
/-- the heap of a call: the base F, the objects H at ρ -/
structure HSim (w : World) (KF : Frag) (F : Base) (ρ : List Ent) (H : List O) (h : Heap) (gs : Array GenState) : Prop where
  bs : ∀ h', KeepG F h' → Bs w KF h'
  keep : KeepG F h
  len : ρ.length = H.length
  ob : ∀ (i : Nat) e o, ρ[i]? = some e → H[i]? = some o → OR F ρ h e o
  live : ∀ b ∈ fps ρ, ∃ o, h.get? b = some o
  nd : (fps ρ).Nodup
  off : ∀ b ∈ fps ρ, F.f b = none
  gn : ((ρ.filterMap (·.g)).map (·.1)).Nodup
  bare : ∀ x ∈ gs, x.bare = true
  gf : ∀ (i : Nat) e o, ρ[i]? = some e → H[i]? = some o → GR gs e o
  fo : FrIn F
theorem get_size (h : Heap) : h.get? h.objs.size = none := by
  cases q : h.get? h.objs.size with
  | none => rfl
  | some o => exact absurd (Heap.lt_size q) (Nat.lt_irrefl _)
theorem fps_mem {ρ : List Ent} {i : Nat} {e : Ent} (h : ρ[i]? = some e) {b : Nat} (hb : b ∈ e.fp) : b ∈ fps ρ := List.mem_flatMap.mpr ⟨e, List.mem_of_getElem? h, hb⟩
theorem fps_apart {ρ : List Ent} (nd : (fps ρ).Nodup) {i j : Nat} {e f : Ent} (hi : ρ[i]? = some e) (hj : ρ[j]? = some f) (hij : i ≠ j) {b : Nat} (hb : b ∈ e.fp) : b ∉ f.fp := by
  induction ρ generalizing i j with
  | nil => cases hi
  | cons x ρ ih =>
    have nd' : (x.fp ++ fps ρ).Nodup := nd
    obtain ⟨n1, n2, n3⟩ := List.nodup_append.mp nd'
    cases i with
    | zero =>
      cases hi
      cases j with
      | zero => exact absurd rfl hij
      | succ j => exact fun q => n3 b hb b (fps_mem (ρ := ρ) hj q) rfl
    | succ i =>
      cases j with
      | zero => cases hj; exact fun q => n3 b q b (fps_mem (ρ := ρ) hi hb) rfl
      | succ j => exact ih n2 hi hj (fun q => hij (congrArg Nat.succ q))
section
variable {w : World} {KF : Frag} {F : Base} {ρ ρ' : List Ent} {H : List O} {h h' : Heap} {gs : Array GenState}
theorem HSim.b (S : HSim w KF F ρ H h gs) : Bs w KF h := S.bs _ S.keep
theorem HSim.keeps (S : HSim w KF F ρ H h gs) (k : Keep h h') : HSim w KF F ρ H h' gs := by
  have kF : KeepG F h' := fun b o e => let ⟨o', e', u⟩ := S.keep b o e; ⟨o', k b o' e', u⟩
  exact ⟨S.bs, kF, S.len, fun i e o hi ho => (S.ob i e o hi ho).mono (List.prefix_refl _) (.of_keep k) S.keep kF (fun b _ q hq => k b q hq), fun b hb => let ⟨o, ho⟩ := S.live b hb; ⟨o, k b o ho⟩, S.nd, S.off, S.gn, S.bare, S.gf, S.fo⟩
theorem HSim.glt (S : HSim w KF F ρ H h gs) {e : Ent} (he : e ∈ ρ) {x : Nat × Env} (hx : e.g = some x) : x.1 < gs.size := by
  obtain ⟨i, hi, rfl⟩ := List.mem_iff_getElem.mp he
  have hi' := List.getElem?_eq_getElem hi
  have hH : i < H.length := by rw [← S.len]; exact hi
  have y := S.ob i _ _ hi' (List.getElem?_eq_getElem hH)
  have z := S.gf i _ _ hi' (List.getElem?_eq_getElem hH)
  cases q : H[i] with
  | list xs => rw [q] at y; rw [y.2.1] at hx; cases hx
  | arr xs => rw [q] at y; rw [y.2.1] at hx; cases hx
  | inst C fs => rw [q] at y; rw [y.1] at hx; cases hx
  | tbl P ps => rw [q] at y; rw [y.2.2.1] at hx; cases hx
  | fresh fi body m =>
    rw [q] at z
    obtain ⟨g, env, h1, h2⟩ := z
    rw [h1] at hx; cases hx
    exact (Array.getElem?_eq_some_iff.mp h2).1
  | gone => rw [q] at z; exact z x hx
  | done =>
    rw [q] at z
    obtain ⟨g, env, h1, h2⟩ := z
    rw [h1] at hx; cases hx
    exact (Array.getElem?_eq_some_iff.mp h2).1
  | rit I lo n => rw [q] at y; rw [y.2.2.1] at hx; cases hx
  | susp fi tgt lb m I =>
    rw [q] at z
    obtain ⟨g, env, _, h1, h2, _⟩ := z
    rw [h1] at hx; cases hx
    exact (Array.getElem?_eq_some_iff.mp h2).1
theorem HSim.at' (S : HSim w KF F ρ H h gs) {i : Nat} {o : O} (ho : H[i]? = some o) : ∃ e, ρ[i]? = some e ∧ OR F ρ h e o := by
  have hi : i < ρ.length := by rw [S.len]; exact (List.getElem?_eq_some_iff.mp ho).1
  exact ⟨ρ[i], List.getElem?_eq_getElem hi, S.ob i _ o (List.getElem?_eq_getElem hi) ho⟩
/-- one object turned; nothing else is touched -/
theorem HSim.upd (S : HSim w KF F ρ H h gs) {i : Nat} {e : Ent} {o' : O} (hi : ρ[i]? = some e) (hk : ∀ b o, b ∉ e.fp → h.get? b = some o → h'.get? b = some o) (hl : ∀ b ∈ e.fp, ∃ o, h'.get? b = some o) (t : TK h h') (ho' : OR F ρ h' e o') (hG : GR gs e o' := by trivial) : HSim w KF F ρ (H.set i o') h' gs := by
  have kF : KeepG F h' := fun b o q => let ⟨o', e', u⟩ := S.keep b o q; ⟨o', hk b o' (fun m => by rw [S.off b (fps_mem hi m)] at q; cases q) e', u⟩
  refine ⟨S.bs, kF, by rw [List.length_set]; exact S.len, fun j f o hj ho => ?_, fun b hb => ?_, S.nd, S.off, S.gn, S.bare, fun j f o hj ho => ?_, S.fo⟩
  · by_cases q : i = j
    · subst q
      rw [hi] at hj
      cases hj
      rw [List.getElem?_set_self (by have := (List.getElem?_eq_some_iff.mp ho).1; rw [List.length_set] at this; exact this)] at ho
      cases ho
      exact ho'
    · rw [List.getElem?_set_ne q] at ho
      exact (S.ob j f o hj ho).mono (List.prefix_refl _) t S.keep kF (fun b hb o2 h2 => hk b o2 (fps_apart S.nd hj hi (Ne.symm q) hb) h2)
  · by_cases q : b ∈ e.fp
    · exact hl b q
    · obtain ⟨o, ho⟩ := S.live b hb
      exact ⟨o, hk b o q ho⟩
  · by_cases q : i = j
    · subst q
      rw [hi] at hj
      cases hj
      rw [List.getElem?_set_self (by have := (List.getElem?_eq_some_iff.mp ho).1; rw [List.length_set] at this; exact this)] at ho
      cases ho
      exact hG
    · rw [List.getElem?_set_ne q] at ho
      exact S.gf j f o hj ho
/-- an object that was nobody's -/
theorem HSim.adoptG (S : HSim w KF F ρ H h gs) {a : Nat} {r : List Nat} {o : O} {gg : Option (Nat × Env)} (nd : (a :: r).Nodup) (ha : ∀ b ∈ a :: r, b ∉ fps ρ ∧ F.f b = none ∧ ∃ q, h.get? b = some q) (ho : OR F (ρ ++ [⟨a, a :: r, gg⟩]) h ⟨a, a :: r, gg⟩ o) (hg : ∀ x, gg = some x → ∀ f ∈ ρ, ∀ y, f.g = some y → y.1 ≠ x.1) (hG : GR gs ⟨a, a :: r, gg⟩ o) : HSim w KF F (ρ ++ [⟨a, a :: r, gg⟩]) (H ++ [o]) h gs := by
  have hf : fps (ρ ++ [⟨a, a :: r, gg⟩]) = fps ρ ++ (a :: r) := by simp [fps]
  refine ⟨S.bs, S.keep, by rw [List.length_append, List.length_append, S.len]; rfl, fun i e o' hi ho' => ?_, fun b hb => ?_, ?_, fun b hb => ?_, ?_, S.bare, fun i e o' hi ho' => ?_, S.fo⟩
  · by_cases q : i < ρ.length
    · rw [List.getElem?_append_left q] at hi
      rw [List.getElem?_append_left (by rw [← S.len]; exact q)] at ho'
      exact (S.ob i e o' hi ho').mono (List.prefix_append _ _) (.refl _) S.keep S.keep (fun b _ q hq => hq)
    · have hi' : i = ρ.length := by
        have := (List.getElem?_eq_some_iff.mp hi).1
        rw [List.length_append] at this
        simp at this
        omega
      subst hi'
      rw [List.getElem?_concat_length] at hi
      cases hi
      rw [S.len, List.getElem?_concat_length] at ho'
      cases ho'
      exact ho
  · rw [hf] at hb
    rcases List.mem_append.mp hb with m | m
    · exact S.live b m
    · exact (ha b m).2.2
  · rw [hf, List.nodup_append]
    refine ⟨S.nd, nd, fun x hx y hy q => (ha y hy).1 (q ▸ hx)⟩
  · rw [hf] at hb
    rcases List.mem_append.mp hb with m | m
    · exact S.off b m
    · exact (ha b m).2.1
  · rw [List.filterMap_append, List.map_append]
    cases gg with
    | none => simpa using S.gn
    | some x =>
      refine List.nodup_append.mpr ⟨S.gn, by simp, fun n hn k hk q => ?_⟩
      obtain ⟨y, hy, rfl⟩ := List.mem_map.mp hn
      obtain ⟨f, hf1, hf2⟩ := List.mem_filterMap.mp hy
      have hk : k = x.1 := by simpa using hk
      exact hg x rfl f hf1 y hf2 (q.trans hk)
  · by_cases q : i < ρ.length
    · rw [List.getElem?_append_left q] at hi
      rw [List.getElem?_append_left (by rw [← S.len]; exact q)] at ho'
      exact S.gf i e o' hi ho'
    · have hi' : i = ρ.length := by
        have := (List.getElem?_eq_some_iff.mp hi).1
        rw [List.length_append] at this
        simp at this
        omega
      subst hi'
      rw [List.getElem?_concat_length] at hi
      cases hi
      rw [S.len, List.getElem?_concat_length] at ho'
      cases ho'
      exact hG
theorem HSim.adopt (S : HSim w KF F ρ H h gs) {a : Nat} {r : List Nat} {o : O} (nd : (a :: r).Nodup) (ha : ∀ b ∈ a :: r, b ∉ fps ρ ∧ F.f b = none ∧ ∃ q, h.get? b = some q) (ho : OR F (ρ ++ [⟨a, a :: r, none⟩]) h ⟨a, a :: r, none⟩ o) (hG : GR gs ⟨a, a :: r, none⟩ o := by trivial) : HSim w KF F (ρ ++ [⟨a, a :: r, none⟩]) (H ++ [o]) h gs :=
  S.adoptG nd ha ho (fun _ q => nomatch q) hG
theorem HSim.dead (S : HSim w KF F ρ H h gs) {b : Nat} (hb : h.get? b = none) : b ∉ fps ρ ∧ F.f b = none := by
  refine ⟨fun m => ?_, ?_⟩
  · obtain ⟨o, q⟩ := S.live b m; rw [hb] at q; cases q
  · cases q : F.f b with
    | none => rfl
    | some o => obtain ⟨o', e', _⟩ := S.keep _ _ q; rw [e'] at hb; cases hb
/-- a new object -/
theorem HSim.alloc (S : HSim w KF F ρ H h gs) {a : Nat} {o : O} (k : Keep h h') (ha : h.get? a = none) (hl : ∃ q, h'.get? a = some q) (ho : OR F (ρ ++ [⟨a, [a], none⟩]) h' ⟨a, [a], none⟩ o) (hG : GR gs ⟨a, [a], none⟩ o := by trivial) : HSim w KF F (ρ ++ [⟨a, [a], none⟩]) (H ++ [o]) h' gs := by
  have d := S.dead ha
  exact (S.keeps k).adopt (r := []) (List.nodup_cons.mpr ⟨fun q => (nomatch q), List.nodup_nil⟩) (fun b hb => by rw [List.mem_singleton.mp hb]; exact ⟨d.1, d.2, hl⟩) ho hG
end
end Mine
end
section
open PySem PySem.W PyProof.Rows PySem.W.X
namespace Mine
noncomputable def addF (F : Base) (h : Heap) (as : List Nat) : Base := ⟨fun b => if b ∈ as then h.get? b else F.f b, F.fr⟩
theorem addF_in {F : Base} {h : Heap} {as : List Nat} {b : Nat} (hb : b ∈ as) : (addF F h as).f b = h.get? b := if_pos hb
theorem addF_out {F : Base} {h : Heap} {as : List Nat} {b : Nat} (hb : b ∉ as) : (addF F h as).f b = F.f b := if_neg hb
/-- the frames that stand while env's code runs -/
noncomputable def frOf (env : Env) (F : Base) : List Env := if env.frame = some env.locals then env :: F.fr else F.fr
/-- a frame put into the base -/
noncomputable def addE (F : Base) (h : Heap) (env : Env) (as : List Nat) : Base := ⟨(addF F h as).f, frOf env F⟩
theorem addE_in {F : Base} {h : Heap} {env : Env} {as : List Nat} {b : Nat} (hb : b ∈ as) : (addE F h env as).f b = h.get? b := if_pos hb
theorem addE_out {F : Base} {h : Heap} {env : Env} {as : List Nat} {b : Nat} (hb : b ∉ as) : (addE F h env as).f b = F.f b := if_neg hb
theorem addE_lo {F : Base} {h : Heap} {env : Env} {as : List Nat} : (∀ b ∈ F.lo, b ∈ (addE F h env as).lo) ∧ ∀ b ∈ (addE F h env as).lo, b = env.locals ∨ b ∈ F.lo := by
  by_cases q : env.frame = some env.locals
  · have e : (addE F h env as).lo = env.locals :: F.lo := by
      show (frOf env F).filterMap (·.frame) = _
      unfold frOf
      rw [if_pos q, List.filterMap_cons, q]; rfl
    rw [e]
    exact ⟨fun b hb => .tail _ hb, fun b hb => List.mem_cons.mp hb⟩
  · have e : (addE F h env as).lo = F.lo := by
      show (frOf env F).filterMap (·.frame) = _
      unfold frOf
      rw [if_neg q]; rfl
    rw [e]
    exact ⟨fun b hb => hb, fun b hb => .inr hb⟩
theorem UpS.less {F : Base} {h : Heap} {env : Env} {as : List Nat} {b : Nat} {o o' : Obj} (u : UpS (addE F h env as).lo b o o') (hb : b ≠ env.locals) : UpS F.lo b o o' := by
  rcases u with e | ⟨m, r⟩
  · exact .inl e
  · exact .inr ⟨(addE_lo.2 b m).resolve_left hb, r⟩
structure Sim (w : World) (KF : Frag) (fi : FI) (env : Env) (m : Names) (F : Base) (ρ : List Ent) (H : List O) (h : Heap) (gs : Array GenState) : Prop where
  hs : HSim w KF F ρ H h gs
  es : env.scope = fi.sc
  eg : env.globals = mainGlobals
  eb : env.builtins = builtinsNs
  ec : env.code = fi.co
  ek : fi.sc.kind = .function
  ef : env.frame = some env.locals ∨ ∃ L ∈ F.lo, env.frame = some L
  lo : ∀ b ∈ ownA fi env, F.f b = none ∧ b ∉ fps ρ
  ns : ∃ mv, h.Ns env.locals mv ∧ ∀ x, fi.sc.names.lookup x = some .local → OVR ρ h (getL m x) (mv x)
  cl : ∀ x c, env.cells.lookup x = some c → ∃ ov, h.IsCell c ov ∧ OVR ρ h (getL m x) ov
  ce : ∀ x, (fi.sc.names.lookup x = some .cell ∨ fi.sc.names.lookup x = some .free) → ∃ c, env.cells.lookup x = some c
  cn : ∀ x, fi.sc.names.lookup x = some .local → env.cells.lookup x = none
  cu : ∀ x c, (x, c) ∈ env.cells → env.cells.lookup x = some c ∧ c ≠ env.locals
  cd : env.cells.Pairwise fun x y => x.2 ≠ y.2
  cf : fi.own = false → ∀ x c, (x, c) ∈ env.cells → (F.f c).isSome = true
section
variable {w : World} {KF : Frag} {fi : FI} {env : Env} {m : Names} {F : Base} {ρ ρ' : List Ent} {H H' : List O} {h h' : Heap} {gs gs' : Array GenState}
theorem Sim.kind (S : Sim w KF fi env m F ρ H h gs) (x : Str) : env.kindOf x = fi.sc.names.lookup x := by unfold Env.kindOf; rw [S.es]
theorem Sim.kd (S : Sim w KF fi env m F ρ H h gs) : env.scope.kind = .function := by rw [S.es]; exact S.ek
theorem Sim.b (S : Sim w KF fi env m F ρ H h gs) : Bs w KF h := S.hs.b
theorem Sim.cell_own (S : Sim w KF fi env m F ρ H h gs) {x : Str} {c : Nat} (hc : (x, c) ∈ env.cells) : c ∈ ownA fi env ∨ (F.f c).isSome = true := by
  cases q : fi.own with
  | true => left; unfold ownA; rw [if_pos q]; exact .tail _ (List.mem_map.mpr ⟨_, hc, rfl⟩)
  | false => exact .inr (S.cf q x c hc)
theorem lookup_mem {cs : List (Str × Nat)} {x : Str} {c : Nat} (h : cs.lookup x = some c) : (x, c) ∈ cs := mem_of_lookup h
/-- the frame put into the base -/
theorem Sim.locF (S : Sim w KF fi env m F ρ H h gs) {b : Nat} {o : Obj} (e : F.f b = some o) : b ∉ ownA fi env := fun q => by rw [(S.lo b q).1] at e; cases e
theorem Sim.toH (S : Sim w KF fi env m F ρ H h gs) : HSim w KF (addE F h env (ownA fi env)) ρ H h gs := by
  have hF : ∀ b o, F.f b = some o → (addE F h env (ownA fi env)).f b = some o := fun b o e => by rw [addE_out (S.locF e)]; exact e
  refine ⟨fun h' k => S.hs.bs h' (fun b o e => ?_), fun b o e => ?_, S.hs.len, fun i e o hi ho => (S.hs.ob i e o hi ho).base hF, S.hs.live, S.hs.nd, fun b hb => ?_, S.hs.gn, S.hs.bare, S.hs.gf, fun e he => ?_⟩
  · obtain ⟨o', e', u⟩ := k b o (hF b o e)
    exact ⟨o', e', u.less fun q => S.locF e (q ▸ loc_own fi env)⟩
  · by_cases q : b ∈ ownA fi env
    · rw [addE_in q] at e; exact ⟨o, e, .refl⟩
    · rw [addE_out q] at e
      obtain ⟨o', e', u⟩ := S.hs.keep b o e
      exact ⟨o', e', u.mono addE_lo.1⟩
  · rw [addE_out (fun q => (S.lo b q).2 hb)]; exact S.hs.off b hb
  · have old : e ∈ F.fr → e.scope.kind ≠ .module ∧ ∃ L o, e.frame = some L ∧ (addE F h env (ownA fi env)).f L = some o ∧ ∃ es ep, o.data = .dict es ep := fun he => by
      obtain ⟨h1, L, o, h2, h3, h4⟩ := S.hs.fo e he
      exact ⟨h1, L, o, h2, hF L o h3, h4⟩
    have he : e ∈ frOf env F := he
    unfold frOf at he
    split at he
    · rename_i q
      rcases List.mem_cons.mp he with rfl | he
      · obtain ⟨mv, ⟨o, es, ep, ho, hd, _⟩, _⟩ := S.ns
        refine ⟨(by rw [S.es, S.ek]; exact fun z => nomatch z), _, o, q, by rw [addE_in (loc_own fi e)]; exact ho, es, ep, hd⟩
      · exact old he
    · exact old he
/-- and out of it again -/
theorem Sim.ofH (S : Sim w KF fi env m F ρ H h gs) (p : ρ <+: ρ') (t : TK h h') (T : HSim w KF (addE F h env (ownA fi env)) ρ' H' h' gs') : Sim w KF fi env m F ρ' H' h' gs' := by
  have hF : ∀ b o, F.f b = some o → (addE F h env (ownA fi env)).f b = some o := fun b o e => by rw [addE_out (S.locF e)]; exact e
  have hoF : ∀ b ∈ fps ρ', F.f b = none := fun b hb => by
    cases q : F.f b with
    | none => rfl
    | some o => have := T.off b hb; rw [hF b o q] at this; cases this
  have kp : ∀ b ∈ ownA fi env, ∀ o, h.get? b = some o → ∃ o', h'.get? b = some o' ∧ UpS (addE F h env (ownA fi env)).lo b o o' := fun b hb o e => T.keep b o (by rw [addE_in hb]; exact e)
  have kF : KeepG F h' := fun b o e => let ⟨o', e', u⟩ := T.keep b o (hF b o e); ⟨o', e', u.less fun q => S.locF e (q ▸ loc_own fi env)⟩
  have live : ∀ b ∈ ownA fi env, ∃ o, h.get? b = some o := fun b hb => by
    unfold ownA at hb
    split at hb
    · rcases List.mem_cons.mp hb with rfl | hb
      · obtain ⟨mv, ⟨o, _, _, ho, _⟩, _⟩ := S.ns; exact ⟨o, ho⟩
      · obtain ⟨⟨x, c⟩, hm, rfl⟩ := List.mem_map.mp hb
        obtain ⟨ov, ⟨o, ho, _⟩, _⟩ := S.cl x c (S.cu x c hm).1
        exact ⟨o, ho⟩
    · rw [List.mem_singleton.mp hb]
      obtain ⟨mv, ⟨o, _, _, ho, _⟩, _⟩ := S.ns; exact ⟨o, ho⟩
  have lo : ∀ b ∈ ownA fi env, F.f b = none ∧ b ∉ fps ρ' := fun b hb => ⟨(S.lo b hb).1, fun q => by
    have := T.off b q
    rw [addE_in hb] at this
    obtain ⟨o, ho⟩ := live b hb
    rw [this] at ho; cases ho⟩
  refine ⟨⟨S.hs.bs, kF, T.len, fun i e o hi ho => ?_, T.live, T.nd, hoF, T.gn, T.bare, T.gf, S.hs.fo⟩, S.es, S.eg, S.eb, S.ec, S.ek, S.ef, lo, ?_, fun x c hc => ?_, S.ce, S.cn, S.cu, S.cd, S.cf⟩
  · have y := T.ob i e o hi ho
    cases o with
    | arr xs =>
      obtain ⟨a, b, l, f⟩ := y
      refine ⟨a, b, l, ?_⟩
      by_cases q : e.a ∈ ownA fi env
      · exfalso
        obtain ⟨vs, ⟨ob, hob, hcl, n, hd⟩, _⟩ := l
        unfold ownA at q
        have q' : e.a = env.locals ∨ ∃ x, (x, e.a) ∈ env.cells := by
          split at q
          · rcases List.mem_cons.mp q with q | q
            · exact .inl q
            · obtain ⟨⟨x, c⟩, hm, hx⟩ := List.mem_map.mp q
              exact .inr ⟨x, hx ▸ hm⟩
          · exact .inl (List.mem_singleton.mp q)
        rcases q' with q' | ⟨x, q'⟩
        · obtain ⟨mv, ⟨o2, es, ep, ho2, hd2, _⟩, _⟩ := S.ns
          rw [← q'] at ho2
          obtain ⟨o3, h3, u⟩ := kp e.a q o2 ho2
          rw [hob] at h3; cases h3
          have z := u.same.2.1
          rw [hd, hd2] at z; cases z
        · obtain ⟨ov, ⟨o2, ho2, hd2⟩, _⟩ := S.cl x e.a (S.cu x e.a q').1
          obtain ⟨o3, h3, u⟩ := kp e.a q o2 ho2
          rw [hob] at h3; cases h3
          have z := u.same.2.1
          rw [hd, hd2] at z; cases z
      · rw [addE_out q] at f; exact f
    | _ => exact y
  · obtain ⟨mv, ⟨o, es, ep, ho, hd, r⟩, hv⟩ := S.ns
    obtain ⟨o', h1, u⟩ := kp _ (loc_own fi env) o ho
    exact ⟨mv, ⟨o', es, ep, h1, u.same.2.1.trans hd, r⟩, fun x hx => (hv x hx).mono p t⟩
  · obtain ⟨ov, ⟨o, ho, hd⟩, hv⟩ := S.cl x c hc
    rcases S.cell_own (lookup_mem hc) with q | q
    · obtain ⟨o', h1, u⟩ := kp c q o ho
      exact ⟨ov, ⟨o', h1, u.same.2.1.trans hd⟩, hv.mono p t⟩
    · obtain ⟨o2, h2⟩ := Option.isSome_iff_exists.mp q
      obtain ⟨o3, h3, u3⟩ := S.hs.keep _ _ h2
      rw [h3] at ho
      cases ho
      obtain ⟨o4, h4, u4⟩ := kF _ _ h2
      exact ⟨ov, ⟨o4, h4, u4.same.2.1.trans (u3.same.2.1.symm.trans hd)⟩, hv.mono p t⟩
theorem Sim.keeps (S : Sim w KF fi env m F ρ H h gs) (k : Keep h h') : Sim w KF fi env m F ρ H h' gs := S.ofH (List.prefix_refl _) (.of_keep k) (S.toH.keeps k)
theorem Sim.get (S : Sim w KF fi env m F ρ H h gs) {x : Str} {v : V} (hv : getL m x = some v) (hl : fi.sc.names.lookup x = some .local) : ∃ mv u, h.Ns env.locals mv ∧ mv x = some u ∧ VR ρ h v u := by
  obtain ⟨mv, hn, hm⟩ := S.ns
  have := hm x hl
  rw [hv] at this
  obtain ⟨u, e, r⟩ := this.some_of
  exact ⟨mv, u, hn, e, r⟩
/-- a name of the frame's stored -/
theorem ns_not_imm {a : Nat} {mv : Str → Option Value} (hn : h.Ns a mv) : ∀ o, h.get? a = some o → ¬ Imm o := fun o ho => by
  obtain ⟨o2, es, ep, h2, hd, _⟩ := hn
  rw [h2] at ho; cases ho
  rintro (⟨⟨xs, n, q⟩, _⟩ | ⟨_, vs, q⟩) <;> (rw [hd] at q; cases q)
theorem cell_not_imm {a : Nat} {ov : Option Value} (hn : h.IsCell a ov) : ∀ o, h.get? a = some o → ¬ Imm o := fun o ho => by
  obtain ⟨o2, h2, hd⟩ := hn
  rw [h2] at ho; cases ho
  rintro (⟨⟨xs, n, q⟩, _⟩ | ⟨_, vs, q⟩) <;> (rw [hd] at q; cases q)
theorem list_not_imm {a : Nat} {xs : Array Value} (hn : h.IsList a xs) : ∀ o, h.get? a = some o → ¬ Imm o := fun o ho => by
  obtain ⟨o2, h2, hc, n, hd⟩ := hn
  rw [h2] at ho; cases ho
  rintro (⟨_, q⟩ | ⟨q, _⟩)
  · exact q hc
  · rw [hc] at q; exact absurd q (by decide)
/-- something of the frame's turned alone -/
theorem Sim.own_upd (S : Sim w KF fi env m F ρ H h gs) {a : Nat} (ha : a ∈ ownA fi env) (hs : ∀ b o, b ≠ a → h.get? b = some o → h'.get? b = some o) (hi : ∀ o, h.get? a = some o → ¬ Imm o) : HSim w KF F ρ H h' gs ∧ TK h h' := by
  obtain ⟨f1, f2⟩ := S.lo a ha
  have t : TK h h' := .of_ext hs hi
  have kF : KeepG F h' := fun b o e => let ⟨o', e', u⟩ := S.hs.keep b o e; ⟨o', hs b o' (fun q => by rw [q, f1] at e; cases e) e', u⟩
  have ne : ∀ b ∈ fps ρ, b ≠ a := fun b hb q => f2 (q ▸ hb)
  exact ⟨⟨S.hs.bs, kF, S.hs.len, fun i e o hi ho => (S.hs.ob i e o hi ho).mono (List.prefix_refl _) t S.hs.keep kF (fun b hb q hq => hs b q (ne b (fps_mem hi hb)) hq), fun b hb => let ⟨o, ho⟩ := S.hs.live b hb; ⟨o, hs b o (ne b hb) ho⟩, S.hs.nd, S.hs.off, S.hs.gn, S.hs.bare, S.hs.gf, S.hs.fo⟩, t⟩
/-- a name of the frame's stored -/
theorem Sim.setLoc (S : Sim w KF fi env m F ρ H h gs) {x : Str} {v : V} {u : Value} (r : VR ρ h v u) {mv : Str → Option Value} (hn₀ : h.Ns env.locals mv)
    (hm : ∀ x, fi.sc.names.lookup x = some .local → OVR ρ h (getL m x) (mv x)) (hn : h'.Ns env.locals (fun y => if y = x then some u else mv y)) (hs : Heap.SameBut env.locals h h') (hl : fi.sc.names.lookup x = some .local) : Sim w KF fi env (setL m x v) F ρ H h' gs := by
  obtain ⟨hs', t⟩ := S.own_upd (loc_own fi env) (fun b o hb e => hs.extBut b o hb e) (ns_not_imm hn₀)
  refine ⟨hs', S.es, S.eg, S.eb, S.ec, S.ek, S.ef, S.lo, ⟨_, hn, fun y hy => ?_⟩, fun y c hc => ?_, S.ce, S.cn, S.cu, S.cd, S.cf⟩
  · rw [getL_setL]
    by_cases q : y = x
    · rw [if_pos q, if_pos q]; exact r.mono (List.prefix_refl _) t
    · rw [if_neg q, if_neg q]; exact (hm y hy).mono (List.prefix_refl _) t
  · obtain ⟨ov, ⟨o, ho, hd⟩, hv⟩ := S.cl y c hc
    refine ⟨ov, ⟨o, hs.extBut c o (S.cu y c (lookup_mem hc)).2 ho, hd⟩, ?_⟩
    rw [getL_setL, if_neg (fun q => by rw [q, S.cn x hl] at hc; cases hc)]
    exact hv.mono (List.prefix_refl _) t
theorem name_of_cell {cs : List (Str × Nat)} (hd : cs.Pairwise fun x y => x.2 ≠ y.2) {x y : Str} {c : Nat} (hx : (x, c) ∈ cs) (hy : (y, c) ∈ cs) : x = y := name_of_addr hd hx hy
theorem Sim.setCell (S : Sim w KF fi env m F ρ H h gs) {x : Str} {c : Nat} {v : V} {u : Value} (r : VR ρ h v u) (ho : fi.own = true) (hc : env.cells.lookup x = some c) {ov : Option Value} (hv₀ : h.IsCell c ov)
    (hv : h'.IsCell c (some u)) (hs : Heap.SameBut c h h') (hx : fi.sc.names.lookup x ≠ some .local) : Sim w KF fi env (setL m x v) F ρ H h' gs := by
  have hco : c ∈ ownA fi env := by unfold ownA; rw [if_pos ho]; exact .tail _ (List.mem_map.mpr ⟨_, lookup_mem hc, rfl⟩)
  obtain ⟨hs', t⟩ := S.own_upd hco (fun b o hb e => hs.extBut b o hb e) (cell_not_imm hv₀)
  refine ⟨hs', S.es, S.eg, S.eb, S.ec, S.ek, S.ef, S.lo, ?_, fun y d hd => ?_, S.ce, S.cn, S.cu, S.cd, S.cf⟩
  · obtain ⟨mv, hn, hm⟩ := S.ns
    refine ⟨mv, hn.sameBut hs (Ne.symm (S.cu x c (lookup_mem hc)).2), fun y hy => ?_⟩
    rw [getL_setL, if_neg (fun q => hx (by rw [← q]; exact hy))]
    exact (hm y hy).mono (List.prefix_refl _) t
  · rw [getL_setL]
    by_cases q : y = x
    · subst q
      rw [hc] at hd; cases hd
      rw [if_pos rfl]
      exact ⟨_, hv, r.mono (List.prefix_refl _) t⟩
    · rw [if_neg q]
      obtain ⟨ov, hy, hr⟩ := S.cl y d hd
      exact ⟨ov, hy.sameBut hs (fun e => q (name_of_cell S.cd (lookup_mem hd) (e ▸ lookup_mem hc))), hr.mono (List.prefix_refl _) t⟩
end
/-- what an exception is -/
structure Exc where
  cls : String
  args : List V
noncomputable def ExcAt (_ : Base) (_ : List Ent) (_ : Heap) (_ : Value) (_ : Exc) : Prop := False
/-- new entries own something; their generators are new -/
noncomputable def New (n : Nat) (ρ ρ' : List Ent) : Prop := ∀ (i : Nat) e, ρ.length ≤ i → ρ'[i]? = some e → e.fp ≠ [] ∧ ∀ x, e.g = some x → n ≤ x.1
theorem New.refl {n : Nat} {ρ : List Ent} : New n ρ ρ := fun i e hi h => absurd (List.getElem?_eq_some_iff.mp h).1 (Nat.not_lt.mpr hi)
theorem New.trans {n k : Nat} {ρ ρ₁ ρ₂ : List Ent} (a : New n ρ ρ₁) (b : New k ρ₁ ρ₂) (p : ρ₁ <+: ρ₂) (hk : n ≤ k) : New n ρ ρ₂ := fun i e hi h => by
  by_cases q : i < ρ₁.length
  · exact a i e hi (by obtain ⟨t, rfl⟩ := p; rwa [List.getElem?_append_left q] at h)
  · exact ⟨(b i e (Nat.not_lt.mp q) h).1, fun x hx => Nat.le_trans hk ((b i e (Nat.not_lt.mp q) h).2 x hx)⟩
theorem New.add {n : Nat} {ρ : List Ent} {a : Nat} {g : Option (Nat × Env)} {r : List Nat} (hg : ∀ x, g = some x → n ≤ x.1) : New n ρ (ρ ++ [⟨a, a :: r, g⟩]) := fun i e hi h => by
  rw [List.getElem?_append_right hi] at h
  have : e ∈ [(⟨a, a :: r, g⟩ : Ent)] := List.mem_of_getElem? h
  rw [List.mem_singleton.mp this]
  exact ⟨List.cons_ne_nil _ _, hg⟩
noncomputable def Step (ρ : List Ent) (s : Shared) (ρ' : List Ent) (s' : Shared) : Prop := ρ <+: ρ' ∧ TK s.heap s'.heap ∧ (s'.os = s.os ∧ s.gens.size ≤ s'.gens.size) ∧ New s.gens.size ρ ρ'
theorem Step.refl {ρ : List Ent} {s : Shared} : Step ρ s ρ s := ⟨List.prefix_refl _, .refl _, ⟨rfl, Nat.le_refl _⟩, .refl⟩
theorem Step.same {ρ : List Ent} {s s' : Shared} (t : TK s.heap s'.heap) (o : s'.os = s.os) (g : s.gens.size ≤ s'.gens.size := by first | exact Nat.le_refl _ | assumption) : Step ρ s ρ s' := ⟨List.prefix_refl _, t, ⟨o, g⟩, .refl⟩
theorem Step.addG {ρ : List Ent} {s s' : Shared} {a : Nat} {g : Option (Nat × Env)} {r : List Nat} (t : TK s.heap s'.heap) (o : s'.os = s.os) (hg : ∀ x, g = some x → s.gens.size ≤ x.1) (gg : s.gens.size ≤ s'.gens.size := by first | exact Nat.le_refl _ | assumption) : Step ρ s (ρ ++ [⟨a, a :: r, g⟩]) s' := ⟨List.prefix_append _ _, t, ⟨o, gg⟩, .add hg⟩
theorem Step.add {ρ : List Ent} {s s' : Shared} {a : Nat} {r : List Nat} (t : TK s.heap s'.heap) (o : s'.os = s.os) (gg : s.gens.size ≤ s'.gens.size := by first | exact Nat.le_refl _ | assumption) : Step ρ s (ρ ++ [⟨a, a :: r, none⟩]) s' := .addG t o (fun _ q => nomatch q) gg
theorem Step.trans {ρ ρ₁ ρ₂ : List Ent} {s s₁ s₂ : Shared} (a : Step ρ s ρ₁ s₁) (b : Step ρ₁ s₁ ρ₂ s₂) : Step ρ s ρ₂ s₂ := ⟨a.1.trans b.1, a.2.1.trans b.2.1, ⟨b.2.2.1.1.trans a.2.2.1.1, Nat.le_trans a.2.2.1.2 b.2.2.1.2⟩, a.2.2.2.trans b.2.2.2 b.1 a.2.2.1.2⟩
structure Room (A : Around) (d : Nat) (l : List Env) : Prop where
  fr : A.frames = some l
  hd : A.handled = none
  dp : A.depth + 4 * d < recursionLimit
  un : A.units + 40 * d + 200 < cLine
section
variable (w : World) (KF : Frag)
noncomputable def HQ {α β : Type} (R : List Ent → Heap → β → α → Prop) (F : Base) (ρ : List Ent) (s : Shared) (Q : β → List O → Prop) (v : α) (s' : Shared) : Prop :=
  ∃ ρ' H' b, Step ρ s ρ' s' ∧ HSim w KF F ρ' H' s'.heap s'.gens ∧ R ρ' s'.heap b v ∧ Q b H'
noncomputable def HE (F : Base) (ρ : List Ent) (s : Shared) (E : Exc → List O → Prop) (e : Value) (s' : Shared) : Prop :=
  ∃ ρ' H' x, Step ρ s ρ' s' ∧ HSim w KF F ρ' H' s'.heap s'.gens ∧ ExcAt F ρ' s'.heap e x ∧ E x H'
noncomputable def SQ {α β : Type} (R : List Ent → Heap → β → α → Prop) (fi : FI) (env : Env) (m : Names) (F : Base) (ρ : List Ent) (s : Shared) (Q : β → List O → Prop) (v : α) (s' : Shared) : Prop :=
  ∃ ρ' H' b, Step ρ s ρ' s' ∧ Sim w KF fi env m F ρ' H' s'.heap s'.gens ∧ R ρ' s'.heap b v ∧ Q b H'
noncomputable def SE (fi : FI) (env : Env) (F : Base) (ρ : List Ent) (s : Shared) (E : Exc → Names → List O → Prop) (e : Value) (s' : Shared) : Prop :=
  ∃ ρ' H' x m, Step ρ s ρ' s' ∧ Sim w KF fi env m F ρ' H' s'.heap s'.gens ∧ ExcAt (addF F s'.heap (ownA fi env)) ρ' s'.heap e x ∧ E x m H'
end
end Mine
end
section
open PySem PySem.W PyProof.Rows PySem.W.X
namespace Mine
inductive Fl where
  | next | brk | cont
  | ret (v : V)
noncomputable def FlR (ρ : List Ent) (h : Heap) : Fl → Flow → Prop
  | .next, f => f = .next
  | .brk, f => f = .brk
  | .cont, f => f = .cont
  | .ret v, f => ∃ u, f = .ret u ∧ VR ρ h v u
noncomputable def EqR {α : Type} (_ : List Ent) (_ : Heap) (b v : α) : Prop := v = b
noncomputable abbrev EP := Exc → Names → List O → Prop
noncomputable abbrev HEP := Exc → List O → Prop
section
variable (prog : Program) (w : World) (KF : Frag) (fi : FI) (d : Nat) (E : EP)
noncomputable def WE (m : Names) (H : List O) (e : Expr) (Q : V → List O → Prop) : Prop :=
  ∀ A env F ρ s, Room A d (frOf env F) → Sim w KF fi env m F ρ H s.heap s.gens → wpAny (model prog w) A (eval e env) (SQ w KF VR fi env m F ρ s Q) (SE w KF fi env F ρ s E) s
noncomputable def WT (m : Names) (H : List O) (e : Expr) (Q : Bool → List O → Prop) : Prop :=
  ∀ A env F ρ s, Room A d (frOf env F) → Sim w KF fi env m F ρ H s.heap s.gens → wpAny (model prog w) A (isTrue e env (eval e env)) (SQ w KF EqR fi env m F ρ s Q) (SE w KF fi env F ρ s E) s
/-- several expressions, one behind the other -/
noncomputable def WEs (m : Names) (H : List O) : List Expr → (List V → List O → Prop) → Prop
  | [], Q => Q [] H
  | e :: es, Q => WE prog w KF fi d E m H e fun v H₁ => WEs m H₁ es fun vs H₂ => Q (v :: vs) H₂
noncomputable def StQ (env : Env) (F : Base) (ρ : List Ent) (s : Shared) (Q : Fl → Names → List O → Prop) (f : Flow) (s' : Shared) : Prop :=
  ∃ ρ' H' m' fl, Step ρ s ρ' s' ∧ Sim w KF fi env m' F ρ' H' s'.heap s'.gens ∧ FlR ρ' s'.heap fl f ∧ Q fl m' H'
noncomputable def WS (m : Names) (H : List O) (st : Stmt) (Q : Fl → Names → List O → Prop) : Prop :=
  ∀ A env F ρ s, Room A d (frOf env F) → Sim w KF fi env m F ρ H s.heap s.gens → wpAny (model prog w) A (exec st env) (StQ w KF fi env F ρ s Q) (SE w KF fi env F ρ s E) s
noncomputable def WB (m : Names) (H : List O) (st : List Stmt) (Q : Fl → Names → List O → Prop) : Prop :=
  ∀ A env F ρ s, Room A d (frOf env F) → Sim w KF fi env m F ρ H s.heap s.gens → wpAny (model prog w) A (execs st env) (StQ w KF fi env F ρ s Q) (SE w KF fi env F ρ s E) s
/-- a target stored -/
noncomputable def WA (m : Names) (H : List O) (t : Expr) (v : V) (Q : Names → List O → Prop) : Prop :=
  ∀ A env F ρ s u, Room A d (frOf env F) → Sim w KF fi env m F ρ H s.heap s.gens → VR ρ s.heap v u → wpAny (model prog w) A (assign t env u) (fun _ s' => ∃ ρ' H' m', Step ρ s ρ' s' ∧ Sim w KF fi env m' F ρ' H' s'.heap s'.gens ∧ Q m' H') (SE w KF fi env F ρ s E) s
end
section
variable (prog : Program) (w : World) (KF : Frag) (d : Nat) (E : HEP)
/-- operations upon the heap alone -/
noncomputable def W1 {α β : Type} (R : List Ent → Heap → β → α → Prop) (H : List O) (t : Value → Sem α) (x : V) (Q : β → List O → Prop) : Prop :=
  ∀ A F ρ s u, Room A d F.fr → HSim w KF F ρ H s.heap s.gens → VR ρ s.heap x u → wpAny (model prog w) A (t u) (HQ w KF R F ρ s Q) (HE w KF F ρ s E) s
noncomputable def W2 {α β : Type} (R : List Ent → Heap → β → α → Prop) (H : List O) (t : Value → Value → Sem α) (x y : V) (Q : β → List O → Prop) : Prop :=
  ∀ A F ρ s u v, Room A d F.fr → HSim w KF F ρ H s.heap s.gens → VR ρ s.heap x u → VR ρ s.heap y v → wpAny (model prog w) A (t u v) (HQ w KF R F ρ s Q) (HE w KF F ρ s E) s
noncomputable def W3 {α β : Type} (R : List Ent → Heap → β → α → Prop) (H : List O) (t : Value → Value → Value → Sem α) (x y z : V) (Q : β → List O → Prop) : Prop :=
  ∀ A F ρ s u v r, Room A d F.fr → HSim w KF F ρ H s.heap s.gens → VR ρ s.heap x u → VR ρ s.heap y v → VR ρ s.heap z r → wpAny (model prog w) A (t u v r) (HQ w KF R F ρ s Q) (HE w KF F ρ s E) s
/-- a call -/
noncomputable def CallW (H : List O) (f : V) (xs : List V) (Q : V → List O → Prop) : Prop :=
  ∀ A F ρ s u us, Room A d F.fr → HSim w KF F ρ H s.heap s.gens → VR ρ s.heap f u → VRs ρ s.heap xs us → wpAny (model prog w) A (call u us) (HQ w KF VR F ρ s Q) (HE w KF F ρ s E) s
end
theorem SE.step {w : World} {KF : Frag} {fi : FI} {env : Env} {F : Base} {ρ ρ₁ : List Ent} {s s₁ : Shared} {E : EP} {e : Value} {s' : Shared} (st : Step ρ s ρ₁ s₁) (x : SE w KF fi env F ρ₁ s₁ E e s') : SE w KF fi env F ρ s E e s' := let ⟨a, b, c, m, p, r⟩ := x; ⟨a, b, c, m, st.trans p, r⟩
theorem SQ.step {w : World} {KF : Frag} {α β : Type} {R : List Ent → Heap → β → α → Prop} {fi : FI} {env : Env} {m : Names} {F : Base} {ρ ρ₁ : List Ent} {s s₁ : Shared} {Q : β → List O → Prop} {v : α} {s' : Shared} (st : Step ρ s ρ₁ s₁) (x : SQ w KF R fi env m F ρ₁ s₁ Q v s') : SQ w KF R fi env m F ρ s Q v s' := let ⟨a, b, c, p, r⟩ := x; ⟨a, b, c, st.trans p, r⟩
theorem StQ.step {w : World} {KF : Frag} {fi : FI} {env : Env} {F : Base} {ρ ρ₁ : List Ent} {s s₁ : Shared} {Q : Fl → Names → List O → Prop} {v : Flow} {s' : Shared} (st : Step ρ s ρ₁ s₁) (x : StQ w KF fi env F ρ₁ s₁ Q v s') : StQ w KF fi env F ρ s Q v s' := let ⟨a, b, c, e, p, r⟩ := x; ⟨a, b, c, e, st.trans p, r⟩
section
variable {prog : Program} {w : World} {KF : Frag} {fi : FI} {d : Nat} {E : EP} {m : Names} {H : List O}
/-- an operation upon the heap, in a frame -/
theorem lift {α β : Type} {R : List Ent → Heap → β → α → Prop} {A : Around} {env : Env} {F : Base} {ρ : List Ent} {s : Shared} {t : Sem α} {Q : β → List O → Prop} (S : Sim w KF fi env m F ρ H s.heap s.gens)
    (h : ∀ F' : Base, F'.fr = frOf env F → HSim w KF F' ρ H s.heap s.gens → wpAny (model prog w) A t (HQ w KF R F' ρ s Q) (HE w KF F' ρ s fun x H' => E x m H') s) : wpAny (model prog w) A t (SQ w KF R fi env m F ρ s Q) (SE w KF fi env F ρ s E) s := by
  refine wpAny_mono (h _ rfl S.toH) (fun v s' ⟨ρ', H', b, st, T, rv, hq⟩ => ⟨ρ', H', b, st, S.ofH st.1 st.2.1 T, rv, hq⟩) (fun e s' ⟨ρ', H', x, st, T, rv, hq⟩ => ?_)
  exact rv.elim
/-- from state to state -/
theorem onto {α : Type} {A : Around} {t : Sem α} {K K' : α → Shared → Prop} {env : Env} {F : Base} {ρ ρ₁ : List Ent} {s s₁ s₂ : Shared} (st : Step ρ s ρ₁ s₁) (h : wpAny (model prog w) A t K (SE w KF fi env F ρ₁ s₁ E) s₂) (hk : ∀ v s', K v s' → K' v s') : wpAny (model prog w) A t K' (SE w KF fi env F ρ s E) s₂ :=
  wpAny_mono h hk fun _ _ x => x.step st
theorem we_int {i : Int} {k : Nat} {pos : Pos} {Q : V → List O → Prop} (h : Q (.int i) H) : WE prog w KF fi d E m H (.Constant (.int i) k pos) Q :=
  fun A env F ρ s hA S => wpAny_Constant_int ⟨ρ, H, _, .refl, S, by unfold VR; exact ⟨_, rfl⟩, h⟩
theorem we_str {i : Str} {k : Nat} {pos : Pos} {Q : V → List O → Prop} (h : Q (.str i) H) : WE prog w KF fi d E m H (.Constant (.str i) k pos) Q :=
  fun A env F ρ s hA S => wpAny_Constant_str ⟨ρ, H, _, .refl, S, by unfold VR; exact ⟨_, rfl⟩, h⟩
theorem we_loc {x : Str} {v : V} {pos : Pos} {Q : V → List O → Prop} (hl : fi.sc.names.lookup x = some .local) (hv : getL m x = some v) (h : Q v H) (hd : (x == ("__debug__" : Str)) = false := by decide) : WE prog w KF fi d E m H (.Name x pos) Q :=
  fun A env F ρ s hA S => by
    obtain ⟨mv, u, hn, e, r⟩ := S.get hv hl
    exact wpAny_Name (wpAny_loadName_local S.kd ((S.kind x).trans hl) hn e ⟨ρ, H, _, .refl, S, r, h⟩) hd
theorem mg_no {K : Frag} {h : Heap} {mg : Str → Option Value} {n : Str} (X : K.In h) (G : h.Ns mainGlobals mg) (e : nsIn K mainGlobals n = some none) : mg n = none := by
  obtain ⟨o, es, ep, ho, hd, _, hf⟩ := G
  unfold nsIn at e
  split at e
  · rename_i c d es' n' sl q
    have := X _ _ q
    rw [ho] at this
    cases this
    cases hd
    split at e
    · cases e
    · rename_i he
      rw [← hf]
      unfold nsFind findBy
      rw [← Array.find?_toList, he]
      rfl
  · cases e
theorem we_glob {x : Str} {a : Nat} {pos : Pos} {Q : V → List O → Prop} (hl : fi.sc.names.lookup x = some .globalImplicit) (e : nsIn KF mainGlobals x = some (some (.ref a))) (h : Q (.st a) H) (hd : (x == ("__debug__" : Str)) = false := by decide) : WE prog w KF fi d E m H (.Name x pos) Q :=
  fun A env F ρ s hA S => by
    obtain ⟨mg, hg⟩ := S.b.g
    exact Calls.Name_function_global S.kd ((S.kind x).trans hl) (Calls.loadGlobal_global (S.eg ▸ hg) (mg_of S.b.k hg e) ⟨ρ, H, _, .refl, S, by unfold VR; rfl, h⟩) hd
theorem we_biF {x : Str} {id : String} {pos : Pos} {Q : V → List O → Prop} (hl : fi.sc.names.lookup x = some .globalImplicit) (e : nsIn KF mainGlobals x = some none) (hb : bootBuiltins x = some (.builtin id)) (h : Q (.bi id) H) (hd : (x == ("__debug__" : Str)) = false := by decide) (hn : x ≠ "__name__" := by decide) : WE prog w KF fi d E m H (.Name x pos) Q :=
  fun A env F ρ s hA S => by
    obtain ⟨mg, hg⟩ := S.b.g
    obtain ⟨mb, hm, hb'⟩ := S.b.bi
    exact Calls.Name_function_global S.kd ((S.kind x).trans hl) (Calls.loadGlobal_builtin (S.eg ▸ hg) (mg_no S.b.k hg e) (S.eb ▸ hm) ((hb' x hn).trans hb) ⟨ρ, H, .bi id, .refl, S, by unfold VR; rfl, h⟩) hd
theorem we_biT {x : Str} {id : String} {pos : Pos} {Q : V → List O → Prop} (hl : fi.sc.names.lookup x = some .globalImplicit) (e : nsIn KF mainGlobals x = some none) (hb : bootBuiltins x = some (.type id)) (h : Q (.ty id) H) (hd : (x == ("__debug__" : Str)) = false := by decide) (hn : x ≠ "__name__" := by decide) : WE prog w KF fi d E m H (.Name x pos) Q :=
  fun A env F ρ s hA S => by
    obtain ⟨mg, hg⟩ := S.b.g
    obtain ⟨mb, hm, hb'⟩ := S.b.bi
    exact Calls.Name_function_global S.kd ((S.kind x).trans hl) (Calls.loadGlobal_builtin (S.eg ▸ hg) (mg_no S.b.k hg e) (S.eb ▸ hm) ((hb' x hn).trans hb) ⟨ρ, H, .ty id, .refl, S, by unfold VR; rfl, h⟩) hd
noncomputable abbrev Em (E : EP) (m : Names) : HEP := fun x H => E x m H
theorem we_bin {l r : Expr} {op : Operator} {pos : Pos} {Q : V → List O → Prop} (h : WE prog w KF fi d E m H l fun a H₁ => WE prog w KF fi d E m H₁ r fun b H₂ => W2 prog w KF d (Em E m) VR H₂ (binaryOp op) a b Q) : WE prog w KF fi d E m H (.BinOp l op r pos) Q :=
  fun A env F ρ s hA S => wpAny_BinOp (wpAny_mono (h A env F ρ s hA S) (fun u s₁ ⟨ρ₁, H₁, a, st₁, S₁, ra, h₁⟩ =>
    onto st₁ (wpAny_mono (h₁ A env F ρ₁ s₁ hA S₁) (fun v s₂ ⟨ρ₂, H₂, b, st₂, S₂, rb, h₂⟩ =>
      onto (st₁.trans st₂) (lift S₂ fun F' q T => h₂ A F' ρ₂ s₂ u v (q ▸ hA) T (ra.mono st₂.1 st₂.2.1) rb) fun _ _ x => (x.step st₂).step st₁) fun _ _ x => x) fun _ _ x => x) fun _ _ x => x)
theorem we_cmp {l r : Expr} {op : CmpOp} {pos : Pos} {Q : V → List O → Prop} (h : WE prog w KF fi d E m H l fun a H₁ => WE prog w KF fi d E m H₁ r fun b H₂ => W2 prog w KF d (Em E m) VR H₂ (compareOp op) a b Q) (hm : behindInMarks op r = false := by with_unfolding_all rfl) : WE prog w KF fi d E m H (.Compare l [op] [r] pos) Q :=
  fun A env F ρ s hA S => wpAny_Compare1 (wpAny_mono (h A env F ρ s hA S) (fun u s₁ ⟨ρ₁, H₁, a, st₁, S₁, ra, h₁⟩ =>
    onto st₁ (wpAny_mono (h₁ A env F ρ₁ s₁ hA S₁) (fun v s₂ ⟨ρ₂, H₂, b, st₂, S₂, rb, h₂⟩ =>
      onto (st₁.trans st₂) (lift S₂ fun F' q T => h₂ A F' ρ₂ s₂ u v (q ▸ hA) T (ra.mono st₂.1 st₂.2.1) rb) fun _ _ x => (x.step st₂).step st₁) fun _ _ x => x) fun _ _ x => x) fun _ _ x => x) hm
theorem wt_cmp {l r : Expr} {op : CmpOp} {pos : Pos} {Q : Bool → List O → Prop} (h : WE prog w KF fi d E m H l fun a H₁ => WE prog w KF fi d E m H₁ r fun b H₂ => W2 prog w KF d (Em E m) VR H₂ (compareOp op) a b fun c H₃ => W1 prog w KF d (Em E m) EqR H₃ truthy c Q) (hm : behindInMarks op r = false := by with_unfolding_all rfl) : WT prog w KF fi d E m H (.Compare l [op] [r] pos) Q :=
  fun A env F ρ s hA S => wpAny_isTrue_Compare1 (wpAny_mono (h A env F ρ s hA S) (fun u s₁ ⟨ρ₁, H₁, a, st₁, S₁, ra, h₁⟩ =>
    onto st₁ (wpAny_mono (h₁ A env F ρ₁ s₁ hA S₁) (fun v s₂ ⟨ρ₂, H₂, b, st₂, S₂, rb, h₂⟩ =>
      onto (st₁.trans st₂) (wpAny_mono (lift S₂ fun F' q T => h₂ A F' ρ₂ s₂ u v (q ▸ hA) T (ra.mono st₂.1 st₂.2.1) rb) (fun c s₃ ⟨ρ₃, H₃, cv, st₃, S₃, rc, h₃⟩ =>
        onto ((st₁.trans st₂).trans st₃) (lift S₃ fun F' q T => h₃ A F' ρ₃ s₃ c (q ▸ hA) T rc) fun _ _ x => (((x.step st₃).step st₂).step st₁)) fun _ _ x => x) fun _ _ x => x) fun _ _ x => x) fun _ _ x => x) fun _ _ x => x) hm
/-- no starred ones among them -/
noncomputable def Plain (es : List Expr) : Prop := ∀ env, starEach es env = es.map fun e => (false, eval e env)
theorem wes_run {es : List Expr} {pos : Pos} {Q : List V → List O → Prop} : ∀ {H : List O}, WEs prog w KF fi d E m H es Q → ∀ A env F ρ s, Room A d (frOf env F) → Sim w KF fi env m F ρ H s.heap s.gens →
    wpAny (model prog w) A (spliced (backTo pos (es.map fun e => (false, eval e env)))) (SQ w KF VRs fi env m F ρ s Q) (SE w KF fi env F ρ s E) s := by
  induction es generalizing Q with
  | nil => exact fun h A env F ρ s hA S => wpAny_pure ⟨ρ, _, [], .refl, S, .nil, h⟩
  | cons e es ih =>
    intro H h A env F ρ s hA S
    refine Calls.spliced_cons (wpAny_mono ((show WE prog w KF fi d E m H e _ from h) A env F ρ s hA S) (fun u s₁ hx => ?_) fun _ _ x => x)
    obtain ⟨ρ₁, H₁, a, st₁, S₁, ra, h₁⟩ := hx
    exact onto st₁ (wpAny_mono (ih h₁ A env F ρ₁ s₁ hA S₁) (fun us s₂ ⟨ρ₂, H₂, as, st₂, S₂, ras, h₂⟩ => (⟨ρ₂, H₂, a :: as, st₁.trans st₂, S₂, .cons (ra.mono st₂.1 st₂.2.1) ras, h₂⟩ : SQ w KF VRs fi env m F ρ s Q (u :: us) s₂)) fun _ _ x => x) fun _ _ x => x
theorem we_list {es : List Expr} {pos : Pos} {Q : V → List O → Prop} (h : WEs prog w KF fi d E m H es fun vs H₁ => vs.length ≤ sizeLine ∧ Q (.ref H₁.length) (H₁ ++ [.list vs])) (hp : Plain es := by intro _; rfl) : WE prog w KF fi d E m H (.List es pos) Q :=
  fun A env F ρ s hA S => by
    refine List_ ?_
    rw [hp env]
    refine wpAny_mono (wes_run h A env F ρ s hA S) (fun us s₁ hx => ?_) fun _ _ x => x
    obtain ⟨ρ₁, H₁, as, st₁, S₁, ra, hsz, h₁⟩ := hx
    refine wpAny_newObj_type ?_ (by show us.toArray.size ≤ sizeLine; rw [List.size_toArray, ra.len]; exact hsz)
    have k : Keep s₁.heap (s₁.heap.push { cls := .type "list", data := .seq us.toArray }) := fun _ _ e => Heap.get?_push_of_some _ e
    have p : ρ₁ <+: ρ₁ ++ [⟨s₁.heap.objs.size, [s₁.heap.objs.size], none⟩] := List.prefix_append _ _
    have hg : (s₁.heap.push { cls := .type "list", data := .seq us.toArray }).get? s₁.heap.objs.size = some { cls := .type "list", data := .seq us.toArray } := Heap.get?_push_size _ rfl
    refine ⟨_, _, .ref H₁.length, st₁.trans (.add (.of_keep k) rfl), S₁.ofH p (.of_keep k) (S₁.toH.alloc (o := .list as) k (get_size _) ⟨_, hg⟩ ⟨rfl, rfl, us, ⟨_, hg⟩, ra.mono p (.of_keep k)⟩), ?_, h₁⟩
    unfold VR
    exact ⟨_, by rw [← S₁.hs.len, List.getElem?_concat_length], rfl⟩
end
end Mine
end
section
open PySem PySem.W PyProof.Rows PySem.W.X
namespace Mine
section
variable (prog : Program) (w : World) (KF : Frag) (fi : FI) (d : Nat) (E : EP)
/-- targets, one behind the other -/
noncomputable def WAs : Names → List O → List Expr → List V → (Names → List O → Prop) → Prop
  | m, H, [], [], Q => Q m H
  | m, H, t :: ts, v :: vs, Q => WA prog w KF fi d E m H t v fun m₁ H₁ => WAs m₁ H₁ ts vs Q
  | _, _, _, _, _ => False
end
noncomputable abbrev UnR (_ : List Ent) (_ : Heap) (_ _ : Unit) : Prop := True
section
variable {prog : Program} {w : World} {KF : Frag} {fi : FI} {d : Nat} {E : EP} {m : Names} {H : List O}
/-- a name that the frame may store -/
noncomputable def Ours (fi : FI) (x : Str) : Prop := fi.sc.names.lookup x = some .local ∨ (fi.sc.names.lookup x = some .cell ∧ fi.own = true)
theorem Sim.nocls {env : Env} {F : Base} {ρ : List Ent} {h : Heap} {gs : Array GenState} (S : Sim w KF fi env m F ρ H h gs) : (env.scope.kind == .class || (env.scope.kind == .module && env.locals != env.globals)) = false := by rw [S.kd]; rfl
theorem st_name' {A : Around} {env : Env} {F : Base} {ρ : List Ent} {s : Shared} {x : Str} {v : V} {u : Value} {E' : Value → Shared → Prop} (S : Sim w KF fi env m F ρ H s.heap s.gens) (r : VR ρ s.heap v u) (hk : Ours fi x) :
    wpAny (model prog w) A (storeName env x u) (fun _ s' => Step ρ s ρ s' ∧ Sim w KF fi env (setL m x v) F ρ H s'.heap s'.gens ∧ ∀ b o, b ∉ ownA fi env → s.heap.get? b = some o → s'.heap.get? b = some o) E' s := by
  rcases hk with hl | ⟨hl, ho⟩
  · obtain ⟨mv, hn, hm⟩ := S.ns
    refine wpAny_storeName_local ((S.kind x).trans hl) hn (fun h' hn' hs => ⟨.same (.of_ext (fun b o hb e => hs.extBut b o hb e) (ns_not_imm hn)) rfl, S.setLoc r hn hm hn' hs hl, fun b o hb e => hs.extBut b o (fun q => hb (q ▸ loc_own fi env)) e⟩) S.nocls
  · obtain ⟨c, hc⟩ := S.ce x (.inl hl)
    obtain ⟨ov, hi, _⟩ := S.cl x c hc
    refine wpAny_storeName_cell S.kd ((S.kind x).trans hl) hc hi fun h' hi' hs => ⟨.same (.of_ext (fun b o hb e => hs.extBut b o hb e) (cell_not_imm hi)) rfl, S.setCell r ho hc hi hi' hs (by rw [hl]; decide), fun b o hb e => hs.extBut b o (fun q => hb ?_) e⟩
    rw [q]; unfold ownA; rw [if_pos ho]; exact .tail _ (List.mem_map.mpr ⟨_, lookup_mem hc, rfl⟩)
theorem st_name {A : Around} {env : Env} {F : Base} {ρ : List Ent} {s : Shared} {x : Str} {v : V} {u : Value} {E' : Value → Shared → Prop} (S : Sim w KF fi env m F ρ H s.heap s.gens) (r : VR ρ s.heap v u) (hk : Ours fi x) :
    wpAny (model prog w) A (storeName env x u) (fun _ s' => Step ρ s ρ s' ∧ Sim w KF fi env (setL m x v) F ρ H s'.heap s'.gens) E' s := wpAny_mono (st_name' S r hk) (fun _ _ x => ⟨x.1, x.2.1⟩) fun _ _ x => x
theorem wa_name {x : Str} {pos : Pos} {v : V} {Q : Names → List O → Prop} (hk : Ours fi x) (h : Q (setL m x v) H) : WA prog w KF fi d E m H (.Name x pos) v Q :=
  fun A env F ρ s u hA S r => wpAny_assign_Name (wpAny_mono (st_name S r hk) (fun _ s' ⟨st, S'⟩ => ⟨ρ, H, _, st, S', h⟩) fun _ _ x => x)
theorem wa_sub {o i : Expr} {pos : Pos} {v : V} {Q : Names → List O → Prop} (h : WE prog w KF fi d E m H o fun ov H₁ => WE prog w KF fi d E m H₁ i fun iv H₂ => W3 prog w KF d (Em E m) UnR H₂ setItem ov iv v fun _ H₃ => Q m H₃) : WA prog w KF fi d E m H (.Subscript o i pos) v Q :=
  fun A env F ρ s u hA S r => by
    rw [assign_Subscript]
    refine wpAny_bind (wpAny_holding (wpAny_mono (h A env F ρ s hA S) (fun ov s₁ hx => ?_) fun _ _ x => x))
    obtain ⟨ρ₁, H₁, a, st₁, S₁, ra, h₁⟩ := hx
    refine wpAny_bind (wpAny_holding (onto st₁ (wpAny_mono (h₁ A env F ρ₁ s₁ hA S₁) (fun iv s₂ hx => ?_) fun _ _ x => x) fun _ _ x => x))
    obtain ⟨ρ₂, H₂, b, st₂, S₂, rb, h₂⟩ := hx
    have st := st₁.trans st₂
    refine wpAny_bind (wpAny_standAt (wpAny_bind (wpAny_holding (onto st (lift S₂ fun F' q T => h₂ A F' ρ₂ s₂ ov iv u (q ▸ hA) T (ra.mono st₂.1 st₂.2.1) rb (r.mono st.1 st.2.1)) ?_))))
    rintro _ s₃ ⟨ρ₃, H₃, _, st₃, S₃, _, h₃⟩
    exact wpAny_release ⟨ρ₃, H₃, m, st.trans st₃, S₃, h₃⟩
theorem wa_attr {o : Expr} {attr : Str} {pos : Pos} {v : V} {Q : Names → List O → Prop} (h : WE prog w KF fi d E m H o fun ov H₁ => W2 prog w KF d (Em E m) UnR H₁ (fun u v => setAttr u attr v) ov v fun _ H₃ => Q m H₃) : WA prog w KF fi d E m H (.Attribute o attr pos) v Q :=
  fun A env F ρ s u hA S r => by
    show wpAny _ A (do
      let ov ← holding [u] (eval o env)
      standAt pos.atName
      holding [u, ov] (setAttr ov attr u)
      release [u, ov] []) _ _ s
    refine wpAny_bind (wpAny_holding (wpAny_mono (h A env F ρ s hA S) (fun ov s₁ hx => ?_) fun _ _ x => x))
    obtain ⟨ρ₁, H₁, a, st₁, S₁, ra, h₁⟩ := hx
    refine wpAny_bind (wpAny_standAt (wpAny_bind (wpAny_holding (onto st₁ (lift S₁ fun F' q T => h₁ A F' ρ₁ s₁ ov u (q ▸ hA) T ra (r.mono st₁.1 st₁.2.1)) ?_))))
    rintro _ s₃ ⟨ρ₃, H₃, _, st₃, S₃, _, h₃⟩
    exact wpAny_release ⟨ρ₃, H₃, m, st₁.trans st₃, S₃, h₃⟩
noncomputable def PlainT (es : List Expr) : Prop := ∀ env, assignEach es env = es.map fun e => (false, assign e env)
/-- one target -/
theorem ws_assign {t value : Expr} {pos : Pos} {Q : Fl → Names → List O → Prop} (h : WE prog w KF fi d E m H value fun v H₁ => WA prog w KF fi d E m H₁ t v fun m₂ H₂ => Q .next m₂ H₂)
    (hs : ∀ env, swapsWithSole [t] value pos.line env = pure false := by intro _; rfl) (hw : ∀ env, swappedStores [t] value env = pure none := by intro _; rfl) (he : ∀ env, assignEach [t] env = [(false, assign t env)] := by intro _; rfl) : WS prog w KF fi d E m H (.Assign [t] value pos) Q :=
  fun A env F ρ s hA S => by
    refine wpAny_Assign_stores (wpAny_mono (h A env F ρ s hA S) (fun u s₁ hx => ?_) fun _ _ x => x) (hs env) (hw env)
    obtain ⟨ρ₁, H₁, v, st₁, S₁, r, h₁⟩ := hx
    rw [he env]
    show wpAny _ A (assign t env u) _ _ _
    exact onto st₁ (h₁ A env F ρ₁ s₁ u hA S₁ r) fun _ s₂ ⟨ρ₂, H₂, m₂, st₂, S₂, h₂⟩ => ⟨ρ₂, H₂, m₂, .next, st₁.trans st₂, S₂, rfl, h₂⟩
theorem ws_if {c : Expr} {x y : List Stmt} {pos : Pos} {Q : Fl → Names → List O → Prop} (h : WT prog w KF fi d E m H c fun b H₁ => if b = true then WB prog w KF fi d E m H₁ x Q else WB prog w KF fi d E m H₁ y Q) : WS prog w KF fi d E m H (.If c x y pos) Q :=
  fun A env F ρ s hA S => wpAny_If (wpAny_mono (h A env F ρ s hA S) (fun b s₁ ⟨ρ₁, H₁, a, st₁, S₁, ra, h₁⟩ => by
    cases ra
    cases b
    · exact onto st₁ ((show WB prog w KF fi d E m H₁ y Q from h₁) A env F ρ₁ s₁ hA S₁) fun _ _ x => x.step st₁
    · exact onto st₁ ((show WB prog w KF fi d E m H₁ x Q from h₁) A env F ρ₁ s₁ hA S₁) fun _ _ x => x.step st₁) fun _ _ x => x)
theorem ws_ret {e : Expr} {pos : Pos} {Q : Fl → Names → List O → Prop} (h : WE prog w KF fi d E m H e fun v H₁ => Q (.ret v) m H₁) : WS prog w KF fi d E m H (.Return (some e) pos) Q :=
  fun A env F ρ s hA S => wpAny_Return_some (wpAny_mono (h A env F ρ s hA S) (fun u s₁ ⟨ρ₁, H₁, a, st₁, S₁, ra, h₁⟩ => ⟨ρ₁, H₁, m, .ret a, st₁, S₁, ⟨u, rfl, ra⟩, h₁⟩) fun _ _ x => x)
theorem Sim.noint {env : Env} {F : Base} {ρ : List Ent} {h : Heap} {gs : Array GenState} (S : Sim w KF fi env m F ρ H h gs) : interactive env = false := by unfold interactive; rw [S.kd]; rfl
theorem ws_expr {e : Expr} {pos : Pos} {Q : Fl → Names → List O → Prop} (h : WE prog w KF fi d E m H e fun v H₁ => Q .next m H₁) (hs : ∀ env, swapsWith e none pos.line env = pure false := by intro _; rfl) : WS prog w KF fi d E m H (.Expr e pos) Q :=
  fun A env F ρ s hA S => wpAny_Expr_any (wpAny_mono (h A env F ρ s hA S) (fun u s₁ ⟨ρ₁, H₁, a, st₁, S₁, ra, h₁⟩ => ⟨ρ₁, H₁, m, .next, st₁, S₁, rfl, h₁⟩) fun _ _ x => x) S.noint (hs env)
theorem wb_nil {Q : Fl → Names → List O → Prop} (h : Q .next m H) : WB prog w KF fi d E m H [] Q :=
  fun A env F ρ s hA S => wpAny_execs_nil ⟨ρ, H, m, .next, .refl, S, rfl, h⟩
theorem wb_cons {st : Stmt} {rest : List Stmt} {Q : Fl → Names → List O → Prop} (h : WS prog w KF fi d E m H st fun f m₁ H₁ => match f with | .next => WB prog w KF fi d E m₁ H₁ rest Q | f => Q f m₁ H₁) : WB prog w KF fi d E m H (st :: rest) Q :=
  fun A env F ρ s hA S => wpAny_execs_cons (wpAny_mono (h A env F ρ s hA S) (fun f s₁ ⟨ρ₁, H₁, m₁, fl, st₁, S₁, rf, h₁⟩ => by
    cases fl with
    | next => cases rf; exact onto st₁ (h₁ A env F ρ₁ s₁ hA S₁) fun _ _ x => x.step st₁
    | brk => cases rf; exact ⟨ρ₁, H₁, m₁, .brk, st₁, S₁, rfl, h₁⟩
    | cont => cases rf; exact ⟨ρ₁, H₁, m₁, .cont, st₁, S₁, rfl, h₁⟩
    | ret v => obtain ⟨u, rfl, r⟩ := rf; exact ⟨ρ₁, H₁, m₁, .ret v, st₁, S₁, ⟨u, rfl, r⟩, h₁⟩) fun _ _ x => x)
end
end Mine
end
section
open PySem PySem.W PyProof.Rows PySem.W.X
namespace Mine
/-- nothing but fp is touched -/
noncomputable def Chg (fp : List Nat) (s s' : Shared) : Prop := s'.gens = s.gens ∧ s'.os = s.os ∧ TK s.heap s'.heap ∧ ∀ b o, b ∉ fp → s.heap.get? b = some o → s'.heap.get? b = some o
theorem Chg.refl {fp : List Nat} {s : Shared} : Chg fp s s := ⟨rfl, rfl, .refl _, fun _ _ _ e => e⟩
section
variable {w : World} {KF : Frag} {fi : FI} {env : Env} {m m' : Names} {F : Base} {ρ ρ' : List Ent} {H H' : List O} {h h' : Heap} {gs gs' : Array GenState} {fp : List Nat}
theorem HSim.chg {s s' : Shared} (S : HSim w KF F ρ H s.heap s.gens) (hf : ∀ b ∈ fp, F.f b = none ∧ b ∉ fps ρ) (c : Chg fp s s') : HSim w KF F ρ H s'.heap s'.gens := by
  obtain ⟨cg, _, t, k⟩ := c
  have kF : KeepG F s'.heap := fun b o e => let ⟨o', e', u⟩ := S.keep b o e; ⟨o', k b o' (fun q => by rw [(hf b q).1] at e; cases e) e', u⟩
  have kp : ∀ b ∈ fps ρ, ∀ o, s.heap.get? b = some o → s'.heap.get? b = some o := fun b hb o e => k b o (fun q => (hf b q).2 hb) e
  exact ⟨S.bs, kF, S.len, fun i e o hi ho => (S.ob i e o hi ho).mono (List.prefix_refl _) t S.keep kF (fun b hb q hq => kp b (fps_mem hi hb) q hq), fun b hb => let ⟨o, ho⟩ := S.live b hb; ⟨o, kp b hb o ho⟩, S.nd, S.off, S.gn, by rw [cg]; exact S.bare, by rw [cg]; exact S.gf, S.fo⟩
/-- fp is none of the frame's -/
noncomputable def FpOff (fi : FI) (env : Env) (F : Base) (ρ : List Ent) (fp : List Nat) : Prop := ∀ b ∈ fp, F.f b = none ∧ b ∉ fps ρ ∧ b ∉ ownA fi env
theorem Sim.chg {s s' : Shared} (S : Sim w KF fi env m F ρ H s.heap s.gens) (hf : FpOff fi env F ρ fp) (c : Chg fp s s') : Sim w KF fi env m F ρ H s'.heap s'.gens :=
  S.ofH (List.prefix_refl _) c.2.2.1 (S.toH.chg (fun b hb => ⟨by rw [addE_out (hf b hb).2.2]; exact (hf b hb).1, (hf b hb).2.1⟩) c)
theorem Sim.own_live (S : Sim w KF fi env m F ρ H h gs) : ∀ b ∈ ownA fi env, ∃ o, h.get? b = some o ∧ o.cls ≠ .type "list" ∨ ∃ o, h.get? b = some o := fun b hb => by
  unfold ownA at hb
  split at hb
  · rcases List.mem_cons.mp hb with rfl | hb
    · obtain ⟨mv, ⟨o, _, _, ho, _⟩, _⟩ := S.ns; exact ⟨o, .inr ⟨o, ho⟩⟩
    · obtain ⟨⟨x, c⟩, hm, rfl⟩ := List.mem_map.mp hb
      obtain ⟨ov, ⟨o, ho, _⟩, _⟩ := S.cl x c (S.cu x c hm).1
      exact ⟨o, .inr ⟨o, ho⟩⟩
  · rw [List.mem_singleton.mp hb]
    obtain ⟨mv, ⟨o, _, _, ho, _⟩, _⟩ := S.ns; exact ⟨o, .inr ⟨o, ho⟩⟩
theorem Sim.fresh (S : Sim w KF fi env m F ρ H h gs) (hf : ∀ b ∈ fp, h.get? b = none) : FpOff fi env F ρ fp := fun b hb => by
  refine ⟨?_, fun q => ?_, fun q => ?_⟩
  · cases q : F.f b with
    | none => rfl
    | some o => obtain ⟨o', e', _⟩ := S.hs.keep _ _ q; rw [hf b hb] at e'; cases e'
  · obtain ⟨o, ho⟩ := S.hs.live b q; rw [hf b hb] at ho; cases ho
  · obtain ⟨o, ⟨ho, _⟩ | ⟨o, ho⟩⟩ := S.own_live b q <;> (rw [hf b hb] at ho; cases ho)
/-- the iterator put into the base -/
theorem Sim.rebase (S : Sim w KF fi env m F ρ H h gs) (hf : FpOff fi env F ρ fp) : Sim w KF fi env m (addF F h fp) ρ H h gs := by
  have hF : ∀ b o, F.f b = some o → (addF F h fp).f b = some o := fun b o e => by
    rw [addF_out (fun q => by rw [(hf b q).1] at e; cases e)]; exact e
  refine ⟨⟨fun h' k => S.hs.bs h' (fun b o e => k b o (hF b o e)), fun b o e => ?_, S.hs.len, fun i e o hi ho => (S.hs.ob i e o hi ho).base hF, S.hs.live, S.hs.nd, fun b hb => ?_, S.hs.gn, S.hs.bare, S.hs.gf, fun e he => let ⟨h1, L, o, h2, h3, h4⟩ := S.hs.fo e he; ⟨h1, L, o, h2, hF L o h3, h4⟩⟩, S.es, S.eg, S.eb, S.ec, S.ek, S.ef, fun b hb => ⟨?_, (S.lo b hb).2⟩, S.ns, S.cl, S.ce, S.cn, S.cu, S.cd, fun q x c hc => ?_⟩
  · by_cases q : b ∈ fp
    · rw [addF_in q] at e; exact ⟨o, e, .refl⟩
    · rw [addF_out q] at e; exact S.hs.keep b o e
  · rw [addF_out (fun q => (hf b q).2.1 hb)]; exact S.hs.off b hb
  · rw [addF_out (fun q => (hf b q).2.2 hb)]; exact (S.lo b hb).1
  · obtain ⟨o, ho⟩ := Option.isSome_iff_exists.mp (S.cf q x c hc)
    rw [hF c o ho]; rfl
theorem Sim.unbase (S : Sim w KF fi env m F ρ H h gs) (hf : FpOff fi env F ρ fp) (hl : ∀ b ∈ fp, ∃ o, h.get? b = some o) (p : ρ <+: ρ') {nn : Nat} (nw : New nn ρ ρ') (T : Sim w KF fi env m' (addF F h fp) ρ' H' h' gs') :
    Sim w KF fi env m' F ρ' H' h' gs' ∧ FpOff fi env F ρ' fp ∧ ∀ b ∈ fp, ∀ o, h.get? b = some o → h'.get? b = some o := by
  have hF : ∀ b o, F.f b = some o → (addF F h fp).f b = some o := fun b o e => by
    rw [addF_out (fun q => by rw [(hf b q).1] at e; cases e)]; exact e
  have hoF : ∀ b, (addF F h fp).f b = none → F.f b = none := fun b q => by
    cases z : F.f b with
    | none => rfl
    | some o => rw [hF b o z] at q; cases q
  have kp : ∀ b ∈ fp, ∀ o, h.get? b = some o → h'.get? b = some o := fun b hb o e => by
    obtain ⟨o', e', u⟩ := T.hs.keep b o (by rw [addF_in hb]; exact e)
    rw [e', u.ex (S.hs.fo.off (hf b hb).1)]
  refine ⟨⟨⟨S.hs.bs, fun b o e => T.hs.keep b o (hF b o e), T.hs.len, fun i e o hi ho => ?_, T.hs.live, T.hs.nd, fun b hb => hoF b (T.hs.off b hb), T.hs.gn, T.hs.bare, T.hs.gf, S.hs.fo⟩, T.es, T.eg, T.eb, T.ec, T.ek, T.ef, fun b hb => ⟨hoF b (T.lo b hb).1, (T.lo b hb).2⟩, T.ns, T.cl, T.ce, T.cn, T.cu, T.cd, S.cf⟩, fun b hb => ⟨(hf b hb).1, fun q => ?_, (hf b hb).2.2⟩, kp⟩
  · have y := T.hs.ob i e o hi ho
    cases o with
    | arr xs =>
      obtain ⟨a, b, l, f⟩ := y
      refine ⟨a, b, l, ?_⟩
      by_cases q : i < ρ.length
      · have hi' : ρ[i]? = some e := by obtain ⟨t, rfl⟩ := p; rwa [List.getElem?_append_left q] at hi
        have hH : i < H.length := by rw [← S.hs.len]; exact q
        have y' := S.hs.ob i e H[i] hi' (List.getElem?_eq_getElem hH)
        rcases y'.own with ⟨ys, q2⟩ | q2 | q2
        · rw [q2] at y'; exact y'.2.2.2
        · rw [a] at q2; cases q2
        · rw [b] at q2; cases q2
      · exact absurd a (nw i e (Nat.not_lt.mp q) hi).1
    | _ => exact y
  · have := T.hs.off b q
    rw [addF_in hb] at this
    obtain ⟨o, ho⟩ := hl b hb
    rw [this] at ho; cases ho
end
/-- an iterator and its items -/
structure Iter (prog : Program) (w : World) (KF : Frag) (I : Nat) (fp : List Nat) (xs : List V) (G : List O → Prop) (St : Nat → List Ent → Heap → Prop) : Prop where
  frame : ∀ i ρ h ρ' h', St i ρ h → ρ <+: ρ' → TK h h' → (∀ b ∈ fp, ∀ o, h.get? b = some o → h'.get? b = some o) → St i ρ' h'
  live : ∀ i ρ h, St i ρ h → ∀ b ∈ fp, ∃ o, h.get? b = some o
  lot : ∀ A i ρ (s : Shared) t v (E' : Value → Shared → Prop), St i ρ s.heap → wpAny (model prog w) A (letOwnedTupleGo t (.ref I) v) (fun _ s' => St i ρ s'.heap ∧ Chg fp s s') E' s
  item : ∀ A F ρ H (s : Shared) i x (E' : Value → Shared → Prop), A.handled = none → HSim w KF F ρ H s.heap s.gens → G H → St i ρ s.heap → xs[i]? = some x →
    wpAny (model prog w) A (pyNext (.ref I)) (fun r s' => ∃ v, r = some v ∧ VR ρ s'.heap x v ∧ St (i + 1) ρ s'.heap ∧ Chg fp s s') E' s
  done : ∀ A F ρ H (s : Shared) (E' : Value → Shared → Prop), A.handled = none → HSim w KF F ρ H s.heap s.gens → G H → St xs.length ρ s.heap →
    wpAny (model prog w) A (pyNext (.ref I)) (fun r s' => r = none ∧ Chg fp s s') E' s
  self : ∀ A i ρ (s : Shared) (K : Value → Shared → Prop) (E' : Value → Shared → Prop), St i ρ s.heap → K (.ref I) s → wpAny (model prog w) A (pyIter (.ref I)) K E' s
section
variable (prog : Program) (w : World) (KF : Frag) (d : Nat) (E : HEP)
/-- the items that a value gives, as long as G holds -/
noncomputable def IterW (H : List O) (v : V) (xs : List V) (G : List O → Prop) : Prop :=
  ∀ A F ρ s u, Room A d F.fr → HSim w KF F ρ H s.heap s.gens → VR ρ s.heap v u → wpAny (model prog w) A (pyIter u) (fun it s' => ∃ I fp St, it = .ref I ∧ Iter prog w KF I fp xs G St ∧ St 0 ρ s'.heap ∧ Keep s.heap s'.heap ∧ s'.gens = s.gens ∧ s'.os = s.os ∧ ∀ b ∈ fp, s.heap.get? b = none) (HE w KF F ρ s E) s
end
section
variable {prog : Program} {w : World} {KF : Frag} {fi : FI} {d : Nat} {E : EP} {m : Names} {H : List O}
theorem Chg.step {fp : List Nat} {s s' : Shared} {ρ : List Ent} (c : Chg fp s s') : Step ρ s ρ s' := .same c.2.2.1 c.2.1 (by rw [c.1]; exact Nat.le_refl _)
end
end Mine
end
section
open PySem PySem.W PyProof.Rows PySem.W.X
namespace Mine
section
variable {prog : Program} {w : World} {KF : Frag} {A : Around} {E : HEP} {d : Nat} {H : List O}
/-- an iterator that is no owner of its tuples -/
theorem lot_plain {s : Shared} {I : Nat} {o : Obj} {n : String} {t : Expr} {v : Value} {K : Unit → Shared → Prop} {E' : Value → Shared → Prop} (ho : s.heap.get? I = some o) (hc : o.cls = .type n)
    (hn : ["enumerate", "zip", "dict_itemiterator", "dict_reverseitemiterator", "odict_iterator", "itertools.zip_longest", "itertools.pairwise"].contains n = false) (h : K () s) : wpAny (model prog w) A (letOwnedTupleGo t (.ref I) v) K E' s := by
  have main : wpAny (model prog w) A (do
      let (.ref r, .ref a) := (Value.ref I, v) | return
      let o ← load r
      match o.cls, o.data with
      | .type n, .fields vs =>
        if ["enumerate", "zip", "dict_itemiterator", "dict_reverseitemiterator", "odict_iterator", "itertools.zip_longest", "itertools.pairwise"].contains n && vs[0]? == some (rawInt a) then
          rule "for.unpacks-the-owned-tuple"
          updateField r 0 .none
      | _, _ => pure () : Sem Unit) K E' s := by
    cases v with
    | ref a =>
      refine wpAny_bind (wpAny_load ho ?_)
      rw [hc]
      cases hd : o.data with
      | fields vs =>
        dsimp only
        rw [hn, Bool.false_and, if_neg (by decide)]
        exact wpAny_pure h
      | _ => exact wpAny_pure h
    | _ => exact wpAny_pure h
  unfold letOwnedTupleGo
  split
  · exact main
  · exact main
  · exact wpAny_pure h
theorem sameBut_chg {s : Shared} {I : Nat} {h' : Heap} {tk : Nat} (x : ∀ b o, b ≠ I → s.heap.get? b = some o → h'.get? b = some o) (hi : ∀ o, s.heap.get? I = some o → ¬ Imm o) : Chg [I] s { s with heap := h', toks := tk } :=
  ⟨rfl, rfl, .of_ext x hi, fun b o hb e => x b o (fun q => hb (q ▸ List.mem_singleton.mpr rfl)) e⟩
theorem not_imm {h : Heap} {a : Nat} {o : Obj} {n : String} {vs : Array Value} (ho : h.get? a = some o) (hc : o.cls = .type n) (hd : o.data = .fields vs) (hn : n ≠ "range") : ∀ q, h.get? a = some q → ¬ Imm q := fun q hq => by
  rw [ho] at hq; cases hq
  rintro (⟨⟨xs, k, z⟩, _⟩ | ⟨z, _⟩)
  · rw [hd] at z; cases z
  · rw [hc] at z; cases z; exact hn rfl
theorem iter_range {a : Int} {n : Nat} {I : Nat} : Iter prog w KF I [I] ((List.range n).map fun i => V.int (a + (i : Nat))) (fun _ => True) (fun i _ h => IsRangeIter h I (a + (i : Nat)) ((n : Int) - (i : Nat)) 1) where
  frame := fun i ρ h ρ' h' st _ _ k => k I (.head _) _ st
  live := fun i ρ h st b hb => by rw [List.mem_singleton.mp hb]; exact ⟨_, st⟩
  lot := fun A i ρ s t v E' st => lot_plain st rfl (by decide) ⟨st, .refl⟩
  item := fun A F ρ H s i x E' hh S _ st hx => by
    have hi : i < n := by have := (List.getElem?_eq_some_iff.mp hx).1; simpa using this
    have hx' : x = V.int (a + (i : Nat)) := by rw [List.getElem?_map, List.getElem?_range hi] at hx; exact (Option.some.inj hx).symm
    refine wpAny_pyNext_range_item st (by omega) fun h' hit' hs' => ⟨_, rfl, ?_, ?_, sameBut_chg (fun b o hb e => hs'.extBut b o hb e) (not_imm st rfl rfl (by decide))⟩
    · rw [hx']; unfold VR; exact ⟨_, rfl⟩
    · have e1 : a + ((i + 1 : Nat) : Int) = a + (i : Nat) + 1 := by omega
      have e2 : (n : Int) - ((i + 1 : Nat) : Int) = (n : Int) - (i : Nat) - 1 := by omega
      show IsRangeIter h' I (a + ((i + 1 : Nat) : Int)) ((n : Int) - ((i + 1 : Nat) : Int)) 1
      rw [e1, e2]; exact hit'
  done := fun A F ρ H s E' hh S _ st => by
    rw [List.length_map, List.length_range] at st
    exact wpAny_pyNext_range_end hh st (by omega) fun h' he' => ⟨rfl, sameBut_chg (fun b o hb e => he' b o hb e) (not_imm st rfl rfl (by decide))⟩
  self := fun A i ρ s K E' st hK => wpAny_pyIter_rangeiter st hK
/-- a small range -/
theorem rng_small {a b : Int} (ha : -(2 ^ 61) ≤ a ∧ a < 2 ^ 61) (hb : -(2 ^ 61) ≤ b ∧ b < 2 ^ 61) : Builtin.Range.small a b 1 = true ∧ Builtin.Range.rangeSize a b 1 = (((b - a).toNat : Nat) : Int) := by
  have e : Builtin.Range.rangeSize a b 1 = (((b - a).toNat : Nat) : Int) := by
    rw [rangeSize_one]
    split <;> omega
  refine ⟨?_, e⟩
  unfold Builtin.Range.small
  rw [e]
  unfold Builtin.Range.rangeFitsLong
  simp
  omega
theorem iw_range {a b : Int} (ha : -(2 ^ 61) ≤ a ∧ a < 2 ^ 61) (hb : -(2 ^ 61) ≤ b ∧ b < 2 ^ 61) : IterW prog w KF d E H (.rng a b) ((List.range (b - a).toNat).map fun i => V.int (a + (i : Nat))) (fun _ => True) := fun A F ρ s u hA S r => by
  unfold VR at r
  obtain ⟨r, rfl, t, u, k, hr⟩ := r
  obtain ⟨hs, hn⟩ := rng_small ha hb
  refine wpAny_pyIter_range hr hs ⟨_, [_], _, rfl, iter_range (a := a) (n := (b - a).toNat), ?_, fun _ _ e => Heap.get?_push_of_some _ e, rfl, rfl, fun b hb => by rw [List.mem_singleton.mp hb]; exact get_size _⟩
  rw [hn]
  show IsRangeIter _ _ (a + ((0 : Nat) : Int)) (((b - a).toNat : Int) - ((0 : Nat) : Int)) 1
  rw [show a + ((0 : Nat) : Int) = a by omega, show (((b - a).toNat : Int) - ((0 : Nat) : Int)) = ((b - a).toNat : Int) by omega]
  exact Heap.get?_push_size _ rfl
end
end Mine
end
section
open PySem PySem.W PyProof.Rows PySem.W.X
namespace Mine
/-- what a comprehension's scope must be -/
structure CompOk (sc' : Scope) (fi : FI) : Prop where
  nd : (sc'.names.map (·.1)).Nodup
  nc : ∀ x ∈ sc'.names, x.2 ≠ .cell
  kd : sc'.kind = .function
  fr' : ∀ p ∈ sc'.names, p.2 = .free → fi.sc.names.lookup p.1 = some .cell ∨ fi.sc.names.lookup p.1 = some .free
theorem nodup_lookup {α : Type} : ∀ {l : List (Str × α)} {x : Str} {k : α}, (l.map (·.1)).Nodup → (x, k) ∈ l → l.lookup x = some k
  | [], _, _, _, h => nomatch h
  | (y, j) :: l, x, k, nd, h => by
    rw [List.map_cons, List.nodup_cons] at nd
    rw [List.lookup_cons]
    rcases List.mem_cons.mp h with q | q
    · cases q; rw [beq_self_eq_true]
    · have : (x == y) = false := by
        cases e : (x == y) with
        | false => rfl
        | true => exact absurd (List.mem_map.mpr ⟨_, q, by simpa using e⟩) nd.1
      rw [this]; exact nodup_lookup nd.2 q
section
variable {prog : Program} {w : World} {KF : Frag} {fi : FI} {d : Nat} {E : EP} {m : Names} {H : List O}
variable {env : Env} {F : Base} {ρ : List Ent} {h : Heap} {gs : Array GenState}
end
section
variable (prog : Program) (w : World) (KF : Frag) (fi : FI) (d : Nat) (E : EP)
end
end Mine
end
section
open PySem PySem.W PyProof.Rows PySem.W.X
namespace Mine
theorem se_no {w : World} {KF : Frag} {fi : FI} {E : EP} {env : Env} {F : Base} {ρ : List Ent} {s : Shared} {e : Value} {s' : Shared} (x : SE w KF fi env F ρ s E e s') : False := let ⟨_, _, _, _, _, _, x, _⟩ := x; x
theorem plain_upd {h : Heap} {l : Nat} {items : Array Value} (f : Array Value → Array Value) (x : h.PlainList l items) : (h.update l (Obj.mapSeq f)).PlainList l (f items) := by
  obtain ⟨n, e⟩ := x
  exact ⟨_, Heap.get?_update_self _ e rfl⟩
theorem app_plain {prog : Program} {w : World} {A : Around} {E : Value → Shared → Prop} {s : Shared} {l : Nat} {its : Array Value} {x : Value} {Q : Value → Shared → Prop} (hl : s.heap.PlainList l its)
    (hQ : ∀ h', h'.PlainList l (its.push x) → Heap.SameBut l s.heap h' → Q .none { s with heap := h' }) (hsz : its.size ≤ sizeLine) : wpAny (model prog w) A (call (.builtin "list.append") [.ref l, x]) Q E s := by
  obtain ⟨n, ho⟩ := id hl
  refine wpAny_call_entry slot_list_append hl.isList.typeIs entry_list_append ?_ (args_list_append _ _)
  show wpAny _ _ (updateSeq l (·.push x) >>= fun _ => ret .none) _ _ s
  refine wpAny_bind ?_
  exact wpAny_updateSeq ho rfl (wpAny_pure ⟨.none, rfl, hQ _ (plain_upd _ hl) (Heap.SameBut.update ..)⟩) (hz := hsz)
section
variable {prog : Program} {w : World} {KF : Frag} {fi : FI} {d : Nat} {E : EP} {m : Names} {H : List O}
end
end Mine
end
section
open PySem PySem.W PyProof.Rows PySem.W.X
namespace Mine
theorem Room.deeper {A : Around} {d : Nat} {F : Base} {env : Env} (h : Room A (d + 1) F.fr) (he : env.frame = some env.locals) : Room (A.deeper env) d (frOf env F) := ⟨by unfold frOf; rw [if_pos he]; show A.frames.map (env :: ·) = _; rw [h.fr]; rfl, h.hd, by have := h.dp; show A.depth + 1 + 4 * d < recursionLimit; omega, by have := h.un; show A.units + 3 + 40 * d + 200 < cLine; omega⟩
theorem Room.depth {A : Around} {d : Nat} {l : List Env} (h : Room A d l) : A.depth < recursionLimit := by have := h.dp; omega
/-- a function's data -/
noncomputable def fdOf (o : Obj) : FuncData := match o.data with | .func f => f | _ => default
/-- a function of the text's, at its place -/
structure FnB (KF : Frag) (a : Nat) (o : Obj) (fd : FuncData) (body : List Stmt) (sc : Scope) (ps : List Str) : Prop where
  hsc : fd.scope = sc
  hK : KF.lookup a = some o
  hd : o.data = .func fd
  hb : fd.body = .stmts body
  hg : fd.globals = mainGlobals
  hbl : fd.builtins = builtinsNs
  hcl : fd.closure = []
  hcd : ∃ c oc vs t, fd.code = .ref c ∧ KF.lookup c = some oc ∧ oc.data = .fields vs ∧ vs[1]? = some (.str fd.qualname t)
  hps : ps.Nodup
  hnd : (sc.names.map (·.1)).Nodup
  hkd : ∀ p ∈ ps, sc.names.lookup p = some .local ∨ sc.names.lookup p = some .cell
  hco : sc.isCoroutine = false
  hk : sc.kind = .function
  hnf : ∀ p ∈ sc.names, p.2 ≠ .free
/-- and without defaults -/
structure FnOk (KF : Frag) (a : Nat) (o : Obj) (fd : FuncData) (body : List Stmt) (sc : Scope) (ps : List Str) : Prop extends FnB KF a o fd body sc ps where
  hbd : ∀ us : List Value, us.length = ps.length → bindArgs fd ⟨us, []⟩ = pure (ps.zip us)
noncomputable abbrev nv (x : String) (v : V) : Str × Option V := (Str.ofString x, some v)
noncomputable abbrev nn (x : String) : Str × Option V := (Str.ofString x, none)
noncomputable def initN (sc : Scope) (ps : List Str) (xs : List V) : Names := (sc.names.filter fun x => x.2 == .local || x.2 == .cell).map fun x => (x.1, (ps.zip xs).lookup x.1)
theorem initN_get {sc : Scope} {ps : List Str} {xs : List V} {x : Str} {v : V} (h : getL (initN sc ps xs) x = some v) : (x, v) ∈ ps.zip xs := by
  unfold getL initN at h
  have : ∀ l : List (Str × NameKind), ((l.map fun y => (y.1, (ps.zip xs).lookup y.1)).lookup x).join = some v → (ps.zip xs).lookup x = some v := by
    intro l
    induction l with
    | nil => intro h; cases h
    | cons p l ih =>
      intro h
      rw [List.map_cons, List.lookup_cons] at h
      cases e : (x == p.1) with
      | true =>
        rw [e] at h
        have : x = p.1 := by simpa using e
        rw [this]; exact h
      | false => rw [e] at h; exact ih h
  exact mem_of_lookup (this _ h)
theorem zip_rel {ρ : List Ent} {h : Heap} : ∀ {ps : List Str} {xs : List V} {us : List Value} {x : Str} {v : V}, VRs ρ h xs us → (x, v) ∈ ps.zip xs → ∃ u, (x, u) ∈ ps.zip us ∧ VR ρ h v u
  | [], _, _, _, _, _, hm => nomatch hm
  | p :: ps, [], _, _, _, _, hm => nomatch hm
  | p :: ps, y :: xs, us, x, v, r, hm => by
    obtain ⟨u, q, rfl, a, b⟩ := r.cons_eq
    rw [List.zip_cons_cons] at hm
    rcases List.mem_cons.mp hm with e | hm
    · cases e; exact ⟨u, .head _, a⟩
    · obtain ⟨u', h1, h2⟩ := zip_rel b hm
      exact ⟨u', .tail _ h1, h2⟩
theorem zip_keys {α : Type} : ∀ {ps : List Str} {us : List α}, us.length = ps.length → (ps.zip us).map (·.1) = ps
  | [], _, _ => by simp
  | p :: ps, [], h => by simp at h
  | p :: ps, u :: us, h => by rw [List.zip_cons_cons, List.map_cons, zip_keys (Nat.succ.inj h)]
theorem bindL_mem {kindOf : Str → Option NameKind} : ∀ {binds : List (Str × Value)} {m : Str → Option Value} {x : Str} {u : Value}, (binds.map (·.1)).Nodup → kindOf x = some .local → ((x, u) ∈ binds → bindL kindOf binds m x = some u) ∧ (x ∉ binds.map (·.1) → bindL kindOf binds m x = m x)
  | [], m, x, u, _, _ => ⟨fun h => (nomatch h), fun _ => rfl⟩
  | (n, v) :: r, m, x, u, nd, hk => by
    rw [List.map_cons, List.nodup_cons] at nd
    unfold bindL
    obtain ⟨i1, i2⟩ := bindL_mem (binds := r) (m := if kindOf n = some .local then fun y => if y = n then some v else m y else m) (x := x) (u := u) nd.2 hk
    refine ⟨fun h => ?_, fun h => ?_⟩
    · rcases List.mem_cons.mp h with e | h
      · cases e
        rw [i2 nd.1, if_pos hk]
        exact if_pos rfl
      · exact i1 h
    · rw [List.map_cons, List.mem_cons, not_or] at h
      rw [i2 h.2]
      split
      · exact if_neg h.1
      · rfl
theorem bindC_mem {kindOf : Str → Option NameKind} : ∀ {binds : List (Str × Value)} {m : Str → Option Value} {x : Str} {u : Value}, (binds.map (·.1)).Nodup → kindOf x ≠ some .local → ((x, u) ∈ binds → bindC kindOf binds m x = some u) ∧ (x ∉ binds.map (·.1) → bindC kindOf binds m x = m x)
  | [], m, x, u, _, _ => ⟨fun h => (nomatch h), fun _ => rfl⟩
  | (n, v) :: r, m, x, u, nd, hk => by
    rw [List.map_cons, List.nodup_cons] at nd
    unfold bindC
    obtain ⟨i1, i2⟩ := bindC_mem (binds := r) (m := if kindOf n = some .local then m else fun y => if y = n then some v else m y) (x := x) (u := u) nd.2 hk
    refine ⟨fun h => ?_, fun h => ?_⟩
    · rcases List.mem_cons.mp h with e | h
      · cases e
        rw [i2 nd.1, if_neg hk]
        exact if_pos rfl
      · exact i1 h
    · rw [List.map_cons, List.mem_cons, not_or] at h
      rw [i2 h.2]
      split
      · rfl
      · exact if_neg h.1
theorem cellsFrom_mem : ∀ {names : List (Str × NameKind)} {n : Nat} {acc : List (Str × Nat)} {x : Str} {c : Nat}, (x, c) ∈ cellsFrom n names acc → (x, c) ∈ acc ∨ (x, NameKind.cell) ∈ names
  | [], _, _, _, _, h => .inl h
  | (y, k) :: r, n, acc, x, c, h => by
    unfold cellsFrom at h
    split at h
    · rename_i hk
      have hk : k = .cell := by simpa using hk
      subst hk
      rcases cellsFrom_mem h with h | h
      · rcases List.mem_cons.mp h with e | h
        · cases e; exact .inr (.head _)
        · exact .inl h
      · exact .inr (.tail _ h)
    · rcases cellsFrom_mem h with h | h
      · exact .inl h
      · exact .inr (.tail _ h)
theorem cellsFrom_keys : ∀ {names : List (Str × NameKind)} {n : Nat} {acc : List (Str × Nat)}, (cellsFrom n names acc).map (·.1) = ((names.filter fun x => x.2 == .cell).map (·.1)).reverse ++ acc.map (·.1)
  | [], _, _ => rfl
  | (y, k) :: r, n, acc => by
    unfold cellsFrom
    split
    · rename_i hk
      have hk : k = .cell := by simpa using hk
      subst hk
      rw [cellsFrom_keys]
      simp
    · rename_i hk
      rw [cellsFrom_keys]
      have : (k == NameKind.cell) = false := by simpa using hk
      simp [List.filter_cons, this]
theorem cells_nodup {names : List (Str × NameKind)} {n : Nat} (nd : (names.map (·.1)).Nodup) : ((cellsFrom n names []).map (·.1)).Nodup := by
  rw [cellsFrom_keys, List.map_nil, List.append_nil]
  refine (List.reverse_perm _).nodup_iff.mpr ?_
  have : (names.filter fun x => x.2 == .cell).Pairwise fun a b => a.1 ≠ b.1 := (List.pairwise_map.mp nd).filter _
  exact List.pairwise_map.mpr this
theorem cells_has {names : List (Str × NameKind)} {n : Nat} {x : Str} (h : (x, NameKind.cell) ∈ names) : ∃ c, (x, c) ∈ cellsFrom n names [] := by
  have : x ∈ (cellsFrom n names []).map (·.1) := by
    rw [cellsFrom_keys, List.map_nil, List.append_nil, List.mem_reverse]
    exact List.mem_map.mpr ⟨_, List.mem_filter.mpr ⟨h, rfl⟩, rfl⟩
  obtain ⟨⟨y, c⟩, hm, rfl⟩ := List.mem_map.mp this
  exact ⟨c, hm⟩
section
variable {prog : Program} {w : World} {KF : Frag} {d : Nat} {E : HEP} {H : List O} {a : Nat} {o : Obj} {fd : FuncData} {body : List Stmt} {sc : Scope} {ps : List Str} {xs : List V}
/-- a function's frame, right behind its entry -/
theorem enter_sim {F : Base} {ρ : List Ent} {s s₁ : Shared} {us : List Value} (K : FnB KF a o fd body sc ps) (hlen : xs.length = ps.length) (S : HSim w KF F ρ H s.heap s.gens) (r : VRs ρ s.heap xs us)
    (X : InCallC s (callEnvC fd s.heap.objs.size a).locals (bindL (callEnvC fd s.heap.objs.size a).kindOf (ps.zip us) fun _ => none) (callEnvC fd s.heap.objs.size a).cells (bindC (callEnvC fd s.heap.objs.size a).kindOf (ps.zip us) fun _ => none) s₁) :
    Step ρ s ρ s₁ ∧ Sim w KF ⟨sc, true, fd.code⟩ (callEnvC fd s.heap.objs.size a) (initN sc ps xs) F ρ H s₁.heap s₁.gens := by
  have hsc := K.hsc
  subst hsc
  obtain ⟨h₁, tk, rfl, hk⟩ := X.done
  have hul : us.length = ps.length := r.len.trans hlen
  have hkeys : ((ps.zip us).map (·.1)).Nodup := by rw [zip_keys hul]; exact K.hps
  have hkind : ∀ x, (callEnvC fd s.heap.objs.size a).kindOf x = fd.scope.names.lookup x := fun _ => rfl
  have dead : ∀ b, s.heap.objs.size ≤ b → s.heap.get? b = none := fun b hb => by
    cases e : s.heap.get? b with
    | none => rfl
    | some o => exact absurd (Heap.lt_size e) (Nat.not_lt.mpr hb)
  have hL : (callEnvC fd s.heap.objs.size a).locals = s.heap.objs.size := rfl
  have cells_eq : (callEnvC fd s.heap.objs.size a).cells = cellsFrom (s.heap.objs.size + 1) fd.scope.names [] := rfl
  have cu : ∀ x c, (x, c) ∈ (callEnvC fd s.heap.objs.size a).cells → (callEnvC fd s.heap.objs.size a).cells.lookup x = some c := fun x c hc => nodup_lookup (cells_nodup K.hnd) hc
  have kc : ∀ x c, (x, c) ∈ (callEnvC fd s.heap.objs.size a).cells → fd.scope.names.lookup x = some .cell := fun x c hc => by
    rcases cellsFrom_mem (show (x, c) ∈ cellsFrom (s.heap.objs.size + 1) fd.scope.names [] from hc) with h | h
    · cases h
    · exact nodup_lookup K.hnd h
  have hs₁ : HSim w KF F ρ H h₁ s.gens := S.keeps hk
  have tk₁ : TK s.heap h₁ := .of_keep hk
  refine ⟨.same tk₁ rfl, hs₁, rfl, K.hg, K.hbl, rfl, K.hk, .inl rfl, fun b hb => ?_, ?_, fun x c hc => ?_, fun x hx => ?_, fun x hx => ?_, fun x c hc => ⟨cu x c hc, Nat.ne_of_gt (X.above x c hc)⟩, X.apart, fun q => by cases q⟩
  · have hge : s.heap.objs.size ≤ b := by
      unfold ownA at hb
      rw [if_pos rfl] at hb
      rcases List.mem_cons.mp hb with e | hb
      · rw [e]; exact Nat.le_refl _
      · obtain ⟨⟨x, c⟩, hm, rfl⟩ := List.mem_map.mp hb
        exact Nat.le_of_lt (X.above x c hm)
    refine ⟨?_, fun q => ?_⟩
    · cases q : F.f b with
      | none => rfl
      | some o => obtain ⟨o', e', _⟩ := S.keep _ _ q; rw [dead b hge] at e'; cases e'
    · obtain ⟨o, ho⟩ := S.live b q; rw [dead b hge] at ho; cases ho
  · refine ⟨_, X.toInCall.ns, fun x hx => ?_⟩
    cases q : getL (initN fd.scope ps xs) x with
    | none => trivial
    | some v =>
      obtain ⟨u, hm, hv⟩ := zip_rel r (initN_get q)
      rw [(bindL_mem hkeys ((hkind x).trans hx)).1 hm]
      exact hv.mono (List.prefix_refl _) tk₁
  · refine ⟨_, X.cell x c hc, ?_⟩
    cases q : getL (initN fd.scope ps xs) x with
    | none => trivial
    | some v =>
      obtain ⟨u, hm, hv⟩ := zip_rel r (initN_get q)
      rw [(bindC_mem hkeys (by rw [hkind, kc x c (mem_of_lookup hc)]; decide)).1 hm]
      exact hv.mono (List.prefix_refl _) tk₁
  · rcases hx with hx | hx
    · obtain ⟨c, hc⟩ := cells_has (n := s.heap.objs.size + 1) (mem_of_lookup hx)
      exact ⟨c, cu x c hc⟩
    · exact absurd rfl (K.hnf _ (mem_of_lookup hx))
  · cases q : (callEnvC fd s.heap.objs.size a).cells.lookup x with
    | none => rfl
    | some c => have := kc x c (mem_of_lookup q); rw [this] at hx; cases hx
theorem fn_code (K : FnB KF a o fd body sc ps) {h : Heap} (B : Bs w KF h) : h.get? a = some o ∧ h.CodeRec fd.code fd.qualname := by
  obtain ⟨c, oc, vs, t, h1, h2, h3, h4⟩ := K.hcd
  exact ⟨B.k _ _ K.hK, c, oc, vs, t, h1, B.k _ _ h2, h3, h4⟩
/-- a plain function called, its defaults filled in -/
theorem call_fnD {dv : List Value} {ds : List V} {Q : V → List O → Prop} (K : FnB KF a o fd body sc ps) (hgen : sc.isGenerator = false) (hlen : (xs ++ ds).length = ps.length) (hdv : ∀ ρ h, VRs ρ h ds dv)
    (hb : ∀ (s : Shared) (us : List Value), Bs w KF s.heap → us.length = xs.length → BindsTo s fd ⟨us, []⟩ (ps.zip (us ++ dv)))
    (h : WB prog w KF ⟨sc, true, fd.code⟩ d (fun _ _ _ => False) (initN sc ps (xs ++ ds)) H body fun f m' H' => match f with | .ret v => Q v H' | .next => Q .none H' | _ => False) : CallW prog w KF (d + 1) E H (.st a) xs Q :=
  fun A F ρ s u us hA S ru r => by
    have hsc := K.hsc
    subst hsc
    unfold VR at ru
    subst ru
    have B := S.b
    obtain ⟨ho, hcd⟩ := fn_code K B
    have r' : VRs ρ s.heap (xs ++ ds) (us ++ dv) := r.append (hdv _ _)
    have hul : (us ++ dv).length = ps.length := r'.len.trans hlen
    refine wpAny_call (codeAny_call_function hA.depth ho K.hd K.hco hgen K.hb hcd (hb s us B r.len _ _ _ _ ?_))
    rw [K.hcl]
    refine wpAny_newFunctionEnv_cells K.hk (fun x hx => ?_) fun env he s₁ X => ?_
    · have hx1 : x.1 ∈ ps := by rw [← zip_keys hul]; exact List.mem_map.mpr ⟨x, hx, rfl⟩
      rcases K.hkd x.1 hx1 with q | q
      · exact .inl q
      · obtain ⟨c, hc⟩ := cells_has (n := s.heap.objs.size + 1) (mem_of_lookup q)
        exact .inr ⟨q, by rw [nodup_lookup (cells_nodup K.hnd) hc]; rfl⟩
    · subst he
      obtain ⟨st₁, S₁⟩ := enter_sim K hlen S r' X
      refine ⟨S₁.b.lim, codeAny_func ?_⟩
      refine wpAny_mono (h _ _ F ρ s₁ (hA.deeper rfl) S₁) (fun f s₂ hx => ?_) (fun _ _ x => (se_no x).elim)
      obtain ⟨ρ₂, H₂, m₂, fl, st₂, S₂, rf, h₂⟩ := hx
      cases fl with
      | next => cases rf; exact ⟨ρ₂, H₂, .none, st₁.trans st₂, S₂.hs, by unfold VR; rfl, h₂⟩
      | ret v => obtain ⟨u, rfl, r⟩ := rf; exact ⟨ρ₂, H₂, v, st₁.trans st₂, S₂.hs, r, h₂⟩
      | brk => exact h₂.elim
      | cont => exact h₂.elim
/-- a plain function called -/
theorem call_fn {Q : V → List O → Prop} (K : FnOk KF a o fd body sc ps) (hgen : sc.isGenerator = false) (hlen : xs.length = ps.length)
    (h : WB prog w KF ⟨sc, true, fd.code⟩ d (fun _ _ _ => False) (initN sc ps xs) H body fun f m' H' => match f with | .ret v => Q v H' | .next => Q .none H' | _ => False) : CallW prog w KF (d + 1) E H (.st a) xs Q :=
  fun A F ρ s u us hA S ru r => by
    have hsc := K.hsc
    subst hsc
    unfold VR at ru
    subst ru
    have B := S.b
    obtain ⟨ho, hcd⟩ := fn_code K.toFnB B
    have hul : us.length = ps.length := r.len.trans hlen
    refine wpAny_call (codeAny_call_cells (binds := ps.zip us) hA.depth ho K.hd B.lim hcd K.hb (K.hbd us hul) K.hcl (fun x hx => ?_) (fun s₁ X => ?_) K.hco hgen K.hk)
    · have hx1 : x.1 ∈ ps := by rw [← zip_keys hul]; exact List.mem_map.mpr ⟨x, hx, rfl⟩
      rcases K.hkd x.1 hx1 with q | q
      · exact .inl q
      · obtain ⟨c, hc⟩ := cells_has (n := s.heap.objs.size + 1) (mem_of_lookup q)
        exact .inr ⟨q, by rw [nodup_lookup (cells_nodup K.hnd) hc]; rfl⟩
    · obtain ⟨st₁, S₁⟩ := enter_sim K.toFnB hlen S r X
      refine wpAny_mono (h _ _ F ρ s₁ (hA.deeper rfl) S₁) (fun f s₂ hx => ?_) (fun _ _ x => (se_no x).elim)
      obtain ⟨ρ₂, H₂, m₂, fl, st₂, S₂, rf, h₂⟩ := hx
      cases fl with
      | next => cases rf; exact ⟨ρ₂, H₂, .none, st₁.trans st₂, S₂.hs, by unfold VR; rfl, h₂⟩
      | ret v => obtain ⟨u, rfl, r⟩ := rf; exact ⟨ρ₂, H₂, v, st₁.trans st₂, S₂.hs, r, h₂⟩
      | brk => exact h₂.elim
      | cont => exact h₂.elim
end
section
variable {prog : Program} {w : World} {KF : Frag} {fi : FI} {d : Nat} {E : EP} {m : Names} {H : List O}
/-- arguments, evaluated -/
theorem args_run {es : List Expr} {pos : Pos} {Q : List V → List O → Prop} {f : Value} (h : WEs prog w KF fi d E m H es Q) {A : Around} {env : Env} {F : Base} {ρ : List Ent} {s : Shared} (hA : Room A d (frOf env F)) (S : Sim w KF fi env m F ρ H s.heap s.gens) :
    wpAny (model prog w) A (evalArgs f true (backTo pos (es.map fun e => (false, eval e env))) []) (fun x s' => x.kw = [] ∧ SQ w KF VRs fi env m F ρ s Q x.pos s') (SE w KF fi env F ρ s E) s := by
  cases es with
  | nil => exact PyProof.Rows.evalArgs_none ⟨rfl, ρ, H, [], .refl, S, .nil, h⟩
  | cons e es => exact Calls.evalArgs_plain (wpAny_mono (wes_run h A env F ρ s hA S) (fun us s' q => ⟨rfl, q⟩) fun _ _ x => x)
theorem wes_nil {Q : List V → List O → Prop} (h : Q [] H) : WEs prog w KF fi d E m H [] Q := h
noncomputable def Callee (KF : Frag) : V → Prop
  | .bi _ => True
  | .ty _ => True
  | .st a => keepIn KF (.ref a) = true
  | _ => False
theorem plain_any {es : List Expr} {pos : Pos} {env : Env} : (backTo pos (es.map fun e => (false, eval e env))).any (·.1) = false := by
  unfold backTo
  rw [List.map_map]
  induction es with
  | nil => rfl
  | cons e es ih => rw [List.map_cons, List.any_cons, ih]; rfl
theorem callWith_run {es : List Expr} {pos : Pos} {f : V} {first : List V} {Q : V → List O → Prop} (hf : Callee KF f) (h : WEs prog w KF fi d E m H es fun vs H₂ => CallW prog w KF d (Em E m) H₂ f (first ++ vs) Q) {A : Around} {env : Env} {F : Base} {ρ : List Ent} {s : Shared} {u : Value} {us : List Value} (hA : Room A d (frOf env F)) (S : Sim w KF fi env m F ρ H s.heap s.gens) (ru : VR ρ s.heap f u) (rus : VRs ρ s.heap first us) :
    wpAny (model prog w) A (callWith pos u us (backTo pos (es.map fun e => (false, eval e env))) []) (SQ w KF VR fi env m F ρ s Q) (SE w KF fi env F ρ s E) s := by
  have key : ∀ (x : Args) (s₁ : Shared), (x.kw = [] ∧ SQ w KF VRs fi env m F ρ s (fun vs H₂ => CallW prog w KF d (Em E m) H₂ f (first ++ vs) Q) x.pos s₁) → wpAny (model prog w) A (call u (us ++ x.pos) x.kw) (SQ w KF VR fi env m F ρ s Q) (SE w KF fi env F ρ s E) s₁ := by
    rintro x s₁ ⟨hkw, ρ₁, H₁, vs, st₁, S₁, rv, h₁⟩
    rw [hkw]
    exact onto st₁ (lift S₁ fun F' q T => h₁ A F' ρ₁ s₁ u _ (q ▸ hA) T (ru.mono st₁.1 st₁.2.1) ((rus.mono st₁.1 st₁.2.1).append rv)) fun _ _ x => x.step st₁
  cases f with
  | bi id =>
    unfold VR at ru; subst ru
    exact Calls.callWith_builtin plain_any (wpAny_mono (args_run h hA S) key fun _ _ x => x)
  | ty id =>
    unfold VR at ru; subst ru
    exact PySem.callWith_type plain_any (wpAny_mono (args_run h hA S) key fun _ _ x => x)
  | st a =>
    unfold VR at ru; subst ru
    refine callWith_of (by rw [plain_any]; rfl) (keeps_K (K := KF) hf) (wpAny_mono (args_run h hA S) (fun x s₁ hx => ⟨?_, key x s₁ hx⟩) fun _ _ x => x)
    obtain ⟨_, ρ₁, H₁, vs, st₁, S₁, _⟩ := hx
    exact S₁.b.k
  | _ => exact hf.elim
theorem we_call {func : Expr} {args : List Expr} {pos : Pos} {Q : V → List O → Prop} (h : WE prog w KF fi d E m H func fun f H₁ => Callee KF f ∧ WEs prog w KF fi d E m H₁ args fun vs H₂ => CallW prog w KF d (Em E m) H₂ f vs Q)
    (hp : Plain args := by intro _; rfl) (he : ∀ env, eval (.Call func args [] pos) env = (do callWith pos (← eval func env) [] (backTo pos (starEach args env)) (backToKw pos (keywordEach [] env))) := by intro _; rfl) : WE prog w KF fi d E m H (.Call func args [] pos) Q :=
  fun A env F ρ s hA S => by
    refine Call_ (wpAny_mono (h A env F ρ s hA S) (fun u s₁ hx => ?_) fun _ _ x => x) (he env)
    obtain ⟨ρ₁, H₁, f, st₁, S₁, ru, hf, h₁⟩ := hx
    rw [hp env]
    exact onto st₁ (callWith_run (first := []) hf h₁ hA S₁ ru .nil) fun _ _ x => x.step st₁
/-- a method's function -/
noncomputable def MethIs (prog : Program) (w : World) (KF : Frag) (H : List O) (x : V) (name : Str) (f : V) : Prop :=
  ∀ A F ρ (s : Shared) u (pl : Sem Bool) (K : Value × List Value → Shared → Prop) (E' : Value → Shared → Prop), HSim w KF F ρ H s.heap s.gens → VR ρ s.heap x u → (∀ fu, VR ρ s.heap f fu → K (fu, [u]) s) → wpAny (model prog w) A (getMethod u name pl) K E' s
theorem we_meth {o : Expr} {name : Str} {apos pos : Pos} {args : List Expr} {pl : Env → Sem Bool} {Q : V → List O → Prop} (h : WE prog w KF fi d E m H o fun x H₁ => ∃ f, MethIs prog w KF H₁ x name f ∧ Callee KF f ∧ WEs prog w KF fi d E m H₁ args fun vs H₂ => CallW prog w KF d (Em E m) H₂ f (x :: vs) Q)
    (hp : Plain args := by intro _; rfl) (he : ∀ env, eval (.Call (.Attribute o name apos) args [] pos) env = (do
      let ov ← eval o env
      standAt apos.atName
      let (f, first) ← holding [ov] (getMethod ov name (pl env))
      callWith pos f first (backTo pos (starEach args env)) []) := by intro _; rfl) : WE prog w KF fi d E m H (.Call (.Attribute o name apos) args [] pos) Q :=
  fun A env F ρ s hA S => by
    refine MethodCall_ (pl := pl env) (wpAny_mono (h A env F ρ s hA S) (fun u s₁ hx => ?_) fun _ _ x => x) (he env)
    obtain ⟨ρ₁, H₁, x, st₁, S₁, ru, f, hm, hf, h₁⟩ := hx
    refine hm A _ ρ₁ s₁ u _ _ _ S₁.toH ru fun fu rf => ?_
    rw [hp env]
    exact onto st₁ (callWith_run (first := [x]) hf h₁ hA S₁ rf (.cons ru .nil)) fun _ _ x => x.step st₁
end
end Mine
end
section
open PySem PySem.W PyProof.Rows PySem.W.X
namespace Mine
section
variable {prog : Program} {w : World} {KF : Frag} {d : Nat} {E : HEP} {H : List O} {Q : V → List O → Prop}
theorem hq_same {α β : Type} {R : List Ent → Heap → β → α → Prop} {F : Base} {ρ : List Ent} {s : Shared} {Q : β → List O → Prop} {v : α} {b : β} {tk : Nat} (S : HSim w KF F ρ H s.heap s.gens) (r : R ρ s.heap b v) (h : Q b H) : HQ w KF R F ρ s Q v { s with toks := tk } := ⟨ρ, H, b, .same (.refl _) rfl, S, r, h⟩
theorem hq_refl {α β : Type} {R : List Ent → Heap → β → α → Prop} {F : Base} {ρ : List Ent} {s : Shared} {Q : β → List O → Prop} {v : α} {b : β} (S : HSim w KF F ρ H s.heap s.gens) (r : R ρ s.heap b v) (h : Q b H) : HQ w KF R F ρ s Q v s := ⟨ρ, H, b, .refl, S, r, h⟩
theorem hq_keep {α β : Type} {R : List Ent → Heap → β → α → Prop} {F : Base} {ρ : List Ent} {s : Shared} {Q : β → List O → Prop} {v : α} {b : β} {h' : Heap} {tk : Nat} (S : HSim w KF F ρ H s.heap s.gens) (k : Keep s.heap h') (r : R ρ h' b v) (h : Q b H) : HQ w KF R F ρ s Q v { s with heap := h', toks := tk } := ⟨ρ, H, b, .same (.of_keep k) rfl, S.keeps k, r, h⟩
theorem vr_int {ρ : List Ent} {h : Heap} {i : Int} {t : Tok} : VR ρ h (.int i) (.int i t) := by unfold VR; exact ⟨t, rfl⟩
theorem vr_str {ρ : List Ent} {h : Heap} {x : Str} {t : Tok} : VR ρ h (.str x) (.str x t) := by unfold VR; exact ⟨t, rfl⟩
theorem vr_bool {ρ : List Ent} {h : Heap} {b : Bool} : VR ρ h (.bool b) (.bool b) := by unfold VR; rfl
theorem vr_none {ρ : List Ent} {h : Heap} : VR ρ h .none .none := by unfold VR; rfl
theorem vr_bi {ρ : List Ent} {h : Heap} {a : String} : VR ρ h (.bi a) (.builtin a) := by unfold VR; rfl
theorem VR.int_eq {ρ : List Ent} {h : Heap} {i : Int} {v : Value} (r : VR ρ h (.int i) v) : ∃ t, v = .int i t := by unfold VR at r; exact r
theorem VR.str_eq {ρ : List Ent} {h : Heap} {x : Str} {v : Value} (r : VR ρ h (.str x) v) : ∃ t, v = .str x t := by unfold VR at r; exact r
theorem VR.bool_eq {ρ : List Ent} {h : Heap} {b : Bool} {v : Value} (r : VR ρ h (.bool b) v) : v = .bool b := by unfold VR at r; exact r
theorem VR.none_eq {ρ : List Ent} {h : Heap} {v : Value} (r : VR ρ h .none v) : v = .none := by unfold VR at r; exact r
theorem VR.ref_eq {ρ : List Ent} {h : Heap} {i : Nat} {v : Value} (r : VR ρ h (.ref i) v) : ∃ e, ρ[i]? = some e ∧ v = .ref e.a := by unfold VR at r; exact r
theorem VR.ty_eq {ρ : List Ent} {h : Heap} {n : String} {v : Value} (r : VR ρ h (.ty n) v) : v = .type n := by unfold VR at r; exact r
theorem VR.bi_eq {ρ : List Ent} {h : Heap} {n : String} {v : Value} (r : VR ρ h (.bi n) v) : v = .builtin n := by unfold VR at r; exact r
theorem add_ii {x y : Int} (h : Q (.int (x + y)) H) : W2 prog w KF d E VR H (binaryOp .Add) (.int x) (.int y) Q := fun A F ρ s u v hA S ru rv => by
  obtain ⟨t, rfl⟩ := ru.int_eq; obtain ⟨t', rfl⟩ := rv.int_eq; exact PySem.P.add_int (hq_same S vr_int h)
theorem mod_ii {x y : Int} (hy : y ≠ 0) (h : Q (.int (x.fmod y)) H) : W2 prog w KF d E VR H (binaryOp .Mod) (.int x) (.int y) Q := fun A F ρ s u v hA S ru rv => by
  obtain ⟨t, rfl⟩ := ru.int_eq; obtain ⟨t', rfl⟩ := rv.int_eq; exact mod_int' hy (hq_same S vr_int h)
theorem div_ii {x y : Int} (hy : y ≠ 0) (hp : Builtin.divisionGoesByPylong x y = false) (h : Q (.int (x.fdiv y)) H) : W2 prog w KF d E VR H (binaryOp .FloorDiv) (.int x) (.int y) Q := fun A F ρ s u v hA S ru rv => by
  obtain ⟨t, rfl⟩ := ru.int_eq; obtain ⟨t', rfl⟩ := rv.int_eq; exact floordiv_int hy (hq_same S vr_int h) (.inl hp)
theorem eq_ii {x y : Int} (h : Q (.bool (x == y)) H) : W2 prog w KF d E VR H (compareOp .Eq) (.int x) (.int y) Q := fun A F ρ s u v hA S ru rv => by
  obtain ⟨t, rfl⟩ := ru.int_eq; obtain ⟨t', rfl⟩ := rv.int_eq; exact PySem.P.eq_int (hq_refl S vr_bool h)
theorem lt_ii {x y : Int} (h : Q (.bool (decide (x < y))) H) : W2 prog w KF d E VR H (compareOp .Lt) (.int x) (.int y) Q := fun A F ρ s u v hA S ru rv => by
  obtain ⟨t, rfl⟩ := ru.int_eq; obtain ⟨t', rfl⟩ := rv.int_eq; exact PySem.P.lt_int (hq_refl S vr_bool h)
theorem ge_ii {x y : Int} (h : Q (.bool (decide (x ≥ y))) H) : W2 prog w KF d E VR H (compareOp .GtE) (.int x) (.int y) Q := fun A F ρ s u v hA S ru rv => by
  obtain ⟨t, rfl⟩ := ru.int_eq; obtain ⟨t', rfl⟩ := rv.int_eq; exact PySem.P.ge_int (hq_refl S vr_bool h)
theorem tr_bool {b : Bool} {Q : Bool → List O → Prop} (h : Q b H) : W1 prog w KF d E EqR H truthy (.bool b) Q := fun A F ρ s u hA S ru => by
  rw [ru.bool_eq]; exact wpAny_truthy_bool (hq_refl S rfl h)
theorem add_ss {x y : Str} (hz : x.length + y.length ≤ sizeLine) (h : Q (.str (x ++ y)) H) : W2 prog w KF d E VR H (binaryOp .Add) (.str x) (.str y) Q := fun A F ρ s u v hA S ru rv => by
  obtain ⟨t, rfl⟩ := ru.str_eq; obtain ⟨t', rfl⟩ := rv.str_eq; exact PyProof.Rows.add_str (fun t' tk => hq_same S vr_str h) hz
theorem ne_ss {x y : Str} (h : Q (.bool (x != y)) H) : W2 prog w KF d E VR H (compareOp .NotEq) (.str x) (.str y) Q := fun A F ρ s u v hA S ru rv => by
  obtain ⟨t, rfl⟩ := ru.str_eq; obtain ⟨t', rfl⟩ := rv.str_eq; exact PyProof.Rows.ne_str (hq_refl S vr_bool h)
theorem range_1 {n : Int} (h : Q (.rng 0 n) H) : CallW prog w KF d E H (.ty "range") [.int n] Q := fun A F ρ s u us hA S ru r => by
  rw [ru.ty_eq]
  obtain ⟨v, q, rfl, rv, rq⟩ := r.cons_eq
  rw [rq.nil_eq]
  obtain ⟨t, rfl⟩ := rv.int_eq
  refine call_range_1 (hq_keep S (fun _ _ e => Heap.get?_push_of_some _ e) ?_ h)
  unfold VR
  exact ⟨_, rfl, _, _, _, Heap.get?_push_size _ rfl⟩
theorem range_2 {a b : Int} (h : Q (.rng a b) H) : CallW prog w KF d E H (.ty "range") [.int a, .int b] Q := fun A F ρ s u us hA S ru r => by
  rw [ru.ty_eq]
  obtain ⟨v, q, rfl, rv, rq⟩ := r.cons_eq
  obtain ⟨v', q', rfl, rv', rq'⟩ := rq.cons_eq
  rw [rq'.nil_eq]
  obtain ⟨t, rfl⟩ := rv.int_eq
  obtain ⟨t', rfl⟩ := rv'.int_eq
  refine call_range_2 (hq_keep S (fun _ _ e => Heap.get?_push_of_some _ e) ?_ h)
  unfold VR
  exact ⟨_, rfl, _, _, _, Heap.get?_push_size _ rfl⟩
-- items
/-- o[i], an index -/
noncomputable def subOp (o i : Value) : Sem Value := do
  let b ← getitemInPython o
  match b with
  | true => runValue (.builtin "lifetime.subscript" ⟨[o, i], []⟩)
  | false => operate [o, i] (getItem o i)
theorem sub_of {A : Around} {s : Shared} {o i : Value} {T id : String} {K : Value → Shared → Prop} {E' : Value → Shared → Prop} (hT : s.TypeIs o T) (hl : typeLookup (.type T) "__getitem__" = pure (some (.builtin id))) (h : wpAny (model prog w) A (getItem o i) K E' s) : wpAny (model prog w) A (subOp o i) K E' s := by
  unfold subOp
  refine wpAny_bind ?_
  rw [getitemInPython_of_ne hT.not_modules]
  refine wpAny_bind (wpAny_specialOf hT hl ?_)
  exact wpAny_pure (wpAny_operating h)
theorem get_s {x : Str} {i : Int} (hi : -(x.length : Int) ≤ i ∧ i < x.length) (hx : x.length ≤ sizeLine) (h : Q (.str (Txt.item x i)) H) : W2 prog w KF d E VR H subOp (.str x) (.int i) Q := fun A F ρ s u v hA S ru rv => by
  obtain ⟨t, rfl⟩ := ru.str_eq; obtain ⟨t', rfl⟩ := rv.int_eq
  have hz : sizeLine = 2 ^ 24 := rfl
  obtain ⟨T, id, hl, hT, hg⟩ := SB.item (prog := prog) (w := w) (A := A) (E := HE w KF F ρ s E) (s := s) (x := x) (t := t) (u := t') (i := i) (Q := HQ w KF VR F ρ s Q) (fitsSsize_of (N := 9223372036854775808) (by omega) (by omega) (Int.le_refl _)) (charAt_isSome hi.1 hi.2) (hq_same S vr_str h)
  exact sub_of hT hl hg
end
end Mine
end
section
open PySem PySem.W PyProof.Rows PySem.W.X PySem.SeqAt
namespace Mine
/-- Python's pick of a slice -/
noncomputable def pick {α : Type} (xs : List α) (lo hi st : Option Int) : List α := (sliceRange (sliceBounds lo hi st xs.length).1 (sliceBounds lo hi st xs.length).2.1 (sliceBounds lo hi st xs.length).2.2).filterMap (xs[·]?)
theorem VRs.picks {ρ : List Ent} {h : Heap} {xs : List V} {vs : List Value} (r : VRs ρ h xs vs) : ∀ ix : List Nat, VRs ρ h (ix.filterMap (xs[·]?)) (ix.filterMap (vs[·]?))
  | [] => .nil
  | i :: ix => by
    rw [List.filterMap_cons, List.filterMap_cons]
    cases q : xs[i]? with
    | none =>
      have : vs[i]? = none := by
        rw [List.getElem?_eq_none_iff] at q ⊢
        rw [r.len]; exact q
      rw [this]; exact VRs.picks r ix
    | some x =>
      obtain ⟨v, hv, rv⟩ := r.get q
      rw [hv]; exact .cons rv (VRs.picks r ix)
theorem pick_array (vs : List Value) (lo hi st : Option Int) : slicePick vs.toArray lo hi st = (pick vs lo hi st).toArray := by
  unfold slicePick pick
  rw [List.size_toArray]
  congr 1
  have : (fun x : Nat => vs.toArray[x]?) = fun x => vs[x]? := funext fun i => by simp
  rw [this]
theorem VRs.pick {ρ : List Ent} {h : Heap} {xs : List V} {vs : List Value} (r : VRs ρ h xs vs) (lo hi st : Option Int) : VRs ρ h (Mine.pick xs lo hi st) (Mine.pick vs lo hi st) := by
  unfold Mine.pick
  rw [r.len]; exact r.picks _
section
variable {prog : Program} {w : World} {KF : Frag} {d : Nat} {E : HEP} {H : List O} {Q : V → List O → Prop}
/-- a list of the heap's -/
noncomputable def IsL' (H : List O) (l : Nat) (xs : List V) : Prop := H[l]? = some (.list xs) ∨ H[l]? = some (.arr xs)
theorem HSim.list {F : Base} {ρ : List Ent} {s : Shared} {l : Nat} {xs : List V} (S : HSim w KF F ρ H s.heap s.gens) (hl : IsL' H l xs) {e : Ent} (he : ρ[l]? = some e) : ∃ vs : List Value, s.heap.IsList e.a vs.toArray ∧ VRs ρ s.heap xs vs := by
  rcases hl with hG | hG
  · obtain ⟨_, _, vs, a, b⟩ := S.ob l e _ he hG; exact ⟨vs, a.isList, b⟩
  · obtain ⟨_, _, ⟨vs, a, b⟩, _⟩ := S.ob l e _ he hG; exact ⟨vs, a, b⟩
theorem len_l {l : Nat} {xs : List V} (hl : IsL' H l xs) (hz : xs.length ≤ sizeLine) (h : Q (.int xs.length) H) : CallW prog w KF d E H (.bi "len") [.ref l] Q := fun A F ρ s u us hA S ru r => by
  rw [ru.bi_eq]
  obtain ⟨v, q, rfl, rv, rq⟩ := r.cons_eq
  rw [rq.nil_eq]
  obtain ⟨e, he, rfl⟩ := rv.ref_eq
  obtain ⟨vs, a, b⟩ := S.list hl he
  have hs : sizeLine = 2 ^ 24 := rfl
  refine Calls.call_len_list a (by rw [List.size_toArray, b.len]; omega) ?_
  rw [List.size_toArray, b.len]
  exact hq_same S vr_int h
theorem get_li {l : Nat} {xs : List V} {i : Int} {x : V} (hl : IsL' H l xs) (h0 : 0 ≤ i) (hz : i < 2 ^ 62) (hx : xs[i.toNat]? = some x) (h : Q x H) : W2 prog w KF d E VR H subOp (.ref l) (.int i) Q := fun A F ρ s u v hA S ru rv => by
  obtain ⟨e, he, rfl⟩ := ru.ref_eq; obtain ⟨t', rfl⟩ := rv.int_eq
  obtain ⟨vs, a, b⟩ := S.list hl he
  obtain ⟨y, hy, ry⟩ := b.get hx
  exact sub_of a.typeIs slot_list_getitem.lookup (wpAny_getItem_list a h0 (by omega) (by simpa using hy) (hq_refl S ry h))
/-- one list turned -/
theorem HSim.turn {F : Base} {ρ : List Ent} {s : Shared} {l : Nat} {xs ys : List V} {e : Ent} {us : List Value} {h' : Heap} {tk : Nat} (S : HSim w KF F ρ H s.heap s.gens) (hl : H[l]? = some (.list xs)) (he : ρ[l]? = some e) (hk : ∀ b o, b ≠ e.a → s.heap.get? b = some o → h'.get? b = some o) (hp : h'.PlainList e.a us.toArray) (r : VRs ρ s.heap ys us) :
    Step ρ s ρ { s with heap := h', toks := tk } ∧ HSim w KF F ρ (H.set l (.list ys)) h' s.gens := by
  obtain ⟨h1, h2, vs, a, b⟩ := S.ob l e _ he hl
  have t : TK s.heap h' := .of_ext hk (list_not_imm a.isList)
  refine ⟨.same t rfl, S.upd he (fun b o hb e' => hk b o (fun q => hb (by rw [h1, q]; exact .head _)) e') (fun b hb => ?_) t ⟨h1, h2, us, hp, r.mono (List.prefix_refl _) t⟩⟩
  rw [h1] at hb
  rw [List.mem_singleton.mp hb]
  obtain ⟨n, e⟩ := hp
  exact ⟨_, e⟩
theorem app_l {l : Nat} {xs : List V} {x : V} (hl : H[l]? = some (.list xs)) (hz : xs.length ≤ sizeLine) (h : Q .none (H.set l (.list (xs ++ [x])))) : CallW prog w KF d E H (.bi "list.append") [.ref l, x] Q := fun A F ρ s u us hA S ru r => by
  rw [ru.bi_eq]
  obtain ⟨v, q, rfl, rv, rq⟩ := r.cons_eq
  obtain ⟨v', q', rfl, rv', rq'⟩ := rq.cons_eq
  rw [rq'.nil_eq]
  obtain ⟨e, he, rfl⟩ := rv.ref_eq
  obtain ⟨h1, h2, vs, a, b⟩ := S.ob l e _ he hl
  refine app_plain a (fun h' hp hs => ?_) (by rw [List.size_toArray, b.len]; exact hz)
  obtain ⟨st, S'⟩ := S.turn (tk := s.toks) hl he (fun b o hb e => hs.extBut b o hb e) (us := vs ++ [v']) (by simpa using hp) (b.append (.cons rv' .nil))
  exact ⟨ρ, _, .none, st, S', vr_none, h⟩
theorem meth_append {l : Nat} {xs : List V} (hl : H[l]? = some (.list xs)) : MethIs prog w KF H (.ref l) "append" (.bi "list.append") := fun A F ρ s u pl K E' S r h => by
  obtain ⟨e, he, rfl⟩ := r.ref_eq
  obtain ⟨_, _, vs, ⟨n, a⟩, b⟩ := S.ob l e _ he hl
  exact Calls.getMethod_list_append a rfl rfl (h _ vr_bi)
/-- o[i] = v -/
theorem set_plain {A : Around} {s : Shared} {l : Nat} {items : Array Value} {k : Int} {t : Tok} {v : Value} {K : Unit → Shared → Prop} {E' : Value → Shared → Prop} (hl : s.heap.PlainList l items) (h0 : 0 ≤ k) (hfit : k < 2 ^ 63) (hn : k < items.size)
    (hQ : ∀ h', h'.PlainList l (items.setIfInBounds k.toNat v) → Heap.SameBut l s.heap h' → K () { s with heap := h' }) : wpAny (model prog w) A (setItem (.ref l) (.int k t) v) K E' s := by
  obtain ⟨n, ho⟩ := id hl
  have hT := hl.isList.typeIs (s := s)
  unfold setItem
  try with_reducible refine wpAny_holding ?_
  first | refine wpAny_bind (wpAny_pure ?_) | skip
  refine wpAny_bind (wpAny_sequenceKey hT (by decide) ?_)
  refine wpAny_bind (wpAny_callSpecial?_slot (name := Str.ofString "__setitem__") hT slot_list_setitem
    (wpAny_call_entry slot_list_setitem hT entry_list_setitem ?_ (args_list_setitem _ _ _)))
  show wpAny _ _ (Builtin.List.listSubscript? (.int k t) >>= _) _ _ s
  refine wpAny_bind (wpAny_listSubscript_int (fitsIndex_of h0 hfit) ?_)
  clear hfit
  obtain ⟨j, rfl⟩ := Int.eq_ofNat_of_zero_le h0
  have hj : j < items.size := by omega
  have hx' : items[j]? = some items[j] := Array.getElem?_eq_getElem hj
  show wpAny _ _ ((seqItemAt l j >>= fun r => pure (r.map (j, ·))) >>= _) _ _ s
  refine wpAny_bind (wpAny_bind (wpAny_seqItemAt ho rfl (wpAny_pure ?_)))
  rw [hx']
  show wpAny _ _ (setSeqItemAt l j v >>= _) _ _ s
  refine wpAny_bind (wpAny_setSeqItemAt ho rfl ?_)
  first
    | exact wpAny_bind (wpAny_pure (wpAny_pure ⟨.none, rfl, wpAny_pure (hQ _ (plain_upd _ hl) (Heap.SameBut.update ..))⟩))
    | exact wpAny_pure ⟨.none, rfl, wpAny_pure (hQ _ (plain_upd _ hl) (Heap.SameBut.update ..))⟩
theorem set_li {l : Nat} {xs : List V} {i : Int} {x : V} {Q : Unit → List O → Prop} (hl : H[l]? = some (.list xs)) (h0 : 0 ≤ i) (hz : i < 2 ^ 62) (hx : i < xs.length) (h : Q () (H.set l (.list (xs.set i.toNat x)))) : W3 prog w KF d E UnR H setItem (.ref l) (.int i) x Q := fun A F ρ s u v r hA S ru rv rr => by
  obtain ⟨e, he, rfl⟩ := ru.ref_eq; obtain ⟨t', rfl⟩ := rv.int_eq
  obtain ⟨h1, h2, vs, a, b⟩ := S.ob l e _ he hl
  refine set_plain a h0 (by omega) (by rw [List.size_toArray, b.len]; exact hx) fun h' hp hs => ?_
  obtain ⟨st, S'⟩ := S.turn (tk := s.toks) hl he (fun b o hb e => hs.extBut b o hb e) (us := vs.set i.toNat r) (by simpa using hp) (b.set rr i.toNat)
  exact ⟨ρ, _, (), st, S', trivial, h⟩
/-- a new list on the heap -/
theorem hq_list {F : Base} {ρ : List Ent} {s : Shared} {xs : List V} {vs : List Value} {h₀ : Heap} {tk : Nat} (S : HSim w KF F ρ H s.heap s.gens) (k₀ : Keep s.heap h₀) (r : VRs ρ s.heap xs vs) (h : Q (.ref H.length) (H ++ [.list xs])) : HQ w KF VR F ρ s Q (.ref h₀.objs.size) { s with heap := h₀.push { cls := .type "list", data := .seq vs.toArray }, toks := tk } := by
  have k1 : Keep h₀ (h₀.push { cls := .type "list", data := .seq vs.toArray }) := fun _ _ e => Heap.get?_push_of_some _ e
  have hg : (h₀.push { cls := .type "list", data := .seq vs.toArray }).get? h₀.objs.size = some { cls := .type "list", data := .seq vs.toArray } := Heap.get?_push_size _ rfl
  have S₀ := S.keeps k₀
  refine ⟨_, _, .ref H.length, .add (.of_keep fun b o e => k1 b o (k₀ b o e)) rfl, S₀.alloc (o := .list xs) k1 (get_size _) ⟨_, hg⟩ ⟨rfl, rfl, vs, ⟨_, hg⟩, r.mono (List.prefix_append _ _) (.of_keep fun b o e => k1 b o (k₀ b o e))⟩, ?_, h⟩
  unfold VR
  exact ⟨_, by rw [← S.len, List.getElem?_concat_length], rfl⟩
theorem add_ll {l r : Nat} {xs ys : List V} (hl : H[l]? = some (.list xs)) (hr : H[r]? = some (.list ys)) (hz : xs.length + ys.length ≤ sizeLine) (h : Q (.ref H.length) (H ++ [.list (xs ++ ys)])) : W2 prog w KF d E VR H (binaryOp .Add) (.ref l) (.ref r) Q := fun A F ρ s u v hA S ru rv => by
  obtain ⟨e, he, rfl⟩ := ru.ref_eq; obtain ⟨e', he', rfl⟩ := rv.ref_eq
  obtain ⟨_, _, vs, ⟨n, a⟩, b⟩ := S.ob l e _ he hl
  obtain ⟨_, _, vs', ⟨n', a'⟩, b'⟩ := S.ob r e' _ he' hr
  refine P.add_list a a' ?_ (by rw [List.size_toArray, List.size_toArray, b.len, b'.len]; exact hz)
  have := hq_list (tk := s.toks) S (fun _ _ e => e) (b.append b') h
  simpa using this
noncomputable def Part : V → Option Int → Prop
  | .none, p => p = none
  | .int i, p => p = some i
  | _, _ => False
theorem part_of {ρ : List Ent} {h : Heap} {x : V} {p : Option Int} {v : Value} (hp : Part x p) (r : VR ρ h x v) : IsPart v p := by
  cases x with
  | none => rw [r.none_eq, show p = none from hp]; exact .none
  | int i => obtain ⟨t, rfl⟩ := r.int_eq; rw [show p = some i from hp]; exact .int i t
  | _ => exact hp.elim
end
end Mine
end
section
open PySem PySem.W PyProof.Rows PySem.W.X PySem.SeqAt
namespace Mine
theorem subscripted_no (slice : Expr) (o i : Value) : ∃ ops, subscripted slice false o i = operate ops (getItem o i) := by
  unfold subscripted
  split
  · exact ⟨_, rfl⟩
  · rename_i h; cases h
  · exact ⟨_, rfl⟩
section
variable (prog : Program) (w : World) (KF : Frag) (d : Nat)
/-- o[l:u:k] -/
noncomputable def SliceW (E : HEP) (H : List O) (x y z q : V) (Q : V → List O → Prop) : Prop :=
  ∀ A F ρ s u v r k, Room A d F.fr → HSim w KF F ρ H s.heap s.gens → VR ρ s.heap x u → VR ρ s.heap y v → VR ρ s.heap z r → VR ρ s.heap q k → ItemOn (model prog w) A (HE w KF F ρ s E) u (.ref s.heap.objs.size) (HQ w KF VR F ρ s Q) { s with heap := s.heap.push { cls := .type "slice", data := .fields #[v, r, k] } }
noncomputable def WEo (fi : FI) (E : EP) (m : Names) (H : List O) : Option Expr → (V → List O → Prop) → Prop
  | none, Q => Q .none H
  | some e, Q => WE prog w KF fi d E m H e Q
end
section
variable {prog : Program} {w : World} {KF : Frag} {fi : FI} {d : Nat} {E : EP} {m : Names} {H : List O}
theorem we_sub {value slice : Expr} {pos : Pos} {Q : V → List O → Prop} (h : WE prog w KF fi d E m H value fun o H₁ => WE prog w KF fi d E m H₁ slice fun i H₂ => W2 prog w KF d (Em E m) VR H₂ subOp o i Q)
    (hs : ∀ b o i, subscripted slice b o i = (match b with | true => runValue (.builtin "lifetime.subscript" ⟨[o, i], []⟩) | false => operate [o, i] (getItem o i)) := by intro b o i; cases b <;> rfl) : WE prog w KF fi d E m H (.Subscript value slice pos) Q :=
  fun A env F ρ s hA S => by
    refine Subscript_ (wpAny_mono (h A env F ρ s hA S) (fun o s₁ hx => ?_) fun _ _ x => x)
    obtain ⟨ρ₁, H₁, ov, st₁, S₁, ro, h₁⟩ := hx
    refine onto st₁ (wpAny_mono (h₁ A env F ρ₁ s₁ hA S₁) (fun i s₂ hx => ?_) fun _ _ x => x) fun _ _ x => x
    obtain ⟨ρ₂, H₂, iv, st₂, S₂, ri, h₂⟩ := hx
    have e : subscriptTail value slice o i = (do let r ← subOp o i; letTemporaryGo value o r; pure r) := by
      unfold subscriptTail subOp
      first
        | (simp only [hs, bind_assoc]; rfl)
        | simp only [hs, bind_assoc]
    rw [e]
    have st := st₁.trans st₂
    refine wpAny_bind (onto st (lift S₂ fun F' q T => h₂ A F' ρ₂ s₂ o i (q ▸ hA) T (ro.mono st₂.1 st₂.2.1) ri) fun r s₃ q => ?_)
    exact wpAny_bind (wpAny_letTemporaryGo (wpAny_pure (q.step st)))
theorem opt_run {e : Option Expr} {Q : V → List O → Prop} (h : WEo prog w KF d fi E m H e Q) {A : Around} {env : Env} {F : Base} {ρ : List Ent} {s : Shared} (hA : Room A d (frOf env F)) (S : Sim w KF fi env m F ρ H s.heap s.gens) : wpAny (model prog w) A (valueOrNone (evalOpt e env)) (SQ w KF VR fi env m F ρ s Q) (SE w KF fi env F ρ s E) s := by
  cases e with
  | none => exact wpAny_pure ⟨ρ, H, .none, .refl, S, vr_none, h⟩
  | some e => exact (show WE prog w KF fi d E m H e Q from h) A env F ρ s hA S
theorem tail_item {A : Around} {s : Shared} {value slice : Expr} {o i : Value} {K : Value → Shared → Prop} {E' : Value → Shared → Prop} (h : ItemOn (model prog w) A E' o i K s) : wpAny (model prog w) A (subscriptTail value slice o i) K E' s := by
  obtain ⟨T, id, hl, hT, hg⟩ := h
  obtain ⟨ops, hs⟩ := subscripted_no slice o i
  unfold subscriptTail
  refine wpAny_bind ?_
  rw [getitemInPython_of_ne hT.not_modules]
  refine wpAny_bind (wpAny_specialOf hT hl ?_)
  have fin : wpAny (model prog w) A (subscripted slice false o i) (fun r s₃ => wpAny (model prog w) A (letTemporaryGo value o r >>= fun _ => pure r) K E' s₃) E' s := by
    rw [hs]
    exact wpAny_operating (wpAny_mono hg (fun r s₃ h₃ => wpAny_bind (wpAny_letTemporaryGo (wpAny_pure h₃))) fun _ _ x => x)
  exact wpAny_pure (wpAny_bind fin)
theorem we_slice {value : Expr} {l u k : Option Expr} {p pos : Pos} {Q : V → List O → Prop} (h : WE prog w KF fi d E m H value fun o H₁ => WEo prog w KF d fi E m H₁ l fun lv H₂ => WEo prog w KF d fi E m H₂ u fun uv H₃ => WEo prog w KF d fi E m H₃ k fun kv H₄ => SliceW prog w KF d (Em E m) H₄ o lv uv kv Q) : WE prog w KF fi d E m H (.Subscript value (.Slice l u k p) pos) Q :=
  fun A env F ρ s hA S => by
    refine Subscript_ (wpAny_mono (h A env F ρ s hA S) (fun o s₁ hx => ?_) fun _ _ x => x)
    obtain ⟨ρ₁, H₁, ov, st₁, S₁, ro, h₁⟩ := hx
    show wpAny _ A (do
      let lv ← valueOrNone (evalOpt l env)
      let uv ← holding [lv] (valueOrNone (evalOpt u env))
      let kv ← holding [lv, uv] (valueOrNone (evalOpt k env))
      newFields "slice" [lv, uv, kv]) _ _ _
    refine wpAny_bind (onto st₁ (wpAny_mono (opt_run h₁ hA S₁) (fun lv s₂ hx => ?_) fun _ _ x => x) fun _ _ x => x)
    obtain ⟨ρ₂, H₂, la, st₂, S₂, rl, h₂⟩ := hx
    have t2 := st₁.trans st₂
    refine wpAny_bind (wpAny_holding (onto t2 (wpAny_mono (opt_run h₂ hA S₂) (fun uv s₃ hx => ?_) fun _ _ x => x) fun _ _ x => x))
    obtain ⟨ρ₃, H₃, ua, st₃, S₃, ru, h₃⟩ := hx
    have t3 := t2.trans st₃
    refine wpAny_bind (wpAny_holding (onto t3 (wpAny_mono (opt_run h₃ hA S₃) (fun kv s₄ hx => ?_) fun _ _ x => x) fun _ _ x => x))
    obtain ⟨ρ₄, H₄, ka, st₄, S₄, rk, h₄⟩ := hx
    have t4 := t3.trans st₄
    have u24 := (st₂.trans st₃).trans st₄
    have u34 := st₃.trans st₄
    obtain ⟨T, id, hl, hT, hg⟩ := h₄ A _ ρ₄ s₄ o lv uv kv hA S₄.toH (ro.mono u24.1 u24.2.1) (rl.mono u34.1 u34.2.1) (ru.mono st₄.1 st₄.2.1) rk
    refine wpAny_newObj_type (tail_item ⟨T, id, hl, hT, ?_⟩) (by size_fits)
    refine wpAny_mono hg (fun v s' ⟨ρ', H', b, st, T, rv, hq⟩ => ⟨ρ', H', b, t4.trans st, S₄.ofH st.1 st.2.1 T, rv, hq⟩) (fun e s' ⟨ρ', H', x, st, T, rv, hq⟩ => rv.elim)
end
section
variable {prog : Program} {w : World} {KF : Frag} {d : Nat} {E : HEP} {H : List O} {Q : V → List O → Prop}
theorem sl_list {l : Nat} {xs : List V} {y z k : V} {lo hi st : Option Int} (hl : IsL' H l xs) (hy : Part y lo) (hz : Part z hi) (hk : Part k st) (h0 : st ≠ some 0) (hsz : xs.length ≤ sizeLine) (h : Q (.ref H.length) (H ++ [.list (pick xs lo hi st)])) : SliceW prog w KF d E H (.ref l) y z k Q := fun A F ρ s u v r q hA S ru rv rr rk => by
  obtain ⟨e, he, rfl⟩ := ru.ref_eq
  obtain ⟨vs, a, b⟩ := S.list hl he
  have hp := a.push { cls := .type "slice", data := .fields #[v, r, q] }
  refine ⟨"list", _, list_getitem_lookup, hp.typeIs (s := { s with heap := s.heap.push { cls := .type "slice", data := .fields #[v, r, q] } }), ?_⟩
  refine wpAny_getItem_list_slice hp (Heap.IsSliceOf.new ..) (part_of hy rv) (part_of hz rr) (part_of hk rk) h0 ?_ (by rw [List.size_toArray, b.len]; exact hsz)
  have := hq_list (tk := s.toks) S (h₀ := s.heap.push { cls := .type "slice", data := .fields #[v, r, q] }) (fun _ _ e => Heap.get?_push_of_some _ e) (b.pick lo hi st) h
  rw [← pick_array] at this
  exact this
/-- x == y gives b -/
structure EqW (A : Around) (s : Shared) (u v : Value) (b : Bool) : Prop where
  rc : RcAt A s u v b
  ne : RcNeAt A s u v (!b)
  eq : EqAt A s u v b
  same : u = v → b = true
noncomputable def EqV (w : World) (KF : Frag) (H : List O) (k : Nat) (x y : V) (b : Bool) : Prop :=
  ∀ (A : Around) (F : Base) (ρ : List Ent) (s : Shared) (u v : Value), A.units + k < cLine → HSim w KF F ρ H s.heap s.gens → VR ρ s.heap x u → VR ρ s.heap y v → EqW A s u v b
theorem eqAt_of {A : Around} {s : Shared} {u v : Value} {b : Bool} (h : RcAt A s u v b) (hf : ∀ x t, u ≠ .float x t) (hb : u = v → b = true) : EqAt A s u v b := fun prog w E Q hq => by
  unfold eqBool
  refine wpAny_holding ?_
  refine wpAny_ite_split (fun hab => ?_) (fun _ => ?_)
  · rw [hb (eq_of_beq hab)] at hq
    exact wpAny_bind (wpAny_rule (wpAny_pure hq))
  · have main : wpAny (model prog w) A (do let x ← richCompare .Eq u v; truthOfDropped x) Q E s := wpAny_bind (h prog w E _ (by
      unfold truthOfDropped
      first | exact wpAny_truthy_bool hq | exact wpAny_pure hq | exact wpAny_holding (wpAny_truthy_bool hq) | exact wpAny_bind (wpAny_truthy_bool (wpAny_pure hq))))
    cases u with
    | float x t => exact absurd rfl (hf x t)
    | _ => exact main
theorem eqv_str {k : Nat} {i j : Str} : EqV w KF H k (.str i) (.str j) (i == j) := fun A F ρ s u v hu S ru rv => by
  obtain ⟨t, rfl⟩ := ru.str_eq; obtain ⟨t', rfl⟩ := rv.str_eq
  have rc : RcAt A s (.str i t) (.str j t') (i == j) := fun prog w E Q hq => PyProof.Rows.eq_str hq
  have sm : Value.str i t = .str j t' → (i == j) = true := fun q => by cases q; exact beq_self_eq_true _
  exact ⟨rc, fun prog w E Q hq => PyProof.Rows.ne_str hq, eqAt_of rc (fun _ _ q => nomatch q) sm, sm⟩
/-- all of two lists, place by place -/
noncomputable def atB (xs ys : List V) (e : V → V → Bool) (j : Nat) : Bool := match xs[j]?, ys[j]? with | some x, some y => e x y | _, _ => true
noncomputable def allB (xs ys : List V) (e : V → V → Bool) : Bool := xs.length == ys.length && (List.range xs.length).all (atB xs ys e)
section
variable {k : Nat} {xs ys : List V} {e : V → V → Bool} {A : Around} {F : Base} {ρ : List Ent} {s : Shared} {vs us : List Value}
theorem items_eq (S : HSim w KF F ρ H s.heap s.gens) (hu : A.units + k < cLine) (p2 : VRs ρ s.heap xs vs) (q2 : VRs ρ s.heap ys us) (he : ∀ x ∈ xs, ∀ y ∈ ys, EqV w KF H k x y (e x y)) (j : Nat) (h1 : j < vs.toArray.size) (h2 : j < us.toArray.size) :
    EqAt A s vs.toArray[j] us.toArray[j] (atB xs ys e j) ∧ (vs.toArray[j] = us.toArray[j] → atB xs ys e j = true) := by
  rw [List.size_toArray] at h1 h2
  obtain ⟨x, hx, rx⟩ := p2.get' (List.getElem?_eq_getElem h1)
  obtain ⟨y, hy, ry⟩ := q2.get' (List.getElem?_eq_getElem h2)
  have z := he x (List.mem_of_getElem? hx) y (List.mem_of_getElem? hy) A F ρ s _ _ hu S rx ry
  unfold atB
  rw [hx, hy]
  exact ⟨z.eq, z.same⟩
theorem items_same (S : HSim w KF F ρ H s.heap s.gens) (hu : A.units + k < cLine) (p2 : VRs ρ s.heap xs vs) (q2 : VRs ρ s.heap ys vs) (he : ∀ x ∈ xs, ∀ y ∈ ys, EqV w KF H k x y (e x y)) : allB xs ys e = true := by
  unfold allB
  rw [← p2.len, ← q2.len, beq_self_eq_true, Bool.true_and, List.all_eq_true]
  intro j hj
  have hj' : j < vs.toArray.size := by rw [List.size_toArray]; exact List.mem_range.mp hj
  exact (items_eq S hu p2 q2 he j hj' hj').2 rfl
theorem allB_eq (p2 : VRs ρ s.heap xs vs) (hlen : xs.length = ys.length) : allB xs ys e = (List.range vs.toArray.size).all (atB xs ys e) := by
  unfold allB
  rw [List.size_toArray, p2.len, hlen, beq_self_eq_true, Bool.true_and]
theorem allB_ne (hlen : xs.length ≠ ys.length) : allB xs ys e = false := by
  unfold allB
  rw [show (xs.length == ys.length) = false by simpa using hlen, Bool.false_and]
end
theorem eqv_list {k l r : Nat} {xs ys : List V} {e : V → V → Bool} (hl : H[l]? = some (.list xs)) (hr : H[r]? = some (.list ys)) (he : ∀ x ∈ xs, ∀ y ∈ ys, EqV w KF H k x y (e x y)) : EqV w KF H (k + 1) (.ref l) (.ref r) (allB xs ys e) := fun A F ρ s u v hu S ru rv => by
  obtain ⟨a, ha, rfl⟩ := ru.ref_eq
  obtain ⟨b, hb, rfl⟩ := rv.ref_eq
  obtain ⟨f1, _, vs, p1, p2⟩ := S.ob l a _ ha hl
  obtain ⟨f2, _, us, q1, q2⟩ := S.ob r b _ hb hr
  have hu1 : A.in1.units + k < cLine := by show A.units + 1 + k < cLine; omega
  have sm : Value.ref a.a = .ref b.a → allB xs ys e = true := fun q => by
    have e1 : a.a = b.a := by injection q
    have hlr : l = r := Decidable.byContradiction fun hne => fps_apart S.nd ha hb hne (b := a.a) (by rw [f1]; exact .head _) (by rw [f2, e1]; exact .head _)
    subst hlr
    rw [hl] at hr
    cases hr
    rw [ha] at hb
    cases hb
    exact items_same (A := A.in1) S hu1 p2 p2 he
  have rc : RcAt A s (.ref a.a) (.ref b.a) (allB xs ys e) ∧ RcNeAt A s (.ref a.a) (.ref b.a) (!allB xs ys e) := by
    by_cases hlen : xs.length = ys.length
    · have h1 : vs.toArray.size = us.toArray.size := by rw [List.size_toArray, List.size_toArray, p2.len, q2.len, hlen]
      rw [allB_eq (s := s) p2 hlen]
      exact ⟨RcAt.lists p1.isList q1.isList h1 (by omega) fun j h1 h2 => (items_eq (A := A.in1) S hu1 p2 q2 he j h1 h2).1, RcNeAt.lists p1.isList q1.isList h1 (by omega) fun j h1 h2 => (items_eq (A := A.in1) S hu1 p2 q2 he j h1 h2).1⟩
    · rw [allB_ne hlen]
      have hs : (vs.toArray.size != us.toArray.size) = true := by rw [List.size_toArray, List.size_toArray, p2.len, q2.len]; simpa using hlen
      exact ⟨RcAt.lists_lengths p1.isList q1.isList hs (by omega), RcNeAt.lists_lengths p1.isList q1.isList hs (by omega)⟩
  exact ⟨rc.1, rc.2, eqAt_of rc.1 (fun _ _ q => nomatch q) sm, sm⟩
theorem eq_of_eqv {k : Nat} {x y : V} {b : Bool} (hk : k ≤ 150) (h : EqV w KF H k x y b) (hq : Q (.bool b) H) : W2 prog w KF d E VR H (compareOp .Eq) x y Q := fun A F ρ s u v hA S ru rv => by
  have := hA.un
  exact (h A F ρ s u v (by omega) S ru rv).rc prog w _ _ (hq_refl S vr_bool hq)
theorem ne_of_eqv {k : Nat} {x y : V} {b : Bool} (hk : k ≤ 150) (h : EqV w KF H k x y b) (hq : Q (.bool (!b)) H) : W2 prog w KF d E VR H (compareOp .NotEq) x y Q := fun A F ρ s u v hA S ru rv => by
  have := hA.un
  exact (h A F ρ s u v (by omega) S ru rv).ne prog w _ _ (hq_refl S vr_bool hq)
/-- lists of texts, lists of ints -/
noncomputable def eqS : V → V → Bool
  | .str x, .str y => x == y
  | .int x, .int y => x == y
  | _, _ => false
theorem allB_map {α : Type} [DecidableEq α] (f : α → V) (hf : ∀ x y, eqS (f x) (f y) = decide (x = y)) : ∀ (xs ys : List α), allB (xs.map f) (ys.map f) eqS = decide (xs = ys) := by
  intro xs ys
  unfold allB
  rw [List.length_map, List.length_map, Bool.eq_iff_iff]
  simp only [Bool.and_eq_true, beq_iff_eq, List.all_eq_true, List.mem_range, decide_eq_true_eq]
  constructor
  · rintro ⟨h1, h2⟩
    refine List.ext_getElem h1 fun i hi hi' => ?_
    have := h2 i hi
    unfold atB at this
    rw [List.getElem?_map, List.getElem?_map, List.getElem?_eq_getElem hi, List.getElem?_eq_getElem hi'] at this
    simpa [hf] using this
  · rintro rfl
    refine ⟨rfl, fun i hi => ?_⟩
    unfold atB
    rw [List.getElem?_map, List.getElem?_eq_getElem hi]
    simp [hf]
theorem eqv_strs {l r : Nat} {xs ys : List Str} (hl : H[l]? = some (.list (xs.map .str))) (hr : H[r]? = some (.list (ys.map .str))) : EqV w KF H 1 (.ref l) (.ref r) (decide (xs = ys)) := by
  rw [← allB_map V.str (fun x y => by show (x == y) = _; rw [Bool.eq_iff_iff]; simp)]
  refine eqv_list (k := 0) hl hr fun x hx y hy => ?_
  obtain ⟨a, _, rfl⟩ := List.mem_map.mp hx
  obtain ⟨b, _, rfl⟩ := List.mem_map.mp hy
  exact eqv_str
end
end Mine
end
section
open PySem PySem.W PyProof.Rows PySem.W.X PySem.SeqAt
namespace Mine
section
variable {prog : Program} {w : World} {KF : Frag} {d : Nat} {E : HEP} {H : List O} {Q : V → List O → Prop}
end
end Mine
end
section
open PySem PySem.W PyProof.Rows PySem.W.X PySem.SeqAt
namespace Mine
section
variable {prog : Program} {w : World} {KF : Frag} {fi : FI} {d : Nat} {E : EP} {m : Names} {H : List O}
noncomputable def clipN (v : Option Int) (dflt n : Nat) : Nat := match v with
  | none => dflt
  | some i => (max 0 (min (if i < 0 then i + n else i) (n : Int))).toNat
theorem picks_run {α : Type} (xs : List α) : ∀ (k a : Nat), a + k ≤ xs.length → ((List.range k).map fun j => a + j).filterMap (xs[·]?) = (xs.drop a).take k
  | 0, a, _ => by simp
  | k + 1, a, h => by
    rw [List.range_succ, List.map_append, List.filterMap_append, picks_run xs k a (by omega)]
    have hk : a + k < xs.length := by omega
    simp only [List.map_cons, List.map_nil, List.filterMap_cons, List.getElem?_eq_getElem hk, List.filterMap_nil]
    rw [List.take_add_one, List.getElem?_drop, List.getElem?_eq_getElem hk]
    rfl
theorem clip_le {hi : Option Int} {n : Nat} : clipN hi n n ≤ n := by
  unfold clipN
  cases hi with
  | none => exact Nat.le_refl _
  | some i => exact Int.toNat_le.mpr (Int.max_le.mpr ⟨Int.natCast_nonneg _, Int.min_le_right _ _⟩)
theorem idx_plain (lo hi : Option Int) (n : Nat) : sliceRange (sliceBounds lo hi none n).1 (sliceBounds lo hi none n).2.1 (sliceBounds lo hi none n).2.2 = (List.range (clipN hi n n - clipN lo 0 n)).map fun k => clipN lo 0 n + k := by
  have hb : sliceBounds lo hi none n = (((clipN lo 0 n : Nat) : Int), ((clipN hi n n : Nat) : Int), 1) := by
    unfold sliceBounds clipN
    cases lo <;> cases hi <;> simp <;> omega
  rw [hb]
  unfold sliceRange
  simp only
  rw [if_pos (show (1 : Int) > 0 by decide)]
  generalize clipN hi n n = b
  generalize clipN lo 0 n = a
  by_cases h : a < b
  · rw [if_pos (by omega)]
    have e : (((b : Int) - a + 1 - 1) / 1).toNat = b - a := by rw [Int.ediv_one]; omega
    rw [e]
    have e2 : (fun k : Nat => ((a : Int) + 1 * (k : Int)).toNat) = fun k => a + k := funext fun k => by omega
    rw [e2]
  · rw [if_neg (by omega), show b - a = 0 by omega]
    rfl
theorem pick_plain {α : Type} (xs : List α) (lo hi : Option Int) : pick xs lo hi none = (xs.drop (clipN lo 0 xs.length)).take (clipN hi xs.length xs.length - clipN lo 0 xs.length) := by
  unfold pick
  rw [idx_plain]
  by_cases h : clipN lo 0 xs.length ≤ clipN hi xs.length xs.length
  · exact picks_run xs _ _ (by have := clip_le (hi := hi) (n := xs.length); omega)
  · rw [Nat.sub_eq_zero_of_le (Nat.le_of_not_le h)]
    rfl
theorem clip_nat (k d n : Nat) : clipN (some (k : Int)) d n = min k n := by
  unfold clipN
  simp only
  rw [if_neg (Int.not_lt.mpr (Int.natCast_nonneg k)), show min (k : Int) (n : Int) = ((min k n : Nat) : Int) from ?_, Int.max_eq_right (Int.natCast_nonneg _), Int.toNat_natCast]
  rcases Nat.le_total k n with h | h
  · rw [Nat.min_eq_left h, Int.min_eq_left (Int.ofNat_le.mpr h)]
  · rw [Nat.min_eq_right h, Int.min_eq_right (Int.ofNat_le.mpr h)]
theorem pick_upto {α : Type} (xs : List α) (k : Nat) : pick xs none (some (k : Int)) none = xs.take k := by
  rw [pick_plain, clip_nat, show clipN none 0 xs.length = 0 from rfl, List.drop_zero, Nat.sub_zero, ← List.take_eq_take_min]
theorem weo_none {Q : V → List O → Prop} (h : Q .none H) : WEo prog w KF d fi E m H none Q := h
theorem weo_some {e : Expr} {Q : V → List O → Prop} (h : WE prog w KF fi d E m H e Q) : WEo prog w KF d fi E m H (some e) Q := h
/-- the text of these signs -/
noncomputable def S (l : List Nat) : Str := ⟨l.toArray⟩
end
section
variable {prog : Program} {w : World} {KF : Frag} {d : Nat} {E : HEP} {H : List O} {Q : V → List O → Prop}
theorem iw_range0 {n : Nat} (hn : n < 2 ^ 61) : IterW prog w KF d E H (.rng 0 (n : Nat)) ((List.range n).map fun i => V.int (i : Nat)) (fun _ => True) := by
  have := iw_range (prog := prog) (w := w) (KF := KF) (d := d) (E := E) (H := H) (a := 0) (b := (n : Nat)) ⟨by omega, by omega⟩ ⟨by omega, by omega⟩
  have e : ((n : Int) - 0).toNat = n := by omega
  rw [e] at this
  have e2 : (fun i : Nat => V.int (0 + (i : Int))) = fun i : Nat => V.int (i : Int) := funext fun i => by rw [Int.zero_add]
  rw [e2] at this
  exact this
end
end Mine
end
section
open PySem PySem.W PyProof.Rows PySem.W.X
namespace Mine
/-- an iterator over a text -/
noncomputable def StrIt (h : Heap) (I : Nat) (x : Str) (t : Tok) (i : Nat) : Prop := h.IsStrIter I "str_ascii_iterator" x t i ∨ h.IsStrIter I "str_iterator" x t i
section
variable {prog : Program} {w : World} {A : Around} {E : Value → Shared → Prop} {s : Shared}
end
end Mine
end
section
open PySem PySem.W PyProof.Rows PySem.W.X PySem.SeqAt
namespace Mine
section
variable {prog : Program} {w : World} {KF : Frag} {A : Around} {E : Value → Shared → Prop} {s : Shared}
theorem HSim.gens {F : Base} {ρ : List Ent} {H : List O} {h : Heap} {gs gs' : Array GenState} (S : HSim w KF F ρ H h gs) (hb : ∀ x ∈ gs', x.bare = true) (hp : ∀ e ∈ ρ, e.fp ≠ [] → ∀ x z, e.g = some x → gs[x.1]? = some z → gs'[x.1]? = some z) (hz : gs.size ≤ gs'.size) : HSim w KF F ρ H h gs' := ⟨S.bs, S.keep, S.len, S.ob, S.live, S.nd, S.off, S.gn, hb, fun i e o hi ho => by
  have := S.gf i e o hi ho
  cases o with
  | fresh fi body m => obtain ⟨g, env, h1, h2⟩ := this; obtain ⟨_, _, _, hf, _⟩ := S.ob i e _ hi ho; exact ⟨g, env, h1, hp e (List.mem_of_getElem? hi) (by rw [hf]; exact List.cons_ne_nil _ _) _ _ h1 h2⟩
  | gone => exact fun x hx => Nat.lt_of_lt_of_le (this x hx) hz
  | done => obtain ⟨g, env, h1, h2⟩ := this; obtain ⟨_, _, _, _, hf, _⟩ := S.ob i e _ hi ho; exact ⟨g, env, h1, hp e (List.mem_of_getElem? hi) (by rw [hf]; exact List.cons_ne_nil _ _) _ _ h1 h2⟩
  | susp fi tgt lb m I => obtain ⟨g, env, z, h1, h2, h4⟩ := this; obtain ⟨_, _, _, hf, _⟩ := S.ob i e _ hi ho; exact ⟨g, env, z, h1, hp e (List.mem_of_getElem? hi) (by rw [hf]; exact List.cons_ne_nil _ _) _ _ h1 h2, h4⟩
  | _ => trivial, S.fo⟩
end
end Mine
end
section
open PySem PySem.W PyProof.Rows PySem.W.X PySem.SeqAt
namespace Mine
noncomputable abbrev noE : EP := fun _ _ _ => False
section
variable {prog : Program} {w : World} {KF : Frag} {fi : FI} {d : Nat} {E : EP} {m : Names} {H : List O}
end
end Mine
end
section
open PySem PySem.W PyProof.Rows PySem.W.X PySem.SeqAt
namespace Mine
/-- a sign kept: c where the tag is a blank and c is white, else the tag -/
noncomputable def kept (c d : Nat) : Str := if ((⟨#[d]⟩ : Str) == " ") = true then (if Txt.isspace ⟨#[c]⟩ = true then ⟨#[c]⟩ else ⟨#[d]⟩) else ⟨#[d]⟩
section
variable {prog : Program} {w : World}
end
end Mine
end
section
open PySem PySem.W PyProof.Rows PySem.W.X PySem.SeqAt
namespace Mine
noncomputable abbrev listO (acc : Array Value) (c : Nat) : Obj := { cls := .type "list", dict := none, data := .seq acc c, slots := #[] }
section
variable {prog : Program} {w : World} {A : Around} {I S n : Nat} {P : Nat → Value → Prop} {St : Nat → Shared → Prop} {Fn : Shared → Prop}
end
end Mine
end
section
open PySem PySem.W PyProof.Rows PySem.W.X PySem.SeqAt
namespace Mine
theorem Sim.gens {w : World} {KF : Frag} {fi : FI} {env : Env} {m : Names} {F : Base} {ρ : List Ent} {H : List O} {h : Heap} {gs gs' : Array GenState} (S : Sim w KF fi env m F ρ H h gs) (hb : ∀ x ∈ gs', x.bare = true) (hp : ∀ e ∈ ρ, e.fp ≠ [] → ∀ x z, e.g = some x → gs[x.1]? = some z → gs'[x.1]? = some z) (hz : gs.size ≤ gs'.size) : Sim w KF fi env m F ρ H h gs' :=
  ⟨S.hs.gens hb hp hz, S.es, S.eg, S.eb, S.ec, S.ek, S.ef, S.lo, S.ns, S.cl, S.ce, S.cn, S.cu, S.cd, S.cf⟩
/-- what is fixed while a generator is drawn: its frame, the base, the generator object a (number g), the list S -/
structure GX where
  w : World
  KF : Frag
  fi : FI
  env : Env
  F : Base
  a : Nat
  g : Nat
  S : Nat
  ρI : List Ent
  sI : Shared
/-- the state between two steps of the generator's body -/
structure SI (X : GX) (m : Names) (H : List O) (ρ : List Ent) (s : Shared) : Prop where
  st : Step X.ρI X.sI ρ s
  sim : Sim X.w X.KF X.fi X.env m X.F ρ H s.heap s.gens
  off : FpOff X.fi X.env X.F ρ [X.S, X.a]
  ls : ∃ acc c, s.heap.get? X.S = some (listO acc c)
  gen : s.heap.IsGen X.a X.g
  gs : X.g < s.gens.size
  gx : ∀ e ∈ ρ, ∀ x, e.g = some x → x.1 ≠ X.g
  ne : X.S ≠ X.a
/-- what the drawing side may do between two steps -/
structure Lk (X : GX) (s s' : Shared) : Prop where
  old : ∀ b o, b ≠ X.S → s.heap.get? b = some o → s'.heap.get? b = some o
  ls : ∃ acc c, s'.heap.get? X.S = some (listO acc c)
  os : s'.os = s.os
  bare : ∀ z ∈ s'.gens, z.bare = true
  sz : s.gens.size ≤ s'.gens.size
  gk : ∀ k, k ≠ X.g → ∀ z, s.gens[k]? = some z → s'.gens[k]? = some z
noncomputable def SKeep (X : GX) (s s' : Shared) : Prop := ∀ o, s.heap.get? X.S = some o → s'.heap.get? X.S = some o
section
variable {X : GX} {m m' : Names} {H H' : List O} {ρ ρ' : List Ent} {s s' s'' : Shared}
end
section
variable (prog : Program) (X : GX) (xs : List Str) (Qe : List O → Prop) (A : Around) (c : Code) (d : Nat)
end
section
variable {prog : Program} {X : GX} {xs : List Str} {Qe : List O → Prop} {A : Around} {c : Code} {d n : Nat} {m : Names} {H : List O} {K : Flow → Sem Fin} {Hd : Value → Sem Fin}
end
end Mine
end
section
open PySem PySem.W PyProof.Rows PySem.W.X PySem.SeqAt
namespace Mine
section
variable {prog : Program} {w : World} {A : Around} {E : Value → Shared → Prop} {s : Shared}
end
end Mine
end
section
open PySem PySem.W PyProof.Rows PySem.W.X PySem.SeqAt
namespace Mine
theorem frOf_pos {env : Env} {F : Base} (he : env.frame = some env.locals) : frOf env F = env :: F.fr := if_pos he
section
variable {prog : Program} {w : World} {KF : Frag} {fi : FI} {d : Nat} {E : EP} {m : Names} {H : List O}
end
end Mine
end
section
open PySem PySem.W PyProof.Rows PySem.W.X PySem.SeqAt
namespace Mine
section
variable (prog : Program) (w : World) (KF : Frag) (fi : FI) (d : Nat) (E : EP)
/-- the parts of a formatted text, one behind the other -/
noncomputable def WJ (m : Names) (H : List O) (out : Str) : List Expr → (V → List O → Prop) → Prop
  | [], Q => out.length ≤ sizeLine ∧ Q (.str out) H
  | e :: es, Q => WE prog w KF fi d E m H e fun v H₁ => ∃ y, v = .str y ∧ (out ++ y).length ≤ sizeLine ∧ WJ m H₁ (out ++ y) es Q
end
section
variable {prog : Program} {w : World} {KF : Frag} {fi : FI} {d : Nat} {E : EP} {m : Names} {H : List O}
theorem wj_run {es : List Expr} {Q : V → List O → Prop} : ∀ {H : List O} {out : Str}, WJ prog w KF fi d E m H out es Q → ∀ A env F ρ s, Room A d (frOf env F) → Sim w KF fi env m F ρ H s.heap s.gens →
    wpAny (model prog w) A (joinParts out (evalEach es env)) (SQ w KF VR fi env m F ρ s Q) (SE w KF fi env F ρ s E) s := by
  induction es with
  | nil => exact fun h A env F ρ s hA S => joinParts_nilE (joinParts_nil ⟨ρ, _, .str _, .same (.refl _) rfl, S, by unfold VR; exact ⟨_, rfl⟩, h.2⟩ h.1)
  | cons e es ih =>
    intro H out h A env F ρ s hA S
    refine joinParts_consE (joinParts_cons (wpAny_mono ((show WE prog w KF fi d E m H e _ from h) A env F ρ s hA S) (fun u s₁ hx => ?_) fun _ _ x => x))
    obtain ⟨ρ₁, H₁, v, st₁, S₁, r, y, e, hy, h₁⟩ := hx
    subst e
    obtain ⟨t, rfl⟩ := r.str_eq
    exact ⟨hy, wpAny_mono (ih h₁ A env F ρ₁ s₁ hA S₁) (fun v s₂ ⟨ρ₂, H₂, b, st₂, S₂, rb, h₂⟩ => ⟨ρ₂, H₂, b, st₁.trans st₂, S₂, rb, h₂⟩) fun _ _ x => x.step st₁⟩
theorem we_joined {v₁ v₂ : Expr} {rest : List Expr} {pos : Pos} {Q : V → List O → Prop} (h : WJ prog w KF fi d E m H Str.empty (v₁ :: v₂ :: rest) Q) : WE prog w KF fi d E m H (.JoinedStr (v₁ :: v₂ :: rest) pos) Q :=
  fun A env F ρ s hA S => JoinedStr_many (wj_run h A env F ρ s hA S)
theorem wj_nil {out : Str} {Q : V → List O → Prop} (hz : out.length ≤ sizeLine) (h : Q (.str out) H) : WJ prog w KF fi d E m H out [] Q := ⟨hz, h⟩
theorem wj_cons {e : Expr} {es : List Expr} {out : Str} {Q : V → List O → Prop} (h : WE prog w KF fi d E m H e fun v H₁ => ∃ y, v = .str y ∧ (out ++ y).length ≤ sizeLine ∧ WJ prog w KF fi d E m H₁ (out ++ y) es Q) : WJ prog w KF fi d E m H out (e :: es) Q := h
end
end Mine
end
section
open PySem PySem.W PyProof.Rows PySem.W.X PySem.SeqAt
namespace Mine
theorem ns_some_of {K : Frag} {h : Heap} {N : Nat} {mg : Str → Option Value} {n : Str} {v : Value} (X : K.In h) (G : h.Ns N mg) (e : nsIn K N n = some (some v)) : mg n = some v := by
  obtain ⟨o, es, ep, ho, hd, _, hf⟩ := G
  unfold nsIn at e
  split at e
  · rename_i c d es' n' sl q
    have := X _ _ q
    rw [ho] at this
    cases this
    cases hd
    split at e
    · rename_i en he
      cases e
      rw [← hf]
      unfold nsFind findBy
      rw [← Array.find?_toList, he]
      rfl
    · rename_i he
      split at e <;> cases e
  · cases e
/-- a class of the text's, without bases -/
structure ClsOk (KF : Frag) (C N : Nat) : Prop where
  cl : ∃ nm q bs sn sub col dd k0 k1 k2 k3 k5, KF.lookup C = some (excClassObj nm q C N bs [.type "object"] true sn sub false col dd k0 k1 k2 k3 k5 "object.__new__")
  ns : nsOkIn KF N = true
  ga : nsIn KF N "__getattribute__" = some none
  gh : nsIn KF N "__getattr__" = some none
  sa : nsIn KF N "__setattr__" = some none
section
variable {prog : Program} {w : World} {KF : Frag} {d : Nat} {E : HEP} {H : List O}
theorem ClsOk.nsp {C N : Nat} (K : ClsOk KF C N) {h : Heap} (B : Bs w KF h) : ∃ mN, h.Ns N mN := ⟨_, .of_isNs (isNs_of_in B.k K.ns)⟩
theorem Room.cls {A : Around} {C : Nat} {rest : List Value} {l : List Env} (h : Room A (d + 1) l) : Room (A.under (.builtin "type.__call__" ⟨.ref C :: rest, []⟩)) d l := by
  have hw : (Code.builtin "type.__call__" ⟨.ref C :: rest, []⟩).weight ≤ 4 := by
    unfold Code.weight
    have h1 : (Code.builtin "type.__call__" ⟨.ref C :: rest, []⟩).frames = 0 := by rfl
    have h2 : (Code.builtin "type.__call__" ⟨.ref C :: rest, []⟩).isCaller = false := by rfl
    rw [h1, h2]
    split <;> split <;> simp
  have hu : (Code.builtin "type.__call__" ⟨.ref C :: rest, []⟩).cUnits ≤ 40 := by
    have h1 : (Code.builtin "type.__call__" ⟨.ref C :: rest, []⟩).cUnits = 1 := by rfl
    rw [h1]; decide
  refine ⟨h.fr, h.hd, ?_, ?_⟩
  · have := h.dp; show A.depth + (Code.builtin "type.__call__" ⟨.ref C :: rest, []⟩).weight + 4 * d < _; omega
  · have := h.un; show A.units + (Code.builtin "type.__call__" ⟨.ref C :: rest, []⟩).cUnits + 40 * d + 200 < _; omega
/-- a new instance -/
theorem new_inst {C N fI : Nat} {oI : Obj} {xs : List V} {Q : V → List O → Prop} (K : ClsOk KF C N) (hi : nsIn KF N "__init__" = some (some (.ref fI))) (hfI : KF.lookup fI = some oI) (hfc : oI.cls = .type "function")
    (h : CallW prog w KF d E (H ++ [.inst C []]) (.st fI) (.ref H.length :: xs) fun v H' => v = .none ∧ Q (.ref H.length) H') : CallW prog w KF (d + 1) E H (.st C) xs Q :=
  fun A F ρ s u us hA S ru r => by
    unfold VR at ru
    subst ru
    obtain ⟨hp, g, dr, tk, os⟩ := s
    have B : Bs w KF hp := S.b
    obtain ⟨mN, hn⟩ := K.nsp B
    obtain ⟨nm, q, bs, sn, sub, col, dd, k0, k1, k2, k3, k5, hC⟩ := K.cl
    refine wpAny_call_obj_init PySem.F.objNew (B.k _ _ hC) hn (ns_some_of B.k hn hi) (B.k _ _ hfI) hfc fun h' x dx M => ?_
    obtain ⟨o, hx, hc, hnc, hdn⟩ := M.inst
    have hod := M.dict o hx
    obtain ⟨mA, hdx, hns, hmA⟩ : ∃ mA, dx ≠ x ∧ h'.Ns1 dx mA ∧ ∀ n, mA n = none := by
      rcases hdn with ⟨e, _⟩ | ⟨d', e, hne, hn'⟩
      · rw [hod] at e; cases e
      · rw [hod] at e; cases e; exact ⟨_, hne, hn', fun _ => rfl⟩
    have d1 := S.dead M.newX
    have d2 := S.dead M.newD
    have T := (S.keeps M.keeps).adopt (a := x) (r := [dx]) (o := .inst C []) (by simp [Ne.symm hdx]) (fun b hb => by
      rcases List.mem_cons.mp hb with e | hb
      · rw [e]; exact ⟨d1.1, d1.2, o, hx⟩
      · rw [List.mem_singleton.mp hb]
        obtain ⟨od, _, _, hd, _⟩ := hns
        exact ⟨d2.1, d2.2, od, hd⟩) ⟨rfl, dx, rfl, o, mA, hx, hc, hnc, hod, hns, fun n => hmA n⟩
    have p : ρ <+: ρ ++ [⟨x, [x, dx], none⟩] := List.prefix_append _ _
    refine wpAny_mono (h _ F _ ⟨h', g, dr, tk, os⟩ (.ref fI) (.ref x :: us) hA.cls T (by unfold VR; rfl) (.cons (by unfold VR; exact ⟨_, by rw [← S.len, List.getElem?_concat_length], rfl⟩) (r.mono p (.of_keep M.keeps)))) (fun v s' ⟨ρ', H', b, st, T', rv, hb, hq⟩ => ?_) (fun _ _ ⟨_, _, _, _, _, x, _⟩ => x.elim)
    subst hb
    unfold VR at rv
    refine ⟨rv, ρ', H', _, Step.trans (s₁ := ⟨h', g, dr, tk, os⟩) (Step.add (.of_keep M.keeps) rfl) st, T', ?_, hq⟩
    unfold VR
    exact ⟨_, pre_get st.1 (by rw [← S.len, List.getElem?_concat_length]), rfl⟩
theorem fp_nodup : ∀ {ρ : List Ent} {e : Ent}, (fps ρ).Nodup → e ∈ ρ → e.fp.Nodup
  | [], _, _, h => nomatch h
  | x :: ρ, e, nd, h => by
    have nd' : (x.fp ++ fps ρ).Nodup := nd
    obtain ⟨n1, n2, _⟩ := List.nodup_append.mp nd'
    rcases List.mem_cons.mp h with rfl | h
    · exact n1
    · exact fp_nodup n2 h
theorem inst_at {F : Base} {ρ : List Ent} {h : Heap} {gs : Array GenState} {i C : Nat} {fs : List (Str × V)} {e : Ent} (S : HSim w KF F ρ H h gs) (hl : H[i]? = some (.inst C fs)) (he : ρ[i]? = some e) :
    ∃ dx o mA, e.fp = [e.a, dx] ∧ h.get? e.a = some o ∧ o.dict = some dx ∧ dx ≠ e.a ∧ h.Inst e.a C mA ∧ h.Ns1 dx mA ∧ FsR ρ h fs mA := by
  obtain ⟨g, dx, hf, o, mA, h1, h2, h3, h4, h5, h6⟩ := S.ob i e _ he hl
  have hne : dx ≠ e.a := fun q => by
    have nd := S.nd
    have : e.fp.Nodup := fp_nodup nd (List.mem_of_getElem? he)
    rw [hf, q] at this
    simp at this
  exact ⟨dx, o, mA, hf, h1, h4, hne, ⟨o, h1, h2, h3, .inr ⟨dx, h4, hne, h5⟩⟩, h5, h6⟩
theorem meth_inst {C N i f : Nat} {fs : List (Str × V)} {name : Str} {of : Obj} {y : Option Value} (K : ClsOk KF C N) (hf : nsIn KF N name = some (some (.ref f))) (hfo : KF.lookup f = some of) (hfc : of.cls = .type "function") (hB : typeLookup (.type "object") name = pure y)
    (hl : H[i]? = some (.inst C fs)) (hsh : fs.lookup name = none) : MethIs prog w KF H (.ref i) name (.st f) := fun A F ρ s u pl Q E' S r h => by
  obtain ⟨e, he, rfl⟩ := r.ref_eq
  obtain ⟨dx, o, mA, hfp, h1, h2, h3, I, hns, hfs⟩ := inst_at S hl he
  obtain ⟨hp, g, dr, tk, os⟩ := s
  have B : Bs w KF hp := S.b
  obtain ⟨mN, hn⟩ := K.nsp B
  obtain ⟨nm, q, bs, sn, sub, col, dd, k0, k1, k2, k3, k5, hC⟩ := K.cl
  refine method_of (B.k _ _ hC) hn (ns_none_of B.k hn K.ga) (ns_none_of B.k hn K.gh) (ns_some_of B.k hn hf) (B.k _ _ hfo) hfc hB I ?_ (h _ (by unfold VR; rfl))
  have := hfs name
  rw [hsh] at this
  exact this
theorem set_inst {C N i : Nat} {fs : List (Str × V)} {name : Str} {v : V} {Q : Unit → List O → Prop} (K : ClsOk KF C N) (hna : nsIn KF N name = some none) (hB : typeLookup (.type "object") name = pure none) (hl : H[i]? = some (.inst C fs)) (hsz : fs.length ≤ sizeLine)
    (h : Q () (H.set i (.inst C ((name, v) :: fs)))) : W2 prog w KF d E UnR H (fun u v => setAttr u name v) (.ref i) v Q := fun A F ρ s u x hA S ru rv => by
  obtain ⟨e, he, rfl⟩ := ru.ref_eq
  obtain ⟨dx, o, mA, hfp, h1, h2, h3, I, hns, hfs⟩ := inst_at S hl he
  obtain ⟨hp, g, dr, tk, os⟩ := s
  have B : Bs w KF hp := S.b
  obtain ⟨mN, hn⟩ := K.nsp B
  obtain ⟨nm, q, bs, sn, sub, col, dd, k0, k1, k2, k3, k5, hC⟩ := K.cl
  have hxC : e.a ≠ C := fun q => by
    obtain ⟨o', ho', _, hnc, _⟩ := I
    rw [q] at ho'
    have := B.k _ _ hC
    rw [this] at ho'
    cases ho'
    exact hnc _ rfl
  have hw : PySem.Within mA (fs.map (·.1)) := fun y hy => by
    have := hfs y
    split at this
    · rename_i z hz
      exact List.mem_map.mpr ⟨_, mem_of_lookup hz, rfl⟩
    · exact absurd this hy
  refine store_attr PySem.F.store_object (B.k _ _ hC) hn (ns_none_of B.k hn K.sa) (ns_none_of B.k hn hna) hB hxC I (fun h' tk' I' hk hsame => ?_) hw (by simpa using hsz)
  obtain ⟨o₁, ho₁, c1, c2, c3, c4⟩ := hsame o h1
  have eo : o₁ = o := by
    have c4 := c4 dx h2
    cases o₁; cases o
    simp_all
  subst eo
  obtain ⟨o', ho', hc', hnc', hd'⟩ := I'
  rw [ho₁] at ho'
  cases ho'
  obtain ⟨hdx', hns'⟩ : dx ≠ e.a ∧ h'.Ns1 dx (fun y => if y = name then some x else mA y) := by
    rcases hd' with ⟨q, _⟩ | ⟨d', q, hne, hn'⟩
    · rw [h2] at q; cases q
    · rw [h2] at q; cases q; exact ⟨hne, hn'⟩
  have keep : ∀ b o, b ≠ dx → hp.get? b = some o → h'.get? b = some o := fun b ob hb eb => by
    by_cases q : b = e.a
    · subst q; rw [h1] at eb; cases eb; exact ho₁
    · exact hk b ob q (fun o₀ d₀ g1 g2 => by rw [h1] at g1; cases g1; rw [h2] at g2; cases g2; exact hb) eb
  have tk : TK hp h' := .of_ext keep (ns_not_imm hns.ns)
  have T := S.upd (o' := .inst C ((name, v) :: fs)) he (h' := h') (fun b ob hb eb => keep b ob (fun q => hb (by rw [hfp, q]; exact .tail _ (.head _))) eb) (fun b hb => by
    rw [hfp] at hb
    rcases List.mem_cons.mp hb with q | hb
    · rw [q]; exact ⟨_, ho₁⟩
    · rw [List.mem_singleton.mp hb]
      obtain ⟨od, _, _, hd, _⟩ := hns'
      exact ⟨od, hd⟩) tk ⟨(S.ob i e _ he hl).1, dx, hfp, o₁, _, ho₁, hc', hnc', h2, hns', fun n => by
    rw [List.lookup_cons]
    by_cases q : n = name
    · rw [q, beq_self_eq_true]
      exact ⟨x, if_pos rfl, rv.mono (List.prefix_refl _) tk⟩
    · rw [show (n == name) = false by simpa using q]
      have := hfs.mono (List.prefix_refl _) tk n
      show match fs.lookup n with | some v => ∃ u, (if n = name then some x else mA n) = some u ∧ VR ρ h' v u | none => (if n = name then some x else mA n) = none
      rw [if_neg q]
      exact this⟩
  exact ⟨ρ, _, (), .same tk rfl, T, trivial, h⟩
end
end Mine
end
section
open PySem PySem.W PyProof.Rows PySem.W.X PySem.SeqAt
namespace Mine
section
variable {prog : Program} {w : World} {KF : Frag} {d : Nat} {E : HEP} {H : List O} {Q : V → List O → Prop}
-- membership
section
variable {k : Nat} {xs ys : List V} {e : V → V → Bool} {A : Around} {F : Base} {ρ : List Ent} {s : Shared} {vs us : List Value}
end
end
end Mine
end
section
open PySem PySem.W PyProof.Rows PySem.W.X PySem.SeqAt
namespace Mine
end Mine
end
section
open PySem PySem.W PyProof.Rows PySem.W.X PySem.SeqAt
namespace Mine
section
variable {prog : Program} {w : World} {KF : Frag} {fi : FI} {d : Nat} {E : EP} {m : Names} {H : List O}
end
end Mine
end
section
open PySem PySem.W PyProof.Rows PySem.W.X PySem.SeqAt
namespace Mine
-- arguments, one by one
theorem args1 {us : List Value} (h : us.length = 1) : ∃ a, us = [a] := List.length_eq_one_iff.mp h
theorem args2 {us : List Value} (h : us.length = 2) : ∃ a0 a1, us = [a0, a1] := by
  cases us with
  | nil => cases h
  | cons a us =>
    obtain ⟨b0, e⟩ := args1 (Nat.succ.inj h)
    exact ⟨a, b0, by rw [e]⟩
theorem args3 {us : List Value} (h : us.length = 3) : ∃ a0 a1 a2, us = [a0, a1, a2] := by
  cases us with
  | nil => cases h
  | cons a us =>
    obtain ⟨b0, b1, e⟩ := args2 (Nat.succ.inj h)
    exact ⟨a, b0, b1, by rw [e]⟩
theorem args4 {us : List Value} (h : us.length = 4) : ∃ a0 a1 a2 a3, us = [a0, a1, a2, a3] := by
  cases us with
  | nil => cases h
  | cons a us =>
    obtain ⟨b0, b1, b2, e⟩ := args3 (Nat.succ.inj h)
    exact ⟨a, b0, b1, b2, by rw [e]⟩
theorem args5 {us : List Value} (h : us.length = 5) : ∃ a0 a1 a2 a3 a4, us = [a0, a1, a2, a3, a4] := by
  cases us with
  | nil => cases h
  | cons a us =>
    obtain ⟨b0, b1, b2, b3, e⟩ := args4 (Nat.succ.inj h)
    exact ⟨a, b0, b1, b2, b3, by rw [e]⟩
section
variable (prog : Program) (w : World) (KF : Frag) (fi : FI) (d : Nat) (E : EP) (m : Names)
noncomputable abbrev KB2 (op : Operator) (a : V) (Q : V → List O → Prop) : V → List O → Prop := fun b H => W2 prog w KF d (Em E m) VR H (binaryOp op) a b Q
noncomputable abbrev KB1 (op : Operator) (r : Expr) (Q : V → List O → Prop) : V → List O → Prop := fun a H => WE prog w KF fi d E m H r (KB2 prog w KF d E m op a Q)
noncomputable abbrev KU (op : UnaryOp) (Q : V → List O → Prop) : V → List O → Prop := fun a H => W1 prog w KF d (Em E m) VR H (unaryOp op) a Q
noncomputable abbrev KC2 (op : CmpOp) (a : V) (Q : V → List O → Prop) : V → List O → Prop := fun b H => W2 prog w KF d (Em E m) VR H (compareOp op) a b Q
noncomputable abbrev KC1 (op : CmpOp) (r : Expr) (Q : V → List O → Prop) : V → List O → Prop := fun a H => WE prog w KF fi d E m H r (KC2 prog w KF d E m op a Q)
noncomputable abbrev KT (Q : Bool → List O → Prop) : V → List O → Prop := fun c H => W1 prog w KF d (Em E m) EqR H truthy c Q
noncomputable abbrev KN (Q : Bool → List O → Prop) : Bool → List O → Prop := fun b H => Q (!b) H
noncomputable abbrev KAnd (y : Expr) (r : List Expr) (pos : Pos) (Q : Bool → List O → Prop) : Bool → List O → Prop := fun b H => if b = true then WT prog w KF fi d E m H (.BoolOp .And (y :: r) pos) Q else Q false H
noncomputable abbrev KOr (y : Expr) (r : List Expr) (pos : Pos) (Q : Bool → List O → Prop) : Bool → List O → Prop := fun b H => if b = true then Q true H else WT prog w KF fi d E m H (.BoolOp .Or (y :: r) pos) Q
noncomputable abbrev KIf (x y : Expr) (Q : V → List O → Prop) : Bool → List O → Prop := fun b H => if b = true then WE prog w KF fi d E m H x Q else WE prog w KF fi d E m H y Q
noncomputable abbrev KL (Q : V → List O → Prop) : List V → List O → Prop := fun vs H => vs.length ≤ sizeLine ∧ Q (.ref H.length) (H ++ [.list vs])
noncomputable abbrev KTu (Q : V → List O → Prop) : List V → List O → Prop := fun vs H => vs.length ≤ sizeLine ∧ Q (.tup vs) H
noncomputable abbrev KE2 (v : V) (Q : List V → List O → Prop) : List V → List O → Prop := fun vs H => Q (v :: vs) H
noncomputable abbrev KE1 (es : List Expr) (Q : List V → List O → Prop) : V → List O → Prop := fun v H => WEs prog w KF fi d E m H es (KE2 v Q)
noncomputable abbrev KCa2 (f : V) (Q : V → List O → Prop) : List V → List O → Prop := fun vs H => CallW prog w KF d (Em E m) H f vs Q
noncomputable abbrev KCa (args : List Expr) (Q : V → List O → Prop) : V → List O → Prop := fun f H => Callee KF f ∧ WEs prog w KF fi d E m H args (KCa2 prog w KF d E m f Q)
noncomputable abbrev KMe2 (f x : V) (Q : V → List O → Prop) : List V → List O → Prop := fun vs H => CallW prog w KF d (Em E m) H f (x :: vs) Q
noncomputable abbrev KMe (name : Str) (args : List Expr) (Q : V → List O → Prop) : V → List O → Prop := fun x H => ∃ f, MethIs prog w KF H x name f ∧ Callee KF f ∧ WEs prog w KF fi d E m H args (KMe2 prog w KF d E m f x Q)
noncomputable abbrev KS2 (o : V) (Q : V → List O → Prop) : V → List O → Prop := fun i H => W2 prog w KF d (Em E m) VR H subOp o i Q
noncomputable abbrev KS1 (slice : Expr) (Q : V → List O → Prop) : V → List O → Prop := fun o H => WE prog w KF fi d E m H slice (KS2 prog w KF d E m o Q)
noncomputable abbrev KSl4 (o lv uv : V) (Q : V → List O → Prop) : V → List O → Prop := fun kv H => SliceW prog w KF d (Em E m) H o lv uv kv Q
noncomputable abbrev KSl3 (k : Option Expr) (o lv : V) (Q : V → List O → Prop) : V → List O → Prop := fun uv H => WEo prog w KF d fi E m H k (KSl4 prog w KF d E m o lv uv Q)
noncomputable abbrev KSl2 (u k : Option Expr) (o : V) (Q : V → List O → Prop) : V → List O → Prop := fun lv H => WEo prog w KF d fi E m H u (KSl3 prog w KF fi d E m k o lv Q)
noncomputable abbrev KSl1 (l u k : Option Expr) (Q : V → List O → Prop) : V → List O → Prop := fun o H => WEo prog w KF d fi E m H l (KSl2 prog w KF fi d E m u k o Q)
noncomputable abbrev KM (Q : Names → List O → Prop) : Unit → List O → Prop := fun _ H => Q m H
noncomputable abbrev KA2 (ov v : V) (Q : Names → List O → Prop) : V → List O → Prop := fun iv H => W3 prog w KF d (Em E m) UnR H setItem ov iv v (KM m Q)
noncomputable abbrev KA1 (i : Expr) (v : V) (Q : Names → List O → Prop) : V → List O → Prop := fun ov H => WE prog w KF fi d E m H i (KA2 prog w KF d E m ov v Q)
noncomputable abbrev KAt (attr : Str) (v : V) (Q : Names → List O → Prop) : V → List O → Prop := fun ov H => W2 prog w KF d (Em E m) UnR H (fun u v => setAttr u attr v) ov v (KM m Q)
noncomputable abbrev KWt (es : List Expr) (Q : Names → List O → Prop) : List V → List O → Prop := fun vs H => WAs prog w KF fi d E m H es vs Q
noncomputable abbrev KNx (Q : Fl → Names → List O → Prop) : Names → List O → Prop := fun m H => Q .next m H
noncomputable abbrev KAs (t : Expr) (Q : Fl → Names → List O → Prop) : V → List O → Prop := fun v H => WA prog w KF fi d E m H t v (KNx Q)
noncomputable abbrev KAs3 (t' : Expr) (v : V) (Q : Fl → Names → List O → Prop) : Names → List O → Prop := fun m H => WA prog w KF fi d E m H t' v (KNx Q)
noncomputable abbrev KAs2 (t t' : Expr) (Q : Fl → Names → List O → Prop) : V → List O → Prop := fun v H => WA prog w KF fi d E m H t v (KAs3 prog w KF fi d E t' v Q)
noncomputable abbrev KAu2 (x : Str) (Q : Fl → Names → List O → Prop) : V → List O → Prop := fun c H => Q .next (setL m x c) H
noncomputable abbrev KAu (op : Operator) (a : V) (x : Str) (Q : Fl → Names → List O → Prop) : V → List O → Prop := fun b H => W2 prog w KF d (Em E m) VR H (inplaceOp op) a b (KAu2 m x Q)
noncomputable abbrev KMn (Q : Fl → Names → List O → Prop) : Unit → List O → Prop := fun _ H => Q .next m H
noncomputable abbrev KG5 (ov iv : V) (Q : Fl → Names → List O → Prop) : V → List O → Prop := fun c H => W3 prog w KF d (Em E m) UnR H setItem ov iv c (KMn m Q)
noncomputable abbrev KG4 (op : Operator) (ov iv a : V) (Q : Fl → Names → List O → Prop) : V → List O → Prop := fun b H => W2 prog w KF d (Em E m) VR H (inplaceOp op) a b (KG5 prog w KF d E m ov iv Q)
noncomputable abbrev KG3 (op : Operator) (value : Expr) (ov iv : V) (Q : Fl → Names → List O → Prop) : V → List O → Prop := fun a H => WE prog w KF fi d E m H value (KG4 prog w KF d E m op ov iv a Q)
noncomputable abbrev KG2 (op : Operator) (value : Expr) (ov : V) (Q : Fl → Names → List O → Prop) : V → List O → Prop := fun iv H => W2 prog w KF d (Em E m) VR H getItem ov iv (KG3 prog w KF fi d E m op value ov iv Q)
noncomputable abbrev KG1 (op : Operator) (i value : Expr) (Q : Fl → Names → List O → Prop) : V → List O → Prop := fun ov H => WE prog w KF fi d E m H i (KG2 prog w KF fi d E m op value ov Q)
noncomputable abbrev KSi (x y : List Stmt) (Q : Fl → Names → List O → Prop) : Bool → List O → Prop := fun b H => if b = true then WB prog w KF fi d E m H x Q else WB prog w KF fi d E m H y Q
noncomputable abbrev KRe (Q : Fl → Names → List O → Prop) : V → List O → Prop := fun v H => Q (.ret v) m H
noncomputable abbrev KEx (Q : Fl → Names → List O → Prop) : V → List O → Prop := fun _ H => Q .next m H
noncomputable abbrev KSeq (rest : List Stmt) (Q : Fl → Names → List O → Prop) : Fl → Names → List O → Prop := fun f m H => match f with | .next => WB prog w KF fi d E m H rest Q | f => Q f m H
noncomputable abbrev KFor (J : Nat → Names → List O → Prop) (i : Nat) (Q : Fl → Names → List O → Prop) : Fl → Names → List O → Prop := fun f m H => match f with | .next | .cont => J (i + 1) m H | .brk => Q .next m H | .ret v => Q (.ret v) m H
noncomputable abbrev KFn (Q : V → List O → Prop) : Fl → Names → List O → Prop := fun f _ H => match f with | .ret v => Q v H | .next => Q .none H | _ => False
end
section
variable {prog : Program} {w : World} {KF : Frag} {fi : FI} {d : Nat} {E : EP} {m : Names} {H : List O}
theorem wd_bin {l r : Expr} {op : Operator} {pos : Pos} {Q : V → List O → Prop} (h : WE prog w KF fi d E m H l (KB1 prog w KF fi d E m op r Q)) : WE prog w KF fi d E m H (.BinOp l op r pos) Q := we_bin h
theorem wd_cmp {l r : Expr} {op : CmpOp} {pos : Pos} {Q : V → List O → Prop} (h : WE prog w KF fi d E m H l (KC1 prog w KF fi d E m op r Q)) (hm : behindInMarks op r = false := by with_unfolding_all rfl) : WE prog w KF fi d E m H (.Compare l [op] [r] pos) Q := we_cmp h hm
theorem wdt_cmp {l r : Expr} {op : CmpOp} {pos : Pos} {Q : Bool → List O → Prop} (h : WE prog w KF fi d E m H l (KC1 prog w KF fi d E m op r (KT prog w KF d E m Q))) (hm : behindInMarks op r = false := by with_unfolding_all rfl) : WT prog w KF fi d E m H (.Compare l [op] [r] pos) Q := wt_cmp h hm
theorem wd_list {es : List Expr} {pos : Pos} {Q : V → List O → Prop} (h : WEs prog w KF fi d E m H es (KL Q)) (hp : Plain es := by intro _; rfl) : WE prog w KF fi d E m H (.List es pos) Q := we_list h hp
theorem wds_cons {e : Expr} {es : List Expr} {Q : List V → List O → Prop} (h : WE prog w KF fi d E m H e (KE1 prog w KF fi d E m es Q)) : WEs prog w KF fi d E m H (e :: es) Q := h
theorem wd_call {func : Expr} {args : List Expr} {pos : Pos} {Q : V → List O → Prop} (h : WE prog w KF fi d E m H func (KCa prog w KF fi d E m args Q))
    (hp : Plain args := by intro _; rfl) (he : ∀ env, eval (.Call func args [] pos) env = (do callWith pos (← eval func env) [] (backTo pos (starEach args env)) (backToKw pos (keywordEach [] env))) := by intro _; rfl) : WE prog w KF fi d E m H (.Call func args [] pos) Q := we_call h hp he
theorem wd_meth {o : Expr} {name : Str} {apos pos : Pos} {args : List Expr} {pl : Env → Sem Bool} {Q : V → List O → Prop} (h : WE prog w KF fi d E m H o (KMe prog w KF fi d E m name args Q))
    (hp : Plain args := by intro _; rfl) (he : ∀ env, eval (.Call (.Attribute o name apos) args [] pos) env = (do
      let ov ← eval o env
      standAt apos.atName
      let (f, first) ← holding [ov] (getMethod ov name (pl env))
      callWith pos f first (backTo pos (starEach args env)) []) := by intro _; rfl) : WE prog w KF fi d E m H (.Call (.Attribute o name apos) args [] pos) Q := we_meth h hp he
theorem wd_sub {value slice : Expr} {pos : Pos} {Q : V → List O → Prop} (h : WE prog w KF fi d E m H value (KS1 prog w KF fi d E m slice Q))
    (hs : ∀ b o i, subscripted slice b o i = (match b with | true => runValue (.builtin "lifetime.subscript" ⟨[o, i], []⟩) | false => operate [o, i] (getItem o i)) := by intro b o i; cases b <;> rfl) : WE prog w KF fi d E m H (.Subscript value slice pos) Q := we_sub h hs
theorem wd_slice {value : Expr} {l u k : Option Expr} {p pos : Pos} {Q : V → List O → Prop} (h : WE prog w KF fi d E m H value (KSl1 prog w KF fi d E m l u k Q)) : WE prog w KF fi d E m H (.Subscript value (.Slice l u k p) pos) Q := we_slice h
theorem wda_sub {o i : Expr} {pos : Pos} {v : V} {Q : Names → List O → Prop} (h : WE prog w KF fi d E m H o (KA1 prog w KF fi d E m i v Q)) : WA prog w KF fi d E m H (.Subscript o i pos) v Q := wa_sub h
theorem wda_attr {o : Expr} {attr : Str} {pos : Pos} {v : V} {Q : Names → List O → Prop} (h : WE prog w KF fi d E m H o (KAt prog w KF d E m attr v Q)) : WA prog w KF fi d E m H (.Attribute o attr pos) v Q := wa_attr h
theorem wd_assign {t value : Expr} {pos : Pos} {Q : Fl → Names → List O → Prop} (h : WE prog w KF fi d E m H value (KAs prog w KF fi d E m t Q))
    (hs : ∀ env, swapsWithSole [t] value pos.line env = pure false := by intro _; rfl) (hw : ∀ env, swappedStores [t] value env = pure none := by intro _; rfl) (he : ∀ env, assignEach [t] env = [(false, assign t env)] := by intro _; rfl) : WS prog w KF fi d E m H (.Assign [t] value pos) Q := ws_assign h hs hw he
theorem wds_if {c : Expr} {x y : List Stmt} {pos : Pos} {Q : Fl → Names → List O → Prop} (h : WT prog w KF fi d E m H c (KSi prog w KF fi d E m x y Q)) : WS prog w KF fi d E m H (.If c x y pos) Q := ws_if h
theorem wd_ret {e : Expr} {pos : Pos} {Q : Fl → Names → List O → Prop} (h : WE prog w KF fi d E m H e (KRe m Q)) : WS prog w KF fi d E m H (.Return (some e) pos) Q := ws_ret h
theorem wd_expr {e : Expr} {pos : Pos} {Q : Fl → Names → List O → Prop} (h : WE prog w KF fi d E m H e (KEx m Q)) (hs : ∀ env, swapsWith e none pos.line env = pure false := by intro _; rfl) : WS prog w KF fi d E m H (.Expr e pos) Q := ws_expr h hs
theorem wd_seq {st : Stmt} {rest : List Stmt} {Q : Fl → Names → List O → Prop} (h : WS prog w KF fi d E m H st (KSeq prog w KF fi d E rest Q)) : WB prog w KF fi d E m H (st :: rest) Q := wb_cons (by
  intro A env F ρ s hA S
  exact wpAny_mono (h A env F ρ s hA S) (fun v s' ⟨ρ', H', m', fl, st, T, rv, q⟩ => ⟨ρ', H', m', fl, st, T, rv, by cases fl <;> exact q⟩) fun _ _ x => x)
end
section
variable {prog : Program} {w : World} {KF : Frag} {d : Nat} {E : HEP} {H : List O} {a : Nat} {o : Obj} {fd : FuncData} {body : List Stmt} {sc : Scope} {ps : List Str} {xs : List V}
end
section
variable {prog : Program} {w : World} {KF : Frag} {fi : FI} {d : Nat} {E : EP} {m : Names} {H : List O} {b : Bool}
-- the ways of a test
theorem ksi_p {x y : List Stmt} {Q : Fl → Names → List O → Prop} (hb : b = true) (h : WB prog w KF fi d E m H x Q) : KSi prog w KF fi d E m x y Q b H := by subst hb; exact h
theorem ksi_n {x y : List Stmt} {Q : Fl → Names → List O → Prop} (hb : ¬ b = true) (h : WB prog w KF fi d E m H y Q) : KSi prog w KF fi d E m x y Q b H := by rw [Bool.not_eq_true] at hb; subst hb; exact h
end
end Mine
end
section
open PySem PySem.W PyProof.Rows PySem.W.X PySem.SeqAt
namespace Mine
/-! the layer over wpU: what drives a generator that sleeps in «yield from» -/
section
variable (prog : Program) (w : World) (KF : Frag) (fi : FI) (d : Nat) (E : EP)
noncomputable def WEU (m : Names) (H : List O) (e : Expr) (Q : V → List O → Prop) : Prop :=
  ∀ A env F ρ s, Room A d (frOf env F) → Sim w KF fi env m F ρ H s.heap s.gens → wpU (model prog w) A (eval e env) (SQ w KF VR fi env m F ρ s Q) (SE w KF fi env F ρ s E) s
noncomputable def WTU (m : Names) (H : List O) (e : Expr) (Q : Bool → List O → Prop) : Prop :=
  ∀ A env F ρ s, Room A d (frOf env F) → Sim w KF fi env m F ρ H s.heap s.gens → wpU (model prog w) A (isTrue e env (eval e env)) (SQ w KF EqR fi env m F ρ s Q) (SE w KF fi env F ρ s E) s
noncomputable def WSU (m : Names) (H : List O) (st : Stmt) (Q : Fl → Names → List O → Prop) : Prop :=
  ∀ A env F ρ s, Room A d (frOf env F) → Sim w KF fi env m F ρ H s.heap s.gens → wpU (model prog w) A (exec st env) (StQ w KF fi env F ρ s Q) (SE w KF fi env F ρ s E) s
noncomputable def WBU (m : Names) (H : List O) (st : List Stmt) (Q : Fl → Names → List O → Prop) : Prop :=
  ∀ A env F ρ s, Room A d (frOf env F) → Sim w KF fi env m F ρ H s.heap s.gens → wpU (model prog w) A (execs st env) (StQ w KF fi env F ρ s Q) (SE w KF fi env F ρ s E) s
end
noncomputable def CallU (prog : Program) (w : World) (KF : Frag) (d : Nat) (E : HEP) (H : List O) (f : V) (xs : List V) (Q : V → List O → Prop) : Prop :=
  ∀ A F ρ s u us, Room A d F.fr → HSim w KF F ρ H s.heap s.gens → VR ρ s.heap f u → VRs ρ s.heap xs us → wpU (model prog w) A (call u us) (HQ w KF VR F ρ s Q) (HE w KF F ρ s E) s
section
variable {prog : Program} {w : World} {KF : Frag} {fi : FI} {d : Nat} {E : EP} {m : Names} {H : List O}
theorem ontoU {α : Type} {A : Around} {t : Sem α} {K K' : α → Shared → Prop} {env : Env} {F : Base} {ρ ρ₁ : List Ent} {s s₁ s₂ : Shared} (st : Step ρ s ρ₁ s₁) (h : wpU (model prog w) A t K (SE w KF fi env F ρ₁ s₁ E) s₂) (hk : ∀ v s', K v s' → K' v s') : wpU (model prog w) A t K' (SE w KF fi env F ρ s E) s₂ :=
  wpU_mono h hk fun _ _ x => x.step st
theorem wtU {e : Expr} {Q : Bool → List O → Prop} (h : WT prog w KF fi d E m H e Q) : WTU prog w KF fi d E m H e Q := fun A env F ρ s hA S => up (h A env F ρ s hA S)
theorem wsU {st : Stmt} {Q : Fl → Names → List O → Prop} (h : WS prog w KF fi d E m H st Q) : WSU prog w KF fi d E m H st Q := fun A env F ρ s hA S => up (h A env F ρ s hA S)
theorem wbU {st : List Stmt} {Q : Fl → Names → List O → Prop} (h : WB prog w KF fi d E m H st Q) : WBU prog w KF fi d E m H st Q := fun A env F ρ s hA S => up (h A env F ρ s hA S)
noncomputable abbrev KSeqU (prog : Program) (w : World) (KF : Frag) (fi : FI) (d : Nat) (E : EP) (rest : List Stmt) (Q : Fl → Names → List O → Prop) : Fl → Names → List O → Prop := fun f m H => match f with | .next => WBU prog w KF fi d E m H rest Q | f => Q f m H
theorem wu_nil {Q : Fl → Names → List O → Prop} (h : Q .next m H) : WBU prog w KF fi d E m H [] Q := wbU (wb_nil h)
theorem wu_seq {st : Stmt} {rest : List Stmt} {Q : Fl → Names → List O → Prop} (h : WSU prog w KF fi d E m H st (KSeqU prog w KF fi d E rest Q)) : WBU prog w KF fi d E m H (st :: rest) Q :=
  fun A env F ρ s hA S => by
    rw [execs_cons]
    refine wpU_bind (wpU_mono (h A env F ρ s hA S) (fun f s₁ hx => ?_) fun _ _ x => x)
    obtain ⟨ρ₁, H₁, m₁, fl, st₁, S₁, rf, h₁⟩ := hx
    cases fl with
    | next => cases rf; exact ontoU st₁ ((show WBU prog w KF fi d E m₁ H₁ rest Q from h₁) A env F ρ₁ s₁ hA S₁) fun _ _ x => x.step st₁
    | brk => cases rf; exact wpU_pure ⟨ρ₁, H₁, m₁, .brk, st₁, S₁, rfl, h₁⟩
    | cont => cases rf; exact wpU_pure ⟨ρ₁, H₁, m₁, .cont, st₁, S₁, rfl, h₁⟩
    | ret v => obtain ⟨u, rfl, r⟩ := rf; exact wpU_pure ⟨ρ₁, H₁, m₁, .ret v, st₁, S₁, ⟨u, rfl, r⟩, h₁⟩
/-- a statement that drives no such generator -/
theorem wu_quiet {st : Stmt} {rest : List Stmt} {Q : Fl → Names → List O → Prop} (h : WS prog w KF fi d E m H st (KSeqU prog w KF fi d E rest Q)) : WBU prog w KF fi d E m H (st :: rest) Q := wu_seq (wsU h)
theorem wu_if {c : Expr} {x y : List Stmt} {pos : Pos} {Q : Fl → Names → List O → Prop} (h : WTU prog w KF fi d E m H c fun b H => if b = true then WBU prog w KF fi d E m H x Q else WBU prog w KF fi d E m H y Q) : WSU prog w KF fi d E m H (.If c x y pos) Q :=
  fun A env F ρ s hA S => by
    rw [exec_If]
    refine wpU_bind (wpU_standAt (wpU_bind (wpU_mono (h A env F ρ s hA S) (fun b s₁ hq => ?_) fun _ _ x => x)))
    obtain ⟨ρ₁, H₁, a, st₁, S₁, ra, h₁⟩ := hq
    cases ra
    cases b
    · exact ontoU st₁ ((show WBU prog w KF fi d E m H₁ y Q from h₁) A env F ρ₁ s₁ hA S₁) fun _ _ x => x.step st₁
    · exact ontoU st₁ ((show WBU prog w KF fi d E m H₁ x Q from h₁) A env F ρ₁ s₁ hA S₁) fun _ _ x => x.step st₁
theorem wpU_operate {M : Model} {A : Around} {s : Shared} {Q : Value → Shared → Prop} {E' : Value → Shared → Prop} {vs : List Value} {t : Sem Value} (h : wpU M A t Q E' s) : wpU M A (operate vs t) Q E' s := by
  unfold operate
  exact wpU_bind (wpU_holding (wpU_mono h (fun r s' q => wpU_bind (up (wpAny_release (wpU_pure q)))) fun _ _ x => x))
theorem wtu_cmp {l r : Expr} {op : CmpOp} {pos : Pos} {Q : Bool → List O → Prop} (h : WEU prog w KF fi d E m H l (KC1 prog w KF fi d E m op r (KT prog w KF d E m Q))) (hm : behindInMarks op r = false := by with_unfolding_all rfl) : WTU prog w KF fi d E m H (.Compare l [op] [r] pos) Q :=
  fun A env F ρ s hA S => by
    rw [isTrue_Compare1, markedBehindIn_of_false hm]
    refine wpU_bind (wpU_mono (h A env F ρ s hA S) (fun u s₁ hq => ?_) fun _ _ x => x)
    obtain ⟨ρ₁, H₁, a, st₁, S₁, ra, h₁⟩ := hq
    refine wpU_bind (wpU_holding (ontoU st₁ (up ((show WE prog w KF fi d E m H₁ r _ from h₁) A env F ρ₁ s₁ hA S₁)) fun v s₂ hq => ?_))
    obtain ⟨ρ₂, H₂, b, st₂, S₂, rb, h₂⟩ := hq
    have t2 := st₁.trans st₂
    refine wpU_bind (wpU_standAt (wpU_bind (wpU_operate (ontoU t2 (up (lift S₂ fun F' q T => (show W2 prog w KF d (Em E m) VR H₂ (compareOp op) a b _ from h₂) A F' ρ₂ s₂ u v (q ▸ hA) T (ra.mono st₂.1 st₂.2.1) rb)) fun c s₃ hq => ?_))))
    obtain ⟨ρ₃, H₃, cv, st₃, S₃, rc, h₃⟩ := hq
    exact wpU_holding (ontoU (t2.trans st₃) (up (lift S₃ fun F' q T => (show W1 prog w KF d (Em E m) EqR H₃ truthy cv Q from h₃) A F' ρ₃ s₃ c (q ▸ hA) T rc)) fun _ _ x => x.step (t2.trans st₃))
end
-- loops
section
variable {M : Model} {A : Around} {s : Shared}
theorem codeU_loop {c : Code} {R : Result → Shared → Prop} (hq : c.quiet = true) (I : Nat → Shared → Prop)
    (turn : ∀ n s, I n s → wpU M (A.under c) (M.den c) (fun fin s' => match fin with
        | .done f => R (.ok f) s'
        | .again c' => (c' = c ∧ ∃ m, m < n ∧ I m s') ∨ (c'.quiet = true ∧ codeU M A c' R s')) (fun e s' => R (.error e) s') s)
    (n : Nat) (h : I n s) : codeU M A c R s := by
  induction n using Nat.strongRecOn generalizing s with
  | ind n ih =>
    refine codeU_of (wpU_mono (turn n s h) (fun fin s' hf => ?_) fun _ _ x => x)
    cases fin with
    | done f => exact hf
    | again c' =>
      rcases hf with ⟨rfl, m, hm, hI⟩ | hf
      · exact ⟨hq, ih m hm hI⟩
      · exact hf
theorem codeU_mono {c : Code} {R R' : Result → Shared → Prop} (h : codeU M A c R s) (k : ∀ r s, R r s → R' r s) : codeU M A c R' s := fun p st hb Φ hR => h p st hb Φ fun r s' c' p' q => hR r s' c' p' (k r s' q)
end
section
variable {prog : Program} {w : World} {A : Around}
/-- a for loop whose turns raise nothing -/
theorem for_loopU {s : Shared} {R : Result → Shared → Prop} {target it body env} (I : Nat → Shared → Prop)
    (turn : ∀ n s, I n s → wpU (model prog w) A (pyNext it) (fun r s₁ => match r with
      | none => R (.ok .next) s₁
      | some v => wpU (model prog w) A (letOwnedTupleGo target it v) (fun _ s₀ => wpU (model prog w) A (assign target env v) (fun _ s₂ => wpU (model prog w) A (execs body env) (fun f s₃ => match f with
          | .next | .cont => ∃ m, m < n ∧ I m s₃
          | .brk => R (.ok .next) s₃
          | .ret v => R (.ok (.ret v)) s₃) (fun _ _ => False) s₂) (fun _ _ => False) s₀) (fun _ _ => False) s₁) (fun _ _ => False) s)
    (n : Nat) (h : I n s) : codeU (model prog w) A (.forLoop target it body [] env) R s := by
  refine codeU_loop rfl I (fun n s hI => ?_) n h
  show wpU _ _ ((forTurn target it body [] env).onRaise (fun x => do noteFrame x env; theTreesLotGoes x)) _ _ s
  refine wpU_onRaise (wpU_mono (Q := fun fin s' => match fin with
        | .done f => R (.ok f) s'
        | .again c' => (c' = .forLoop target it body [] env ∧ ∃ m, m < n ∧ I m s') ∨ (c'.quiet = true ∧ codeU (model prog w) A c' R s')) (E := fun _ _ => False) ?_ (fun _ _ x => x) fun _ _ x => x.elim)
  simp only [forTurn]
  refine wpU_bind (wpU_standAt (wpU_bind (wpU_onRaise (wpU_mono (turn n s hI) (fun r s₁ h₁ => ?_) fun _ _ x => x.elim))))
  cases r with
  | none => exact wpU_pure (.inr ⟨rfl, codeU_of (by
      show wpU _ _ (do return Fin.done (← (execs [] env).onRaise (fun x => do noteFrame x env; theTreesLotGoes x))) _ _ s₁
      exact wpU_bind (wpU_onRaise (up (wpAny_execs_nil (wpU_pure h₁)))))⟩)
  | some v =>
    refine wpU_bind (wpU_mono h₁ (fun _ s₀ h₀ => ?_) fun _ _ h' => h'.elim)
    refine wpU_bind (wpU_mono h₀ (fun _ s₂ h₂ => wpU_bind (wpU_mono h₂ (fun f s₃ h₃ => ?_) fun _ _ h' => h'.elim)) fun _ _ h' => h'.elim)
    cases f with
    | next => exact wpU_pure (.inl ⟨rfl, h₃⟩)
    | cont => exact wpU_pure (.inl ⟨rfl, h₃⟩)
    | brk => exact wpU_pure h₃
    | ret v => exact wpU_pure h₃
end
section
variable {prog : Program} {w : World} {KF : Frag} {fi : FI} {d : Nat} {E : EP} {m : Names} {H : List O}
noncomputable abbrev KFtU (prog : Program) (w : World) (KF : Frag) (fi : FI) (d : Nat) (E : EP) (body : List Stmt) (J : Nat → Names → List O → Prop) (i : Nat) (Q : Fl → Names → List O → Prop) : Names → List O → Prop := fun m H => WBU prog w KF fi d E m H body (KFor J i Q)
noncomputable abbrev KFiU (prog : Program) (w : World) (KF : Frag) (fi : FI) (d : Nat) (E : EP) (m : Names) (target : Expr) (body : List Stmt) (Q : Fl → Names → List O → Prop) : V → List O → Prop := fun v H₁ => ∃ xs G, IterW prog w KF d (Em E m) H₁ v xs G ∧ ∃ J : Nat → Names → List O → Prop, J 0 m H₁ ∧ (∀ i m H, J i m H → G H) ∧
      (∀ i x m H, xs[i]? = some x → J i m H → WA prog w KF fi d E m H target x (KFtU prog w KF fi d E body J i Q)) ∧ (∀ m H, J xs.length m H → Q .next m H)
theorem wu_for {target iter : Expr} {body : List Stmt} {pos : Pos} {Q : Fl → Names → List O → Prop} (h : WE prog w KF fi d E m H iter (KFiU prog w KF fi d E m target body Q)) (hs : ∀ env x, foldedSetIterable iter env x = pure x := by intro _ _; rfl) : WSU prog w KF fi d E m H (.For target iter body [] pos) Q :=
  fun A env F ρ s hA S => by
    rw [exec_For]
    refine wpU_bind (wpU_standAt (wpU_bind (wpU_mono (up (h A env F ρ s hA S)) (fun u s₁ hq => ?_) fun _ _ x => x)))
    obtain ⟨ρ₁, H₁, v, st₁, S₁, r, xs, G, hI, J, hJ0, hJG, hT, hD⟩ := hq
    rw [hs env u]
    refine wpU_bind (wpU_pure (wpU_bind (wpU_standAt (wpU_bind (wpU_holding (wpU_mono (up (hI A _ ρ₁ s₁ u hA S₁.toH r)) (fun it s₂ hq => ?_) fun _ _ ⟨_, _, _, _, _, x, _⟩ => x.elim))))))
    obtain ⟨I, fp, St, e, IT, hSt, hk, hg, ho, hf⟩ := hq
    subst e
    have S₂ : Sim w KF fi env m F ρ₁ H₁ s₂.heap s₂.gens := by rw [hg]; exact S₁.keeps hk
    have off₂ := S₁.fresh hf
    have st₂ : Step ρ s ρ₁ s₂ := st₁.trans (.same (.of_keep hk) ho (by rw [hg]; exact Nat.le_refl _))
    unfold runOwn
    refine wpU_onRaise (wpU_mono (Q := StQ w KF fi env F ρ s Q) (E := fun _ _ => False) ?_ (fun _ _ x => x) fun _ _ x => x.elim)
    unfold run
    refine wpU_callT (h := none) (codeU_mono (R := fun r s' => match r with | .ok f => StQ w KF fi env F ρ s Q f s' | .error e => False) ?_ fun r s' hq => ?_) (fun q => nomatch q)
    · refine for_loopU (fun k s₃ => ∃ i ρ₃ m₃ H₃, Step ρ s ρ₃ s₃ ∧ Sim w KF fi env m₃ F ρ₃ H₃ s₃.heap s₃.gens ∧ St i ρ₃ s₃.heap ∧ FpOff fi env F ρ₃ fp ∧ J i m₃ H₃ ∧ i ≤ xs.length ∧ k = xs.length + 1 - i) ?_ (xs.length + 1) ⟨0, ρ₁, m, H₁, st₂, S₂, hSt, off₂, hJ0, Nat.zero_le _, rfl⟩
      rintro k s₃ ⟨i, ρ₃, m₃, H₃, st₃, S₃, hSt₃, off₃, hJ, hi, rfl⟩
      by_cases hlt : i < xs.length
      · refine wpU_mono (up (IT.item _ _ ρ₃ H₃ s₃ i xs[i] (fun _ _ => False) hA.hd S₃.toH (hJG _ _ _ hJ) hSt₃ (List.getElem?_eq_getElem hlt))) (fun r s₄ hq => ?_) fun _ _ x => x
        obtain ⟨v, e, rv, hSt₄, c₄⟩ := hq
        subst e
        have S₄ := S₃.chg off₃ c₄
        refine wpU_mono (up (IT.lot _ (i + 1) ρ₃ s₄ target v (fun _ _ => False) hSt₄)) (fun _ s₅ hq => ?_) fun _ _ x => x
        obtain ⟨hSt₅, c₅⟩ := hq
        have S₅ := S₄.chg off₃ c₅
        have st₅ := (st₃.trans c₄.step).trans c₅.step
        have hl := IT.live _ _ _ hSt₅
        refine wpU_mono (up (hT i _ m₃ H₃ (List.getElem?_eq_getElem hlt) hJ _ env (addF F s₅.heap _) ρ₃ s₅ v hA (S₅.rebase off₃) (rv.mono (List.prefix_refl _) c₅.2.2.1))) (fun _ s₆ hq => ?_) fun _ _ x => se_no x
        obtain ⟨ρ₆, H₆, m₆, st₆, S₆, h₆⟩ := hq
        have st₆' := st₅.trans st₆
        refine wpU_mono ((show WBU prog w KF fi d E m₆ H₆ body (KFor J i Q) from h₆) _ env (addF F s₅.heap _) ρ₆ s₆ hA S₆) (fun f s₇ hq => ?_) fun _ _ x => se_no x
        obtain ⟨ρ₇, H₇, m₇, fl, st₇, S₇, rf, h₇⟩ := hq
        obtain ⟨U, offU, kU⟩ := S₅.unbase off₃ hl (st₆.trans st₇).1 (st₆.trans st₇).2.2.2 S₇
        have st₇' := st₆'.trans st₇
        have hSt₇ : St (i + 1) ρ₇ s₇.heap := IT.frame _ _ _ _ _ hSt₅ (st₆.trans st₇).1 (st₆.trans st₇).2.1 kU
        cases fl with
        | next => cases rf; exact ⟨xs.length + 1 - (i + 1), by omega, i + 1, ρ₇, m₇, H₇, st₇', U, hSt₇, offU, h₇, hlt, rfl⟩
        | cont => cases rf; exact ⟨xs.length + 1 - (i + 1), by omega, i + 1, ρ₇, m₇, H₇, st₇', U, hSt₇, offU, h₇, hlt, rfl⟩
        | brk => cases rf; exact ⟨ρ₇, H₇, m₇, .next, st₇', U, rfl, h₇⟩
        | ret v => obtain ⟨u, rfl, r⟩ := rf; exact ⟨ρ₇, H₇, m₇, .ret v, st₇', U, ⟨u, rfl, r⟩, h₇⟩
      · have hin : i = xs.length := by omega
        subst hin
        refine wpU_mono (up (IT.done _ _ ρ₃ H₃ s₃ (fun _ _ => False) hA.hd S₃.toH (hJG _ _ _ hJ) hSt₃)) (fun r s₄ hq => ?_) fun _ _ x => x
        obtain ⟨e, c₄⟩ := hq
        subst e
        exact ⟨ρ₃, H₃, m₃, .next, st₃.trans c₄.step, S₃.chg off₃ c₄, rfl, hD _ _ hJ⟩
    · cases r with
      | ok f => exact wpU_pure (M := model prog w) hq
      | error e => exact hq.elim
end
end Mine
end
section
open PySem PySem.W PyProof.Rows PySem.W.X PySem.SeqAt
namespace Mine
section
variable {prog : Program} {w : World} {A : Around} {s : Shared} {R : Result → Shared → Prop}
theorem codeU_func {body : List Stmt} {env : Env} (h : wpU (model prog w) (A.deeper env) (execs body env) (fun f s' => R (.ok (.ret (match f with | .ret v => v | _ => .none))) s') (fun _ _ => False) s) : codeU (model prog w) A (.func body env) R s := by
  refine codeU_of ?_
  show wpU _ (A.deeper env) (do point; match ← (execs body env).onRaise (leaving env) with | .ret v => ret v | _ => ret .none) _ _ s
  refine wpU_bind (up (wpAny_point (wpU_bind (wpU_onRaise (wpU_mono h (fun f s' h' => ?_) fun _ _ x => x.elim)))))
  cases f <;> exact wpU_pure h'
theorem codeU_call {a : Addr} {args : Args} {o : Obj} {fd : FuncData} {body : List Stmt} {E : Value → Shared → Prop} (hroom : A.depth < recursionLimit) (ho : s.heap.get? a = some o)
    (hd' : o.data = .func fd) (hco : fd.scope.isCoroutine = false) (hgen : fd.scope.isGenerator = false) (hbody : fd.body = .stmts body) (hcd : s.heap.CodeRec fd.code fd.qualname)
    (h : wpAny (model prog w) A.in1 (bindArgs fd args) (fun binds s₁ =>
      wpAny (model prog w) A.in1 (newFunctionEnv fd.scope fd.globals fd.closure binds (fd.qualname ++ ".<locals>.") (some a) fd.code none fd.builtins)
        (fun env s₂ => s₂.heap.NoLimit ∧ codeU (model prog w) A (.func body env) R s₂) (fun e s' => R (.error e) s') s₁) (fun e s' => R (.error e) s') s) :
    codeU (model prog w) A (.call (.ref a) args) R s := by
  refine codeU_of (up ?_)
  show wpAny _ A.in1 (callAny (.ref a) args) _ _ s
  simp only [callAny]
  refine wpAny_bind (wpAny_load ho ?_)
  obtain ⟨c, oc, vs, tq, hc, hoc, hdc, hq⟩ := hcd
  simp only [hd', callFunction, hco, hgen, hbody, hc]
  rw [hc] at h
  refine wpAny_bind (m := field (.ref c) 1) (wpAny_field hoc hdc hq (wpAny_bind (wpAny_pure ?_)))
  refine wpAny_bind (wpAny_mono h (fun binds s₁ h₁ => wpAny_bind (wpAny_mono h₁ (fun env s₂ h₂ => ?_) fun _ _ x => x)) fun _ _ x => x)
  exact wpAny_bind (wpAny_enterFrame h₂.1 hroom (wpAny_pure ⟨rfl, h₂.2⟩))
theorem wpU_runValue {c : Code} {Q : Value → Shared → Prop} {E : Value → Shared → Prop} (h : codeU (model prog w) A c (fun r s' => match r with | .ok (.ret v) => Q v s' | .ok _ => False | .error e => E e s') s) : wpU (model prog w) A (runValue c) Q E s := by
  unfold runValue
  refine wpU_bind ?_
  unfold run
  refine wpU_callT (h := none) (codeU_mono h fun r s' hq => ?_) (fun q => nomatch q)
  cases r with
  | error e => exact wpU_throw hq
  | ok f =>
    cases f with
    | ret v => exact wpU_pure (M := model prog w) (wpU_pure hq)
    | _ => exact hq.elim
end
section
variable {prog : Program} {w : World} {KF : Frag} {d : Nat} {E : HEP} {H : List O} {a : Nat} {o : Obj} {fd : FuncData} {body : List Stmt} {sc : Scope} {ps : List Str} {xs : List V}
/-- a function called whose body drives such a generator -/
theorem wu_fn {Q : V → List O → Prop} (K : FnOk KF a o fd body sc ps) (hgen : sc.isGenerator = false) (hlen : xs.length = ps.length)
    (h : WBU prog w KF ⟨sc, true, fd.code⟩ d (fun _ _ _ => False) (initN sc ps xs) H body (KFn Q)) : CallU prog w KF (d + 1) E H (.st a) xs Q :=
  fun A F ρ s u us hA S ru r => by
    have hsc := K.hsc
    subst hsc
    unfold VR at ru
    subst ru
    obtain ⟨ho, hcd⟩ := fn_code K.toFnB S.b
    have hul : us.length = ps.length := r.len.trans hlen
    refine wpU_runValue (codeU_call (E := fun _ _ => False) hA.depth ho K.hd K.hco hgen K.hb hcd ?_)
    rw [K.hbd us hul, K.hcl]
    refine wpAny_pure (wpAny_newFunctionEnv_cells K.hk (fun x hx => ?_) fun env he s₁ X => ?_)
    · have hx1 : x.1 ∈ ps := by rw [← zip_keys hul]; exact List.mem_map.mpr ⟨x, hx, rfl⟩
      rcases K.hkd x.1 hx1 with q | q
      · exact .inl q
      · obtain ⟨c, hc⟩ := cells_has (n := s.heap.objs.size + 1) (mem_of_lookup q)
        exact .inr ⟨q, by rw [nodup_lookup (cells_nodup K.hnd) hc]; rfl⟩
    · subst he
      obtain ⟨st₁, S₁⟩ := enter_sim K.toFnB hlen S r X
      refine ⟨S₁.b.lim, codeU_func ?_⟩
      refine wpU_mono (h _ _ F ρ s₁ (hA.deeper rfl) S₁) (fun f s₂ hq => ?_) (fun _ _ x => (se_no x).elim)
      obtain ⟨ρ₂, H₂, m₂, fl, st₂, S₂, rf, h₂⟩ := hq
      cases fl with
      | next => cases rf; exact ⟨ρ₂, H₂, .none, st₁.trans st₂, S₂.hs, by unfold VR; rfl, h₂⟩
      | ret v => obtain ⟨u, rfl, r⟩ := rf; exact ⟨ρ₂, H₂, v, st₁.trans st₂, S₂.hs, r, h₂⟩
      | brk => exact h₂.elim
      | cont => exact h₂.elim
end
end Mine
end
section
open PySem PySem.W PyProof.Rows PySem.W.X PySem.SeqAt
namespace Mine
section
variable {prog : Program} {w : World} {A : Around} {s : Shared} {R : Result → Shared → Prop} {E : Value → Shared → Prop}
theorem codeU_builtin {id : String} {args : Args} {b : Builtin} (hb : entryFor table id = some b) (h : wpU (model prog w) (A.under (.builtin id args)) (b args) (finU (model prog w) A R) (fun e s' => R (.error e) s') s) : codeU (model prog w) A (.builtin id args) R s := by
  refine codeU_of ?_
  show wpU _ _ (match entryFor table id with | some b => b args | none => unsupported ((withoutEnding? id "#data").getD id)) _ _ s
  rw [hb]; exact h
theorem codeU_call_builtin {id : String} {args : Args} {b : Builtin} (hq : plainId id = true) (hb : entryFor table id = some b)
    (h : wpAny (model prog w) A.in1 (checkBuiltinCall id args) (fun _ s₁ => wpU (model prog w) A.in1 (b args) (finU (model prog w) A R) (fun e s' => R (.error e) s') s₁) (fun e s' => R (.error e) s') s) : codeU (model prog w) A (.call (.builtin id) args) R s := by
  refine codeU_of ?_
  show wpU _ A.in1 (do checkBuiltinCall id args; again (.builtin id args)) _ _ s
  refine wpU_bind (up (wpAny_mono h (fun _ s₁ h₁ => ?_) fun _ _ x => x))
  exact wpU_pure (M := model prog w) ⟨plainId_quiet hq args, codeU_builtin hb (by rw [Around.under_plainId hq args]; exact h₁)⟩
end
section
variable {prog : Program} {w : World} {A : Around} {I S n : Nat} {P : Nat → Value → Prop} {St : Nat → Shared → Prop} {Fn : Shared → Prop}
end
end Mine
end
section
open PySem PySem.W PyProof.Rows PySem.W.X PySem.SeqAt
namespace Mine
/-- a generator object; k delegators sleep over it -/
noncomputable def GenAt (h : Heap) (a : Addr) (g : Nat) (k : Int) : Prop :=
  ∃ o nm qn, h.get? a = some o ∧ o.cls = .type "generator" ∧ o.data = .fields #[.int g 0, nm, qn] ∧ ((o.slots = #[] ∧ k = 0) ∨ o.slots = #[some (rawInt k)])
theorem GenAt.of {h : Heap} {a : Addr} {g : Nat} (x : h.IsGen a g) : GenAt h a g 0 := let ⟨o, nm, qn, h1, h2, h3, h4⟩ := x; ⟨o, nm, qn, h1, h2, h3, .inl ⟨h4, rfl⟩⟩
theorem GenAt.at {h h' : Heap} {a : Addr} {g : Nat} {k : Int} (x : GenAt h a g k) (hk : ∀ o, h.get? a = some o → h'.get? a = some o) : GenAt h' a g k := let ⟨o, nm, qn, h1, r⟩ := x; ⟨o, nm, qn, hk _ h1, r⟩
theorem GenAt.typeIs {s : Shared} {a g k} (x : GenAt s.heap a g k) : s.TypeIs (.ref a) "generator" := let ⟨o, _, _, ho, hc, _⟩ := x; ⟨o, ho, hc⟩
section
variable {M : Model} {A : Around} {E : Value → Shared → Prop} {s : Shared}
theorem wpAny_genNumberK {a : Addr} {g : Nat} {Q : Nat → Shared → Prop} (hg : GenAt s.heap a g 0) (h : Q g s) : wpAny M A (Builtin.Generator.genNumber (.ref a)) Q E s := by
  obtain ⟨o, nm, qn, ho, _, hd, hsl⟩ := hg
  unfold Builtin.Generator.genNumber
  refine wpAny_bind (wpAny_load ho ?_)
  rcases hsl with ⟨hsl, _⟩ | hsl
  · rw [hsl, hd]
    show wpAny M A (pure ((g : Int).toNat)) Q E s
    rw [Int.toNat_natCast]; exact wpAny_pure h
  · rw [hsl, hd]
    show wpAny M A (pure ((g : Int).toNat)) Q E s
    rw [Int.toNat_natCast]; exact wpAny_pure h
end
section
variable {α : Type} {M : Model} {A : Around} {Y : YP} {R : Result → Shared → Prop} {E : Value → Shared → Prop} {s : Shared}
/-- a generator woken -/
theorem wpU_resume {g : Nat} {gs : GenState} {l : List Value} {k : GenResult → Sem α} {Q : α → Shared → Prop} (hgs : s.gens[g]? = some gs) (hgo : GoesU M A Y R gs (s.setGen g .running))
    (hY : ∀ v gs' s₁, Y v gs' s₁ → wpU M A (k (.yielded v)) Q E (s₁.setGen g gs')) (hR : ∀ r s₁, R r s₁ → wpU M A (k (End.ret r).result) Q E (s₁.setGen g .finished)) : wpU M A (.resume g (.send .none) l k) Q E s := by
  intro c p st hin K H gd lv Φ hK hH
  cases gs with
  | fresh c' =>
    refine ev_step (step_resume_fresh M s c p st (lv l) _ hgs) ?_
    exact hgo p st g (fun x => (k x).wrap K H gd lv) (lv l) c p Φ hin (fun v gs' s' hv => hY v gs' s' hv c p st hin K H gd lv Φ hK hH) fun r s' hr => hR r s' hr c p st hin K H gd lv Φ hK hH
  | suspended k₀ l₀ c₀ p₀ fs cl =>
    refine ev_step (step_resume_suspended M s c p st (.send .none) (lv l) _ hgs) ?_
    exact hgo p₀ st g (fun x => (k x).wrap K H gd lv) (lv l) c p Φ hin (fun v gs' s' hv => hY v gs' s' hv c p st hin K H gd lv Φ hK hH) fun r s' hr => hR r s' hr c p st hin K H gd lv Φ hK hH
  | running => exact hgo.elim
  | finished => exact hgo.elim
end
/-- a StopIteration without a value -/
noncomputable def StopAt (h : Heap) (a : Addr) : Prop := ∃ o vs, h.get? a = some o ∧ o.cls = .type "StopIteration" ∧ o.data = .fields vs ∧ vs[5]? = some .none
section
variable {prog : Program} {w : World} {A : Around} {Y : YP} {R : Result → Shared → Prop} {s : Shared}
end
end Mine
end
section
open PySem PySem.W PyProof.Rows PySem.W.X PySem.SeqAt
namespace Mine
/-- what is fixed while a generator's body runs: its frame, its base; what others may touch while it sleeps: objects, generators' numbers -/
structure GU where
  w : World
  KF : Frag
  fi : FI
  env : Env
  F : Base
  out : List Nat
  gout : List Nat
  ρI : List Ent
  sI : Shared
/-- what a body's loops hold -/
structure Held where
  hl : List Nat
  P : List Ent → Heap → Prop
  ok : ∀ ρ ρ' h h', P ρ h → ρ <+: ρ' → TK h h' → (∀ b ∈ hl, ∀ o, h.get? b = some o → h'.get? b = some o) → P ρ' h'
noncomputable def Held.nil : Held := ⟨[], fun _ _ => True, fun _ _ _ _ _ _ _ _ => trivial⟩
/-- the state between two steps of the body -/
structure SIU (X : GU) (L : Held) (m : Names) (H : List O) (ρ : List Ent) (s : Shared) : Prop where
  st : Step X.ρI X.sI ρ s
  sim : Sim X.w X.KF X.fi X.env m X.F ρ H s.heap s.gens
  off : FpOff X.fi X.env X.F ρ (L.hl ++ X.out)
  live : ∀ b ∈ L.hl ++ X.out, ∃ o, s.heap.get? b = some o
  dj : ∀ b ∈ L.hl, b ∉ X.out
  p : L.P ρ s.heap
  gs : ∀ g ∈ X.gout, g < s.gens.size
  gx : ∀ e ∈ ρ, e.fp ≠ [] → ∀ x, e.g = some x → x.1 ∉ X.gout
structure LvU (X : GU) (s : Shared) : Prop where
  lim : s.heap.NoLimit
  live : ∀ b ∈ X.out, ∃ o, s.heap.get? b = some o
  gs : ∀ g ∈ X.gout, g < s.gens.size
/-- what others may do while it sleeps -/
structure LkU (X : GU) (s s' : Shared) : Prop where
  old : ∀ b o, b ∉ X.out → s.heap.get? b = some o → s'.heap.get? b = some o
  live : ∀ b ∈ X.out, ∃ o, s'.heap.get? b = some o
  tk : TK s.heap s'.heap
  lim : s'.heap.NoLimit
  os : s'.os = s.os
  bare : ∀ (k : Nat) z, s'.gens[k]? = some z → z.bare = true ∨ s.gens[k]? = some z
  gk : ∀ k, k ∉ X.gout → ∀ z, s.gens[k]? = some z → s'.gens[k]? = some z
  sz : s.gens.size ≤ s'.gens.size
noncomputable def KpU (X : GU) (s s' : Shared) : Prop := ∀ b ∈ X.out, ∀ o, s.heap.get? b = some o → s'.heap.get? b = some o
section
variable {X : GU} {L : Held} {m m' : Names} {H H' : List O} {ρ ρ' : List Ent} {s s' s'' : Shared}
end
section
variable (M : Model) (A : Around) (X : GU) (Qe : List O → Prop)
/-- the end: nothing left to be told -/
noncomputable def TellR : List Str → Shared → Result → Shared → Prop
  | [], s₀ => fun r s₁ => r = .ok (.ret .none) ∧ KpU X s₀ s₁ ∧ ∃ m H ρ, SIU X .nil m H ρ s₁ ∧ Qe H
  | _ :: _, _ => fun _ _ => False
/-- the texts, one behind the other -/
noncomputable def TellY : List Str → Shared → YP
  | [], _ => fun _ _ _ => False
  | x :: xs, s₀ => fun v gs s₁ => (∃ t, v = .str x t) ∧ KpU X s₀ s₁ ∧ LvU X s₁ ∧ ∀ s'', LkU X s₁ s'' → GoesU M A (TellY xs s'') (TellR X Qe xs s'') gs s''
end
/-- frames above a generator's own -/
structure FsOk (fs : List Frame) : Prop where
  sp : splitAtGen fs = none
  gd : fs.any Frame.guarded = false
section
variable (prog : Program) (X : GU) (L : Held) (xs : List Str) (Qe : List O → Prop) (A : Around) (c : Code) (fs : List Frame)
end
section
variable {M : Model} {A : Around} {Y : YP} {R : Result → Shared → Prop} {c : Code} {fs : List Frame} {s : Shared}
theorem segU_bw {α β : Type} {x : Sem α} {k : α → Sem β} {K : β → Sem Fin} {Hd : Value → Sem Fin} {gd lv} (h : wpU M (A.over c fs) x (fun a s' => SegU M A Y R c ((k a).wrap K Hd gd lv) fs s') (fun e s' => SegU M A Y R c (Hd e) fs s') s) : SegU M A Y R c ((x >>= k).wrap K Hd gd lv) fs s := by
  rw [Sem.bind_eq_wrap', Sem.wrap_wrap]; exact segU_wrap h
end
section
variable {prog : Program} {X : GU} {L : Held} {xs : List Str} {Qe : List O → Prop} {A : Around} {c : Code} {fs : List Frame} {d : Nat} {m : Names} {H : List O} {K : Flow → Sem Fin} {Hd : Value → Sem Fin}
end
end Mine
end
section
open PySem PySem.W PyProof.Rows PySem.W.X PySem.SeqAt
namespace Mine
theorem over_ret {A : Around} {c c' : Code} {fs : List Frame} {k : Result → Sem Fin} {g l p kp} : (A.over c' (.ret k none g l c p kp :: fs)).handled = (A.over c fs).handled ∧ (A.over c' (.ret k none g l c p kp :: fs)).depth = (A.over c fs).depth + c'.weight ∧ (A.over c' (.ret k none g l c p kp :: fs)).units = (A.over c fs).units + c'.cUnits := by
  refine ⟨rfl, ?_, ?_⟩
  · show A.depth + frameCount ((c, p) :: fs.map Frame.where_) + c'.weight = A.depth + frameCount (fs.map Frame.where_) + c.weight + c'.weight
    rw [frameCount_cons]; omega
  · show A.units + unitsOf ((c, p) :: fs.map Frame.where_) + c'.cUnits = A.units + unitsOf (fs.map Frame.where_) + c.cUnits + c'.cUnits
    have : unitsOf ((c, p) :: fs.map Frame.where_) = c.cUnits + unitsOf (fs.map Frame.where_) := by simp [unitsOf]
    omega
theorem pushEnvs_app (a b : List Env) (x : Option (List Env)) : pushEnvs (a ++ b) x = pushEnvs a (pushEnvs b x) := by
  rw [pushEnvs_eq, pushEnvs_eq, pushEnvs_eq]
  cases x with
  | none => rfl
  | some l => show some ((a ++ b) ++ l) = some (a ++ (b ++ l)); rw [List.append_assoc]
theorem over_fr {A : Around} {c c' : Code} {fs : List Frame} {k : Result → Sem Fin} {g l p kp} : (A.over c' (.ret k none g l c p kp :: fs)).frames = pushEnvs c'.envs (A.over c fs).frames := by
  show pushEnvs c'.envs (pushEnvs (envsOf ((c, p) :: fs.map Frame.where_)) A.frames) = pushEnvs c'.envs (pushEnvs c.envs (pushEnvs (envsOf (fs.map Frame.where_)) A.frames))
  rw [envsOf_cons, pushEnvs_app]
theorem Room.ret {A : Around} {c c' : Code} {fs : List Frame} {k : Result → Sem Fin} {g l p kp} {d : Nat} {lf : List Env} (h : Room (A.over c fs) d lf) (hw : c'.weight = 0) (hu : c'.cUnits = 0) : Room (A.over c' (.ret k none g l c p kp :: fs)) d lf := by
  obtain ⟨h1, h2, h3⟩ := over_ret (A := A) (c := c) (c' := c') (fs := fs) (k := k) (g := g) (l := l) (p := p) (kp := kp)
  refine ⟨by rw [over_fr, Code.envs_of_weight hw]; exact h.fr, h1.trans h.hd, ?_, ?_⟩
  · rw [h2, hw]; exact h.dp
  · rw [h3, hu]; exact h.un
/-- an iterator held -/
noncomputable def Held.iter (L : Held) (fp : List Nat) (S : List Ent → Heap → Prop) (hS : ∀ ρ ρ' h h', S ρ h → ρ <+: ρ' → TK h h' → (∀ b ∈ fp, ∀ o, h.get? b = some o → h'.get? b = some o) → S ρ' h') : Held :=
  ⟨fp ++ L.hl, fun ρ h => L.P ρ h ∧ S ρ h, fun ρ ρ' h h' x p t k => ⟨L.ok ρ ρ' h h' x.1 p t fun b hb => k b (List.mem_append_right _ hb), hS ρ ρ' h h' x.2 p t fun b hb => k b (List.mem_append_left _ hb)⟩⟩
section
variable {X : GU} {L : Held} {m m' : Names} {H H' : List O} {ρ ρ' : List Ent} {s s' s'' : Shared} {fp : List Nat} {S S' : List Ent → Heap → Prop} {hS hS'}
end
section
variable {prog : Program} {X : GU} {L : Held} {Qe : List O → Prop} {A : Around} {c : Code} {fs : List Frame} {d : Nat} {m : Names} {H : List O} {K : Flow → Sem Fin} {Hd : Value → Sem Fin}
end
end Mine
end
section
open PySem PySem.W PyProof.Rows PySem.W.X PySem.SeqAt
namespace Mine
/-! entries that own nothing for a while -/
theorem as_get {ρ ρ' : List Ent} (q : ρ.map (·.a) = ρ'.map (·.a)) {i : Nat} {e : Ent} (h : ρ[i]? = some e) : ∃ e', ρ'[i]? = some e' ∧ e'.a = e.a := by
  have : (ρ'.map (·.a))[i]? = some e.a := by rw [← q, List.getElem?_map, h]; rfl
  rw [List.getElem?_map] at this
  cases h' : ρ'[i]? with
  | none => rw [h'] at this; cases this
  | some e' => rw [h'] at this; exact ⟨e', rfl, Option.some.inj this⟩
mutual
theorem VR.ents {ρ ρ' : List Ent} {h : Heap} (q : ρ.map (·.a) = ρ'.map (·.a)) : ∀ {x : V} {v : Value}, VR ρ h x v → VR ρ' h x v
  | .none, v, r => by unfold VR at r ⊢; exact r
  | .bool b, v, r => by unfold VR at r ⊢; exact r
  | .int i, v, r => by unfold VR at r ⊢; exact r
  | .flt x, v, r => by unfold VR at r ⊢; exact r
  | .str x, v, r => by unfold VR at r ⊢; exact r
  | .ty n, v, r => by unfold VR at r ⊢; exact r
  | .bi n, v, r => by unfold VR at r ⊢; exact r
  | .st a, v, r => by unfold VR at r ⊢; exact r
  | .ref i, v, r => by unfold VR at r ⊢; obtain ⟨e, he, z⟩ := r; obtain ⟨e', h1, h2⟩ := as_get q he; exact ⟨e', h1, by rw [h2]; exact z⟩
  | .rng a b, v, r => by unfold VR at r ⊢; exact r
  | .tup xs, v, r => by unfold VR at r ⊢; obtain ⟨a, vs, z, y, w⟩ := r; exact ⟨a, vs, z, y, VRs.ents q w⟩
  | .sub c xs, v, r => by unfold VR at r ⊢; obtain ⟨a, vs, z, y, w⟩ := r; exact ⟨a, vs, z, y, VRs.ents q w⟩
theorem VRs.ents {ρ ρ' : List Ent} {h : Heap} (q : ρ.map (·.a) = ρ'.map (·.a)) : ∀ {xs : List V} {vs : List Value}, VRs ρ h xs vs → VRs ρ' h xs vs
  | [], vs, r => by unfold VRs at r ⊢; exact r
  | x :: xs, vs, r => by unfold VRs at r ⊢; obtain ⟨v, t, e, a, b⟩ := r; exact ⟨v, t, e, VR.ents q a, VRs.ents q b⟩
end
theorem OVR.ents {ρ ρ' : List Ent} {h : Heap} (q : ρ.map (·.a) = ρ'.map (·.a)) : ∀ {x : Option V} {v : Option Value}, OVR ρ h x v → OVR ρ' h x v
  | none, _, _ => trivial
  | some _, some _, r => VR.ents q r
  | some _, none, r => r.elim
theorem FrameAt.ents {fi : FI} {env : Env} {m : Names} {ρ ρ' : List Ent} {h : Heap} (f : FrameAt fi env m ρ h) (q : ρ.map (·.a) = ρ'.map (·.a)) : FrameAt fi env m ρ' h :=
  ⟨f.es, f.eg, f.eb, f.ec, f.ek, f.ef, let ⟨mv, a, b⟩ := f.ns; ⟨mv, a, fun x hx => (b x hx).ents q⟩, fun x c hc => let ⟨ov, a, b⟩ := f.cl x c hc; ⟨ov, a, b.ents q⟩, f.ce, f.cn, f.cu, f.cd⟩
theorem OR.ents {F : Base} {ρ ρ' : List Ent} {h : Heap} {e : Ent} {o : O} (x : OR F ρ h e o) (q : ρ.map (·.a) = ρ'.map (·.a)) : OR F ρ' h e o := by
  cases o with
  | list xs => obtain ⟨a, b, vs, l, r⟩ := x; exact ⟨a, b, vs, l, r.ents q⟩
  | arr xs => obtain ⟨a, b, ⟨vs, l, r⟩, f⟩ := x; exact ⟨a, b, ⟨vs, l, r.ents q⟩, f⟩
  | inst C fs =>
    obtain ⟨a, dx, b, o, mA, h1, h2, h3, h4, h6, h7⟩ := x
    refine ⟨a, dx, b, o, mA, h1, h2, h3, h4, h6, fun n => ?_⟩
    have := h7 n
    split at this
    · obtain ⟨u, h1, h2⟩ := this; exact ⟨u, h1, h2.ents q⟩
    · exact this
  | tbl P ps => exact x
  | fresh fi body m => obtain ⟨g, env, h1, h2, h3, h4, h5, h6⟩ := x; exact ⟨g, env, h1, h2, h3, h4, h5, h6.ents q⟩
  | gone => exact x
  | done => exact x
  | susp fi tgt lb m I => obtain ⟨g, env, h1, h2, h3, h4, h5, h6⟩ := x; exact ⟨g, env, h1, h2, h3, h4, h5, h6.ents q⟩
  | rit I lo n => exact x
theorem set_as {ρ : List Ent} {i : Nat} {e f : Ent} (h : ρ[i]? = some e) (ha : f.a = e.a) : (ρ.set i f).map (·.a) = ρ.map (·.a) := by
  refine List.ext_getElem? fun j => ?_
  rw [List.getElem?_map, List.getElem?_map]
  by_cases q : i = j
  · subst q
    rw [List.getElem?_set_self (List.getElem?_eq_some_iff.mp h).1, h]
    exact congrArg some ha
  · rw [List.getElem?_set_ne q]
theorem set_gs {ρ : List Ent} {i : Nat} {e f : Ent} (h : ρ[i]? = some e) (ha : f.g = e.g) : (ρ.set i f).filterMap (·.g) = ρ.filterMap (·.g) := by
  induction ρ generalizing i with
  | nil => cases h
  | cons x ρ ih =>
    cases i with
    | zero => cases h; simp [List.filterMap_cons, ha]
    | succ i => simp only [List.set_cons_succ, List.filterMap_cons, ih (i := i) h]
theorem fps_set_perm {ρ : List Ent} {i : Nat} {e f : Ent} (h : ρ[i]? = some f) (hf : f.fp = []) : (fps (ρ.set i e)).Perm (e.fp ++ fps ρ) := by
  induction ρ generalizing i with
  | nil => cases h
  | cons x ρ ih =>
    cases i with
    | zero =>
      cases h
      show (e.fp ++ fps ρ).Perm (e.fp ++ (f.fp ++ fps ρ))
      rw [hf]; exact .refl _
    | succ i =>
      show (x.fp ++ fps (ρ.set i e)).Perm (e.fp ++ (x.fp ++ fps ρ))
      refine ((ih (i := i) h).append_left x.fp).trans ?_
      rw [← List.append_assoc, ← List.append_assoc]
      exact List.perm_append_comm.append_right _
theorem fps_set_sub {ρ : List Ent} {i : Nat} {f : Ent} (hf : f.fp = []) : (fps (ρ.set i f)).Sublist (fps ρ) := by
  induction ρ generalizing i with
  | nil => exact .slnil
  | cons x ρ ih =>
    cases i with
    | zero =>
      show (f.fp ++ fps ρ).Sublist (x.fp ++ fps ρ)
      rw [hf]; exact List.sublist_append_right _ _
    | succ i => exact (List.Sublist.refl x.fp).append ih
theorem fps_set_off {ρ : List Ent} (nd : (fps ρ).Nodup) {i : Nat} {e f : Ent} (h : ρ[i]? = some e) (hf : f.fp = []) {b : Nat} (hb : b ∈ e.fp) : b ∉ fps (ρ.set i f) := fun q => by
  obtain ⟨x, hx, hbx⟩ := List.mem_flatMap.mp q
  obtain ⟨j, hj, rfl⟩ := List.mem_iff_getElem.mp hx
  have hj' := List.getElem?_eq_getElem hj
  by_cases z : i = j
  · subst z
    have : (ρ.set i f)[i]'hj = f := List.getElem_set_self hj
    rw [this, hf] at hbx; cases hbx
  · rw [List.getElem?_set_ne z] at hj'
    exact fps_apart nd h hj' z hb hbx
theorem gn_apart {ρ : List Ent} (nd : ((ρ.filterMap (·.g)).map (·.1)).Nodup) {i j : Nat} {e f : Ent} (hi : ρ[i]? = some e) (hj : ρ[j]? = some f) (hij : i ≠ j) {x y : Nat × Env} (hx : e.g = some x) (hy : f.g = some y) : x.1 ≠ y.1 := by
  induction ρ generalizing i j with
  | nil => cases hi
  | cons z ρ ih =>
    have mem : ∀ {k : Nat} {u : Ent} {v : Nat × Env}, ρ[k]? = some u → u.g = some v → v.1 ∈ (ρ.filterMap (·.g)).map (·.1) := fun hk hu => List.mem_map.mpr ⟨_, List.mem_filterMap.mpr ⟨_, List.mem_of_getElem? hk, hu⟩, rfl⟩
    have nd' : ((ρ.filterMap (·.g)).map (·.1)).Nodup := by
      cases hz : z.g with
      | none => simpa [List.filterMap_cons, hz] using nd
      | some w => exact (List.nodup_cons.mp (by simpa [List.filterMap_cons, hz] using nd)).2
    have nz : ∀ w, z.g = some w → w.1 ∉ (ρ.filterMap (·.g)).map (·.1) := fun w hz => (List.nodup_cons.mp (by simpa only [List.filterMap_cons, hz, List.map_cons] using nd)).1
    cases i with
    | zero =>
      cases hi
      cases j with
      | zero => exact absurd rfl hij
      | succ j => exact fun q => nz x hx (q ▸ mem hj hy)
    | succ i =>
      cases j with
      | zero => cases hj; exact fun q => nz y hy (q ▸ mem hi hx)
      | succ j => exact ih nd' (i := i) (j := j) hi hj (fun q => hij (congrArg Nat.succ q))
section
variable {w : World} {KF : Frag} {F : Base} {ρ : List Ent} {H : List O} {h : Heap} {gs : Array GenState} {i : Nat} {e : Ent} {fi : FI} {body : List Stmt} {m : Names}
/-- a generator's frame, taken out of the objects -/
theorem HSim.out (S : HSim w KF F ρ H h gs) (hi : ρ[i]? = some e) (hH : H[i]? = some (.fresh fi body m)) :
    ∃ g env, e.g = some (g, env) ∧ gs[g]? = some (.fresh (.func body env)) ∧ e.fp = e.a :: ownA fi env ∧ h.IsGen e.a g ∧ interactive env = false ∧ (env.scope = fi.sc ∧ env.frame = some env.locals) ∧ Sim w KF fi env m F (ρ.set i ⟨e.a, [], e.g⟩) (H.set i .gone) h gs := by
  obtain ⟨g, env, h1, h2, h3, h4, h5, h6⟩ := S.ob i e _ hi hH
  obtain ⟨g', env', h1', hgs⟩ := S.gf i e _ hi hH
  rw [h1] at h1'; cases h1'
  have sub : ∀ b ∈ fps (ρ.set i ⟨e.a, [], e.g⟩), b ∈ fps ρ := fun b hb => (fps_set_sub rfl).subset hb
  have as := set_as (f := ⟨e.a, [], e.g⟩) hi rfl
  have T : HSim w KF F (ρ.set i ⟨e.a, [], e.g⟩) (H.set i .gone) h gs := by
    refine ⟨S.bs, S.keep, by rw [List.length_set, List.length_set]; exact S.len, fun j f o hj ho => ?_, fun b hb => S.live b (sub b hb), S.nd.sublist (fps_set_sub rfl), fun b hb => S.off b (sub b hb), by rw [set_gs (f := ⟨e.a, [], e.g⟩) hi rfl]; exact S.gn, S.bare, fun j f o hj ho => ?_, S.fo⟩
    · by_cases q : i = j
      · subst q
        rw [List.getElem?_set_self (List.getElem?_eq_some_iff.mp hi).1] at hj
        rw [List.getElem?_set_self (List.getElem?_eq_some_iff.mp hH).1] at ho
        cases hj; cases ho
        exact .inr (by show e.g.isSome = true; rw [h1]; rfl)
      · rw [List.getElem?_set_ne q] at hj ho
        exact (S.ob j f o hj ho).ents as.symm
    · by_cases q : i = j
      · subst q
        rw [List.getElem?_set_self (List.getElem?_eq_some_iff.mp hi).1] at hj
        rw [List.getElem?_set_self (List.getElem?_eq_some_iff.mp hH).1] at ho
        cases hj; cases ho
        exact fun x hx => S.glt (List.mem_of_getElem? hi) hx
      · rw [List.getElem?_set_ne q] at hj ho
        exact S.gf j f o hj ho
  have f := h6.ents as.symm
  refine ⟨g, env, h1, hgs, h2, h3, h5, ⟨h6.es, h6.ef⟩, T, f.es, f.eg, f.eb, f.ec, f.ek, .inl f.ef, fun b hb => ?_, f.ns, f.cl, f.ce, f.cn, f.cu, f.cd, fun q => by rw [h4] at q; cases q⟩
  have hb' : b ∈ e.fp := by rw [h2]; exact .tail _ hb
  exact ⟨S.off b (fps_mem hi hb'), fps_set_off S.nd hi rfl hb'⟩
/-- and back again, used up -/
theorem HSim.back (T : HSim w KF F ρ H h gs) {x : Nat × Env} (hi : ρ[i]? = some ⟨e.a, [], some x⟩) (hg : e.g = some x) (hnd : e.fp.Nodup) (ha : e.a ∈ e.fp) (hf : ∀ b ∈ e.fp, b ∉ fps ρ ∧ F.f b = none ∧ ∃ o, h.get? b = some o) :
    HSim w KF F (ρ.set i e) H h gs := by
  have pm := fps_set_perm (e := e) hi rfl
  have as := set_as (f := e) hi rfl
  have hH : ∀ o, H[i]? = some o → o = .gone := fun o ho => by
    have y := T.ob i _ o hi ho
    cases o with
    | list xs => cases y.1
    | arr xs => cases y.2.1
    | inst C fs => cases y.1
    | tbl P ps => cases y.2.2.1
    | fresh fi body m => obtain ⟨_, _, _, q, _⟩ := y; cases q
    | gone => rfl
    | done => obtain ⟨_, _, _, _, q, _⟩ := y; cases q
    | susp fi tgt lb m I => obtain ⟨_, _, _, q, _⟩ := y; cases q
    | rit I lo n => cases y.2.1
  refine ⟨T.bs, T.keep, by rw [List.length_set]; exact T.len, fun j f o hj ho => ?_, fun b hb => ?_, pm.nodup_iff.mpr (List.nodup_append.mpr ⟨hnd, T.nd, fun b hb c hc q => (hf b hb).1 (q ▸ hc)⟩), fun b hb => ?_, by rw [set_gs (f := e) hi hg]; exact T.gn, T.bare, fun j f o hj ho => ?_, T.fo⟩
  · by_cases q : i = j
    · subst q
      rw [List.getElem?_set_self (List.getElem?_eq_some_iff.mp hi).1] at hj
      cases hj
      rw [hH o ho]
      exact .inl ha
    · rw [List.getElem?_set_ne q] at hj
      exact (T.ob j f o hj ho).ents as.symm
  · rcases List.mem_append.mp (pm.mem_iff.mp hb) with q | q
    · exact (hf b q).2.2
    · exact T.live b q
  · rcases List.mem_append.mp (pm.mem_iff.mp hb) with q | q
    · exact (hf b q).2.1
    · exact T.off b q
  · by_cases q : i = j
    · subst q
      rw [List.getElem?_set_self (List.getElem?_eq_some_iff.mp hi).1] at hj
      cases hj
      rw [hH o ho]
      exact fun y hy => by rw [hg] at hy; cases hy; exact T.glt (List.mem_of_getElem? hi) rfl
    · rw [List.getElem?_set_ne q] at hj
      exact T.gf j f o hj ho
end
end Mine
end
section
open PySem PySem.W PyProof.Rows PySem.W.X PySem.SeqAt
namespace Mine
theorem fp_nodup1 {ρ : List Ent} (nd : (fps ρ).Nodup) {e : Ent} (he : e ∈ ρ) : e.fp.Nodup := by
  induction ρ with
  | nil => cases he
  | cons x ρ ih =>
    have nd' : (x.fp ++ fps ρ).Nodup := nd
    obtain ⟨n1, n2, _⟩ := List.nodup_append.mp nd'
    rcases List.mem_cons.mp he with rfl | q
    · exact n1
    · exact ih n2 q
/-- the generator that an object of the body's stands for, its own frame on top -/
noncomputable def GU.sub (X : GU) (L : Held) (ρ : List Ent) (s : Shared) (i : Nat) (e : Ent) (g : Nat) (fi : FI) (env : Env) : GU :=
  ⟨X.w, X.KF, fi, env, addE (addF X.F s.heap L.hl) s.heap X.env (ownA X.fi X.env), e.a :: X.out, g :: X.gout, ρ.set i ⟨e.a, [], e.g⟩, s⟩
section
variable {X : GU} {L : Held} {m : Names} {H : List O} {ρ : List Ent} {s : Shared} {i : Nat} {fi : FI} {body : List Stmt} {m' : Names} {e : Ent}
theorem set_prefix {ρ ρ' : List Ent} {i : Nat} {e f : Ent} (he : ρ[i]? = some e) (p : ρ.set i f <+: ρ') : ρ <+: ρ'.set i e := by
  obtain ⟨t, rfl⟩ := p
  have hi := (List.getElem?_eq_some_iff.mp he).1
  rw [List.set_append_left _ _ (by rw [List.length_set]; exact hi), List.set_set]
  have : ρ.set i e = ρ := by
    obtain ⟨h, rfl⟩ := List.getElem?_eq_some_iff.mp he
    exact List.set_getElem_self h
  rw [this]; exact List.prefix_append _ _
end
/-- a generator asleep that still has ys to tell -/
structure InnU (prog : Program) (X : GU) (a g : Nat) (Qe : List O → Prop) (A : Around) (ys : List Str) (s : Shared) : Prop where
  gen : GenAt s.heap a g 0
  lv : LvU X s
  st : ∃ gs, s.gens[g]? = some gs ∧ ∀ s'', LkU X s s'' → s''.gens[g]? = some .running → GoesU (model prog X.w) A (TellY (model prog X.w) A X Qe ys s'') (TellR X Qe ys s'') gs s''
theorem setGen_self {s : Shared} {g : Nat} {x : GenState} (h : g < s.gens.size) : (s.setGen g x).gens[g]? = some x := by
  show (s.gens.setIfInBounds g x)[g]? = some x
  rw [Array.getElem?_setIfInBounds_self_of_lt h]
theorem setGen_ne {s : Shared} {g k : Nat} {x : GenState} (h : k ≠ g) : (s.setGen g x).gens[k]? = s.gens[k]? := by
  show (s.gens.setIfInBounds g x)[k]? = _
  rw [Array.getElem?_setIfInBounds_ne (Ne.symm h)]
theorem setGen_size {s : Shared} {g : Nat} {x : GenState} : (s.setGen g x).gens.size = s.gens.size := by
  show (s.gens.setIfInBounds g x).size = _
  rw [Array.size_setIfInBounds]
section
variable {prog : Program} {X : GU} {a g : Nat} {Qe : List O → Prop} {A : Around} {ys : List Str} {s : Shared}
end
end Mine
end
section
open PySem PySem.W PyProof.Rows PySem.W.X PySem.SeqAt
namespace Mine
section
variable {prog : Program} {w : World} {A : Around} {E : Value → Shared → Prop} {s : Shared}
end
section
variable {prog : Program} {X X' : GU} {a g : Nat} {Qe Qe' : List O → Prop} {A : Around} {fs : List Frame} {zs : List Str}
end
end Mine
end
section
open PySem PySem.W PyProof.Rows PySem.W.X PySem.SeqAt
namespace Mine
section
variable {prog : Program} {X : GU} {L : Held} {xs : List Str} {Qe : List O → Prop} {A : Around} {c : Code} {fs : List Frame} {d : Nat} {m : Names} {H : List O} {K : Flow → Sem Fin} {Hd : Value → Sem Fin}
end
end Mine
end
section
open PySem PySem.W PyProof.Rows PySem.W.X PySem.SeqAt
namespace Mine
section
variable {w : World} {KF : Frag} {fi : FI} {env : Env} {m : Names} {F : Base} {ρ ρ' : List Ent} {H : List O} {h : Heap} {gs : Array GenState}
theorem Sim.frame (S : Sim w KF fi env m F ρ H h gs) (he : env.frame = some env.locals) : FrameAt fi env m ρ h := ⟨S.es, S.eg, S.eb, S.ec, S.ek, he, S.ns, S.cl, S.ce, S.cn, S.cu, S.cd⟩
theorem FrameAt.ext {ρ' : List Ent} (f : FrameAt fi env m ρ h) (p : ρ <+: ρ') : FrameAt fi env m ρ' h :=
  ⟨f.es, f.eg, f.eb, f.ec, f.ek, f.ef, let ⟨mv, a, b⟩ := f.ns; ⟨mv, a, fun x hx => (b x hx).mono p (.refl _)⟩, fun x c hc => let ⟨ov, a, b⟩ := f.cl x c hc; ⟨ov, a, b.mono p (.refl _)⟩, f.ce, f.cn, f.cu, f.cd⟩
theorem Sim.own_nodup (S : Sim w KF fi env m F ρ H h gs) (hw : fi.own = true) : (ownA fi env).Nodup := by
  unfold ownA
  rw [if_pos hw]
  refine List.nodup_cons.mpr ⟨fun q => ?_, ?_⟩
  · obtain ⟨⟨x, c⟩, hm, hx⟩ := List.mem_map.mp q
    exact (S.cu x c hm).2 hx
  · exact List.pairwise_map.mpr S.cd
end
section
variable {prog : Program} {w : World} {KF : Frag} {d : Nat} {E : HEP} {H : List O} {a : Nat} {o : Obj} {fd : FuncData} {body : List Stmt} {sc : Scope} {ps : List Str} {xs : List V}
/-- a generator function called -/
theorem call_gen {Q : V → List O → Prop} (K : FnOk KF a o fd body sc ps) (hgen : sc.isGenerator = true) (hlen : xs.length = ps.length)
    (h : Q (.ref H.length) (H ++ [.fresh ⟨sc, true, fd.code⟩ body (initN sc ps xs)])) : CallW prog w KF (d + 1) E H (.st a) xs Q :=
  fun A F ρ s u us hA S ru r => by
    have hsc := K.hsc
    subst hsc
    unfold VR at ru
    subst ru
    obtain ⟨ho, hcd⟩ := fn_code K.toFnB S.b
    have hul : us.length = ps.length := r.len.trans hlen
    refine wpAny_call (codeAny_call_generator hA.depth ho K.hd K.hco hgen K.hb hcd ?_)
    show wpAny _ _ (bindArgs fd ⟨us, []⟩) _ _ _
    rw [K.hbd _ hul, K.hcl]
    refine wpAny_pure (wpAny_newFunctionEnv_cells K.hk (fun z hz => ?_) fun env' he' s₃ Xc => ?_)
    · have hx1 : z.1 ∈ ps := by rw [← zip_keys hul]; exact List.mem_map.mpr ⟨z, hz, rfl⟩
      rcases K.hkd z.1 hx1 with q | q
      · exact .inl q
      · obtain ⟨c, hc⟩ := cells_has (n := s.heap.objs.size + 1) (mem_of_lookup q)
        exact .inr ⟨q, by rw [nodup_lookup (cells_nodup K.hnd) hc]; rfl⟩
    subst he'
    obtain ⟨st₃, S₃⟩ := enter_sim K.toFnB hlen S r Xc
    obtain ⟨h₃, tk₃, e₃, k₃⟩ := Xc.done
    subst e₃
    refine ⟨S₃.b.lim, ?_⟩
    have dd := S₃.hs.dead (get_size h₃)
    have kh : Keep h₃ (h₃.push { cls := .type "generator", data := .fields #[.int s.gens.size 0, .str fd.name tk₃, .str fd.qualname (tk₃ + 1)] }) := fun b o e => Heap.get?_push_of_some _ e
    have hb : ∀ z ∈ s.gens.push (.fresh (.func body (callEnvC fd s.heap.objs.size a))), z.bare = true := fun z hz => by
      rcases Array.mem_push.mp hz with hz | rfl
      · exact S.bare z hz
      · rfl
    have T := (S₃.keeps kh).gens hb (fun e he _ x c hx hc => by
          show (s.gens.push _)[x.1]? = _
          rw [Array.getElem?_push_lt (S.glt he hx)]; rw [Array.getElem?_eq_getElem (S.glt he hx)] at hc; exact hc) (by rw [Array.size_push]; exact Nat.le_succ _)
    have hno : h₃.objs.size ∉ ownA ⟨fd.scope, true, fd.code⟩ (callEnvC fd s.heap.objs.size a) := fun q => by
      obtain ⟨o, ⟨q2, _⟩ | ⟨q3, q2⟩⟩ := S₃.own_live _ q
      · rw [get_size] at q2; cases q2
      · rw [get_size] at q2; cases q2
    have hnd : (h₃.objs.size :: ownA ⟨fd.scope, true, fd.code⟩ (callEnvC fd s.heap.objs.size a)).Nodup := List.nodup_cons.mpr ⟨hno, S₃.own_nodup rfl⟩
    have hga : (h₃.push { cls := .type "generator", data := .fields #[.int s.gens.size 0, .str fd.name tk₃, .str fd.qualname (tk₃ + 1)] }).IsGen h₃.objs.size s.gens.size := ⟨_, _, _, Heap.get?_push_size _ rfl, rfl, rfl, rfl⟩
    have hint : interactive (callEnvC fd s.heap.objs.size a) = false := by
      have e : (callEnvC fd s.heap.objs.size a).scope = fd.scope := rfl
      unfold interactive
      rw [e]
      simp [K.hk]
    refine ⟨_, _, .ref H.length, st₃.trans ?_, T.hs.adoptG (gg := some (s.gens.size, callEnvC fd s.heap.objs.size a)) (o := .fresh ⟨fd.scope, true, fd.code⟩ body (initN fd.scope ps xs)) hnd (fun b hb => ?_) ⟨_, _, rfl, rfl, hga, rfl, hint, ((S₃.keeps kh).frame rfl).ext (List.prefix_append _ _)⟩ (fun x hx f hf y hy => ?_) ⟨_, _, rfl, Array.getElem?_push_size ..⟩, ?_, h⟩
    · exact .addG (s := ⟨h₃, s.gens, _, _, _⟩) (.of_keep kh) rfl (fun x hx => by rw [← Option.some.inj hx]; exact Nat.le_refl _) (by show s.gens.size ≤ (s.gens.push _).size; rw [Array.size_push]; exact Nat.le_succ _)
    · rcases List.mem_cons.mp hb with q | q
      · rw [q]; exact ⟨dd.1, dd.2, _, Heap.get?_push_size _ rfl⟩
      · have lo := S₃.lo b q
        obtain ⟨o, ⟨q2, _⟩ | ⟨q3, q2⟩⟩ := S₃.own_live _ q
        · exact ⟨lo.2, lo.1, _, kh _ _ q2⟩
        · exact ⟨lo.2, lo.1, _, kh _ _ q2⟩
    · rw [← Option.some.inj hx]
      exact Nat.ne_of_lt (S.glt hf hy)
    · unfold VR
      exact ⟨_, by rw [← S.len, List.getElem?_concat_length], rfl⟩
end
end Mine
end
section
open PySem PySem.W PyProof.Rows PySem.W.X PySem.SeqAt
namespace Mine
section
variable {M : Model} {A : Around} {E : Value → Shared → Prop} {s : Shared}
end
section
variable {prog : Program} {X : GU} {a g : Nat} {Qe : List O → Prop} {A : Around} {ys : List Str} {s s' : Shared}
end
section
variable {prog : Program} {w : World} {A : Around} {E : Value → Shared → Prop} {s : Shared}
theorem pyIter_genAt {a : Addr} {g : Nat} {k : Int} {Q : Value → Shared → Prop} (hg : GenAt s.heap a g k) (h : Q (.ref a) s) : wpAny (model prog w) A (pyIter (.ref a)) Q E s := by
  refine wpAny_pyIter_slot hg.typeIs slot_gen_iter (wpAny_call_entry slot_gen_iter hg.typeIs entry_gen_iter ?_ (args_gen_iter _))
  show wpAny _ _ (ret (.ref a)) _ _ s
  exact wpAny_pure ⟨_, rfl, "generator", _, hg.typeIs, slot_gen_next.lookup, h⟩
end
section
variable {prog : Program} {w : World} {KF : Frag} {fi : FI} {d : Nat} {E : EP} {m : Names} {H : List O}
end
end Mine
end
section
open PySem PySem.W PyProof.Rows PySem.Spec PySem.Calls
namespace Mine
/-- a caller's tree that may drive such generators, on the real machine -/
theorem ends_U {prog : Program} {w : World} {t : Sem Fin} {s : Shared} {R : Result → Shared → Prop} (hz : s.asleep)
    (h : wpU (model prog w) callerA t (fun fin s' => ∃ f, fin = .done f ∧ R (.ok f) s' ∧ AllBare s'.gens) (fun e s' => R (.error e) s' ∧ AllBare s'.gens) s) :
    ∃ n r s' s'', schedN (denote table) prog w n (.single s ⟨t, .builtin "claim.caller" {}, default, []⟩) = .halted (outcomeOf r) s' ∧ s'.forget = s''.forget ∧ s'.heap.life = s.heap.life ∧ R r s'' := by
  refine Ev.halts (den := denote table) (prog := prog) (w := w) (R := R) (s := s) (t := ⟨t, .builtin "claim.caller" {}, default, []⟩) ?_ hz
  have := h (.builtin "claim.caller" {}) default [] caller_in (K := .pure) (H := .raise) (gd := id) (lv := id) (Φ := fun s' t' => ∃ r c p, t' = ⟨leafOf r, c, p, []⟩ ∧ leftWithCleanup s'.gens = false ∧ R r s') ?_ ?_
  · rw [wrap_id] at this; exact this
  · rintro fin p' s' ⟨f, rfl, hR, hb⟩
    exact .now ⟨.ok f, _, p', rfl, leftWithCleanup_false_of_bare hb, hR⟩
  · rintro e p' s' ⟨hR, hb⟩
    exact .now ⟨.error e, _, p', rfl, leftWithCleanup_false_of_bare hb, hR⟩
theorem from_U {c : ClaimW} {tree : List Value → Sem Fin} {w : World} {s : Shared} {free : Addr → Prop} {gens : Prop} {kept : Heap → Prop} (hz : s.asleep) (hgens : s.gens = #[])
    (spec : ∀ args, c.pre args = true → WData.layableAll args = true → ∀ ord : List DictEntry → List DictEntry, (∀ l, (ord l).Perm l) → ∃ vs s₁, layAllW c.records (classAt s.heap) w.params ord args s = some (vs, s₁) ∧
      wpU (model c.prog w) callerA (tree vs) (fun fin s' => ∃ f, fin = .done f ∧ (c.Ends s args vs s₁ (.ok f) s' ∧ s'.os = s.os ∧ kept s'.heap) ∧ AllBare s'.gens) (fun e s' => (c.Ends s args vs s₁ (.error e) s' ∧ s'.os = s.os ∧ kept s'.heap) ∧ AllBare s'.gens) s₁) :
    c.CallFrom (fun vs => ⟨tree vs, .builtin "claim.caller" {}, default, []⟩) w free gens kept s := by
  intro args hpre hlay ord hord
  obtain ⟨vs, s₁, hl, hc⟩ := spec args hpre hlay ord hord
  have hal := layAllW_rest _ _ _ hl
  obtain ⟨n, r, s', s'', hs, hf, hlife, hE, hos, hkp⟩ := ends_U (R := fun r s' => c.Ends s args vs s₁ r s' ∧ s'.os = s.os ∧ kept s'.heap) (Shared.asleep_of_life hal.2.2.2 hz) hc
  obtain ⟨eh, _, _, eo, _⟩ := Shared.forget_eq hf
  have hE' := hE.congr eh
  rw [← eo] at hos
  refine ⟨vs, s₁, hl, n, _, s', hs, ?_, (fun _ i x hx => by rw [hgens] at hx; simp at hx), by rw [eh]; exact hkp, by rw [hlife, hal.2.2.2], Shared.rest_eq hos⟩
  rcases hE' with ⟨v, rfl, d1, d2, d3, d4, d5⟩ | ⟨e, ob, cls, rfl, d1, d2, d3, d4, d5⟩
  · exact .inl ⟨v, rfl, d1, d2, d3, fun b o y _ => d4 b o y, d5⟩
  · exact .inr ⟨e, ob, cls, rfl, d1, d2, d3, d4, fun b o y _ => d5 b o y⟩
/-- what a law's call has to do, where it may drive such generators -/
noncomputable def WalkU (q : Program) (loose : List Str) (XP : (Str → Option Value) → Heap → Prop) (YP : World → Heap → Prop) (r : RowW) (d : DefRec) (kwd : List (Str × Expr)) : Prop :=
  ∀ (w : World) (s₀ s₁ : Shared) (mg mb : Str → Option Value), Ground q loose r.records XP w s₀ mg mb s₁.heap → YP w s₁.heap → ∀ (a : Addr) (o : Obj) (pm cd doc dV kV : Value), s₁.heap.get? a = some o →
    o.data = .func { docDef d.name d.params d.body d.scope pm cd doc with defaults := dV, kwdefaults := kV } → s₁.heap.CodeRec cd d.name → Dflts mg s₁.heap d.params kwd dV kV → mg d.name = some (.ref a) → s₁.gens = #[] →
    ∀ (args : List WData) (vals : List Value) (as : List Addr), r.claim.pre args = true → WData.layableAll args = true → ReadsAllW r.records (classAt s₀.heap) s₁.heap vals args as → WellAll w.params s₁.heap vals args → (∀ a ∈ as, (a == sysModules) = false) →
      wpU (model r.prog w) callerA (PySem.call (.ref a) vals) (fun v s' => GoodWG r.claim (classAt s₀.heap) (ExcName.means s₀.heap) args s₁ (.ok (.ret v)) s') (fun e s' => GoodWG r.claim (classAt s₀.heap) (ExcName.means s₀.heap) args s₁ (.error e) s') s₁
theorem holds_U {r : OpenRow} {q : Program} {loose : List Str} {Xt : Shared → Bool} {XP : (Str → Option Value) → Heap → Prop} {α : Type} {Yf : Shared → α} {Ya : World → α} {YP : World → Heap → Prop} {d : DefRec} {kwd : List (Str × Expr)} {N : Nat}
    (left : LeftO r.prog q loose Xt Yf Ya N) (hY : ∀ w s, Yf s = Ya w → YP w s.heap) (hYk : ∀ w h h', YP w h → (∀ b o, h.get? b = some o → h'.get? b = some o) → YP w h')
    (hX : ∀ s, Xt s = true → XP (s.heap.nsMap mainGlobals) s.heap) (hXk : ∀ mg h h', XP mg h → (∀ b o, h.get? b = some o → h'.get? b = some o) → XP mg h')
    (hdef : defOf q r.name = some (d, kwd)) (hp : r.prog.theDef r.name = some (d.params, d.body, d.scope)) (hk : kwWritten? d.params.kwonlyargs d.params.kw_defaults = some kwd) (hRf : ∀ s, Xt s = true → RecFacts r.records s.heap) (hwr : (!r.writes || r.records.isEmpty) = true)
    (k1 : r.wellSaid = true) (ok : (chainsOk q && opensWell r.prog && (frees r.toRowW && r.within.isEmpty)) = true) (hb : r.prog.bare) (hw : r.toRowW.promised) (call : WalkU q loose XP YP r.toRowW d kwd) : r.Holds := by
  obtain ⟨ok, k5⟩ := Bool.and_eq_true_iff.mp ok
  obtain ⟨hch, o1⟩ := Bool.and_eq_true_iff.mp ok
  obtain ⟨k5, k6⟩ := Bool.and_eq_true_iff.mp k5
  obtain ⟨hsame, hu, ha, hap, hm⟩ := frees_parts k5
  refine ⟨k1, hw, ⟨hb, o1, by show r.toRowW.makers.map _ = []; rw [hm]; rfl⟩, hw.witness, fun w => ⟨(left.behind hX hch w).1, fun s' hs' => ?_⟩⟩
  obtain ⟨s₀, hf, hg0, s, hT, hz, hgens, hg, G00, y⟩ := (left.behind (XP := fun mg h => XP mg h ∧ RecFacts r.records h) (fun s hs => ⟨hX s hs, hRf s hs⟩) hch w).2 s' hs'
  have G0 : Ground q loose [] XP w s (s.heap.nsMap mainGlobals) (s.heap.nsMap builtinsNs) s.heap := ⟨G00.T, G00.B, G00.D, G00.TE, G00.TD, G00.W, G00.X.1, G00.cls, G00.has, G00.apart, G00.once, G00.K⟩
  have RF := G00.X.2
  have hT' := hT
  have hgens : s.gens = #[] := Array.eq_empty_of_size_eq_zero (beq_iff_eq.mp hgens)
  have G : Ground q loose r.records XP w s _ _ s.heap := RF.ground G0
  refine ⟨s₀, hf, hg0, s, hT, fun n hn => ?_, RF.1, RF.2.1, from_U (c := r.toRowW.claim) hz hgens fun args hpre hlay ord hord => ?_⟩
  · obtain rfl : n = r.name := by split at hn <;> simp_all
    exact pinned_of_view hg G0 hdef hp hk
  obtain ⟨⟨vs, s₁⟩, hl⟩ := Option.isSome_iff_exists.mp (layAllW_isSome (P := w.params) (ord := ord) G.has args r.toRowW.args s (pre_splitW hpre).1)
  have keeps := layAllW_keeps _ _ _ hl
  have hal := layAllW_rest _ _ _ hl
  obtain ⟨as, hrd, hin, hold⟩ := reads_layAllW hord _ _ _ hl hlay s₁.heap (fun _ _ e => e)
  have L : Laid r.records w s s₁ args vs as := ⟨⟨ord, hord, hl⟩, hrd, hin, hold, keeps, hal.1.trans hgens, hal.2.2.1⟩
  have G₁ := G.keeps hXk keeps
  obtain ⟨a, o, pm, cd, doc, dV, kV, h1, h2, h3, h4, h5⟩ := G₁.fn hdef
  have h := call w s s₁ _ _ G₁ (hYk _ _ _ (hY w s y) keeps) a o pm cd doc dV kV h2 h3 h4 h5 (defOf_name hdef ▸ h1) L.gens args vs as hpre hlay L.reads L.well (L.low G.low)
  have hi := ident_freeW hu ha hap
  have hwi : r.toRowW.claim.within = [] := List.isEmpty_iff.mp k6
  refine ⟨vs, s₁, hl, wpU_bind (up (wpAny_nsGet G₁.T.g ?_))⟩
  rw [h1]
  refine wpU_bind (wpU_mono h (fun v s' g => wpU_pure (M := model r.prog w) ⟨_, rfl, ?_⟩) fun e s' g => ?_)
  · have z := g.laid (c := r.toRowW.claim) hsame hwi hi L
    exact ⟨⟨z.1, z.2.1, fun q => ⟨namesKept_of hT' hg _ keeps g.2.1.old, noTable hwr q⟩⟩, z.2.2⟩
  · have z := g.laid (c := r.toRowW.claim) hsame hwi hi L
    exact ⟨⟨z.1, z.2.1, fun q => ⟨namesKept_of hT' hg _ keeps g.2.1.old, noTable hwr q⟩⟩, z.2.2⟩
end Mine
end
section
open PySem PySem.W PyProof.Rows PySem.W.X PySem.SeqAt
namespace Mine
section
variable {prog : Program} {w : World} {KF : Frag} {fi : FI} {d : Nat} {E : EP} {m : Names} {H : List O}
/-- '%s' of a text -/
theorem we_fvals {e : Expr} {pos : Pos} {Q : V → List O → Prop} (h : WE prog w KF fi d E m H e fun v H₁ => ∃ x, v = .str x ∧ x.length ≤ sizeLine ∧ Q (.str x) H₁) : WE prog w KF fi d E m H (.FormattedValue e 115 none pos) Q :=
  fun A env F ρ s hA S => by
    show wpAny _ A (do let v ← eval e env; standAt pos; formatted pos (← holding [v] (converted 115 v)) none) _ _ s
    refine wpAny_bind (wpAny_mono (h A env F ρ s hA S) (fun u s₁ hx => ?_) fun _ _ x => x)
    obtain ⟨ρ₁, H₁, v, st₁, S₁, r, x, e, hx, h₁⟩ := hx
    subst e
    obtain ⟨t, rfl⟩ := r.str_eq
    refine wpAny_bind (wpAny_standAt ?_)
    show wpAny _ _ (do let v' ← holding [.str x t] (habitSame "fstring-hands-on-the-str" (.str x t)); formatField v' Str.empty) _ _ s₁
    exact wpAny_bind (wpAny_holding (habitSame_str (fun t' tk => formatField_str (fun t'' tk' => ⟨ρ₁, H₁, .str x, st₁.trans (.same (.refl _) rfl), S₁, by unfold VR; exact ⟨_, rfl⟩, h₁⟩) hx) hx))
end
end Mine
end
section
open PySem PySem.W PyProof.Rows PySem.W.X PySem.SeqAt
namespace Mine
section
variable {prog : Program} {w : World} {KF : Frag} {fi : FI} {d : Nat} {E : EP} {m : Names} {H : List O}
end
end Mine
end
section
open PySem PySem.W PyProof.Rows PySem.W.X PySem.SeqAt
namespace Mine
section
variable {prog : Program} {w : World} {KF : Frag} {d : Nat} {E : HEP} {H : List O} {Q : V → List O → Prop}
theorem str_i {i : Int} (hi : i.natAbs.log2 < 1920) (h : Q (.str (Str.ofString (toString i))) H) : CallW prog w KF d E H (.ty "str") [.int i] Q := fun A F ρ s u us hA S ru r => by
  rw [ru.ty_eq]
  obtain ⟨v, q, rfl, rv, rq⟩ := r.cons_eq
  rw [rq.nil_eq]
  obtain ⟨t, rfl⟩ := rv.int_eq
  exact PySem.P.str_of_int hi (hq_same S vr_str h)
theorem list_l {l : Nat} {xs : List V} (hl : IsL' H l xs) (hz : xs.length ≤ sizeLine) (h : Q (.ref H.length) (H ++ [.list xs])) : CallW prog w KF d E H (.ty "list") [.ref l] Q := fun A F ρ s u us hA S ru r => by
  rw [ru.ty_eq]
  obtain ⟨v, q, rfl, rv, rq⟩ := r.cons_eq
  rw [rq.nil_eq]
  obtain ⟨e, he, rfl⟩ := rv.ref_eq
  obtain ⟨vs, a, b⟩ := S.list hl he
  obtain ⟨o, ho, hc, n, hd⟩ := a
  refine call_list_seq _ (.inl rfl) ho hc hd (fun h' c' hk hn => ?_) (by rw [List.size_toArray, b.len]; exact hz)
  have S' := S.alloc (o := .list xs) hk (get_size _) ⟨_, hn⟩ ⟨rfl, rfl, vs, ⟨_, hn⟩, b.mono (List.prefix_append _ _) (.of_keep hk)⟩
  refine ⟨_, _, .ref H.length, .add (.of_keep hk) rfl, S', ?_, h⟩
  unfold VR
  exact ⟨_, by rw [← S.len, List.getElem?_concat_length], rfl⟩
end
theorem pick_from {α : Type} (xs : List α) (k : Nat) : pick xs (some (k : Int)) none none = xs.drop k := by
  rw [pick_plain, clip_nat, show clipN none xs.length xs.length = xs.length from rfl]
  by_cases q : k ≤ xs.length
  · rw [Nat.min_eq_left q, List.take_of_length_le (Nat.le_of_eq List.length_drop)]
  · rw [Nat.min_eq_right (Nat.le_of_not_le q), List.drop_length, List.drop_eq_nil_of_le (Nat.le_of_not_le q), List.take_nil]
end Mine
namespace Mine
section
variable {prog : Program} {w : World} {KF : Frag} {fi : FI} {d : Nat} {E : EP} {m : Names} {H : List O}
end
end Mine
end
section
open PySem PySem.W PyProof.Rows PySem.W.X PySem.SeqAt
namespace Mine
theorem fits_i {i : Int} (h0 : 0 ≤ i) (hz : i < 2 ^ 62) : Builtin.List.listFitsIndex i = true := by
  unfold Builtin.List.listFitsIndex
  simp
  omega
theorem lt62 {a b : Nat} (h : a < b) (hz : b ≤ sizeLine) : (a : Int) < 2 ^ 62 := by
  have h2 : a < 2 ^ 24 := Nat.lt_of_lt_of_le h hz
  omega
theorem ins_arr {i : Int} (h0 : 0 ≤ i) (vs : List Value) (y : Value) : (fun xs : Array Value => have k := if i < 0 then (i + (xs.size : Int)).toNat else min i.toNat xs.size; (xs.extract 0 k).push y ++ xs.extract k) vs.toArray = (vs.take i.toNat ++ [y] ++ vs.drop i.toNat).toArray := by
  dsimp only
  rw [if_neg (by omega), List.size_toArray]
  apply Array.toList_inj.mp
  by_cases q : i.toNat ≤ vs.length
  · rw [Nat.min_eq_left q]
    simp
    exact List.take_of_length_le (by rw [List.length_drop]; exact Nat.le_refl _)
  · have q : vs.length ≤ i.toNat := by omega
    rw [Nat.min_eq_right q, List.take_of_length_le q, List.drop_of_length_le q]
    simp
theorem pop_arr {vs : List Value} {k : Nat} (hlt : k < vs.length) : (fun xs : Array Value => xs.eraseIdxIfInBounds k) vs.toArray = (vs.take k ++ vs.drop (k + 1)).toArray := by
  dsimp only
  have e2 : vs = vs.take k ++ vs[k] :: vs.drop (k + 1) := by rw [List.getElem_cons_drop, List.take_append_drop]
  have e3 : (vs.take k).length = k := by rw [List.length_take]; omega
  have := kl_erase (vs.take k) (vs.drop (k + 1)) vs[k]
  rw [e3, ← e2] at this
  exact this
theorem plain_upd' {h : Heap} {l : Nat} {items : Array Value} (f : Array Value → Array Value) (x : h.PlainList l items) : (h.update l (Obj.mapSeq f)).PlainList l (f items) := by
  obtain ⟨n, e⟩ := x
  exact ⟨_, Heap.get?_update_self _ e rfl⟩
section
variable {prog : Program} {w : World} {KF : Frag} {d : Nat} {E : HEP} {H : List O} {Q : V → List O → Prop}
theorem meth_list {l : Nat} {xs : List V} {name : Str} {id : String} (slot : Slot "list" name id) (hty : typeOf (.builtin id) = pure (.type "method_descriptor")) (hl : H[l]? = some (.list xs)) : MethIs prog w KF H (.ref l) name (.bi id) := fun A F ρ s u pl K E' S r h => by
  obtain ⟨e, he, rfl⟩ := r.ref_eq
  obtain ⟨_, _, vs, ⟨n, a⟩, b⟩ := S.ob l e _ he hl
  exact getMethod_builtin ⟨_, a, rfl⟩ PySem.F.plainAttrs_list slot hty (fun a' e => by cases e; exact ⟨_, a, rfl⟩) (h _ vr_bi)
theorem ins_l {l : Nat} {xs : List V} {i : Int} {x : V} (hl : H[l]? = some (.list xs)) (h0 : 0 ≤ i) (hi : i < 2 ^ 62) (hz : xs.length ≤ sizeLine) (h : Q .none (H.set l (.list (xs.take i.toNat ++ [x] ++ xs.drop i.toNat)))) : CallW prog w KF d E H (.bi "list.insert") [.ref l, .int i, x] Q := fun A F ρ s u us hA S ru r => by
  rw [ru.bi_eq]
  obtain ⟨v, q, rfl, rv, rq⟩ := r.cons_eq
  obtain ⟨v', q', rfl, rv', rq'⟩ := rq.cons_eq
  obtain ⟨v'', q'', rfl, rv'', rq''⟩ := rq'.cons_eq
  rw [rq''.nil_eq]
  obtain ⟨e, he, rfl⟩ := rv.ref_eq
  obtain ⟨t', rfl⟩ := rv'.int_eq
  obtain ⟨h1, h2, vs, a, b⟩ := S.ob l e _ he hl
  obtain ⟨n, ho⟩ := id a
  refine call_meets PySem.F.slot_list_insert ⟨_, ho, rfl⟩ PySem.F.entry_list_insert (PySem.F.args_list_insert_3 _ _ _) (PySem.AutoSeq1.list_insert_list_int_val_1 e.a _ n i t' v'' (by simp [fits_i h0 hi]) (by rw [List.size_toArray, b.len]; exact hz)) ⟨ho, ?_⟩
  obtain ⟨st, S'⟩ := S.turn (tk := s.toks) (h' := s.heap.update e.a (Obj.mapSeq fun xs : Array Value => have k := if i < 0 then (i + (xs.size : Int)).toNat else min i.toNat xs.size; (xs.extract 0 k).push v'' ++ xs.extract k)) (ys := xs.take i.toNat ++ [x] ++ xs.drop i.toNat) (us := vs.take i.toNat ++ [v''] ++ vs.drop i.toNat) hl he (fun b o hb e => (Heap.get?_update_other _ _ (Ne.symm hb)).trans e)
    (by rw [← ins_arr h0]; exact plain_upd' _ a) (((b.take _).append (.cons rv'' .nil)).append (b.drop _))
  exact ⟨ρ, _, .none, st, S', vr_none, h⟩
theorem pop_li {l k : Nat} {xs : List V} {x : V} (hl : H[l]? = some (.list xs)) (hk : xs[k]? = some x) (hz : xs.length ≤ sizeLine) (h : Q x (H.set l (.list (xs.take k ++ xs.drop (k + 1))))) : CallW prog w KF d E H (.bi "list.pop") [.ref l, .int (k : Int)] Q := fun A F ρ s u us hA S ru r => by
  rw [ru.bi_eq]
  obtain ⟨v, q, rfl, rv, rq⟩ := r.cons_eq
  obtain ⟨v', q', rfl, rv', rq'⟩ := rq.cons_eq
  rw [rq'.nil_eq]
  obtain ⟨e, he, rfl⟩ := rv.ref_eq
  obtain ⟨t', rfl⟩ := rv'.int_eq
  obtain ⟨h1, h2, vs, a, b⟩ := S.ob l e _ he hl
  obtain ⟨n, ho⟩ := id a
  obtain ⟨y, hy, ry⟩ := b.get hk
  have hlt : k < vs.length := (List.getElem?_eq_some_iff.mp hy).1
  have hz' : vs.length ≤ sizeLine := by rw [b.len]; exact hz
  have hf := fits_i (Int.natCast_nonneg k) (lt62 hlt hz')
  have hsi : seqIndex? (k : Int) vs.toArray.size = some k := by
    unfold seqIndex?
    rw [List.size_toArray]
    simp
    omega
  have hy' : vs.toArray[k]? = some y := by simpa using hy
  have hs' : vs.toArray.size ≤ sizeLine := by rw [List.size_toArray]; exact hz'
  refine call_meets PySem.F.slot_list_pop ⟨_, ho, rfl⟩ PySem.F.entry_list_pop (PySem.F.args_list_pop_2 _ _) (@PySem.MeetsSeq.list_pop_at e.a vs.toArray n (k : Int) t' k y hf hsi hy' hs') ⟨ho, ?_⟩
  · obtain ⟨st, S'⟩ := S.turn (tk := s.toks) (h' := s.heap.update e.a (Obj.mapSeq fun xs : Array Value => xs.eraseIdxIfInBounds k)) (ys := xs.take k ++ xs.drop (k + 1)) (us := vs.take k ++ vs.drop (k + 1)) hl he (fun b o hb e => (Heap.get?_update_other _ _ (Ne.symm hb)).trans e)
      (by rw [← pop_arr hlt]; exact plain_upd' _ a) ((b.take _).append (b.drop _))
    exact ⟨ρ, _, x, st, S', ry.mono (List.prefix_refl _) st.2.1, h⟩
end
end Mine
end
section
open PySem PySem.W PyProof.Rows PySem.W.X PySem.SeqAt
namespace Mine
section
variable {α : Type} {M : Model} {A : Around} {E : Value → Shared → Prop} {s : Shared}
/-- an error raised, with its words -/
theorem raiseWords {cls msg : String} {Q : α → Shared → Prop} (hp : PlainExc cls) (hh : A.handled = none)
    (h : ∀ h' tk e t, Heap.MadeExc s.heap h' e cls [.str (Str.ofString msg) t] → E (.ref e) { s with heap := h', toks := tk }) :
    wpAny M A (raiseErrorWords cls msg : Sem α) Q E s := by
  unfold raiseErrorWords
  refine wpAny_bind (wpAny_mkText (wpAny_bind (wpAny_newExc_plain hp fun h' e hm => wpAny_raiseNew_none hh ?_)))
  exact h _ _ _ _ hm
end
section
variable {prog : Program} {w : World} {A : Around} {E : Value → Shared → Prop} {s : Shared}
/-- l[k], k behind the last place -/
theorem getItem_out {l : Addr} {items : Array Value} {k : Int} {t : Tok} {Q : Value → Shared → Prop} (hA : A.handled = none) (hl : s.heap.IsList l items) (h0 : 0 ≤ k) (hout : (items.size : Int) ≤ k) (hk : k < 2 ^ 62)
    (hE : ∀ h' tk e t, Heap.MadeExc s.heap h' e "IndexError" [.str (Str.ofString "list index out of range") t] → E (.ref e) { s with heap := h', toks := tk }) :
    wpAny (model prog w) A (getItem (.ref l) (.int k t)) Q E s := by
  obtain ⟨o, ho, hc, ne, hd⟩ := id hl
  unfold getItem
  try with_reducible refine wpAny_holding ?_
  first | refine wpAny_bind (wpAny_pure ?_) | skip
  refine wpAny_bind (wpAny_sequenceKey hl.typeIs (by decide) ?_)
  refine wpAny_bind (wpAny_callSpecial?_slot (name := Str.ofString "__getitem__") hl.typeIs slot_list_getitem
    (wpAny_call_entry slot_list_getitem hl.typeIs entry_list_getitem ?_ (args_list_getitem _ _)))
  show wpAny _ _ (Builtin.List.listSubscript? (.int k t) >>= _) _ _ s
  refine wpAny_bind (wpAny_listSubscript_int (fitsIndex_both (by omega) (by omega)) ?_)
  clear hk
  obtain ⟨j, rfl⟩ := Int.eq_ofNat_of_zero_le h0
  have hx : items[j]? = none := Array.getElem?_eq_none (by omega)
  show wpAny _ _ ((seqItemAt l j >>= fun r => pure (r.map (j, ·))) >>= _) _ _ s
  refine wpAny_bind (wpAny_bind (wpAny_seqItemAt ho hd (wpAny_pure ?_)))
  rw [hx]
  first
    | exact wpAny_bind (wpAny_rule (raiseWords plainExc_IndexError hA hE))
    | exact wpAny_bind (wpAny_rule (wpAny_bind (raiseWords plainExc_IndexError hA hE)))
    | exact wpAny_bind (wpAny_bind (wpAny_rule (raiseWords plainExc_IndexError hA hE)))
    | exact wpAny_rule (raiseWords plainExc_IndexError hA hE)
end
/-- a heap without some objects -/
noncomputable def holes (h : Heap) (S : List Nat) : Heap := { h with objs := h.objs.mapIdx fun i o => if i ∈ S then { o with data := .freed } else o }
theorem holes_get {h : Heap} {S : List Nat} {b : Nat} : (holes h S).get? b = if b ∈ S then none else h.get? b := by
  unfold holes Heap.get?
  simp only [Array.getElem?_mapIdx]
  cases q : h.objs[b]? with
  | none => simp
  | some o =>
    by_cases z : b ∈ S
    · simp [z]
    · simp [z]
end Mine
end
section
open PySem PySem.W PyProof.Rows PySem.W.X PySem.SeqAt
namespace Mine
/-- where the frames stand -/
noncomputable def FrAt (L : List Nat) (h : Heap) (l : List Env) : Prop := ∀ e ∈ l, e.scope.kind ≠ .module ∧ ∃ a o, e.frame = some a ∧ a ∈ L ∧ h.get? a = some o ∧ ∃ es ep, o.data = .dict es ep
/-- but for e and the slots of L nothing has changed since h₁ -/
structure Noted (L : List Nat) (e : Nat) (h₁ h : Heap) : Prop where
  kp : ∀ b o, b ≠ e → b ∉ L → h₁.get? b = some o → h.get? b = some o
  lo : ∀ b ∈ L, ∀ o, h₁.get? b = some o → ∃ sl, h.get? b = some { o with slots := sl }
theorem FrAt.fun {L : List Nat} {h base : Heap} : ∀ {l : List Env}, FrAt L h l → (∀ b ∈ L, base.get? b = none) → h.FunFrames base l
  | [], _, _ => trivial
  | x :: l, f, hb => by
    obtain ⟨h1, a, o, h2, h3, h4, es, ep, h5⟩ := f x (.head _)
    exact ⟨h1, ⟨a, o, h2, hb a h3, h4, fun vs z => by rw [h5] at z; cases z⟩, FrAt.fun (fun y hy => f y (.tail _ hy)) hb⟩
/-- an exception under way: raised at h₁, its frames noted since -/
structure Fly (L : List Nat) (e : Nat) (cls a0 : Value) (l : List Env) (h₁ h : Heap) : Prop where
  fl : Heap.FlyingW (holes h₁ (e :: L)) l e cls a0 h
  nt : Noted L e h₁ h
  fr : FrAt L h₁ l
theorem noted_of {L : List Nat} {e : Nat} {h₁ h h' : Heap} (n : Noted L e h₁ h) (hd : ∀ b ∈ L, ∃ o es ep, h₁.get? b = some o ∧ o.data = .dict es ep) (hs : (holes h₁ (e :: L)).StaysIn h') (hu : ∀ b o, h.get? b = some o → (∀ vs, o.data ≠ .fields vs) → ∃ sl, h'.get? b = some { o with slots := sl }) : Noted L e h₁ h' := by
  refine ⟨fun b o h1 h2 h3 => hs b o ?_, fun b hb o ho => ?_⟩
  · rw [holes_get, if_neg fun q => (List.mem_cons.mp q).elim h1 h2]; exact h3
  · obtain ⟨sl, h4⟩ := n.lo b hb o ho
    obtain ⟨o2, es, ep, h5, h6⟩ := hd b hb
    rw [ho] at h5; cases h5
    obtain ⟨sl', h7⟩ := hu b _ h4 fun vs z => by
      have z : o.data = .fields vs := z
      rw [h6] at z; cases z
    exact ⟨sl', h7⟩
section
variable {M : Model} {A : Around} {E : Value → Shared → Prop} {s : Shared} {L : List Nat} {e : Nat} {env : Env} {outer : List Env}
end
end Mine
end
section
open PySem PySem.W PyProof.Rows PySem.W.X PySem.SeqAt
namespace Mine
theorem dict_not_imm {o : Obj} {es ep} (hd : o.data = .dict es ep) : ¬ Imm o := by
  rintro (⟨⟨xs, n, q⟩, _⟩ | ⟨_, vs, q⟩) <;> (rw [hd] at q; cases q)
section
variable {w : World} {KF : Frag} {F : Base} {ρ : List Ent} {H : List O} {h₁ h : Heap} {gs : Array GenState} {L : List Nat} {e : Nat}
theorem Noted.tk (n : Noted L e h₁ h) (hd : ∀ b ∈ L, ∃ o es ep, h₁.get? b = some o ∧ o.data = .dict es ep) (he : ∀ o, h₁.get? e = some o → ¬ Imm o) : TK h₁ h := fun b o ho hi => by
  by_cases q : b = e
  · subst q; exact absurd hi (he o ho)
  · by_cases z : b ∈ L
    · obtain ⟨o', es, ep, h2, h3⟩ := hd b z
      rw [ho] at h2; cases h2
      exact absurd hi (dict_not_imm h3)
    · exact n.kp b o q z ho
/-- the call's heap behind the noting of an exception; what is used up may be touched -/
theorem HSim.noted (S : HSim w KF F ρ H h₁ gs) (n : Noted L e h₁ h) (hd : ∀ b ∈ L, ∃ o es ep, h₁.get? b = some o ∧ o.data = .dict es ep) (he : ∀ o, h₁.get? e = some o → ¬ Imm o) (heF : F.f e = none ∧ e ∉ fps ρ)
    (hL : ∀ b ∈ L, b ∈ F.lo ∨ ∃ (j : Nat) (f : Ent), ρ[j]? = some f ∧ H[j]? = some .gone ∧ b ∈ f.fp) : HSim w KF F ρ H h gs := by
  have t := n.tk hd he
  have kF : KeepG F h := fun b o q => by
    obtain ⟨o', h2, u⟩ := S.keep b o q
    have hne : b ≠ e := fun z => by rw [z, heF.1] at q; cases q
    by_cases z : b ∈ L
    · rcases hL b z with z' | ⟨j, f, hf, _, hb⟩
      · obtain ⟨sl, h3⟩ := n.lo b z o' h2
        exact ⟨_, h3, u.trans (.inr ⟨z', sl, rfl⟩)⟩
      · have := S.off b (fps_mem hf hb)
        rw [this] at q; cases q
    · exact ⟨o', n.kp b o' hne z h2, u⟩
  refine ⟨S.bs, kF, S.len, fun i f o hi ho => ?_, fun b hb => ?_, S.nd, S.off, S.gn, S.bare, S.gf, S.fo⟩
  · by_cases z : o = .gone
    · subst z; exact S.ob i f _ hi ho
    · refine (S.ob i f o hi ho).mono (List.prefix_refl _) t S.keep kF fun b hb q hq => n.kp b q (fun z => heF.2 (z ▸ fps_mem hi hb)) (fun hbL => ?_) hq
      rcases hL b hbL with z' | ⟨j, f', hf, hg, hb'⟩
      · exact S.fo.off (S.off b (fps_mem hi hb)) z'
      · by_cases q2 : i = j
        · subst q2
          rw [ho] at hg
          cases hg
          exact z rfl
        · exact fps_apart S.nd hi hf q2 hb hb'
  · obtain ⟨o, ho⟩ := S.live b hb
    by_cases z : b ∈ L
    · obtain ⟨sl, h3⟩ := n.lo b z o ho; exact ⟨_, h3⟩
    · exact ⟨o, n.kp b o (fun q => heF.2 (q ▸ hb)) z ho⟩
end
end Mine
end
section
open PySem PySem.W PyProof.Rows PySem.W.X PySem.SeqAt
namespace Mine
section
variable {w : World} {KF : Frag} {fi : FI} {env : Env} {m : Names} {F : Base} {ρ : List Ent} {H : List O} {h h' : Heap} {gs : Array GenState}
/-- a name of which nothing is known takes any value -/
theorem Sim.setAny (S : Sim w KF fi env m F ρ H h gs) {x : Str} {u : Value} (hx : getL m x = none) {mv : Str → Option Value} (hn₀ : h.Ns env.locals mv)
    (hm : ∀ x, fi.sc.names.lookup x = some .local → OVR ρ h (getL m x) (mv x)) (hn : h'.Ns env.locals (fun y => if y = x then some u else mv y)) (hs : Heap.SameBut env.locals h h') : Sim w KF fi env m F ρ H h' gs := by
  obtain ⟨hs', t⟩ := S.own_upd (loc_own fi env) (fun b o hb e => hs.extBut b o hb e) (ns_not_imm hn₀)
  refine ⟨hs', S.es, S.eg, S.eb, S.ec, S.ek, S.ef, S.lo, ⟨_, hn, fun y hy => ?_⟩, fun y c hc => ?_, S.ce, S.cn, S.cu, S.cd, S.cf⟩
  · by_cases q : y = x
    · rw [q, hx]; trivial
    · rw [if_neg q]; exact (hm y hy).mono (List.prefix_refl _) t
  · obtain ⟨ov, ⟨o, ho, hd⟩, hv⟩ := S.cl y c hc
    exact ⟨ov, ⟨o, hs.extBut c o (S.cu y c (lookup_mem hc)).2 ho, hd⟩, hv.mono (List.prefix_refl _) t⟩
/-- the frame's names forgotten -/
theorem Sim.forget (S : Sim w KF fi env m F ρ H h gs) {mv : Str → Option Value} (hn : h'.Ns env.locals mv) (hs : Heap.SameBut env.locals h h') : Sim w KF fi env [] F ρ H h' gs := by
  obtain ⟨mv₀, hn₀, _⟩ := S.ns
  obtain ⟨hs', t⟩ := S.own_upd (loc_own fi env) (fun b o hb e => hs.extBut b o hb e) (ns_not_imm hn₀)
  refine ⟨hs', S.es, S.eg, S.eb, S.ec, S.ek, S.ef, S.lo, ⟨_, hn, fun y hy => trivial⟩, fun y c hc => ?_, S.ce, S.cn, S.cu, S.cd, S.cf⟩
  obtain ⟨ov, ⟨o, ho, hd⟩, hv⟩ := S.cl y c hc
  exact ⟨ov, ⟨o, hs.extBut c o (S.cu y c (lookup_mem hc)).2 ho, hd⟩, trivial⟩
end
/-- what an exception's object says -/
noncomputable def ExcOb (h : Heap) (a : Nat) (X : String) (args : List Value) : Prop := ∃ t, h.ExcAt a X (.ref t) ∧ h.TupAt t args
section
variable {prog : Program} {w : World} {KF : Frag} {fi : FI} {env : Env} {m : Names} {F : Base} {ρ : List Ent} {H : List O} {s : Shared} {A : Around} {L : List Nat} {a : Nat} {outer : List Env} {h₁ : Heap}
theorem Fly.exc {X : String} {t : Nat} {l : List Env} {args : List Value} {h : Heap} (f : Fly L a (.type X) (.ref t) l h₁ h) (ht : h₁.get? t = some { cls := .type "tuple", data := .seq args.toArray }) (hta : t ≠ a) (htL : t ∉ L) : ExcOb h a X args := by
  obtain ⟨_, _, _, oe, vs, T, oT, ts, he, ⟨hc, h0⟩, hd, _⟩ := f.fl
  exact ⟨t, ⟨oe, vs, he, hc, hd, h0⟩, ⟨_, _, f.nt.kp t _ hta htL ht, rfl, rfl⟩⟩
end
end Mine
end
section
open PySem PySem.W PyProof.Rows PySem.W.X PySem.SeqAt
namespace Mine
/-- of the exceptions' classes -/
structure ExcCls (X T : String) (b : Bool) : Prop where
  base : isSubtype (.type T) (.type "BaseException") = pure true
  notup : isSubtype (.type ((Manifest.find? T).elim "type" fun x => x.metatype)) (.type "tuple") = pure false
  sub : isSubtype (.type X) (.type T) = pure b
section
variable {prog : Program} {w : World} {KF : Frag} {fi : FI} {env : Env} {m : Names} {F : Base} {ρ : List Ent} {H : List O} {s : Shared} {A : Around} {L : List Nat} {a : Nat} {outer : List Env} {h₁ : Heap} {E : Value → Shared → Prop}
/-- what the suite of an except clause has to do, at a state in which the name n holds the exception -/
noncomputable abbrev SuiteW (prog : Program) (w : World) (KF : Frag) (fi : FI) (env : Env) (m : Names) (F : Base) (ρ : List Ent) (H : List O) (A : Around) (a : Nat) (X : String) (args : List Value) (n : Str) (body : List Stmt) (s : Shared) (Q : Flow → List Ent → List O → Shared → Prop) : Prop :=
  ∀ s₃ : Shared, s₃.gens = s.gens → s₃.os = s.os → Sim w KF fi env m F ρ H s₃.heap s₃.gens → ExcOb s₃.heap a X args → (∃ mv, s₃.heap.Ns env.locals mv ∧ mv n = some (.ref a)) →
    wpAny (model prog w) (A.mark (some (.ref a))) (execs body env) (fun f s₄ => ∃ ρ₄ H₄, Step ρ s₃ ρ₄ s₄ ∧ Sim w KF fi env m F ρ₄ H₄ s₄.heap s₄.gens ∧ Q f ρ₄ H₄ s₄) (fun _ _ => False) s₃
theorem handle_as {ρ₀ : List Ent} {s₀ : Shared} {X T : String} {t : Nat} {args : List Value} {n tn : Str} {np pos : Pos} {b₀ : Stmt} {suite : List Stmt} {rest : List ExceptHandler} {Q : Flow → Shared → Prop} {R : Flow → List Ent → List O → Shared → Prop} (K : ExcCls X T true)
    (S : Sim w KF fi env m F ρ H s.heap s.gens) (hn : fi.sc.names.lookup n = some .local) (hm : getL m n = none)
    (hT : fi.sc.names.lookup tn = some .globalImplicit) (eT : nsIn KF mainGlobals tn = some none) (bT : bootBuiltins tn = some (.type T)) (dT : (tn == ("__debug__" : Str)) = false) (nT : tn ≠ "__name__")
    (hd : ∀ b ∈ L, ∃ o es ep, h₁.get? b = some o ∧ o.data = .dict es ep) (f : Fly L a (.type X) (.ref t) (env :: outer) h₁ s.heap) (ht : h₁.get? t = some { cls := .type "tuple", data := .seq args.toArray }) (hta : t ≠ a) (htL : t ∉ L)
    (hal : a ≠ env.locals) (hsn : ∀ h', Fly L a (.type X) (.ref t) (env :: outer) h₁ h' → Step ρ₀ s₀ ρ { s with heap := h' } ∧ Sim w KF fi env m F ρ H h' s.gens)
    (h : SuiteW prog w KF fi env m F ρ H A a X args n (b₀ :: suite) s R)
    (hQ : ∀ fl ρ₄ H₄ s₄ s₅, R fl ρ₄ H₄ s₄ → Step ρ₀ s₀ ρ₄ s₅ → TK s₄.heap s₅.heap → Sim w KF fi env [] F ρ₄ H₄ s₅.heap s₅.gens → Q fl s₅) :
    wpAny (model prog w) A (handleBy (.ref a) env (.ExceptHandler (some (.Name tn np)) (some n) (b₀ :: suite) pos :: rest)) Q E s := by
  obtain ⟨mg, hg⟩ := S.b.g
  obtain ⟨mb, hmb, hb'⟩ := S.b.bi
  have ex : ExcOb s.heap a X args := f.exc ht hta htL
  refine wpAny_handleBy_builtin_as K.base K.notup K.sub ?_
  refine Calls.Name_function_global S.kd ((S.kind tn).trans hT) (Calls.loadGlobal_builtin (S.eg ▸ hg) (mg_no S.b.k hg eT) (S.eb ▸ hmb) ((hb' tn nT).trans bT) ⟨rfl, ?_, ?_⟩) dT
  · obtain ⟨_, ⟨o, vs, ho, hc, _⟩, _⟩ := ex
    exact ⟨o, ho, hc⟩
  rw [if_pos rfl]
  refine wpAny_setFlight_noneW f.fl.1 f.fl.2.2.1 f.fl.2.2.2.at fun h₂ k1 k2 k3 k4 => ?_
  have f₂ : Fly L a (.type X) (.ref t) (env :: outer) h₁ h₂ := ⟨⟨k1, f.fl.2.1, k2, k3⟩, noted_of f.nt hd k1 fun b o hb hv => ⟨o.slots, k4 b o hb hv⟩, f.fr⟩
  obtain ⟨tk₂, S₂⟩ := hsn h₂ f₂
  have ex₂ : ExcOb h₂ a X args := f₂.exc ht hta htL
  obtain ⟨mv, hns, hmv⟩ := S₂.ns
  refine wpAny_storeName_local ((S₂.kind n).trans hn) hns (fun h₃ hn₃ hs₃ => ?_) S₂.nocls
  have S₃ := S₂.setAny hm hns hmv hn₃ hs₃
  have tk₃ : TK h₂ h₃ := .of_ext (fun b o hb e => hs₃.extBut b o hb e) (ns_not_imm hns)
  have ex₃ : ExcOb h₃ a X args := by
    obtain ⟨t', ⟨o, vs, ho, r⟩, ⟨o', nn, ho', hc', hd'⟩⟩ := ex₂
    exact ⟨t', ⟨o, vs, hs₃.extBut a o hal ho, r⟩, ⟨o', nn, tk₃ t' o' ho' (.inl ⟨⟨_, _, hd'⟩, by rw [hc']; decide⟩), hc', hd'⟩⟩
  refine wpAny_mono (h ⟨h₃, s.gens, s.drawn, s.toks + 1, s.os⟩ rfl rfl S₃ ex₃ ⟨_, hn₃, by rw [if_pos rfl]⟩) (fun fl s₄ hx => ?_) fun _ _ x => x.elim
  obtain ⟨ρ₄, H₄, st₄, S₄, r₄⟩ := hx
  obtain ⟨mv₄, hns₄, _⟩ := S₄.ns
  refine wpAny_nameGoes ((S₄.kind n).trans hn) hns₄ S₄.nocls fun h₅ m₅ hn₅ hs₅ => ?_
  have tk₅ : TK s₄.heap h₅ := .of_ext (fun b o hb e => hs₅.extBut b o hb e) (ns_not_imm hns₄)
  refine hQ fl ρ₄ H₄ s₄ _ r₄ ?_ tk₅ (S₄.forget hn₅ hs₅)
  exact (tk₂.trans (Step.same (s := { s with heap := h₂ }) (s' := ⟨h₃, s.gens, s.drawn, s.toks + 1, s.os⟩) tk₃ rfl (Nat.le_refl _))).trans (st₄.trans (.same tk₅ rfl (Nat.le_refl _)))
end
end Mine
end
section
open PySem PySem.W PyProof.Rows PySem.W.X PySem.SeqAt
namespace Mine
section
variable {prog : Program} {w : World} {KF : Frag} {fi : FI} {env : Env} {m : Names} {F : Base} {ρ : List Ent} {H : List O} {s : Shared} {A : Around} {a : Nat} {E : Value → Shared → Prop}
/-- str(error) -/
theorem eval_strerr {X nX : String} {msg : Str} {tk : Tok} {n sn : Str} {p3 p4 p5 : Pos} {Q : Value → Shared → Prop} (FX : ExcStrFacts X nX) (S : Sim w KF fi env m F ρ H s.heap s.gens) (ex : ExcOb s.heap a X [.str msg tk]) (hns : ∃ mv, s.heap.Ns env.locals mv ∧ mv n = some (.ref a))
    (hn : fi.sc.names.lookup n = some .local) (dn : (n == ("__debug__" : Str)) = false) (hs : fi.sc.names.lookup sn = some .globalImplicit) (eS : nsIn KF mainGlobals sn = some none) (bS : bootBuiltins sn = some (.type "str")) (dS : (sn == ("__debug__" : Str)) = false) (nS : sn ≠ "__name__")
    (hu : A.units + 2 < cLine) (h : Q (.str msg tk) s) : wpAny (model prog w) A (eval (.Call (.Name sn p3) [.Name n p4] [] p5) env) Q E s := by
  obtain ⟨mg, hg⟩ := S.b.g
  obtain ⟨mb, hmb, hb'⟩ := S.b.bi
  obtain ⟨mv, hns, hmv⟩ := hns
  obtain ⟨t, x1, x2⟩ := ex
  refine Call_ (Calls.Name_function_global S.kd ((S.kind sn).trans hs) (Calls.loadGlobal_builtin (S.eg ▸ hg) (mg_no S.b.k hg eS) (S.eb ▸ hmb) ((hb' sn nS).trans bS) ?_) dS) (by rfl)
  show wpAny _ A (callWith p5 (.type "str") [] (backTo p5 ([Expr.Name n p4].map fun e => (false, eval e env))) []) Q E s
  refine PySem.callWith_type plain_any (Calls.evalArgs_plain (Calls.spliced_cons ?_))
  refine wpAny_Name (wpAny_loadName_local S.kd ((S.kind n).trans hn) hns hmv ?_) dn
  refine Calls.spliced_nil ?_
  exact PySem.P.str_of_exc_one FX hu x1 x2 h
/-- return pre + str(error) -/
theorem suite_str {X nX : String} {pre msg : Str} {tk : Tok} {n sn : Str} {kk : Nat} {p2 p3 p4 p5 p6 p7 : Pos} (FX : ExcStrFacts X nX)
    (hn : fi.sc.names.lookup n = some .local) (dn : (n == ("__debug__" : Str)) = false) (hs : fi.sc.names.lookup sn = some .globalImplicit) (eS : nsIn KF mainGlobals sn = some none) (bS : bootBuiltins sn = some (.type "str")) (dS : (sn == ("__debug__" : Str)) = false) (nS : sn ≠ "__name__")
    (hu : A.units + 2 < cLine) (hz : pre.length + msg.length ≤ sizeLine) :
    SuiteW prog w KF fi env m F ρ H A a X [.str msg tk] n [.Return (some (.BinOp (.Constant (.str pre) kk p2) .Add (.Call (.Name sn p3) [.Name n p4] [] p5) p6)) p7] s (fun f ρ₄ H₄ s₄ => (∃ t, f = .ret (.str (pre ++ msg) t)) ∧ H₄ = H) := fun s₃ g₃ o₃ S₃ ex hns => by
  refine wpAny_execs_cons (wpAny_Return_some (wpAny_BinOp (wpAny_Constant_str ?_)))
  refine eval_strerr FX S₃ ex hns hn dn hs eS bS dS nS hu ?_
  refine PyProof.Rows.add_str (fun t' k => ?_) hz
  exact ⟨ρ, H, .same (.refl _) rfl (Nat.le_refl _), S₃, ⟨_, rfl⟩, rfl⟩
theorem cls_index : ExcCls "IndexError" "IndexError" true := ⟨by rw [isSubtype_type]; kernel_rfl, by rw [isSubtype_type]; kernel_rfl, by rw [isSubtype_type]; kernel_rfl⟩
end
end Mine
end
section
open PySem PySem.W PyProof.Rows PySem.W.X PySem.SeqAt
namespace Mine
section
variable {prog : Program} {w : World} {A : Around} {Y : YP} {R : Result → Shared → Prop} {s : Shared}
/-- an exception that leaves a generator -/
structure LeftGen (a g : Nat) (x : Nat) (s₁ : Shared) : Prop where
  gen : GenAt s₁.heap a g 0
  ty : ∃ X, s₁.TypeIs (.ref x) X ∧ isSubtype (.type X) (.type "StopIteration") = pure false
theorem genLeft_pass {α : Type} {M : Model} {a g x : Nat} {Q : α → Shared → Prop} {E : Value → Shared → Prop} (l : LeftGen a g x s) (h : E (.ref x) s) : wpAny M A (Builtin.Generator.genLeft (.ref a) (.ref x) : Sem α) Q E s := by
  obtain ⟨⟨o, nm, qn, ho, hc, hd, _⟩, X, hx, hs⟩ := l
  unfold Builtin.Generator.genLeft Builtin.Generator.madeByALambda
  refine wpAny_bind (wpAny_bind (wpAny_load ho (wpAny_pure ?_)))
  refine wpAny_bind (wpAny_isInstance (b := false) hx hs ?_)
  rw [hd]
  simp only [hc]
  unfold Builtin.Generator.genEscaped
  simp
  refine wpAny_bind (wpAny_isInstance (b := false) hx hs ?_)
  simp
  exact wpAny_throw h
theorem genWakeE {a : Addr} {g : Nat} {gs : GenState} {Q : Value → Shared → Prop} {E : Value → Shared → Prop} (hh : A.handled = none) (hl : s.heap.NoLimit) (hroom : A.depth < recursionLimit) (hg : GenAt s.heap a g 0) (hgs : s.gens[g]? = some gs)
    (hgo : GoesU (model prog w) A Y R gs (s.setGen g .running)) (hY : ∀ v gs' s₁, Y v gs' s₁ → Q v (s₁.setGen g gs'))
    (hR : ∀ r s₁, R r s₁ → (r = .ok (.ret .none) ∧ ∀ h' e, Keep s₁.heap h' → StopAt h' e → E (.ref e) { s₁.setGen g .finished with heap := h' }) ∨ ∃ x, r = .error (.ref x) ∧ LeftGen a g x s₁ ∧ E (.ref x) (s₁.setGen g .finished)) :
    wpU (model prog w) A (Builtin.Generator.genWake (.ref a) (.send .none)) (fun fin s' => ∃ v, fin = .done (.ret v) ∧ Q v s') E s := by
  unfold Builtin.Generator.genWake
  refine wpU_bind (up (wpAny_holding (wpAny_genNumberK hg (wpU_bind (up (wpAny_genState hgs ?_))))))
  cases gs with
  | running => exact hgo.elim
  | finished => exact hgo.elim
  | _ =>
    refine wpU_bind (up (wpAny_roomToWake hl hroom ?_))
    show wpU _ A (.resume g (.send .none) [] _) _ _ s
    refine wpU_resume hgs hgo (fun v gs' s₁ hv => ?_) (fun x s₁ hx => ?_)
    · exact wpU_pure ⟨v, rfl, hY v gs' s₁ hv⟩
    · rcases hR _ _ hx with ⟨rfl, hp⟩ | ⟨x, rfl, hlg, hp⟩
      · refine up ?_
        show wpAny _ A (newExc (.type "StopIteration") [] >>= _) _ _ _
        refine wpAny_bind ?_
        simp only [newExc, newTuple]
        refine wpAny_bind (wpAny_newObj_type ?_ (by size_fits))
        refine wpAny_bind (m := firstArgMember _ _) (wpAny_of_eq (a := Value.none) (by first | rfl | (simp only [firstArgMember]; rfl)) ?_)
        refine wpAny_newObj_type ?_ (by size_fits)
        simp only [raiseNew]
        refine wpAny_bind (wpAny_bind (wpAny_handled ?_))
        rw [hh]
        refine wpAny_throw ?_
        exact hp _ _ (fun b o hb => Heap.get?_push_of_some _ (Heap.get?_push_of_some _ hb)) ⟨_, _, Heap.get?_push_size _ rfl, rfl, rfl, rfl⟩
      · refine up ?_
        show wpAny _ A (Builtin.Generator.genLeft (.ref a) (.ref x)) _ _ _
        exact genLeft_pass (s := s₁.setGen g .finished) ⟨hlg.gen, hlg.ty⟩ hp
end
end Mine
end
section
open PySem PySem.W PyProof.Rows PySem.W.X PySem.SeqAt
namespace Mine
section
variable {prog : Program} {w : World} {A : Around} {Y : YP} {R : Result → Shared → Prop} {s : Shared}
theorem special_nextE {a : Addr} {g : Nat} {gs : GenState} {Q : Option Value → Shared → Prop} {E : Value → Shared → Prop} (hh : A.handled = none) (hl : s.heap.NoLimit) (hroom : A.depth < recursionLimit) (hg : GenAt s.heap a g 0) (hgs : s.gens[g]? = some gs)
    (hgo : GoesU (model prog w) A.in1 Y R gs (s.setGen g .running)) (hY : ∀ v gs' s₁, Y v gs' s₁ → Q (some v) (s₁.setGen g gs'))
    (hR : ∀ r s₁, R r s₁ → (r = .ok (.ret .none) ∧ ∀ h' e, Keep s₁.heap h' → StopAt h' e → E (.ref e) { s₁.setGen g .finished with heap := h' }) ∨ ∃ x, r = .error (.ref x) ∧ LeftGen a g x s₁ ∧ E (.ref x) (s₁.setGen g .finished)) :
    wpU (model prog w) A (callSpecial? (.ref a) (Str.ofString "__next__")) Q E s := by
  simp only [callSpecial?]
  refine wpU_bind (up (wpAny_specialOf hg.typeIs slot_gen_next.lookup ?_))
  simp only [slot_gen_next.bind]
  refine wpU_holding (wpU_bind (up (wpAny_pure (wpU_bind (wpU_runValue (codeU_call_builtin slot_gen_next.plain entry_gen_next (slot_gen_next.check _ _ _ _ _ _ _ _ hg.typeIs (args_gen_next _) (wpU_mono (genWakeE (Q := fun v s' => Q (some v) s') (A := A.in1) hh hl hroom hg hgs hgo hY hR) (fun fin s₂ hq => ?_) fun _ _ q => q))))))))
  obtain ⟨v, rfl, hv⟩ := hq
  exact wpU_pure (M := model prog w) hv
/-- a generator asked for its next value: it gives one, it ends, or an exception leaves it -/
theorem nextE {a : Addr} {g : Nat} {gs : GenState} {Q : Option Value → Shared → Prop} {E : Value → Shared → Prop} (hh : A.handled = none) (hl : s.heap.NoLimit) (hroom : A.depth < recursionLimit) (hg : GenAt s.heap a g 0) (hgs : s.gens[g]? = some gs)
    (hgo : GoesU (model prog w) A.in1 Y R gs (s.setGen g .running)) (hY : ∀ v gs' s₁, Y v gs' s₁ → Q (some v) (s₁.setGen g gs'))
    (hR : ∀ r s₁, R r s₁ → (r = .ok (.ret .none) ∧ ∀ h', Keep s₁.heap h' → Q none { s₁.setGen g .finished with heap := h' }) ∨ ∃ x, r = .error (.ref x) ∧ LeftGen a g x s₁ ∧ E (.ref x) (s₁.setGen g .finished)) :
    wpU (model prog w) A (pyNext (.ref a)) Q E s := by
  unfold pyNext
  refine wpU_bind (wpU_attempt (special_nextE (E := fun e s' => wpU (model prog w) A (do if ← isInstance e (.type "StopIteration") then pure none else throw e : Sem (Option Value)) Q E s') hh hl hroom hg hgs hgo (fun v gs' s₁ hv => ?_) (fun r s₁ hr => ?_)))
  · exact wpU_pure (M := model prog w) (hY v gs' s₁ hv)
  · rcases hR r s₁ hr with ⟨e1, hp⟩ | ⟨x, e1, hlg, hp⟩
    · refine .inl ⟨e1, fun h' e hk he => ?_⟩
      obtain ⟨o, vs, ho, hc, _⟩ := he
      refine up (wpAny_bind (wpAny_isInstance (T := "StopIteration") (b := true) ⟨_, ho, hc⟩ isSubtype_stop ?_))
      exact wpAny_pure (hp _ hk)
    · refine .inr ⟨x, e1, hlg, ?_⟩
      obtain ⟨X, ⟨o, ho, hc⟩, hs⟩ := hlg.ty
      refine up (wpAny_bind (wpAny_isInstance (b := false) ⟨o, ho, hc⟩ hs ?_))
      exact wpAny_throw hp
end
end Mine
end
section
open PySem PySem.W PyProof.Rows PySem.W.X PySem.SeqAt
namespace Mine
/-- an exception that its own frame (at a) has noted and still holds -/
structure FlyH (L : List Nat) (e : Nat) (cls a0 : Value) (l : List Env) (a : Nat) (h₁ h : Heap) : Prop where
  fl : Heap.HeldW (holes h₁ (e :: L)) l e cls a0 a h
  nt : Noted L e h₁ h
  fr : FrAt L h₁ l
section
variable {M : Model} {A : Around} {E : Value → Shared → Prop} {s : Shared} {L : List Nat} {e : Nat} {env : Env} {outer : List Env}
/-- the first note, in a loop of the frame's own -/
theorem note_first {cls : String} {args : List Value} {h₀ : Heap} {a : Nat} {Q : Unit → Shared → Prop} (hfr : A.frames = some (env :: outer)) (ha : env.frame = some a) (hd : ∀ b ∈ L, ∃ o es ep, s.heap.get? b = some o ∧ o.data = .dict es ep) (hf : FrAt L s.heap (env :: outer)) (hm : Heap.MadeExc h₀ s.heap e cls args)
    (h : ∀ h' t, FlyH L e (.type cls) (.ref t) (env :: outer) a s.heap h' → s.heap.get? t = some { cls := .type "tuple", data := .seq args.toArray } → t ≠ e → Q () { s with heap := h' }) : wpAny M A (noteFrame (.ref e) env) Q E s := by
  obtain ⟨t, he, hn, ht⟩ := hm.there
  have hb : ∀ b ∈ L, (holes s.heap (e :: L)).get? b = none := fun b hb => by rw [holes_get, if_pos (.tail _ hb)]
  have hkb : (holes s.heap (e :: L)).StaysIn s.heap := fun b o q => by
    rw [holes_get] at q
    split at q
    · cases q
    · exact q
  have hte : t ≠ e := fun q => by rw [q] at ht; rw [ht] at he; cases he
  unfold noteFrame
  simp only [ha]
  refine wpAny_bind (wpAny_field he rfl (x := .none) rfl ?_)
  rw [if_neg (by decide)]
  refine wpAny_entryW (base := holes s.heap (e :: L)) hfr (hf.fun hb) ha he hkb (by rw [holes_get, if_pos (.head _)]) rfl (by show 1 < 6; decide) rfl fun h' hL => ?_
  obtain ⟨k1, k2, k3, k4⟩ := hL
  have n0 : Noted L e s.heap s.heap := ⟨fun _ _ _ _ q => q, fun b _ o q => ⟨o.slots, q⟩⟩
  exact h h' t ⟨⟨k1, by rw [holes_get, if_pos (.head _)], k2, k3⟩, noted_of n0 hd k1 k4, hf⟩ ht hte
/-- what a loop's end does to it -/
theorem flight_back {cls a0 : Value} {h₁ : Heap} {a : Nat} {Q : Unit → Shared → Prop} (ha : env.frame = some a) (hd : ∀ b ∈ L, ∃ o es ep, h₁.get? b = some o ∧ o.data = .dict es ep) (f : FlyH L e cls a0 (env :: outer) a h₁ s.heap)
    (h : ∀ h', FlyH L e cls a0 (env :: outer) a h₁ h' → Q () { s with heap := h' }) :
    wpAny M A (do
      if (← field (.ref e) 1) == .none then unsupported "frame.own-activation:exception-without-traceback"
      setFlight (.ref e) env.frame) Q E s := by
  obtain ⟨f1, f2, f3, oe, vs, T, oT, ts, he, hcls, hdv, hv1, hnT, hTe, hT, hdT, h3⟩ := f.fl
  have hsz3 : 3 < ts.size := (Array.getElem?_eq_some_iff.mp h3).1
  have other : ∀ b, b ≠ T → (s.heap.update T (Obj.mapFields (·.setIfInBounds 3 (rawInt a)))).get? b = s.heap.get? b := fun b hb => Heap.get?_update_other _ _ (Ne.symm hb)
  have noRecord : ∀ b o, s.heap.get? b = some o → (∀ vs, o.data ≠ .fields vs) → b ≠ T := fun b o hb hnf q => by
    rw [q, hT] at hb; injection hb with hb; subst hb; exact hnf ts hdT
  refine wpAny_bind (wpAny_field he hdv hv1 ?_)
  rw [if_neg (by simp)]
  try refine wpAny_bind (wpAny_pure ?_)
  unfold setFlight
  refine wpAny_bind (wpAny_field he hdv hv1 ?_)
  rw [if_pos (show (Value.ref T != Value.none) = true from by simp)]
  rw [ha]
  refine wpAny_setField hT hdT hsz3 (h _ ?_)
  have k1 : (holes h₁ (e :: L)).StaysIn (s.heap.update T (Obj.mapFields (·.setIfInBounds 3 (rawInt a)))) := fun b o hbo => (other b fun q => by rw [q, hnT] at hbo; cases hbo).trans (f1 b o hbo)
  refine ⟨⟨k1, f2, f3.of_keeps fun b o hb hnf => ⟨o, (other b (noRecord b o hb hnf)).trans hb, rfl⟩, ?_⟩, noted_of f.nt hd k1 fun b o hb hnf => ⟨o.slots, (other b (noRecord b o hb hnf)).trans hb⟩, f.fr⟩
  exact ⟨oe, vs, T, _, _, (other e (Ne.symm hTe)).trans he, hcls, hdv, hv1, hnT, hTe, Heap.get?_update_self _ hT (Obj.isFreed_of_fields (Obj.data_mapFields hdT _)), Obj.data_mapFields hdT _, by simp [hsz3]⟩
/-- the frame left by it -/
theorem leave_held {cls a0 : Value} {h₁ : Heap} {a : Nat} {Q : Unit → Shared → Prop} (ha : env.frame = some a) (hd : ∀ b ∈ L, ∃ o es ep, h₁.get? b = some o ∧ o.data = .dict es ep) (f : FlyH L e cls a0 (env :: outer) a h₁ s.heap)
    (h : ∀ h', Fly L e cls a0 outer h₁ h' → Q () { s with heap := h' }) : wpAny M A (leaving env (.ref e)) Q E s := by
  unfold leaving
  refine wpAny_bind (wpAny_noteFrame_againW ha f.fl.2.2.2 ?_)
  refine wpAny_landsW f.fl fun h' k1 k2 => h h' ?_
  obtain ⟨g1, g2, ⟨_, _, g3⟩, g4⟩ := k1
  exact ⟨⟨g1, g2, g3, g4⟩, noted_of f.nt hd g1 k2, fun x hx => f.fr x (.tail _ hx)⟩
end
end Mine
end
section
open PySem PySem.W PyProof.Rows PySem.W.X PySem.SeqAt
namespace Mine
/-- an exception just raised, in a frame that stands -/
noncomputable def RzQ (w : World) (KF : Frag) (fi : FI) (env : Env) (m : Names) (F : Base) (ρ : List Ent) (s : Shared) (X : String) (msg : Str) (Q : List O → Prop) (e : Value) (s' : Shared) : Prop :=
  ∃ ρ' H' h₀ x t, e = .ref x ∧ Step ρ s ρ' s' ∧ s'.gens = s.gens ∧ Sim w KF fi env m F ρ' H' s'.heap s'.gens ∧ Heap.MadeExc h₀ s'.heap x X [.str msg t] ∧ FpOff fi env F ρ' [x] ∧ Q H'
section
variable (prog : Program) (w : World) (KF : Frag) (fi : FI) (d : Nat)
/-- an expression that raises, and touches no generator -/
noncomputable def WX (m : Names) (H : List O) (e : Expr) (X : String) (msg : Str) (Q : List O → Prop) : Prop :=
  ∀ A env F ρ s, Room A d (frOf env F) → Sim w KF fi env m F ρ H s.heap s.gens → wpAny (model prog w) A (eval e env) (fun _ _ => False) (RzQ w KF fi env m F ρ s X msg Q) s
end
section
variable {prog : Program} {w : World} {KF : Frag} {fi : FI} {d : Nat} {m : Names} {H : List O} {X : String} {msg : Str} {Q : List O → Prop}
/-- a local list's row asked for behind its last place -/
theorem wx_sub {xn yn : Str} {xp yp pos : Pos} {r : Nat} {xs : List V} {k : Int} (hx : fi.sc.names.lookup xn = some .local) (vx : getL m xn = some (.ref r)) (dx : (xn == ("__debug__" : Str)) = false) (hy : fi.sc.names.lookup yn = some .local) (vy : getL m yn = some (.int k)) (dy : (yn == ("__debug__" : Str)) = false)
    (hr : H[r]? = some (.list xs)) (h0 : 0 ≤ k) (hk : (xs.length : Int) ≤ k) (hz : k < 2 ^ 62) (h : Q H) : WX prog w KF fi d m H (.Subscript (.Name xn xp) (.Name yn yp) pos) "IndexError" (Str.ofString "list index out of range") Q :=
  fun A env F ρ s hA S => by
    refine Subscript_ ?_
    obtain ⟨mv, u, hn, e, ru⟩ := S.get vx hx
    refine wpAny_Name (wpAny_loadName_local S.kd ((S.kind xn).trans hx) hn e ?_) dx
    obtain ⟨mv, v, hn, e, rv⟩ := S.get vy hy
    refine wpAny_Name (wpAny_loadName_local S.kd ((S.kind yn).trans hy) hn e ?_) dy
    obtain ⟨en, he, rfl⟩ := ru.ref_eq
    obtain ⟨t', rfl⟩ := rv.int_eq
    obtain ⟨vs, a, b⟩ := S.hs.list (.inl hr) he
    have e : subscriptTail (.Name xn xp) (.Name yn yp) (.ref en.a) (.int k t') = (do let r ← subOp (.ref en.a) (.int k t'); letTemporaryGo (.Name xn xp) (.ref en.a) r; pure r) := by
      have hs : ∀ b o i, subscripted (.Name yn yp) b o i = (match b with | true => runValue (.builtin "lifetime.subscript" ⟨[o, i], []⟩) | false => operate [o, i] (getItem o i)) := by intro b o i; cases b <;> rfl
      unfold subscriptTail subOp
      first
        | (simp only [hs, bind_assoc]; rfl)
        | simp only [hs, bind_assoc]
    rw [e]
    refine wpAny_bind (sub_of a.typeIs slot_list_getitem.lookup (getItem_out hA.hd a h0 (by rw [List.size_toArray, b.len]; exact hk) hz fun h' tk x t hm => ?_))
    exact ⟨ρ, H, s.heap, x, t, rfl, .same (.of_keep hm.keeps) rfl (Nat.le_refl _), rfl, S.keeps hm.keeps, hm, S.fresh fun b hb => by rw [List.mem_singleton.mp hb]; exact hm.new, h⟩
theorem wx_fvals {e : Expr} {pos : Pos} (h : WX prog w KF fi d m H e X msg Q) : WX prog w KF fi d m H (.FormattedValue e 115 none pos) X msg Q :=
  fun A env F ρ s hA S => by
    show wpAny _ A (do let v ← eval e env; standAt pos; formatted pos (← holding [v] (converted 115 v)) none) _ _ s
    exact wpAny_bind (wpAny_mono (h A env F ρ s hA S) (fun _ _ x => x.elim) fun _ _ x => x)
/-- a formatted text, one part of which raises -/
noncomputable def WJX (prog : Program) (w : World) (KF : Frag) (fi : FI) (d : Nat) (m : Names) (H : List O) (X : String) (msg : Str) (Q : List O → Prop) (out : Str) : List Expr → Prop
  | [] => False
  | e :: es => WX prog w KF fi d m H e X msg Q ∨ ∃ y, (∀ A env F ρ s, Room A d (frOf env F) → Sim w KF fi env m F ρ H s.heap s.gens → wpAny (model prog w) A (eval e env) (fun v s' => (∃ t, v = .str y t) ∧ ∃ tk, s' = { s with toks := tk }) (fun _ _ => False) s) ∧ (out ++ y).length ≤ sizeLine ∧ WJX prog w KF fi d m H X msg Q (out ++ y) es
theorem wjx_run {es : List Expr} : ∀ {out : Str}, WJX prog w KF fi d m H X msg Q out es → ∀ A env F ρ s, Room A d (frOf env F) → Sim w KF fi env m F ρ H s.heap s.gens →
    wpAny (model prog w) A (joinParts out (evalEach es env)) (fun _ _ => False) (RzQ w KF fi env m F ρ s X msg Q) s := by
  induction es with
  | nil => exact fun h => h.elim
  | cons e es ih =>
    intro out h A env F ρ s hA S
    refine joinParts_consE (joinParts_cons ?_)
    rcases h with h | ⟨y, h, hy, h₁⟩
    · exact wpAny_mono (h A env F ρ s hA S) (fun _ _ x => x.elim) fun _ _ x => x
    · refine wpAny_mono (h A env F ρ s hA S) (fun u s₁ hx => ?_) fun _ _ x => x.elim
      obtain ⟨⟨t, rfl⟩, tk, rfl⟩ := hx
      exact ⟨hy, wpAny_mono (ih h₁ A env F ρ _ hA S) (fun _ _ x => x) fun _ _ x => x⟩
theorem wx_joined {v₁ v₂ : Expr} {rest : List Expr} {pos : Pos} (h : WJX prog w KF fi d m H X msg Q Str.empty (v₁ :: v₂ :: rest)) : WX prog w KF fi d m H (.JoinedStr (v₁ :: v₂ :: rest) pos) X msg Q :=
  fun A env F ρ s hA S => JoinedStr_many (wjx_run h A env F ρ s hA S)
/-- the quiet parts: a constant; a local text -/
theorem wjx_str {y out : Str} {k : Nat} {pos : Pos} {es : List Expr} (hy : (out ++ y).length ≤ sizeLine) (h : WJX prog w KF fi d m H X msg Q (out ++ y) es) : WJX prog w KF fi d m H X msg Q out (.Constant (.str y) k pos :: es) :=
  .inr ⟨y, fun A env F ρ s hA S => wpAny_Constant_str ⟨⟨_, rfl⟩, _, rfl⟩, hy, h⟩
theorem wjx_loc {xn y out : Str} {xp pos : Pos} {es : List Expr} (hx : fi.sc.names.lookup xn = some .local) (vx : getL m xn = some (.str y)) (dx : (xn == ("__debug__" : Str)) = false) (hz : y.length ≤ sizeLine) (hy : (out ++ y).length ≤ sizeLine) (h : WJX prog w KF fi d m H X msg Q (out ++ y) es) : WJX prog w KF fi d m H X msg Q out (.FormattedValue (.Name xn xp) 115 none pos :: es) :=
  .inr ⟨y, fun A env F ρ s hA S => by
    show wpAny _ A (do let v ← eval (.Name xn xp) env; standAt pos; formatted pos (← holding [v] (converted 115 v)) none) _ _ s
    obtain ⟨mv, u, hn, e, ru⟩ := S.get vx hx
    refine wpAny_bind (wpAny_Name (wpAny_loadName_local S.kd ((S.kind xn).trans hx) hn e ?_) dx)
    obtain ⟨t, rfl⟩ := ru.str_eq
    refine wpAny_bind (wpAny_standAt ?_)
    show wpAny _ _ (do let v' ← holding [.str y t] (habitSame "fstring-hands-on-the-str" (.str y t)); formatField v' Str.empty) _ _ s
    exact wpAny_bind (wpAny_holding (habitSame_str (fun t' tk => formatField_str (fun t'' tk' => ⟨⟨_, rfl⟩, _, rfl⟩) hz) hz)), hy, h⟩
end
end Mine
end
section
open PySem PySem.W PyProof.Rows PySem.W.X PySem.SeqAt
namespace Mine
section
variable {w : World} {KF : Frag} {F : Base} {ρ : List Ent} {H : List O} {h : Heap} {gs : Array GenState}
/-- where the frames stand, and what they are -/
theorem HSim.lows (S : HSim w KF F ρ H h gs) : FrAt F.lo h F.fr ∧ ∀ b ∈ F.lo, ∃ o es ep, h.get? b = some o ∧ o.data = .dict es ep := by
  refine ⟨fun e he => ?_, fun b hb => ?_⟩
  · obtain ⟨h1, L, o, h2, h3, es, ep, h4⟩ := S.fo e he
    obtain ⟨o', h5, u⟩ := S.keep L o h3
    exact ⟨h1, L, o', h2, List.mem_filterMap.mpr ⟨e, he, h2⟩, h5, es, ep, u.same.2.1.trans h4⟩
  · obtain ⟨e, he, hf⟩ := List.mem_filterMap.mp hb
    obtain ⟨h1, L, o, h2, h3, es, ep, h4⟩ := S.fo e he
    rw [hf] at h2; cases h2
    obtain ⟨o', h5, u⟩ := S.keep b o h3
    exact ⟨o', es, ep, h5, u.same.2.1.trans h4⟩
end
/-- the text of an exception is no frame's -/
theorem tup_off {L : List Nat} {h : Heap} (hd : ∀ b ∈ L, ∃ o es ep, h.get? b = some o ∧ o.data = .dict es ep) {t : Nat} {args : List Value} (ht : h.get? t = some { cls := .type "tuple", data := .seq args.toArray }) : t ∉ L := fun q => by
  obtain ⟨o, es, ep, h1, h2⟩ := hd t q
  rw [ht] at h1; cases h1; cases h2
/-- the frames' locals while env's code runs -/
noncomputable abbrev loOf (env : Env) (F : Base) : List Nat := (frOf env F).filterMap (·.frame)
/-- a generator that has noted its exception and is left: raised at s₂, left at s' -/
noncomputable def LeftBy (w : World) (KF : Frag) (fi : FI) (env : Env) (m : Names) (F : Base) (ρ : List Ent) (s : Shared) (X : String) (msg : Str) (H : List O) (x : Nat) (s' : Shared) : Prop :=
  ∃ ρ' s₂ h₀ t tk h', Step ρ s ρ' s₂ ∧ Sim w KF fi env m F ρ' H s₂.heap s₂.gens ∧ FpOff fi env F ρ' [x] ∧ Heap.MadeExc h₀ s₂.heap x X [.str msg tk] ∧ s' = { s₂ with heap := h' } ∧
    Fly (loOf env F) x (.type X) (.ref t) F.fr s₂.heap h' ∧ s₂.heap.get? t = some { cls := .type "tuple", data := .seq #[.str msg tk] } ∧ t ≠ x
/-- what the frame below the loop does -/
structure KfOk (body : List Stmt) (env : Env) (kf : Result → Sem Fin) : Prop where
  nx : ∀ (prog : Program) (w : World) (A : Around) (Y : YP) (R : Result → Shared → Prop) (s : Shared), R (.ok (.ret .none)) s → SegU (model prog w) A Y R (.func body env) (kf (.ok .next)) [] s
  er : ∀ (prog : Program) (w : World) (A : Around) (Y : YP) (R : Result → Shared → Prop) (s : Shared) (e : Value),
      wpAny (model prog w) (A.over (.func body env) []) (do
        if (← field e 1) == .none then unsupported "frame.own-activation:exception-without-traceback"
        setFlight e env.frame) (fun _ s₁ => wpAny (model prog w) (A.over (.func body env) []) (leaving env e) (fun _ s' => R (.error e) s') (fun _ _ => False) s₁) (fun _ _ => False) s →
      SegU (model prog w) A Y R (.func body env) (kf (.error e)) [] s
section
variable {prog : Program} {w : World} {A : Around} {E : Value → Shared → Prop} {s : Shared}
/-- a range that is used up, asked -/
theorem range_end {I : Nat} {x c : Int} {n : Int} {Q : Option Value → Shared → Prop} (hh : A.handled = none) (hit : IsRangeIter s.heap I x n c) (hn : n ≤ 0) (h : ∀ h', Keep s.heap h' → Q none { s with heap := h' }) : wpAny (model prog w) A (pyNext (.ref I)) Q E s := by
  have ty : s.TypeIs (.ref I) "range_iterator" := ⟨_, hit, rfl⟩
  unfold pyNext
  refine wpAny_bind (wpAny_attempt (wpAny_callSpecial?_slot (name := Str.ofString "__next__") ty F.slot_range_iterator_next (wpAny_call_entry F.slot_range_iterator_next ty F.entry_range_iterator_next ?_ (F.args_range_iterator_next_1 _))))
  show wpAny _ _ (field (.ref I) 0 >>= _) _ _ s
  refine wpAny_bind (wpAny_field hit rfl (x := rawInt x) rfl ?_)
  show wpAny _ _ (field (.ref I) 1 >>= _) _ _ s
  refine wpAny_bind (wpAny_field hit rfl (x := rawInt n) rfl ?_)
  show wpAny _ _ (field (.ref I) 2 >>= _) _ _ s
  refine wpAny_bind (wpAny_field hit rfl (x := rawInt c) rfl ?_)
  show wpAny _ _ (if n ≤ 0 then _ else _) _ _ s
  rw [if_pos hn]
  refine wpAny_bind (wpAny_rule (wpAny_bind ?_))
  show wpAny _ _ (newExc (.type "StopIteration") [] >>= _) _ _ _
  refine wpAny_bind ?_
  simp only [newExc, newTuple]
  refine wpAny_bind (wpAny_newObj_type ?_ (by size_fits))
  refine wpAny_bind (m := firstArgMember _ _) (wpAny_of_eq (a := Value.none) (by first | rfl | (simp only [firstArgMember]; rfl)) ?_)
  refine wpAny_newObj_type ?_ (by size_fits)
  simp only [raiseNew]
  refine wpAny_bind (wpAny_handled ?_)
  rw [show A.in1.handled = none from hh]
  refine wpAny_bind (wpAny_pure (wpAny_throw ?_))
  refine wpAny_bind (wpAny_isInstance (T := "StopIteration") (b := true) ⟨_, Heap.get?_push_size _ rfl, rfl⟩ isSubtype_stop ?_)
  exact wpAny_pure (h _ fun b o hb => Heap.get?_push_of_some _ (Heap.get?_push_of_some _ hb))
end
section
variable {prog : Program} {w : World} {KF : Frag} {fi : FI} {env : Env} {m : Names} {F : Base} {ρ : List Ent} {H : List O} {s : Shared} {A : Around} {d : Nat} {Y : YP} {R : Result → Shared → Prop} {I j : Nat}
theorem yield_loop {iN : Str} {ip : Pos} {e : Expr} {ypos pos : Pos} {body : List Stmt} {kf : Result → Sem Fin} {lf : List Value} {p : Pos} {lo : Int} {n : Nat}
    (S : Sim w KF fi env m F ρ H s.heap s.gens) (hj : H[j]? = some (.rit I lo n)) (hco : env.scope.isCoroutine = false) (hi : interactive env = false) (hef : env.frame = some env.locals) (hk : Ours fi iN)
    (hr : Room (A.over (.func body env) []) d (frOf env F)) (K : KfOk body env kf)
    (h0 : n = 0 → ∀ h', Keep s.heap h' → R (.ok (.ret .none)) { s with heap := h' })
    (h1 : ∀ k, n = k + 1 → (∃ x, WE prog w KF fi d noE (setL m iN (.int lo)) (H.set j (.rit I (lo + 1) k)) e (fun v H' => v = .str x ∧ H' = H.set j (.rit I (lo + 1) k)) ∧ ∀ u z s' ρ', Step ρ s ρ' s' → Sim w KF fi env (setL m iN (.int lo)) F ρ' (H.set j (.rit I (lo + 1) k)) s'.heap s'.gens → LoopK z env (.Name iN ip) [.Expr (.Yield (some e) ypos) pos] I → Y (.str x u) z s') ∨
      (∃ X msg, WX prog w KF fi d (setL m iN (.int lo)) (H.set j (.rit I (lo + 1) k)) e X msg (fun H' => H' = H.set j (.rit I (lo + 1) k)) ∧ ∀ x s', LeftBy w KF fi env (setL m iN (.int lo)) F ρ s X msg (H.set j (.rit I (lo + 1) k)) x s' → R (.error (.ref x)) s')) :
    SegU (model prog w) A Y R (.forLoop (.Name iN ip) (.ref I) [.Expr (.Yield (some e) ypos) pos] [] env) ((model prog w).den (.forLoop (.Name iN ip) (.ref I) [.Expr (.Yield (some e) ypos) pos] [] env)) [.ret kf none false lf (.func body env) p []] s := by
  show SegU _ A _ _ _ ((forTurn (.Name iN ip) (.ref I) [.Expr (.Yield (some e) ypos) pos] [] env).onRaise (fun x => do noteFrame x env; theTreesLotGoes x)) _ s
  have hr2 : Room (A.over (.forLoop (.Name iN ip) (.ref I) [.Expr (.Yield (some e) ypos) pos] [] env) [.ret kf none false lf (.func body env) p []]) d (frOf env F) := Room.ret hr rfl rfl
  obtain ⟨ej, hej, ea, efp, eg, hI⟩ := S.hs.at' hj
  subst ea
  rw [Sem.onRaise_eq_wrap]
  unfold forTurn
  cases n with
  | zero =>
    refine segU_bw (wpU_standAt (segU_bw (wpU_onRaise (up (range_end hr2.hd hI (by decide) fun h' he' => ?_)))))
    refine segU_again rfl ?_
    show SegU _ A _ _ _ ((execs [] env).onRaise _ >>= _) _ _
    refine segU_bind (wpU_onRaise (up (wpAny_execs_nil ?_)))
    exact segU_leaf (.ok .next) (K.nx _ _ _ _ _ _ (h0 rfl _ he'))
  | succ k =>
    refine segU_bw (wpU_standAt (segU_bw (wpU_onRaise (up (wpAny_pyNext_range_item hI (by omega) fun h' hit' hs' => ?_)))))
    have c₁ := sameBut_chg (s := s) (tk := s.toks + 1) (fun b o hb e => hs'.extBut b o hb e) (not_imm hI rfl rfl (by decide))
    have e2 : ((k + 1 : Nat) : Int) - 1 = k := by omega
    rw [e2] at hit'
    have S₁ : Sim w KF fi env m F ρ (H.set j (.rit ej.a (lo + 1) k)) h' s.gens := S.ofH (List.prefix_refl _) c₁.2.2.1 (S.toH.upd (o' := .rit ej.a (lo + 1) k) hej (fun b o hb ho => hs'.extBut b o (fun q => hb (by rw [efp, q]; exact .head _)) ho) (fun b hb => by rw [efp] at hb; rw [List.mem_singleton.mp hb]; exact ⟨_, hit'⟩) c₁.2.2.1 ⟨rfl, efp, eg, hit'⟩)
    refine segU_bw (up (lot_plain hit' rfl (by decide) ?_))
    refine segU_bw (up (wpAny_mono (wa_name (prog := prog) (w := w) (KF := KF) (fi := fi) (d := d) (E := noE) (m := m) (H := H.set j (.rit ej.a (lo + 1) k)) (v := .int lo) (Q := fun m' H' => m' = setL m iN (.int lo) ∧ H' = H.set j (.rit ej.a (lo + 1) k)) hk ⟨rfl, rfl⟩ _ env F ρ _ (.int lo s.toks) hr2 S₁ (by unfold VR; exact ⟨_, rfl⟩)) (fun _ s₂ hq => ?_) fun _ _ x => (se_no x).elim))
    obtain ⟨ρ₂, H₂, m₂, st₂, S₂, rfl, rfl⟩ := hq
    have st₁ : Step ρ s ρ ⟨h', s.gens, s.drawn, s.toks + 1, s.os⟩ := c₁.step
    have hy : ∀ v, yieldOut env v = yieldValue v := fun v => by simp only [yieldOut, hco, Bool.false_eq_true, if_false]
    rw [Sem.bind_eq_wrap', Sem.wrap_wrap, execs_cons_wrap, exec_Expr env _ pos hi rfl]
    refine segU_at ?_
    show SegU _ A _ _ _ (((eval e env >>= fun v => (standAt ypos >>= fun _ => yieldOut env v)) >>= fun x =>
      dropValue (.Yield (some e) ypos) pos x).wrap _ _ id id) _ s₂
    simp only [hy]
    rw [Sem.bind_eq_wrap', Sem.bind_eq_wrap', Sem.wrap_wrap, Sem.wrap_wrap]
    rcases h1 k rfl with ⟨x, hW, hY⟩ | ⟨X, msg, hX, hR⟩
    · refine segU_wrap (up (wpAny_mono (hW _ env F ρ₂ s₂ hr2 S₂) (fun v s₃ hx => ?_) fun _ _ x => (se_no x).elim))
      obtain ⟨ρ₃, H₃, x', st₃, S₃, rv, rfl, rfl⟩ := hx
      obtain ⟨u, rfl⟩ := rv.str_eq
      refine segU_at (segU_yield rfl (closing_plain rfl) fun p' => ?_)
      exact hY u _ s₃ ρ₃ ((st₁.trans st₂).trans st₃) S₃ ⟨rfl, body, kf, lf, p, fun prog w A Y R s h => segU_again rfl h, K.nx, K.er⟩
    · refine segU_wrap (up (wpAny_mono (hX _ env F ρ₂ s₂ hr2 S₂) (fun _ _ x => x.elim) fun v s₃ hx => ?_))
      obtain ⟨ρ₃, H₃, h₀, x, tk, rfl, st₃, g₃, S₃, hm, offx, rfl⟩ := hx
      show SegU (model prog w) A Y R _ ((noteFrame (.ref x) env >>= fun _ => theTreesLotGoes (.ref x)) >>= fun _ => (Sem.raise (.ref x) : Sem Fin)) _ s₃
      have ef : frOf env F = env :: F.fr := by unfold frOf; rw [if_pos hef]
      obtain ⟨lw, ld⟩ := S₃.toH.lows
      have lw : FrAt (loOf env F) s₃.heap (env :: F.fr) := by rw [← ef]; exact lw
      have ld : ∀ b ∈ loOf env F, ∃ o es ep, s₃.heap.get? b = some o ∧ o.data = .dict es ep := ld
      refine segU_bind (up (wpAny_bind (note_first (L := loOf env F) (by rw [hr2.fr, ef]) hef ld lw hm fun h₄ t fl ht hte => ?_)))
      refine wpAny_theTreesLotGoes ?_
      refine segU_leaf (.error (.ref x)) (K.er _ _ _ _ _ _ _ ?_)
      refine flight_back hef ld fl fun h₅ fl₅ => ?_
      refine leave_held hef ld fl₅ fun h₆ fl₆ => ?_
      exact hR x _ ⟨ρ₃, s₃, h₀, t, tk, h₆, (st₁.trans st₂).trans st₃, S₃, offx, hm, rfl, fl₆, ht, hte⟩
end
end Mine
end
section
open PySem PySem.W PyProof.Rows PySem.W.X PySem.SeqAt
namespace Mine
section
variable {prog : Program} {w : World} {KF : Frag} {fi : FI} {env : Env} {m : Names} {F : Base} {ρ : List Ent} {H : List O} {s : Shared} {A : Around} {d : Nat} {Y : YP} {R : Result → Shared → Prop}
/-- a generator function of a docstring and a loop over a range, woken first -/
theorem yield_start {st0 : Stmt} {tgt iter : Expr} {lb : List Stmt} {fpos : Pos} {a b : Int}
    (S : Sim w KF fi env m F ρ H s.heap s.gens) (hr : Room (A.over (.func [st0, .For tgt iter lb [] fpos] env) []) d (frOf env F))
    (ha : -(2 ^ 61) ≤ a ∧ a < 2 ^ 61) (hb : -(2 ^ 61) ≤ b ∧ b < 2 ^ 61)
    (hdoc : WS prog w KF fi d noE m H st0 fun f m' H' => f = .next ∧ m' = m ∧ H' = H)
    (hit : WE prog w KF fi d noE m H iter fun v H' => v = .rng a b ∧ H' = H)
    (hs : ∀ env x, foldedSetIterable iter env x = pure x)
    (h : ∀ ρ' s' I kf lf p, Step ρ s ρ' s' → Sim w KF fi env m F ρ' (H ++ [.rit I a (b - a).toNat]) s'.heap s'.gens → KfOk [st0, .For tgt iter lb [] fpos] env kf →
      SegU (model prog w) A Y R (.forLoop tgt (.ref I) lb [] env) ((model prog w).den (.forLoop tgt (.ref I) lb [] env)) [.ret kf none false lf (.func [st0, .For tgt iter lb [] fpos] env) p []] s') :
    SegU (model prog w) A Y R (.func [st0, .For tgt iter lb [] fpos] env) ((model prog w).den (.func [st0, .For tgt iter lb [] fpos] env)) [] s := by
  show SegU _ A _ _ _ (.point [] fun _ => ((execs [st0, .For tgt iter lb [] fpos] env).onRaise (leaving env)) >>= _) [] s
  refine segU_point ?_
  rw [Sem.onRaise_eq_wrap, Sem.bind_eq_wrap', Sem.wrap_wrap]
  rw [Sem.wrap_congr (execs [st0, .For tgt iter lb [] fpos] env) _ _ (K' := fun f => .pure (.done (.ret (match f with | .ret v => v | _ => .none))))
    (H' := fun e => (leaving env e).wrap (fun _ => .raise e) .raise id id) (fun f => by cases f <;> rfl)
    (fun e => by rw [Sem.bind_eq_wrap, Sem.wrap_wrap]; rfl)]
  rw [execs_cons_wrap]
  refine segU_wrap (up (wpAny_mono (hdoc _ env F ρ s hr S) (fun f s₁ hx => ?_) fun _ _ x => (se_no x).elim))
  obtain ⟨ρ₁, H₁, m₁, fl, st₁, S₁, rf, rfl, rfl, rfl⟩ := hx
  cases rf
  dsimp only
  rw [execs_cons_wrap, exec_For]
  refine segU_bw (wpU_standAt (segU_bw (up (wpAny_mono (hit _ env F ρ₁ s₁ hr S₁) (fun u s₂ hx => ?_) fun _ _ x => (se_no x).elim))))
  obtain ⟨ρ₂, H₂, v, st₂, S₂, r, rfl, rfl⟩ := hx
  rw [hs env u]
  refine segU_bw (wpU_pure (segU_bw (wpU_standAt (segU_bw (wpU_holding (up ?_))))))
  unfold VR at r
  obtain ⟨r, rfl, t, u, k, hr'⟩ := r
  obtain ⟨hsm, hn⟩ := rng_small ha hb
  refine wpAny_pyIter_range hr' hsm ?_
  rw [hn]
  have k₃ : ∀ o, Keep s₂.heap (s₂.heap.push o) := fun o _ _ e => Heap.get?_push_of_some _ e
  unfold runOwn run
  rw [Sem.onRaise_eq_wrap, Sem.wrap_wrap]
  refine segU_call fun p => ?_
  have hI : IsRangeIter (s₂.heap.push { cls := .type "range_iterator", data := .fields #[rawInt a, rawInt ((b - a).toNat : Nat), rawInt 1] }) s₂.heap.objs.size a ((b - a).toNat : Nat) 1 := Heap.get?_push_size _ rfl
  refine h (ρ₂ ++ [⟨s₂.heap.objs.size, [s₂.heap.objs.size], none⟩]) _ s₂.heap.objs.size _ _ p ((st₁.trans st₂).trans (Step.add (s := s₂) (s' := ⟨s₂.heap.push { cls := .type "range_iterator", data := .fields #[rawInt a, rawInt ((b - a).toNat : Nat), rawInt 1] }, s₂.gens, s₂.drawn, s₂.toks, s₂.os⟩) (.of_keep (k₃ _)) rfl (Nat.le_refl _))) (S₂.ofH (List.prefix_append _ _) (.of_keep (k₃ _)) (S₂.toH.alloc (o := .rit s₂.heap.objs.size a (b - a).toNat) (k₃ _) (get_size _) ⟨_, hI⟩ ⟨rfl, rfl, rfl, hI⟩)) ⟨fun prog w A Y R s hR => ?_, fun prog w A Y R s e hR => ?_⟩
  · exact segU_end (.ok (.ret .none)) hR
  · show SegU (model prog w) A Y R _ (Sem.wrap _ _ _ _ ((do
        if (← field e 1) == .none then unsupported "frame.own-activation:exception-without-traceback"
        setFlight e env.frame : Sem Unit) >>= fun _ => (Sem.raise e : Sem Flow))) [] s
    refine segU_bw (up (wpAny_mono hR (fun _ s₁ h₁ => ?_) fun _ _ x => x.elim))
    show SegU (model prog w) A Y R _ (Sem.wrap (fun _ => Sem.raise e) Sem.raise id id (leaving env e)) [] s₁
    refine segU_wrap (up (wpAny_mono h₁ (fun _ s₂ h₂ => ?_) fun _ _ x => x.elim))
    exact segU_end (.error e) h₂
end
end Mine
end
section
open PySem PySem.W PyProof.Rows PySem.W.X PySem.SeqAt
namespace Mine
section
variable {α : Type} {M : Model} {A : Around} {E : Value → Shared → Prop} {s : Shared}
/-- a generator that is used up, woken -/
theorem wpU_resumeD {g : Nat} {l : List Value} {k : GenResult → Sem α} {Q : α → Shared → Prop} (hgs : s.gens[g]? = some .finished) (h : wpU M A (k .finished) Q E s) : wpU M A (.resume g (.send .none) l k) Q E s := by
  intro c p st hin K H gd lv Φ hK hH
  refine ev_step (step_resume_finished M s c p st (.send .none) (lv l) _ hgs) ?_
  exact h c p st hin K H gd lv Φ hK hH
end
section
variable {prog : Program} {w : World} {A : Around} {s : Shared}
theorem genWakeD {a : Addr} {g : Nat} {Q : Fin → Shared → Prop} {E : Value → Shared → Prop} (hh : A.handled = none) (hg : GenAt s.heap a g 0) (hgs : s.gens[g]? = some .finished) (h : ∀ h' e, Keep s.heap h' → StopAt h' e → E (.ref e) { s with heap := h' }) :
    wpU (model prog w) A (Builtin.Generator.genWake (.ref a) (.send .none)) Q E s := by
  unfold Builtin.Generator.genWake
  refine wpU_bind (up (wpAny_holding (wpAny_genNumberK hg (wpU_bind (up (wpAny_genState hgs ?_))))))
  show wpU _ A (.resume g (.send .none) [] _) _ _ s
  refine wpU_resumeD hgs (up ?_)
  show wpAny _ A (newExc (.type "StopIteration") [] >>= _) _ _ _
  refine wpAny_bind ?_
  simp only [newExc, newTuple]
  refine wpAny_bind (wpAny_newObj_type ?_ (by size_fits))
  refine wpAny_bind (m := firstArgMember _ _) (wpAny_of_eq (a := Value.none) (by first | rfl | (simp only [firstArgMember]; rfl)) ?_)
  refine wpAny_newObj_type ?_ (by size_fits)
  simp only [raiseNew]
  first
    | (refine wpAny_bind (wpAny_handled ?_); rw [hh]; refine wpAny_throw ?_)
    | (refine wpAny_bind (wpAny_bind (wpAny_handled ?_)); rw [hh]; exact wpAny_pure (wpAny_throw ?_))
    | (refine wpAny_bind (wpAny_bind (wpAny_handled ?_)); rw [hh]; refine wpAny_pure (wpAny_throw ?_))
  exact h _ _ (fun b o hb => Heap.get?_push_of_some _ (Heap.get?_push_of_some _ hb)) ⟨_, _, Heap.get?_push_size _ rfl, rfl, rfl, rfl⟩
theorem special_nextD {a : Addr} {g : Nat} {Q : Option Value → Shared → Prop} {E : Value → Shared → Prop} (hh : A.handled = none) (hg : GenAt s.heap a g 0) (hgs : s.gens[g]? = some .finished) (h : ∀ h' e, Keep s.heap h' → StopAt h' e → E (.ref e) { s with heap := h' }) :
    wpU (model prog w) A (callSpecial? (.ref a) (Str.ofString "__next__")) Q E s := by
  simp only [callSpecial?]
  refine wpU_bind (up (wpAny_specialOf hg.typeIs slot_gen_next.lookup ?_))
  simp only [slot_gen_next.bind]
  refine wpU_holding (wpU_bind (up (wpAny_pure (wpU_bind (wpU_runValue (codeU_call_builtin slot_gen_next.plain entry_gen_next (slot_gen_next.check _ _ _ _ _ _ _ _ hg.typeIs (args_gen_next _) (wpU_mono (genWakeD (Q := fun _ _ => False) (A := A.in1) hh hg hgs h) (fun fin s₂ hq => hq.elim) fun _ _ q => q))))))))
/-- a generator that is used up, asked -/
theorem nextD {a : Addr} {g : Nat} {Q : Option Value → Shared → Prop} {E : Value → Shared → Prop} (hh : A.handled = none) (hg : GenAt s.heap a g 0) (hgs : s.gens[g]? = some .finished) (h : ∀ h', Keep s.heap h' → Q none { s with heap := h' }) :
    wpU (model prog w) A (pyNext (.ref a)) Q E s := by
  unfold pyNext
  refine wpU_bind (wpU_attempt (special_nextD hh hg hgs fun h' e hk he => ?_))
  obtain ⟨o, vs, ho, hc, _⟩ := he
  refine up (wpAny_bind (wpAny_isInstance (T := "StopIteration") (b := true) ⟨_, ho, hc⟩ isSubtype_stop ?_))
  exact wpAny_pure (h _ hk)
end
end Mine
end
section
open PySem PySem.W PyProof.Rows PySem.W.X PySem.SeqAt
namespace Mine
section
variable {w : World} {KF : Frag} {F : Base} {ρ : List Ent} {H : List O} {h : Heap} {gs : Array GenState} {i : Nat} {e : Ent} {fi : FI} {m : Names}
/-- an entry that owns nothing for a while -/
theorem HSim.bareAt (S : HSim w KF F ρ H h gs) (hi : ρ[i]? = some e) {o : O} (hH : H[i]? = some o) (hg : e.g.isSome = true) : HSim w KF F (ρ.set i ⟨e.a, [], e.g⟩) (H.set i .gone) h gs := by
  have sub : ∀ b ∈ fps (ρ.set i ⟨e.a, [], e.g⟩), b ∈ fps ρ := fun b hb => (fps_set_sub rfl).subset hb
  have as := set_as (f := ⟨e.a, [], e.g⟩) hi rfl
  refine ⟨S.bs, S.keep, by rw [List.length_set, List.length_set]; exact S.len, fun j f o hj ho => ?_, fun b hb => S.live b (sub b hb), S.nd.sublist (fps_set_sub rfl), fun b hb => S.off b (sub b hb), by rw [set_gs (f := ⟨e.a, [], e.g⟩) hi rfl]; exact S.gn, S.bare, fun j f o hj ho => ?_, S.fo⟩
  · by_cases q : i = j
    · subst q
      rw [List.getElem?_set_self (List.getElem?_eq_some_iff.mp hi).1] at hj
      rw [List.getElem?_set_self (List.getElem?_eq_some_iff.mp hH).1] at ho
      cases hj; cases ho
      exact .inr hg
    · rw [List.getElem?_set_ne q] at hj ho
      exact (S.ob j f o hj ho).ents as.symm
  · by_cases q : i = j
    · subst q
      rw [List.getElem?_set_self (List.getElem?_eq_some_iff.mp hi).1] at hj
      rw [List.getElem?_set_self (List.getElem?_eq_some_iff.mp hH).1] at ho
      cases hj; cases ho
      exact fun x hx => S.glt (List.mem_of_getElem? hi) hx
    · rw [List.getElem?_set_ne q] at hj ho
      exact S.gf j f o hj ho
/-- a sleeping generator's frame, taken out of the objects -/
theorem HSim.outS {tgt : Expr} {lb : List Stmt} {I : Nat} (S : HSim w KF F ρ H h gs) (hi : ρ[i]? = some e) (hH : H[i]? = some (.susp fi tgt lb m I)) :
    ∃ g env z, e.g = some (g, env) ∧ gs[g]? = some z ∧ LoopK z env tgt lb I ∧ e.fp = e.a :: ownA fi env ∧ h.IsGen e.a g ∧ interactive env = false ∧ (env.scope = fi.sc ∧ env.frame = some env.locals) ∧ fi.own = true ∧ Sim w KF fi env m F (ρ.set i ⟨e.a, [], e.g⟩) (H.set i .gone) h gs := by
  obtain ⟨g, env, h1, h2, h3, h4, h5, h6⟩ := S.ob i e _ hi hH
  obtain ⟨g', env', z, h1', hgs, hl⟩ := S.gf i e _ hi hH
  rw [h1] at h1'; cases h1'
  have as := set_as (f := ⟨e.a, [], e.g⟩) hi rfl
  have T := S.bareAt hi hH (by rw [h1]; rfl)
  have f := h6.ents as.symm
  refine ⟨g, env, z, h1, hgs, hl, h2, h3, h5, ⟨h6.es, h6.ef⟩, h4, T, f.es, f.eg, f.eb, f.ec, f.ek, .inl f.ef, fun b hb => ?_, f.ns, f.cl, f.ce, f.cn, f.cu, f.cd, fun q => by rw [h4] at q; cases q⟩
  have hb' : b ∈ e.fp := by rw [h2]; exact .tail _ hb
  exact ⟨S.off b (fps_mem hi hb'), fps_set_off S.nd hi rfl hb'⟩
theorem HSim.own_fresh {body : List Stmt} (S : HSim w KF F ρ H h gs) (hi : ρ[i]? = some e) (hH : H[i]? = some (.fresh fi body m)) : fi.own = true := by
  obtain ⟨g, env, h1, h2, h3, h4, h5, h6⟩ := S.ob i e _ hi hH; exact h4
/-- what an entry stands for turned, nothing else -/
theorem HSim.recast (S : HSim w KF F ρ H h gs) (hi : ρ[i]? = some e) {o : O} (ho : OR F ρ h e o) (hG : GR gs e o) : HSim w KF F ρ (H.set i o) h gs :=
  S.upd hi (fun b o _ q => q) (fun b hb => S.live b (fps_mem hi hb)) (.refl _) ho hG
end
theorem Room.ask {A : Around} {d : Nat} {F : Base} {env : Env} (h : Room A (d + 1) F.fr) (he : env.frame = some env.locals) (body : List Stmt) : Room (A.in1.over (.func body env) []) d (frOf env F) := by
  refine ⟨by rw [frOf_pos he]; show A.frames.map ([env] ++ ·) = _; rw [h.fr]; rfl, h.hd, ?_, ?_⟩
  · have := h.dp
    show A.depth + 0 + 1 + 4 * d < recursionLimit
    omega
  · have := h.un
    show A.units + 1 + 0 + 3 + 40 * d + 200 < cLine
    omega
end Mine
end
section
open PySem PySem.W PyProof.Rows PySem.W.X PySem.SeqAt
namespace Mine
/-- what a generator answers -/
inductive Ans where
  | txt (x : Str)
  | nothing
  | err (X : String) (msg : Str)
/-- classes of exceptions that pass a generator's frame -/
structure ExcOk (X : String) : Prop where
  stop : isSubtype (.type X) (.type "StopIteration") = pure false
  rng : X ≠ "range"
/-- an exception that has come out of a generator, under way -/
noncomputable def Flew (w : World) (KF : Frag) (F : Base) (ρ : List Ent) (s : Shared) (X : String) (msg : Str) (H : List O) (x : Nat) (s' : Shared) : Prop :=
  ∃ ρ' L h₁ t tk, Fly L x (.type X) (.ref t) F.fr h₁ s'.heap ∧ (∀ b ∈ L, ∃ o es ep, h₁.get? b = some o ∧ o.data = .dict es ep) ∧ h₁.get? t = some { cls := .type "tuple", data := .seq #[.str msg tk] } ∧ t ≠ x ∧ t ∉ L ∧ F.f x = none ∧
    ∀ h'' l, Fly L x (.type X) (.ref t) l h₁ h'' → Step ρ s ρ' { s' with heap := h'' } ∧ HSim w KF F ρ' H h'' s'.gens
/-- the generator's place, and its frame -/
structure AskX (w : World) (KF : Frag) (fi : FI) (env : Env) (F : Base) (ρ : List Ent) (H : List O) (s : Shared) (i : Nat) (e : Ent) (g : Nat) : Prop where
  S : HSim w KF F ρ H s.heap s.gens
  he : ρ[i]? = some e
  hg : e.g = some (g, env)
  lt : g < s.gens.size
  fp : e.fp = e.a :: ownA fi env
  gen : s.heap.IsGen e.a g
  int : interactive env = false
  fr : env.frame = some env.locals
  own : fi.own = true
section
variable {w : World} {KF : Frag} {fi : FI} {env : Env} {F : Base} {ρ ρ' : List Ent} {H H' : List O} {s s₁ : Shared} {i : Nat} {e : Ent} {g : Nat} {m m' : Names}
noncomputable abbrev AskX.bF (F : Base) (s : Shared) (e : Ent) : Base := addF F s.heap [e.a]
theorem AskX.nd (X : AskX w KF fi env F ρ H s i e g) : e.fp.Nodup := fp_nodup1 X.S.nd (List.mem_of_getElem? X.he)
theorem AskX.mem (X : AskX w KF fi env F ρ H s i e g) : e.a ∈ e.fp := by rw [X.fp]; exact .head _
theorem AskX.off (X : AskX w KF fi env F ρ H s i e g) : FpOff fi env F (ρ.set i ⟨e.a, [], e.g⟩) [e.a] := fun b hb => by
  rw [List.mem_singleton.mp hb]
  exact ⟨X.S.off _ (fps_mem X.he X.mem), fps_set_off X.S.nd X.he rfl X.mem, (List.nodup_cons.mp (X.fp ▸ X.nd)).1⟩
theorem AskX.live (X : AskX w KF fi env F ρ H s i e g) : ∀ b ∈ [e.a], ∃ o, s.heap.get? b = some o := fun b hb => by
  rw [List.mem_singleton.mp hb]; obtain ⟨o, _, _, h, _⟩ := X.gen; exact ⟨o, h⟩
theorem AskX.start (X : AskX w KF fi env F ρ H s i e g) (T : Sim w KF fi env m F (ρ.set i ⟨e.a, [], e.g⟩) (H.set i .gone) s.heap s.gens) : Sim w KF fi env m (AskX.bF F s e) (ρ.set i ⟨e.a, [], e.g⟩) (H.set i .gone) (s.setGen g .running).heap (s.setGen g .running).gens := by
  refine Sim.gens (T.rebase X.off) (fun x hx => ?_) (fun f hf hne x z hx hz => ?_) (by rw [setGen_size]; exact Nat.le_refl _)
  · obtain ⟨k, hk, rfl⟩ := Array.mem_iff_getElem.mp hx
    have hk' := Array.getElem?_eq_getElem hk
    by_cases q : k = g
    · subst q
      rw [setGen_self X.lt] at hk'
      rw [← Option.some.inj hk']; rfl
    · rw [setGen_ne q] at hk'
      exact X.S.bare _ (Array.mem_of_getElem? hk')
  · obtain ⟨j, hj, rfl⟩ := List.mem_iff_getElem.mp hf
    have hj' := List.getElem?_eq_getElem hj
    by_cases q : i = j
    · subst q
      exact absurd (by rw [List.getElem_set_self]) hne
    · rw [List.getElem?_set_ne q] at hj'
      rw [setGen_ne (Ne.symm (gn_apart X.S.gn X.he hj' q X.hg hx))]; exact hz
theorem AskX.back (X : AskX w KF fi env F ρ H s i e g) (T₀ : Sim w KF fi env m F (ρ.set i ⟨e.a, [], e.g⟩) (H.set i .gone) s.heap s.gens) (st : Step (ρ.set i ⟨e.a, [], e.g⟩) (s.setGen g .running) ρ' s₁)
    (T : Sim w KF fi env m' (AskX.bF F s e) ρ' H' s₁.heap s₁.gens) {z : GenState} (hz : z.bare = true) :
    HSim w KF F (ρ'.set i e) H' (s₁.setGen g z).heap (s₁.setGen g z).gens ∧ s₁.heap.IsGen e.a g ∧ FrameAt fi env m' (ρ'.set i e) s₁.heap ∧ Step ρ s (ρ'.set i e) (s₁.setGen g z) ∧ (ρ'.set i e)[i]? = some e ∧ H'[i]? = some .gone ∧ (s₁.setGen g z).gens[g]? = some z ∧ (e.a ∉ fps ρ' ∧ (∀ b ∈ e.fp, b ∉ fps ρ')) := by
  obtain ⟨U, offU, kU⟩ := Sim.unbase T₀ X.off X.live st.1 st.2.2.2 T
  have hi := (List.getElem?_eq_some_iff.mp X.he).1
  have hi' : ρ'[i]? = some ⟨e.a, [], some (g, env)⟩ := by
    rw [← X.hg]; exact pre_get st.1 (List.getElem?_set_self hi)
  have hlt : i < ρ'.length := (List.getElem?_eq_some_iff.mp hi').1
  have sz : s.gens.size ≤ s₁.gens.size := by have := st.2.2.1.2; rw [setGen_size] at this; exact this
  have glt : g < s₁.gens.size := Nat.lt_of_lt_of_le X.lt sz
  have U' : Sim w KF fi env m' F ρ' H' (s₁.setGen g z).heap (s₁.setGen g z).gens := by
    refine Sim.gens U (fun x hx => ?_) (fun f hf hne x y hx hy => ?_) (by rw [setGen_size]; exact Nat.le_refl _)
    · obtain ⟨k, hk, rfl⟩ := Array.mem_iff_getElem.mp hx
      have hk' := Array.getElem?_eq_getElem hk
      by_cases q : k = g
      · subst q
        rw [setGen_self glt] at hk'
        rw [← Option.some.inj hk']; exact hz
      · rw [setGen_ne q] at hk'
        exact U.hs.bare _ (Array.mem_of_getElem? hk')
    · obtain ⟨j, hj, rfl⟩ := List.mem_iff_getElem.mp hf
      have hj' := List.getElem?_eq_getElem hj
      by_cases q : i = j
      · subst q
        rw [hi'] at hj'
        exact absurd (by rw [← Option.some.inj hj']) hne
      · rw [setGen_ne (Ne.symm (gn_apart U.hs.gn hi' hj' q rfl hx))]; exact hy
  have wo : ∀ b ∈ e.fp, b ∉ fps ρ' ∧ F.f b = none ∧ ∃ o, (s₁.setGen g z).heap.get? b = some o := fun b hb => by
    rw [X.fp] at hb
    rcases List.mem_cons.mp hb with rfl | hb
    · obtain ⟨o, _, _, h, _⟩ := X.gen
      exact ⟨(offU _ (.head _)).2.1, (offU _ (.head _)).1, o, kU _ (.head _) o h⟩
    · have lo := U.lo b hb
      obtain ⟨o, ⟨h1, _⟩ | ⟨o2, h1⟩⟩ := U.own_live b hb
      · exact ⟨lo.2, lo.1, o, h1⟩
      · exact ⟨lo.2, lo.1, o2, h1⟩
  have B := U'.hs.back hi' X.hg X.nd X.mem wo
  have as := set_as (f := e) hi' rfl
  have nw : New s.gens.size ρ (ρ'.set i e) := fun j f hj hf => by
    rw [List.getElem?_set_ne (by omega)] at hf
    have := st.2.2.2 j f (by rw [List.length_set]; exact hj) hf
    rw [setGen_size] at this; exact this
  refine ⟨B, ?_, (U.frame X.fr).ents as.symm, ⟨set_prefix X.he st.1, st.2.1, ⟨st.2.2.1.1, by rw [setGen_size]; exact sz⟩, nw⟩, List.getElem?_set_self hlt, ?_, setGen_self glt, (offU _ (.head _)).2.1, fun b hb => (wo b hb).1⟩
  · obtain ⟨o, a, b, h, r⟩ := X.gen
    exact ⟨o, a, b, kU _ (.head _) o h, r⟩
  · have hH : i < H'.length := by rw [← U.hs.len]; exact hlt
    have y := U.hs.ob i _ _ hi' (List.getElem?_eq_getElem hH)
    rw [List.getElem?_eq_getElem hH]
    cases q : H'[i] with
    | list xs => rw [q] at y; cases y.1
    | arr xs => rw [q] at y; cases y.2.1
    | inst C fs => rw [q] at y; cases y.1
    | tbl P ps => rw [q] at y; cases y.2.2.1
    | fresh fi body m => rw [q] at y; obtain ⟨_, _, _, z, _⟩ := y; cases z
    | gone => rfl
    | done => rw [q] at y; obtain ⟨_, _, _, _, z, _⟩ := y; cases z
    | susp fi tgt lb m I => rw [q] at y; obtain ⟨_, _, _, z, _⟩ := y; cases z
    | rit I lo n => rw [q] at y; cases y.2.1
theorem AskX.left {Xn : String} {msg : Str} {x : Nat} (X : AskX w KF fi env F ρ H s i e g) (T₀ : Sim w KF fi env m F (ρ.set i ⟨e.a, [], e.g⟩) (H.set i .gone) s.heap s.gens)
    (hl : LeftBy w KF fi env m' (AskX.bF F s e) (ρ.set i ⟨e.a, [], e.g⟩) (s.setGen g .running) Xn msg H' x s₁) (hs : ExcOk Xn) : LeftGen e.a g x s₁ ∧ Flew w KF F ρ s Xn msg (H'.set i .done) x (s₁.setGen g .finished) := by
  obtain ⟨ρ', s₂, h₀, t, tk, h', st, T, offx, hm, rfl, fl, ht, hte⟩ := hl
  obtain ⟨B, hgen, hfr, stB, hiB, hH, hgs, hea, hfpo⟩ := X.back T₀ st T (z := .finished) rfl
  obtain ⟨lw, ld⟩ := T.toH.lows
  have ld : ∀ b ∈ loOf env F, ∃ o es ep, s₂.heap.get? b = some o ∧ o.data = .dict es ep := ld
  have eL : loOf env F = env.locals :: F.lo := by
    show (frOf env F).filterMap (·.frame) = _
    rw [frOf_pos X.fr, List.filterMap_cons, X.fr]; rfl
  have nd' : (e.a :: ownA fi env).Nodup := X.fp ▸ X.nd
  obtain ⟨x1, x2, x3⟩ := offx x (.head _)
  obtain ⟨oa, ha⟩ := X.live _ (.head _)
  have xa : x ≠ e.a := fun q => by
    rw [q, show (AskX.bF F s e).f e.a = s.heap.get? e.a from addF_in (.head _), ha] at x1; cases x1
  have aL : e.a ∉ loOf env F := fun q => by
    rw [eL] at q
    rcases List.mem_cons.mp q with q | q
    · exact (List.nodup_cons.mp nd').1 (by rw [q]; exact loc_own fi env)
    · exact X.S.fo.off (X.S.off _ (fps_mem X.he X.mem)) q
  have tL : t ∉ loOf env F := tup_off ld ht
  have Fx : F.f x = none := by
    have : (AskX.bF F s e).f x = F.f x := addF_out (fun q => xa (List.mem_singleton.mp q))
    rw [← this]; exact x1
  obtain ⟨t', hxo, hn, ht'⟩ := hm.there
  have ni : ∀ o, s₂.heap.get? x = some o → ¬ Imm o := fun o ho => by
    rw [hxo] at ho; cases ho
    rintro (⟨⟨xs, n, q⟩, _⟩ | ⟨q, _⟩)
    · cases q
    · exact hs.rng (by injection q)
  have pm := fps_set_perm (ρ := ρ') (i := i) (e := e) (f := ⟨e.a, [], some (g, env)⟩) (by rw [← X.hg]; exact pre_get st.1 (List.getElem?_set_self (List.getElem?_eq_some_iff.mp X.he).1)) rfl
  refine ⟨⟨(GenAt.of hgen).at fun o ho => fl.nt.kp e.a o (Ne.symm xa) aL ho, Xn, ?_, hs.stop⟩, ρ'.set i e, loOf env F, s₂.heap, t, tk, fl, ld, ht, hte, tL, Fx, fun h'' l fl'' => ⟨?_, ?_⟩⟩
  · obtain ⟨_, ⟨o, vs, ho, hc, _⟩, _⟩ := fl.exc (args := [.str msg tk]) ht hte tL
    exact ⟨o, ho, hc⟩
  · exact stB.trans (Step.same (s := s₂.setGen g .finished) (s' := { ({ s₂ with heap := h' } : Shared).setGen g .finished with heap := h'' }) (fl''.nt.tk ld ni) rfl (Nat.le_refl _))
  · have N : HSim w KF F (ρ'.set i e) H' h'' (s₂.setGen g .finished).gens := B.noted fl''.nt ld ni ⟨Fx, fun q => ?_⟩ fun b hb => ?_
    · refine N.recast hiB ⟨g, env, ownA fi env, X.hg, X.fp, ?_⟩ ⟨g, env, X.hg, hgs⟩
      obtain ⟨o, a, b, ho, r⟩ := hgen
      exact ⟨o, a, b, fl''.nt.kp e.a o (Ne.symm xa) aL ho, r⟩
    · rcases List.mem_append.mp (pm.mem_iff.mp q) with q | q
      · rw [X.fp] at q
        rcases List.mem_cons.mp q with q | q
        · exact xa q
        · exact x3 q
      · exact x2 q
    · rw [eL] at hb
      rcases List.mem_cons.mp hb with q | q
      · exact .inr ⟨i, e, hiB, hH, by rw [X.fp, q]; exact .tail _ (loc_own fi env)⟩
      · exact .inl q
end
end Mine
end
section
open PySem PySem.W PyProof.Rows PySem.W.X PySem.SeqAt
namespace Mine
/-- a generator of the call's asked for its next value -/
noncomputable def AskW (prog : Program) (w : World) (KF : Frag) (d : Nat) (H : List O) (i : Nat) (Q : Ans → List O → Prop) : Prop :=
  ∀ A F ρ s e, Room A (d + 1) F.fr → HSim w KF F ρ H s.heap s.gens → ρ[i]? = some e → (∃ g, s.heap.IsGen e.a g) ∧
    wpU (model prog w) A (pyNext (.ref e.a)) (fun r s' => ∃ ρ' H', Step ρ s ρ' s' ∧ HSim w KF F ρ' H' s'.heap s'.gens ∧ (∃ g, s'.heap.IsGen e.a g) ∧ ((r = none ∧ Q .nothing H') ∨ ∃ x t, r = some (.str x t) ∧ Q (.txt x) H'))
      (fun x s' => ∃ a X msg H', x = .ref a ∧ Flew w KF F ρ s X msg H' a s' ∧ Q (.err X msg) H') s
section
variable {prog : Program} {w : World} {KF : Frag} {fi : FI} {env : Env} {F : Base} {ρ ρ' : List Ent} {H H' : List O} {s s₁ : Shared} {i : Nat} {e : Ent} {g : Nat} {m m' : Names} {A : Around} {d : Nat} {Q : Ans → List O → Prop} {tgt : Expr} {lb : List Stmt}
noncomputable def AskY (w : World) (KF : Frag) (fi : FI) (env : Env) (F : Base) (ρ : List Ent) (s : Shared) (i : Nat) (e : Ent) (g : Nat) (tgt : Expr) (lb : List Stmt) (Q : Ans → List O → Prop) : YP := fun v z s₁ =>
  ∃ x u ρ' H' m' I, v = .str x u ∧ Step (ρ.set i ⟨e.a, [], e.g⟩) (s.setGen g .running) ρ' s₁ ∧ Sim w KF fi env m' (AskX.bF F s e) ρ' H' s₁.heap s₁.gens ∧ LoopK z env tgt lb I ∧ Q (.txt x) (H'.set i (.susp fi tgt lb m' I))
noncomputable def AskR (w : World) (KF : Frag) (fi : FI) (env : Env) (F : Base) (ρ : List Ent) (s : Shared) (i : Nat) (e : Ent) (g : Nat) (Q : Ans → List O → Prop) : Result → Shared → Prop := fun r s₁ =>
  (r = .ok (.ret .none) ∧ ∃ ρ' H' m', Step (ρ.set i ⟨e.a, [], e.g⟩) (s.setGen g .running) ρ' s₁ ∧ Sim w KF fi env m' (AskX.bF F s e) ρ' H' s₁.heap s₁.gens ∧ Q .nothing (H'.set i .done)) ∨
  ∃ x Xn msg H' m', r = .error (.ref x) ∧ LeftBy w KF fi env m' (AskX.bF F s e) (ρ.set i ⟨e.a, [], e.g⟩) (s.setGen g .running) Xn msg H' x s₁ ∧ ExcOk Xn ∧ Q (.err Xn msg) (H'.set i .done)
theorem ask_core {z : GenState} (X : AskX w KF fi env F ρ H s i e g) (T₀ : Sim w KF fi env m F (ρ.set i ⟨e.a, [], e.g⟩) (H.set i .gone) s.heap s.gens) (hA : Room A (d + 1) F.fr) (hgs : s.gens[g]? = some z)
    (hgo : GoesU (model prog w) A.in1 (AskY w KF fi env F ρ s i e g tgt lb Q) (AskR w KF fi env F ρ s i e g Q) z (s.setGen g .running)) :
    wpU (model prog w) A (pyNext (.ref e.a)) (fun r s' => ∃ ρ' H', Step ρ s ρ' s' ∧ HSim w KF F ρ' H' s'.heap s'.gens ∧ (∃ g, s'.heap.IsGen e.a g) ∧ ((r = none ∧ Q .nothing H') ∨ ∃ x t, r = some (.str x t) ∧ Q (.txt x) H'))
      (fun x s' => ∃ a X msg H', x = .ref a ∧ Flew w KF F ρ s X msg H' a s' ∧ Q (.err X msg) H') s := by
  refine nextE hA.hd X.S.b.lim hA.depth (.of X.gen) hgs hgo (fun v z' s₁ hv => ?_) (fun r s₁ hr => ?_)
  · obtain ⟨x, u, ρ', H', m', I, rfl, st, T, hk, hq⟩ := hv
    obtain ⟨B, hgen, hfr, stB, hiB, hH, hgs', _, _⟩ := X.back T₀ st T (z := z') hk.bare
    exact ⟨_, _, stB, B.recast (o := .susp fi tgt lb m' I) hiB ⟨g, env, X.hg, X.fp, hgen, X.own, X.int, hfr⟩ ⟨g, env, z', X.hg, hgs', hk⟩, ⟨g, hgen⟩, .inr ⟨x, u, rfl, hq⟩⟩
  · rcases hr with ⟨rfl, ρ', H', m', st, T, hq⟩ | ⟨x, Xn, msg, H', m', rfl, hl, hs, hq⟩
    · refine .inl ⟨rfl, fun h' hk => ?_⟩
      obtain ⟨B, hgen, hfr, stB, hiB, hH, hgs', _, _⟩ := X.back T₀ st T (z := .finished) rfl
      have hgen' : h'.IsGen e.a g := let ⟨o, a, b, ho, r⟩ := hgen; ⟨o, a, b, hk _ _ ho, r⟩
      exact ⟨_, _, stB.trans (Step.same (s := s₁.setGen g .finished) (s' := { s₁.setGen g .finished with heap := h' }) (.of_keep hk) rfl (Nat.le_refl _)), (B.keeps hk).recast (o := .done) hiB ⟨g, env, ownA fi env, X.hg, X.fp, hgen'⟩ ⟨g, env, X.hg, hgs'⟩, ⟨g, hgen'⟩, .inl ⟨rfl, hq⟩⟩
    · obtain ⟨lg, fw⟩ := X.left T₀ hl hs
      exact .inr ⟨x, rfl, lg, x, Xn, msg, _, rfl, fw, hq⟩
theorem LeftBy.step {X : String} {msg : Str} {x : Nat} {s₀ : Shared} {ρ₀ : List Ent} (st : Step ρ₀ s₀ ρ s) (h : LeftBy w KF fi env m F ρ s X msg H x s₁) : LeftBy w KF fi env m F ρ₀ s₀ X msg H x s₁ := by
  obtain ⟨ρ', s₂, h₀, t, tk, h', st', r⟩ := h
  exact ⟨ρ', s₂, h₀, t, tk, h', st.trans st', r⟩
end
/-- one turn of a loop that yields -/
noncomputable def TurnA (prog : Program) (w : World) (KF : Frag) (fi : FI) (d : Nat) (iN : Str) (ip : Pos) (ex : Expr) (ypos pos : Pos) (m : Names) (H : List O) (i j I : Nat) (lo : Int) (n : Nat) (Q : Ans → List O → Prop) : Prop :=
  (n = 0 → Q .nothing (H.set i .done)) ∧ ∀ k, n = k + 1 →
    (∃ x, WE prog w KF fi d noE (setL m iN (.int lo)) (H.set j (.rit I (lo + 1) k)) ex (fun v H' => v = .str x ∧ H' = H.set j (.rit I (lo + 1) k)) ∧ Q (.txt x) ((H.set j (.rit I (lo + 1) k)).set i (.susp fi (.Name iN ip) [.Expr (.Yield (some ex) ypos) pos] (setL m iN (.int lo)) I))) ∨
    (∃ X msg, ExcOk X ∧ WX prog w KF fi d (setL m iN (.int lo)) (H.set j (.rit I (lo + 1) k)) ex X msg (fun H' => H' = H.set j (.rit I (lo + 1) k)) ∧ Q (.err X msg) ((H.set j (.rit I (lo + 1) k)).set i .done))
section
variable {prog : Program} {w : World} {KF : Frag} {fi : FI} {env : Env} {F : Base} {ρ ρ' : List Ent} {H H' : List O} {s s₁ : Shared} {i j I : Nat} {e : Ent} {g : Nat} {m m' : Names} {A : Around} {d : Nat} {Q : Ans → List O → Prop} {iN : Str} {ip ypos pos : Pos} {ex : Expr}
theorem turn_run {body : List Stmt} {kf : Result → Sem Fin} {lf : List Value} {p : Pos} {lo : Int} {n : Nat} (hef : env.frame = some env.locals) (hi : interactive env = false) (hco : env.scope.isCoroutine = false) (hk : Ours fi iN) (hA : Room A (d + 1) F.fr)
    (st : Step (ρ.set i ⟨e.a, [], e.g⟩) (s.setGen g .running) ρ' s₁) (T : Sim w KF fi env m (AskX.bF F s e) ρ' H s₁.heap s₁.gens) (hj : H[j]? = some (.rit I lo n)) (K : KfOk body env kf) (h : TurnA prog w KF fi d iN ip ex ypos pos m H i j I lo n Q) (hij : i ≠ j) (hlt : i < H.length) :
    SegU (model prog w) A.in1 (AskY w KF fi env F ρ s i e g (.Name iN ip) [.Expr (.Yield (some ex) ypos) pos] Q) (AskR w KF fi env F ρ s i e g Q) (.forLoop (.Name iN ip) (.ref I) [.Expr (.Yield (some ex) ypos) pos] [] env)
      ((model prog w).den (.forLoop (.Name iN ip) (.ref I) [.Expr (.Yield (some ex) ypos) pos] [] env)) [.ret kf none false lf (.func body env) p []] s₁ := by
  refine yield_loop T hj hco hi hef hk (Room.ask (F := AskX.bF F s e) hA hef body) K (fun hn h' hk' => ?_) (fun k hn => ?_)
  · exact .inl ⟨rfl, ρ', H, m, st.trans (Step.same (s := s₁) (s' := { s₁ with heap := h' }) (.of_keep hk') rfl (Nat.le_refl _)), T.keeps hk', h.1 hn⟩
  · rcases h.2 k hn with ⟨x, hW, hq⟩ | ⟨X, msg, hs, hX, hq⟩
    · exact .inl ⟨x, hW, fun u z s' ρ'' st' T' hl => ⟨x, u, ρ'', _, _, I, rfl, st.trans st', T', hl, hq⟩⟩
    · exact .inr ⟨X, msg, hX, fun x s' hl => .inr ⟨x, X, msg, _, _, rfl, hl.step st, hs, hq⟩⟩
theorem ask_susp {lo : Int} {n : Nat} (hH : H[i]? = some (.susp fi (.Name iN ip) [.Expr (.Yield (some ex) ypos) pos] m I)) (hj : H[j]? = some (.rit I lo n)) (hk : Ours fi iN) (hco : fi.sc.isCoroutine = false)
    (h : TurnA prog w KF fi d iN ip ex ypos pos m (H.set i .gone) i j I lo n Q) : AskW prog w KF d H i Q :=
  fun A F ρ s e hA S he => by
    obtain ⟨g, env, z, h1, hgs, hl, h3, h4, h5, h6, h7, T⟩ := S.outS he hH
    have X : AskX w KF fi env F ρ H s i e g := ⟨S, he, h1, (Array.getElem?_eq_some_iff.mp hgs).1, h3, h4, h5, h6.2, h7⟩
    have hij : i ≠ j := fun q => by rw [q, hj] at hH; cases hH
    refine ⟨⟨g, h4⟩, ask_core (tgt := .Name iN ip) (lb := [.Expr (.Yield (some ex) ypos) pos]) X T hA hgs ?_⟩
    obtain ⟨_, body, kf, lf, p, hgo, hnx, her⟩ := hl
    exact hgo _ _ _ _ _ _ (turn_run h6.2 h5 (by rw [h6.1]; exact hco) hk hA .refl (X.start T) (by rw [List.getElem?_set_ne hij]; exact hj) ⟨hnx, her⟩ h hij (by rw [List.length_set]; exact (List.getElem?_eq_some_iff.mp hH).1))
theorem ask_fresh {st0 : Stmt} {iter : Expr} {fpos : Pos} {a b : Int} (hH : H[i]? = some (.fresh fi [st0, .For (.Name iN ip) iter [.Expr (.Yield (some ex) ypos) pos] [] fpos] m)) (hk : Ours fi iN) (hco : fi.sc.isCoroutine = false)
    (ha : -(2 ^ 61) ≤ a ∧ a < 2 ^ 61) (hb : -(2 ^ 61) ≤ b ∧ b < 2 ^ 61)
    (hdoc : WS prog w KF fi d noE m (H.set i .gone) st0 fun f m' H' => f = .next ∧ m' = m ∧ H' = H.set i .gone)
    (hit : WE prog w KF fi d noE m (H.set i .gone) iter fun v H' => v = .rng a b ∧ H' = H.set i .gone)
    (hs : ∀ env x, foldedSetIterable iter env x = pure x)
    (h : ∀ I, TurnA prog w KF fi d iN ip ex ypos pos m (H.set i .gone ++ [.rit I a (b - a).toNat]) i H.length I a (b - a).toNat Q) : AskW prog w KF d H i Q :=
  fun A F ρ s e hA S he => by
    obtain ⟨g, env, h1, hgs, h3, h4, h5, h6, T⟩ := S.out he hH
    have X : AskX w KF fi env F ρ H s i e g := ⟨S, he, h1, (Array.getElem?_eq_some_iff.mp hgs).1, h3, h4, h5, h6.2, S.own_fresh he hH⟩
    have hlt := (List.getElem?_eq_some_iff.mp hH).1
    refine ⟨⟨g, h4⟩, ask_core (tgt := .Name iN ip) (lb := [.Expr (.Yield (some ex) ypos) pos]) X T hA hgs ?_⟩
    refine yield_start (X.start T) (Room.ask (F := AskX.bF F s e) hA h6.2 _) ha hb hdoc hit hs fun ρ' s' I kf lf p st T' K => ?_
    refine turn_run h6.2 h5 (by rw [h6.1]; exact hco) hk hA st T' ?_ K (h I) (Nat.ne_of_lt hlt) (by rw [List.length_append, List.length_set]; exact Nat.lt_succ_of_lt hlt)
    have : (H.set i .gone).length = H.length := List.length_set
    rw [← this, List.getElem?_concat_length]
theorem ask_done (hH : H[i]? = some .done) (h : Q .nothing H) : AskW prog w KF d H i Q :=
  fun A F ρ s e hA S he => by
    obtain ⟨g, env, r, h1, h2, h3⟩ := S.ob i e _ he hH
    obtain ⟨g', env', h1', hgs⟩ := S.gf i e _ he hH
    rw [h1] at h1'; cases h1'
    refine ⟨⟨g, h3⟩, nextD hA.hd (.of h3) hgs fun h' hk => ?_⟩
    exact ⟨ρ, H, .same (.of_keep hk) rfl (Nat.le_refl _), S.keeps hk, ⟨g, let ⟨o, a, b, ho, r⟩ := h3; ⟨o, a, b, hk _ _ ho, r⟩⟩, .inl ⟨rfl, h⟩⟩
end
end Mine
end
section
open PySem PySem.W PyProof.Rows PySem.W.X PySem.SeqAt
namespace Mine
section
variable {prog : Program} {w : World} {A : Around} {E : Value → Shared → Prop} {s : Shared} {env : Env}
theorem wpU_Try {body orelse : List Stmt} {h₀ : ExceptHandler} {hs : List ExceptHandler} {pos : Pos} {Q : Flow → Shared → Prop}
    (h : wpU (model prog w) A (execs body env) (fun f s₁ => match f with | .next => wpU (model prog w) A (execs orelse env) Q E s₁ | f => Q f s₁)
      (fun e s₁ => wpAny (model prog w) A (noteFrame e env) (fun _ s₂ => wpAny (model prog w) A (setFlight e none) (fun _ s₃ => wpAny (model prog w) A (handleBy e env (h₀ :: hs)) Q E s₃) E s₂) E s₁) s) :
    wpU (model prog w) A (exec (.Try body (h₀ :: hs) orelse [] pos) env) Q E s := by
  rw [arm_exec_Try]
  refine wpU_bind (wpU_standAt ?_)
  unfold tryStmt
  simp only [List.isEmpty_nil, if_true, List.isEmpty_cons, Bool.false_and, Bool.false_eq_true, if_false]
  refine wpU_bind (wpU_attempt (wpU_mono h (fun f s₁ h₁ => ?_) fun e s₁ h₁ => up ?_))
  · cases f <;> first | exact h₁ | exact wpU_pure h₁
  · exact wpAny_bind (wpAny_mono h₁ (fun _ _ h₂ => wpAny_bind h₂) fun _ _ x => x)
theorem wpU_runOwn {c : Code} {Q : Flow → Shared → Prop} (hc : codeU (model prog w) A c (fun r s' => match r with | .ok f => Q f s' | .error e => cameBackBy (model prog w) A env E e s') s) : wpU (model prog w) A (runOwn c env) Q E s := by
  unfold runOwn
  refine wpU_onRaise ?_
  unfold run
  refine wpU_callT (h := none) (codeU_mono hc fun r s' hq => ?_) (fun q => nomatch q)
  cases r with
  | ok f => exact wpU_pure (M := model prog w) hq
  | error e => exact wpU_throw (up hq)
end
section
variable {M : Model} {A : Around} {E : Value → Shared → Prop} {s : Shared} {L : List Nat} {e : Nat} {env : Env} {outer : List Env}
/-- a further frame notes it, in a loop of its own -/
theorem fly_note {cls a0 : Value} {h₁ : Heap} {a : Nat} {Q : Unit → Shared → Prop} (hfr : A.frames = some (env :: outer)) (ha : env.frame = some a) (hd : ∀ b ∈ L, ∃ o es ep, h₁.get? b = some o ∧ o.data = .dict es ep) (f : Fly L e cls a0 (env :: outer) h₁ s.heap)
    (h : ∀ h', FlyH L e cls a0 (env :: outer) a h₁ h' → Q () { s with heap := h' }) : wpAny M A (noteFrame (.ref e) env) Q E s :=
  wpAny_looks_onW hfr ha f.fl fun h' k1 k2 => h h' ⟨k1, noted_of f.nt hd k1.1 k2, f.fr⟩
/-- a try of the same frame looks on -/
theorem held_land {cls a0 : Value} {h₁ : Heap} {a : Nat} {Q : Unit → Shared → Prop} (ha : env.frame = some a) (hd : ∀ b ∈ L, ∃ o es ep, h₁.get? b = some o ∧ o.data = .dict es ep) (f : FlyH L e cls a0 (env :: outer) a h₁ s.heap)
    (h : ∀ h', Fly L e cls a0 (env :: outer) h₁ h' → Q () { s with heap := h' }) : wpAny M A (noteFrame (.ref e) env) (fun _ s₂ => wpAny M A (setFlight (.ref e) none) Q E s₂) E s :=
  wpAny_noteFrame_againW ha f.fl.2.2.2 (wpAny_landsW f.fl fun h' k1 k2 => h h' ⟨k1, noted_of f.nt hd k1.1 k2, f.fr⟩)
end
section
variable (prog : Program) (w : World) (KF : Frag) (fi : FI) (d : Nat)
/-- a statement of a frame of its own -/
noncomputable def WSF (m : Names) (H : List O) (st : Stmt) (Q : Fl → Names → List O → Prop) : Prop :=
  ∀ A env F ρ s, env.frame = some env.locals → Room A d (frOf env F) → Sim w KF fi env m F ρ H s.heap s.gens → wpU (model prog w) A (exec st env) (StQ w KF fi env F ρ s Q) (fun _ _ => False) s
noncomputable def WBF (m : Names) (H : List O) (st : List Stmt) (Q : Fl → Names → List O → Prop) : Prop :=
  ∀ A env F ρ s, env.frame = some env.locals → Room A d (frOf env F) → Sim w KF fi env m F ρ H s.heap s.gens → wpU (model prog w) A (execs st env) (StQ w KF fi env F ρ s Q) (fun _ _ => False) s
end
section
variable {prog : Program} {w : World} {KF : Frag} {fi : FI} {d : Nat} {m : Names} {H : List O}
theorem wf_seq {st : Stmt} {rest : List Stmt} {Q : Fl → Names → List O → Prop} (h : WSF prog w KF fi d m H st (fun f m' H' => match f with | .next => WBF prog w KF fi d m' H' rest Q | f => Q f m' H')) : WBF prog w KF fi d m H (st :: rest) Q :=
  fun A env F ρ s hf hA S => by
    rw [execs_cons]
    refine wpU_bind (wpU_mono (h A env F ρ s hf hA S) (fun f s₁ hx => ?_) fun _ _ x => x)
    obtain ⟨ρ₁, H₁, m₁, fl, st₁, S₁, rf, h₁⟩ := hx
    cases fl with
    | next => cases rf; exact wpU_mono ((show WBF prog w KF fi d m₁ H₁ rest Q from h₁) A env F ρ₁ s₁ hf hA S₁) (fun _ _ x => x.step st₁) fun _ _ x => x
    | brk => cases rf; exact wpU_pure ⟨ρ₁, H₁, m₁, .brk, st₁, S₁, rfl, h₁⟩
    | cont => cases rf; exact wpU_pure ⟨ρ₁, H₁, m₁, .cont, st₁, S₁, rfl, h₁⟩
    | ret v => obtain ⟨u, rfl, r⟩ := rf; exact wpU_pure ⟨ρ₁, H₁, m₁, .ret v, st₁, S₁, ⟨u, rfl, r⟩, h₁⟩
theorem wf_of {st : List Stmt} {Q : Fl → Names → List O → Prop} (h : WBU prog w KF fi d noE m H st Q) : WBF prog w KF fi d m H st Q :=
  fun A env F ρ s hf hA S => wpU_mono (h A env F ρ s hA S) (fun _ _ x => x) fun _ _ x => (se_no x).elim
/-- a generator asked in a try, its row given back; its exception told -/
theorem try_ask {X T : String} {nX : String} {rN dN tn n sn : Str} {i : Nat} {pre : Str} {kk : Nat} {rp rp2 dp tp p2 p3 p4 p5 p6 p7 p8 fpos hp tpos : Pos} {Q : Fl → Names → List O → Prop}
    (K : ExcCls X T true) (FX : ExcStrFacts X nX) (hdN : fi.sc.names.lookup dN = some .local) (vd : getL m dN = some (.ref i)) (dd : (dN == ("__debug__" : Str)) = false) (hrN : fi.sc.names.lookup rN = some .local) (dr : (rN == ("__debug__" : Str)) = false)
    (hn : fi.sc.names.lookup n = some .local) (hm : getL m n = none) (dn : (n == ("__debug__" : Str)) = false)
    (hT : fi.sc.names.lookup tn = some .globalImplicit) (eT : nsIn KF mainGlobals tn = some none) (bT : bootBuiltins tn = some (.type T)) (dT : (tn == ("__debug__" : Str)) = false) (nT : tn ≠ "__name__")
    (hs : fi.sc.names.lookup sn = some .globalImplicit) (eS : nsIn KF mainGlobals sn = some none) (bS : bootBuiltins sn = some (.type "str")) (dS : (sn == ("__debug__" : Str)) = false) (nS : sn ≠ "__name__")
    (h : AskW prog w KF d H i fun a H' => match a with
      | .txt x => Q (.ret (.str x)) (setL m rN (.str x)) H'
      | .nothing => Q .next m H'
      | .err Y msg => Y = X ∧ pre.length + msg.length ≤ sizeLine ∧ Q (.ret (.str (pre ++ msg))) [] H') :
    WSF prog w KF fi (d + 1) m H (.Try [.For (.Name rN rp) (.Name dN dp) [.Return (some (.Name rN rp2)) p8] [] fpos]
      [.ExceptHandler (some (.Name tn tp)) (some n) [.Return (some (.BinOp (.Constant (.str pre) kk p2) .Add (.Call (.Name sn p3) [.Name n p4] [] p5) p6)) p7] hp] [] [] tpos) Q :=
  fun A env F ρ s hf hA S => by
    have hfr : frOf env F = env :: F.fr := frOf_pos hf
    have hfr' : A.frames = some (env :: F.fr) := by rw [← hfr]; exact hA.fr
    refine wpU_Try ?_
    rw [execs_cons, exec_For]
    refine wpU_bind (wpU_bind (wpU_standAt (wpU_bind (up ?_))))
    obtain ⟨mv, u, hns, e, ru⟩ := S.get vd hdN
    refine wpAny_Name (wpAny_loadName_local S.kd ((S.kind dN).trans hdN) hns e ?_) dd
    unfold VR at ru
    obtain ⟨en, he, rfl⟩ := ru
    obtain ⟨⟨g, hg⟩, hask⟩ := h A _ ρ s en (show Room A (d + 1) (addE F s.heap env (ownA fi env)).fr from hA) S.toH he
    show wpU _ _ ((pure (.ref en.a) : Sem Value) >>= _) _ _ s
    refine wpU_bind (wpU_pure (wpU_bind (wpU_standAt (wpU_bind (wpU_holding (up (pyIter_genAt (.of hg) ?_)))))))
    refine wpU_runOwn (codeU_of ?_)
    show wpU _ _ ((forTurn (.Name rN rp) (.ref en.a) [.Return (some (.Name rN rp2)) p8] [] env).onRaise (fun x => do noteFrame x env; theTreesLotGoes x)) _ _ s
    refine wpU_onRaise ?_
    simp only [forTurn]
    refine wpU_bind (wpU_standAt (wpU_bind (wpU_onRaise (wpU_mono (show wpU (model prog w) A (pyNext (.ref en.a)) _ _ s from hask) (fun r s₁ h₁ => ?_) fun x s₁ h₁ => ?_))))
    · obtain ⟨ρ₁, H₁, st₁, T₁, ⟨g₁, o₁, _, _, ho₁, hc₁, _⟩, hq⟩ := h₁
      have S₁ := S.ofH st₁.1 st₁.2.1 T₁
      rcases hq with ⟨rfl, hq⟩ | ⟨x, t, rfl, hq⟩
      · refine wpU_pure (M := model prog w) ⟨rfl, codeU_of ?_⟩
        show wpU _ _ (do return Fin.done (← (execs [] env).onRaise (fun x => do noteFrame x env; theTreesLotGoes x))) _ _ s₁
        refine wpU_bind (wpU_onRaise (up (wpAny_execs_nil (wpU_pure ?_))))
        show wpU _ _ (execs [] env) _ _ s₁
        refine up (wpAny_execs_nil ?_)
        exact up (wpAny_execs_nil ⟨ρ₁, H₁, m, .next, st₁, S₁, rfl, hq⟩)
      · dsimp only
        refine wpU_bind (up (lot_plain ho₁ hc₁ (by decide) ?_))
        refine wpU_bind (up (wpAny_mono (wa_name (prog := prog) (w := w) (KF := KF) (fi := fi) (d := d + 1) (E := noE) (m := m) (H := H₁) (v := .str x) (Q := fun m' H' => m' = setL m rN (.str x) ∧ H' = H₁) (.inl hrN) ⟨rfl, rfl⟩ A env F ρ₁ s₁ (.str x t) hA S₁ (by unfold VR; exact ⟨_, rfl⟩)) (fun _ s₂ hx => ?_) fun _ _ x => (se_no x).elim))
        obtain ⟨ρ₂, H₂, m₂, st₂, S₂, rfl, rfl⟩ := hx
        refine wpU_bind (up ?_)
        refine wpAny_execs_cons (wpAny_Return_some ?_)
        obtain ⟨mv₂, u₂, hns₂, e₂, r₂⟩ := S₂.get (x := rN) (v := .str x) (by rw [getL_setL, if_pos rfl]) hrN
        refine wpAny_Name (wpAny_loadName_local S₂.kd ((S₂.kind rN).trans hrN) hns₂ e₂ ?_) dr
        refine wpU_pure (M := model prog w) ?_
        show wpU _ _ (pure _) _ _ s₂
        refine wpU_pure (M := model prog w) ?_
        exact ⟨ρ₂, H₂, _, .ret (.str x), st₁.trans st₂, S₂, ⟨u₂, rfl, r₂⟩, hq⟩
    · obtain ⟨a, Y, msg, H', rfl, ⟨ρ', L, h₁', t, tk, fl, ld, ht, hte, tL, Fx, land⟩, rfl, hz, hq⟩ := h₁
      have fl : Fly L a (.type Y) (.ref t) (env :: F.fr) h₁' s₁.heap := by rw [← hfr]; exact fl
      refine wpU_standAt (up (wpAny_bind (fly_note hfr' hf ld fl fun h₂ f₂ => wpAny_theTreesLotGoes ?_)))
      refine flight_back hf ld f₂ fun h₃ f₃ => ?_
      refine held_land hf ld f₃ fun h₄ f₄ => ?_
      have hal : a ≠ env.locals := fun q => by
        have := loc_own fi env
        rw [← q] at this
        rw [addE_in this] at Fx
        obtain ⟨mv, ⟨o, es, ep, ho, _⟩, _⟩ := S.ns
        rw [← q] at ho
        rw [ho] at Fx; cases Fx
      have hsn : ∀ h', Fly L a (.type Y) (.ref t) (env :: F.fr) h₁' h' → Step ρ s ρ' { s₁ with heap := h' } ∧ Sim w KF fi env m F ρ' H' h' s₁.gens := fun h' f' => by
        obtain ⟨st', T'⟩ := land h' _ f'
        exact ⟨st', S.ofH st'.1 st'.2.1 T'⟩
      refine handle_as (s := { s₁ with heap := h₄ }) (ρ₀ := ρ) (s₀ := s) (R := fun f ρ₄ H₄ s₄ => (∃ t, f = .ret (.str (pre ++ msg) t)) ∧ H₄ = H') K (hsn h₄ f₄).2 hn hm hT eT bT dT nT ld f₄ ht hte tL hal hsn ?_ fun f ρ₄ H₄ s₄ s₅ hr st₅ tk₅ S₅ => ?_
      · exact suite_str FX hn dn hs eS bS dS nS (by have := hA.un; show A.units + 2 < cLine; omega) hz
      · obtain ⟨⟨t', rfl⟩, rfl⟩ := hr
        exact ⟨ρ₄, H₄, [], .ret (.str (pre ++ msg)), st₅, S₅, ⟨_, rfl, by unfold VR; exact ⟨_, rfl⟩⟩, hq⟩
end
end Mine
end
section
open PySem PySem.W PyProof.Rows PySem.W.X PySem.SeqAt
namespace Mine
section
variable {M : Model} {A : Around} {E : Value → Shared → Prop} {s : Shared} {K : Frag} {pos : Pos} {f : Value} {first : List Value} {Q : Value → Shared → Prop}
theorem callWith_ofU {P : Heap → Prop} {args : List (Bool × Sem Value)} {keywords : List (Option Str × Sem Value)} (hplain : (args.any (·.1) || keywords.any (·.1.isNone)) = false)
    (hk : ∀ h, P h → ∃ k, (k = Keeper.frame ∨ k = Keeper.machine ∨ k = Keeper.boundFrame) ∧ Looks M h (keeperOf f) k)
    (h : wpAny M A (evalArgs f true args keywords) (fun a s₁ => P s₁.heap ∧ wpU M A (call f (first ++ a.pos) a.kw) Q E s₁) E s) : wpU M A (callWith pos f first args keywords) Q E s := by
  unfold callWith
  refine wpU_bind (wpU_holding (up (wpAny_mono h (fun a s₁ h₁ => wpU_bind (wpU_standAt ?_)) fun _ _ x => x)))
  obtain ⟨k, hk', L⟩ := hk _ h₁.1
  simp only [hplain]
  refine wpU_bind (up (L.here ?_))
  have tail : ∀ {t : Sem Value}, wpU M A t Q E s₁ → wpU M A (t >>= fun r => holding [r] point >>= fun _ => pure r) Q E s₁ :=
    fun ht => wpU_bind (wpU_mono ht (fun r s₂ hr => wpU_bind (wpU_holding (up (wpAny_point (wpU_pure hr))))) fun _ _ x => x)
  have marked (mk : Value) : wpU M A (callMarked mk f (first ++ a.pos) a.kw) Q E s₁ := by unfold callMarked; exact wpU_keep h₁.2
  rcases hk' with rfl | rfl | rfl <;> dsimp only <;> first | exact tail h₁.2 | (split <;> first | exact tail h₁.2 | exact tail (marked _))
end
section
variable {prog : Program} {w : World} {KF : Frag} {fi : FI} {d : Nat} {E : EP} {m : Names} {H : List O}
/-- a function called whose body may ask generators -/
theorem weu_call {func : Expr} {args : List Expr} {pos : Pos} {a : Nat} {Q : V → List O → Prop} (hk : keepIn KF (.ref a) = true) (h : WE prog w KF fi d E m H func fun f H₁ => f = .st a ∧ WEs prog w KF fi d E m H₁ args fun vs H₂ => CallU prog w KF d (Em E m) H₂ (.st a) vs Q)
    (hp : Plain args := by intro _; rfl) (he : ∀ env, eval (.Call func args [] pos) env = (do callWith pos (← eval func env) [] (backTo pos (starEach args env)) (backToKw pos (keywordEach [] env))) := by intro _; rfl) : WEU prog w KF fi d E m H (.Call func args [] pos) Q :=
  fun A env F ρ s hA S => by
    rw [he env]
    refine wpU_bind (up (wpAny_mono (h A env F ρ s hA S) (fun u s₁ hx => ?_) fun _ _ x => x))
    obtain ⟨ρ₁, H₁, f, st₁, S₁, ru, rfl, h₁⟩ := hx
    rw [hp env]
    unfold VR at ru; subst ru
    refine callWith_ofU (by rw [plain_any]; rfl) (keeps_K (K := KF) hk) (wpAny_mono (args_run h₁ hA S₁) (fun x s₂ hx => ?_) fun _ _ x => x.step st₁)
    obtain ⟨hkw, ρ₂, H₂, vs, st₂, S₂, rv, h₂⟩ := hx
    refine ⟨S₂.b.k, ?_⟩
    rw [hkw]
    refine wpU_mono (h₂ A _ ρ₂ s₂ (.ref a) _ (show Room A d (addE F s₂.heap env (ownA fi env)).fr from hA) S₂.toH (by unfold VR; rfl) rv) (fun v s' ⟨ρ', H', b, st, T, rv, hq⟩ => ⟨ρ', H', b, (st₁.trans st₂).trans st, S₂.ofH st.1 st.2.1 T, rv, hq⟩) fun e s' ⟨ρ', H', x, st, T, rv, hq⟩ => rv.elim
end
section
variable {prog : Program} {w : World} {KF : Frag} {d : Nat} {E : HEP} {H : List O} {a : Nat} {o : Obj} {fd : FuncData} {body : List Stmt} {sc : Scope} {ps : List Str} {xs : List V}
/-- a function called, its frame known -/
theorem wu_fnF {Q : V → List O → Prop} (K : FnOk KF a o fd body sc ps) (hgen : sc.isGenerator = false) (hlen : xs.length = ps.length)
    (h : WBF prog w KF ⟨sc, true, fd.code⟩ d (initN sc ps xs) H body (KFn Q)) : CallU prog w KF (d + 1) E H (.st a) xs Q :=
  fun A F ρ s u us hA S ru r => by
    have hsc := K.hsc
    subst hsc
    unfold VR at ru
    subst ru
    obtain ⟨ho, hcd⟩ := fn_code K.toFnB S.b
    have hul : us.length = ps.length := r.len.trans hlen
    refine wpU_runValue (codeU_call (E := fun _ _ => False) hA.depth ho K.hd K.hco hgen K.hb hcd ?_)
    rw [K.hbd us hul, K.hcl]
    refine wpAny_pure (wpAny_newFunctionEnv_cells K.hk (fun x hx => ?_) fun env he s₁ X => ?_)
    · have hx1 : x.1 ∈ ps := by rw [← zip_keys hul]; exact List.mem_map.mpr ⟨x, hx, rfl⟩
      rcases K.hkd x.1 hx1 with q | q
      · exact .inl q
      · obtain ⟨c, hc⟩ := cells_has (n := s.heap.objs.size + 1) (mem_of_lookup q)
        exact .inr ⟨q, by rw [nodup_lookup (cells_nodup K.hnd) hc]; rfl⟩
    · subst he
      obtain ⟨st₁, S₁⟩ := enter_sim K.toFnB hlen S r X
      refine ⟨S₁.b.lim, codeU_func ?_⟩
      refine wpU_mono (h _ _ F ρ s₁ rfl (hA.deeper rfl) S₁) (fun f s₂ hq => ?_) (fun _ _ x => x.elim)
      obtain ⟨ρ₂, H₂, m₂, fl, st₂, S₂, rf, h₂⟩ := hq
      cases fl with
      | next => cases rf; exact ⟨ρ₂, H₂, .none, st₁.trans st₂, S₂.hs, by unfold VR; rfl, h₂⟩
      | ret v => obtain ⟨u, rfl, r⟩ := rf; exact ⟨ρ₂, H₂, v, st₁.trans st₂, S₂.hs, r, h₂⟩
      | brk => exact h₂.elim
      | cont => exact h₂.elim
end
end Mine
end
section
open PySem PySem.W PyProof.Rows PySem.W.X PySem.SeqAt
namespace Mine
local macro_rules | `(tactic| walk_at "nm") => `(tactic| fail)
local macro_rules | `(tactic| walk_at "op") => `(tactic| first
  | with_reducible refine add_ii ?_
  | with_reducible refine mod_ii (by decide) ?_
  | ((with_reducible refine (?_ : W2 _ _ _ _ _ _ _ (binaryOp Operator.FloorDiv) _ _ _)); refine div_ii (by decide) (PyProof.noPylong_of_log2 (by decide +kernel)) ?_)
  | with_reducible refine eq_ii ?_
  | with_reducible refine lt_ii ?_
  | with_reducible refine ge_ii ?_
  | with_reducible refine tr_bool ?_
  | with_reducible refine ne_ss ?_
  | with_reducible refine range_1 ?_
  | with_reducible refine range_2 ?_)
local macro_rules | `(tactic| walk_at "we") => `(tactic| first
  | with_reducible refine we_int ?_
  | with_reducible refine we_str ?_
  | ((with_reducible refine (?_ : WE _ _ _ _ _ _ _ _ (Expr.Name _ _) _)); first | refine we_loc (by rfl) (by rfl) ?_ | refine we_cell (by rfl) (by rfl) ?_ | walk_at "nm")
  | with_reducible refine wd_bin ?_
  | ((with_reducible refine (?_ : WE _ _ _ _ _ _ _ _ (Expr.Compare _ _ _ _) _)); refine wd_cmp ?_)
  | ((with_reducible refine (?_ : WE _ _ _ _ _ _ _ _ (Expr.List _ _) _)); refine wd_list ?_)
  | ((with_reducible refine (?_ : WE _ _ _ _ _ _ _ _ (Expr.Subscript _ _ _) _)); first | with_reducible refine wd_slice ?_ | refine wd_sub ?_)
  | ((with_reducible refine (?_ : WE _ _ _ _ _ _ _ _ (Expr.Call (Expr.Attribute _ _ _) _ _ _) _)); refine wd_meth (pl := fun _ => _) ?_)
  | ((with_reducible refine (?_ : WE _ _ _ _ _ _ _ _ (Expr.Call _ _ _ _) _)); refine wd_call ?_))
local macro_rules | `(tactic| walk_at "ws") => `(tactic| first
  | with_reducible refine wd_seq ?_
  | with_reducible refine wb_nil ?_
  | with_reducible refine wds_if ?_
  | with_reducible refine wd_ret ?_
  | ((with_reducible refine (?_ : WS _ _ _ _ _ _ _ _ (Stmt.Expr _ _) _)); refine wd_expr ?_)
  | ((with_reducible refine (?_ : WA _ _ _ _ _ _ _ _ (Expr.Name _ _) _ _)); first | refine wa_name (.inl (by rfl)) ?_ | refine wa_name (.inr ⟨by rfl, by rfl⟩) ?_)
  | with_reducible refine wda_sub ?_
  | with_reducible refine wda_attr ?_
  | ((with_reducible refine (?_ : WS _ _ _ _ _ _ _ _ (Stmt.Assign [_] _ _) _)); refine wd_assign ?_))
local macro_rules | `(tactic| walk_at "wt") => `(tactic| first
  | ((with_reducible refine (?_ : WT _ _ _ _ _ _ _ _ (Expr.Compare _ _ _ _) _)); refine wdt_cmp ?_))
local macro_rules | `(tactic| walk_at "w") => `(tactic| first
  | walk_at "we"
  | walk_at "ws"
  | walk_at "wt"
  | walk_at "op"
  | with_reducible refine wds_cons ?_
  | with_reducible refine wes_nil ?_
  | with_reducible refine weo_none ?_
  | with_reducible refine weo_some ?_
  | ((with_reducible refine (?_ : Callee _ _ ∧ _)); refine ⟨by first | exact trivial | (show keepIn _ _ = true; kernel_rfl), ?_⟩))
section
/-- the top's objects but the table that grows -/
noncomputable def KK (P : Params) : Frag := (K P).filter fun x => x.1 != 248
end
section
set_option pp.maxSteps 2500
theorem cls_differ (w : World) : ClsOk (KK w.params) 313 312 where
  cl := ⟨"Differ", "Differ", [.type "object"], [], [], none, none, none, none, some (.str "Differ" 602), some (.str "Differ" 610), some (.bool true), by kernel_rfl⟩
  ns := by kernel_rfl
  ga := by kernel_rfl
  gh := by kernel_rfl
  sa := by kernel_rfl
noncomputable def dFs : List (Str × V) := [("charjunk", .none), ("linejunk", .none)]
theorem fn_init (w : World) : FnB (KK w.params) 268 (o268 w.params) (fdOf (o268 w.params)) (fBody (stIn 7 1)) (fScope (stIn 7 1)) ["self", "linejunk", "charjunk"] where
  hsc := by rfl
  hK := by kernel_rfl
  hd := by rfl
  hb := by rfl
  hg := by rfl
  hbl := by rfl
  hcl := by rfl
  hcd := ⟨267, o267 w.params, _, _, by rfl, by kernel_rfl, by rfl, by rfl⟩
  hps := by decide
  hnd := by decide
  hkd := by decide
  hco := by rfl
  hk := by rfl
  hnf := by decide
theorem tl_linejunk : typeLookup (.type "object") "linejunk" = pure none := by rw [typeLookup_type, builtinLookup_eq_fast]; kernel_rfl
theorem tl_charjunk : typeLookup (.type "object") "charjunk" = pure none := by rw [typeLookup_type, builtinLookup_eq_fast]; kernel_rfl
theorem tl_dump : typeLookup (.type "object") "_dump" = pure none := by rw [typeLookup_type, builtinLookup_eq_fast]; kernel_rfl
theorem defs_init (w : World) (s : Shared) (us : List Value) (B : Bs w (KK w.params) s.heap) (hu : us.length = 1) : BindsTo s (fdOf (o268 w.params)) ⟨us, []⟩ ((["self", "linejunk", "charjunk"] : List Str).zip (us ++ [.none, .none])) := by
  match us, hu with
  | [u], _ => exact BindsTo.of_defaults (T := 261) (o := o261 w.params) (n := 0) (items := #[.none, .none]) (by rfl) (B.k _ _ (by kernel_rfl)) (by rfl) (by rfl) (by rfl)
theorem fn_dump (w : World) : FnOk (KK w.params) 282 (o282 w.params) (fdOf (o282 w.params)) (fBody (stIn 7 3)) (fScope (stIn 7 3)) ["self", "tag", "x", "lo", "hi"] where
  hsc := by rfl
  hK := by kernel_rfl
  hd := by rfl
  hb := by rfl
  hg := by rfl
  hbl := by rfl
  hcl := by rfl
  hcd := ⟨281, o281 w.params, _, _, by rfl, by kernel_rfl, by rfl, by rfl⟩
  hbd := fun us hu => by obtain ⟨a0, a1, a2, a3, a4, rfl⟩ := args5 hu; rfl
  hps := by decide
  hnd := by decide
  hkd := by decide
  hco := by rfl
  hk := by rfl
  hnf := by decide
theorem fn_asked (w : World) : FnOk (KK w.params) 324 (o324 w.params) (fdOf (o324 w.params)) (fBody (stAt 9)) (fScope (stAt 9)) ["dump"] where
  hsc := by rfl
  hK := by kernel_rfl
  hd := by rfl
  hb := by rfl
  hg := by rfl
  hbl := by rfl
  hcl := by rfl
  hcd := ⟨323, o323 w.params, _, _, by rfl, by kernel_rfl, by rfl, by rfl⟩
  hbd := fun us hu => by obtain ⟨a0, rfl⟩ := args1 hu; rfl
  hps := by decide
  hnd := by decide
  hkd := by decide
  hco := by rfl
  hk := by rfl
  hnf := by decide
theorem fn_due (w : World) : FnOk (KK w.params) 331 (o331 w.params) (fdOf (o331 w.params)) (fBody (stAt 10)) (fScope (stAt 10)) ["state", "kept"] where
  hsc := by rfl
  hK := by kernel_rfl
  hd := by rfl
  hb := by rfl
  hg := by rfl
  hbl := by rfl
  hcl := by rfl
  hcd := ⟨330, o330 w.params, _, _, by rfl, by kernel_rfl, by rfl, by rfl⟩
  hbd := fun us hu => by obtain ⟨a0, a1, rfl⟩ := args2 hu; rfl
  hps := by decide
  hnd := by decide
  hkd := by decide
  hco := by rfl
  hk := by rfl
  hnf := by decide
theorem fn_law (w : World) : FnOk (KK w.params) 338 (o338 w.params) (fdOf (o338 w.params)) (fBody (stAt 11)) (fScope (stAt 11)) ["script"] where
  hsc := by rfl
  hK := by kernel_rfl
  hd := by rfl
  hb := by rfl
  hg := by rfl
  hbl := by rfl
  hcl := by rfl
  hcd := ⟨337, o337 w.params, _, _, by rfl, by kernel_rfl, by rfl, by rfl⟩
  hbd := fun us hu => by obtain ⟨a0, rfl⟩ := args1 hu; rfl
  hps := by decide
  hnd := by decide
  hkd := by decide
  hco := by rfl
  hk := by rfl
  hnf := by decide
theorem meth_dump {w : World} {H : List O} {i : Nat} (hl : H[i]? = some (.inst 313 dFs)) : MethIs pP w (KK w.params) H (.ref i) "_dump" (.st 282) :=
  meth_inst (of := o282 w.params) (cls_differ w) (by kernel_rfl) (by kernel_rfl) (by rfl) tl_dump hl (by rfl)
theorem c_dump (w : World) : Callee (KK w.params) (.st 282) := by show keepIn _ _ = true; kernel_rfl
theorem c_differ (w : World) : Callee (KK w.params) (.st 313) := by show keepIn _ _ = true; kernel_rfl
theorem c_asked (w : World) : Callee (KK w.params) (.st 324) := by show keepIn _ _ = true; kernel_rfl
theorem c_due (w : World) : Callee (KK w.params) (.st 331) := by show keepIn _ _ = true; kernel_rfl
theorem g_range (w : World) : nsIn (KK w.params) mainGlobals "range" = some none := by kernel_rfl
theorem b_range : bootBuiltins "range" = some (.type "range") := by kernel_rfl
theorem g_str (w : World) : nsIn (KK w.params) mainGlobals "str" = some none := by kernel_rfl
theorem b_str : bootBuiltins "str" = some (.type "str") := by kernel_rfl
theorem g_index (w : World) : nsIn (KK w.params) mainGlobals "IndexError" = some none := by kernel_rfl
theorem b_index : bootBuiltins "IndexError" = some (.type "IndexError") := by kernel_rfl
theorem g_list (w : World) : nsIn (KK w.params) mainGlobals "list" = some none := by kernel_rfl
theorem b_list : bootBuiltins "list" = some (.type "list") := by kernel_rfl
theorem g_len (w : World) : nsIn (KK w.params) mainGlobals "len" = some none := by kernel_rfl
theorem b_len : bootBuiltins "len" = some (.builtin "len") := by kernel_rfl
theorem g_differ (w : World) : nsIn (KK w.params) mainGlobals "Differ" = some (some (.ref 313)) := by kernel_rfl
theorem g_asked (w : World) : nsIn (KK w.params) mainGlobals "_law_asked" = some (some (.ref 324)) := by kernel_rfl
theorem g_due (w : World) : nsIn (KK w.params) mainGlobals "_law_due" = some (some (.ref 331)) := by kernel_rfl


local macro_rules | `(tactic| walk_at "nm") => `(tactic| first | refine we_biT (by rfl) (g_range _) b_range ?_ | refine we_biF (by rfl) (g_len _) b_len ?_)
theorem init_ok {w : World} {E : HEP} {H : List O} {d i : Nat} {Q : V → List O → Prop} (hl : H[i]? = some (.inst 313 [])) (h : Q .none (H.set i (.inst 313 dFs))) : CallW pP w (KK w.params) (d + 1) E H (.st 268) [.ref i] Q := by
  refine call_fnD (ds := [.none, .none]) (dv := [.none, .none]) (fn_init w) (by rfl) (by rfl) (fun ρ h => .cons (by unfold VR; rfl) (.cons (by unfold VR; rfl) .nil)) (fun s us B hu => defs_init w s us B hu) ?_
  have e : initN (fScope (stIn 7 1)) ["self", "linejunk", "charjunk"] ([.ref i] ++ [.none, .none]) = [nv "self" (.ref i), nv "linejunk" .none, nv "charjunk" .none] := by rfl
  rw [e]
  refine wd_seq ?_
  repeat (walk_at "w")
  refine set_inst (cls_differ w) (by kernel_rfl) tl_linejunk hl (by decide) ?_
  repeat (walk_at "w")
  have hi : i < H.length := (List.getElem?_eq_some_iff.mp hl).1
  refine set_inst (cls_differ w) (by kernel_rfl) tl_charjunk (List.getElem?_set_self hi) (by decide) ?_
  repeat (walk_at "w")
  rw [List.set_set]
  exact h
theorem differ_ok {w : World} {E : HEP} {H : List O} {d : Nat} {Q : V → List O → Prop} (h : Q (.ref H.length) (H ++ [.inst 313 dFs])) : CallW pP w (KK w.params) (d + 2) E H (.st 313) [] Q := by
  refine new_inst (oI := o268 w.params) (cls_differ w) (by kernel_rfl : nsIn (KK w.params) 312 "__init__" = some (some (.ref 268))) (by kernel_rfl) (by rfl) ?_
  refine init_ok (List.getElem?_concat_length ..) ⟨rfl, ?_⟩
  rw [List.set_append_right _ _ (Nat.le_refl _), Nat.sub_self]
  exact h
end
section
set_option pp.maxSteps 2500


local macro_rules | `(tactic| walk_at "nm") => `(tactic| first | refine we_biT (by rfl) (g_range _) b_range ?_ | refine we_biF (by rfl) (g_len _) b_len ?_)
theorem AskW.mono {prog : Program} {w : World} {KF : Frag} {d : Nat} {H : List O} {i : Nat} {Q Q' : Ans → List O → Prop} (h : AskW prog w KF d H i Q) (hq : ∀ a H', Q a H' → Q' a H') : AskW prog w KF d H i Q' := fun A F ρ s e hA S he => by
  obtain ⟨g, hw⟩ := h A F ρ s e hA S he
  refine ⟨g, wpU_mono hw (fun r s' ⟨ρ', H', st, T, hg, hx⟩ => ⟨ρ', H', st, T, hg, hx.imp (fun x => ⟨x.1, hq _ _ x.2⟩) fun ⟨x, t, e, q⟩ => ⟨x, t, e, hq _ _ q⟩⟩) fun x s' ⟨a, X, msg, H', e, f, q⟩ => ⟨a, X, msg, H', e, f, hq _ _ q⟩⟩
noncomputable def anS : Ans → Str
  | .txt x => x
  | .nothing => ""
  | .err _ msg => "IndexError: " ++ msg
/-- _law_asked -/
theorem asked_ok {w : World} {E : HEP} {H : List O} {d i : Nat} {Q : V → List O → Prop} (h : AskW pP w (KK w.params) d H i fun a H' => (match a with | .err Y msg => Y = "IndexError" ∧ msg.length ≤ 100 | _ => True) ∧ Q (.str (anS a)) H') : CallU pP w (KK w.params) (d + 2) E H (.st 324) [.ref i] Q := by
  refine wu_fnF (fn_asked w) (by rfl) (by rfl) ?_
  have e : initN (fScope (stAt 9)) ["dump"] [.ref i] = [nv "dump" (.ref i), nn "row", nn "error"] := by rfl
  rw [e]
  refine wf_seq ?_
  refine try_ask (X := "IndexError") (T := "IndexError") (nX := "IndexError") cls_index ?_ (by rfl) (by rfl) (by rfl) (by rfl) (by rfl) (by rfl) (by rfl) (by rfl) (by rfl) (g_index _) b_index (by rfl) (by decide) (by rfl) (g_str _) b_str (by rfl) (by decide) ?_
  · exact PySem.F.excStr_IndexError
  · refine h.mono fun a H' hq => ?_
    cases a with
    | txt x => exact hq.2
    | nothing =>
      refine wf_of (wbU ?_)
      repeat (walk_at "w")
      exact hq.2
    | err Y msg =>
      obtain ⟨⟨rfl, hm⟩, hq⟩ := hq
      exact ⟨rfl, Nat.le_trans (Nat.add_le_add_left hm _) (by decide), hq⟩
end
section
set_option pp.maxSteps 2500


local macro_rules | `(tactic| walk_at "nm") => `(tactic| first | refine we_biT (by rfl) (g_range _) b_range ?_ | refine we_biF (by rfl) (g_len _) b_len ?_)
noncomputable def lstR (R : List Str) : O := .list (R.map V.str)
noncomputable def lstS (tag : Str) (place high : Nat) : O := .list [.str tag, .int place, .int high]
noncomputable def dueP (R : List Str) (tag : Str) (place high : Nat) : Str × Nat := if high ≤ place then ("", place) else match R[place]? with | none => ("IndexError: list index out of range", high) | some x => (tag ++ (⟨#[32]⟩ : Str) ++ x, place + 1)
theorem j0 {t : Nat} : (0 : Int) ≤ (t : Int) := Int.natCast_nonneg t
theorem j62 {t : Nat} (h : t ≤ 1000) : (t : Int) < 2 ^ 62 := by omega
theorem set_same {H : List O} {i : Nat} {x : O} (h : H[i]? = some x) : H = H.set i x := by
  refine List.ext_getElem? fun j => ?_
  rw [List.getElem?_set]
  split
  · rename_i q; subst q; rw [if_pos (List.getElem?_eq_some_iff.mp h).1, h]
  · rfl
section
variable {prog : Program} {w : World} {KF : Frag} {d : Nat} {E : HEP} {H : List O} {Q : V → List O → Prop} {l place high : Nat} {tag : Str}
theorem getS0 (hl : H[l]? = some (lstS tag place high)) (h : Q (.str tag) H) : W2 prog w KF d E VR H subOp (.ref l) (.int 0) Q := get_li (.inl hl) (by decide) (by decide) rfl h
theorem getS1 (hl : H[l]? = some (lstS tag place high)) (h : Q (.int place) H) : W2 prog w KF d E VR H subOp (.ref l) (.int 1) Q := get_li (.inl hl) (by decide) (by decide) rfl h
theorem getS2 (hl : H[l]? = some (lstS tag place high)) (h : Q (.int high) H) : W2 prog w KF d E VR H subOp (.ref l) (.int 2) Q := get_li (.inl hl) (by decide) (by decide) rfl h
theorem setS1 {p : Nat} {Q : Unit → List O → Prop} (hl : H[l]? = some (lstS tag place high)) (h : Q () (H.set l (lstS tag p high))) : W3 prog w KF d E UnR H setItem (.ref l) (.int 1) (.int p) Q := set_li hl (by decide) (by decide) (show (1 : Int) < 3 by decide) h
end
theorem due_ok {w : World} {E : HEP} {H : List O} {d si kr place high : Nat} {tag : Str} {R : List Str} {Q : V → List O → Prop} (hs : H[si]? = some (lstS tag place high)) (hk : H[kr]? = some (lstR R)) (hne : kr ≠ si)
    (hR : R.length ≤ 1000) (hr : ∀ x ∈ R, x.length ≤ 1000) (ht : tag.length ≤ 1000) (hp : place ≤ 1000)
    (h : Q (.str (dueP R tag place high).1) (H.set si (lstS tag (dueP R tag place high).2 high))) : CallW pP w (KK w.params) (d + 1) E H (.st 331) [.ref si, .ref kr] Q := by
  refine call_fn (fn_due w) (by rfl) (by rfl) ?_
  have e : initN (fScope (stAt 10)) ["state", "kept"] [.ref si, .ref kr] = [nv "state" (.ref si), nv "kept" (.ref kr), nn "place"] := by rfl
  rw [e]
  have hlt := (List.getElem?_eq_some_iff.mp hs).1
  refine wd_seq ?_
  repeat (walk_at "w")
  refine getS1 hs ?_
  repeat (walk_at "w")
  refine getS2 hs ?_
  repeat (walk_at "w")
  by_cases c : high ≤ place
  · rw [show dueP R tag place high = (Str.ofString "", place) from if_pos c] at h
    refine ksi_p (decide_eq_true (Int.ofNat_le.mpr c)) ?_
    repeat (walk_at "w")
    rw [← set_same hs] at h
    exact h
  · refine ksi_n (fun q => c (Int.ofNat_le.mp (of_decide_eq_true q))) ?_
    repeat (walk_at "w")
    refine len_l (.inl hk) (by rw [List.length_map]; exact Nat.le_trans hR (by decide)) ?_
    rw [List.length_map]
    repeat (walk_at "w")
    by_cases c2 : R.length ≤ place
    · rw [show dueP R tag place high = (Str.ofString "IndexError: list index out of range", high) by unfold dueP; rw [if_neg c, List.getElem?_eq_none c2]] at h
      refine ksi_p (decide_eq_true (Int.ofNat_le.mpr c2)) ?_
      repeat (walk_at "w")
      refine getS2 hs ?_
      repeat (walk_at "w")
      refine setS1 hs ?_
      repeat (walk_at "w")
      exact h
    · have hlt2 : place < R.length := Nat.lt_of_not_le c2
      have hx : R[place]? = some R[place] := List.getElem?_eq_getElem hlt2
      rw [show dueP R tag place high = (tag ++ (⟨#[32]⟩ : Str) ++ R[place], place + 1) by unfold dueP; rw [if_neg c, hx]] at h
      refine ksi_n (fun q => c2 (Int.ofNat_le.mp (of_decide_eq_true q))) ?_
      repeat (walk_at "w")
      rw [show (place : Int) + 1 = ((place + 1 : Nat) : Int) from rfl]
      refine setS1 hs ?_
      repeat (walk_at "w")
      refine getS0 (List.getElem?_set_self hlt) ?_
      repeat (walk_at "w")
      refine add_ss (Nat.le_trans (Nat.add_le_add_right ht 1) (by decide)) ?_
      repeat (walk_at "w")
      refine get_li (xs := R.map V.str) (x := .str R[place]) (.inl (by rw [List.getElem?_set_ne (Ne.symm hne)]; exact hk)) j0 (j62 hp) (by rw [Int.toNat_natCast, List.getElem?_map, hx]; rfl) ?_
      repeat (walk_at "w")
      refine add_ss (Nat.le_trans (Nat.add_le_add (by rw [strLen_append]; exact Nat.add_le_add_right ht 1) (hr _ (List.mem_of_getElem? hx))) (by decide)) ?_
      repeat (walk_at "w")
      exact h
end
section
set_option pp.maxSteps 2500


local macro_rules | `(tactic| walk_at "nm") => `(tactic| first | refine we_biT (by rfl) (g_range _) b_range ?_ | refine we_biF (by rfl) (g_len _) b_len ?_)
noncomputable abbrev dFi (w : World) : FI := ⟨fScope (stIn 7 3), true, (fdOf (o282 w.params)).code⟩
noncomputable abbrev dNm (tag : Str) (lo high : Nat) (iv : Option V) : Names := [nv "self" (.ref 1), nv "tag" (.str tag), nv "x" (.ref 2), nv "lo" (.int lo), nv "hi" (.int high), ("i", iv)]
/-- a dump's loop -/
noncomputable def DLoop (tgt : Expr) (lb : List Stmt) : Prop := ∃ ip ypos pos p1 p2 p3 p4 p5 p6 p7 p8 k, tgt = .Name "i" ip ∧
  lb = [.Expr (.Yield (some (.JoinedStr [.FormattedValue (.Name "tag" p1) 115 none p2, .Constant (.str " ") k p3, .FormattedValue (.Subscript (.Name "x" p4) (.Name "i" p5) p6) 115 none p7] p8)) ypos) pos]
theorem cat0 (x : Str) : Str.empty ++ x = x := by
  obtain ⟨c⟩ := x
  show Str.mk (#[] ++ c) = _
  rw [Array.empty_append]
theorem exc_index : ExcOk "IndexError" := ⟨by rw [isSubtype_type]; kernel_rfl, by decide⟩
section
variable {w : World} {H : List O} {d i j I place lo high n : Nat} {tag : Str} {R : List Str} {iv : Option V} {Q : Ans → List O → Prop} {ip ypos pos p1 p2 p3 p4 p5 p6 p7 p8 : Pos} {k : Nat}
theorem dump_turn (hx : H[2]? = some (lstR R)) (hj : 2 ≠ j) (hR : R.length ≤ 1000) (hr : ∀ x ∈ R, x.length ≤ 1000) (ht : tag.length ≤ 1000) (hp : place ≤ 1000)
    (q0 : n = 0 → Q .nothing (H.set i .done))
    (qt : ∀ k' x, n = k' + 1 → R[place]? = some x → Q (.txt (tag ++ (⟨#[32]⟩ : Str) ++ x)) ((H.set j (.rit I ((place : Int) + 1) k')).set i (.susp (dFi w) (.Name "i" ip) [.Expr (.Yield (some (.JoinedStr [.FormattedValue (.Name "tag" p1) 115 none p2, .Constant (.str " ") k p3, .FormattedValue (.Subscript (.Name "x" p4) (.Name "i" p5) p6) 115 none p7] p8)) ypos) pos] (dNm tag lo high (some (.int place))) I)))
    (qe : ∀ k', n = k' + 1 → R.length ≤ place → Q (.err "IndexError" (Str.ofString "list index out of range")) ((H.set j (.rit I ((place : Int) + 1) k')).set i .done)) :
    TurnA pP w (KK w.params) (dFi w) d "i" ip (.JoinedStr [.FormattedValue (.Name "tag" p1) 115 none p2, .Constant (.str " ") k p3, .FormattedValue (.Subscript (.Name "x" p4) (.Name "i" p5) p6) 115 none p7] p8) ypos pos (dNm tag lo high iv) H i j I (place : Int) n Q := by
  refine ⟨q0, fun k' hn => ?_⟩
  have hx' : (H.set j (.rit I ((place : Int) + 1) k'))[2]? = some (lstR R) := by rw [List.getElem?_set_ne (Ne.symm hj)]; exact hx
  have em : setL (dNm tag lo high iv) "i" (.int place) = dNm tag lo high (some (.int place)) := by rfl
  rw [em]
  have z1 : tag.length ≤ sizeLine := Nat.le_trans ht (by decide)
  have l1 : (Str.ofString " ").length = 1 := by rfl
  have z2 : (Str.empty ++ tag).length ≤ sizeLine := by rw [cat0]; exact z1
  have z3 : (Str.empty ++ tag ++ (Str.ofString " ")).length ≤ sizeLine := by
    rw [cat0, strLen_append, l1]
    exact Nat.le_trans (Nat.add_le_add_right ht 1) (by decide)
  by_cases c : place < R.length
  · have hxr : R[place]? = some R[place] := List.getElem?_eq_getElem c
    refine .inl ⟨tag ++ (⟨#[32]⟩ : Str) ++ R[place], ?_, qt k' _ hn hxr⟩
    have hri : R[place].length ≤ 1000 := hr _ (List.getElem_mem c)
    have z4 : (Str.empty ++ tag ++ (Str.ofString " ") ++ R[place]).length ≤ sizeLine := by
      rw [cat0, strLen_append, strLen_append, l1]
      exact Nat.le_trans (Nat.add_le_add (Nat.add_le_add_right ht 1) hri) (by decide)
    refine we_joined (wj_cons (we_fvals ?_))
    repeat (walk_at "w")
    refine ⟨_, rfl, z1, _, rfl, z2, wj_cons ?_⟩
    repeat (walk_at "w")
    refine ⟨_, rfl, z3, wj_cons (we_fvals ?_)⟩
    repeat (walk_at "w")
    refine get_li (xs := R.map V.str) (.inl hx') j0 (j62 hp) (x := .str R[place]) (by rw [Int.toNat_natCast, List.getElem?_map, hxr]; rfl) ?_
    refine ⟨_, rfl, Nat.le_trans hri (by decide), _, rfl, z4, wj_nil z4 ⟨?_, rfl⟩⟩
    rw [cat0]; rfl
  · refine .inr ⟨"IndexError", Str.ofString "list index out of range", exc_index, ?_, qe k' hn (Nat.le_of_not_lt c)⟩
    refine wx_joined (wjx_loc (by rfl) (by rfl) (by rfl) z1 z2 (wjx_str z3 (.inl (wx_fvals (wx_sub (xs := R.map V.str) (by rfl) (by rfl) (by rfl) (by rfl) (by rfl) (by rfl) hx' j0 ?_ (j62 hp) rfl)))))
    rw [List.length_map]
    exact Int.ofNat_le.mpr (Nat.le_of_not_lt c)
end
end
section
set_option pp.maxSteps 2500


local macro_rules | `(tactic| walk_at "nm") => `(tactic| first | refine we_biT (by rfl) (g_range _) b_range ?_ | refine we_biF (by rfl) (g_len _) b_len ?_)
noncomputable def fs {α : Type} (f : Nat → α) (a : Nat) (x : α) : Nat → α := fun y => if y = a then x else f y
theorem fs_eq {α : Type} {f : Nat → α} {a : Nat} {x : α} : fs f a x a = x := if_pos rfl
theorem fs_ne {α : Type} {f : Nat → α} {a y : Nat} {x : α} (h : y ≠ a) : fs f a x y = f y := if_neg h
/-- where the objects that play the parts r stand -/
structure HAt (p : Nat → Nat) (ob : Nat → Option O) (H : List O) : Prop where
  inj : ∀ r r' o o', ob r = some o → ob r' = some o' → p r = p r' → r = r'
  el : ∀ r o, ob r = some o → H[p r]? = some o
section
variable {p : Nat → Nat} {ob : Nat → Option O} {H X : List O} {r : Nat} {o o' : O}
theorem HAt.app (h : HAt p ob H) : HAt p ob (H ++ X) := ⟨h.inj, fun r o e => by rw [List.getElem?_append_left (List.getElem?_eq_some_iff.mp (h.el r o e)).1]; exact h.el r o e⟩
theorem HAt.set (h : HAt p ob H) (hr : ob r = some o) : HAt p (fs ob r (some o')) (H.set (p r) o') := by
  have lift : ∀ x y, fs ob r (some o') x = some y → ∃ z, ob x = some z := fun x y e => by
    by_cases q : x = r
    · exact ⟨o, q ▸ hr⟩
    · rw [fs_ne q] at e; exact ⟨y, e⟩
  refine ⟨fun a b x y ha hb e => ?_, fun a x e => ?_⟩
  · obtain ⟨x', hx⟩ := lift a x ha
    obtain ⟨y', hy⟩ := lift b y hb
    exact h.inj a b x' y' hx hy e
  · by_cases q : a = r
    · subst q
      rw [fs_eq] at e
      rw [List.getElem?_set_self (List.getElem?_eq_some_iff.mp (h.el a o hr)).1]; exact e
    · rw [fs_ne q] at e
      rw [List.getElem?_set_ne (fun z => q (h.inj r a o x hr e z).symm)]
      exact h.el a x e
theorem HAt.new (h : HAt p ob H) : HAt (fs p r H.length) (fs ob r (some o)) (H ++ [o]) := by
  have lt : ∀ a x, ob a = some x → p a < H.length := fun a x e => (List.getElem?_eq_some_iff.mp (h.el a x e)).1
  refine ⟨fun a b x y ha hb e => ?_, fun a x e => ?_⟩
  · by_cases qa : a = r
    · by_cases qb : b = r
      · rw [qa, qb]
      · rw [qa, fs_eq, fs_ne qb] at e
        rw [fs_ne qb] at hb
        exact absurd e.symm (Nat.ne_of_lt (lt b y hb))
    · rw [fs_ne qa] at ha e
      by_cases qb : b = r
      · rw [qb, fs_eq] at e
        exact absurd e (Nat.ne_of_lt (lt a x ha))
      · rw [fs_ne qb] at hb e
        exact h.inj a b x y ha hb e
  · by_cases qa : a = r
    · subst qa
      rw [fs_eq] at e ⊢
      rw [List.getElem?_concat_length]; exact e
    · rw [fs_ne qa] at e ⊢
      rw [List.getElem?_append_left (lt a x e)]
      exact h.el a x e
end
noncomputable abbrev rGen (k : Nat) : Nat := 6 + 3 * k
noncomputable abbrev rSt (k : Nat) : Nat := 7 + 3 * k
noncomputable abbrev rIt (k : Nat) : Nat := 8 + 3 * k
/-- what stands for the dump k -/
noncomputable def GS (w : World) (ob : Nat → Option O) (k : Nat) (tag : Str) (place high : Nat) : Prop :=
  ob (rGen k) = some (.fresh (dFi w) (fBody (stIn 7 3)) (dNm tag place high none)) ∨
  (∃ lo iv I tgt lb, DLoop tgt lb ∧ ob (rGen k) = some (.susp (dFi w) tgt lb (dNm tag lo high iv) I) ∧ ob (rIt k) = some (.rit I (place : Int) (high - place))) ∨
  (ob (rGen k) = some .done ∧ high ≤ place)
/-- what an asking leaves -/
noncomputable def AskP (w : World) (p : Nat → Nat) (ob : Nat → Option O) (R : List Str) (k : Nat) (tag : Str) (place high : Nat) (a : Ans) (H' : List O) : Prop :=
  (match a with | .err Y msg => Y = "IndexError" ∧ msg.length ≤ 100 | _ => True) ∧ anS a = (dueP R tag place high).1 ∧
    ∃ p' ob', HAt p' ob' H' ∧ (∀ r, r ≠ rGen k → r ≠ rIt k → ob' r = ob r ∧ p' r = p r) ∧ p' (rGen k) = p (rGen k) ∧ GS w ob' k tag (dueP R tag place high).2 high
section
variable {w : World} {p : Nat → Nat} {ob : Nat → Option O} {H : List O} {R : List Str} {d k place high n : Nat} {tag : Str}
theorem gi_ne {k : Nat} : rGen k ≠ rIt k := fun q => absurd (Nat.add_right_cancel q) (by decide)
theorem due_none (h : high ≤ place) : dueP R tag place high = (Str.ofString "", place) := if_pos h
theorem due_err (h : place < high) (hR : R.length ≤ place) : dueP R tag place high = (Str.ofString "IndexError: list index out of range", high) := by unfold dueP; rw [if_neg (Nat.not_le_of_lt h), List.getElem?_eq_none hR]
theorem due_txt {x : Str} (h : place < high) (hR : R[place]? = some x) : dueP R tag place high = (tag ++ (⟨#[32]⟩ : Str) ++ x, place + 1) := by unfold dueP; rw [if_neg (Nat.not_le_of_lt h), hR]
/-- a turn's three ends -/
theorem turn_ends {p₀ : Nat → Nat} {ob₀ : Nat → Option O} {H₀ : List O} {lo : Nat} {I : Nat} {tgt : Expr} {lb : List Stmt} {m' : Names} {og oi : O} (hD : DLoop tgt lb) (h : HAt p ob H) (hg : ob (rGen k) = some og) (hi : ob (rIt k) = some oi) (ho : ∀ r, r ≠ rGen k → r ≠ rIt k → ob r = ob₀ r ∧ p r = p₀ r) (hp : p (rGen k) = p₀ (rGen k)) :
    (high ≤ place → AskP w p₀ ob₀ R k tag place high .nothing (H.set (p (rGen k)) .done)) ∧
    (∀ x, place < high → R[place]? = some x → m' = dNm tag lo high (some (.int place)) → AskP w p₀ ob₀ R k tag place high (.txt (tag ++ (⟨#[32]⟩ : Str) ++ x)) ((H.set (p (rIt k)) (.rit I ((place : Int) + 1) (high - (place + 1)))).set (p (rGen k)) (.susp (dFi w) tgt lb m' I))) ∧
    (∀ o, place < high → R.length ≤ place → AskP w p₀ ob₀ R k tag place high (.err "IndexError" (Str.ofString "list index out of range")) ((H.set (p (rIt k)) o).set (p (rGen k)) .done)) := by
  refine ⟨fun c => ⟨trivial, by rw [due_none c]; rfl, p, _, h.set (o' := .done) hg, fun r h1 h2 => by rw [fs_ne h1]; exact ho r h1 h2, hp, by rw [due_none c]; exact .inr (.inr ⟨fs_eq, c⟩)⟩, fun x c hx hm => ?_, fun o c hx => ?_⟩
  · have h1 := h.set (o' := .rit I ((place : Int) + 1) (high - (place + 1))) hi
    have h2 := h1.set (r := rGen k) (o' := .susp (dFi w) tgt lb m' I) (by rw [fs_ne gi_ne]; exact hg)
    refine ⟨trivial, by rw [due_txt c hx]; rfl, p, _, h2, fun r h1 h2 => by rw [fs_ne h1, fs_ne h2]; exact ho r h1 h2, hp, ?_⟩
    rw [due_txt c hx]
    refine .inr (.inl ⟨lo, _, I, tgt, lb, hD, by rw [fs_eq, hm], ?_⟩)
    rw [fs_ne (Ne.symm gi_ne), fs_eq]; rfl
  · have h1 := h.set (o' := o) hi
    have h2 := h1.set (r := rGen k) (o' := .done) (by rw [fs_ne gi_ne]; exact hg)
    refine ⟨⟨rfl, by decide⟩, by rw [due_err c hx]; rfl, p, _, h2, fun r h1 h2 => by rw [fs_ne h1, fs_ne h2]; exact ho r h1 h2, hp, ?_⟩
    rw [due_err c hx]
    exact .inr (.inr ⟨fs_eq, Nat.le_refl _⟩)
theorem gl {h t : List O} {l : Nat} {x : O} (e : h[l]? = some x) : (h ++ t)[l]? = some x := by
  rw [List.getElem?_append_left (List.getElem?_eq_some_iff.mp e).1]; exact e
theorem ask_dump (h : HAt p ob H) (hrows : ob 2 = some (lstR R)) (hp2 : p 2 = 2) (g : GS w ob k tag place high) (hR : R.length ≤ 1000) (hr : ∀ x ∈ R, x.length ≤ 1000) (ht : tag.length ≤ 1000) (hp : place ≤ 1000) (hh : high ≤ 1000) :
    AskW pP w (KK w.params) d H (p (rGen k)) (AskP w p ob R k tag place high) := by
  rcases g with g | ⟨lo, iv, I, tgt, lb, hD, g, hj⟩ | ⟨g, hc⟩
  · have h1 := h.set (o' := .gone) g
    have hne : p (rGen k) ≠ 2 := fun q => absurd (h.inj _ _ _ _ g hrows (q.trans hp2.symm)) (by unfold rGen; omega)
    have hx0 : (H.set (p (rGen k)) .gone)[2]? = some (lstR R) := by rw [List.getElem?_set_ne hne]; have := h.el _ _ hrows; rw [hp2] at this; exact this
    have hlt : 2 < H.length := by have := h.el _ _ hrows; rw [hp2] at this; exact (List.getElem?_eq_some_iff.mp this).1
    refine ask_fresh (a := (place : Int)) (b := (high : Int)) (h.el _ _ g) (.inl (by rfl)) (by rfl) ⟨by omega, by omega⟩ ⟨by omega, by omega⟩ ?_ ?_ (fun _ _ => rfl) fun I => ?_
    · repeat (walk_at "w")
      exact ⟨rfl, rfl, rfl⟩
    · repeat (walk_at "w")
      exact ⟨rfl, rfl⟩
    · rw [Int.toNat_sub]
      have h2 := h1.new (r := rIt k) (o := .rit I (place : Int) (high - place))
      rw [List.length_set] at h2
      obtain ⟨e0, e1, e2⟩ := turn_ends (w := w) (p₀ := p) (ob₀ := ob) (R := R) (place := place) (high := high) (tag := tag) (lo := place) (I := I) (m' := dNm tag place high (some (.int place))) (H₀ := H) ⟨_, _, _, _, _, _, _, _, _, _, _, _, rfl, rfl⟩ h2 (by rw [fs_ne gi_ne]; exact fs_eq) fs_eq (fun r a b => ⟨by rw [fs_ne b, fs_ne a], fs_ne b⟩) (fs_ne gi_ne)
      rw [show fs p (rIt k) H.length (rGen k) = p (rGen k) from fs_ne gi_ne] at e0 e1 e2
      rw [show fs p (rIt k) H.length (rIt k) = H.length from fs_eq] at e1 e2
      refine dump_turn (gl hx0) (Nat.ne_of_lt hlt) hR hr ht hp (fun hn => e0 (by omega)) (fun k' x hn hx => ?_) (fun k' hn hx => e2 _ (by omega) hx)
      have e : k' = high - (place + 1) := by omega
      subst e
      exact e1 x (by omega) hx rfl
  · have h1 := h.set (o' := .gone) g
    obtain ⟨ip, ypos, pos, p1, p2, p3, p4, p5, p6, p7, p8, kk, rfl, rfl⟩ := id hD
    have hi1 : (fs ob (rGen k) (some O.gone)) (rIt k) = some (.rit I (place : Int) (high - place)) := by rw [fs_ne (Ne.symm gi_ne)]; exact hj
    obtain ⟨e0, e1, e2⟩ := turn_ends (w := w) (p₀ := p) (ob₀ := ob) (R := R) (place := place) (high := high) (tag := tag) (lo := lo) (I := I) (m' := dNm tag lo high (some (.int place))) (H₀ := H) hD h1 fs_eq hi1 (fun r a b => ⟨fs_ne a, rfl⟩) rfl
    refine ask_susp (h.el _ _ g) (h.el _ _ hj) (.inl (by rfl)) (by rfl) ?_
    have hne : p (rGen k) ≠ 2 := fun q => absurd (h.inj _ _ _ _ g hrows (q.trans hp2.symm)) (by unfold rGen; omega)
    have hne2 : 2 ≠ p (rIt k) := fun q => absurd (h.inj _ _ _ _ hrows hj (hp2.trans q)) (by unfold rIt; omega)
    refine dump_turn (by rw [List.getElem?_set_ne hne]; have := h.el _ _ hrows; rw [hp2] at this; exact this) hne2 hR hr ht hp (fun hn => e0 (by omega)) (fun k' x hn hx => ?_) (fun k' hn hx => e2 _ (by omega) hx)
    have e : k' = high - (place + 1) := by omega
    subst e
    exact e1 x (by omega) hx rfl
  · exact ask_done (h.el _ _ g) ⟨trivial, by rw [due_none hc]; rfl, p, ob, h, fun r _ _ => ⟨rfl, rfl⟩, rfl, by rw [due_none hc]; exact .inr (.inr ⟨g, hc⟩)⟩
end
end
section
set_option pp.maxSteps 2500


local macro_rules | `(tactic| walk_at "nm") => `(tactic| first | refine we_glob (by rfl) (g_differ _) ?_ | refine we_biT (by rfl) (g_list _) b_list ?_ | refine we_biF (by rfl) (g_len _) b_len ?_ | refine we_biT (by rfl) (g_range _) b_range ?_ | refine we_biT (by rfl) (g_str _) b_str ?_ | refine we_glob (by rfl) (g_due _) ?_)
local macro_rules | `(tactic| walk_at "w") => `(tactic| ((with_reducible refine (?_ : Callee _ _ ∧ _)); refine ⟨by first | exact c_differ _ | exact c_dump _ | exact c_due _, ?_⟩))
noncomputable def dig (t : Nat) : Str := Str.ofString (toString (t : Int))
theorem dig_len {t : Nat} (h : t < 64) : (dig t).length ≤ 2 := by
  have : ∀ t : Fin 64, (dig t).length ≤ 2 := by decide
  exact this ⟨t, h⟩
theorem tag_len {t : Nat} (h : t < 4) : (Txt.item (Str.ofString " -+?") (t : Int)).length ≤ 1000 := by
  match t, h with
  | 0, _ => decide
  | 1, _ => decide
  | 2, _ => decide
  | 3, _ => decide
theorem log_small {t : Nat} (h : t < 64) : (t : Int).natAbs.log2 < 1920 := Nat.lt_of_le_of_lt (Nat.log2_le_self _) (by omega)
theorem GS.congr {w : World} {ob ob' : Nat → Option O} {k : Nat} {tag : Str} {place high : Nat} (g : GS w ob k tag place high) (h1 : ob' (rGen k) = ob (rGen k)) (h2 : ob' (rIt k) = ob (rIt k)) : GS w ob' k tag place high := by
  unfold GS
  rw [h1, h2]
  exact g
noncomputable def refsG (N : Nat) (G : Nat → Nat) : O := .list ((List.range N).map fun k => .ref (G k))
structure L6 (w : World) (ns : List Int) (c kr : Nat) (R : List Str) (N : Nat) (D : Nat → Str × Nat × Nat) (G Sg : Nat → Nat) (p : Nat → Nat) (ob : Nat → Option O) (H : List O) : Prop where
  at' : HAt p ob H
  p0 : p 0 = 0
  p1 : p 1 = 1
  p2 : p 2 = 2
  p3 : p 3 = kr
  p4 : p 4 = 5
  p5 : p 5 = 7
  o0 : ob 0 = some (.arr (ns.map V.int))
  o1 : ob 1 = some (.inst 313 dFs)
  o2 : ob 2 = some (lstR R)
  o3 : ob 3 = some (lstR R)
  o4 : ob 4 = some (refsG N G)
  o5 : ob 5 = some (refsG N Sg)
  gd : ∀ k, k < N → p (rGen k) = G k ∧ p (rSt k) = Sg k ∧ ob (rSt k) = some (lstS (D k).1 (D k).2.1 (D k).2.2) ∧ GS w ob k (D k).1 (D k).2.1 (D k).2.2 ∧ (D k).1.length ≤ 1000 ∧ (D k).2.1 ≤ 100 ∧ (D k).2.2 ≤ 100
  lN : 1 ≤ N ∧ N ≤ c + 1
  lR : R.length ≤ 3 + c
  lr : ∀ x ∈ R, x.length ≤ 100
section
variable {w : World} {ns : List Int} {c kr : Nat} {R : List Str} {N : Nat} {D : Nat → Str × Nat × Nat} {G Sg : Nat → Nat} {p : Nat → Nat} {ob : Nat → Option O} {H : List O}
theorem L6.h0 (h : L6 w ns c kr R N D G Sg p ob H) : H[0]? = some (.arr (ns.map V.int)) := by have := h.at'.el _ _ h.o0; rwa [h.p0] at this
theorem L6.h1 (h : L6 w ns c kr R N D G Sg p ob H) : H[1]? = some (.inst 313 dFs) := by have := h.at'.el _ _ h.o1; rwa [h.p1] at this
theorem L6.h2 (h : L6 w ns c kr R N D G Sg p ob H) : H[2]? = some (lstR R) := by have := h.at'.el _ _ h.o2; rwa [h.p2] at this
theorem L6.h3 (h : L6 w ns c kr R N D G Sg p ob H) : H[kr]? = some (lstR R) := by have := h.at'.el _ _ h.o3; rwa [h.p3] at this
theorem L6.h4 (h : L6 w ns c kr R N D G Sg p ob H) : H[5]? = some (refsG N G) := by have := h.at'.el _ _ h.o4; rwa [h.p4] at this
theorem L6.h5 (h : L6 w ns c kr R N D G Sg p ob H) : H[7]? = some (refsG N Sg) := by have := h.at'.el _ _ h.o5; rwa [h.p5] at this
theorem L6.le (h : L6 w ns c kr R N D G Sg p ob H) {c' : Nat} (hc : c ≤ c') : L6 w ns c' kr R N D G Sg p ob H :=
  { h with lN := ⟨h.lN.1, Nat.le_trans h.lN.2 (Nat.succ_le_succ hc)⟩, lR := Nat.le_trans h.lR (Nat.add_le_add_left hc 3) }
theorem refs_at {N k : Nat} {G : Nat → Nat} (hk : k < N) : ((List.range N).map fun k => V.ref (G k))[k]? = some (.ref (G k)) := by
  rw [List.getElem?_map, List.getElem?_range hk]; rfl
/-- the rows turned, in both lists; the kept ones may stand elsewhere -/
theorem L6.rows (h : L6 w ns c kr R N D G Sg p ob H) {R' : List Str} {kr' : Nat} {p' : Nat → Nat} {ob' : Nat → Option O} {H' : List O} (ha : HAt p' ob' H') (h3 : p' 3 = kr') (hp : ∀ r, r ≠ 3 → p' r = p r) (ho2 : ob' 2 = some (lstR R')) (ho3 : ob' 3 = some (lstR R')) (ho : ∀ r, r ≠ 2 → r ≠ 3 → ob' r = ob r)
    (lR : R'.length ≤ 3 + (c + 1)) (lr : ∀ x ∈ R', x.length ≤ 100) : L6 w ns (c + 1) kr' R' N D G Sg p' ob' H' := by
  refine ⟨ha, (hp _ (by decide)).trans h.p0, (hp _ (by decide)).trans h.p1, (hp _ (by decide)).trans h.p2, h3, (hp _ (by decide)).trans h.p4, (hp _ (by decide)).trans h.p5, (ho _ (by decide) (by decide)).trans h.o0, (ho _ (by decide) (by decide)).trans h.o1, ho2, ho3, (ho _ (by decide) (by decide)).trans h.o4, (ho _ (by decide) (by decide)).trans h.o5, fun k hk => ?_, ⟨h.lN.1, Nat.le_succ_of_le h.lN.2⟩, lR, lr⟩
  obtain ⟨a, b, c', d, e⟩ := h.gd k hk
  have g2 : rGen k ≠ 2 ∧ rGen k ≠ 3 := by unfold rGen; omega
  have s2 : rSt k ≠ 2 ∧ rSt k ≠ 3 := by unfold rSt; omega
  have i2 : rIt k ≠ 2 ∧ rIt k ≠ 3 := by unfold rIt; omega
  exact ⟨(hp _ g2.2).trans a, (hp _ s2.2).trans b, (ho _ s2.1 s2.2).trans c', d.congr (ho _ g2.1 g2.2) (ho _ i2.1 i2.2), e⟩
/-- a dump asked, its state turned -/
theorem L6.asked (h : L6 w ns c kr R N D G Sg p ob H) {k : Nat} (hk : k < N) {p' : Nat → Nat} {ob' : Nat → Option O} {H' : List O} (ha : HAt p' ob' H') (ho : ∀ r, r ≠ rGen k → r ≠ rIt k → ob' r = ob r ∧ p' r = p r) (hg : p' (rGen k) = p (rGen k)) (g : GS w ob' k (D k).1 (dueP R (D k).1 (D k).2.1 (D k).2.2).2 (D k).2.2) :
    H'[Sg k]? = some (lstS (D k).1 (D k).2.1 (D k).2.2) ∧ H'[kr]? = some (lstR R) ∧ H'[7]? = some (refsG N Sg) ∧ kr ≠ Sg k ∧ ∃ D' p' ob', L6 w ns c kr R N D' G Sg p' ob' (H'.set (Sg k) (lstS (D k).1 (dueP R (D k).1 (D k).2.1 (D k).2.2).2 (D k).2.2)) := by
  obtain ⟨a, b, c', d, e1, e2, e3⟩ := h.gd k hk
  have n : ∀ r, r < 6 → r ≠ rGen k ∧ r ≠ rIt k ∧ r ≠ rSt k := fun r hr => by unfold rGen rIt rSt; omega
  have sn : rSt k ≠ rGen k ∧ rSt k ≠ rIt k := by unfold rGen rIt rSt; omega
  have os : ob' (rSt k) = some (lstS (D k).1 (D k).2.1 (D k).2.2) := (ho _ sn.1 sn.2).1.trans c'
  have ps : p' (rSt k) = Sg k := (ho _ sn.1 sn.2).2.trans b
  have q : ∀ r, r < 6 → ob' r = ob r ∧ p' r = p r := fun r hr => ho r (n r hr).1 (n r hr).2.1
  have o3 : ob' 3 = some (lstR R) := (q 3 (by decide)).1.trans h.o3
  have p3 : p' 3 = kr := (q 3 (by decide)).2.trans h.p3
  have hS := ha.el _ _ os
  rw [ps] at hS
  have h3 := ha.el _ _ o3
  rw [p3] at h3
  have h5 := ha.el _ _ ((q 5 (by decide)).1.trans h.o5)
  rw [(q 5 (by decide)).2, h.p5] at h5
  have hne : kr ≠ Sg k := fun z => (n 3 (by decide)).2.2 (ha.inj _ _ _ _ o3 os (p3.trans (z.trans ps.symm)))
  refine ⟨hS, h3, h5, hne, fun j => if j = k then ((D k).1, (dueP R (D k).1 (D k).2.1 (D k).2.2).2, (D k).2.2) else D j, p', fs ob' (rSt k) (some (lstS (D k).1 (dueP R (D k).1 (D k).2.1 (D k).2.2).2 (D k).2.2)), ?_⟩
  have hs := ha.set (o' := lstS (D k).1 (dueP R (D k).1 (D k).2.1 (D k).2.2).2 (D k).2.2) os
  rw [ps] at hs
  have oo : ∀ r, r < 6 → (fs ob' (rSt k) (some (lstS (D k).1 (dueP R (D k).1 (D k).2.1 (D k).2.2).2 (D k).2.2))) r = ob r := fun r hr => by rw [fs_ne (n r hr).2.2]; exact (q r hr).1
  have pp : ∀ r, r < 6 → p' r = p r := fun r hr => (q r hr).2
  refine ⟨hs, (pp _ (by decide)).trans h.p0, (pp _ (by decide)).trans h.p1, (pp _ (by decide)).trans h.p2, p3, (pp _ (by decide)).trans h.p4, (pp _ (by decide)).trans h.p5, (oo _ (by decide)).trans h.o0, (oo _ (by decide)).trans h.o1, (oo _ (by decide)).trans h.o2, (oo _ (by decide)).trans h.o3, (oo _ (by decide)).trans h.o4, (oo _ (by decide)).trans h.o5, fun j hj => ?_, h.lN, h.lR, h.lr⟩
  by_cases z : j = k
  · subst z
    simp only [if_true]
    refine ⟨hg.trans a, ps, fs_eq, g.congr (fs_ne (Ne.symm sn.1)) (fs_ne (Ne.symm sn.2)), e1, ?_, e3⟩
    unfold dueP
    by_cases c1 : (D j).2.2 ≤ (D j).2.1
    · rw [if_pos c1]; exact e2
    · rw [if_neg c1]
      cases R[(D j).2.1]? with
      | none => exact e3
      | some x => exact Nat.le_trans (Nat.lt_of_not_le c1) e3
  · simp only [if_neg z]
    obtain ⟨a, b, c', d, e⟩ := h.gd j hj
    have gn : rGen j ≠ rGen k ∧ rGen j ≠ rIt k ∧ rGen j ≠ rSt k := by unfold rGen rIt rSt; omega
    have tn : rSt j ≠ rGen k ∧ rSt j ≠ rIt k ∧ rSt j ≠ rSt k := by unfold rGen rIt rSt; omega
    have jn : rIt j ≠ rGen k ∧ rIt j ≠ rIt k ∧ rIt j ≠ rSt k := by unfold rGen rIt rSt; omega
    exact ⟨(ho _ gn.1 gn.2.1).2.trans a, (ho _ tn.1 tn.2.1).2.trans b, (fs_ne tn.2.2).trans ((ho _ tn.1 tn.2.1).1.trans c'), d.congr ((fs_ne gn.2.2).trans (ho _ gn.1 gn.2.1).1) ((fs_ne jn.2.2).trans (ho _ jn.1 jn.2.1).1), e⟩
theorem refs_succ {N a : Nat} {G : Nat → Nat} : refsG (N + 1) (fun k => if k = N then a else G k) = .list (((List.range N).map fun k => V.ref (G k)) ++ [V.ref a]) := by
  unfold refsG
  rw [List.range_succ, List.map_append, List.map_singleton]
  show O.list (_ ++ [V.ref (if N = N then a else G N)]) = _
  rw [if_pos rfl]
  refine congrArg (fun x => O.list (x ++ [V.ref a])) ?_
  exact List.map_congr_left fun k hk => congrArg V.ref (if_neg (Nat.ne_of_lt (List.mem_range.mp hk)))
/-- a further dump -/
theorem L6.newd (h : L6 w ns c kr R N D G Sg p ob H) {tag : Str} {lo high : Nat} (ht : tag.length ≤ 1000) (hlo : lo ≤ 100) (hh : high ≤ 100) : ∃ D' G' Sg' p' ob', L6 w ns (c + 1) kr R (N + 1) D' G' Sg' p' ob'
    ((((H ++ [O.fresh (dFi w) (fBody (stIn 7 3)) (dNm tag lo high none)]).set 5 (.list (((List.range N).map fun k => V.ref (G k)) ++ [V.ref H.length]))) ++ [lstS tag lo high]).set 7 (.list (((List.range N).map fun k => V.ref (Sg k)) ++ [V.ref (H.length + 1)]))) := by
  have n6 : ∀ r, r < 6 → ∀ k, r ≠ rGen k ∧ r ≠ rIt k ∧ r ≠ rSt k := fun r hr k => by unfold rGen rIt rSt; omega
  have a1 := h.at'.new (r := rGen N) (o := .fresh (dFi w) (fBody (stIn 7 3)) (dNm tag lo high none))
  have a2 := a1.set (r := 4) (o' := .list (((List.range N).map fun k => V.ref (G k)) ++ [V.ref H.length])) (by rw [fs_ne (n6 4 (by decide) N).1]; exact h.o4)
  rw [fs_ne (n6 4 (by decide) N).1, h.p4] at a2
  have a3 := a2.new (r := rSt N) (o := lstS tag lo high)
  rw [List.length_set, List.length_append, List.length_singleton] at a3
  have a4 := a3.set (r := 5) (o' := .list (((List.range N).map fun k => V.ref (Sg k)) ++ [V.ref (H.length + 1)])) (by rw [fs_ne (n6 5 (by decide) N).2.2, fs_ne (by decide), fs_ne (n6 5 (by decide) N).1]; exact h.o5)
  rw [fs_ne (n6 5 (by decide) N).2.2, fs_ne (n6 5 (by decide) N).1, h.p5] at a4
  refine ⟨fun k => if k = N then (tag, lo, high) else D k, fun k => if k = N then H.length else G k, fun k => if k = N then H.length + 1 else Sg k, _, _, a4, ?_, ?_, ?_, ?_, ?_, ?_, ?_, ?_, ?_, ?_, ?_, ?_, fun k hk => ?_, ⟨Nat.le_succ_of_le h.lN.1, Nat.succ_le_succ h.lN.2⟩, Nat.le_succ_of_le h.lR, h.lr⟩
  · rw [fs_ne (n6 0 (by decide) N).2.2, fs_ne (n6 0 (by decide) N).1]; exact h.p0
  · rw [fs_ne (n6 1 (by decide) N).2.2, fs_ne (n6 1 (by decide) N).1]; exact h.p1
  · rw [fs_ne (n6 2 (by decide) N).2.2, fs_ne (n6 2 (by decide) N).1]; exact h.p2
  · rw [fs_ne (n6 3 (by decide) N).2.2, fs_ne (n6 3 (by decide) N).1]; exact h.p3
  · rw [fs_ne (n6 4 (by decide) N).2.2, fs_ne (n6 4 (by decide) N).1]; exact h.p4
  · rw [fs_ne (n6 5 (by decide) N).2.2, fs_ne (n6 5 (by decide) N).1]; exact h.p5
  · rw [fs_ne (by decide), fs_ne (n6 0 (by decide) N).2.2, fs_ne (by decide), fs_ne (n6 0 (by decide) N).1]; exact h.o0
  · rw [fs_ne (by decide), fs_ne (n6 1 (by decide) N).2.2, fs_ne (by decide), fs_ne (n6 1 (by decide) N).1]; exact h.o1
  · rw [fs_ne (by decide), fs_ne (n6 2 (by decide) N).2.2, fs_ne (by decide), fs_ne (n6 2 (by decide) N).1]; exact h.o2
  · rw [fs_ne (by decide), fs_ne (n6 3 (by decide) N).2.2, fs_ne (by decide), fs_ne (n6 3 (by decide) N).1]; exact h.o3
  · rw [fs_ne (by decide), fs_ne (n6 4 (by decide) N).2.2, fs_eq, refs_succ]
  · rw [fs_eq, refs_succ]
  · have gn : rGen k ≠ rSt N := by unfold rGen rSt; omega
    have sn : rSt k ≠ rGen N := by unfold rGen rSt; omega
    have tn : rIt k ≠ rGen N ∧ rIt k ≠ rSt N := by unfold rGen rSt rIt; omega
    have g4 : rGen k ≠ 4 ∧ rGen k ≠ 5 := by unfold rGen; omega
    have s4 : rSt k ≠ 4 ∧ rSt k ≠ 5 := by unfold rSt; omega
    have i4 : rIt k ≠ 4 ∧ rIt k ≠ 5 := by unfold rIt; omega
    by_cases z : k = N
    · subst z
      simp only [if_true]
      refine ⟨by rw [fs_ne gn, fs_eq], fs_eq, by rw [fs_ne s4.2, fs_eq], .inl (by rw [fs_ne g4.2, fs_ne gn, fs_ne g4.1, fs_eq]), ht, hlo, hh⟩
    · have hk' : k < N := Nat.lt_of_le_of_ne (Nat.le_of_lt_succ hk) z
      have gg : rGen k ≠ rGen N := by unfold rGen; omega
      have ss : rSt k ≠ rSt N := by unfold rSt; omega
      simp only [if_neg z]
      obtain ⟨a, b, c', d, e⟩ := h.gd k hk'
      exact ⟨by rw [fs_ne gn, fs_ne gg]; exact a, by rw [fs_ne ss, fs_ne sn]; exact b, by rw [fs_ne s4.2, fs_ne ss, fs_ne s4.1, fs_ne sn]; exact c', d.congr (by rw [fs_ne g4.2, fs_ne gn, fs_ne g4.1, fs_ne gg]) (by rw [fs_ne i4.2, fs_ne tn.2, fs_ne i4.1, fs_ne tn.1]), e⟩
end
end
section
set_option pp.maxSteps 2500


local macro_rules | `(tactic| walk_at "nm") => `(tactic| first | refine we_glob (by rfl) (g_differ _) ?_ | refine we_biT (by rfl) (g_list _) b_list ?_ | refine we_biF (by rfl) (g_len _) b_len ?_ | refine we_biT (by rfl) (g_range _) b_range ?_ | refine we_biT (by rfl) (g_str _) b_str ?_ | refine we_glob (by rfl) (g_due _) ?_)
local macro_rules | `(tactic| walk_at "w") => `(tactic| ((with_reducible refine (?_ : Callee _ _ ∧ _)); refine ⟨by first | exact c_differ _ | exact c_dump _ | exact c_due _, ?_⟩))
noncomputable abbrev fi6 (w : World) : FI := ⟨fScope (stAt 11), true, (fdOf (o338 w.params)).code⟩
noncomputable def forB : Stmt → List Stmt | .For _ _ b _ _ => b | _ => []
noncomputable def lp6 : List Stmt := forB ((fBody (stAt 11))[5]?.getD (.Pass ⟨0, 0, 0, 0⟩))
noncomputable def ifB : Stmt → List Stmt | .If _ b _ _ => b | _ => []
noncomputable def ifE : Stmt → List Stmt | .If _ _ b _ => b | _ => []
noncomputable def at6 (l : List Stmt) (i : Nat) : Stmt := l[i]?.getD (.Pass ⟨0, 0, 0, 0⟩)
/-- the deeds' suites -/
noncomputable def b6 : List Stmt := ifB (at6 lp6 4)
noncomputable def e6 : List Stmt := ifE (at6 lp6 4)
noncomputable def b61 : List Stmt := ifB (at6 e6 0)
noncomputable def e61 : List Stmt := ifE (at6 e6 0)
noncomputable def b62 : List Stmt := ifB (at6 e61 0)
noncomputable def e62 : List Stmt := ifE (at6 e61 0)
noncomputable def b63 : List Stmt := ifB (at6 e62 0)
noncomputable abbrev nm6 (kept dumps states count deed rest place row tag low high k asks : Option V) : Names := [nv "script" (.ref 0), nv "differ" (.ref 1), nv "rows" (.ref 2), (Str.ofString "kept", kept), (Str.ofString "dumps", dumps), (Str.ofString "states", states), (Str.ofString "count", count), (Str.ofString "deed", deed), (Str.ofString "rest", rest), (Str.ofString "place", place), (Str.ofString "row", row), (Str.ofString "tag", tag), (Str.ofString "low", low), (Str.ofString "high", high), (Str.ofString "k", k), (Str.ofString "asks", asks)]
noncomputable def J6 (w : World) (ns : List Int) (c : Nat) (m : Names) (H : List O) : Prop :=
  ∃ kr R N D G Sg p ob cv dv rv pv wv tv lv hv kv av, m = nm6 (some (.ref kr)) (some (.ref 5)) (some (.ref 7)) cv dv rv pv wv tv lv hv kv av ∧ L6 w ns c kr R N D G Sg p ob H
section
variable {w : World} {ns : List Int} {c kr d : Nat} {R : List Str} {N : Nat} {D : Nat → Str × Nat × Nat} {G Sg : Nat → Nat} {p : Nat → Nat} {ob : Nat → Option O} {H : List O} {cv dv rv pv wv tv lv hv kv av : Option V} {Q : Fl → Names → List O → Prop}
/-- the end of a turn -/
theorem tail6 (h : L6 w ns (c + 1) kr R N D G Sg p ob H) (hc : c < 63) (hQ : ∀ m H, J6 w ns (c + 1) m H → Q .next m H) :
    WBU pP w (KK w.params) (fi6 w) (d + 3) (fun _ _ _ => False) (nm6 (some (.ref kr)) (some (.ref 5)) (some (.ref 7)) cv dv rv pv wv tv lv hv kv av) H (lp6.drop 5) Q := by
  refine wu_quiet ?_
  repeat (walk_at "w")
  refine ne_of_eqv (by decide) (eqv_strs h.h2 h.h3) ?_
  repeat (walk_at "w")
  refine ksi_n (by simp) ?_
  repeat (walk_at "w")
  refine wu_nil ?_
  exact hQ _ _ ⟨_, _, _, _, _, _, _, _, _, _, _, _, _, _, _, _, _, _, rfl, h⟩
/-- what stands behind a deed -/
noncomputable def T6 (w : World) (ns : List Int) (c : Nat) (Q : Fl → Names → List O → Prop) : Prop := ∀ {kr R N D G Sg p ob H cv dv rv pv wv tv lv hv kv av}, L6 w ns (c + 1) kr R N D G Sg p ob H → Q .next (nm6 (some (.ref kr)) (some (.ref 5)) (some (.ref 7)) cv dv rv pv wv tv lv hv kv av) H
/-- a further dump -/
theorem deed0 {r : Int} (h : L6 w ns c kr R N D G Sg p ob H) (hc : c < 63) (hQ : T6 w ns c Q) :
    WBU pP w (KK w.params) (fi6 w) (d + 3) (fun _ _ _ => False) (nm6 (some (.ref kr)) (some (.ref 5)) (some (.ref 7)) cv dv (some (.int r)) pv wv tv lv hv kv av) H b6 Q := by
  obtain ⟨t, ht⟩ := Int.eq_ofNat_of_zero_le (Int.fmod_nonneg_of_pos r (b := 4) (by decide))
  have ht4 : t < 4 := Int.ofNat_lt.mp (ht ▸ Int.fmod_lt_of_pos r (b := 4) (by decide))
  obtain ⟨lo, hlo⟩ := Int.eq_ofNat_of_zero_le (Int.fmod_nonneg_of_pos (r.fdiv 4) (b := 6) (by decide))
  have hlo6 : lo < 6 := Int.ofNat_lt.mp (hlo ▸ Int.fmod_lt_of_pos (r.fdiv 4) (b := 6) (by decide))
  obtain ⟨hi, hhi⟩ := Int.eq_ofNat_of_zero_le (Int.fmod_nonneg_of_pos (r.fdiv 24) (b := 6) (by decide))
  have hhi6 : hi < 6 := Int.ofNat_lt.mp (hhi ▸ Int.fmod_lt_of_pos (r.fdiv 24) (b := 6) (by decide))
  refine wu_quiet ?_
  repeat (walk_at "w")
  rw [ht]
  refine get_s ⟨Int.le_trans (by decide) j0, Int.ofNat_lt.mpr ht4⟩ (by decide) ?_
  repeat (walk_at "w")
  refine wu_quiet ?_
  repeat (walk_at "w")
  rw [hlo]
  refine wu_quiet ?_
  repeat (walk_at "w")
  rw [hhi]
  refine wu_quiet ?_
  repeat (walk_at "w")
  refine ⟨_, meth_append h.h4, trivial, ?_⟩
  repeat (walk_at "w")
  refine ⟨_, meth_dump h.h1, c_dump _, ?_⟩
  repeat (walk_at "w")
  refine call_gen (fn_dump w) (by rfl) (by rfl) ?_
  repeat (walk_at "w")
  have hz : ((List.range N).map fun k => V.ref (G k)).length ≤ sizeLine ∧ ((List.range N).map fun k => V.ref (Sg k)).length ≤ sizeLine := by
    rw [List.length_map, List.length_map, List.length_range]
    have : N ≤ sizeLine := Nat.le_trans h.lN.2 (Nat.le_trans (Nat.succ_le_succ (Nat.le_of_lt hc)) (by decide))
    exact ⟨this, this⟩
  refine app_l (gl h.h4) hz.1 ?_
  repeat (walk_at "w")
  refine wu_quiet ?_
  repeat (walk_at "w")
  have g7 : ∀ x y, ((H ++ [x]).set 5 y)[7]? = some (refsG N Sg) := fun x y => by rw [List.getElem?_set_ne (by decide)]; exact gl h.h5
  refine ⟨_, meth_append (g7 _ _), trivial, ?_⟩
  repeat (walk_at "w")
  refine ⟨by show 3 ≤ sizeLine; decide, ?_⟩
  rw [List.length_set, List.length_append, List.length_singleton]
  repeat (walk_at "w")
  refine app_l (gl (g7 _ _)) hz.2 ?_
  repeat (walk_at "w")
  refine wu_nil ?_
  obtain ⟨D', G', Sg', p', ob', L⟩ := h.newd (tag := Txt.item (Str.ofString " -+?") (t : Int)) (lo := lo) (high := lo + hi) (tag_len ht4) (Nat.le_trans (Nat.le_of_lt hlo6) (by decide)) (Nat.le_trans (Nat.add_le_add (Nat.le_of_lt hlo6) (Nat.le_of_lt hhi6)) (by decide))
  exact hQ L
/-- a dump asked, its answer held against what is due -/
theorem cmp6 {k kk : Nat} {p1 p2 p3 p4 p5 p6 p7 p8 p9 p10 p11 p12 p13 p14 p15 : Pos} (h : L6 w ns c kr R N D G Sg p ob H) (hc : c ≤ 63) (hk : k < N)
    (hQ : ∀ H' D' p' ob', L6 w ns c kr R N D' G Sg p' ob' H' → Q .next (nm6 (some (.ref kr)) (some (.ref 5)) (some (.ref 7)) cv dv rv pv wv tv lv hv (some (.int (k : Int))) av) H') :
    WSU pP w (KK w.params) (fi6 w) (d + 3) (fun _ _ _ => False) (nm6 (some (.ref kr)) (some (.ref 5)) (some (.ref 7)) cv dv rv pv wv tv lv hv (some (.int (k : Int))) av) H
      (.If (.Compare (.Call (.Name "_law_asked" p1) [.Subscript (.Name "dumps" p2) (.Name "k" p3) p4] [] p5) [.NotEq] [.Call (.Name "_law_due" p6) [.Subscript (.Name "states" p7) (.Name "k" p8) p9, .Name "kept" p10] [] p11] p12) [.Return (some (.Constant (.bool false) kk p13)) p14] [] p15) Q := by
  have hk62 : (k : Int) < 2 ^ 62 := j62 (Nat.le_trans (Nat.le_of_lt (Nat.lt_of_lt_of_le hk h.lN.2)) (Nat.le_trans (Nat.succ_le_succ hc) (by decide)))
  obtain ⟨g1, g2, g3, g4, g5, g6, g7⟩ := h.gd k hk
  refine wu_if ?_
  refine wtu_cmp ?_
  refine weu_call (c_asked w) ?_
  refine we_glob (by rfl) (g_asked _) ⟨rfl, ?_⟩
  repeat (walk_at "w")
  refine get_li (.inl h.h4) j0 hk62 (by rw [Int.toNat_natCast]; exact refs_at hk) ?_
  repeat (walk_at "w")
  rw [← g1]
  have lR : R.length ≤ 1000 := Nat.le_trans h.lR (Nat.le_trans (Nat.add_le_add_left hc 3) (by decide))
  have lr : ∀ x ∈ R, x.length ≤ 1000 := fun x hx => Nat.le_trans (h.lr x hx) (by decide)
  refine asked_ok (d := d + 1) ((ask_dump h.at' h.o2 h.p2 g4 lR lr g5 (Nat.le_trans g6 (by decide)) (Nat.le_trans g7 (by decide))).mono fun a H' hA => ?_)
  obtain ⟨hA, he, p', ob', ha, ho, hg, gs⟩ := hA
  refine ⟨hA, ?_⟩
  obtain ⟨s1, s2, s3, s4, D', p'', ob'', L⟩ := h.asked hk ha ho hg gs
  repeat (walk_at "w")
  refine get_li (.inl s3) j0 hk62 (by rw [Int.toNat_natCast]; exact refs_at hk) ?_
  repeat (walk_at "w")
  refine due_ok (d := d + 2) s1 s2 s4 lR lr g5 (Nat.le_trans g6 (by decide)) ?_
  repeat (walk_at "w")
  rw [he, if_neg (by simp)]
  exact wu_nil (hQ _ _ _ _ L)
theorem L6.nz (h : L6 w ns c kr R N D G Sg p ob H) (hc : c ≤ 63) : ((List.range N).map fun k => V.ref (G k)).length ≤ sizeLine ∧ ((List.range N).map fun k => V.ref (Sg k)).length ≤ sizeLine := by
  rw [List.length_map, List.length_map, List.length_range]
  have : N ≤ sizeLine := Nat.le_trans h.lN.2 (Nat.le_trans (Nat.succ_le_succ hc) (by decide))
  exact ⟨this, this⟩
/-- a dump asked -/
theorem deed1 {r : Int} (h : L6 w ns c kr R N D G Sg p ob H) (hc : c < 63) (hQ : T6 w ns c Q) :
    WBU pP w (KK w.params) (fi6 w) (d + 3) (fun _ _ _ => False) (nm6 (some (.ref kr)) (some (.ref 5)) (some (.ref 7)) cv dv (some (.int r)) pv wv tv lv hv kv av) H b61 Q := by
  have hN : (0 : Int) < (N : Int) := Int.ofNat_lt.mpr h.lN.1
  obtain ⟨k, hk⟩ := Int.eq_ofNat_of_zero_le (Int.fmod_nonneg_of_pos r hN)
  have hkN : k < N := Int.ofNat_lt.mp (hk ▸ Int.fmod_lt_of_pos r hN)
  refine wu_quiet ?_
  repeat (walk_at "w")
  refine len_l (.inl h.h4) (h.nz (Nat.le_of_lt hc)).1 ?_
  rw [List.length_map, List.length_range]
  repeat (walk_at "w")
  refine mod_ii (Ne.symm (Int.ne_of_lt hN)) ?_
  rw [hk]
  repeat (walk_at "w")
  refine wu_seq ?_
  refine cmp6 h (Nat.le_of_lt hc) hkN fun H' D' p' ob' L => ?_
  refine wu_nil ?_
  exact hQ (L.le (Nat.le_succ c))
theorem gn {h : List O} {x : O} : (h ++ [x])[h.length]? = some x := List.getElem?_concat_length ..
theorem slTo {prog : Program} {w : World} {KF : Frag} {d : Nat} {E : HEP} {H : List O} {Q : V → List O → Prop} {l k : Nat} {R : List Str} (hl : H[l]? = some (lstR R)) (hz : (R.map V.str).length ≤ sizeLine) (h : Q (.ref H.length) (H ++ [.list ((R.take k).map V.str)])) : SliceW prog w KF d E H (.ref l) .none (.int (k : Int)) .none Q := sl_list (lo := none) (hi := some (k : Int)) (st := none) (.inl hl) rfl rfl rfl (by decide) hz (by rw [pick_upto, ← List.map_take]; exact h)
theorem slFrom {prog : Program} {w : World} {KF : Frag} {d : Nat} {E : HEP} {H : List O} {Q : V → List O → Prop} {l k : Nat} {R : List Str} (hl : H[l]? = some (lstR R)) (hz : (R.map V.str).length ≤ sizeLine) (h : Q (.ref H.length) (H ++ [.list ((R.drop k).map V.str)])) : SliceW prog w KF d E H (.ref l) (.int (k : Int)) .none .none Q := sl_list (lo := some (k : Int)) (hi := none) (st := none) (.inl hl) rfl rfl rfl (by decide) hz (by rw [pick_from, ← List.map_drop]; exact h)
theorem L6.kr2 (h : L6 w ns c kr R N D G Sg p ob H) : kr ≠ 2 := fun q => absurd (h.at'.inj _ _ _ _ h.o3 h.o2 (h.p3.trans (q.trans h.p2.symm))) (by decide)
/-- a row put in -/
theorem deed2 {pl : Nat} {row : Str} (h : L6 w ns c kr R N D G Sg p ob H) (hc : c < 63) (hp : pl < 7) (hr : row.length ≤ 100) (hQ : T6 w ns c Q) :
    WBU pP w (KK w.params) (fi6 w) (d + 3) (fun _ _ _ => False) (nm6 (some (.ref kr)) (some (.ref 5)) (some (.ref 7)) cv dv rv (some (.int (pl : Int))) (some (.str row)) tv lv hv kv av) H b62 Q := by
  have hz : (R.map V.str).length ≤ sizeLine := by rw [List.length_map]; exact Nat.le_trans h.lR (Nat.le_trans (Nat.add_le_add_left (Nat.le_of_lt hc) 3) (by decide))
  refine wu_quiet ?_
  repeat (walk_at "w")
  refine ⟨_, meth_list (id := "list.insert") PySem.F.slot_list_insert PySem.F.type_list_insert h.h2, trivial, ?_⟩
  repeat (walk_at "w")
  refine ins_l h.h2 j0 (j62 (Nat.le_trans (Nat.le_of_lt hp) (by decide))) hz ?_
  repeat (walk_at "w")
  rw [Int.toNat_natCast, ← List.map_take, ← List.map_drop, show [V.str row] = [row].map V.str from rfl, ← List.map_append, ← List.map_append]
  have a1 := h.at'.set (o' := lstR (R.take pl ++ [row] ++ R.drop pl)) h.o2
  rw [h.p2] at a1
  have k1 : (H.set 2 (lstR (R.take pl ++ [row] ++ R.drop pl)))[kr]? = some (lstR R) := by rw [List.getElem?_set_ne (Ne.symm h.kr2)]; exact h.h3
  change WBU pP w (KK w.params) (fi6 w) (d + 3) (fun _ _ _ => False) _ (H.set 2 (lstR (R.take pl ++ [row] ++ R.drop pl))) _ _
  generalize H.set 2 (lstR (R.take pl ++ [row] ++ R.drop pl)) = H₁ at a1 k1 ⊢
  have tk : (R.take pl).length ≤ 100 := Nat.le_trans (List.length_take_le _ _) (Nat.le_trans (Nat.le_of_lt hp) (by decide))
  have dk : (R.drop pl).length ≤ 100 := Nat.le_trans (by rw [List.length_drop]; exact Nat.sub_le _ _) (Nat.le_trans h.lR (Nat.le_trans (Nat.add_le_add_left (Nat.le_of_lt hc) 3) (by decide)))
  refine wu_quiet ?_
  repeat (walk_at "w")
  refine slTo k1 hz ?_
  repeat (walk_at "w")
  refine ⟨by show 1 ≤ sizeLine; decide, ?_⟩
  repeat (walk_at "w")
  refine add_ll (gl gn) gn (by rw [List.length_map]; exact Nat.le_trans (Nat.add_le_add_right tk 1) (by decide)) ?_
  repeat (walk_at "w")
  refine slFrom (gl (gl (gl k1))) hz ?_
  repeat (walk_at "w")
  refine add_ll (gl gn) gn (by rw [List.length_append, List.length_map, List.length_map]; exact Nat.le_trans (Nat.add_le_add (Nat.add_le_add_right tk 1) dk) (by decide)) ?_
  repeat (walk_at "w")
  rw [show O.list ((R.take pl).map V.str ++ [V.str row] ++ (R.drop pl).map V.str) = lstR (R.take pl ++ [row] ++ R.drop pl) by unfold lstR; rw [List.map_append, List.map_append]; rfl]
  refine wu_nil ?_
  refine hQ (h.rows (a1.app.app.app.app.new (r := 3) (o := lstR (R.take pl ++ [row] ++ R.drop pl))) fs_eq (fun r hr => fs_ne hr) (by rw [fs_ne (by decide), fs_eq]) fs_eq (fun r h1 h2 => by rw [fs_ne h2, fs_ne h1]) ?_ ?_)
  · rw [List.length_append, List.length_append, List.length_take, List.length_drop]
    have := h.lR
    show min pl R.length + 1 + (R.length - pl) ≤ 3 + (c + 1)
    omega
  · intro x hx
    rcases List.mem_append.mp hx with hx | hx
    · rcases List.mem_append.mp hx with hx | hx
      · exact h.lr x (List.mem_of_mem_take hx)
      · rw [List.mem_singleton.mp hx]; exact hr
    · exact h.lr x (List.mem_of_mem_drop hx)
/-- a row in the place of another, a row taken out -/
theorem deed3 {pl : Nat} {row : Str} {dd : Int} (h : L6 w ns c kr R N D G Sg p ob H) (hc : c < 63) (hp : pl < R.length) (hp7 : pl < 7) (hr : row.length ≤ 100) (hQ : T6 w ns c Q) :
    WBU pP w (KK w.params) (fi6 w) (d + 3) (fun _ _ _ => False) (nm6 (some (.ref kr)) (some (.ref 5)) (some (.ref 7)) cv (some (.int dd)) rv (some (.int (pl : Int))) (some (.str row)) tv lv hv kv av) H b63 Q := by
  have hz : (R.map V.str).length ≤ sizeLine := by rw [List.length_map]; exact Nat.le_trans h.lR (Nat.le_trans (Nat.add_le_add_left (Nat.le_of_lt hc) 3) (by decide))
  have hpz : (pl : Int) < 2 ^ 62 := j62 (Nat.le_trans (Nat.le_of_lt hp7) (by decide))
  refine wu_seq ?_
  refine wu_if ?_
  refine wtU ?_
  repeat (walk_at "w")
  have hx : (R.map V.str)[pl]? = some (.str R[pl]) := by rw [List.getElem?_map, List.getElem?_eq_getElem hp]; rfl
  split
  · refine wu_quiet ?_
    repeat (walk_at "w")
    refine set_li h.h2 j0 hpz (by rw [List.length_map]; exact Int.ofNat_lt.mpr hp) ?_
    rw [Int.toNat_natCast, ← List.map_set]
    have a1 := h.at'.set (o' := lstR (R.set pl row)) h.o2
    rw [h.p2] at a1
    have k1 : (H.set 2 (lstR (R.set pl row)))[kr]? = some (lstR R) := by rw [List.getElem?_set_ne (Ne.symm h.kr2)]; exact h.h3
    repeat (walk_at "w")
    refine wu_quiet ?_
    repeat (walk_at "w")
    refine set_li k1 j0 hpz (by rw [List.length_map]; exact Int.ofNat_lt.mpr hp) ?_
    rw [Int.toNat_natCast, ← List.map_set]
    repeat (walk_at "w")
    refine wu_nil (wu_nil ?_)
    have a2 := a1.set (r := 3) (o' := lstR (R.set pl row)) (by rw [fs_ne (by decide)]; exact h.o3)
    rw [h.p3] at a2
    refine hQ (h.rows a2 h.p3 (fun r hr => rfl) (by rw [fs_ne (by decide), fs_eq]) fs_eq (fun r h1 h2 => by rw [fs_ne h2, fs_ne h1]) (by rw [List.length_set]; exact Nat.le_succ_of_le h.lR) fun x hx => ?_)
    rcases List.mem_or_eq_of_mem_set hx with hx | rfl
    · exact h.lr x hx
    · exact hr
  · refine wu_quiet ?_
    repeat (walk_at "w")
    refine ⟨_, meth_list (id := "list.pop") PySem.F.slot_list_pop PySem.F.type_list_pop h.h2, trivial, ?_⟩
    repeat (walk_at "w")
    refine pop_li h.h2 hx hz ?_
    rw [← List.map_take, ← List.map_drop, ← List.map_append]
    have a1 := h.at'.set (o' := lstR (R.take pl ++ R.drop (pl + 1))) h.o2
    rw [h.p2] at a1
    have k1 : (H.set 2 (lstR (R.take pl ++ R.drop (pl + 1))))[kr]? = some (lstR R) := by rw [List.getElem?_set_ne (Ne.symm h.kr2)]; exact h.h3
    have tk : (R.take pl).length ≤ 100 := Nat.le_trans (List.length_take_le _ _) (Nat.le_trans (Nat.le_of_lt hp7) (by decide))
    have dk : (R.drop (pl + 1)).length ≤ 100 := Nat.le_trans (by rw [List.length_drop]; exact Nat.sub_le _ _) (Nat.le_trans h.lR (Nat.le_trans (Nat.add_le_add_left (Nat.le_of_lt hc) 3) (by decide)))
    repeat (walk_at "w")
    change WBU pP w (KK w.params) (fi6 w) (d + 3) (fun _ _ _ => False) _ (H.set 2 (lstR (R.take pl ++ R.drop (pl + 1)))) _ _
    generalize H.set 2 (lstR (R.take pl ++ R.drop (pl + 1))) = H₁ at a1 k1 ⊢
    refine wu_quiet ?_
    repeat (walk_at "w")
    refine slTo k1 hz ?_
    repeat (walk_at "w")
    rw [show (pl : Int) + 1 = ((pl + 1 : Nat) : Int) from rfl]
    refine slFrom (gl k1) hz ?_
    repeat (walk_at "w")
    refine add_ll (gl gn) gn (by rw [List.length_map, List.length_map]; exact Nat.le_trans (Nat.add_le_add tk dk) (by decide)) ?_
    repeat (walk_at "w")
    rw [← List.map_append]
    refine wu_nil (wu_nil ?_)
    refine hQ (h.rows (a1.app.app.new (r := 3) (o := lstR (R.take pl ++ R.drop (pl + 1)))) fs_eq (fun r hr => fs_ne hr) (by rw [fs_ne (by decide), fs_eq]) fs_eq (fun r h1 h2 => by rw [fs_ne h2, fs_ne h1]) ?_ ?_)
    · rw [List.length_append, List.length_take, List.length_drop]
      have := h.lR
      omega
    · intro x hx
      rcases List.mem_append.mp hx with hx | hx
      · exact h.lr x (List.mem_of_mem_take hx)
      · exact h.lr x (List.mem_of_mem_drop hx)
theorem turn6 {n : Int} (h : L6 w ns c kr R N D G Sg p ob H) (hn : ns[c]? = some n) (hl : ns.length ≤ 63) (hQ : ∀ m H, J6 w ns (c + 1) m H → Q .next m H) :
    WBU pP w (KK w.params) (fi6 w) (d + 3) (fun _ _ _ => False) (nm6 (some (.ref kr)) (some (.ref 5)) (some (.ref 7)) (some (.int (c : Int))) dv rv pv wv tv lv hv kv av) H lp6 Q := by
  have hcl : c < ns.length := (List.getElem?_eq_some_iff.mp hn).1
  have hc : c < 63 := Nat.lt_of_lt_of_le hcl hl
  have hx : (ns.map V.int)[c]? = some (.int n) := by rw [List.getElem?_map, hn]; rfl
  refine wu_quiet ?_
  repeat (walk_at "w")
  refine get_li (.inr h.h0) j0 (j62 (Nat.le_trans (Nat.le_of_lt hc) (by decide))) (by rw [Int.toNat_natCast]; exact hx) ?_
  repeat (walk_at "w")
  refine wu_quiet ?_
  repeat (walk_at "w")
  refine get_li (.inr h.h0) j0 (j62 (Nat.le_trans (Nat.le_of_lt hc) (by decide))) (by rw [Int.toNat_natCast]; exact hx) ?_
  repeat (walk_at "w")
  refine wu_quiet ?_
  repeat (walk_at "w")
  refine wu_quiet ?_
  repeat (walk_at "w")
  refine str_i (log_small (Nat.lt_succ_of_lt hc)) ?_
  repeat (walk_at "w")
  have l1 := dig_len (Nat.lt_succ_of_lt hc)
  refine add_ss (Nat.le_trans (Nat.add_le_add_left l1 _) (by decide)) ?_
  repeat (walk_at "w")
  refine wu_seq ?_
  refine wu_if ?_
  change WTU pP w (KK w.params) (fi6 w) (d + 3) (fun _ _ _ => False) (nm6 (some (.ref kr)) (some (.ref 5)) (some (.ref 7)) (some (.int (c : Int))) (some (.int (n.fmod 5))) (some (.int (n.fdiv 5))) (some (.int ((n.fdiv 5).fmod 7))) (some (.str (Str.ofString "? %s " ++ dig c))) tv lv hv kv av) H _ _
  have hr : (Str.ofString "? %s " ++ dig c).length ≤ 100 := by rw [strLen_append]; exact Nat.le_trans (Nat.add_le_add_left l1 _) (by decide)
  obtain ⟨pl, hpl⟩ := Int.eq_ofNat_of_zero_le (Int.fmod_nonneg_of_pos (n.fdiv 5) (b := 7) (by decide))
  have hp7 : pl < 7 := Int.ofNat_lt.mp (hpl ▸ Int.fmod_lt_of_pos (n.fdiv 5) (b := 7) (by decide))
  rw [hpl]
  have hT : T6 w ns c (KSeqU pP w (KK w.params) (fi6 w) (d + 3) (fun _ _ _ => False) (lp6.drop 5) Q) := fun {_ _ _ _ _ _ _ _ _ _ _ _ _ _ _ _ _ _ _} L => tail6 L hc hQ
  refine wtU ?_
  repeat (walk_at "w")
  split
  · exact deed0 h hc hT
  refine wu_seq ?_
  refine wu_if ?_
  refine wtU ?_
  repeat (walk_at "w")
  split
  · exact deed1 h hc fun {_ _ _ _ _ _ _ _ _ _ _ _ _ _ _ _ _ _ _} L => wu_nil (hT L)
  refine wu_seq ?_
  refine wu_if ?_
  refine wtU ?_
  repeat (walk_at "w")
  split
  · exact deed2 h hc hp7 hr fun {_ _ _ _ _ _ _ _ _ _ _ _ _ _ _ _ _ _ _} L => wu_nil (wu_nil (hT L))
  refine wu_seq ?_
  refine wu_if ?_
  refine wtU ?_
  repeat (walk_at "w")
  refine len_l (.inl h.h3) (by rw [List.length_map]; exact Nat.le_trans h.lR (Nat.le_trans (Nat.add_le_add_left (Nat.le_of_lt hc) 3) (by decide))) ?_
  rw [List.length_map]
  repeat (walk_at "w")
  split
  · rename_i q
    exact deed3 h hc (Int.ofNat_lt.mp (of_decide_eq_true q)) hp7 hr fun {_ _ _ _ _ _ _ _ _ _ _ _ _ _ _ _ _ _ _} L => wu_nil (wu_nil (wu_nil (hT L)))
  · exact wu_nil (wu_nil (wu_nil (wu_nil (hT (h.le (Nat.le_succ c))))))
end
end
section
set_option pp.maxSteps 2500


local macro_rules | `(tactic| walk_at "nm") => `(tactic| first | refine we_glob (by rfl) (g_differ _) ?_ | refine we_biT (by rfl) (g_list _) b_list ?_ | refine we_biF (by rfl) (g_len _) b_len ?_ | refine we_biT (by rfl) (g_range _) b_range ?_ | refine we_biT (by rfl) (g_str _) b_str ?_ | refine we_glob (by rfl) (g_due _) ?_)
local macro_rules | `(tactic| walk_at "w") => `(tactic| ((with_reducible refine (?_ : Callee _ _ ∧ _)); refine ⟨by first | exact c_differ _ | exact c_dump _ | exact c_due _, ?_⟩))
theorem rng_at {n i : Nat} {x : V} (h : ((List.range n).map fun (i : Nat) => V.int (i : Int))[i]? = some x) : i < n ∧ x = .int (i : Int) := by
  rw [List.getElem?_map] at h
  obtain ⟨j, hj, rfl⟩ := Option.map_eq_some_iff.mp h
  obtain ⟨h1, h2⟩ := List.getElem?_eq_some_iff.mp hj
  rw [List.length_range] at h1
  rw [List.getElem_range] at h2
  exact ⟨h1, by rw [h2]⟩
noncomputable def R0 : List Str := ["- %s\n", "", "+ %d"]
/-- the objects at the loop's start -/
noncomputable def H06 (w : World) (ns : List Int) : List O := [.arr (ns.map V.int), .inst 313 dFs, lstR R0, lstR R0, .fresh (dFi w) (fBody (stIn 7 3)) (dNm "-" 0 4 none), refsG 1 fun _ => 4, lstS "-" 0 4, refsG 1 fun _ => 6]
theorem start6 {w : World} {ns : List Int} : ∃ D G Sg p ob, L6 w ns 0 3 R0 1 D G Sg p ob (H06 w ns) := by
  refine ⟨fun _ => ("-", 0, 4), fun _ => 4, fun _ => 6, fun r => if r = 4 then 5 else if r = 5 then 7 else if r = 6 then 4 else if r = 7 then 6 else r, fun r => if r = 0 then some (.arr (ns.map V.int)) else if r = 1 then some (.inst 313 dFs) else if r = 2 then some (lstR R0) else if r = 3 then some (lstR R0) else if r = 4 then some (refsG 1 fun _ => 4) else if r = 5 then some (refsG 1 fun _ => 6) else if r = 6 then some (.fresh (dFi w) (fBody (stIn 7 3)) (dNm "-" 0 4 none)) else if r = 7 then some (lstS "-" 0 4) else none,
    ⟨fun r r' o o' h1 h2 e => ?_, fun r o h => ?_⟩, rfl, rfl, rfl, rfl, rfl, rfl, rfl, rfl, rfl, rfl, rfl, rfl, fun k hk => ?_, ⟨Nat.le_refl _, Nat.le_refl _⟩, by decide, by decide⟩
  · have b : ∀ r o, (if r = 0 then some (O.arr (ns.map V.int)) else if r = 1 then some (.inst 313 dFs) else if r = 2 then some (lstR R0) else if r = 3 then some (lstR R0) else if r = 4 then some (refsG 1 fun _ => 4) else if r = 5 then some (refsG 1 fun _ => 6) else if r = 6 then some (.fresh (dFi w) (fBody (stIn 7 3)) (dNm "-" 0 4 none)) else if r = 7 then some (lstS "-" 0 4) else none) = some o → r < 8 := fun r o h => by
      refine Nat.lt_of_not_le fun q => ?_
      rw [if_neg (by omega), if_neg (by omega), if_neg (by omega), if_neg (by omega), if_neg (by omega), if_neg (by omega), if_neg (by omega), if_neg (by omega)] at h
      cases h
    have h1 := b r o h1
    have h2 := b r' o' h2
    have : ∀ a b : Fin 8, (if a.val = 4 then 5 else if a.val = 5 then 7 else if a.val = 6 then 4 else if a.val = 7 then 6 else a.val) = (if b.val = 4 then 5 else if b.val = 5 then 7 else if b.val = 6 then 4 else if b.val = 7 then 6 else b.val) → a.val = b.val := by decide
    exact this ⟨r, h1⟩ ⟨r', h2⟩ e
  · match r, h with
    | 0, h => exact h
    | 1, h => exact h
    | 2, h => exact h
    | 3, h => exact h
    | 4, h => exact h
    | 5, h => exact h
    | 6, h => exact h
    | 7, h => exact h
    | r + 8, h =>
      rw [if_neg (by omega), if_neg (by omega), if_neg (by omega), if_neg (by omega), if_neg (by omega), if_neg (by omega), if_neg (by omega), if_neg (by omega)] at h
      cases h
  · obtain rfl : k = 0 := Nat.lt_one_iff.mp hk
    exact ⟨rfl, rfl, rfl, .inl rfl, by decide, by decide, by decide⟩
noncomputable def K6 (w : World) (ns : List Int) (m : Names) (H : List O) : Prop :=
  ∃ kr R N D G Sg p ob cv dv rv pv wv tv lv hv kv av, m = nm6 (some (.ref kr)) (some (.ref 5)) (some (.ref 7)) cv dv rv pv wv tv lv hv kv av ∧ L6 w ns 63 kr R N D G Sg p ob H
noncomputable def K6' (w : World) (ns : List Int) (N : Nat) (m : Names) (H : List O) : Prop :=
  ∃ kr R D G Sg p ob cv dv rv pv wv tv lv hv kv av, m = nm6 (some (.ref kr)) (some (.ref 5)) (some (.ref 7)) cv dv rv pv wv tv lv hv kv av ∧ L6 w ns 63 kr R N D G Sg p ob H
theorem law_ok {w : World} {E : HEP} {d : Nat} {ns : List Int} {Q : V → List O → Prop} (hn : ns.length ≤ 63) (hQ : ∀ H' : List O, Q (.bool true) H') : CallU pP w (KK w.params) (d + 4) E [.arr (ns.map V.int)] (.st 338) [.ref 0] Q := by
  refine wu_fn (fn_law w) (by rfl) (by rfl) ?_
  have e : initN (fScope (stAt 11)) ["script"] [.ref 0] = [nv "script" (.ref 0), nn "differ", nn "rows", nn "kept", nn "dumps", nn "states", nn "count", nn "deed", nn "rest", nn "place", nn "row", nn "tag", nn "low", nn "high", nn "k", nn "asks"] := by rfl
  rw [e]
  refine wu_quiet ?_
  repeat (walk_at "w")
  refine differ_ok (d := d + 1) ?_
  repeat (walk_at "w")
  refine wu_quiet ?_
  repeat (walk_at "w")
  refine ⟨by show 3 ≤ sizeLine; decide, ?_⟩
  repeat (walk_at "w")
  refine wu_quiet ?_
  repeat (walk_at "w")
  refine list_l (.inl rfl) (by show 3 ≤ sizeLine; decide) ?_
  repeat (walk_at "w")
  refine wu_quiet ?_
  repeat (walk_at "w")
  refine ⟨_, meth_dump rfl, c_dump _, ?_⟩
  repeat (walk_at "w")
  refine call_gen (fn_dump w) (by rfl) (by rfl) ?_
  repeat (walk_at "w")
  refine ⟨by show 1 ≤ sizeLine; decide, ?_⟩
  repeat (walk_at "w")
  refine wu_quiet ?_
  repeat (walk_at "w")
  refine ⟨by show 3 ≤ sizeLine; decide, ?_⟩
  repeat (walk_at "w")
  refine ⟨by show 1 ≤ sizeLine; decide, ?_⟩
  repeat (walk_at "w")
  change WBU pP w (KK w.params) (fi6 w) (d + 3) (fun _ _ _ => False) (nm6 (some (.ref 3)) (some (.ref 5)) (some (.ref 7)) none none none none none none none none none none) (H06 w ns) ((fBody (stAt 11)).drop 5) _
  refine wu_seq ?_
  refine wu_for ?_
  repeat (walk_at "w")
  refine len_l (.inr rfl) (by rw [List.length_map]; exact Nat.le_trans hn (by decide)) ?_
  rw [List.length_map]
  repeat (walk_at "w")
  refine ⟨_, _, iw_range0 (n := ns.length) (Nat.lt_of_le_of_lt hn (by decide)), J6 w ns, ?_, fun _ _ _ _ => trivial, ?_, ?_⟩
  · obtain ⟨D, G, Sg, p, ob, L⟩ := start6 (w := w) (ns := ns)
    exact ⟨_, _, _, _, _, _, _, _, _, _, _, _, _, _, _, _, _, _, rfl, L⟩
  · rintro i x m' H' hx ⟨kr, R, N, D, G, Sg, p, ob, cv, dv, rv, pv, wv, tv, lv, hv, kv, av, rfl, L⟩
    obtain ⟨hi, rfl⟩ := rng_at hx
    refine wa_name (.inl (by rfl)) ?_
    exact turn6 L (List.getElem?_eq_getElem hi) hn fun m H h => h
  · rintro m' H' ⟨kr, R, N, D, G, Sg, p, ob, cv, dv, rv, pv, wv, tv, lv, hv, kv, av, rfl, L⟩
    rw [List.length_map, List.length_range] at L
    have L := L.le hn
    refine wu_seq ?_
    refine wu_for ?_
    repeat (walk_at "w")
    refine ⟨_, _, iw_range0 (n := 7) (by decide), fun _ => K6 w ns, ⟨_, _, _, _, _, _, _, _, _, _, _, _, _, _, _, _, _, _, rfl, L⟩, fun _ _ _ _ => trivial, ?_, ?_⟩
    · rintro i x m' H' hx ⟨kr, R, N, D, G, Sg, p, ob, cv, dv, rv, pv, wv, tv, lv, hv, kv, av, rfl, L⟩
      obtain ⟨hi, rfl⟩ := rng_at hx
      refine wa_name (.inl (by rfl)) ?_
      refine wu_seq ?_
      refine wu_for ?_
      repeat (walk_at "w")
      refine len_l (.inl L.h4) (L.nz (Nat.le_refl _)).1 ?_
      rw [List.length_map, List.length_range]
      repeat (walk_at "w")
      refine ⟨_, _, iw_range0 (n := N) (Nat.lt_of_le_of_lt L.lN.2 (by decide)), fun _ => K6' w ns N, ⟨_, _, _, _, _, _, _, _, _, _, _, _, _, _, _, _, _, rfl, L⟩, fun _ _ _ _ => trivial, ?_, ?_⟩
      · rintro k y m' H' hy ⟨kr, R, D, G, Sg, p, ob, cv, dv, rv, pv, wv, tv, lv, hv, kv, av, rfl, L⟩
        obtain ⟨hk, rfl⟩ := rng_at hy
        refine wa_name (.inl (by rfl)) ?_
        refine wu_seq ?_
        refine cmp6 L (Nat.le_refl _) hk fun H'' D' p' ob' L' => ?_
        refine wu_nil ?_
        exact ⟨_, _, _, _, _, _, _, _, _, _, _, _, _, _, _, _, _, rfl, L'⟩
      · rintro m' H' ⟨kr, R, D, G, Sg, p, ob, cv, dv, rv, pv, wv, tv, lv, hv, kv, av, rfl, L⟩
        refine wu_nil ?_
        exact ⟨_, _, _, _, _, _, _, _, _, _, _, _, _, _, _, _, _, _, rfl, L⟩
    · rintro m' H' ⟨kr, R, N, D, G, Sg, p, ob, cv, dv, rv, pv, wv, tv, lv, hv, kv, av, rfl, L⟩
      refine wu_quiet ?_
      repeat (walk_at "w")
      refine eq_of_eqv (by decide) (eqv_strs L.h2 L.h3) ?_
      rw [decide_eq_true rfl]
      exact hQ _
end
section
theorem ints_rel {ρ : List Ent} {h : Heap} : ∀ {vs : List Value} {ns : List Int}, IntsAre vs ns → VRs ρ h (ns.map V.int) vs
  | _, _, .nil => .nil
  | _, _, .cons n t r => .cons (by unfold VR; exact ⟨_, rfl⟩) (ints_rel r)
theorem kk_lookup {P : Params} {a : Nat} {o : Obj} (h : (KK P).lookup a = some o) : (K P).lookup a = some o := by
  have : ∀ l : List (Nat × Obj), (l.filter fun x => x.1 != 248).lookup a = some o → l.lookup a = some o := by
    intro l
    induction l with
    | nil => intro h; cases h
    | cons p l ih =>
      intro h
      obtain ⟨b, q⟩ := p
      rw [List.filter_cons] at h
      by_cases hb : b = 248
      · rw [if_neg (by simpa using hb)] at h
        have h1 := ih h
        rw [List.lookup_cons]
        cases e : (a == b) with
        | false => exact h1
        | true =>
          exfalso
          have ha : a = 248 := (by simpa using e : a = b).trans hb
          obtain ⟨l₁, l₂, hl, _⟩ := List.lookup_eq_some_iff.mp h
          have : (a, o) ∈ l.filter fun x => x.1 != 248 := by rw [hl]; simp
          have := (List.mem_filter.mp this).2
          rw [ha] at this
          simp at this
      · rw [if_pos (by simpa using hb), List.lookup_cons] at h
        rw [List.lookup_cons]
        cases e : (a == b) with
        | true => rw [e] at h; exact h
        | false => rw [e] at h; exact ih h
  exact this _ h
theorem keep_exact {f : Nat → Option Obj} {h : Heap} (k : KeepG ⟨f, []⟩ h) {b : Nat} {o : Obj} (e : f b = some o) : h.get? b = some o := by
  obtain ⟨o', e', u⟩ := k b o e
  rw [e', u.ex (fun q => nomatch q)]
theorem law_main (w : World) (s : Shared) (l : Addr) (vs : List Value) (ns : List Int) (mg mb : Str → Option Value) (hg : s.gens = #[]) (X : Frag.In (K w.params) s.heap) (G : s.heap.Ns mainGlobals mg) (lim : s.heap.NoLimit) (hb : s.heap.Ns builtinsNs mb) (hbi : ∀ x : Str, x ≠ "__name__" → mb x = bootBuiltins x) (dig : ∃ mc, s.heap.Ns cStatics mc ∧ mc "sys.int_max_str_digits" = none)
    (hl : s.heap.IsList l vs.toArray) (hi : IntsAre vs ns) (hn : ns.length ≤ 63)
    {Q : Value → Shared → Prop} {E : Value → Shared → Prop} (hQ : ∀ s', OldK s.heap s'.heap → s'.os = s.os → AllBare s'.gens → Q (.bool true) s') : wpU (model pP w) callerA (call (.ref 338) [.ref l]) Q E s := by
  have S : HSim w (KK w.params) ⟨fun b => s.heap.get? b, []⟩ [⟨l, [], none⟩] [.arr (ns.map V.int)] s.heap s.gens := by
    have ho : OR ⟨fun b => s.heap.get? b, []⟩ [⟨l, [], none⟩] s.heap ⟨l, [], none⟩ (.arr (ns.map V.int)) := by
      obtain ⟨o, ho, r⟩ := id hl
      exact ⟨rfl, rfl, ⟨vs, hl, ints_rel hi⟩, by show (s.heap.get? l).isSome = true; rw [ho]; rfl⟩
    refine ⟨fun h' k => ?_, fun b o e => ⟨o, e, .refl⟩, rfl, fun i e o hi' ho' => ?_, fun b hb' => ?_, ?_, fun b hb' => ?_, ?_, fun x hx => ?_, fun i e o hi' ho' => ?_, fun e he => nomatch he⟩
    · have k : Keep s.heap h' := fun b o e => keep_exact k e
      exact ⟨fun a o e => k a o (X a o (kk_lookup e)), ⟨mg, G.keeps k⟩, lim.keeps k, ⟨mb, hb.keeps k, hbi⟩, let ⟨mc, a, b⟩ := dig; ⟨mc, a.keeps k, b⟩⟩
    · rcases i with _ | i
      · cases hi'; cases ho'; exact ho
      · simp at hi'
    · simp [fps] at hb'
    · simp [fps]
    · simp [fps] at hb'
    · simp
    · rw [hg] at hx; simp at hx
    · rcases i with _ | i
      · cases hi'; cases ho'; trivial
      · simp at hi'
  have hA : Room callerA (0 + 4) [] := ⟨rfl, rfl, by decide +kernel, by decide +kernel⟩
  refine wpU_mono (law_ok (w := w) (E := fun _ _ => False) (d := 0) (Q := fun v _ => v = .bool true) hn (fun _ => rfl) callerA _ _ s (.ref 338) [.ref l] hA S (by unfold VR; rfl) (.cons (by unfold VR; exact ⟨_, rfl, rfl⟩) .nil)) (fun v s' ⟨ρ', H', b, st, T, rv, hb'⟩ => ?_) (fun _ _ ⟨_, _, _, _, _, x, _⟩ => x.elim)
  subst hb'
  unfold VR at rv
  subst rv
  exact hQ s' (OldK.of_keep fun b o e => keep_exact T.keep e) st.2.2.1.1 T.bare
end
end Mine
end
theorem PySem.Challenge.cw_dm0045_06_holds : PySem.Challenge.rw_dm0045_06.Holds := by
  w_on; o_law
  refine Mine.holds_U (q := Mine.q) (loose := Mine.loose) (Xt := fun s => xlAt Mine.q [] s && recOk [] s) (XP := XL Mine.q []) (Yf := Hook.obs Mine.Hk) (Ya := Hook.val Mine.Hk) (YP := Hook.says Mine.Hk) (N := 6000) Mine.left (Hook.of Mine.Hk) (Hook.keeps Mine.Hk) (fun s e => xl_of s (Bool.and_eq_true_iff.mp e).1) XL.keeps (by rfl) (by rfl) (by rfl) (fun s e => recFacts_of (Bool.and_eq_true_iff.mp e).2) (by rfl) (by first | assumption | decide +kernel) (by decide +kernel) ⟨rfl, rfl, rfl, rfl, rfl, by decide +kernel⟩ ?hw ?hc
  case hw => w_witness2
  intro w s₀ s₁ mg mb G Y fa o pm cd doc dV kV ho hd hcd hD hmg hg args vals as hpre hlay hrd hwl hlo
  have KX := kIn_of Y
  clear ho hd hcd hD Y
  refine Ground.open G ?_
  intro T B D TE TW
  wrow_args hpre hlay hrd hwl hlo
  x_fa T KX hmg
  clear hmg
  rename_i ns _ _ _ _ _ _ _ l vs _ hL _ _ _ hI _ hn _
  refine Mine.law_main w s₁ l vs ns mg mb hg KX T.g T.nolimit T.b T.builtins T.nodigits hL hI (by omega) ?_
  intro s' h1 h2 h3
  exact ⟨.inl ⟨_, _, [], rfl, fun _ => rfl, ReadsW.bool true, by wrow_post, fun _ => ⟨List.nodup_nil, fun _ hm => (nomatch hm)⟩⟩, h1, h2, h3⟩

