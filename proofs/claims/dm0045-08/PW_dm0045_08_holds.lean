import PyProof.Rows.All
import Wide.All
import OpenK.AllK
import Wide.FinOn
import PySem.Challenge.RW_dm0045_08
open PySem PySem.W PyProof.Rows
set_option Elab.async false
set_option maxRecDepth 100000
set_option maxHeartbeats 0
namespace Mine
noncomputable abbrev pP : Program := PySem.Challenge.pw_dm0045_08
noncomputable abbrev rW : OpenLaw := PySem.Challenge.rw_dm0045_08
/-- Array.any over the whole array, by the list's recursor -/
noncomputable def anyF {α : Type} (as : Array α) (p : α → Bool) (i j : Nat) : Bool :=
  @Bool.rec (fun _ => Bool) (Array.any as p i j) (@Bool.rec (fun _ => Bool) (Array.any as p i j) (PySem.W.R.anyR as.toList p) (Nat.beq j as.size)) (Nat.beq i 0)
theorem anyF_eq : @Array.any.{0} = @anyF := by
  funext α as p i j
  unfold anyF
  cases h1 : Nat.beq i 0 with
  | false => rfl
  | true =>
    have e1 := Nat.eq_of_beq_eq_true h1
    subst e1
    cases h2 : Nat.beq j as.size with
    | false => rfl
    | true =>
      have e2 := Nat.eq_of_beq_eq_true h2
      subst e2
      show as.any p = PySem.W.R.anyR as.toList p
      rw [← PySem.W.R.anyR_eq, Array.any_toList]
noncomputable def tnB : Builtin := by
  refine (?F : (PySem.W.Fast.tw4202317264376624991 = ?w) → Builtin) ?h
  case F => exact fun _ => ?w
  case h =>
    unfold PySem.W.Fast.tw4202317264376624991
    rw [anyF_eq]
theorem tnB_eq : PySem.W.Fast.tw4202317264376624991 = tnB := by
  unfold PySem.W.Fast.tw4202317264376624991
  rw [anyF_eq]
  rfl
noncomputable def myTable (id : String) : Option Builtin :=
  @Bool.rec (fun _ => Option Builtin) (treeTable id) (some tnB) (Nat.beq (PySem.code id) (PySem.code "type.__new__"))
theorem table_my : treeTable = myTable := by
  funext id
  unfold myTable
  cases h : Nat.beq (PySem.code id) (PySem.code "type.__new__") with
  | false => rfl
  | true =>
    have e := Nat.eq_of_beq_eq_true h
    show treeTable id = some tnB
    have e2 : treeTable id = treeTable "type.__new__" := by unfold treeTable; rw [e]
    rw [e2, ← tnB_eq, ← PySem.W.Fast.te4202317264376624991]
    kernel_rfl
noncomputable def runT (tb : String → Option Builtin) (p : Program) (w : World) (n₀ : Nat) (ann : Option Value) : Nat → SharedT → Thread → Option SharedT
  | 0, _, _ => none
  | n + 1, s, t => match through t with
    | true => some s
    | false => match stepOk n₀ ann t with
      | false => none
      | true => match stepT (denote tb) p w s t with
        | some (s', t') => runT tb p w n₀ ann n s' t'
        | none => none
theorem runT_of {tb : String → Option Builtin} {p : Program} {w : World} {n₀ : Nat} {ann : Option Value} : ∀ (n : Nat) (s : SharedT) (t : Thread) (r : SharedT), runT tb p w n₀ ann n s t = some r → topRun tb p w n₀ ann n s.abs t = some r.abs
  | 0, _, _, _, h => by cases h
  | n + 1, s, t, r, h => by
    unfold runT at h
    unfold topRun
    cases ht : through t with
    | true => rw [ht] at h; cases h; rfl
    | false =>
      rw [ht] at h
      cases hk : stepOk n₀ ann t with
      | false => rw [hk] at h; cases h
      | true =>
        rw [hk] at h
        cases hs : stepT (denote tb) p w s t with
        | none => rw [hs] at h; cases h
        | some x =>
          obtain ⟨s', t'⟩ := x
          rw [hs] at h
          dsimp only at h ⊢
          rw [stepT_spec hs]
          exact runT_of n s' t' r h
noncomputable def bootT (P : Params) : BT :=
  let n := fun (o : Params → Obj) l r => BT.node (o P) l r
  n boot_o_0 (n boot_o_1 (n boot_o_3 (n boot_o_7 .nil .nil) .nil) (n boot_o_5 (n boot_o_9 .nil .nil) .nil)) (n boot_o_2 (n boot_o_4 (n boot_o_8 .nil .nil) .nil) (n boot_o_6 (n boot_o_10 .nil .nil) .nil))
theorem boot_abs (P : Params) : absHeap (bootT P) 11 (boot_heap P).life = boot_heap P := by kernel_rfl
noncomputable def looks1 (w : World) (s₁ : Shared) : Bool := (staticsOk [] (boot_heap w.params) s₁.heap && namesBound pP s₁.heap && gensDone s₁ && laidKept (boot_heap w.params) s₁.heap)
noncomputable def getT (s : SharedT) (a : Nat) : Option Obj := match Nat.blt a s.n with
  | true => (match s.tree.get a with | some o => alive o | none => none)
  | false => none
theorem getT_of {s : SharedT} {a : Nat} {o : Obj} (h : getT s a = some o) : s.abs.heap.get? a = some o := by
  unfold getT at h
  cases hb : Nat.blt a s.n with
  | false => rw [hb] at h; cases h
  | true =>
    rw [hb] at h
    cases hg : s.tree.get a with
    | none => rw [hg] at h; cases h
    | some o' =>
      rw [hg] at h
      exact (abs_get (Nat.le_of_ble_eq_true hb) hg).trans h
theorem getT_all {s : SharedT} : ∀ {as : List Nat} {os : List Obj}, as.map (getT s) = os.map some → as.map s.abs.heap.get? = os.map some
  | [], [], _ => rfl
  | [], _ :: _, h => by cases h
  | _ :: _, [], h => by cases h
  | a :: as, o :: os, h => by
    simp only [List.map_cons, List.cons.injEq] at h ⊢
    exact ⟨getT_of h.1, getT_all h.2⟩
section
universe u
variable {β : Type u}
noncomputable def fN (n : Nat) (k : Nat → β) : β := @Nat.rec (fun _ => β) (k 0) (fun m _ => k (Nat.succ m)) n
theorem fN_eq (n : Nat) (k : Nat → β) : fN n k = k n := by cases n <;> rfl
noncomputable def fList {α : Type} (g : α → (α → β) → β) (l : List α) : (List α → β) → β :=
  @List.rec α (fun _ => (List α → β) → β) (fun k => k []) (fun a _ ih k => g a fun a' => ih fun t' => k (a' :: t')) l
theorem fList_eq {α : Type} {g : α → (α → β) → β} (hg : ∀ a k, g a k = k a) (l : List α) : ∀ k : List α → β, fList g l k = k l := by
  induction l with
  | nil => intro k; rfl
  | cons a t ih => intro k; show g a _ = _; rw [hg]; exact ih _
noncomputable def fArr {α : Type} (g : α → (α → β) → β) (x : Array α) (k : Array α → β) : β := fList g x.toList fun l => k (Array.mk l)
theorem fArr_eq {α : Type} {g : α → (α → β) → β} (hg : ∀ a k, g a k = k a) (x : Array α) (k : Array α → β) : fArr g x k = k x := fList_eq hg _ _
noncomputable def fE (e : DictEntry) (k : DictEntry → β) : β := k ⟨e.1, e.2, e.3⟩
noncomputable def fV (v : Value) (k : Value → β) : β := match v with
  | .none => k .none | .ellipsis => k .ellipsis | .notImplemented => k .notImplemented
  | .bool b => k (.bool b) | .int i t => fN t fun t => k (.int i t) | .float b t => fN t fun t => k (.float b t) | .str s t => fN t fun t => k (.str s t) | .bytes b t => fN t fun t => k (.bytes b t)
  | .type n => k (.type n) | .builtin i => k (.builtin i) | .ref a => fN a fun a => k (.ref a)
theorem fV_eq (v : Value) (k : Value → β) : fV v k = k v := by cases v <;> simp only [fV, fN_eq]
noncomputable def fEV (e : DictEntry) (k : DictEntry → β) : β := fV e.2 fun a => fV e.3 fun b => k ⟨e.1, a, b⟩
theorem fEV_eq (e : DictEntry) (k : DictEntry → β) : fEV e k = k e := by unfold fEV; rw [fV_eq, fV_eq]
noncomputable def fD (d : Data) (k : Data → β) : β := match d with
  | .plain => k .plain
  | .prim v => k (.prim v)
  | .seq xs n => fArr fV xs fun xs => fN n fun n => k (.seq xs n)
  | .dict es n => fArr fEV es fun es => fN n fun n => k (.dict es n)
  | .set a b c => k (.set a b c)
  | .bytearray a b => k (.bytearray a b)
  | .cell v => k (.cell v)
  | .func f => k (.func f)
  | .cls c => fList fV c.bases fun bs => fList fV c.mro fun mro => fList fV c.subclasses fun sub => k (.cls ⟨c.name, bs, mro, c.ns, c.qualname, c.hasDict, c.slotNames, sub, c.abstract, c.collection, c.hasDel⟩)
  | .fields vs => fArr fV vs fun vs => k (.fields vs)
  | .freed => k .freed
theorem fD_eq (d : Data) (k : Data → β) : fD d k = k d := by
  cases d <;> simp only [fD, fArr_eq fV_eq, fArr_eq fEV_eq, fList_eq fV_eq, fN_eq]
noncomputable def fO (o : Obj) (k : Obj → β) : β := fD o.data fun d => fArr (fun x k => match x with | none => k none | some v => fV v fun v => k (some v)) o.slots fun sl => k ⟨o.cls, o.dict, d, sl⟩
theorem fO_eq (o : Obj) (k : Obj → β) : fO o k = k o := by
  unfold fO
  rw [fD_eq, fArr_eq]
  intro a k
  cases a with
  | none => rfl
  | some v => exact fV_eq _ _
noncomputable def fT (t : BT) : (BT → β) → β :=
  @BT.rec (fun _ => (BT → β) → β) (fun k => k .nil) (fun v _ _ l r k => fO v fun v => l fun l => r fun r => k (.node v l r)) t
theorem fT_eq (t : BT) : ∀ k : BT → β, fT t k = k t := by
  induction t with
  | nil => intro k; rfl
  | node v l r ihl ihr => intro k; show fO v (fun v => fT l fun l => fT r fun r => k (.node v l r)) = _; rw [fO_eq, ihl, ihr]
noncomputable def fS (s : SharedT) (k : SharedT → β) : β := fT s.1 fun t => fN s.2 fun n => fN s.6 fun tk => k ⟨t, n, s.3, s.4, s.5, tk, s.7⟩
theorem fS_eq (s : SharedT) (k : SharedT → β) : fS s k = k s := by unfold fS; rw [fT_eq, fN_eq, fN_eq]
end
/-- c steps of the machine, or fewer if the thread is through -/
noncomputable def goT (tb : String → Option Builtin) (p : Program) (w : World) (n₀ : Nat) (ann : Option Value) : Nat → SharedT → Thread → Option (Bool × SharedT × Thread)
  | 0, s, t => some (false, s, t)
  | n + 1, s, t => match through t with
    | true => some (true, s, t)
    | false => match stepOk n₀ ann t with
      | false => none
      | true => match stepT (denote tb) p w s t with
        | some (s', t') => goT tb p w n₀ ann n s' t'
        | none => none
/-- legs of c steps, the heap written out behind each -/
noncomputable def legs (tb : String → Option Builtin) (p : Program) (w : World) (n₀ : Nat) (ann : Option Value) (c : Nat) : Nat → SharedT → Thread → Option SharedT
  | 0, _, _ => none
  | m + 1, s, t => match goT tb p w n₀ ann c s t with
    | none => none
    | some (b, s', t') => match b with
      | true => some s'
      | false => fS s' fun s' => legs tb p w n₀ ann c m s' t'
section
variable {tb : String → Option Builtin} {p : Program} {w : World} {n₀ : Nat} {ann : Option Value}
theorem goT_run : ∀ (n N : Nat) (s s' : SharedT) (t t' : Thread) (b : Bool) (r : SharedT), goT tb p w n₀ ann n s t = some (b, s', t') → (if b then r = s' else runT tb p w n₀ ann N s' t' = some r) → ∃ M, M ≤ n + N + 1 ∧ runT tb p w n₀ ann M s t = some r
  | 0, N, s, s', t, t', b, r, h, k => by
    cases h
    exact ⟨N, by omega, k⟩
  | n + 1, N, s, s', t, t', b, r, h, k => by
    unfold goT at h
    cases ht : through t with
    | true =>
      rw [ht] at h
      cases h
      exact ⟨1, by omega, by unfold runT; rw [ht]; exact congrArg some (Eq.symm k)⟩
    | false =>
      rw [ht] at h
      cases hk : stepOk n₀ ann t with
      | false => rw [hk] at h; cases h
      | true =>
        rw [hk] at h
        cases hs : stepT (denote tb) p w s t with
        | none => rw [hs] at h; cases h
        | some x =>
          obtain ⟨s₂, t₂⟩ := x
          rw [hs] at h
          obtain ⟨M, hM, hr⟩ := goT_run n N s₂ s' t₂ t' b r h k
          exact ⟨M + 1, by omega, by unfold runT; rw [ht, hk, hs]; exact hr⟩
theorem legs_run {c : Nat} : ∀ (m : Nat) (s : SharedT) (t : Thread) (r : SharedT), legs tb p w n₀ ann c m s t = some r → ∃ M, M ≤ m * (c + 1) ∧ runT tb p w n₀ ann M s t = some r
  | 0, _, _, _, h => by cases h
  | m + 1, s, t, r, h => by
    unfold legs at h
    cases hg : goT tb p w n₀ ann c s t with
    | none => rw [hg] at h; cases h
    | some x =>
      obtain ⟨b, s', t'⟩ := x
      rw [hg] at h
      cases b with
      | true =>
        cases h
        obtain ⟨M, hM, hr⟩ := goT_run c 0 s r t t' true r hg rfl
        exact ⟨M, by rw [Nat.succ_mul]; omega, hr⟩
      | false =>
        dsimp only at h
        rw [fS_eq] at h
        obtain ⟨M₁, hM₁, hr₁⟩ := legs_run m s' t' r h
        obtain ⟨M, hM, hr⟩ := goT_run c M₁ s s' t t' false r hg hr₁
        exact ⟨M, by rw [Nat.succ_mul]; omega, hr⟩
end
/-- the k-th statement of the text; the j-th of its body; its parts -/
noncomputable def stAt (k : Nat) : Stmt := (pP.main.body[k]?).getD (.Pass ⟨0, 0, 0, 0⟩)
noncomputable def fBody : Stmt → List Stmt | .FunctionDef _ _ b _ _ _ _ _ _ _ => b | .ClassDef _ _ _ b _ _ _ _ _ _ _ => b | _ => []
noncomputable def fScope : Stmt → Scope | .FunctionDef _ _ _ _ _ _ sc _ _ _ => sc | _ => default
noncomputable def fArgs : Stmt → Arguments | .FunctionDef _ a _ _ _ _ _ _ _ _ => a | _ => default
noncomputable def docS (st : Stmt) : Str := match fBody st with | .Expr (.Constant (.str d) _ _) _ :: _ => d | _ => Str.empty
noncomputable def stIn (k j : Nat) : Stmt := ((fBody (stAt k))[j]?).getD (.Pass ⟨0, 0, 0, 0⟩)

noncomputable def o3 (P : Params) : Obj := ⟨(.type "dict"), none, (.dict ⟨[⟨PyData.keyHash P (Str.ofString "__name__"), (.str (Str.ofString "__name__") 165), (.str (Str.ofString "law_dm0045_08") 744)⟩, ⟨PyData.keyHash P (Str.ofString "__doc__"), (.str (Str.ofString "__doc__") 166), .none⟩, ⟨PyData.keyHash P (Str.ofString "__package__"), (.str (Str.ofString "__package__") 167), .none⟩, ⟨PyData.keyHash P (Str.ofString "__loader__"), (.str (Str.ofString "__loader__") 168), (.builtin "__main__.__loader__#opaque")⟩, ⟨PyData.keyHash P (Str.ofString "__spec__"), (.str (Str.ofString "__spec__") 169), .none⟩, ⟨PyData.keyHash P (Str.ofString "__annotations__"), (.str (Str.ofString "__annotations__") 170), (.ref 6)⟩, ⟨PyData.keyHash P (Str.ofString "__builtins__"), (.str (Str.ofString "__builtins__") 171), (.ref 4)⟩, ⟨PyData.keyHash P (Str.ofString "__file__"), (.str (Str.ofString "__file__") 173), (.str (Str.ofString "/claim/cut.py") 172)⟩, ⟨PyData.keyHash P (Str.ofString "__cached__"), (.str (Str.ofString "__cached__") 174), .none⟩, ⟨PyData.keyHash P (Str.ofString "_wall"), (.str (Str.ofString "_wall") 193), (.ref 21)⟩, ⟨PyData.keyHash P (Str.ofString "_tuplegetter"), (.str (Str.ofString "_tuplegetter") 252), (.ref 60)⟩, ⟨PyData.keyHash P (Str.ofString "Match"), (.str (Str.ofString "Match") 380), (.ref 135)⟩, ⟨PyData.keyHash P (Str.ofString "_calculate_ratio"), (.str (Str.ofString "_calculate_ratio") 388), (.ref 145)⟩, ⟨PyData.keyHash P (Str.ofString "SequenceMatcher"), (.str (Str.ofString "SequenceMatcher") 592), (.ref 242)⟩, ⟨PyData.keyHash P (Str.ofString "_keep_original_ws"), (.str (Str.ofString "_keep_original_ws") 601), (.ref 253)⟩, ⟨PyData.keyHash P (Str.ofString "Differ"), (.str (Str.ofString "Differ") 743), (.ref 313)⟩, ⟨PyData.keyHash P (Str.ofString "law"), (.str (Str.ofString "law") 751), (.ref 322)⟩]⟩ 17), ⟨[]⟩⟩
noncomputable def o248 (P : Params) : Obj := ⟨.none, none, (.fields ⟨[]⟩), ⟨[]⟩⟩
noncomputable def o313 (P : Params) : Obj := ⟨(.type "type"), none, (.cls ⟨(Str.ofString "Differ"), [(.type "object")], [(.ref 313), (.type "object")], 312, (Str.ofString "Differ"), true, [], [], false, none, false⟩), ⟨[none, none, some (.str (Str.ofString "Differ") 602), some (.str (Str.ofString "Differ") 610), some (.builtin "object.__new__"), some (.bool true)]⟩⟩
noncomputable def o312 (P : Params) : Obj := ⟨(.type "dict"), none, (.dict ⟨[⟨PyData.keyHash P (Str.ofString "__module__"), (.str (Str.ofString "__module__") 609), (.str (Str.ofString "cpy313.difflib") 194)⟩, ⟨PyData.keyHash P (Str.ofString "__firstlineno__"), (.str (Str.ofString "__firstlineno__") 613), (.int 491 612)⟩, ⟨PyData.keyHash P (Str.ofString "__doc__"), (.str (Str.ofString "__doc__") 615), (.str (docS (stAt 7)) 614)⟩, ⟨PyData.keyHash P (Str.ofString "__init__"), (.str (Str.ofString "__init__") 626), (.ref 268)⟩, ⟨PyData.keyHash P (Str.ofString "compare"), (.str (Str.ofString "compare") 643), (.ref 275)⟩, ⟨PyData.keyHash P (Str.ofString "_dump"), (.str (Str.ofString "_dump") 656), (.ref 282)⟩, ⟨PyData.keyHash P (Str.ofString "_plain_replace"), (.str (Str.ofString "_plain_replace") 672), (.ref 289)⟩, ⟨PyData.keyHash P (Str.ofString "_fancy_replace"), (.str (Str.ofString "_fancy_replace") 708), (.ref 296)⟩, ⟨PyData.keyHash P (Str.ofString "_fancy_helper"), (.str (Str.ofString "_fancy_helper") 722), (.ref 303)⟩, ⟨PyData.keyHash P (Str.ofString "_qformat"), (.str (Str.ofString "_qformat") 734), (.ref 310)⟩, ⟨PyData.keyHash P (Str.ofString "__static_attributes__"), (.str (Str.ofString "__static_attributes__") 737), (.ref 311)⟩, ⟨PyData.keyHash P (Str.ofString "__dict__"), (.str (Str.ofString "__dict__") 739), (.ref 314)⟩, ⟨PyData.keyHash P (Str.ofString "__weakref__"), (.str (Str.ofString "__weakref__") 741), (.ref 315)⟩]⟩ 3), ⟨[]⟩⟩
noncomputable def o268 (P : Params) : Obj := ⟨(.type "function"), none, (.func ⟨(Str.ofString "__init__"), (Str.ofString "Differ.__init__"), fArgs (stIn 7 1), .stmts (fBody (stIn 7 1)), fScope (stIn 7 1), 3, [], (.ref 261), .none, (.str (docS (stIn 7 1)) 625), (.str (Str.ofString "cpy313.difflib") 194), none, (.ref 267), .none, 0⟩), ⟨[]⟩⟩
noncomputable def o267 (P : Params) : Obj := ⟨(.type "code"), none, (.fields ⟨[(.str (Str.ofString "__init__") 617), (.str (Str.ofString "Differ.__init__") 618), (.str (Str.ofString "/claim/cut.py") 619), (.int 577 0), (.int 3 0), (.int 0 0), (.int 0 0), (.int 3 0), (.ref 262), (.bool true), (.int 181 0), (.ref 263), .none, (.ref 264), (.ref 265), (.ref 266), (.int 623 0), (.int 577 0), (.str (Str.ofString "/claim/cut.py") 624)]⟩), ⟨[]⟩⟩
noncomputable def o261 (P : Params) : Obj := ⟨(.type "tuple"), none, (.seq ⟨[.none, .none]⟩ 0), ⟨[]⟩⟩
noncomputable def o314 (P : Params) : Obj := ⟨(.type "getset_descriptor"), none, (.fields ⟨[(.str (Str.ofString "__dict__") 738), (.ref 313), (.builtin "function.__dict__"), (.builtin "function.__dict__#set")]⟩), ⟨[]⟩⟩
noncomputable def o315 (P : Params) : Obj := ⟨(.type "getset_descriptor"), none, (.fields ⟨[(.str (Str.ofString "__weakref__") 740), (.ref 313), (.builtin "ExceptionGroup.__weakref__"), .none]⟩), ⟨[]⟩⟩
noncomputable def o282 (P : Params) : Obj := ⟨(.type "function"), none, (.func ⟨(Str.ofString "_dump"), (Str.ofString "Differ._dump"), fArgs (stIn 7 3), .stmts (fBody (stIn 7 3)), fScope (stIn 7 3), 3, [], .none, .none, (.str (docS (stIn 7 3)) 655), (.str (Str.ofString "cpy313.difflib") 194), none, (.ref 281), .none, 0⟩), ⟨[]⟩⟩
noncomputable def o281 (P : Params) : Obj := ⟨(.type "code"), none, (.fields ⟨[(.str (Str.ofString "_dump") 644), (.str (Str.ofString "Differ._dump") 645), (.str (Str.ofString "/claim/cut.py") 646), (.int 638 0), (.int 5 0), (.int 0 0), (.int 0 0), (.int 35 0), (.ref 276), (.bool true), (.int 181 0), (.ref 277), .none, (.ref 278), (.ref 279), (.ref 280), (.int 653 0), (.int 638 0), (.str (Str.ofString "/claim/cut.py") 654)]⟩), ⟨[]⟩⟩
noncomputable def o289 (P : Params) : Obj := ⟨(.type "function"), none, (.func ⟨(Str.ofString "_plain_replace"), (Str.ofString "Differ._plain_replace"), fArgs (stIn 7 4), .stmts (fBody (stIn 7 4)), fScope (stIn 7 4), 3, [], .none, .none, .none, (.str (Str.ofString "cpy313.difflib") 194), none, (.ref 288), .none, 0⟩), ⟨[]⟩⟩
noncomputable def o288 (P : Params) : Obj := ⟨(.type "code"), none, (.fields ⟨[(.str (Str.ofString "_plain_replace") 657), (.str (Str.ofString "Differ._plain_replace") 658), (.str (Str.ofString "/claim/cut.py") 659), (.int 643 0), (.int 7 0), (.int 0 0), (.int 0 0), (.int 35 0), (.ref 283), (.bool true), (.int 181 0), (.ref 284), .none, (.ref 285), (.ref 286), (.ref 287), (.int 670 0), (.int 643 0), (.str (Str.ofString "/claim/cut.py") 671)]⟩), ⟨[]⟩⟩
noncomputable def o322 (P : Params) : Obj := ⟨(.type "function"), none, (.func ⟨(Str.ofString "law"), (Str.ofString "law"), fArgs (stAt 9), .stmts (fBody (stAt 9)), fScope (stAt 9), 3, [], .none, .none, .none, (.str (Str.ofString "law_dm0045_08") 744), none, (.ref 321), .none, 0⟩), ⟨[]⟩⟩
noncomputable def o321 (P : Params) : Obj := ⟨(.type "code"), none, (.fields ⟨[(.str (Str.ofString "law") 746), (.str (Str.ofString "law") 747), (.str (Str.ofString "/claim/cut.py") 748), (.int 754 0), (.int 1 0), (.int 0 0), (.int 0 0), (.int 3 0), (.ref 318), (.bool true), (.int 181 0), (.ref 319), .none, .none, .none, (.ref 320), (.int 749 0), (.int 754 0), (.str (Str.ofString "/claim/cut.py") 750)]⟩), ⟨[]⟩⟩

noncomputable def K (P : Params) : List (Nat × Obj) := [(3, o3 P), (248, o248 P), (313, o313 P), (312, o312 P), (268, o268 P), (267, o267 P), (261, o261 P), (314, o314 P), (315, o315 P), (282, o282 P), (281, o281 P), (289, o289 P), (288, o288 P), (322, o322 P), (321, o321 P)]
noncomputable def asK : List Nat := [3, 248, 313, 312, 268, 267, 261, 314, 315, 282, 281, 289, 288, 322, 321]
noncomputable def kS (P : Params) : List (Option Obj) := [some (o3 P), some (o248 P), some (o313 P), some (o312 P), some (o268 P), some (o267 P), some (o261 P), some (o314 P), some (o315 P), some (o282 P), some (o281 P), some (o289 P), some (o288 P), some (o322 P), some (o321 P)]
noncomputable def q : Program := view pP [0, 2, 3, 4, 5, 6, 7, 9, 10, 11]
noncomputable def loose : List Str := ["_tuplegetter", "Match", "SequenceMatcher"]
noncomputable def run0 (w : World) (os : OsState) : Option SharedT := legs myTable pP w 11 (some (.ref 6)) 400 8 ⟨bootT w.params, 11, (boot_heap w.params).life, Array.mk [], boot_drawn, boot_toks, os⟩ (topStub pP)
noncomputable def topA (w : World) (os : OsState) : Option Bool := (run0 w os).map fun s => looks1 w s.abs
noncomputable def seen0 (s : Shared) := openSeen q loose [] (fun s => xlAt q [] s && recOk [] s) true s
noncomputable def topB (w : World) (os : OsState) := (run0 w os).map fun s => seen0 s.abs
noncomputable def goodB := openGood q loose
noncomputable def topC (w : World) (os : OsState) : Option (List (Option Obj)) := (run0 w os).map fun s => asK.map (getT s)
theorem twA : (fun (_ : World → OsState → Option Bool) => true) topA = true := by k_qdec
theorem twB : (fun _ => true) topB = true := by k_qdec
theorem twC : (fun _ => true) topC = true := by k_qdec
theorem twG : (fun _ => true) goodB = true := by k_qdec
theorem twK : (fun _ => true) kS = true := by k_qdec
theorem topA_ok (w : World) : topA w = fun _ => some true := by
  rw [PySem.W.Fast.te5067563107919825018]; kernel_rfl
theorem topB_ok (w : World) : topB w = fun _ => some goodB := by
  rw [PySem.W.Fast.te2543148203304448840, PySem.W.Fast.te4040843021490743674]; kernel_rfl
theorem topC_ok (w : World) : topC w = fun _ => some (kS w.params) := by
  rw [PySem.W.Fast.te17501544405551553966, PySem.W.Fast.te4783089825950041704]; kernel_rfl

theorem kS_eq (P : Params) : kS P = ((K P).map (·.2)).map some := rfl
theorem run_ok (w : World) (os : OsState) : ∃ r, run0 w os = some r ∧ looks1 w r.abs = true ∧ seen0 r.abs = goodB ∧ asK.map (getT r) = kS w.params := by
  have a := congrFun (topA_ok w) os
  have b := congrFun (topB_ok w) os
  have c := congrFun (topC_ok w) os
  unfold topA at a
  unfold topB at b
  unfold topC at c
  cases h : run0 w os with
  | none => rw [h] at a; cases a
  | some r =>
    rw [h] at a b c
    exact ⟨r, rfl, Option.some.inj a, Option.some.inj b, Option.some.inj c⟩
theorem imp0 : importedModules pP.main.body = [] := by kernel_rfl
theorem open0 (w : World) : (fencedOpening treeTable pP w 6000).map (fun s => (s.heap, s.gens, s.drawn, s.toks)) = some (boot_heap w.params, Array.mk [], boot_drawn, boot_toks) :=
  boot_open (p := pP) (N := 6000) (by kernel_rfl) (by rfl) (fun s => by kernel_rfl) w
theorem size1 (w : World) : ((boot_heap w.params).isNs mainGlobals && (Array.mk ([] : List GenState)).size == 0) = true := by kernel_rfl
theorem size2 (w : World) : (boot_heap w.params).objs.size = 11 := by kernel_rfl
theorem size3 (w : World) : (boot_heap w.params).nsMap mainGlobals "__annotations__" = some (.ref 6) := by kernel_rfl
theorem boot_s (w : World) (os : OsState) : (⟨bootT w.params, 11, (boot_heap w.params).life, Array.mk [], boot_drawn, boot_toks, os⟩ : SharedT).abs = ⟨boot_heap w.params, Array.mk [], boot_drawn, boot_toks, os⟩ := by
  unfold SharedT.abs; rw [boot_abs]
noncomputable abbrev Hk : Hook := kHook K asK fun _ => rfl
theorem from0 (w : World) (os : OsState) : ∃ r : SharedT, topFrom treeTable pP w 6000 ⟨boot_heap w.params, Array.mk [], boot_drawn, boot_toks, os⟩ = some r.abs ∧ seen0 r.abs = goodB ∧ asK.map r.abs.heap.get? = (K w.params).map fun p => some p.2 := by
  obtain ⟨r, h1, h2, h3, h4⟩ := run_ok w os
  unfold run0 at h1
  obtain ⟨M, hM, hr⟩ := legs_run 8 _ _ _ h1
  have hr := runT_of _ _ _ _ hr
  have hr := topRun_mono (6000 - M) _ _ _ _ hr
  rw [show M + (6000 - M) = 6000 by omega, ← table_my, boot_s] at hr
  refine ⟨r, ?_, h3, ?_⟩
  · unfold topFrom
    dsimp only
    rw [size1, size2, size3, hr, imp0]
    unfold looks1 at h2
    show (match staticsOk [] (boot_heap w.params) r.abs.heap && namesBound pP r.abs.heap && gensDone r.abs && laidKept (boot_heap w.params) r.abs.heap with | true => some r.abs | false => none) = _
    rw [h2]
  · rw [kS_eq] at h4
    rw [getT_all h4, List.map_map]
    rfl
theorem left : LeftO pP q loose (fun s => xlAt q [] s && recOk [] s) Hk.obs Hk.val 6000 := by
  intro w
  obtain ⟨⟨h, gs, d, k, os⟩, e, e'⟩ := Option.map_eq_some_iff.mp (open0 w)
  dsimp only at e'
  obtain ⟨e1, e2, e3, e4⟩ : h = boot_heap w.params ∧ gs = Array.mk [] ∧ d = boot_drawn ∧ k = boot_toks := by simpa only [Prod.mk.injEq] using e'
  subst e1 e2 e3 e4
  obtain ⟨r, t, h3, h4⟩ := from0 w os
  unfold openEnds
  rw [e, imp0, Option.bind_some, t, Option.map_some]
  unfold seen0 goodB at h3
  refine congrArg some ?_
  rw [h3]
  exact congrArg (Prod.mk _) h4
end Mine
section
open PySem PySem.W PyProof.Rows PySem.W.X
namespace Mine
/-- values without their tokens and addresses -/
inductive V where
  | none
  | bool (b : Bool)
  | int (i : Int)
  | flt (x : UInt64)
  | str (s : Str)
  | ty (n : String)
  | bi (n : String)
  | st (a : Nat)
  | ref (i : Nat)
  | rng (a b : Int)
  | tup (xs : List V)
  | sub (c : Nat) (xs : List V)
noncomputable abbrev Names := List (Str × Option V)
noncomputable def getL (m : Names) (x : Str) : Option V := (m.lookup x).join
noncomputable def setL : Names → Str → V → Names
  | [], x, v => [(x, some v)]
  | (y, u) :: m, x, v => if x = y then (y, some v) :: m else (y, u) :: setL m x v
theorem getL_setL (m : Names) (x : Str) (v : V) (y : Str) : getL (setL m x v) y = if y = x then some v else getL m y := by
  induction m with
  | nil =>
    unfold setL getL
    rw [List.lookup_cons]
    by_cases e : y = x
    · rw [if_pos e, e, beq_self_eq_true]; rfl
    · rw [if_neg e, show (y == x) = false by simpa using e]
  | cons p m ih =>
    obtain ⟨z, u⟩ := p
    unfold setL
    by_cases e : x = z
    · rw [if_pos e]
      unfold getL
      rw [List.lookup_cons, List.lookup_cons]
      by_cases q : y = x
      · rw [if_pos q, q, e, beq_self_eq_true]; rfl
      · have : (y == z) = false := by simpa using (fun h => q (h.trans e.symm))
        rw [if_neg q, this]
    · rw [if_neg e]
      unfold getL at ih ⊢
      rw [List.lookup_cons, List.lookup_cons]
      by_cases q : y = z
      · rw [show (y == z) = true by simpa using q, if_neg (fun h => e (h.symm.trans q))]
      · rw [show (y == z) = false by simpa using q]
        exact ih
/-- a frame's kind: its scope; are its cells its own -/
structure FI where
  sc : Scope
  own : Bool
  co : Value
noncomputable def ownA (fi : FI) (env : Env) : List Nat := if fi.own = true then env.locals :: env.cells.map (·.2) else [env.locals]
theorem loc_own (fi : FI) (env : Env) : env.locals ∈ ownA fi env := by unfold ownA; split <;> exact .head _
/-- the objects that a call owns, without addresses; a generator that has not begun; one that is used up -/
inductive O where
  | list (xs : List V)
  | arr (xs : List V)
  | inst (C : Nat) (fs : List (Str × V))
  | tbl (P : Nat) (ps : Array Value)
  | fresh (fi : FI) (body : List Stmt) (m : Names)
  | gone
structure Ent where
  a : Nat
  fp : List Nat
  g : Option (Nat × Env)
noncomputable abbrev Base := Nat → Option Obj
noncomputable def KeepG (F : Base) (h : Heap) : Prop := ∀ b o, F b = some o → h.get? b = some o
noncomputable abbrev Keep (h h' : Heap) : Prop := ∀ b o, h.get? b = some o → h'.get? b = some o
/-- objects that are never turned -/
noncomputable def Imm (o : Obj) : Prop := ((∃ xs n, o.data = .seq xs n) ∧ o.cls ≠ .type "list") ∨ (o.cls = .type "range" ∧ ∃ vs, o.data = .fields vs)
noncomputable def TK (h h' : Heap) : Prop := ∀ b o, h.get? b = some o → Imm o → h'.get? b = some o
theorem TK.refl (h : Heap) : TK h h := fun _ _ e _ => e
theorem TK.trans {h h' h'' : Heap} (x : TK h h') (y : TK h' h'') : TK h h'' := fun b o e i => y b o (x b o e i) i
theorem TK.of_keep {h h' : Heap} (k : Keep h h') : TK h h' := fun b o e _ => k b o e
theorem TK.of_ext {h h' : Heap} {a : Nat} (x : ∀ b o, b ≠ a → h.get? b = some o → h'.get? b = some o) (ha : ∀ o, h.get? a = some o → ¬ Imm o) : TK h h' := fun b o e i => x b o (fun q => ha o (q ▸ e) i) e
/-- what stands behind the top, in every heap of the call -/
structure Bs (w : World) (KF : Frag) (h : Heap) : Prop where
  k : Frag.In KF h
  g : ∃ mg, h.Ns mainGlobals mg
  lim : h.NoLimit
  bi : ∃ mb, h.Ns builtinsNs mb ∧ ∀ x : Str, x ≠ "__name__" → mb x = bootBuiltins x
  dig : ∃ mc, h.Ns cStatics mc ∧ mc "sys.int_max_str_digits" = none
noncomputable def IsRng (h : Heap) (r : Nat) (a b : Int) : Prop := ∃ t u k, IsRange h r a b 1 t u k
noncomputable def IsSub (h : Heap) (a c : Nat) (vs : Array Value) : Prop := ∃ o, h.get? a = some o ∧ o.cls = .ref c ∧ ∃ n, o.data = .seq vs n
mutual
noncomputable def VR (ρ : List Ent) (h : Heap) : V → Value → Prop
  | .none, v => v = .none
  | .bool b, v => v = .bool b
  | .int i, v => ∃ t, v = .int i t
  | .flt x, v => ∃ t, v = .float x t
  | .str x, v => ∃ t, v = .str x t
  | .ty n, v => v = .type n
  | .bi n, v => v = .builtin n
  | .st a, v => v = .ref a
  | .ref i, v => ∃ e, ρ[i]? = some e ∧ v = .ref e.a
  | .rng a b, v => ∃ r, v = .ref r ∧ IsRng h r a b
  | .tup xs, v => ∃ a vs, v = .ref a ∧ h.IsTuple a vs.toArray ∧ VRs ρ h xs vs
  | .sub c xs, v => ∃ a vs, v = .ref a ∧ IsSub h a c vs.toArray ∧ VRs ρ h xs vs
noncomputable def VRs (ρ : List Ent) (h : Heap) : List V → List Value → Prop
  | [], vs => vs = []
  | x :: xs, vs => ∃ v r, vs = v :: r ∧ VR ρ h x v ∧ VRs ρ h xs r
end
theorem tk_tuple {h h' : Heap} {a : Nat} {vs : Array Value} (k : TK h h') (x : h.IsTuple a vs) : h'.IsTuple a vs := by
  obtain ⟨o, ho, hc, n, hd⟩ := x
  exact ⟨o, k a o ho (.inl ⟨⟨_, _, hd⟩, by rw [hc]; decide⟩), hc, n, hd⟩
theorem tk_sub {h h' : Heap} {a c : Nat} {vs : Array Value} (k : TK h h') (x : IsSub h a c vs) : IsSub h' a c vs := by
  obtain ⟨o, ho, hc, n, hd⟩ := x
  exact ⟨o, k a o ho (.inl ⟨⟨_, _, hd⟩, by rw [hc]; exact fun q => nomatch q⟩), hc, n, hd⟩
theorem tk_rng {h h' : Heap} {r : Nat} {a b : Int} (k : TK h h') (x : IsRng h r a b) : IsRng h' r a b := by
  obtain ⟨t, u, q, ho⟩ := x
  exact ⟨t, u, q, k r _ ho (.inr ⟨rfl, _, rfl⟩)⟩
theorem pre_get {ρ ρ' : List Ent} (p : ρ <+: ρ') {i : Nat} {e : Ent} (h : ρ[i]? = some e) : ρ'[i]? = some e := by
  obtain ⟨t, rfl⟩ := p
  rw [List.getElem?_append_left (List.getElem?_eq_some_iff.mp h).1]
  exact h
mutual
theorem VR.mono {ρ ρ' : List Ent} {h h' : Heap} (p : ρ <+: ρ') (k : TK h h') : ∀ {x : V} {v : Value}, VR ρ h x v → VR ρ' h' x v
  | .none, v, r => by unfold VR at r ⊢; exact r
  | .bool b, v, r => by unfold VR at r ⊢; exact r
  | .int i, v, r => by unfold VR at r ⊢; exact r
  | .flt x, v, r => by unfold VR at r ⊢; exact r
  | .str x, v, r => by unfold VR at r ⊢; exact r
  | .ty n, v, r => by unfold VR at r ⊢; exact r
  | .bi n, v, r => by unfold VR at r ⊢; exact r
  | .st a, v, r => by unfold VR at r ⊢; exact r
  | .ref i, v, r => by unfold VR at r ⊢; obtain ⟨e, q, z⟩ := r; exact ⟨e, pre_get p q, z⟩
  | .rng a b, v, r => by unfold VR at r ⊢; obtain ⟨e, q, z⟩ := r; exact ⟨e, q, tk_rng k z⟩
  | .tup xs, v, r => by unfold VR at r ⊢; obtain ⟨a, vs, q, z, y⟩ := r; exact ⟨a, vs, q, tk_tuple k z, VRs.mono p k y⟩
  | .sub c xs, v, r => by unfold VR at r ⊢; obtain ⟨a, vs, q, z, y⟩ := r; exact ⟨a, vs, q, tk_sub k z, VRs.mono p k y⟩
theorem VRs.mono {ρ ρ' : List Ent} {h h' : Heap} (p : ρ <+: ρ') (k : TK h h') : ∀ {xs : List V} {vs : List Value}, VRs ρ h xs vs → VRs ρ' h' xs vs
  | [], vs, r => by unfold VRs at r ⊢; exact r
  | x :: xs, vs, r => by unfold VRs at r ⊢; obtain ⟨v, q, e, a, b⟩ := r; exact ⟨v, q, e, VR.mono p k a, VRs.mono p k b⟩
end
theorem VRs.nil {ρ : List Ent} {h : Heap} : VRs ρ h [] [] := by unfold VRs; rfl
theorem VRs.cons {ρ : List Ent} {h : Heap} {x : V} {v : Value} {xs : List V} {vs : List Value} (a : VR ρ h x v) (b : VRs ρ h xs vs) : VRs ρ h (x :: xs) (v :: vs) := by unfold VRs; exact ⟨v, vs, rfl, a, b⟩
theorem VRs.nil_eq {ρ : List Ent} {h : Heap} {vs : List Value} (r : VRs ρ h [] vs) : vs = [] := by unfold VRs at r; exact r
theorem VRs.cons_eq {ρ : List Ent} {h : Heap} {x : V} {xs : List V} {vs : List Value} (r : VRs ρ h (x :: xs) vs) : ∃ v q, vs = v :: q ∧ VR ρ h x v ∧ VRs ρ h xs q := by unfold VRs at r; exact r
theorem VRs.len {ρ : List Ent} {h : Heap} : ∀ {xs : List V} {vs : List Value}, VRs ρ h xs vs → vs.length = xs.length
  | [], vs, r => by rw [r.nil_eq]; rfl
  | x :: xs, vs, r => by obtain ⟨v, q, rfl, _, b⟩ := r.cons_eq; rw [List.length_cons, List.length_cons, VRs.len b]
theorem VRs.get {ρ : List Ent} {h : Heap} : ∀ {xs : List V} {vs : List Value} {i : Nat} {x : V}, VRs ρ h xs vs → xs[i]? = some x → ∃ v, vs[i]? = some v ∧ VR ρ h x v
  | [], _, _, _, _, e => by cases e
  | x :: xs, vs, 0, y, r, e => by obtain ⟨v, q, rfl, a, _⟩ := r.cons_eq; cases e; exact ⟨v, rfl, a⟩
  | x :: xs, vs, i + 1, y, r, e => by obtain ⟨v, q, rfl, _, b⟩ := r.cons_eq; exact VRs.get (xs := xs) (i := i) b (by simpa using e)
theorem VRs.get' {ρ : List Ent} {h : Heap} : ∀ {xs : List V} {vs : List Value} {i : Nat} {v : Value}, VRs ρ h xs vs → vs[i]? = some v → ∃ x, xs[i]? = some x ∧ VR ρ h x v
  | [], vs, _, _, r, e => by rw [r.nil_eq] at e; cases e
  | x :: xs, vs, 0, y, r, e => by obtain ⟨v, q, rfl, a, _⟩ := r.cons_eq; cases e; exact ⟨x, rfl, a⟩
  | x :: xs, vs, i + 1, y, r, e => by obtain ⟨v, q, rfl, _, b⟩ := r.cons_eq; exact VRs.get' (vs := q) (i := i) b (by simpa using e)
theorem VRs.append {ρ : List Ent} {h : Heap} : ∀ {xs : List V} {vs : List Value} {ys : List V} {us : List Value}, VRs ρ h xs vs → VRs ρ h ys us → VRs ρ h (xs ++ ys) (vs ++ us)
  | [], vs, _, _, r, y => by rw [r.nil_eq]; exact y
  | x :: xs, vs, _, _, r, y => by obtain ⟨v, q, rfl, a, b⟩ := r.cons_eq; exact .cons a (VRs.append b y)
theorem VRs.set {ρ : List Ent} {h : Heap} {x : V} {v : Value} (a : VR ρ h x v) : ∀ {xs : List V} {vs : List Value} (n : Nat), VRs ρ h xs vs → VRs ρ h (xs.set n x) (vs.set n v)
  | [], vs, n, r => by rw [r.nil_eq]; exact .nil
  | y :: xs, vs, 0, r => by obtain ⟨u, q, rfl, _, b⟩ := r.cons_eq; exact .cons a b
  | y :: xs, vs, n + 1, r => by obtain ⟨u, q, rfl, c, b⟩ := r.cons_eq; exact .cons c (VRs.set a n b)
/-- what is known of a name; none: nothing -/
noncomputable def OVR (ρ : List Ent) (h : Heap) : Option V → Option Value → Prop
  | none, _ => True
  | some x, some v => VR ρ h x v
  | some _, none => False
theorem OVR.mono {ρ ρ' : List Ent} {h h' : Heap} (p : ρ <+: ρ') (k : TK h h') : ∀ {x : Option V} {v : Option Value}, OVR ρ h x v → OVR ρ' h' x v
  | none, _, _ => trivial
  | some _, some _, r => VR.mono p k r
  | some _, none, r => r.elim
theorem OVR.some_of {ρ : List Ent} {h : Heap} {x : V} {v : Option Value} (r : OVR ρ h (some x) v) : ∃ u, v = some u ∧ VR ρ h x u := by
  cases v with
  | none => exact r.elim
  | some u => exact ⟨u, rfl, r⟩
noncomputable def fps (ρ : List Ent) : List Nat := ρ.flatMap (·.fp)
/-- an instance's dict -/
noncomputable def FsR (ρ : List Ent) (h : Heap) (fs : List (Str × V)) (mA : Str → Option Value) : Prop := ∀ n, match fs.lookup n with | some v => ∃ u, mA n = some u ∧ VR ρ h v u | none => mA n = none
theorem FsR.mono {ρ ρ' : List Ent} {h h' : Heap} {fs : List (Str × V)} {mA : Str → Option Value} (x : FsR ρ h fs mA) (p : ρ <+: ρ') (k : TK h h') : FsR ρ' h' fs mA := fun n => by
  have := x n
  split at this
  · obtain ⟨u, h1, h2⟩ := this; exact ⟨u, h1, h2.mono p k⟩
  · exact this
/-- rows of a code's table: line, column, code -/
noncomputable def Triples (l : List Value) : Prop := TriplesOk l
/-- a frame that stands -/
structure FrameAt (fi : FI) (env : Env) (m : Names) (ρ : List Ent) (h : Heap) : Prop where
  es : env.scope = fi.sc
  eg : env.globals = mainGlobals
  eb : env.builtins = builtinsNs
  ec : env.code = fi.co
  ek : fi.sc.kind = .function
  ns : ∃ mv, h.Ns env.locals mv ∧ ∀ x, fi.sc.names.lookup x = some .local → OVR ρ h (getL m x) (mv x)
  cl : ∀ x c, env.cells.lookup x = some c → ∃ ov, h.IsCell c ov ∧ OVR ρ h (getL m x) ov
  ce : ∀ x, (fi.sc.names.lookup x = some .cell ∨ fi.sc.names.lookup x = some .free) → ∃ c, env.cells.lookup x = some c
  cn : ∀ x, fi.sc.names.lookup x = some .local → env.cells.lookup x = none
  cu : ∀ x c, (x, c) ∈ env.cells → env.cells.lookup x = some c ∧ c ≠ env.locals
  cd : env.cells.Pairwise fun x y => x.2 ≠ y.2
theorem FrameAt.mono {fi : FI} {env : Env} {m : Names} {ρ ρ' : List Ent} {h h' : Heap} (f : FrameAt fi env m ρ h) (hw : fi.own = true) (p : ρ <+: ρ') (t : TK h h') (hk : ∀ b ∈ ownA fi env, ∀ q, h.get? b = some q → h'.get? b = some q) : FrameAt fi env m ρ' h' := by
  refine ⟨f.es, f.eg, f.eb, f.ec, f.ek, ?_, fun x c hc => ?_, f.ce, f.cn, f.cu, f.cd⟩
  · obtain ⟨mv, ⟨o, es, ep, ho, r⟩, hv⟩ := f.ns
    exact ⟨mv, ⟨o, es, ep, hk _ (loc_own fi env) o ho, r⟩, fun x hx => (hv x hx).mono p t⟩
  · obtain ⟨ov, ⟨o, ho, hd⟩, hv⟩ := f.cl x c hc
    exact ⟨ov, ⟨o, hk c (by unfold ownA; rw [if_pos hw]; exact .tail _ (List.mem_map.mpr ⟨_, mem_of_lookup hc, rfl⟩)) o ho, hd⟩, hv.mono p t⟩
/-- what a generator's number stands for -/
noncomputable def GR (gs : Array GenState) (e : Ent) : O → Prop
  | .fresh _ body _ => ∃ g env, e.g = some (g, env) ∧ gs[g]? = some (.fresh (.func body env))
  | .gone => ∀ x, e.g = some x → x.1 < gs.size
  | _ => True
noncomputable def OR (F : Base) (ρ : List Ent) (h : Heap) (e : Ent) : O → Prop
  | .list xs => e.fp = [e.a] ∧ e.g = none ∧ ∃ vs : List Value, h.PlainList e.a vs.toArray ∧ VRs ρ h xs vs
  | .arr xs => e.fp = [] ∧ e.g = none ∧ (∃ vs : List Value, h.IsList e.a vs.toArray ∧ VRs ρ h xs vs) ∧ (F e.a).isSome = true
  | .inst C fs => e.g = none ∧ ∃ dx, e.fp = [e.a, dx] ∧ ∃ o mA, h.get? e.a = some o ∧ o.cls = .ref C ∧ (∀ c, o.data ≠ .cls c) ∧ o.dict = some dx ∧ h.Ns1 dx mA ∧ FsR ρ h fs mA
  | .tbl P ps => e.a = P ∧ e.fp = [e.a] ∧ e.g = none ∧ ∃ more : List Value, Triples (ps.toList ++ more) ∧ h.get? e.a = some { cls := .none, data := .fields (ps ++ more.toArray) }
  | .fresh fi body m => ∃ g env, e.g = some (g, env) ∧ e.fp = e.a :: ownA fi env ∧ h.IsGen e.a g ∧ fi.own = true ∧ interactive env = false ∧ FrameAt fi env m ρ h
  | .gone => e.a ∈ e.fp ∨ e.g.isSome = true
theorem isList_at {h h' : Heap} {a : Nat} {xs : Array Value} (x : h.IsList a xs) (hk : ∀ o, h.get? a = some o → h'.get? a = some o) : h'.IsList a xs := let ⟨o, ho, r⟩ := x; ⟨o, hk _ ho, r⟩
theorem ns1_at {h h' : Heap} {a : Nat} {m : Str → Option Value} (x : h.Ns1 a m) (hk : ∀ o, h.get? a = some o → h'.get? a = some o) : h'.Ns1 a m := by
  obtain ⟨o, es, ep, ho, r⟩ := x
  exact ⟨o, es, ep, hk _ ho, r⟩
/-- an object of the call's stands where nothing of its own is touched -/
theorem OR.mono {F : Base} {ρ ρ' : List Ent} {h h' : Heap} {e : Ent} {o : O} (x : OR F ρ h e o) (p : ρ <+: ρ') (t : TK h h') (kF : KeepG F h) (kF' : KeepG F h') (hk : ∀ b ∈ e.fp, ∀ q, h.get? b = some q → h'.get? b = some q) : OR F ρ' h' e o := by
  cases o with
  | list xs =>
    obtain ⟨a, b, vs, l, r⟩ := x
    exact ⟨a, b, vs, l.at (hk e.a (by rw [a]; exact .head _)), r.mono p t⟩
  | arr xs =>
    obtain ⟨a, b, ⟨vs, l, r⟩, f⟩ := x
    obtain ⟨q, hq⟩ := Option.isSome_iff_exists.mp f
    exact ⟨a, b, ⟨vs, isList_at l (fun o ho => by rw [kF _ _ hq] at ho; cases ho; exact kF' _ _ hq), r.mono p t⟩, f⟩
  | inst C fs =>
    obtain ⟨a, dx, b, o, mA, h1, h2, h3, h4, h6, h7⟩ := x
    exact ⟨a, dx, b, o, mA, hk e.a (by rw [b]; exact .head _) _ h1, h2, h3, h4, ns1_at h6 (hk dx (by rw [b]; exact .tail _ (.head _))), h7.mono p t⟩
  | tbl P ps =>
    obtain ⟨z, a, b, more, h0, h1⟩ := x
    exact ⟨z, a, b, more, h0, hk e.a (by rw [a]; exact .head _) _ h1⟩
  | fresh fi body m =>
    obtain ⟨g, env, h1, h2, ⟨o, nm, qn, ho, r⟩, h4, h5, h6⟩ := x
    exact ⟨g, env, h1, h2, ⟨o, nm, qn, hk e.a (by rw [h2]; exact .head _) _ ho, r⟩, h4, h5, h6.mono h4 p t fun b hb => hk b (by rw [h2]; exact .tail _ hb)⟩
  | gone => exact x
theorem OR.base {F F' : Base} {ρ : List Ent} {h : Heap} {e : Ent} {o : O} (x : OR F ρ h e o) (hF : ∀ b o, F b = some o → F' b = some o) : OR F' ρ h e o := by
  cases o with
  | arr xs =>
    obtain ⟨a, b, l, f⟩ := x
    obtain ⟨q, hq⟩ := Option.isSome_iff_exists.mp f
    exact ⟨a, b, l, by rw [hF _ _ hq]; rfl⟩
  | _ => exact x
theorem OR.own {F : Base} {ρ : List Ent} {h : Heap} {e : Ent} {o : O} (x : OR F ρ h e o) : (∃ xs, o = .arr xs) ∨ e.a ∈ e.fp ∨ e.g.isSome = true := by
  cases o with
  | arr xs => exact .inl ⟨xs, rfl⟩
  | list xs => right; left; rw [x.1]; exact .head _
  | inst C fs => right; left; obtain ⟨_, dx, b, _⟩ := x; rw [b]; exact .head _
  | tbl P ps => right; left; rw [x.2.1]; exact .head _
  | fresh fi body m => right; left; obtain ⟨g, env, h1, h2, _⟩ := x; rw [h2]; exact .head _
  | gone => exact .inr x
/-- the heap of a call: the base F, the objects H at ρ -/
structure HSim (w : World) (KF : Frag) (F : Base) (ρ : List Ent) (H : List O) (h : Heap) (gs : Array GenState) : Prop where
  bs : ∀ h', KeepG F h' → Bs w KF h'
  keep : KeepG F h
  len : ρ.length = H.length
  ob : ∀ (i : Nat) e o, ρ[i]? = some e → H[i]? = some o → OR F ρ h e o
  live : ∀ b ∈ fps ρ, ∃ o, h.get? b = some o
  nd : (fps ρ).Nodup
  off : ∀ b ∈ fps ρ, F b = none
  gn : ((ρ.filterMap (·.g)).map (·.1)).Nodup
  bare : ∀ x ∈ gs, x.bare = true
  gf : ∀ (i : Nat) e o, ρ[i]? = some e → H[i]? = some o → GR gs e o
theorem get_size (h : Heap) : h.get? h.objs.size = none := by
  cases q : h.get? h.objs.size with
  | none => rfl
  | some o => exact absurd (Heap.lt_size q) (Nat.lt_irrefl _)
theorem fps_mem {ρ : List Ent} {i : Nat} {e : Ent} (h : ρ[i]? = some e) {b : Nat} (hb : b ∈ e.fp) : b ∈ fps ρ := List.mem_flatMap.mpr ⟨e, List.mem_of_getElem? h, hb⟩
theorem fps_apart {ρ : List Ent} (nd : (fps ρ).Nodup) {i j : Nat} {e f : Ent} (hi : ρ[i]? = some e) (hj : ρ[j]? = some f) (hij : i ≠ j) {b : Nat} (hb : b ∈ e.fp) : b ∉ f.fp := by
  induction ρ generalizing i j with
  | nil => cases hi
  | cons x ρ ih =>
    have nd' : (x.fp ++ fps ρ).Nodup := nd
    obtain ⟨n1, n2, n3⟩ := List.nodup_append.mp nd'
    cases i with
    | zero =>
      cases hi
      cases j with
      | zero => exact absurd rfl hij
      | succ j => exact fun q => n3 b hb b (fps_mem (ρ := ρ) hj q) rfl
    | succ i =>
      cases j with
      | zero => cases hj; exact fun q => n3 b q b (fps_mem (ρ := ρ) hi hb) rfl
      | succ j => exact ih n2 hi hj (fun q => hij (congrArg Nat.succ q))
section
variable {w : World} {KF : Frag} {F : Base} {ρ ρ' : List Ent} {H : List O} {h h' : Heap} {gs : Array GenState}
theorem HSim.b (S : HSim w KF F ρ H h gs) : Bs w KF h := S.bs _ S.keep
theorem HSim.keeps (S : HSim w KF F ρ H h gs) (k : Keep h h') : HSim w KF F ρ H h' gs := by
  have kF : KeepG F h' := fun b o e => k b o (S.keep b o e)
  exact ⟨S.bs, kF, S.len, fun i e o hi ho => (S.ob i e o hi ho).mono (List.prefix_refl _) (.of_keep k) S.keep kF (fun b _ q hq => k b q hq), fun b hb => let ⟨o, ho⟩ := S.live b hb; ⟨o, k b o ho⟩, S.nd, S.off, S.gn, S.bare, S.gf⟩
theorem HSim.glt (S : HSim w KF F ρ H h gs) {e : Ent} (he : e ∈ ρ) {x : Nat × Env} (hx : e.g = some x) : x.1 < gs.size := by
  obtain ⟨i, hi, rfl⟩ := List.mem_iff_getElem.mp he
  have hi' := List.getElem?_eq_getElem hi
  have hH : i < H.length := by rw [← S.len]; exact hi
  have y := S.ob i _ _ hi' (List.getElem?_eq_getElem hH)
  have z := S.gf i _ _ hi' (List.getElem?_eq_getElem hH)
  cases q : H[i] with
  | list xs => rw [q] at y; rw [y.2.1] at hx; cases hx
  | arr xs => rw [q] at y; rw [y.2.1] at hx; cases hx
  | inst C fs => rw [q] at y; rw [y.1] at hx; cases hx
  | tbl P ps => rw [q] at y; rw [y.2.2.1] at hx; cases hx
  | fresh fi body m =>
    rw [q] at z
    obtain ⟨g, env, h1, h2⟩ := z
    rw [h1] at hx; cases hx
    exact (Array.getElem?_eq_some_iff.mp h2).1
  | gone => rw [q] at z; exact z x hx
/-- one object turned; nothing else is touched -/
theorem HSim.upd (S : HSim w KF F ρ H h gs) {i : Nat} {e : Ent} {o' : O} (hi : ρ[i]? = some e) (hk : ∀ b o, b ∉ e.fp → h.get? b = some o → h'.get? b = some o) (hl : ∀ b ∈ e.fp, ∃ o, h'.get? b = some o) (t : TK h h') (ho' : OR F ρ h' e o') (hG : GR gs e o' := by trivial) : HSim w KF F ρ (H.set i o') h' gs := by
  have kF : KeepG F h' := fun b o q => hk b o (fun m => by rw [S.off b (fps_mem hi m)] at q; cases q) (S.keep b o q)
  refine ⟨S.bs, kF, by rw [List.length_set]; exact S.len, fun j f o hj ho => ?_, fun b hb => ?_, S.nd, S.off, S.gn, S.bare, fun j f o hj ho => ?_⟩
  · by_cases q : i = j
    · subst q
      rw [hi] at hj
      cases hj
      rw [List.getElem?_set_self (by have := (List.getElem?_eq_some_iff.mp ho).1; rw [List.length_set] at this; exact this)] at ho
      cases ho
      exact ho'
    · rw [List.getElem?_set_ne q] at ho
      exact (S.ob j f o hj ho).mono (List.prefix_refl _) t S.keep kF (fun b hb o2 h2 => hk b o2 (fps_apart S.nd hj hi (Ne.symm q) hb) h2)
  · by_cases q : b ∈ e.fp
    · exact hl b q
    · obtain ⟨o, ho⟩ := S.live b hb
      exact ⟨o, hk b o q ho⟩
  · by_cases q : i = j
    · subst q
      rw [hi] at hj
      cases hj
      rw [List.getElem?_set_self (by have := (List.getElem?_eq_some_iff.mp ho).1; rw [List.length_set] at this; exact this)] at ho
      cases ho
      exact hG
    · rw [List.getElem?_set_ne q] at ho
      exact S.gf j f o hj ho
/-- an object that was nobody's -/
theorem HSim.adoptG (S : HSim w KF F ρ H h gs) {a : Nat} {r : List Nat} {o : O} {gg : Option (Nat × Env)} (nd : (a :: r).Nodup) (ha : ∀ b ∈ a :: r, b ∉ fps ρ ∧ F b = none ∧ ∃ q, h.get? b = some q) (ho : OR F (ρ ++ [⟨a, a :: r, gg⟩]) h ⟨a, a :: r, gg⟩ o) (hg : ∀ x, gg = some x → ∀ f ∈ ρ, ∀ y, f.g = some y → y.1 ≠ x.1) (hG : GR gs ⟨a, a :: r, gg⟩ o) : HSim w KF F (ρ ++ [⟨a, a :: r, gg⟩]) (H ++ [o]) h gs := by
  have hf : fps (ρ ++ [⟨a, a :: r, gg⟩]) = fps ρ ++ (a :: r) := by simp [fps]
  refine ⟨S.bs, S.keep, by rw [List.length_append, List.length_append, S.len]; rfl, fun i e o' hi ho' => ?_, fun b hb => ?_, ?_, fun b hb => ?_, ?_, S.bare, fun i e o' hi ho' => ?_⟩
  · by_cases q : i < ρ.length
    · rw [List.getElem?_append_left q] at hi
      rw [List.getElem?_append_left (by rw [← S.len]; exact q)] at ho'
      exact (S.ob i e o' hi ho').mono (List.prefix_append _ _) (.refl _) S.keep S.keep (fun b _ q hq => hq)
    · have hi' : i = ρ.length := by
        have := (List.getElem?_eq_some_iff.mp hi).1
        rw [List.length_append] at this
        simp at this
        omega
      subst hi'
      rw [List.getElem?_concat_length] at hi
      cases hi
      rw [S.len, List.getElem?_concat_length] at ho'
      cases ho'
      exact ho
  · rw [hf] at hb
    rcases List.mem_append.mp hb with m | m
    · exact S.live b m
    · exact (ha b m).2.2
  · rw [hf, List.nodup_append]
    refine ⟨S.nd, nd, fun x hx y hy q => (ha y hy).1 (q ▸ hx)⟩
  · rw [hf] at hb
    rcases List.mem_append.mp hb with m | m
    · exact S.off b m
    · exact (ha b m).2.1
  · rw [List.filterMap_append, List.map_append]
    cases gg with
    | none => simpa using S.gn
    | some x =>
      refine List.nodup_append.mpr ⟨S.gn, by simp, fun n hn k hk q => ?_⟩
      obtain ⟨y, hy, rfl⟩ := List.mem_map.mp hn
      obtain ⟨f, hf1, hf2⟩ := List.mem_filterMap.mp hy
      have hk : k = x.1 := by simpa using hk
      exact hg x rfl f hf1 y hf2 (q.trans hk)
  · by_cases q : i < ρ.length
    · rw [List.getElem?_append_left q] at hi
      rw [List.getElem?_append_left (by rw [← S.len]; exact q)] at ho'
      exact S.gf i e o' hi ho'
    · have hi' : i = ρ.length := by
        have := (List.getElem?_eq_some_iff.mp hi).1
        rw [List.length_append] at this
        simp at this
        omega
      subst hi'
      rw [List.getElem?_concat_length] at hi
      cases hi
      rw [S.len, List.getElem?_concat_length] at ho'
      cases ho'
      exact hG
theorem HSim.adopt (S : HSim w KF F ρ H h gs) {a : Nat} {r : List Nat} {o : O} (nd : (a :: r).Nodup) (ha : ∀ b ∈ a :: r, b ∉ fps ρ ∧ F b = none ∧ ∃ q, h.get? b = some q) (ho : OR F (ρ ++ [⟨a, a :: r, none⟩]) h ⟨a, a :: r, none⟩ o) (hG : GR gs ⟨a, a :: r, none⟩ o := by trivial) : HSim w KF F (ρ ++ [⟨a, a :: r, none⟩]) (H ++ [o]) h gs :=
  S.adoptG nd ha ho (fun _ q => nomatch q) hG
theorem HSim.dead (S : HSim w KF F ρ H h gs) {b : Nat} (hb : h.get? b = none) : b ∉ fps ρ ∧ F b = none := by
  refine ⟨fun m => ?_, ?_⟩
  · obtain ⟨o, q⟩ := S.live b m; rw [hb] at q; cases q
  · cases q : F b with
    | none => rfl
    | some o => rw [S.keep _ _ q] at hb; cases hb
/-- a new object -/
theorem HSim.alloc (S : HSim w KF F ρ H h gs) {a : Nat} {o : O} (k : Keep h h') (ha : h.get? a = none) (hl : ∃ q, h'.get? a = some q) (ho : OR F (ρ ++ [⟨a, [a], none⟩]) h' ⟨a, [a], none⟩ o) (hG : GR gs ⟨a, [a], none⟩ o := by trivial) : HSim w KF F (ρ ++ [⟨a, [a], none⟩]) (H ++ [o]) h' gs := by
  have d := S.dead ha
  exact (S.keeps k).adopt (r := []) (List.nodup_cons.mpr ⟨fun q => (nomatch q), List.nodup_nil⟩) (fun b hb => by rw [List.mem_singleton.mp hb]; exact ⟨d.1, d.2, hl⟩) ho hG
end
end Mine
end
section
open PySem PySem.W PyProof.Rows PySem.W.X
namespace Mine
noncomputable def addF (F : Base) (h : Heap) (as : List Nat) : Base := fun b => if b ∈ as then h.get? b else F b
theorem addF_in {F : Base} {h : Heap} {as : List Nat} {b : Nat} (hb : b ∈ as) : addF F h as b = h.get? b := if_pos hb
theorem addF_out {F : Base} {h : Heap} {as : List Nat} {b : Nat} (hb : b ∉ as) : addF F h as b = F b := if_neg hb
structure Sim (w : World) (KF : Frag) (fi : FI) (env : Env) (m : Names) (F : Base) (ρ : List Ent) (H : List O) (h : Heap) (gs : Array GenState) : Prop where
  hs : HSim w KF F ρ H h gs
  es : env.scope = fi.sc
  eg : env.globals = mainGlobals
  eb : env.builtins = builtinsNs
  ec : env.code = fi.co
  ek : fi.sc.kind = .function
  lo : ∀ b ∈ ownA fi env, F b = none ∧ b ∉ fps ρ
  ns : ∃ mv, h.Ns env.locals mv ∧ ∀ x, fi.sc.names.lookup x = some .local → OVR ρ h (getL m x) (mv x)
  cl : ∀ x c, env.cells.lookup x = some c → ∃ ov, h.IsCell c ov ∧ OVR ρ h (getL m x) ov
  ce : ∀ x, (fi.sc.names.lookup x = some .cell ∨ fi.sc.names.lookup x = some .free) → ∃ c, env.cells.lookup x = some c
  cn : ∀ x, fi.sc.names.lookup x = some .local → env.cells.lookup x = none
  cu : ∀ x c, (x, c) ∈ env.cells → env.cells.lookup x = some c ∧ c ≠ env.locals
  cd : env.cells.Pairwise fun x y => x.2 ≠ y.2
  cf : fi.own = false → ∀ x c, (x, c) ∈ env.cells → (F c).isSome = true
section
variable {w : World} {KF : Frag} {fi : FI} {env : Env} {m : Names} {F : Base} {ρ ρ' : List Ent} {H H' : List O} {h h' : Heap} {gs gs' : Array GenState}
theorem Sim.kind (S : Sim w KF fi env m F ρ H h gs) (x : Str) : env.kindOf x = fi.sc.names.lookup x := by unfold Env.kindOf; rw [S.es]
theorem Sim.kd (S : Sim w KF fi env m F ρ H h gs) : env.scope.kind = .function := by rw [S.es]; exact S.ek
theorem Sim.b (S : Sim w KF fi env m F ρ H h gs) : Bs w KF h := S.hs.b
theorem Sim.cell_own (S : Sim w KF fi env m F ρ H h gs) {x : Str} {c : Nat} (hc : (x, c) ∈ env.cells) : c ∈ ownA fi env ∨ (F c).isSome = true := by
  cases q : fi.own with
  | true => left; unfold ownA; rw [if_pos q]; exact .tail _ (List.mem_map.mpr ⟨_, hc, rfl⟩)
  | false => exact .inr (S.cf q x c hc)
theorem lookup_mem {cs : List (Str × Nat)} {x : Str} {c : Nat} (h : cs.lookup x = some c) : (x, c) ∈ cs := mem_of_lookup h
/-- the frame put into the base -/
theorem Sim.toH (S : Sim w KF fi env m F ρ H h gs) : HSim w KF (addF F h (ownA fi env)) ρ H h gs := by
  have hF : ∀ b o, F b = some o → addF F h (ownA fi env) b = some o := fun b o e => by
    rw [addF_out (fun q => by rw [(S.lo b q).1] at e; cases e)]; exact e
  refine ⟨fun h' k => S.hs.bs h' (fun b o e => k b o (hF b o e)), fun b o e => ?_, S.hs.len, fun i e o hi ho => (S.hs.ob i e o hi ho).base hF, S.hs.live, S.hs.nd, fun b hb => ?_, S.hs.gn, S.hs.bare, S.hs.gf⟩
  · by_cases q : b ∈ ownA fi env
    · rw [addF_in q] at e; exact e
    · rw [addF_out q] at e; exact S.hs.keep b o e
  · rw [addF_out (fun q => (S.lo b q).2 hb)]; exact S.hs.off b hb
/-- and out of it again -/
theorem Sim.ofH (S : Sim w KF fi env m F ρ H h gs) (p : ρ <+: ρ') (t : TK h h') (T : HSim w KF (addF F h (ownA fi env)) ρ' H' h' gs') : Sim w KF fi env m F ρ' H' h' gs' := by
  have hF : ∀ b o, F b = some o → addF F h (ownA fi env) b = some o := fun b o e => by
    rw [addF_out (fun q => by rw [(S.lo b q).1] at e; cases e)]; exact e
  have hoF : ∀ b ∈ fps ρ', F b = none := fun b hb => by
    cases q : F b with
    | none => rfl
    | some o => have := T.off b hb; rw [hF b o q] at this; cases this
  have kp : ∀ b ∈ ownA fi env, ∀ o, h.get? b = some o → h'.get? b = some o := fun b hb o e => T.keep b o (by rw [addF_in hb]; exact e)
  have kF : KeepG F h' := fun b o e => T.keep b o (hF b o e)
  have live : ∀ b ∈ ownA fi env, ∃ o, h.get? b = some o := fun b hb => by
    unfold ownA at hb
    split at hb
    · rcases List.mem_cons.mp hb with rfl | hb
      · obtain ⟨mv, ⟨o, _, _, ho, _⟩, _⟩ := S.ns; exact ⟨o, ho⟩
      · obtain ⟨⟨x, c⟩, hm, rfl⟩ := List.mem_map.mp hb
        obtain ⟨ov, ⟨o, ho, _⟩, _⟩ := S.cl x c (S.cu x c hm).1
        exact ⟨o, ho⟩
    · rw [List.mem_singleton.mp hb]
      obtain ⟨mv, ⟨o, _, _, ho, _⟩, _⟩ := S.ns; exact ⟨o, ho⟩
  have lo : ∀ b ∈ ownA fi env, F b = none ∧ b ∉ fps ρ' := fun b hb => ⟨(S.lo b hb).1, fun q => by
    have := T.off b q
    rw [addF_in hb] at this
    obtain ⟨o, ho⟩ := live b hb
    rw [this] at ho; cases ho⟩
  refine ⟨⟨S.hs.bs, kF, T.len, fun i e o hi ho => ?_, T.live, T.nd, hoF, T.gn, T.bare, T.gf⟩, S.es, S.eg, S.eb, S.ec, S.ek, lo, ?_, fun x c hc => ?_, S.ce, S.cn, S.cu, S.cd, S.cf⟩
  · have y := T.ob i e o hi ho
    cases o with
    | arr xs =>
      obtain ⟨a, b, l, f⟩ := y
      refine ⟨a, b, l, ?_⟩
      by_cases q : e.a ∈ ownA fi env
      · exfalso
        obtain ⟨vs, ⟨ob, hob, hcl, n, hd⟩, _⟩ := l
        unfold ownA at q
        have q' : e.a = env.locals ∨ ∃ x, (x, e.a) ∈ env.cells := by
          split at q
          · rcases List.mem_cons.mp q with q | q
            · exact .inl q
            · obtain ⟨⟨x, c⟩, hm, hx⟩ := List.mem_map.mp q
              exact .inr ⟨x, hx ▸ hm⟩
          · exact .inl (List.mem_singleton.mp q)
        rcases q' with q' | ⟨x, q'⟩
        · obtain ⟨mv, ⟨o2, es, ep, ho2, hd2, _⟩, _⟩ := S.ns
          rw [← q'] at ho2
          have := kp e.a q o2 ho2
          rw [hob] at this; cases this
          rw [hd] at hd2; cases hd2
        · obtain ⟨ov, ⟨o2, ho2, hd2⟩, _⟩ := S.cl x e.a (S.cu x e.a q').1
          have := kp e.a q o2 ho2
          rw [hob] at this; cases this
          rw [hd] at hd2; cases hd2
      · rw [addF_out q] at f; exact f
    | _ => exact y
  · obtain ⟨mv, ⟨o, es, ep, ho, r⟩, hv⟩ := S.ns
    exact ⟨mv, ⟨o, es, ep, kp _ (loc_own fi env) o ho, r⟩, fun x hx => (hv x hx).mono p t⟩
  · obtain ⟨ov, ⟨o, ho, hd⟩, hv⟩ := S.cl x c hc
    refine ⟨ov, ⟨o, ?_, hd⟩, hv.mono p t⟩
    rcases S.cell_own (lookup_mem hc) with q | q
    · exact kp c q o ho
    · obtain ⟨o2, h2⟩ := Option.isSome_iff_exists.mp q
      rw [S.hs.keep _ _ h2] at ho
      cases ho
      exact kF _ _ h2
theorem Sim.keeps (S : Sim w KF fi env m F ρ H h gs) (k : Keep h h') : Sim w KF fi env m F ρ H h' gs := S.ofH (List.prefix_refl _) (.of_keep k) (S.toH.keeps k)
theorem Sim.get (S : Sim w KF fi env m F ρ H h gs) {x : Str} {v : V} (hv : getL m x = some v) (hl : fi.sc.names.lookup x = some .local) : ∃ mv u, h.Ns env.locals mv ∧ mv x = some u ∧ VR ρ h v u := by
  obtain ⟨mv, hn, hm⟩ := S.ns
  have := hm x hl
  rw [hv] at this
  obtain ⟨u, e, r⟩ := this.some_of
  exact ⟨mv, u, hn, e, r⟩
/-- a name of the frame's stored -/
theorem ns_not_imm {a : Nat} {mv : Str → Option Value} (hn : h.Ns a mv) : ∀ o, h.get? a = some o → ¬ Imm o := fun o ho => by
  obtain ⟨o2, es, ep, h2, hd, _⟩ := hn
  rw [h2] at ho; cases ho
  rintro (⟨⟨xs, n, q⟩, _⟩ | ⟨_, vs, q⟩) <;> (rw [hd] at q; cases q)
theorem cell_not_imm {a : Nat} {ov : Option Value} (hn : h.IsCell a ov) : ∀ o, h.get? a = some o → ¬ Imm o := fun o ho => by
  obtain ⟨o2, h2, hd⟩ := hn
  rw [h2] at ho; cases ho
  rintro (⟨⟨xs, n, q⟩, _⟩ | ⟨_, vs, q⟩) <;> (rw [hd] at q; cases q)
theorem list_not_imm {a : Nat} {xs : Array Value} (hn : h.IsList a xs) : ∀ o, h.get? a = some o → ¬ Imm o := fun o ho => by
  obtain ⟨o2, h2, hc, n, hd⟩ := hn
  rw [h2] at ho; cases ho
  rintro (⟨_, q⟩ | ⟨q, _⟩)
  · exact q hc
  · rw [hc] at q; exact absurd q (by decide)
/-- something of the frame's turned alone -/
theorem Sim.own_upd (S : Sim w KF fi env m F ρ H h gs) {a : Nat} (ha : a ∈ ownA fi env) (hs : ∀ b o, b ≠ a → h.get? b = some o → h'.get? b = some o) (hi : ∀ o, h.get? a = some o → ¬ Imm o) : HSim w KF F ρ H h' gs ∧ TK h h' := by
  obtain ⟨f1, f2⟩ := S.lo a ha
  have t : TK h h' := .of_ext hs hi
  have kF : KeepG F h' := fun b o e => hs b o (fun q => by rw [q, f1] at e; cases e) (S.hs.keep b o e)
  have ne : ∀ b ∈ fps ρ, b ≠ a := fun b hb q => f2 (q ▸ hb)
  exact ⟨⟨S.hs.bs, kF, S.hs.len, fun i e o hi ho => (S.hs.ob i e o hi ho).mono (List.prefix_refl _) t S.hs.keep kF (fun b hb q hq => hs b q (ne b (fps_mem hi hb)) hq), fun b hb => let ⟨o, ho⟩ := S.hs.live b hb; ⟨o, hs b o (ne b hb) ho⟩, S.hs.nd, S.hs.off, S.hs.gn, S.hs.bare, S.hs.gf⟩, t⟩
/-- a name of the frame's stored -/
theorem Sim.setLoc (S : Sim w KF fi env m F ρ H h gs) {x : Str} {v : V} {u : Value} (r : VR ρ h v u) {mv : Str → Option Value} (hn₀ : h.Ns env.locals mv)
    (hm : ∀ x, fi.sc.names.lookup x = some .local → OVR ρ h (getL m x) (mv x)) (hn : h'.Ns env.locals (fun y => if y = x then some u else mv y)) (hs : Heap.SameBut env.locals h h') (hl : fi.sc.names.lookup x = some .local) : Sim w KF fi env (setL m x v) F ρ H h' gs := by
  obtain ⟨hs', t⟩ := S.own_upd (loc_own fi env) (fun b o hb e => hs.extBut b o hb e) (ns_not_imm hn₀)
  refine ⟨hs', S.es, S.eg, S.eb, S.ec, S.ek, S.lo, ⟨_, hn, fun y hy => ?_⟩, fun y c hc => ?_, S.ce, S.cn, S.cu, S.cd, S.cf⟩
  · rw [getL_setL]
    by_cases q : y = x
    · rw [if_pos q, if_pos q]; exact r.mono (List.prefix_refl _) t
    · rw [if_neg q, if_neg q]; exact (hm y hy).mono (List.prefix_refl _) t
  · obtain ⟨ov, ⟨o, ho, hd⟩, hv⟩ := S.cl y c hc
    refine ⟨ov, ⟨o, hs.extBut c o (S.cu y c (lookup_mem hc)).2 ho, hd⟩, ?_⟩
    rw [getL_setL, if_neg (fun q => by rw [q, S.cn x hl] at hc; cases hc)]
    exact hv.mono (List.prefix_refl _) t
theorem name_of_cell {cs : List (Str × Nat)} (hd : cs.Pairwise fun x y => x.2 ≠ y.2) {x y : Str} {c : Nat} (hx : (x, c) ∈ cs) (hy : (y, c) ∈ cs) : x = y := name_of_addr hd hx hy
theorem Sim.setCell (S : Sim w KF fi env m F ρ H h gs) {x : Str} {c : Nat} {v : V} {u : Value} (r : VR ρ h v u) (ho : fi.own = true) (hc : env.cells.lookup x = some c) {ov : Option Value} (hv₀ : h.IsCell c ov)
    (hv : h'.IsCell c (some u)) (hs : Heap.SameBut c h h') (hx : fi.sc.names.lookup x ≠ some .local) : Sim w KF fi env (setL m x v) F ρ H h' gs := by
  have hco : c ∈ ownA fi env := by unfold ownA; rw [if_pos ho]; exact .tail _ (List.mem_map.mpr ⟨_, lookup_mem hc, rfl⟩)
  obtain ⟨hs', t⟩ := S.own_upd hco (fun b o hb e => hs.extBut b o hb e) (cell_not_imm hv₀)
  refine ⟨hs', S.es, S.eg, S.eb, S.ec, S.ek, S.lo, ?_, fun y d hd => ?_, S.ce, S.cn, S.cu, S.cd, S.cf⟩
  · obtain ⟨mv, hn, hm⟩ := S.ns
    refine ⟨mv, hn.sameBut hs (Ne.symm (S.cu x c (lookup_mem hc)).2), fun y hy => ?_⟩
    rw [getL_setL, if_neg (fun q => hx (by rw [← q]; exact hy))]
    exact (hm y hy).mono (List.prefix_refl _) t
  · rw [getL_setL]
    by_cases q : y = x
    · subst q
      rw [hc] at hd; cases hd
      rw [if_pos rfl]
      exact ⟨_, hv, r.mono (List.prefix_refl _) t⟩
    · rw [if_neg q]
      obtain ⟨ov, hy, hr⟩ := S.cl y d hd
      exact ⟨ov, hy.sameBut hs (fun e => q (name_of_cell S.cd (lookup_mem hd) (e ▸ lookup_mem hc))), hr.mono (List.prefix_refl _) t⟩
end
/-- what an exception is -/
structure Exc where
  cls : String
  args : List V
noncomputable def ExcAt (_ : Base) (_ : List Ent) (_ : Heap) (_ : Value) (_ : Exc) : Prop := False
/-- new entries own something; their generators are new -/
noncomputable def New (n : Nat) (ρ ρ' : List Ent) : Prop := ∀ (i : Nat) e, ρ.length ≤ i → ρ'[i]? = some e → e.fp ≠ [] ∧ ∀ x, e.g = some x → n ≤ x.1
theorem New.refl {n : Nat} {ρ : List Ent} : New n ρ ρ := fun i e hi h => absurd (List.getElem?_eq_some_iff.mp h).1 (Nat.not_lt.mpr hi)
theorem New.trans {n k : Nat} {ρ ρ₁ ρ₂ : List Ent} (a : New n ρ ρ₁) (b : New k ρ₁ ρ₂) (p : ρ₁ <+: ρ₂) (hk : n ≤ k) : New n ρ ρ₂ := fun i e hi h => by
  by_cases q : i < ρ₁.length
  · exact a i e hi (by obtain ⟨t, rfl⟩ := p; rwa [List.getElem?_append_left q] at h)
  · exact ⟨(b i e (Nat.not_lt.mp q) h).1, fun x hx => Nat.le_trans hk ((b i e (Nat.not_lt.mp q) h).2 x hx)⟩
theorem New.add {n : Nat} {ρ : List Ent} {a : Nat} {g : Option (Nat × Env)} {r : List Nat} (hg : ∀ x, g = some x → n ≤ x.1) : New n ρ (ρ ++ [⟨a, a :: r, g⟩]) := fun i e hi h => by
  rw [List.getElem?_append_right hi] at h
  have : e ∈ [(⟨a, a :: r, g⟩ : Ent)] := List.mem_of_getElem? h
  rw [List.mem_singleton.mp this]
  exact ⟨List.cons_ne_nil _ _, hg⟩
noncomputable def Step (ρ : List Ent) (s : Shared) (ρ' : List Ent) (s' : Shared) : Prop := ρ <+: ρ' ∧ TK s.heap s'.heap ∧ (s'.os = s.os ∧ s.gens.size ≤ s'.gens.size) ∧ New s.gens.size ρ ρ'
theorem Step.refl {ρ : List Ent} {s : Shared} : Step ρ s ρ s := ⟨List.prefix_refl _, .refl _, ⟨rfl, Nat.le_refl _⟩, .refl⟩
theorem Step.same {ρ : List Ent} {s s' : Shared} (t : TK s.heap s'.heap) (o : s'.os = s.os) (g : s.gens.size ≤ s'.gens.size := by first | exact Nat.le_refl _ | assumption) : Step ρ s ρ s' := ⟨List.prefix_refl _, t, ⟨o, g⟩, .refl⟩
theorem Step.addG {ρ : List Ent} {s s' : Shared} {a : Nat} {g : Option (Nat × Env)} {r : List Nat} (t : TK s.heap s'.heap) (o : s'.os = s.os) (hg : ∀ x, g = some x → s.gens.size ≤ x.1) (gg : s.gens.size ≤ s'.gens.size := by first | exact Nat.le_refl _ | assumption) : Step ρ s (ρ ++ [⟨a, a :: r, g⟩]) s' := ⟨List.prefix_append _ _, t, ⟨o, gg⟩, .add hg⟩
theorem Step.add {ρ : List Ent} {s s' : Shared} {a : Nat} {r : List Nat} (t : TK s.heap s'.heap) (o : s'.os = s.os) (gg : s.gens.size ≤ s'.gens.size := by first | exact Nat.le_refl _ | assumption) : Step ρ s (ρ ++ [⟨a, a :: r, none⟩]) s' := .addG t o (fun _ q => nomatch q) gg
theorem Step.trans {ρ ρ₁ ρ₂ : List Ent} {s s₁ s₂ : Shared} (a : Step ρ s ρ₁ s₁) (b : Step ρ₁ s₁ ρ₂ s₂) : Step ρ s ρ₂ s₂ := ⟨a.1.trans b.1, a.2.1.trans b.2.1, ⟨b.2.2.1.1.trans a.2.2.1.1, Nat.le_trans a.2.2.1.2 b.2.2.1.2⟩, a.2.2.2.trans b.2.2.2 b.1 a.2.2.1.2⟩
structure Room (A : Around) (d : Nat) : Prop where
  hd : A.handled = none
  dp : A.depth + 4 * d < recursionLimit
  un : A.units + 40 * d + 200 < cLine
section
variable (w : World) (KF : Frag)
noncomputable def HQ {α β : Type} (R : List Ent → Heap → β → α → Prop) (F : Base) (ρ : List Ent) (s : Shared) (Q : β → List O → Prop) (v : α) (s' : Shared) : Prop :=
  ∃ ρ' H' b, Step ρ s ρ' s' ∧ HSim w KF F ρ' H' s'.heap s'.gens ∧ R ρ' s'.heap b v ∧ Q b H'
noncomputable def HE (F : Base) (ρ : List Ent) (s : Shared) (E : Exc → List O → Prop) (e : Value) (s' : Shared) : Prop :=
  ∃ ρ' H' x, Step ρ s ρ' s' ∧ HSim w KF F ρ' H' s'.heap s'.gens ∧ ExcAt F ρ' s'.heap e x ∧ E x H'
noncomputable def SQ {α β : Type} (R : List Ent → Heap → β → α → Prop) (fi : FI) (env : Env) (m : Names) (F : Base) (ρ : List Ent) (s : Shared) (Q : β → List O → Prop) (v : α) (s' : Shared) : Prop :=
  ∃ ρ' H' b, Step ρ s ρ' s' ∧ Sim w KF fi env m F ρ' H' s'.heap s'.gens ∧ R ρ' s'.heap b v ∧ Q b H'
noncomputable def SE (fi : FI) (env : Env) (F : Base) (ρ : List Ent) (s : Shared) (E : Exc → Names → List O → Prop) (e : Value) (s' : Shared) : Prop :=
  ∃ ρ' H' x m, Step ρ s ρ' s' ∧ Sim w KF fi env m F ρ' H' s'.heap s'.gens ∧ ExcAt (addF F s'.heap (ownA fi env)) ρ' s'.heap e x ∧ E x m H'
end
end Mine
end
section
open PySem PySem.W PyProof.Rows PySem.W.X
namespace Mine
inductive Fl where
  | next | brk | cont
  | ret (v : V)
noncomputable def FlR (ρ : List Ent) (h : Heap) : Fl → Flow → Prop
  | .next, f => f = .next
  | .brk, f => f = .brk
  | .cont, f => f = .cont
  | .ret v, f => ∃ u, f = .ret u ∧ VR ρ h v u
noncomputable def EqR {α : Type} (_ : List Ent) (_ : Heap) (b v : α) : Prop := v = b
noncomputable abbrev EP := Exc → Names → List O → Prop
noncomputable abbrev HEP := Exc → List O → Prop
section
variable (prog : Program) (w : World) (KF : Frag) (fi : FI) (d : Nat) (E : EP)
noncomputable def WE (m : Names) (H : List O) (e : Expr) (Q : V → List O → Prop) : Prop :=
  ∀ A env F ρ s, Room A d → Sim w KF fi env m F ρ H s.heap s.gens → wpAny (model prog w) A (eval e env) (SQ w KF VR fi env m F ρ s Q) (SE w KF fi env F ρ s E) s
noncomputable def WT (m : Names) (H : List O) (e : Expr) (Q : Bool → List O → Prop) : Prop :=
  ∀ A env F ρ s, Room A d → Sim w KF fi env m F ρ H s.heap s.gens → wpAny (model prog w) A (isTrue e env (eval e env)) (SQ w KF EqR fi env m F ρ s Q) (SE w KF fi env F ρ s E) s
/-- several expressions, one behind the other -/
noncomputable def WEs (m : Names) (H : List O) : List Expr → (List V → List O → Prop) → Prop
  | [], Q => Q [] H
  | e :: es, Q => WE prog w KF fi d E m H e fun v H₁ => WEs m H₁ es fun vs H₂ => Q (v :: vs) H₂
noncomputable def StQ (env : Env) (F : Base) (ρ : List Ent) (s : Shared) (Q : Fl → Names → List O → Prop) (f : Flow) (s' : Shared) : Prop :=
  ∃ ρ' H' m' fl, Step ρ s ρ' s' ∧ Sim w KF fi env m' F ρ' H' s'.heap s'.gens ∧ FlR ρ' s'.heap fl f ∧ Q fl m' H'
noncomputable def WS (m : Names) (H : List O) (st : Stmt) (Q : Fl → Names → List O → Prop) : Prop :=
  ∀ A env F ρ s, Room A d → Sim w KF fi env m F ρ H s.heap s.gens → wpAny (model prog w) A (exec st env) (StQ w KF fi env F ρ s Q) (SE w KF fi env F ρ s E) s
noncomputable def WB (m : Names) (H : List O) (st : List Stmt) (Q : Fl → Names → List O → Prop) : Prop :=
  ∀ A env F ρ s, Room A d → Sim w KF fi env m F ρ H s.heap s.gens → wpAny (model prog w) A (execs st env) (StQ w KF fi env F ρ s Q) (SE w KF fi env F ρ s E) s
/-- a target stored -/
noncomputable def WA (m : Names) (H : List O) (t : Expr) (v : V) (Q : Names → List O → Prop) : Prop :=
  ∀ A env F ρ s u, Room A d → Sim w KF fi env m F ρ H s.heap s.gens → VR ρ s.heap v u → wpAny (model prog w) A (assign t env u) (fun _ s' => ∃ ρ' H' m', Step ρ s ρ' s' ∧ Sim w KF fi env m' F ρ' H' s'.heap s'.gens ∧ Q m' H') (SE w KF fi env F ρ s E) s
end
section
variable (prog : Program) (w : World) (KF : Frag) (d : Nat) (E : HEP)
/-- operations upon the heap alone -/
noncomputable def W1 {α β : Type} (R : List Ent → Heap → β → α → Prop) (H : List O) (t : Value → Sem α) (x : V) (Q : β → List O → Prop) : Prop :=
  ∀ A F ρ s u, Room A d → HSim w KF F ρ H s.heap s.gens → VR ρ s.heap x u → wpAny (model prog w) A (t u) (HQ w KF R F ρ s Q) (HE w KF F ρ s E) s
noncomputable def W2 {α β : Type} (R : List Ent → Heap → β → α → Prop) (H : List O) (t : Value → Value → Sem α) (x y : V) (Q : β → List O → Prop) : Prop :=
  ∀ A F ρ s u v, Room A d → HSim w KF F ρ H s.heap s.gens → VR ρ s.heap x u → VR ρ s.heap y v → wpAny (model prog w) A (t u v) (HQ w KF R F ρ s Q) (HE w KF F ρ s E) s
noncomputable def W3 {α β : Type} (R : List Ent → Heap → β → α → Prop) (H : List O) (t : Value → Value → Value → Sem α) (x y z : V) (Q : β → List O → Prop) : Prop :=
  ∀ A F ρ s u v r, Room A d → HSim w KF F ρ H s.heap s.gens → VR ρ s.heap x u → VR ρ s.heap y v → VR ρ s.heap z r → wpAny (model prog w) A (t u v r) (HQ w KF R F ρ s Q) (HE w KF F ρ s E) s
/-- a call -/
noncomputable def CallW (H : List O) (f : V) (xs : List V) (Q : V → List O → Prop) : Prop :=
  ∀ A F ρ s u us, Room A d → HSim w KF F ρ H s.heap s.gens → VR ρ s.heap f u → VRs ρ s.heap xs us → wpAny (model prog w) A (call u us) (HQ w KF VR F ρ s Q) (HE w KF F ρ s E) s
end
theorem SE.step {w : World} {KF : Frag} {fi : FI} {env : Env} {F : Base} {ρ ρ₁ : List Ent} {s s₁ : Shared} {E : EP} {e : Value} {s' : Shared} (st : Step ρ s ρ₁ s₁) (x : SE w KF fi env F ρ₁ s₁ E e s') : SE w KF fi env F ρ s E e s' := let ⟨a, b, c, m, p, r⟩ := x; ⟨a, b, c, m, st.trans p, r⟩
theorem SQ.step {w : World} {KF : Frag} {α β : Type} {R : List Ent → Heap → β → α → Prop} {fi : FI} {env : Env} {m : Names} {F : Base} {ρ ρ₁ : List Ent} {s s₁ : Shared} {Q : β → List O → Prop} {v : α} {s' : Shared} (st : Step ρ s ρ₁ s₁) (x : SQ w KF R fi env m F ρ₁ s₁ Q v s') : SQ w KF R fi env m F ρ s Q v s' := let ⟨a, b, c, p, r⟩ := x; ⟨a, b, c, st.trans p, r⟩
theorem StQ.step {w : World} {KF : Frag} {fi : FI} {env : Env} {F : Base} {ρ ρ₁ : List Ent} {s s₁ : Shared} {Q : Fl → Names → List O → Prop} {v : Flow} {s' : Shared} (st : Step ρ s ρ₁ s₁) (x : StQ w KF fi env F ρ₁ s₁ Q v s') : StQ w KF fi env F ρ s Q v s' := let ⟨a, b, c, e, p, r⟩ := x; ⟨a, b, c, e, st.trans p, r⟩
section
variable {prog : Program} {w : World} {KF : Frag} {fi : FI} {d : Nat} {E : EP} {m : Names} {H : List O}
/-- an operation upon the heap, in a frame -/
theorem lift {α β : Type} {R : List Ent → Heap → β → α → Prop} {A : Around} {env : Env} {F : Base} {ρ : List Ent} {s : Shared} {t : Sem α} {Q : β → List O → Prop} (S : Sim w KF fi env m F ρ H s.heap s.gens)
    (h : ∀ F', HSim w KF F' ρ H s.heap s.gens → wpAny (model prog w) A t (HQ w KF R F' ρ s Q) (HE w KF F' ρ s fun x H' => E x m H') s) : wpAny (model prog w) A t (SQ w KF R fi env m F ρ s Q) (SE w KF fi env F ρ s E) s := by
  refine wpAny_mono (h _ S.toH) (fun v s' ⟨ρ', H', b, st, T, rv, hq⟩ => ⟨ρ', H', b, st, S.ofH st.1 st.2.1 T, rv, hq⟩) (fun e s' ⟨ρ', H', x, st, T, rv, hq⟩ => ?_)
  exact rv.elim
/-- from state to state -/
theorem onto {α : Type} {A : Around} {t : Sem α} {K K' : α → Shared → Prop} {env : Env} {F : Base} {ρ ρ₁ : List Ent} {s s₁ s₂ : Shared} (st : Step ρ s ρ₁ s₁) (h : wpAny (model prog w) A t K (SE w KF fi env F ρ₁ s₁ E) s₂) (hk : ∀ v s', K v s' → K' v s') : wpAny (model prog w) A t K' (SE w KF fi env F ρ s E) s₂ :=
  wpAny_mono h hk fun _ _ x => x.step st
theorem WE.mono {e : Expr} {Q Q' : V → List O → Prop} (h : WE prog w KF fi d E m H e Q) (hq : ∀ v H, Q v H → Q' v H) : WE prog w KF fi d E m H e Q' :=
  fun A env F ρ s hA S => wpAny_mono (h A env F ρ s hA S) (fun v s' ⟨ρ', H', b, st, T, rv, q⟩ => ⟨ρ', H', b, st, T, rv, hq _ _ q⟩) fun _ _ x => x
theorem we_int {i : Int} {k : Nat} {pos : Pos} {Q : V → List O → Prop} (h : Q (.int i) H) : WE prog w KF fi d E m H (.Constant (.int i) k pos) Q :=
  fun A env F ρ s hA S => wpAny_Constant_int ⟨ρ, H, _, .refl, S, by unfold VR; exact ⟨_, rfl⟩, h⟩
theorem we_str {i : Str} {k : Nat} {pos : Pos} {Q : V → List O → Prop} (h : Q (.str i) H) : WE prog w KF fi d E m H (.Constant (.str i) k pos) Q :=
  fun A env F ρ s hA S => wpAny_Constant_str ⟨ρ, H, _, .refl, S, by unfold VR; exact ⟨_, rfl⟩, h⟩
theorem we_loc {x : Str} {v : V} {pos : Pos} {Q : V → List O → Prop} (hl : fi.sc.names.lookup x = some .local) (hv : getL m x = some v) (h : Q v H) (hd : (x == ("__debug__" : Str)) = false := by decide) : WE prog w KF fi d E m H (.Name x pos) Q :=
  fun A env F ρ s hA S => by
    obtain ⟨mv, u, hn, e, r⟩ := S.get hv hl
    exact wpAny_Name (wpAny_loadName_local S.kd ((S.kind x).trans hl) hn e ⟨ρ, H, _, .refl, S, r, h⟩) hd
theorem we_cell {x : Str} {v : V} {pos : Pos} {Q : V → List O → Prop} (hl : fi.sc.names.lookup x = some .cell) (hv : getL m x = some v) (h : Q v H) (hd : (x == ("__debug__" : Str)) = false := by decide) : WE prog w KF fi d E m H (.Name x pos) Q :=
  fun A env F ρ s hA S => by
    obtain ⟨c, hc⟩ := S.ce x (.inl hl)
    obtain ⟨ov, hi, r⟩ := S.cl x c hc
    rw [hv] at r
    obtain ⟨u, rfl, r⟩ := r.some_of
    exact wpAny_Name (wpAny_loadName_cell S.kd ((S.kind x).trans hl) hc hi ⟨ρ, H, _, .refl, S, r, h⟩) hd
theorem mg_no {K : Frag} {h : Heap} {mg : Str → Option Value} {n : Str} (X : K.In h) (G : h.Ns mainGlobals mg) (e : nsIn K mainGlobals n = some none) : mg n = none := by
  obtain ⟨o, es, ep, ho, hd, _, hf⟩ := G
  unfold nsIn at e
  split at e
  · rename_i c d es' n' sl q
    have := X _ _ q
    rw [ho] at this
    cases this
    cases hd
    split at e
    · cases e
    · rename_i he
      rw [← hf]
      unfold nsFind findBy
      rw [← Array.find?_toList, he]
      rfl
  · cases e
theorem we_glob {x : Str} {a : Nat} {pos : Pos} {Q : V → List O → Prop} (hl : fi.sc.names.lookup x = some .globalImplicit) (e : nsIn KF mainGlobals x = some (some (.ref a))) (h : Q (.st a) H) (hd : (x == ("__debug__" : Str)) = false := by decide) : WE prog w KF fi d E m H (.Name x pos) Q :=
  fun A env F ρ s hA S => by
    obtain ⟨mg, hg⟩ := S.b.g
    exact Calls.Name_function_global S.kd ((S.kind x).trans hl) (Calls.loadGlobal_global (S.eg ▸ hg) (mg_of S.b.k hg e) ⟨ρ, H, _, .refl, S, by unfold VR; rfl, h⟩) hd
theorem we_biF {x : Str} {id : String} {pos : Pos} {Q : V → List O → Prop} (hl : fi.sc.names.lookup x = some .globalImplicit) (e : nsIn KF mainGlobals x = some none) (hb : bootBuiltins x = some (.builtin id)) (h : Q (.bi id) H) (hd : (x == ("__debug__" : Str)) = false := by decide) (hn : x ≠ "__name__" := by decide) : WE prog w KF fi d E m H (.Name x pos) Q :=
  fun A env F ρ s hA S => by
    obtain ⟨mg, hg⟩ := S.b.g
    obtain ⟨mb, hm, hb'⟩ := S.b.bi
    exact Calls.Name_function_global S.kd ((S.kind x).trans hl) (Calls.loadGlobal_builtin (S.eg ▸ hg) (mg_no S.b.k hg e) (S.eb ▸ hm) ((hb' x hn).trans hb) ⟨ρ, H, .bi id, .refl, S, by unfold VR; rfl, h⟩) hd
theorem we_biT {x : Str} {id : String} {pos : Pos} {Q : V → List O → Prop} (hl : fi.sc.names.lookup x = some .globalImplicit) (e : nsIn KF mainGlobals x = some none) (hb : bootBuiltins x = some (.type id)) (h : Q (.ty id) H) (hd : (x == ("__debug__" : Str)) = false := by decide) (hn : x ≠ "__name__" := by decide) : WE prog w KF fi d E m H (.Name x pos) Q :=
  fun A env F ρ s hA S => by
    obtain ⟨mg, hg⟩ := S.b.g
    obtain ⟨mb, hm, hb'⟩ := S.b.bi
    exact Calls.Name_function_global S.kd ((S.kind x).trans hl) (Calls.loadGlobal_builtin (S.eg ▸ hg) (mg_no S.b.k hg e) (S.eb ▸ hm) ((hb' x hn).trans hb) ⟨ρ, H, .ty id, .refl, S, by unfold VR; rfl, h⟩) hd
noncomputable abbrev Em (E : EP) (m : Names) : HEP := fun x H => E x m H
theorem we_bin {l r : Expr} {op : Operator} {pos : Pos} {Q : V → List O → Prop} (h : WE prog w KF fi d E m H l fun a H₁ => WE prog w KF fi d E m H₁ r fun b H₂ => W2 prog w KF d (Em E m) VR H₂ (binaryOp op) a b Q) : WE prog w KF fi d E m H (.BinOp l op r pos) Q :=
  fun A env F ρ s hA S => wpAny_BinOp (wpAny_mono (h A env F ρ s hA S) (fun u s₁ ⟨ρ₁, H₁, a, st₁, S₁, ra, h₁⟩ =>
    onto st₁ (wpAny_mono (h₁ A env F ρ₁ s₁ hA S₁) (fun v s₂ ⟨ρ₂, H₂, b, st₂, S₂, rb, h₂⟩ =>
      onto (st₁.trans st₂) (lift S₂ fun F' T => h₂ A F' ρ₂ s₂ u v hA T (ra.mono st₂.1 st₂.2.1) rb) fun _ _ x => (x.step st₂).step st₁) fun _ _ x => x) fun _ _ x => x) fun _ _ x => x)
theorem we_cmp {l r : Expr} {op : CmpOp} {pos : Pos} {Q : V → List O → Prop} (h : WE prog w KF fi d E m H l fun a H₁ => WE prog w KF fi d E m H₁ r fun b H₂ => W2 prog w KF d (Em E m) VR H₂ (compareOp op) a b Q) (hm : behindInMarks op r = false := by with_unfolding_all rfl) : WE prog w KF fi d E m H (.Compare l [op] [r] pos) Q :=
  fun A env F ρ s hA S => wpAny_Compare1 (wpAny_mono (h A env F ρ s hA S) (fun u s₁ ⟨ρ₁, H₁, a, st₁, S₁, ra, h₁⟩ =>
    onto st₁ (wpAny_mono (h₁ A env F ρ₁ s₁ hA S₁) (fun v s₂ ⟨ρ₂, H₂, b, st₂, S₂, rb, h₂⟩ =>
      onto (st₁.trans st₂) (lift S₂ fun F' T => h₂ A F' ρ₂ s₂ u v hA T (ra.mono st₂.1 st₂.2.1) rb) fun _ _ x => (x.step st₂).step st₁) fun _ _ x => x) fun _ _ x => x) fun _ _ x => x) hm
theorem wt_cmp {l r : Expr} {op : CmpOp} {pos : Pos} {Q : Bool → List O → Prop} (h : WE prog w KF fi d E m H l fun a H₁ => WE prog w KF fi d E m H₁ r fun b H₂ => W2 prog w KF d (Em E m) VR H₂ (compareOp op) a b fun c H₃ => W1 prog w KF d (Em E m) EqR H₃ truthy c Q) (hm : behindInMarks op r = false := by with_unfolding_all rfl) : WT prog w KF fi d E m H (.Compare l [op] [r] pos) Q :=
  fun A env F ρ s hA S => wpAny_isTrue_Compare1 (wpAny_mono (h A env F ρ s hA S) (fun u s₁ ⟨ρ₁, H₁, a, st₁, S₁, ra, h₁⟩ =>
    onto st₁ (wpAny_mono (h₁ A env F ρ₁ s₁ hA S₁) (fun v s₂ ⟨ρ₂, H₂, b, st₂, S₂, rb, h₂⟩ =>
      onto (st₁.trans st₂) (wpAny_mono (lift S₂ fun F' T => h₂ A F' ρ₂ s₂ u v hA T (ra.mono st₂.1 st₂.2.1) rb) (fun c s₃ ⟨ρ₃, H₃, cv, st₃, S₃, rc, h₃⟩ =>
        onto ((st₁.trans st₂).trans st₃) (lift S₃ fun F' T => h₃ A F' ρ₃ s₃ c hA T rc) fun _ _ x => (((x.step st₃).step st₂).step st₁)) fun _ _ x => x) fun _ _ x => x) fun _ _ x => x) fun _ _ x => x) fun _ _ x => x) hm
theorem wt_and1 {x : Expr} {pos : Pos} {Q : Bool → List O → Prop} (h : WT prog w KF fi d E m H x Q) : WT prog w KF fi d E m H (.BoolOp .And [x] pos) Q :=
  fun A env F ρ s hA S => wpAny_isTrue_BoolOp (wpAny_allTrue_And_cons (wpAny_mono (h A env F ρ s hA S) (fun b s₁ ⟨ρ₁, H₁, a, st₁, S₁, ra, h₁⟩ => by
    cases ra
    cases b
    · exact ⟨ρ₁, H₁, _, st₁, S₁, rfl, h₁⟩
    · exact wpAny_allTrue_And_nil ⟨ρ₁, H₁, _, st₁, S₁, rfl, h₁⟩) fun _ _ x => x))
theorem wt_and {x y : Expr} {r : List Expr} {pos : Pos} {Q : Bool → List O → Prop} (h : WT prog w KF fi d E m H x fun b H₁ => if b = true then WT prog w KF fi d E m H₁ (.BoolOp .And (y :: r) pos) Q else Q false H₁) : WT prog w KF fi d E m H (.BoolOp .And (x :: y :: r) pos) Q :=
  fun A env F ρ s hA S => wpAny_isTrue_BoolOp (wpAny_allTrue_And_cons (wpAny_mono (h A env F ρ s hA S) (fun b s₁ ⟨ρ₁, H₁, a, st₁, S₁, ra, h₁⟩ => by
    cases ra
    cases b
    · exact ⟨ρ₁, H₁, _, st₁, S₁, rfl, h₁⟩
    · have q := (show WT prog w KF fi d E m H₁ _ Q from h₁) A env F ρ₁ s₁ hA S₁
      rw [arm_isTrue_BoolOp] at q
      exact onto st₁ q fun _ _ x => x.step st₁) fun _ _ x => x))
/-- no starred ones among them -/
noncomputable def Plain (es : List Expr) : Prop := ∀ env, starEach es env = es.map fun e => (false, eval e env)
theorem wes_run {es : List Expr} {pos : Pos} {Q : List V → List O → Prop} : ∀ {H : List O}, WEs prog w KF fi d E m H es Q → ∀ A env F ρ s, Room A d → Sim w KF fi env m F ρ H s.heap s.gens →
    wpAny (model prog w) A (spliced (backTo pos (es.map fun e => (false, eval e env)))) (SQ w KF VRs fi env m F ρ s Q) (SE w KF fi env F ρ s E) s := by
  induction es generalizing Q with
  | nil => exact fun h A env F ρ s hA S => wpAny_pure ⟨ρ, _, [], .refl, S, .nil, h⟩
  | cons e es ih =>
    intro H h A env F ρ s hA S
    refine Calls.spliced_cons (wpAny_mono ((show WE prog w KF fi d E m H e _ from h) A env F ρ s hA S) (fun u s₁ hx => ?_) fun _ _ x => x)
    obtain ⟨ρ₁, H₁, a, st₁, S₁, ra, h₁⟩ := hx
    exact onto st₁ (wpAny_mono (ih h₁ A env F ρ₁ s₁ hA S₁) (fun us s₂ ⟨ρ₂, H₂, as, st₂, S₂, ras, h₂⟩ => (⟨ρ₂, H₂, a :: as, st₁.trans st₂, S₂, .cons (ra.mono st₂.1 st₂.2.1) ras, h₂⟩ : SQ w KF VRs fi env m F ρ s Q (u :: us) s₂)) fun _ _ x => x) fun _ _ x => x
theorem we_list {es : List Expr} {pos : Pos} {Q : V → List O → Prop} (h : WEs prog w KF fi d E m H es fun vs H₁ => vs.length ≤ sizeLine ∧ Q (.ref H₁.length) (H₁ ++ [.list vs])) (hp : Plain es := by intro _; rfl) : WE prog w KF fi d E m H (.List es pos) Q :=
  fun A env F ρ s hA S => by
    refine List_ ?_
    rw [hp env]
    refine wpAny_mono (wes_run h A env F ρ s hA S) (fun us s₁ hx => ?_) fun _ _ x => x
    obtain ⟨ρ₁, H₁, as, st₁, S₁, ra, hsz, h₁⟩ := hx
    refine wpAny_newObj_type ?_ (by show us.toArray.size ≤ sizeLine; rw [List.size_toArray, ra.len]; exact hsz)
    have k : Keep s₁.heap (s₁.heap.push { cls := .type "list", data := .seq us.toArray }) := fun _ _ e => Heap.get?_push_of_some _ e
    have p : ρ₁ <+: ρ₁ ++ [⟨s₁.heap.objs.size, [s₁.heap.objs.size], none⟩] := List.prefix_append _ _
    have hg : (s₁.heap.push { cls := .type "list", data := .seq us.toArray }).get? s₁.heap.objs.size = some { cls := .type "list", data := .seq us.toArray } := Heap.get?_push_size _ rfl
    refine ⟨_, _, .ref H₁.length, st₁.trans (.add (.of_keep k) rfl), S₁.ofH p (.of_keep k) (S₁.toH.alloc (o := .list as) k (get_size _) ⟨_, hg⟩ ⟨rfl, rfl, us, ⟨_, hg⟩, ra.mono p (.of_keep k)⟩), ?_, h₁⟩
    unfold VR
    exact ⟨_, by rw [← S₁.hs.len, List.getElem?_concat_length], rfl⟩
theorem we_tup {es : List Expr} {k : Nat} {pos : Pos} {Q : V → List O → Prop} (h : WEs prog w KF fi d E m H es fun vs H₁ => vs.length ≤ sizeLine ∧ Q (.tup vs) H₁) (hp : Plain es := by intro _; rfl) : WE prog w KF fi d E m H (.Tuple es k pos) Q :=
  fun A env F ρ s hA S => by
    refine Tuple_ ?_
    rw [hp env]
    refine wpAny_mono (wes_run h A env F ρ s hA S) (fun us s₁ hx => ?_) fun _ _ x => x
    obtain ⟨ρ₁, H₁, as, st₁, S₁, ra, hsz, h₁⟩ := hx
    refine wpAny_newObj_type ?_ (by show us.toArray.size ≤ sizeLine; rw [List.size_toArray, ra.len]; exact hsz)
    have k : Keep s₁.heap (s₁.heap.push { cls := .type "tuple", data := .seq us.toArray }) := fun _ _ e => Heap.get?_push_of_some _ e
    have hg : (s₁.heap.push { cls := .type "tuple", data := .seq us.toArray }).get? s₁.heap.objs.size = some { cls := .type "tuple", data := .seq us.toArray } := Heap.get?_push_size _ rfl
    refine ⟨ρ₁, H₁, .tup as, st₁.trans (.same (.of_keep k) rfl), S₁.keeps k, ?_, h₁⟩
    unfold VR
    exact ⟨_, us, rfl, ⟨_, hg, rfl, _, rfl⟩, ra.mono (List.prefix_refl _) (.of_keep k)⟩
end
end Mine
end
section
open PySem PySem.W PyProof.Rows PySem.W.X
namespace Mine
section
variable (prog : Program) (w : World) (KF : Frag) (fi : FI) (d : Nat) (E : EP)
/-- targets, one behind the other -/
noncomputable def WAs : Names → List O → List Expr → List V → (Names → List O → Prop) → Prop
  | m, H, [], [], Q => Q m H
  | m, H, t :: ts, v :: vs, Q => WA prog w KF fi d E m H t v fun m₁ H₁ => WAs m₁ H₁ ts vs Q
  | _, _, _, _, _ => False
end
noncomputable abbrev UnR (_ : List Ent) (_ : Heap) (_ _ : Unit) : Prop := True
section
variable {prog : Program} {w : World} {KF : Frag} {fi : FI} {d : Nat} {E : EP} {m : Names} {H : List O}
/-- a name that the frame may store -/
noncomputable def Ours (fi : FI) (x : Str) : Prop := fi.sc.names.lookup x = some .local ∨ (fi.sc.names.lookup x = some .cell ∧ fi.own = true)
theorem Sim.nocls {env : Env} {F : Base} {ρ : List Ent} {h : Heap} {gs : Array GenState} (S : Sim w KF fi env m F ρ H h gs) : (env.scope.kind == .class || (env.scope.kind == .module && env.locals != env.globals)) = false := by rw [S.kd]; rfl
theorem st_name' {A : Around} {env : Env} {F : Base} {ρ : List Ent} {s : Shared} {x : Str} {v : V} {u : Value} {E' : Value → Shared → Prop} (S : Sim w KF fi env m F ρ H s.heap s.gens) (r : VR ρ s.heap v u) (hk : Ours fi x) :
    wpAny (model prog w) A (storeName env x u) (fun _ s' => Step ρ s ρ s' ∧ Sim w KF fi env (setL m x v) F ρ H s'.heap s'.gens ∧ ∀ b o, b ∉ ownA fi env → s.heap.get? b = some o → s'.heap.get? b = some o) E' s := by
  rcases hk with hl | ⟨hl, ho⟩
  · obtain ⟨mv, hn, hm⟩ := S.ns
    refine wpAny_storeName_local ((S.kind x).trans hl) hn (fun h' hn' hs => ⟨.same (.of_ext (fun b o hb e => hs.extBut b o hb e) (ns_not_imm hn)) rfl, S.setLoc r hn hm hn' hs hl, fun b o hb e => hs.extBut b o (fun q => hb (q ▸ loc_own fi env)) e⟩) S.nocls
  · obtain ⟨c, hc⟩ := S.ce x (.inl hl)
    obtain ⟨ov, hi, _⟩ := S.cl x c hc
    refine wpAny_storeName_cell S.kd ((S.kind x).trans hl) hc hi fun h' hi' hs => ⟨.same (.of_ext (fun b o hb e => hs.extBut b o hb e) (cell_not_imm hi)) rfl, S.setCell r ho hc hi hi' hs (by rw [hl]; decide), fun b o hb e => hs.extBut b o (fun q => hb ?_) e⟩
    rw [q]; unfold ownA; rw [if_pos ho]; exact .tail _ (List.mem_map.mpr ⟨_, lookup_mem hc, rfl⟩)
theorem st_name {A : Around} {env : Env} {F : Base} {ρ : List Ent} {s : Shared} {x : Str} {v : V} {u : Value} {E' : Value → Shared → Prop} (S : Sim w KF fi env m F ρ H s.heap s.gens) (r : VR ρ s.heap v u) (hk : Ours fi x) :
    wpAny (model prog w) A (storeName env x u) (fun _ s' => Step ρ s ρ s' ∧ Sim w KF fi env (setL m x v) F ρ H s'.heap s'.gens) E' s := wpAny_mono (st_name' S r hk) (fun _ _ x => ⟨x.1, x.2.1⟩) fun _ _ x => x
theorem wa_name {x : Str} {pos : Pos} {v : V} {Q : Names → List O → Prop} (hk : Ours fi x) (h : Q (setL m x v) H) : WA prog w KF fi d E m H (.Name x pos) v Q :=
  fun A env F ρ s u hA S r => wpAny_assign_Name (wpAny_mono (st_name S r hk) (fun _ s' ⟨st, S'⟩ => ⟨ρ, H, _, st, S', h⟩) fun _ _ x => x)
theorem wa_sub {o i : Expr} {pos : Pos} {v : V} {Q : Names → List O → Prop} (h : WE prog w KF fi d E m H o fun ov H₁ => WE prog w KF fi d E m H₁ i fun iv H₂ => W3 prog w KF d (Em E m) UnR H₂ setItem ov iv v fun _ H₃ => Q m H₃) : WA prog w KF fi d E m H (.Subscript o i pos) v Q :=
  fun A env F ρ s u hA S r => by
    rw [assign_Subscript]
    refine wpAny_bind (wpAny_holding (wpAny_mono (h A env F ρ s hA S) (fun ov s₁ hx => ?_) fun _ _ x => x))
    obtain ⟨ρ₁, H₁, a, st₁, S₁, ra, h₁⟩ := hx
    refine wpAny_bind (wpAny_holding (onto st₁ (wpAny_mono (h₁ A env F ρ₁ s₁ hA S₁) (fun iv s₂ hx => ?_) fun _ _ x => x) fun _ _ x => x))
    obtain ⟨ρ₂, H₂, b, st₂, S₂, rb, h₂⟩ := hx
    have st := st₁.trans st₂
    refine wpAny_bind (wpAny_standAt (wpAny_bind (wpAny_holding (onto st (lift S₂ fun F' T => h₂ A F' ρ₂ s₂ ov iv u hA T (ra.mono st₂.1 st₂.2.1) rb (r.mono st.1 st.2.1)) ?_))))
    rintro _ s₃ ⟨ρ₃, H₃, _, st₃, S₃, _, h₃⟩
    exact wpAny_release ⟨ρ₃, H₃, m, st.trans st₃, S₃, h₃⟩
theorem wa_attr {o : Expr} {attr : Str} {pos : Pos} {v : V} {Q : Names → List O → Prop} (h : WE prog w KF fi d E m H o fun ov H₁ => W2 prog w KF d (Em E m) UnR H₁ (fun u v => setAttr u attr v) ov v fun _ H₃ => Q m H₃) : WA prog w KF fi d E m H (.Attribute o attr pos) v Q :=
  fun A env F ρ s u hA S r => by
    show wpAny _ A (do
      let ov ← holding [u] (eval o env)
      standAt pos.atName
      holding [u, ov] (setAttr ov attr u)
      release [u, ov] []) _ _ s
    refine wpAny_bind (wpAny_holding (wpAny_mono (h A env F ρ s hA S) (fun ov s₁ hx => ?_) fun _ _ x => x))
    obtain ⟨ρ₁, H₁, a, st₁, S₁, ra, h₁⟩ := hx
    refine wpAny_bind (wpAny_standAt (wpAny_bind (wpAny_holding (onto st₁ (lift S₁ fun F' T => h₁ A F' ρ₁ s₁ ov u hA T ra (r.mono st₁.1 st₁.2.1)) ?_))))
    rintro _ s₃ ⟨ρ₃, H₃, _, st₃, S₃, _, h₃⟩
    exact wpAny_release ⟨ρ₃, H₃, m, st₁.trans st₃, S₃, h₃⟩
noncomputable def PlainT (es : List Expr) : Prop := ∀ env, assignEach es env = es.map fun e => (false, assign e env)
/-- one target -/
theorem ws_assign {t value : Expr} {pos : Pos} {Q : Fl → Names → List O → Prop} (h : WE prog w KF fi d E m H value fun v H₁ => WA prog w KF fi d E m H₁ t v fun m₂ H₂ => Q .next m₂ H₂)
    (hs : ∀ env, swapsWithSole [t] value pos.line env = pure false := by intro _; rfl) (hw : ∀ env, swappedStores [t] value env = pure none := by intro _; rfl) (he : ∀ env, assignEach [t] env = [(false, assign t env)] := by intro _; rfl) : WS prog w KF fi d E m H (.Assign [t] value pos) Q :=
  fun A env F ρ s hA S => by
    refine wpAny_Assign_stores (wpAny_mono (h A env F ρ s hA S) (fun u s₁ hx => ?_) fun _ _ x => x) (hs env) (hw env)
    obtain ⟨ρ₁, H₁, v, st₁, S₁, r, h₁⟩ := hx
    rw [he env]
    show wpAny _ A (assign t env u) _ _ _
    exact onto st₁ (h₁ A env F ρ₁ s₁ u hA S₁ r) fun _ s₂ ⟨ρ₂, H₂, m₂, st₂, S₂, h₂⟩ => ⟨ρ₂, H₂, m₂, .next, st₁.trans st₂, S₂, rfl, h₂⟩
/-- names stored from the last to the first -/
noncomputable def setAll (m : Names) : List Str → List V → Names
  | x :: xs, v :: vs => setAll (setL m x v) xs vs
  | _, _ => m
theorem sets_run {xs : List Str} : ∀ {m : Names} {vs : List V}, (∀ x ∈ xs, Ours fi x) → vs.length = xs.length → ∀ A env F ρ s us, Sim w KF fi env m F ρ H s.heap s.gens → VRs ρ s.heap vs us → ∀ {E' : Value → Shared → Prop},
    wpAny (model prog w) A (assignInOrder (xs.map fun x => bindName env x) us) (fun _ s' => Step ρ s ρ s' ∧ Sim w KF fi env (setAll m xs vs) F ρ H s'.heap s'.gens) E' s := by
  induction xs with
  | nil =>
    intro m vs _ hl A env F ρ s us S r E'
    cases vs with
    | nil => rw [r.nil_eq]; exact wpAny_pure ⟨.refl, S⟩
    | cons _ _ => cases hl
  | cons x xs ih =>
    intro m vs hx hl A env F ρ s us S r E'
    cases vs with
    | nil => cases hl
    | cons v vs =>
      obtain ⟨u, us, rfl, ru, rus⟩ := r.cons_eq
      show wpAny _ A (do holding us (bindName env x u); assignInOrder (xs.map fun x => bindName env x) us) _ _ s
      refine wpAny_bind (wpAny_holding (wpAny_bindName (wpAny_mono (st_name S ru (hx x (.head _))) (fun _ s₁ ⟨st₁, S₁⟩ => ?_) fun _ _ x => x)))
      exact wpAny_mono (ih (fun y hy => hx y (.tail _ hy)) (Nat.succ.inj hl) A env F ρ s₁ us S₁ (rus.mono st₁.1 st₁.2.1)) (fun _ s₂ ⟨st₂, S₂⟩ => ⟨st₁.trans st₂, S₂⟩) fun _ _ x => x
theorem VRs.reverse {ρ : List Ent} {h : Heap} : ∀ {xs : List V} {vs : List Value}, VRs ρ h xs vs → VRs ρ h xs.reverse vs.reverse
  | [], vs, r => by rw [r.nil_eq]; exact .nil
  | x :: xs, vs, r => by obtain ⟨v, q, rfl, a, b⟩ := r.cons_eq; rw [List.reverse_cons, List.reverse_cons]; exact (VRs.reverse b).append (.cons a .nil)
theorem ws_swap {es : List Expr} {k : Nat} {tp pos : Pos} {value : Expr} {xs : List Str} {Q : Fl → Names → List O → Prop} (hx : ∀ x ∈ xs, Ours fi x)
    (h : WE prog w KF fi d E m H value fun v H₁ => W1 prog w KF d (Em E m) VRs H₁ (fun u => unpackItems u xs.length none) v fun vs H₂ => vs.length = xs.length ∧ Q .next (setAll m xs.reverse vs.reverse) H₂)
    (hw : ∀ env, env.scope = fi.sc → swappedStores [.Tuple es k tp] value env = pure (some xs)) (hs : ∀ env, swapsWithSole [.Tuple es k tp] value pos.line env = pure false := by intro _; rfl) : WS prog w KF fi d E m H (.Assign [.Tuple es k tp] value pos) Q :=
  fun A env F ρ s hA S => by
    refine Assign_Tuple_swapped (names := xs) (wpAny_mono (h A env F ρ s hA S) (fun u s₁ hx => ?_) fun _ _ x => x) (hs env) (hw env S.es)
    obtain ⟨ρ₁, H₁, v, st₁, S₁, r, h₁⟩ := hx
    refine onto st₁ (wpAny_mono (lift S₁ fun F' T => h₁ A F' ρ₁ s₁ u hA T r) (fun us s₂ hx => ?_) fun _ _ x => x) fun _ _ x => x
    obtain ⟨ρ₂, H₂, vs, st₂, S₂, rs, hl, h₂⟩ := hx
    exact wpAny_mono (sets_run (fun x hxm => hx x (List.mem_reverse.mp hxm)) (by rw [List.length_reverse, List.length_reverse]; exact hl) A env F ρ₂ s₂ _ S₂ rs.reverse) (fun _ s₃ ⟨st₃, S₃⟩ => ⟨ρ₂, H₂, _, .next, (st₁.trans st₂).trans st₃, S₃, rfl, h₂⟩) fun _ _ x => x
theorem ws_augsub {o i : Expr} {p pos : Pos} {op : Operator} {value : Expr} {Q : Fl → Names → List O → Prop} (h : WE prog w KF fi d E m H o fun ov H₁ => WE prog w KF fi d E m H₁ i fun iv H₂ => W2 prog w KF d (Em E m) VR H₂ getItem ov iv fun a H₃ => WE prog w KF fi d E m H₃ value fun b H₄ => W2 prog w KF d (Em E m) VR H₄ (inplaceOp op) a b fun c H₅ => W3 prog w KF d (Em E m) UnR H₅ setItem ov iv c fun _ H₆ => Q .next m H₆)
    (hi : ∀ ov iv new, augStore i ov iv new = (do holding [new, ov, iv] (setItem ov iv new); release [new, ov, iv] []; pure .next) := by intros; rfl) : WS prog w KF fi d E m H (.AugAssign (.Subscript o i p) op value pos) Q :=
  fun A env F ρ s hA S => by
    refine wpAny_AugAssign_SubscriptAny (wpAny_mono (h A env F ρ s hA S) (fun ov s₁ hx => ?_) fun _ _ x => x) hi
    obtain ⟨ρ₁, H₁, oa, st₁, S₁, ro, h₁⟩ := hx
    refine onto st₁ (wpAny_mono (h₁ A env F ρ₁ s₁ hA S₁) (fun iv s₂ hx => ?_) fun _ _ x => x) fun _ _ x => x
    obtain ⟨ρ₂, H₂, ia, st₂, S₂, ri, h₂⟩ := hx
    have t2 := st₁.trans st₂
    refine onto t2 (wpAny_mono (lift S₂ fun F' T => h₂ A F' ρ₂ s₂ ov iv hA T (ro.mono st₂.1 st₂.2.1) ri) (fun old s₃ hx => ?_) fun _ _ x => x) fun _ _ x => x
    obtain ⟨ρ₃, H₃, aa, st₃, S₃, ra, h₃⟩ := hx
    have t3 := t2.trans st₃
    refine onto t3 (wpAny_mono (h₃ A env F ρ₃ s₃ hA S₃) (fun b s₄ hx => ?_) fun _ _ x => x) fun _ _ x => x
    obtain ⟨ρ₄, H₄, ba, st₄, S₄, rb, h₄⟩ := hx
    have t4 := t3.trans st₄
    refine onto t4 (wpAny_mono (lift S₄ fun F' T => h₄ A F' ρ₄ s₄ old b hA T (ra.mono st₄.1 st₄.2.1) rb) (fun c s₅ hx => ?_) fun _ _ x => x) fun _ _ x => x
    obtain ⟨ρ₅, H₅, ca, st₅, S₅, rc, h₅⟩ := hx
    have t5 := t4.trans st₅
    have u35 := (st₃.trans st₄).trans st₅
    have u25 := st₂.trans u35
    exact onto t5 (lift S₅ fun F' T => h₅ A F' ρ₅ s₅ ov iv c hA T (ro.mono u25.1 u25.2.1) (ri.mono u35.1 u35.2.1) rc) fun _ s₆ ⟨ρ₆, H₆, _, st₆, S₆, _, h₆⟩ => ⟨ρ₆, H₆, m, .next, t5.trans st₆, S₆, rfl, h₆⟩
theorem ws_if {c : Expr} {x y : List Stmt} {pos : Pos} {Q : Fl → Names → List O → Prop} (h : WT prog w KF fi d E m H c fun b H₁ => if b = true then WB prog w KF fi d E m H₁ x Q else WB prog w KF fi d E m H₁ y Q) : WS prog w KF fi d E m H (.If c x y pos) Q :=
  fun A env F ρ s hA S => wpAny_If (wpAny_mono (h A env F ρ s hA S) (fun b s₁ ⟨ρ₁, H₁, a, st₁, S₁, ra, h₁⟩ => by
    cases ra
    cases b
    · exact onto st₁ ((show WB prog w KF fi d E m H₁ y Q from h₁) A env F ρ₁ s₁ hA S₁) fun _ _ x => x.step st₁
    · exact onto st₁ ((show WB prog w KF fi d E m H₁ x Q from h₁) A env F ρ₁ s₁ hA S₁) fun _ _ x => x.step st₁) fun _ _ x => x)
theorem ws_ret {e : Expr} {pos : Pos} {Q : Fl → Names → List O → Prop} (h : WE prog w KF fi d E m H e fun v H₁ => Q (.ret v) m H₁) : WS prog w KF fi d E m H (.Return (some e) pos) Q :=
  fun A env F ρ s hA S => wpAny_Return_some (wpAny_mono (h A env F ρ s hA S) (fun u s₁ ⟨ρ₁, H₁, a, st₁, S₁, ra, h₁⟩ => ⟨ρ₁, H₁, m, .ret a, st₁, S₁, ⟨u, rfl, ra⟩, h₁⟩) fun _ _ x => x)
theorem Sim.noint {env : Env} {F : Base} {ρ : List Ent} {h : Heap} {gs : Array GenState} (S : Sim w KF fi env m F ρ H h gs) : interactive env = false := by unfold interactive; rw [S.kd]; rfl
theorem ws_expr {e : Expr} {pos : Pos} {Q : Fl → Names → List O → Prop} (h : WE prog w KF fi d E m H e fun v H₁ => Q .next m H₁) (hs : ∀ env, swapsWith e none pos.line env = pure false := by intro _; rfl) : WS prog w KF fi d E m H (.Expr e pos) Q :=
  fun A env F ρ s hA S => wpAny_Expr_any (wpAny_mono (h A env F ρ s hA S) (fun u s₁ ⟨ρ₁, H₁, a, st₁, S₁, ra, h₁⟩ => ⟨ρ₁, H₁, m, .next, st₁, S₁, rfl, h₁⟩) fun _ _ x => x) S.noint (hs env)
theorem wb_nil {Q : Fl → Names → List O → Prop} (h : Q .next m H) : WB prog w KF fi d E m H [] Q :=
  fun A env F ρ s hA S => wpAny_execs_nil ⟨ρ, H, m, .next, .refl, S, rfl, h⟩
theorem wb_cons {st : Stmt} {rest : List Stmt} {Q : Fl → Names → List O → Prop} (h : WS prog w KF fi d E m H st fun f m₁ H₁ => match f with | .next => WB prog w KF fi d E m₁ H₁ rest Q | f => Q f m₁ H₁) : WB prog w KF fi d E m H (st :: rest) Q :=
  fun A env F ρ s hA S => wpAny_execs_cons (wpAny_mono (h A env F ρ s hA S) (fun f s₁ ⟨ρ₁, H₁, m₁, fl, st₁, S₁, rf, h₁⟩ => by
    cases fl with
    | next => cases rf; exact onto st₁ (h₁ A env F ρ₁ s₁ hA S₁) fun _ _ x => x.step st₁
    | brk => cases rf; exact ⟨ρ₁, H₁, m₁, .brk, st₁, S₁, rfl, h₁⟩
    | cont => cases rf; exact ⟨ρ₁, H₁, m₁, .cont, st₁, S₁, rfl, h₁⟩
    | ret v => obtain ⟨u, rfl, r⟩ := rf; exact ⟨ρ₁, H₁, m₁, .ret v, st₁, S₁, ⟨u, rfl, r⟩, h₁⟩) fun _ _ x => x)
end
end Mine
end
section
open PySem PySem.W PyProof.Rows PySem.W.X
namespace Mine
/-- nothing but fp is touched -/
noncomputable def Chg (fp : List Nat) (s s' : Shared) : Prop := s'.gens = s.gens ∧ s'.os = s.os ∧ TK s.heap s'.heap ∧ ∀ b o, b ∉ fp → s.heap.get? b = some o → s'.heap.get? b = some o
theorem Chg.refl {fp : List Nat} {s : Shared} : Chg fp s s := ⟨rfl, rfl, .refl _, fun _ _ _ e => e⟩
section
variable {w : World} {KF : Frag} {fi : FI} {env : Env} {m m' : Names} {F : Base} {ρ ρ' : List Ent} {H H' : List O} {h h' : Heap} {gs gs' : Array GenState} {fp : List Nat}
theorem HSim.chg {s s' : Shared} (S : HSim w KF F ρ H s.heap s.gens) (hf : ∀ b ∈ fp, F b = none ∧ b ∉ fps ρ) (c : Chg fp s s') : HSim w KF F ρ H s'.heap s'.gens := by
  obtain ⟨cg, _, t, k⟩ := c
  have kF : KeepG F s'.heap := fun b o e => k b o (fun q => by rw [(hf b q).1] at e; cases e) (S.keep b o e)
  have kp : ∀ b ∈ fps ρ, ∀ o, s.heap.get? b = some o → s'.heap.get? b = some o := fun b hb o e => k b o (fun q => (hf b q).2 hb) e
  exact ⟨S.bs, kF, S.len, fun i e o hi ho => (S.ob i e o hi ho).mono (List.prefix_refl _) t S.keep kF (fun b hb q hq => kp b (fps_mem hi hb) q hq), fun b hb => let ⟨o, ho⟩ := S.live b hb; ⟨o, kp b hb o ho⟩, S.nd, S.off, S.gn, by rw [cg]; exact S.bare, by rw [cg]; exact S.gf⟩
/-- fp is none of the frame's -/
noncomputable def FpOff (fi : FI) (env : Env) (F : Base) (ρ : List Ent) (fp : List Nat) : Prop := ∀ b ∈ fp, F b = none ∧ b ∉ fps ρ ∧ b ∉ ownA fi env
theorem Sim.chg {s s' : Shared} (S : Sim w KF fi env m F ρ H s.heap s.gens) (hf : FpOff fi env F ρ fp) (c : Chg fp s s') : Sim w KF fi env m F ρ H s'.heap s'.gens :=
  S.ofH (List.prefix_refl _) c.2.2.1 (S.toH.chg (fun b hb => ⟨by rw [addF_out (hf b hb).2.2]; exact (hf b hb).1, (hf b hb).2.1⟩) c)
theorem Sim.own_live (S : Sim w KF fi env m F ρ H h gs) : ∀ b ∈ ownA fi env, ∃ o, h.get? b = some o ∧ o.cls ≠ .type "list" ∨ ∃ o, h.get? b = some o := fun b hb => by
  unfold ownA at hb
  split at hb
  · rcases List.mem_cons.mp hb with rfl | hb
    · obtain ⟨mv, ⟨o, _, _, ho, _⟩, _⟩ := S.ns; exact ⟨o, .inr ⟨o, ho⟩⟩
    · obtain ⟨⟨x, c⟩, hm, rfl⟩ := List.mem_map.mp hb
      obtain ⟨ov, ⟨o, ho, _⟩, _⟩ := S.cl x c (S.cu x c hm).1
      exact ⟨o, .inr ⟨o, ho⟩⟩
  · rw [List.mem_singleton.mp hb]
    obtain ⟨mv, ⟨o, _, _, ho, _⟩, _⟩ := S.ns; exact ⟨o, .inr ⟨o, ho⟩⟩
theorem Sim.fresh (S : Sim w KF fi env m F ρ H h gs) (hf : ∀ b ∈ fp, h.get? b = none) : FpOff fi env F ρ fp := fun b hb => by
  refine ⟨?_, fun q => ?_, fun q => ?_⟩
  · cases q : F b with
    | none => rfl
    | some o => have := S.hs.keep _ _ q; rw [hf b hb] at this; cases this
  · obtain ⟨o, ho⟩ := S.hs.live b q; rw [hf b hb] at ho; cases ho
  · obtain ⟨o, ⟨ho, _⟩ | ⟨o, ho⟩⟩ := S.own_live b q <;> (rw [hf b hb] at ho; cases ho)
/-- the iterator put into the base -/
theorem Sim.rebase (S : Sim w KF fi env m F ρ H h gs) (hf : FpOff fi env F ρ fp) : Sim w KF fi env m (addF F h fp) ρ H h gs := by
  have hF : ∀ b o, F b = some o → addF F h fp b = some o := fun b o e => by
    rw [addF_out (fun q => by rw [(hf b q).1] at e; cases e)]; exact e
  refine ⟨⟨fun h' k => S.hs.bs h' (fun b o e => k b o (hF b o e)), fun b o e => ?_, S.hs.len, fun i e o hi ho => (S.hs.ob i e o hi ho).base hF, S.hs.live, S.hs.nd, fun b hb => ?_, S.hs.gn, S.hs.bare, S.hs.gf⟩, S.es, S.eg, S.eb, S.ec, S.ek, fun b hb => ⟨?_, (S.lo b hb).2⟩, S.ns, S.cl, S.ce, S.cn, S.cu, S.cd, fun q x c hc => ?_⟩
  · by_cases q : b ∈ fp
    · rw [addF_in q] at e; exact e
    · rw [addF_out q] at e; exact S.hs.keep b o e
  · rw [addF_out (fun q => (hf b q).2.1 hb)]; exact S.hs.off b hb
  · rw [addF_out (fun q => (hf b q).2.2 hb)]; exact (S.lo b hb).1
  · obtain ⟨o, ho⟩ := Option.isSome_iff_exists.mp (S.cf q x c hc)
    rw [hF c o ho]; rfl
theorem Sim.unbase (S : Sim w KF fi env m F ρ H h gs) (hf : FpOff fi env F ρ fp) (hl : ∀ b ∈ fp, ∃ o, h.get? b = some o) (p : ρ <+: ρ') {nn : Nat} (nw : New nn ρ ρ') (T : Sim w KF fi env m' (addF F h fp) ρ' H' h' gs') :
    Sim w KF fi env m' F ρ' H' h' gs' ∧ FpOff fi env F ρ' fp ∧ ∀ b ∈ fp, ∀ o, h.get? b = some o → h'.get? b = some o := by
  have hF : ∀ b o, F b = some o → addF F h fp b = some o := fun b o e => by
    rw [addF_out (fun q => by rw [(hf b q).1] at e; cases e)]; exact e
  have hoF : ∀ b, addF F h fp b = none → F b = none := fun b q => by
    cases z : F b with
    | none => rfl
    | some o => rw [hF b o z] at q; cases q
  have kp : ∀ b ∈ fp, ∀ o, h.get? b = some o → h'.get? b = some o := fun b hb o e => T.hs.keep b o (by rw [addF_in hb]; exact e)
  refine ⟨⟨⟨S.hs.bs, fun b o e => T.hs.keep b o (hF b o e), T.hs.len, fun i e o hi ho => ?_, T.hs.live, T.hs.nd, fun b hb => hoF b (T.hs.off b hb), T.hs.gn, T.hs.bare, T.hs.gf⟩, T.es, T.eg, T.eb, T.ec, T.ek, fun b hb => ⟨hoF b (T.lo b hb).1, (T.lo b hb).2⟩, T.ns, T.cl, T.ce, T.cn, T.cu, T.cd, S.cf⟩, fun b hb => ⟨(hf b hb).1, fun q => ?_, (hf b hb).2.2⟩, kp⟩
  · have y := T.hs.ob i e o hi ho
    cases o with
    | arr xs =>
      obtain ⟨a, b, l, f⟩ := y
      refine ⟨a, b, l, ?_⟩
      by_cases q : i < ρ.length
      · have hi' : ρ[i]? = some e := by obtain ⟨t, rfl⟩ := p; rwa [List.getElem?_append_left q] at hi
        have hH : i < H.length := by rw [← S.hs.len]; exact q
        have y' := S.hs.ob i e H[i] hi' (List.getElem?_eq_getElem hH)
        rcases y'.own with ⟨ys, q2⟩ | q2 | q2
        · rw [q2] at y'; exact y'.2.2.2
        · rw [a] at q2; cases q2
        · rw [b] at q2; cases q2
      · exact absurd a (nw i e (Nat.not_lt.mp q) hi).1
    | _ => exact y
  · have := T.hs.off b q
    rw [addF_in hb] at this
    obtain ⟨o, ho⟩ := hl b hb
    rw [this] at ho; cases ho
end
/-- an iterator and its items -/
structure Iter (prog : Program) (w : World) (KF : Frag) (I : Nat) (fp : List Nat) (xs : List V) (G : List O → Prop) (St : Nat → List Ent → Heap → Prop) : Prop where
  frame : ∀ i ρ h ρ' h', St i ρ h → ρ <+: ρ' → TK h h' → (∀ b ∈ fp, ∀ o, h.get? b = some o → h'.get? b = some o) → St i ρ' h'
  live : ∀ i ρ h, St i ρ h → ∀ b ∈ fp, ∃ o, h.get? b = some o
  lot : ∀ A i ρ (s : Shared) t v (E' : Value → Shared → Prop), St i ρ s.heap → wpAny (model prog w) A (letOwnedTupleGo t (.ref I) v) (fun _ s' => St i ρ s'.heap ∧ Chg fp s s') E' s
  item : ∀ A F ρ H (s : Shared) i x (E' : Value → Shared → Prop), A.handled = none → HSim w KF F ρ H s.heap s.gens → G H → St i ρ s.heap → xs[i]? = some x →
    wpAny (model prog w) A (pyNext (.ref I)) (fun r s' => ∃ v, r = some v ∧ VR ρ s'.heap x v ∧ St (i + 1) ρ s'.heap ∧ Chg fp s s') E' s
  done : ∀ A F ρ H (s : Shared) (E' : Value → Shared → Prop), A.handled = none → HSim w KF F ρ H s.heap s.gens → G H → St xs.length ρ s.heap →
    wpAny (model prog w) A (pyNext (.ref I)) (fun r s' => r = none ∧ Chg fp s s') E' s
  self : ∀ A i ρ (s : Shared) (K : Value → Shared → Prop) (E' : Value → Shared → Prop), St i ρ s.heap → K (.ref I) s → wpAny (model prog w) A (pyIter (.ref I)) K E' s
section
variable (prog : Program) (w : World) (KF : Frag) (d : Nat) (E : HEP)
/-- the items that a value gives, as long as G holds -/
noncomputable def IterW (H : List O) (v : V) (xs : List V) (G : List O → Prop) : Prop :=
  ∀ A F ρ s u, Room A d → HSim w KF F ρ H s.heap s.gens → VR ρ s.heap v u → wpAny (model prog w) A (pyIter u) (fun it s' => ∃ I fp St, it = .ref I ∧ Iter prog w KF I fp xs G St ∧ St 0 ρ s'.heap ∧ Keep s.heap s'.heap ∧ s'.gens = s.gens ∧ s'.os = s.os ∧ ∀ b ∈ fp, s.heap.get? b = none) (HE w KF F ρ s E) s
end
section
variable {prog : Program} {w : World} {KF : Frag} {fi : FI} {d : Nat} {E : EP} {m : Names} {H : List O}
theorem Chg.step {fp : List Nat} {s s' : Shared} {ρ : List Ent} (c : Chg fp s s') : Step ρ s ρ s' := .same c.2.2.1 c.2.1 (by rw [c.1]; exact Nat.le_refl _)
end
end Mine
end
section
open PySem PySem.W PyProof.Rows PySem.W.X
namespace Mine
section
variable {prog : Program} {w : World} {KF : Frag} {A : Around} {E : HEP} {d : Nat} {H : List O}
/-- an iterator that is no owner of its tuples -/
theorem lot_plain {s : Shared} {I : Nat} {o : Obj} {n : String} {t : Expr} {v : Value} {K : Unit → Shared → Prop} {E' : Value → Shared → Prop} (ho : s.heap.get? I = some o) (hc : o.cls = .type n)
    (hn : ["enumerate", "zip", "dict_itemiterator", "dict_reverseitemiterator", "odict_iterator", "itertools.zip_longest", "itertools.pairwise"].contains n = false) (h : K () s) : wpAny (model prog w) A (letOwnedTupleGo t (.ref I) v) K E' s := by
  have main : wpAny (model prog w) A (do
      let (.ref r, .ref a) := (Value.ref I, v) | return
      let o ← load r
      match o.cls, o.data with
      | .type n, .fields vs =>
        if ["enumerate", "zip", "dict_itemiterator", "dict_reverseitemiterator", "odict_iterator", "itertools.zip_longest", "itertools.pairwise"].contains n && vs[0]? == some (rawInt a) then
          rule "for.unpacks-the-owned-tuple"
          updateField r 0 .none
      | _, _ => pure () : Sem Unit) K E' s := by
    cases v with
    | ref a =>
      refine wpAny_bind (wpAny_load ho ?_)
      rw [hc]
      cases hd : o.data with
      | fields vs =>
        dsimp only
        rw [hn, Bool.false_and, if_neg (by decide)]
        exact wpAny_pure h
      | _ => exact wpAny_pure h
    | _ => exact wpAny_pure h
  unfold letOwnedTupleGo
  split
  · exact main
  · exact main
  · exact wpAny_pure h
theorem sameBut_chg {s : Shared} {I : Nat} {h' : Heap} {tk : Nat} (x : ∀ b o, b ≠ I → s.heap.get? b = some o → h'.get? b = some o) (hi : ∀ o, s.heap.get? I = some o → ¬ Imm o) : Chg [I] s { s with heap := h', toks := tk } :=
  ⟨rfl, rfl, .of_ext x hi, fun b o hb e => x b o (fun q => hb (q ▸ List.mem_singleton.mpr rfl)) e⟩
theorem not_imm {h : Heap} {a : Nat} {o : Obj} {n : String} {vs : Array Value} (ho : h.get? a = some o) (hc : o.cls = .type n) (hd : o.data = .fields vs) (hn : n ≠ "range") : ∀ q, h.get? a = some q → ¬ Imm q := fun q hq => by
  rw [ho] at hq; cases hq
  rintro (⟨⟨xs, k, z⟩, _⟩ | ⟨z, _⟩)
  · rw [hd] at z; cases z
  · rw [hc] at z; cases z; exact hn rfl
theorem iter_range {a : Int} {n : Nat} {I : Nat} : Iter prog w KF I [I] ((List.range n).map fun i => V.int (a + (i : Nat))) (fun _ => True) (fun i _ h => IsRangeIter h I (a + (i : Nat)) ((n : Int) - (i : Nat)) 1) where
  frame := fun i ρ h ρ' h' st _ _ k => k I (.head _) _ st
  live := fun i ρ h st b hb => by rw [List.mem_singleton.mp hb]; exact ⟨_, st⟩
  lot := fun A i ρ s t v E' st => lot_plain st rfl (by decide) ⟨st, .refl⟩
  item := fun A F ρ H s i x E' hh S _ st hx => by
    have hi : i < n := by have := (List.getElem?_eq_some_iff.mp hx).1; simpa using this
    have hx' : x = V.int (a + (i : Nat)) := by rw [List.getElem?_map, List.getElem?_range hi] at hx; exact (Option.some.inj hx).symm
    refine wpAny_pyNext_range_item st (by omega) fun h' hit' hs' => ⟨_, rfl, ?_, ?_, sameBut_chg (fun b o hb e => hs'.extBut b o hb e) (not_imm st rfl rfl (by decide))⟩
    · rw [hx']; unfold VR; exact ⟨_, rfl⟩
    · have e1 : a + ((i + 1 : Nat) : Int) = a + (i : Nat) + 1 := by omega
      have e2 : (n : Int) - ((i + 1 : Nat) : Int) = (n : Int) - (i : Nat) - 1 := by omega
      show IsRangeIter h' I (a + ((i + 1 : Nat) : Int)) ((n : Int) - ((i + 1 : Nat) : Int)) 1
      rw [e1, e2]; exact hit'
  done := fun A F ρ H s E' hh S _ st => by
    rw [List.length_map, List.length_range] at st
    exact wpAny_pyNext_range_end hh st (by omega) fun h' he' => ⟨rfl, sameBut_chg (fun b o hb e => he' b o hb e) (not_imm st rfl rfl (by decide))⟩
  self := fun A i ρ s K E' st hK => wpAny_pyIter_rangeiter st hK
theorem iter_list {l : Nat} {xs : List V} {I : Nat} : Iter prog w KF I [I] xs (fun H => H[l]? = some (.list xs) ∨ H[l]? = some (.arr xs)) (fun i ρ h => ∃ e, ρ[l]? = some e ∧ h.IsListIter I e.a i) where
  frame := fun i ρ h ρ' h' ⟨e, he, o, ho, r⟩ p _ k => ⟨e, pre_get p he, o, k I (.head _) o ho, r⟩
  live := fun i ρ h ⟨e, he, o, ho, hc, hd⟩ b hb => by rw [List.mem_singleton.mp hb]; exact ⟨o, ho⟩
  lot := fun A i ρ s t v E' st => by obtain ⟨e, he, o, ho, hc, hd⟩ := id st; exact lot_plain ho hc (by decide) ⟨st, .refl⟩
  item := fun A F ρ H s i x E' hh S hG st hx => by
    obtain ⟨e, he, st⟩ := st
    have hr : ∃ vs : List Value, s.heap.IsList e.a vs.toArray ∧ VRs ρ s.heap xs vs := by
      rcases hG with hG | hG
      · obtain ⟨_, _, vs, a, b⟩ := S.ob l e _ he hG; exact ⟨vs, a.isList, b⟩
      · obtain ⟨_, _, ⟨vs, a, b⟩, _⟩ := S.ob l e _ he hG; exact ⟨vs, a, b⟩
    obtain ⟨vs, hl, hv⟩ := hr
    obtain ⟨v, hv1, hv2⟩ := hv.get hx
    obtain ⟨o, ho, hc, hd⟩ := id st
    refine wpAny_pyNext_list_item st hl (x := v) (by simpa using hv1) fun h' hit' hs' => ?_
    have c : Chg [I] s { s with heap := h', toks := s.toks } := sameBut_chg (fun b o hb e => hs'.extBut b o hb e) (not_imm ho hc hd (by decide))
    exact ⟨v, rfl, hv2.mono (List.prefix_refl _) c.2.2.1, ⟨e, he, hit'⟩, c⟩
  done := fun A F ρ H s E' hh S hG st => by
    obtain ⟨e, he, st⟩ := st
    have hr : ∃ vs : List Value, s.heap.IsList e.a vs.toArray ∧ VRs ρ s.heap xs vs := by
      rcases hG with hG | hG
      · obtain ⟨_, _, vs, a, b⟩ := S.ob l e _ he hG; exact ⟨vs, a.isList, b⟩
      · obtain ⟨_, _, ⟨vs, a, b⟩, _⟩ := S.ob l e _ he hG; exact ⟨vs, a, b⟩
    obtain ⟨vs, hl, hv⟩ := hr
    obtain ⟨o, ho, hc, hd⟩ := id st
    exact wpAny_pyNext_list_end hh st hl (by simp [hv.len]) fun h' he' => ⟨rfl, sameBut_chg (tk := s.toks) (fun b o hb e => he' b o hb e) (not_imm ho hc hd (by decide))⟩
  self := fun A i ρ s K E' ⟨e, he, st⟩ hK => wpAny_pyIter_listiter st hK
theorem iter_tup {xs : List V} {I : Nat} : Iter prog w KF I [I] xs (fun _ => True) (fun i ρ h => ∃ a vs, h.IsTupleIter I a i ∧ h.IsTuple a (List.toArray vs) ∧ VRs ρ h xs vs) where
  frame := fun i ρ h ρ' h' ⟨a, vs, ⟨o, ho, r⟩, t, q⟩ p tk k => ⟨a, vs, ⟨o, k I (.head _) o ho, r⟩, tk_tuple tk t, q.mono p tk⟩
  live := fun i ρ h ⟨a, vs, ⟨o, ho, hc, hd⟩, _⟩ b hb => by rw [List.mem_singleton.mp hb]; exact ⟨o, ho⟩
  lot := fun A i ρ s t v E' st => by obtain ⟨a, vs, ⟨o, ho, hc, hd⟩, _⟩ := id st; exact lot_plain ho hc (by decide) ⟨st, .refl⟩
  item := fun A F ρ H s i x E' hh S hG st hx => by
    obtain ⟨a, vs, st, ht, hv⟩ := st
    obtain ⟨v, hv1, hv2⟩ := hv.get hx
    obtain ⟨o, ho, hc, hd⟩ := id st
    refine wpAny_pyNext_tuple_item st ht (x := v) (by simpa using hv1) fun h' hit' hs' => ?_
    have c : Chg [I] s { s with heap := h', toks := s.toks } := sameBut_chg (fun b o hb e => hs'.extBut b o hb e) (not_imm ho hc hd (by decide))
    exact ⟨v, rfl, hv2.mono (List.prefix_refl _) c.2.2.1, ⟨a, vs, hit', tk_tuple c.2.2.1 ht, hv.mono (List.prefix_refl _) c.2.2.1⟩, c⟩
  done := fun A F ρ H s E' hh S hG st => by
    obtain ⟨a, vs, st, ht, hv⟩ := st
    obtain ⟨o, ho, hc, hd⟩ := id st
    exact wpAny_pyNext_tuple_end hh st ht (by simp [hv.len]) fun h' he' => ⟨rfl, sameBut_chg (tk := s.toks) (fun b o hb e => he' b o hb e) (not_imm ho hc hd (by decide))⟩
  self := fun A i ρ s K E' ⟨a, vs, st, _⟩ hK => wpAny_pyIter_tupleiter st hK
/-- a small range -/
theorem rng_small {a b : Int} (ha : -(2 ^ 61) ≤ a ∧ a < 2 ^ 61) (hb : -(2 ^ 61) ≤ b ∧ b < 2 ^ 61) : Builtin.Range.small a b 1 = true ∧ Builtin.Range.rangeSize a b 1 = (((b - a).toNat : Nat) : Int) := by
  have e : Builtin.Range.rangeSize a b 1 = (((b - a).toNat : Nat) : Int) := by
    rw [rangeSize_one]
    split <;> omega
  refine ⟨?_, e⟩
  unfold Builtin.Range.small
  rw [e]
  unfold Builtin.Range.rangeFitsLong
  simp
  omega
theorem iw_range {a b : Int} (ha : -(2 ^ 61) ≤ a ∧ a < 2 ^ 61) (hb : -(2 ^ 61) ≤ b ∧ b < 2 ^ 61) : IterW prog w KF d E H (.rng a b) ((List.range (b - a).toNat).map fun i => V.int (a + (i : Nat))) (fun _ => True) := fun A F ρ s u hA S r => by
  unfold VR at r
  obtain ⟨r, rfl, t, u, k, hr⟩ := r
  obtain ⟨hs, hn⟩ := rng_small ha hb
  refine wpAny_pyIter_range hr hs ⟨_, [_], _, rfl, iter_range (a := a) (n := (b - a).toNat), ?_, fun _ _ e => Heap.get?_push_of_some _ e, rfl, rfl, fun b hb => by rw [List.mem_singleton.mp hb]; exact get_size _⟩
  rw [hn]
  show IsRangeIter _ _ (a + ((0 : Nat) : Int)) (((b - a).toNat : Int) - ((0 : Nat) : Int)) 1
  rw [show a + ((0 : Nat) : Int) = a by omega, show (((b - a).toNat : Int) - ((0 : Nat) : Int)) = ((b - a).toNat : Int) by omega]
  exact Heap.get?_push_size _ rfl
theorem iw_list {l : Nat} {xs : List V} (hl : H[l]? = some (.list xs) ∨ H[l]? = some (.arr xs)) : IterW prog w KF d E H (.ref l) xs (fun H => H[l]? = some (.list xs) ∨ H[l]? = some (.arr xs)) := fun A F ρ s u hA S r => by
  unfold VR at r
  obtain ⟨e, he, rfl⟩ := r
  have hr : ∃ vs : List Value, s.heap.IsList e.a vs.toArray ∧ VRs ρ s.heap xs vs := by
    rcases hl with hG | hG
    · obtain ⟨_, _, vs, a, b⟩ := S.ob l e _ he hG; exact ⟨vs, a.isList, b⟩
    · obtain ⟨_, _, ⟨vs, a, b⟩, _⟩ := S.ob l e _ he hG; exact ⟨vs, a, b⟩
  obtain ⟨vs, hl, hv⟩ := hr
  exact wpAny_pyIter_list hl ⟨_, [_], _, rfl, iter_list (l := l), ⟨e, he, _, Heap.get?_push_size _ rfl, rfl, rfl⟩, fun _ _ e => Heap.get?_push_of_some _ e, rfl, rfl, fun b hb => by rw [List.mem_singleton.mp hb]; exact get_size _⟩
theorem iw_tup {xs : List V} : IterW prog w KF d E H (.tup xs) xs (fun _ => True) := fun A F ρ s u hA S r => by
  unfold VR at r
  obtain ⟨a, vs, rfl, ht, hv⟩ := r
  have k : Keep s.heap (s.heap.push { cls := .type "tuple_iterator", data := .fields #[.ref a, .int 0 0] }) := fun _ _ e => Heap.get?_push_of_some _ e
  exact wpAny_pyIter_tuple ht ⟨_, [_], _, rfl, iter_tup, ⟨a, vs, ⟨_, Heap.get?_push_size _ rfl, rfl, rfl⟩, ht.push _, hv.mono (List.prefix_refl _) (.of_keep k)⟩, k, rfl, rfl, fun b hb => by rw [List.mem_singleton.mp hb]; exact get_size _⟩
end
end Mine
end
section
open PySem PySem.W PyProof.Rows PySem.W.X
namespace Mine
/-- a comprehension's scope in its frame's -/
noncomputable def compSc (sc' sc : Scope) : Scope := { sc' with names := sc'.names.map fun (n, k) => if (k == .free && sc.kind == .function && sc.names.lookup n == some .cell) then (n, .cell) else (n, k) }
noncomputable def ci (sc' : Scope) (fi : FI) : FI := ⟨compSc sc' fi.sc, false, fi.co⟩
noncomputable def locN (sc' : Scope) : Names := (sc'.names.filter fun x => x.2 == .local).map fun x => (x.1, none)
noncomputable def clo (cells : List (Str × Nat)) (names : List (Str × NameKind)) : List (Str × Nat) := ((names.filter fun x => x.2 == .free).map fun x => (x.1, (cells.lookup x.1).getD 0)).reverse
theorem clo_go {env : Env} : ∀ (names : List (Str × NameKind)) (acc : List (Str × Nat)), (∀ n, (n, NameKind.free) ∈ names → ∃ c, env.cells.lookup n = some c) →
    (forIn names acc fun x r => match x with | (name, kind) => if (kind == NameKind.free) = true then do let a ← cellOf env name; pure (ForInStep.yield ((name, a) :: r)) else (pure (ForInStep.yield r) : Sem (ForInStep (List (Str × Addr))))) = pure (clo env.cells names ++ acc)
  | [], acc, _ => rfl
  | (n, k) :: r, acc, h => by
    rw [List.forIn_cons]
    cases q : (k == NameKind.free) with
    | true =>
      have hk : k = .free := by simpa using q
      subst hk
      obtain ⟨c, hc⟩ := h n (.head _)
      have e : cellOf env n = pure c := by unfold cellOf; rw [hc]
      simp only [beq_self_eq_true, if_true, e]
      refine (clo_go (env := env) r ((n, c) :: acc) (fun n' hn' => h n' (.tail _ hn'))).trans (congrArg pure ?_)
      simp [clo, List.filter_cons, hc]
    | false =>
      simp only [q, Bool.false_eq_true, if_false]
      refine (clo_go (env := env) r acc (fun n' hn' => h n' (.tail _ hn'))).trans (congrArg pure ?_)
      simp [clo, List.filter_cons, q]
theorem closure_eq {env : Env} {sc' : Scope} (h : ∀ n, (n, NameKind.free) ∈ sc'.names → ∃ c, env.cells.lookup n = some c) : closureFor sc' env = pure (clo env.cells sc'.names) := by
  simp only [closureFor]
  have := clo_go (env := env) sc'.names [] h
  rw [List.append_nil] at this
  rw [this]
  rfl
/-- what a comprehension's scope must be -/
structure CompOk (sc' : Scope) (fi : FI) : Prop where
  nd : (sc'.names.map (·.1)).Nodup
  nc : ∀ x ∈ sc'.names, x.2 ≠ .cell
  kd : sc'.kind = .function
  fr' : ∀ p ∈ sc'.names, p.2 = .free → fi.sc.names.lookup p.1 = some .cell ∨ fi.sc.names.lookup p.1 = some .free
theorem CompOk.fr {sc' : Scope} {fi : FI} (h : CompOk sc' fi) (n : Str) (hn : (n, NameKind.free) ∈ sc'.names) : fi.sc.names.lookup n = some .cell ∨ fi.sc.names.lookup n = some .free := h.fr' _ hn rfl
theorem nodup_lookup {α : Type} : ∀ {l : List (Str × α)} {x : Str} {k : α}, (l.map (·.1)).Nodup → (x, k) ∈ l → l.lookup x = some k
  | [], _, _, _, h => nomatch h
  | (y, j) :: l, x, k, nd, h => by
    rw [List.map_cons, List.nodup_cons] at nd
    rw [List.lookup_cons]
    rcases List.mem_cons.mp h with q | q
    · cases q; rw [beq_self_eq_true]
    · have : (x == y) = false := by
        cases e : (x == y) with
        | false => rfl
        | true => exact absurd (List.mem_map.mpr ⟨_, q, by simpa using e⟩) nd.1
      rw [this]; exact nodup_lookup nd.2 q
theorem clo_mem {cells : List (Str × Nat)} {names : List (Str × NameKind)} {x : Str} {c : Nat} : (x, c) ∈ clo cells names ↔ (x, NameKind.free) ∈ names ∧ c = (cells.lookup x).getD 0 := by
  unfold clo
  rw [List.mem_reverse, List.mem_map]
  constructor
  · rintro ⟨⟨y, k⟩, hm, e⟩
    obtain ⟨h1, h2⟩ := List.mem_filter.mp hm
    cases e
    have : k = .free := by simpa using h2
    subst this
    exact ⟨h1, rfl⟩
  · rintro ⟨h, rfl⟩
    exact ⟨(x, .free), List.mem_filter.mpr ⟨h, rfl⟩, rfl⟩
theorem clo_lookup {cells : List (Str × Nat)} {names : List (Str × NameKind)} {x : Str} (h : (x, NameKind.free) ∈ names) : (clo cells names).lookup x = some ((cells.lookup x).getD 0) := by
  have hm : (x, (cells.lookup x).getD 0) ∈ clo cells names := clo_mem.mpr ⟨h, rfl⟩
  have : ∀ l : List (Str × Nat), (∀ y c, (y, c) ∈ l → c = (cells.lookup y).getD 0) → (x, (cells.lookup x).getD 0) ∈ l → l.lookup x = some ((cells.lookup x).getD 0) := by
    intro l
    induction l with
    | nil => intro _ h; cases h
    | cons p r ih =>
      obtain ⟨k, c⟩ := p
      intro h1 h2
      rw [List.lookup_cons]
      cases e : (x == k) with
      | true =>
        have : x = k := by simpa using e
        subst this
        show some c = _
        rw [h1 x c (.head _)]
      | false =>
        rcases List.mem_cons.mp h2 with q | q
        · exfalso
          have : x = k := (Prod.mk.inj q).1
          rw [this, beq_self_eq_true] at e; cases e
        · exact ih (fun y c hy => h1 y c (.tail _ hy)) q
  exact this _ (fun y c hy => (clo_mem.mp hy).2) hm
theorem getL_app {l : List Str} {m : Names} {x : Str} : getL (l.map (fun y => (y, none)) ++ m) x = if x ∈ l then none else getL m x := by
  induction l with
  | nil => rfl
  | cons y l ih =>
    unfold getL at ih ⊢
    rw [List.map_cons, List.cons_append, List.lookup_cons]
    cases e : (x == y) with
    | true =>
      have : x = y := by simpa using e
      rw [if_pos (by rw [this]; exact .head _)]; rfl
    | false =>
      have hne : x ≠ y := by simpa using e
      show (List.lookup x _).join = _
      rw [ih]
      by_cases q : x ∈ l
      · rw [if_pos q, if_pos (.tail _ q)]
      · rw [if_neg q, if_neg (fun h => by rcases List.mem_cons.mp h with h | h; exact hne h; exact q h)]
theorem locN_eq (sc' : Scope) : locN sc' = ((sc'.names.filter fun x => x.2 == .local).map (·.1)).map fun y => (y, none) := by unfold locN; rw [List.map_map]; rfl
section
variable {prog : Program} {w : World} {KF : Frag} {fi : FI} {d : Nat} {E : EP} {m : Names} {H : List O}
variable {env : Env} {F : Base} {ρ : List Ent} {h : Heap} {gs : Array GenState}
theorem relabel_eq (S : Sim w KF fi env m F ρ H h gs) (sc' : Scope) : relabel sc' env = compSc sc' fi.sc := by unfold relabel compSc Env.kindOf; rw [S.es]
theorem comp_names {sc' sc : Scope} {x : Str} {k : NameKind} (h : (compSc sc' sc).names.lookup x = some k) : (∃ k', (x, k') ∈ sc'.names ∧ (k' = k ∨ (k' = .free ∧ k = .cell))) := by
  have hm : (x, k) ∈ (compSc sc' sc).names := mem_of_lookup h
  unfold compSc at hm
  obtain ⟨⟨y, k'⟩, h1, h2⟩ := List.mem_map.mp hm
  dsimp only at h2
  split at h2
  · rename_i hc
    cases h2
    refine ⟨k', h1, .inr ⟨?_, rfl⟩⟩
    simp only [Bool.and_eq_true, beq_iff_eq] at hc
    exact hc.1.1
  · cases h2; exact ⟨_, h1, .inl rfl⟩
/-- a comprehension's own frame -/
theorem comp_sim {sc' : Scope} (hok : CompOk sc' fi) (S : Sim w KF fi env m F ρ H h gs) {C : Nat} {mv : Str → Option Value} (hn : h.Ns C mv) (hF : F C = none) (hp : C ∉ fps ρ) (ho : C ∉ ownA fi env) :
    Sim w KF (ci sc' fi) (compEnvC sc' (clo env.cells sc'.names) C env) (locN sc' ++ m) (addF F h (ownA fi env)) ρ H h gs := by
  have free_cell : ∀ x, (x, NameKind.free) ∈ sc'.names → ∃ c, env.cells.lookup x = some c := fun x hx => S.ce x (hok.fr x hx)
  have cells : ∀ x c, (clo env.cells sc'.names).lookup x = some c → env.cells.lookup x = some c ∧ (x, NameKind.free) ∈ sc'.names := fun x c hc => by
    obtain ⟨h1, h2⟩ := clo_mem.mp (mem_of_lookup hc)
    obtain ⟨c', hc'⟩ := free_cell x h1
    rw [hc'] at h2
    exact ⟨by rw [hc', h2]; rfl, h1⟩
  have notloc : ∀ x, (x, NameKind.free) ∈ sc'.names → getL (locN sc' ++ m) x = getL m x := fun x hx => by
    rw [locN_eq, getL_app, if_neg]
    intro q
    obtain ⟨⟨y, k⟩, hm, rfl⟩ := List.mem_map.mp q
    obtain ⟨h1, h2⟩ := List.mem_filter.mp hm
    have e1 := nodup_lookup hok.nd hx
    have e2 := nodup_lookup hok.nd h1
    rw [e1] at e2
    cases e2
    simp at h2
  refine ⟨S.toH, ?_, S.eg, S.eb, S.ec, hok.kd, fun b hb => ?_, ⟨mv, hn, fun x hx => ?_⟩, fun x c hc => ?_, fun x hx => ?_, fun x hx => ?_, fun x c hc => ?_, ?_, fun _ x c hc => ?_⟩
  · exact relabel_eq S sc'
  · have : b = C := by simpa [ownA, ci, compEnvC] using hb
    subst this
    rw [addF_out ho]
    exact ⟨hF, hp⟩
  · have : getL (locN sc' ++ m) x = none := by
      rw [locN_eq, getL_app, if_pos]
      obtain ⟨k', h1, rfl | ⟨_, h2⟩⟩ := comp_names hx
      · exact List.mem_map.mpr ⟨_, List.mem_filter.mpr ⟨h1, rfl⟩, rfl⟩
      · cases h2
    rw [this]; trivial
  · obtain ⟨h1, h2⟩ := cells x c hc
    obtain ⟨ov, hi, hv⟩ := S.cl x c h1
    rw [notloc x h2]
    exact ⟨ov, hi, hv⟩
  · have hf : (x, NameKind.free) ∈ sc'.names := by
      rcases hx with hx | hx
      · obtain ⟨k', h1, rfl | ⟨rfl, _⟩⟩ := comp_names hx
        · exact absurd rfl (hok.nc _ h1)
        · exact h1
      · obtain ⟨k', h1, rfl | ⟨_, h2⟩⟩ := comp_names hx
        · exact h1
        · cases h2
    exact ⟨_, clo_lookup hf⟩
  · cases q : (clo env.cells sc'.names).lookup x with
    | none => exact q
    | some c =>
      exfalso
      obtain ⟨_, h2⟩ := cells x c q
      obtain ⟨k', h1, rfl | ⟨_, h3⟩⟩ := comp_names hx
      · have e1 := nodup_lookup hok.nd h1
        have e2 := nodup_lookup hok.nd h2
        rw [e1] at e2; cases e2
      · cases h3
  · obtain ⟨h1, h2⟩ := clo_mem.mp hc
    have hl := clo_lookup (cells := env.cells) h1
    rw [← h2] at hl
    refine ⟨hl, fun q => ?_⟩
    obtain ⟨h3, _⟩ := cells x c hl
    have q : c = C := q
    subst q
    rcases S.cell_own (lookup_mem h3) with z | z
    · exact ho z
    · rw [hF] at z; cases z
  · show (clo env.cells sc'.names).Pairwise _
    unfold clo
    rw [List.pairwise_reverse, List.pairwise_map]
    have nd2 : (sc'.names.filter fun x => x.2 == .free).Pairwise fun a b => a.1 ≠ b.1 := by
      have : sc'.names.Pairwise fun a b => a.1 ≠ b.1 := List.pairwise_map.mp hok.nd
      exact this.filter _
    refine nd2.imp_of_mem ?_
    rintro ⟨x, kx⟩ ⟨y, ky⟩ hx hy hxy e
    have gx : (x, NameKind.free) ∈ sc'.names := by obtain ⟨a, b⟩ := List.mem_filter.mp hx
                                                   have q : kx = .free := by simpa using b
                                                   rw [← q]; exact a
    have gy : (y, NameKind.free) ∈ sc'.names := by obtain ⟨a, b⟩ := List.mem_filter.mp hy
                                                   have q : ky = .free := by simpa using b
                                                   rw [← q]; exact a
    obtain ⟨cx, hcx⟩ := free_cell x gx
    obtain ⟨cy, hcy⟩ := free_cell y gy
    have e' : cy = cx := by simpa [hcx, hcy] using e
    subst e'
    exact hxy (name_of_cell S.cd (lookup_mem hcx) (lookup_mem hcy))
  · obtain ⟨h1, _⟩ := cells x c (by
      obtain ⟨h1, h2⟩ := clo_mem.mp hc
      rw [h2]; exact clo_lookup h1)
    rcases S.cell_own (lookup_mem h1) with z | z
    · rw [addF_in z]
      obtain ⟨ov, ⟨o, ho, _⟩, _⟩ := S.cl x c h1
      rw [ho]; rfl
    · by_cases q : c ∈ ownA fi env
      · rw [addF_in q]
        obtain ⟨ov, ⟨o, ho, _⟩, _⟩ := S.cl x c h1
        rw [ho]; rfl
      · rw [addF_out q]; exact z
end
theorem comp_loop {prog : Program} {w : World} {A : Around} {R : Result → Shared → Prop} {s : Shared} {elt target iter : Expr} {ifs : List Expr} {scope : Scope} {pos : Pos} {it acc : Value} {env : Env} (I : Nat → Shared → Prop)
    (turn : ∀ n s, I n s → wpAny (model prog w) A (pyNext it) (fun r s₁ => match r with
      | none => R (.ok .next) s₁
      | some v => wpAny (model prog w) A (letOwnedTupleGo target it v) (fun _ s₀ => wpAny (model prog w) A (assign target env v) (fun _ s₂ =>
          wpAny (model prog w) A (forIn ifs true fun c r => if r = true then do let ok ← isTrue c env (eval c env); pure (ForInStep.yield ok) else pure (ForInStep.yield r)) (fun ok s₃ =>
            if ok = true then wpAny (model prog w) A (eval elt env) (fun x s₄ =>
              wpAny (model prog w) A (call (.builtin "list.append") [acc, x]) (fun _ s₅ => ∃ m, m < n ∧ I m s₅) (notedBy (model prog w) A env fun e s' => R (.error e) s') s₄) (notedBy (model prog w) A env fun e s' => R (.error e) s') s₃
            else ∃ m, m < n ∧ I m s₃) (notedBy (model prog w) A env fun e s' => R (.error e) s') s₂) (notedBy (model prog w) A env fun e s' => R (.error e) s') s₀) (notedBy (model prog w) A env fun e s' => R (.error e) s') s₁) (notedBy (model prog w) A env fun e s' => R (.error e) s') s)
    (n : Nat) (h : I n s) :
    codeAny (model prog w) A (.compLoop (.ListComp elt [⟨target, iter, ifs, 0⟩] scope pos) 0 it acc env) R s := by
  refine codeAny_loop rfl I (fun n s hI => ?_) n h
  show wpAny _ A ((compTurn (.ListComp elt [⟨target, iter, ifs, 0⟩] scope pos) 0 it acc env).onRaise (fun x => do noteFrame x env; theTreesLotGoes x)) _ _ s
  refine wpAny_noted ?_
  rw [compTurn_list]
  refine wpAny_bind (wpAny_standAt (wpAny_bind (wpAny_mono (turn n s hI) (fun r s₁ h₁ => ?_) fun _ _ h' => h')))
  cases r with
  | none => exact wpAny_pure h₁
  | some v =>
    refine wpAny_bind (wpAny_mono h₁ (fun _ s₀ h₀ => ?_) fun _ _ h' => h')
    refine wpAny_bind (wpAny_mono h₀ (fun _ s₂ h₂ => wpAny_bind (wpAny_mono h₂ (fun ok s₃ h₃ => ?_) fun _ _ h' => h')) fun _ _ h' => h')
    cases ok with
    | false => exact wpAny_pure ⟨rfl, h₃⟩
    | true =>
      exact wpAny_bind (wpAny_bind (wpAny_mono h₃ (fun x s₄ h₄ => wpAny_bind (wpAny_mono h₄ (fun _ s₅ h₅ => wpAny_pure (wpAny_pure ⟨rfl, h₅⟩)) fun _ _ h' => h')) fun _ _ h' => h'))
section
variable (prog : Program) (w : World) (KF : Frag) (fi : FI) (d : Nat) (E : EP)
/-- the tests of a comprehension: none or one -/
noncomputable def WTs (m : Names) (H : List O) : List Expr → (Bool → List O → Prop) → Prop
  | [], Q => Q true H
  | [c], Q => WT prog w KF fi d E m H c Q
  | _, _ => False
/-- what a comprehension gives: by what holds ahead of each turn -/
noncomputable def CompW (m : Names) (H : List O) (elt target : Expr) (ifs : List Expr) (sc' : Scope) (v : V) (Q : List V → List O → Prop) : Prop :=
  ∃ xs G, IterW prog w KF d (Em E m) H v xs G ∧ xs.length ≤ sizeLine ∧ ∃ J : Nat → List V → List O → Prop, J 0 [] H ∧ (∀ i ys H, J i ys H → G H ∧ ys.length ≤ i) ∧
    (∀ i x ys H, xs[i]? = some x → J i ys H → WA prog w KF (ci sc' fi) d E (locN sc' ++ m) H target x fun m₂ H₂ => WTs prog w KF (ci sc' fi) d E m₂ H₂ ifs fun b H₃ => if b = true then WE prog w KF (ci sc' fi) d E m₂ H₃ elt fun y H₄ => J (i + 1) (ys ++ [y]) H₄ else J (i + 1) ys H₃) ∧
    (∀ ys H, J xs.length ys H → Q ys H)
end
end Mine
end
section
open PySem PySem.W PyProof.Rows PySem.W.X
namespace Mine
theorem se_no {w : World} {KF : Frag} {fi : FI} {E : EP} {env : Env} {F : Base} {ρ : List Ent} {s : Shared} {e : Value} {s' : Shared} (x : SE w KF fi env F ρ s E e s') : False := let ⟨_, _, _, _, _, _, x, _⟩ := x; x
theorem plain_upd {h : Heap} {l : Nat} {items : Array Value} (f : Array Value → Array Value) (x : h.PlainList l items) : (h.update l (Obj.mapSeq f)).PlainList l (f items) := by
  obtain ⟨n, e⟩ := x
  exact ⟨_, Heap.get?_update_self _ e rfl⟩
theorem app_plain {prog : Program} {w : World} {A : Around} {E : Value → Shared → Prop} {s : Shared} {l : Nat} {its : Array Value} {x : Value} {Q : Value → Shared → Prop} (hl : s.heap.PlainList l its)
    (hQ : ∀ h', h'.PlainList l (its.push x) → Heap.SameBut l s.heap h' → Q .none { s with heap := h' }) (hsz : its.size ≤ sizeLine) : wpAny (model prog w) A (call (.builtin "list.append") [.ref l, x]) Q E s := by
  obtain ⟨n, ho⟩ := id hl
  refine wpAny_call_entry slot_list_append hl.isList.typeIs entry_list_append ?_ (args_list_append _ _)
  show wpAny _ _ (updateSeq l (·.push x) >>= fun _ => ret .none) _ _ s
  refine wpAny_bind ?_
  exact wpAny_updateSeq ho rfl (wpAny_pure ⟨.none, rfl, hQ _ (plain_upd _ hl) (Heap.SameBut.update ..)⟩) (hz := hsz)
section
variable {prog : Program} {w : World} {KF : Frag} {fi : FI} {d : Nat} {E : EP} {m : Names} {H : List O}
theorem comp_run {A : Around} {env : Env} {F : Base} {ρ : List Ent} {s : Shared} {elt target iter : Expr} {ifs : List Expr} {sc' : Scope} {pos : Pos} {I : Nat} {fp : List Nat} {xs : List V} {G : List O → Prop} {St : Nat → List Ent → Heap → Prop} (hA : Room A d) (hok : CompOk sc' fi)
    (S : Sim w KF fi env m F ρ H s.heap s.gens) (IT : Iter prog w KF I fp xs G St) (hst : St 0 ρ s.heap) (off : FpOff fi env F ρ fp) (hsz : xs.length ≤ sizeLine) (J : Nat → List V → List O → Prop) (hJ0 : J 0 [] H) (hJG : ∀ i ys H, J i ys H → G H ∧ ys.length ≤ i)
    (hT : ∀ i x ys H, xs[i]? = some x → J i ys H → WA prog w KF (ci sc' fi) d E (locN sc' ++ m) H target x fun m₂ H₂ => WTs prog w KF (ci sc' fi) d E m₂ H₂ ifs fun b H₃ => if b = true then WE prog w KF (ci sc' fi) d E m₂ H₃ elt fun y H₄ => J (i + 1) (ys ++ [y]) H₄ else J (i + 1) ys H₃)
    {RR : Value → Nat → Result → Shared → Prop} {E' : Value → Shared → Prop}
    (hRR : ∀ D C ρ' H' ys us mC s', Step ρ s ρ' s' → Sim w KF fi env m F ρ' H' s'.heap s'.gens → s'.heap.PlainList D (List.toArray us) → VRs ρ' s'.heap ys us → s'.heap.Ns C mC → FpOff fi env F ρ' [C, D] → C ≠ D → J xs.length ys H' → RR (.ref D) C (.ok .next) s') :
    wpAny (model prog w) A (newList []) (fun acc s₃ => wpAny (model prog w) A (newFunctionEnv sc' env.globals (clo env.cells sc'.names) [] env.qual none .none (some env)) (fun cenv s₄ =>
      codeAny (model prog w) A (.compStart (.ListComp elt [⟨target, iter, ifs, 0⟩] sc' pos) 0 (.ref I) acc { cenv with scope := relabel sc' env }) (RR acc cenv.locals) s₄) E' s₃) E' s := by
  refine wpAny_newObj_type (wpAny_newFunctionEnv hok.nc (by intro y hy; cases hy) (fun h₁ hns₁ hsb₁ => ?_) hok.kd)
  dsimp only at hns₁ hsb₁ ⊢
  generalize hH2 : s.heap.push { cls := .type "list", dict := none, data := .seq ([] : List Value).toArray } = H2 at hns₁ hsb₁ ⊢
  have hC : H2.objs.size = s.heap.objs.size + 1 := by rw [← hH2, Heap.size_push]
  generalize hCe : H2.objs.size = C at hns₁ hsb₁ hC ⊢
  generalize hDe : s.heap.objs.size = D at hC ⊢
  have hDC : C ≠ D := by omega
  have dead : ∀ a, D ≤ a → s.heap.get? a = none := fun a ha => by
    cases e : s.heap.get? a with
    | none => rfl
    | some o => exact absurd (Heap.lt_size e) (Nat.not_lt.mpr (hDe ▸ ha))
  have old : Keep s.heap h₁ := fun b o e => hsb₁.extBut b o (fun q => by rw [dead b (by rw [q]; omega)] at e; cases e) (Heap.get?_push_of_some _ (hH2 ▸ Heap.get?_push_of_some _ e))
  have hD : h₁.PlainList D (List.toArray ([] : List Value)) := ⟨_, hsb₁.extBut _ _ (Ne.symm hDC) (Heap.get?_push_of_some _ (hH2 ▸ hDe ▸ Heap.get?_push_size _ rfl))⟩
  have S₁ := S.keeps old
  have offCD : FpOff fi env F ρ (C :: D :: fp) := fun b hb => by
    rcases List.mem_cons.mp hb with rfl | hb
    · exact S.fresh (fp := [b]) (fun b' hb' => by rw [List.mem_singleton.mp hb']; exact dead _ (by omega)) b (.head _)
    rcases List.mem_cons.mp hb with rfl | hb
    · exact S.fresh (fp := [b]) (fun b' hb' => by rw [List.mem_singleton.mp hb']; exact dead _ (Nat.le_refl _)) b (.head _)
    · exact off b hb
  have hCf : C ∉ fp := fun q => by obtain ⟨o, ho⟩ := IT.live _ _ _ hst C q; rw [dead C (by omega)] at ho; cases ho
  have hDf : D ∉ fp := fun q => by obtain ⟨o, ho⟩ := IT.live _ _ _ hst D q; rw [dead D (Nat.le_refl _)] at ho; cases ho
  have st₁ : St 0 ρ h₁ := IT.frame _ _ _ _ _ hst (List.prefix_refl _) (.of_keep old) (fun b _ o e => old b o e)
  have loop : ∀ s₃ : Shared, s₃ = { s with heap := h₁, toks := s.toks + ([] : List (Str × Value)).length } →
      codeAny (model prog w) A (.compLoop (.ListComp elt [⟨target, iter, ifs, 0⟩] sc' pos) 0 (.ref I) (.ref D) (compEnvC sc' (clo env.cells sc'.names) C env)) (RR (.ref D) C) s₃ := by
    rintro s₃ rfl
    refine comp_loop (fun k s₃ => ∃ i ρ₃ H₃ ys us mC, Step ρ s ρ₃ s₃ ∧ Sim w KF fi env m F ρ₃ H₃ s₃.heap s₃.gens ∧ s₃.heap.PlainList D (List.toArray us) ∧ VRs ρ₃ s₃.heap ys us ∧ s₃.heap.Ns C mC ∧ St i ρ₃ s₃.heap ∧ FpOff fi env F ρ₃ (C :: D :: fp) ∧ J i ys H₃ ∧ i ≤ xs.length ∧ k = xs.length + 1 - i) ?_ (xs.length + 1)
      ⟨0, ρ, H, [], [], _, .same (.of_keep old) rfl, S₁, hD, .nil, hns₁, st₁, offCD, hJ0, Nat.zero_le _, rfl⟩
    rintro k s₃ ⟨i, ρ₃, H₃, ys, us, mC, t₃, S₃, hD₃, ru₃, hn₃, st₃, off₃, hJ, hi, rfl⟩
    have offp : FpOff fi env F ρ₃ fp := fun b hb => off₃ b (.tail _ (.tail _ hb))
    by_cases hlt : i < xs.length
    · refine wpAny_mono (IT.item A _ ρ₃ H₃ s₃ i xs[i] _ hA.hd S₃.toH (hJG _ _ _ hJ).1 st₃ (List.getElem?_eq_getElem hlt)) (fun r s₄ ⟨v, e, rv, hSt₄, c₄⟩ => ?_) fun _ _ x => x
      subst e
      have S₄ := S₃.chg offp c₄
      refine wpAny_mono (IT.lot A (i + 1) ρ₃ s₄ target v _ hSt₄) (fun _ s₅ ⟨hSt₅, c₅⟩ => ?_) fun _ _ x => x
      have S₅ := S₄.chg offp c₅
      have kp : ∀ b o, b ∉ fp → s₃.heap.get? b = some o → s₅.heap.get? b = some o := fun b o hb e => c₅.2.2.2 b o hb (c₄.2.2.2 b o hb e)
      have tk5 : TK s₃.heap s₅.heap := c₄.2.2.1.trans c₅.2.2.1
      have t₅ := (t₃.trans c₄.step).trans c₅.step
      have hD₅ : s₅.heap.PlainList D (List.toArray us) := hD₃.at fun o e => kp D o hDf e
      have hn₅ : s₅.heap.Ns C mC := hn₃.at' fun o e => kp C o hCf e
      have ru₅ := ru₃.mono (List.prefix_refl _) tk5
      have oC := off₃ C (.head _)
      have oD := off₃ D (.tail _ (.head _))
      have T₅ := comp_sim hok S₅ hn₅ oC.1 oC.2.1 oC.2.2
      have off₅ : FpOff (ci sc' fi) (compEnvC sc' (clo env.cells sc'.names) C env) (addF F s₅.heap (ownA fi env)) ρ₃ (D :: fp) := fun b hb => by
        have q := off₃ b (.tail _ hb)
        refine ⟨by rw [addF_out q.2.2]; exact q.1, q.2.1, fun z => ?_⟩
        have z' : b = C := by simpa [ownA, ci, compEnvC] using z
        subst z'
        rcases List.mem_cons.mp hb with z | z
        · exact hDC z
        · exact hCf z
      have live₅ : ∀ b ∈ D :: fp, ∃ o, s₅.heap.get? b = some o := fun b hb => by
        rcases List.mem_cons.mp hb with rfl | hb
        · obtain ⟨n, e⟩ := hD₅; exact ⟨_, e⟩
        · exact IT.live _ _ _ hSt₅ b hb
      have fin : ∀ m₆ ρ₈ H₈ (s₈ : Shared), Step ρ₃ s₅ ρ₈ s₈ → Sim w KF (ci sc' fi) (compEnvC sc' (clo env.cells sc'.names) C env) m₆ (addF (addF F s₅.heap (ownA fi env)) s₅.heap (D :: fp)) ρ₈ H₈ s₈.heap s₈.gens →
          Sim w KF fi env m F ρ₈ H₈ s₈.heap s₈.gens ∧ (∃ mC, s₈.heap.Ns C mC) ∧ FpOff fi env F ρ₈ (C :: D :: fp) ∧ s₈.heap.PlainList D (List.toArray us) ∧ St (i + 1) ρ₈ s₈.heap ∧ VRs ρ₈ s₈.heap ys us := fun m₆ ρ₈ H₈ s₈ t T => by
        obtain ⟨U, offU, kU⟩ := T₅.unbase off₅ live₅ t.1 t.2.2.2 T
        refine ⟨S₅.ofH t.1 t.2.1 U.hs, let ⟨mv, a, _⟩ := U.ns; ⟨mv, a⟩, fun b hb => ⟨(off₃ b hb).1, ?_, (off₃ b hb).2.2⟩, hD₅.at fun o e => kU D (.head _) o e, IT.frame _ _ _ _ _ hSt₅ t.1 t.2.1 (fun b hb => kU b (.tail _ hb)), ru₅.mono t.1 t.2.1⟩
        rcases List.mem_cons.mp hb with rfl | hb
        · exact (U.lo _ (loc_own _ _)).2
        · exact (offU b hb).2.1
      refine wpAny_mono (hT i _ ys H₃ (List.getElem?_eq_getElem hlt) hJ A _ _ ρ₃ s₅ v hA (T₅.rebase off₅) (rv.mono (List.prefix_refl _) c₅.2.2.1)) (fun _ s₆ ⟨ρ₆, H₆, m₆, t₆, T₆, h₆⟩ => ?_) fun _ _ x => (se_no x).elim
      have tests : wpAny (model prog w) A (forIn ifs true fun c r => if r = true then do let ok ← isTrue c (compEnvC sc' (clo env.cells sc'.names) C env) (eval c (compEnvC sc' (clo env.cells sc'.names) C env)); pure (ForInStep.yield ok) else pure (ForInStep.yield r))
          (SQ w KF EqR (ci sc' fi) (compEnvC sc' (clo env.cells sc'.names) C env) m₆ (addF (addF F s₅.heap (ownA fi env)) s₅.heap (D :: fp)) ρ₆ s₆ fun b H₃ => if b = true then WE prog w KF (ci sc' fi) d E m₆ H₃ elt fun y H₄ => J (i + 1) (ys ++ [y]) H₄ else J (i + 1) ys H₃) (notedBy (model prog w) A (compEnvC sc' (clo env.cells sc'.names) C env) fun e s' => RR (.ref D) C (.error e) s') s₆ := by
        match ifs, h₆ with
        | [], h₆ => exact wpAny_tests_nil ⟨ρ₆, H₆, true, .refl, T₆, rfl, h₆⟩
        | [c], h₆ => exact wpAny_tests_one (wpAny_mono (h₆ A _ _ ρ₆ s₆ hA T₆) (fun _ _ x => x) fun _ _ x => (se_no x).elim)
        | _ :: _ :: _, h₆ => exact h₆.elim
      refine wpAny_mono tests (fun ok s₇ hx => ?_) fun _ _ x => x
      obtain ⟨ρ₇, H₇, b, t₇, T₇, rb, h₇⟩ := hx
      cases rb
      have t57 := t₆.trans t₇
      cases ok with
      | false =>
        obtain ⟨U, ⟨mC', hC'⟩, offU, hDU, stU, ruU⟩ := fin _ _ _ _ t57 T₇
        exact ⟨xs.length + 1 - (i + 1), by omega, i + 1, ρ₇, H₇, ys, us, mC', t₅.trans t57, U, hDU, ruU, hC', stU, offU, h₇, hlt, rfl⟩
      | true =>
        refine wpAny_mono ((show WE prog w KF (ci sc' fi) d E m₆ H₇ elt _ from h₇) A _ _ ρ₇ s₇ hA T₇) (fun y s₈ hx => ?_) fun _ _ x => (se_no x).elim
        obtain ⟨ρ₈, H₈, yv, t₈, T₈, ry, h₈⟩ := hx
        have t58 := t57.trans t₈
        obtain ⟨U, ⟨mC', hC'⟩, offU, hDU, stU, ruU⟩ := fin _ _ _ _ t58 T₈
        refine app_plain hDU (fun h₉ hD₉ hs₉ => ?_) (by rw [List.size_toArray, ruU.len]; exact Nat.le_trans (hJG _ _ _ hJ).2 (Nat.le_trans hi hsz))
        have c₉ : Chg [D] s₈ { s₈ with heap := h₉ } := sameBut_chg (fun b o hb e => hs₉.extBut b o hb e) (list_not_imm hDU.isList)
        refine ⟨xs.length + 1 - (i + 1), by omega, i + 1, ρ₈, H₈, ys ++ [yv], us ++ [y], mC', (t₅.trans t58).trans c₉.step, U.chg (fun b hb => by rw [List.mem_singleton.mp hb]; exact offU D (.tail _ (.head _))) c₉, by simpa using hD₉, (ruU.append (.cons ry .nil)).mono (List.prefix_refl _) c₉.2.2.1, hC'.sameBut hs₉ hDC, ?_, offU, h₈, hlt, rfl⟩
        exact IT.frame _ _ _ _ _ stU (List.prefix_refl _) c₉.2.2.1 (fun b hb o e => c₉.2.2.2 b o (fun z => hDf (List.mem_singleton.mp z ▸ hb)) e)
    · have hin : i = xs.length := by omega
      subst hin
      refine wpAny_mono (IT.done A _ ρ₃ H₃ s₃ _ hA.hd S₃.toH (hJG _ _ _ hJ).1 st₃) (fun r s₄ ⟨e, c₄⟩ => ?_) fun _ _ x => x
      subst e
      exact hRR D C ρ₃ H₃ ys us mC s₄ (t₃.trans c₄.step) (S₃.chg offp c₄) (hD₃.at fun o e => c₄.2.2.2 D o hDf e) (ru₃.mono (List.prefix_refl _) c₄.2.2.1) (hn₃.at' fun o e => c₄.2.2.2 C o hCf e) (fun b hb => off₃ b (by rcases List.mem_cons.mp hb with rfl | hb; exact .head _; rw [List.mem_singleton.mp hb]; exact .tail _ (.head _))) hDC hJ
  exact codeAny_compStart_list (loop _ rfl) (IT.self A 0 ρ _ _ _ st₁ (loop _ rfl))
/-- the list that a comprehension made, taken over -/
theorem comp_adopt {env : Env} {F : Base} {ρ : List Ent} {h : Heap} {gs : Array GenState} {D : Nat} {ys : List V} {us : List Value} (S : Sim w KF fi env m F ρ H h gs) (hD : h.PlainList D (List.toArray us)) (r : VRs ρ h ys us) (o : FpOff fi env F ρ [D]) :
    Sim w KF fi env m F (ρ ++ [⟨D, [D], none⟩]) (H ++ [.list ys]) h gs ∧ VR (ρ ++ [⟨D, [D], none⟩]) h (.ref H.length) (.ref D) := by
  obtain ⟨o1, o2, o3⟩ := o D (.head _)
  refine ⟨S.ofH (List.prefix_append _ _) (.refl _) (S.toH.adopt (r := []) (o := .list ys) (List.nodup_cons.mpr ⟨fun q => (nomatch q), List.nodup_nil⟩) (fun b hb => by rw [List.mem_singleton.mp hb]; exact ⟨o2, by rw [addF_out o3]; exact o1, let ⟨n, e⟩ := hD; ⟨_, e⟩⟩) ⟨rfl, rfl, us, hD, r.mono (List.prefix_append _ _) (.refl _)⟩), ?_⟩
  unfold VR
  exact ⟨_, by rw [← S.hs.len, List.getElem?_concat_length], rfl⟩
theorem comp_closure {env : Env} {F : Base} {ρ : List Ent} {h : Heap} {gs : Array GenState} {sc' : Scope} (S : Sim w KF fi env m F ρ H h gs) (hok : CompOk sc' fi) : closureFor sc' env = pure (clo env.cells sc'.names) := closure_eq fun n hn => S.ce n (hok.fr n hn)
theorem comp_nl {sc' : Scope} (hok : CompOk sc' fi) : ∀ x ∈ sc'.names, x.2 = .local → sc'.names.lookup x.1 = some .local := fun x hx hl => by
  obtain ⟨n, k⟩ := x
  cases hl
  exact nodup_lookup hok.nd hx
theorem we_comp {elt target iter : Expr} {ifs : List Expr} {sc' : Scope} {pos : Pos} {Q : V → List O → Prop} (hok : CompOk sc' fi) (h : WE prog w KF fi d E m H iter fun v H₁ => CompW prog w KF fi d E m H₁ elt target ifs sc' v fun ys H₂ => Q (.ref H₂.length) (H₂ ++ [.list ys]))
    (hs : ∀ env x, foldedSetIterable iter env x = pure x := by intro _ _; rfl) : WE prog w KF fi d E m H (.ListComp elt [⟨target, iter, ifs, 0⟩] sc' pos) Q :=
  fun A env F ρ s hA S => by
    rw [eval_ListComp]
    refine wpAny_comprehension_free (use := none) rfl (hs env) (comp_closure S hok) hok.kd (comp_nl hok) (wpAny_mono (h A env F ρ s hA S) (fun u s₁ hx => ?_) fun _ _ x => x)
    obtain ⟨ρ₁, H₁, v, st₁, S₁, r, xs, G, hI, hsz, J, hJ0, hJG, hT, hD⟩ := hx
    refine wpAny_mono (hI A _ ρ₁ s₁ u hA S₁.toH r) (fun it s₂ hx => ?_) (fun _ _ ⟨_, _, _, _, _, x, _⟩ => x.elim)
    obtain ⟨I, fp, St, e, IT, hSt, hk, hg, ho, hf⟩ := hx
    subst e
    have S₂ : Sim w KF fi env m F ρ₁ H₁ s₂.heap s₂.gens := by rw [hg]; exact S₁.keeps hk
    have st₂ : Step ρ s ρ₁ s₂ := st₁.trans (.same (.of_keep hk) ho (by rw [hg]; exact Nat.le_refl _))
    refine comp_run (RR := fun acc C => compPost (model prog w) A _ none _ acc C) hA hok S₂ IT hSt (S₁.fresh hf) hsz J hJ0 hJG hT ?_
    intro D C ρ' H' ys us mC s' t S' hD' ru hn off hDC hJ
    refine ⟨mC, hn, fun h' hs' => ?_⟩
    have c : Chg [C] s' { s' with heap := h' } := sameBut_chg (fun b o hb e => hs'.extBut b o hb e) (ns_not_imm hn)
    have S'' := S'.chg (fun b hb => by rw [List.mem_singleton.mp hb]; exact off C (.head _)) c
    obtain ⟨S3, rv⟩ := comp_adopt S'' (hD'.at fun o e => c.2.2.2 D o (fun q => hDC (List.mem_singleton.mp q).symm) e) (ru.mono (List.prefix_refl _) c.2.2.1) (fun b hb => by rw [List.mem_singleton.mp hb]; exact off D (.tail _ (.head _)))
    exact ⟨_, _, _, ((st₂.trans t).trans c.step).trans (.add (.refl _) rfl), S3, rv, hD _ _ hJ⟩
/-- y = [.. for ..] -/
theorem ws_comp {elt target iter : Expr} {ifs : List Expr} {sc' : Scope} {y : Str} {py pos spos : Pos} {Q : Fl → Names → List O → Prop} (hok : CompOk sc' fi) (hy : Ours fi y) (h : WE prog w KF fi d E m H iter fun v H₁ => CompW prog w KF fi d E m H₁ elt target ifs sc' v fun ys H₂ => Q .next (setL m y (.ref H₂.length)) (H₂ ++ [.list ys]))
    (hsw : ∀ env, env.scope = fi.sc → swapsWith (.ListComp elt [⟨target, iter, ifs, 0⟩] sc' pos) (some (.Name y py)) spos.line env = pure true) (hs : ∀ env x, foldedSetIterable iter env x = pure x := by intro _ _; rfl) : WS prog w KF fi d E m H (.Assign [.Name y py] (.ListComp elt [⟨target, iter, ifs, 0⟩] sc' pos) spos) Q :=
  fun A env F ρ s hA S => by
    rw [exec_Assign_Name_used _ _ _ _ (hsw env S.es)]
    refine wpAny_bind (wpAny_standAt (wpAny_bind ?_))
    show wpAny _ A (do let _ ← comprehension (.ListComp elt [⟨target, iter, ifs, 0⟩] sc' pos) sc' env _ (newList []) false (eval iter env) (some (assign (.Name y py) env))) _ _ s
    refine wpAny_bind (wpAny_mono (wpAny_comprehension_free (use := some (assign (.Name y py) env)) (Q := fun _ s' => StQ w KF fi env F ρ s Q .next s') rfl (hs env) (comp_closure S hok) hok.kd (comp_nl hok) (wpAny_mono (h A env F ρ s hA S) (fun u s₁ hx => ?_) fun _ _ x => x)) (fun _ s' hq => wpAny_pure (wpAny_pure hq)) fun _ _ x => x)
    obtain ⟨ρ₁, H₁, v, st₁, S₁, r, xs, G, hI, hsz, J, hJ0, hJG, hT, hD⟩ := hx
    refine wpAny_mono (hI A _ ρ₁ s₁ u hA S₁.toH r) (fun it s₂ hx => ?_) (fun _ _ ⟨_, _, _, _, _, x, _⟩ => x.elim)
    obtain ⟨I, fp, St, e, IT, hSt, hk, hg, ho, hf⟩ := hx
    subst e
    have S₂ : Sim w KF fi env m F ρ₁ H₁ s₂.heap s₂.gens := by rw [hg]; exact S₁.keeps hk
    have st₂ : Step ρ s ρ₁ s₂ := st₁.trans (.same (.of_keep hk) ho (by rw [hg]; exact Nat.le_refl _))
    refine comp_run (RR := fun acc C => compPost (model prog w) A _ (some (assign (.Name y py) env)) _ acc C) hA hok S₂ IT hSt (S₁.fresh hf) hsz J hJ0 hJG hT ?_
    intro D C ρ' H' ys us mC s' t S' hD' ru hn off hDC hJ
    have offD : FpOff fi env F ρ' [D] := fun b hb => by rw [List.mem_singleton.mp hb]; exact off D (.tail _ (.head _))
    obtain ⟨S3, rv⟩ := comp_adopt S' hD' ru offD
    show wpAny _ A (assign (.Name y py) env (.ref D)) _ _ _
    refine wpAny_assign_Name (wpAny_mono (st_name' S3 rv hy) (fun _ s₄ ⟨t₄, S₄, k₄⟩ => ?_) fun _ _ x => x)
    have oC := off C (.head _)
    have hCn : C ∉ fps (ρ' ++ [⟨D, [D], none⟩]) := fun q => by
      have e : fps (ρ' ++ [⟨D, [D], none⟩]) = fps ρ' ++ [D] := by simp [fps]
      rw [e] at q
      rcases List.mem_append.mp q with q | q
      · exact oC.2.1 q
      · exact hDC (List.mem_singleton.mp q)
    have hn₄ : s₄.heap.Ns C mC := hn.at' fun o e => k₄ C o oC.2.2 e
    refine ⟨mC, hn₄, fun h' hs' => ?_⟩
    have c : Chg [C] s₄ { s₄ with heap := h' } := sameBut_chg (fun b o hb e => hs'.extBut b o hb e) (ns_not_imm hn₄)
    have S₅ := S₄.chg (fun b hb => by rw [List.mem_singleton.mp hb]; exact ⟨oC.1, hCn, oC.2.2⟩) c
    exact ⟨_, _, _, .next, (((st₂.trans t).trans (.add (.refl _) rfl)).trans t₄).trans c.step, S₅, rfl, hD _ _ hJ⟩
end
end Mine
end
section
open PySem PySem.W PyProof.Rows PySem.W.X
namespace Mine
theorem Room.deeper {A : Around} {d : Nat} (h : Room A (d + 1)) (env : Env) : Room (A.deeper env) d := ⟨h.hd, by have := h.dp; show A.depth + 1 + 4 * d < recursionLimit; omega, by have := h.un; show A.units + 3 + 40 * d + 200 < cLine; omega⟩
theorem Room.depth {A : Around} {d : Nat} (h : Room A d) : A.depth < recursionLimit := by have := h.dp; omega
/-- a function's data -/
noncomputable def fdOf (o : Obj) : FuncData := match o.data with | .func f => f | _ => default
/-- a function of the text's, at its place -/
structure FnB (KF : Frag) (a : Nat) (o : Obj) (fd : FuncData) (body : List Stmt) (sc : Scope) (ps : List Str) : Prop where
  hsc : fd.scope = sc
  hK : KF.lookup a = some o
  hd : o.data = .func fd
  hb : fd.body = .stmts body
  hg : fd.globals = mainGlobals
  hbl : fd.builtins = builtinsNs
  hcl : fd.closure = []
  hcd : ∃ c oc vs t, fd.code = .ref c ∧ KF.lookup c = some oc ∧ oc.data = .fields vs ∧ vs[1]? = some (.str fd.qualname t)
  hps : ps.Nodup
  hnd : (sc.names.map (·.1)).Nodup
  hkd : ∀ p ∈ ps, sc.names.lookup p = some .local ∨ sc.names.lookup p = some .cell
  hco : sc.isCoroutine = false
  hk : sc.kind = .function
  hnf : ∀ p ∈ sc.names, p.2 ≠ .free
/-- and without defaults -/
structure FnOk (KF : Frag) (a : Nat) (o : Obj) (fd : FuncData) (body : List Stmt) (sc : Scope) (ps : List Str) : Prop extends FnB KF a o fd body sc ps where
  hbd : ∀ us : List Value, us.length = ps.length → bindArgs fd ⟨us, []⟩ = pure (ps.zip us)
noncomputable abbrev nv (x : String) (v : V) : Str × Option V := (Str.ofString x, some v)
noncomputable abbrev nn (x : String) : Str × Option V := (Str.ofString x, none)
noncomputable def initN (sc : Scope) (ps : List Str) (xs : List V) : Names := (sc.names.filter fun x => x.2 == .local || x.2 == .cell).map fun x => (x.1, (ps.zip xs).lookup x.1)
theorem initN_get {sc : Scope} {ps : List Str} {xs : List V} {x : Str} {v : V} (h : getL (initN sc ps xs) x = some v) : (x, v) ∈ ps.zip xs := by
  unfold getL initN at h
  have : ∀ l : List (Str × NameKind), ((l.map fun y => (y.1, (ps.zip xs).lookup y.1)).lookup x).join = some v → (ps.zip xs).lookup x = some v := by
    intro l
    induction l with
    | nil => intro h; cases h
    | cons p l ih =>
      intro h
      rw [List.map_cons, List.lookup_cons] at h
      cases e : (x == p.1) with
      | true =>
        rw [e] at h
        have : x = p.1 := by simpa using e
        rw [this]; exact h
      | false => rw [e] at h; exact ih h
  exact mem_of_lookup (this _ h)
theorem zip_rel {ρ : List Ent} {h : Heap} : ∀ {ps : List Str} {xs : List V} {us : List Value} {x : Str} {v : V}, VRs ρ h xs us → (x, v) ∈ ps.zip xs → ∃ u, (x, u) ∈ ps.zip us ∧ VR ρ h v u
  | [], _, _, _, _, _, hm => nomatch hm
  | p :: ps, [], _, _, _, _, hm => nomatch hm
  | p :: ps, y :: xs, us, x, v, r, hm => by
    obtain ⟨u, q, rfl, a, b⟩ := r.cons_eq
    rw [List.zip_cons_cons] at hm
    rcases List.mem_cons.mp hm with e | hm
    · cases e; exact ⟨u, .head _, a⟩
    · obtain ⟨u', h1, h2⟩ := zip_rel b hm
      exact ⟨u', .tail _ h1, h2⟩
theorem zip_keys {α : Type} : ∀ {ps : List Str} {us : List α}, us.length = ps.length → (ps.zip us).map (·.1) = ps
  | [], _, _ => by simp
  | p :: ps, [], h => by simp at h
  | p :: ps, u :: us, h => by rw [List.zip_cons_cons, List.map_cons, zip_keys (Nat.succ.inj h)]
theorem bindL_mem {kindOf : Str → Option NameKind} : ∀ {binds : List (Str × Value)} {m : Str → Option Value} {x : Str} {u : Value}, (binds.map (·.1)).Nodup → kindOf x = some .local → ((x, u) ∈ binds → bindL kindOf binds m x = some u) ∧ (x ∉ binds.map (·.1) → bindL kindOf binds m x = m x)
  | [], m, x, u, _, _ => ⟨fun h => (nomatch h), fun _ => rfl⟩
  | (n, v) :: r, m, x, u, nd, hk => by
    rw [List.map_cons, List.nodup_cons] at nd
    unfold bindL
    obtain ⟨i1, i2⟩ := bindL_mem (binds := r) (m := if kindOf n = some .local then fun y => if y = n then some v else m y else m) (x := x) (u := u) nd.2 hk
    refine ⟨fun h => ?_, fun h => ?_⟩
    · rcases List.mem_cons.mp h with e | h
      · cases e
        rw [i2 nd.1, if_pos hk]
        exact if_pos rfl
      · exact i1 h
    · rw [List.map_cons, List.mem_cons, not_or] at h
      rw [i2 h.2]
      split
      · exact if_neg h.1
      · rfl
theorem bindC_mem {kindOf : Str → Option NameKind} : ∀ {binds : List (Str × Value)} {m : Str → Option Value} {x : Str} {u : Value}, (binds.map (·.1)).Nodup → kindOf x ≠ some .local → ((x, u) ∈ binds → bindC kindOf binds m x = some u) ∧ (x ∉ binds.map (·.1) → bindC kindOf binds m x = m x)
  | [], m, x, u, _, _ => ⟨fun h => (nomatch h), fun _ => rfl⟩
  | (n, v) :: r, m, x, u, nd, hk => by
    rw [List.map_cons, List.nodup_cons] at nd
    unfold bindC
    obtain ⟨i1, i2⟩ := bindC_mem (binds := r) (m := if kindOf n = some .local then m else fun y => if y = n then some v else m y) (x := x) (u := u) nd.2 hk
    refine ⟨fun h => ?_, fun h => ?_⟩
    · rcases List.mem_cons.mp h with e | h
      · cases e
        rw [i2 nd.1, if_neg hk]
        exact if_pos rfl
      · exact i1 h
    · rw [List.map_cons, List.mem_cons, not_or] at h
      rw [i2 h.2]
      split
      · rfl
      · exact if_neg h.1
theorem cellsFrom_mem : ∀ {names : List (Str × NameKind)} {n : Nat} {acc : List (Str × Nat)} {x : Str} {c : Nat}, (x, c) ∈ cellsFrom n names acc → (x, c) ∈ acc ∨ (x, NameKind.cell) ∈ names
  | [], _, _, _, _, h => .inl h
  | (y, k) :: r, n, acc, x, c, h => by
    unfold cellsFrom at h
    split at h
    · rename_i hk
      have hk : k = .cell := by simpa using hk
      subst hk
      rcases cellsFrom_mem h with h | h
      · rcases List.mem_cons.mp h with e | h
        · cases e; exact .inr (.head _)
        · exact .inl h
      · exact .inr (.tail _ h)
    · rcases cellsFrom_mem h with h | h
      · exact .inl h
      · exact .inr (.tail _ h)
theorem cellsFrom_keys : ∀ {names : List (Str × NameKind)} {n : Nat} {acc : List (Str × Nat)}, (cellsFrom n names acc).map (·.1) = ((names.filter fun x => x.2 == .cell).map (·.1)).reverse ++ acc.map (·.1)
  | [], _, _ => rfl
  | (y, k) :: r, n, acc => by
    unfold cellsFrom
    split
    · rename_i hk
      have hk : k = .cell := by simpa using hk
      subst hk
      rw [cellsFrom_keys]
      simp
    · rename_i hk
      rw [cellsFrom_keys]
      have : (k == NameKind.cell) = false := by simpa using hk
      simp [List.filter_cons, this]
theorem cells_nodup {names : List (Str × NameKind)} {n : Nat} (nd : (names.map (·.1)).Nodup) : ((cellsFrom n names []).map (·.1)).Nodup := by
  rw [cellsFrom_keys, List.map_nil, List.append_nil]
  refine (List.reverse_perm _).nodup_iff.mpr ?_
  have : (names.filter fun x => x.2 == .cell).Pairwise fun a b => a.1 ≠ b.1 := (List.pairwise_map.mp nd).filter _
  exact List.pairwise_map.mpr this
theorem cells_has {names : List (Str × NameKind)} {n : Nat} {x : Str} (h : (x, NameKind.cell) ∈ names) : ∃ c, (x, c) ∈ cellsFrom n names [] := by
  have : x ∈ (cellsFrom n names []).map (·.1) := by
    rw [cellsFrom_keys, List.map_nil, List.append_nil, List.mem_reverse]
    exact List.mem_map.mpr ⟨_, List.mem_filter.mpr ⟨h, rfl⟩, rfl⟩
  obtain ⟨⟨y, c⟩, hm, rfl⟩ := List.mem_map.mp this
  exact ⟨c, hm⟩
section
variable {prog : Program} {w : World} {KF : Frag} {d : Nat} {E : HEP} {H : List O} {a : Nat} {o : Obj} {fd : FuncData} {body : List Stmt} {sc : Scope} {ps : List Str} {xs : List V}
/-- a function's frame, right behind its entry -/
theorem enter_sim {F : Base} {ρ : List Ent} {s s₁ : Shared} {us : List Value} (K : FnB KF a o fd body sc ps) (hlen : xs.length = ps.length) (S : HSim w KF F ρ H s.heap s.gens) (r : VRs ρ s.heap xs us)
    (X : InCallC s (callEnvC fd s.heap.objs.size a).locals (bindL (callEnvC fd s.heap.objs.size a).kindOf (ps.zip us) fun _ => none) (callEnvC fd s.heap.objs.size a).cells (bindC (callEnvC fd s.heap.objs.size a).kindOf (ps.zip us) fun _ => none) s₁) :
    Step ρ s ρ s₁ ∧ Sim w KF ⟨sc, true, fd.code⟩ (callEnvC fd s.heap.objs.size a) (initN sc ps xs) F ρ H s₁.heap s₁.gens := by
  have hsc := K.hsc
  subst hsc
  obtain ⟨h₁, tk, rfl, hk⟩ := X.done
  have hul : us.length = ps.length := r.len.trans hlen
  have hkeys : ((ps.zip us).map (·.1)).Nodup := by rw [zip_keys hul]; exact K.hps
  have hkind : ∀ x, (callEnvC fd s.heap.objs.size a).kindOf x = fd.scope.names.lookup x := fun _ => rfl
  have dead : ∀ b, s.heap.objs.size ≤ b → s.heap.get? b = none := fun b hb => by
    cases e : s.heap.get? b with
    | none => rfl
    | some o => exact absurd (Heap.lt_size e) (Nat.not_lt.mpr hb)
  have hL : (callEnvC fd s.heap.objs.size a).locals = s.heap.objs.size := rfl
  have cells_eq : (callEnvC fd s.heap.objs.size a).cells = cellsFrom (s.heap.objs.size + 1) fd.scope.names [] := rfl
  have cu : ∀ x c, (x, c) ∈ (callEnvC fd s.heap.objs.size a).cells → (callEnvC fd s.heap.objs.size a).cells.lookup x = some c := fun x c hc => nodup_lookup (cells_nodup K.hnd) hc
  have kc : ∀ x c, (x, c) ∈ (callEnvC fd s.heap.objs.size a).cells → fd.scope.names.lookup x = some .cell := fun x c hc => by
    rcases cellsFrom_mem (show (x, c) ∈ cellsFrom (s.heap.objs.size + 1) fd.scope.names [] from hc) with h | h
    · cases h
    · exact nodup_lookup K.hnd h
  have hs₁ : HSim w KF F ρ H h₁ s.gens := S.keeps hk
  have tk₁ : TK s.heap h₁ := .of_keep hk
  refine ⟨.same tk₁ rfl, hs₁, rfl, K.hg, K.hbl, rfl, K.hk, fun b hb => ?_, ?_, fun x c hc => ?_, fun x hx => ?_, fun x hx => ?_, fun x c hc => ⟨cu x c hc, Nat.ne_of_gt (X.above x c hc)⟩, X.apart, fun q => by cases q⟩
  · have hge : s.heap.objs.size ≤ b := by
      unfold ownA at hb
      rw [if_pos rfl] at hb
      rcases List.mem_cons.mp hb with e | hb
      · rw [e]; exact Nat.le_refl _
      · obtain ⟨⟨x, c⟩, hm, rfl⟩ := List.mem_map.mp hb
        exact Nat.le_of_lt (X.above x c hm)
    refine ⟨?_, fun q => ?_⟩
    · cases q : F b with
      | none => rfl
      | some o => have := S.keep _ _ q; rw [dead b hge] at this; cases this
    · obtain ⟨o, ho⟩ := S.live b q; rw [dead b hge] at ho; cases ho
  · refine ⟨_, X.toInCall.ns, fun x hx => ?_⟩
    cases q : getL (initN fd.scope ps xs) x with
    | none => trivial
    | some v =>
      obtain ⟨u, hm, hv⟩ := zip_rel r (initN_get q)
      rw [(bindL_mem hkeys ((hkind x).trans hx)).1 hm]
      exact hv.mono (List.prefix_refl _) tk₁
  · refine ⟨_, X.cell x c hc, ?_⟩
    cases q : getL (initN fd.scope ps xs) x with
    | none => trivial
    | some v =>
      obtain ⟨u, hm, hv⟩ := zip_rel r (initN_get q)
      rw [(bindC_mem hkeys (by rw [hkind, kc x c (mem_of_lookup hc)]; decide)).1 hm]
      exact hv.mono (List.prefix_refl _) tk₁
  · rcases hx with hx | hx
    · obtain ⟨c, hc⟩ := cells_has (n := s.heap.objs.size + 1) (mem_of_lookup hx)
      exact ⟨c, cu x c hc⟩
    · exact absurd rfl (K.hnf _ (mem_of_lookup hx))
  · cases q : (callEnvC fd s.heap.objs.size a).cells.lookup x with
    | none => rfl
    | some c => have := kc x c (mem_of_lookup q); rw [this] at hx; cases hx
theorem fn_code (K : FnB KF a o fd body sc ps) {h : Heap} (B : Bs w KF h) : h.get? a = some o ∧ h.CodeRec fd.code fd.qualname := by
  obtain ⟨c, oc, vs, t, h1, h2, h3, h4⟩ := K.hcd
  exact ⟨B.k _ _ K.hK, c, oc, vs, t, h1, B.k _ _ h2, h3, h4⟩
/-- a plain function called, its defaults filled in -/
theorem call_fnD {dv : List Value} {ds : List V} {Q : V → List O → Prop} (K : FnB KF a o fd body sc ps) (hgen : sc.isGenerator = false) (hlen : (xs ++ ds).length = ps.length) (hdv : ∀ ρ h, VRs ρ h ds dv)
    (hb : ∀ (s : Shared) (us : List Value), Bs w KF s.heap → us.length = xs.length → BindsTo s fd ⟨us, []⟩ (ps.zip (us ++ dv)))
    (h : WB prog w KF ⟨sc, true, fd.code⟩ d (fun _ _ _ => False) (initN sc ps (xs ++ ds)) H body fun f m' H' => match f with | .ret v => Q v H' | .next => Q .none H' | _ => False) : CallW prog w KF (d + 1) E H (.st a) xs Q :=
  fun A F ρ s u us hA S ru r => by
    have hsc := K.hsc
    subst hsc
    unfold VR at ru
    subst ru
    have B := S.b
    obtain ⟨ho, hcd⟩ := fn_code K B
    have r' : VRs ρ s.heap (xs ++ ds) (us ++ dv) := r.append (hdv _ _)
    have hul : (us ++ dv).length = ps.length := r'.len.trans hlen
    refine wpAny_call (codeAny_call_function hA.depth ho K.hd K.hco hgen K.hb hcd (hb s us B r.len _ _ _ _ ?_))
    rw [K.hcl]
    refine wpAny_newFunctionEnv_cells K.hk (fun x hx => ?_) fun env he s₁ X => ?_
    · have hx1 : x.1 ∈ ps := by rw [← zip_keys hul]; exact List.mem_map.mpr ⟨x, hx, rfl⟩
      rcases K.hkd x.1 hx1 with q | q
      · exact .inl q
      · obtain ⟨c, hc⟩ := cells_has (n := s.heap.objs.size + 1) (mem_of_lookup q)
        exact .inr ⟨q, by rw [nodup_lookup (cells_nodup K.hnd) hc]; rfl⟩
    · subst he
      obtain ⟨st₁, S₁⟩ := enter_sim K hlen S r' X
      refine ⟨S₁.b.lim, codeAny_func ?_⟩
      refine wpAny_mono (h _ _ F ρ s₁ (hA.deeper _) S₁) (fun f s₂ hx => ?_) (fun _ _ x => (se_no x).elim)
      obtain ⟨ρ₂, H₂, m₂, fl, st₂, S₂, rf, h₂⟩ := hx
      cases fl with
      | next => cases rf; exact ⟨ρ₂, H₂, .none, st₁.trans st₂, S₂.hs, by unfold VR; rfl, h₂⟩
      | ret v => obtain ⟨u, rfl, r⟩ := rf; exact ⟨ρ₂, H₂, v, st₁.trans st₂, S₂.hs, r, h₂⟩
      | brk => exact h₂.elim
      | cont => exact h₂.elim
end
section
variable {prog : Program} {w : World} {KF : Frag} {fi : FI} {d : Nat} {E : EP} {m : Names} {H : List O}
/-- arguments, evaluated -/
theorem args_run {es : List Expr} {pos : Pos} {Q : List V → List O → Prop} {f : Value} (h : WEs prog w KF fi d E m H es Q) {A : Around} {env : Env} {F : Base} {ρ : List Ent} {s : Shared} (hA : Room A d) (S : Sim w KF fi env m F ρ H s.heap s.gens) :
    wpAny (model prog w) A (evalArgs f true (backTo pos (es.map fun e => (false, eval e env))) []) (fun x s' => x.kw = [] ∧ SQ w KF VRs fi env m F ρ s Q x.pos s') (SE w KF fi env F ρ s E) s := by
  cases es with
  | nil => exact PyProof.Rows.evalArgs_none ⟨rfl, ρ, H, [], .refl, S, .nil, h⟩
  | cons e es => exact Calls.evalArgs_plain (wpAny_mono (wes_run h A env F ρ s hA S) (fun us s' q => ⟨rfl, q⟩) fun _ _ x => x)
theorem wes_nil {Q : List V → List O → Prop} (h : Q [] H) : WEs prog w KF fi d E m H [] Q := h
noncomputable def Callee (KF : Frag) : V → Prop
  | .bi _ => True
  | .ty _ => True
  | .st a => keepIn KF (.ref a) = true
  | _ => False
theorem plain_any {es : List Expr} {pos : Pos} {env : Env} : (backTo pos (es.map fun e => (false, eval e env))).any (·.1) = false := by
  unfold backTo
  rw [List.map_map]
  induction es with
  | nil => rfl
  | cons e es ih => rw [List.map_cons, List.any_cons, ih]; rfl
theorem callWith_run {es : List Expr} {pos : Pos} {f : V} {first : List V} {Q : V → List O → Prop} (hf : Callee KF f) (h : WEs prog w KF fi d E m H es fun vs H₂ => CallW prog w KF d (Em E m) H₂ f (first ++ vs) Q) {A : Around} {env : Env} {F : Base} {ρ : List Ent} {s : Shared} {u : Value} {us : List Value} (hA : Room A d) (S : Sim w KF fi env m F ρ H s.heap s.gens) (ru : VR ρ s.heap f u) (rus : VRs ρ s.heap first us) :
    wpAny (model prog w) A (callWith pos u us (backTo pos (es.map fun e => (false, eval e env))) []) (SQ w KF VR fi env m F ρ s Q) (SE w KF fi env F ρ s E) s := by
  have key : ∀ (x : Args) (s₁ : Shared), (x.kw = [] ∧ SQ w KF VRs fi env m F ρ s (fun vs H₂ => CallW prog w KF d (Em E m) H₂ f (first ++ vs) Q) x.pos s₁) → wpAny (model prog w) A (call u (us ++ x.pos) x.kw) (SQ w KF VR fi env m F ρ s Q) (SE w KF fi env F ρ s E) s₁ := by
    rintro x s₁ ⟨hkw, ρ₁, H₁, vs, st₁, S₁, rv, h₁⟩
    rw [hkw]
    exact onto st₁ (lift S₁ fun F' T => h₁ A F' ρ₁ s₁ u _ hA T (ru.mono st₁.1 st₁.2.1) ((rus.mono st₁.1 st₁.2.1).append rv)) fun _ _ x => x.step st₁
  cases f with
  | bi id =>
    unfold VR at ru; subst ru
    exact Calls.callWith_builtin plain_any (wpAny_mono (args_run h hA S) key fun _ _ x => x)
  | ty id =>
    unfold VR at ru; subst ru
    exact PySem.callWith_type plain_any (wpAny_mono (args_run h hA S) key fun _ _ x => x)
  | st a =>
    unfold VR at ru; subst ru
    refine callWith_of (by rw [plain_any]; rfl) (keeps_K (K := KF) hf) (wpAny_mono (args_run h hA S) (fun x s₁ hx => ⟨?_, key x s₁ hx⟩) fun _ _ x => x)
    obtain ⟨_, ρ₁, H₁, vs, st₁, S₁, _⟩ := hx
    exact S₁.b.k
  | _ => exact hf.elim
theorem we_call {func : Expr} {args : List Expr} {pos : Pos} {Q : V → List O → Prop} (h : WE prog w KF fi d E m H func fun f H₁ => Callee KF f ∧ WEs prog w KF fi d E m H₁ args fun vs H₂ => CallW prog w KF d (Em E m) H₂ f vs Q)
    (hp : Plain args := by intro _; rfl) (he : ∀ env, eval (.Call func args [] pos) env = (do callWith pos (← eval func env) [] (backTo pos (starEach args env)) (backToKw pos (keywordEach [] env))) := by intro _; rfl) : WE prog w KF fi d E m H (.Call func args [] pos) Q :=
  fun A env F ρ s hA S => by
    refine Call_ (wpAny_mono (h A env F ρ s hA S) (fun u s₁ hx => ?_) fun _ _ x => x) (he env)
    obtain ⟨ρ₁, H₁, f, st₁, S₁, ru, hf, h₁⟩ := hx
    rw [hp env]
    exact onto st₁ (callWith_run (first := []) hf h₁ hA S₁ ru .nil) fun _ _ x => x.step st₁
/-- a method's function -/
noncomputable def MethIs (prog : Program) (w : World) (KF : Frag) (H : List O) (x : V) (name : Str) (f : V) : Prop :=
  ∀ A F ρ (s : Shared) u (pl : Sem Bool) (K : Value × List Value → Shared → Prop) (E' : Value → Shared → Prop), HSim w KF F ρ H s.heap s.gens → VR ρ s.heap x u → (∀ fu, VR ρ s.heap f fu → K (fu, [u]) s) → wpAny (model prog w) A (getMethod u name pl) K E' s
theorem we_meth {o : Expr} {name : Str} {apos pos : Pos} {args : List Expr} {pl : Env → Sem Bool} {Q : V → List O → Prop} (h : WE prog w KF fi d E m H o fun x H₁ => ∃ f, MethIs prog w KF H₁ x name f ∧ Callee KF f ∧ WEs prog w KF fi d E m H₁ args fun vs H₂ => CallW prog w KF d (Em E m) H₂ f (x :: vs) Q)
    (hp : Plain args := by intro _; rfl) (he : ∀ env, eval (.Call (.Attribute o name apos) args [] pos) env = (do
      let ov ← eval o env
      standAt apos.atName
      let (f, first) ← holding [ov] (getMethod ov name (pl env))
      callWith pos f first (backTo pos (starEach args env)) []) := by intro _; rfl) : WE prog w KF fi d E m H (.Call (.Attribute o name apos) args [] pos) Q :=
  fun A env F ρ s hA S => by
    refine MethodCall_ (pl := pl env) (wpAny_mono (h A env F ρ s hA S) (fun u s₁ hx => ?_) fun _ _ x => x) (he env)
    obtain ⟨ρ₁, H₁, x, st₁, S₁, ru, f, hm, hf, h₁⟩ := hx
    refine hm A _ ρ₁ s₁ u _ _ _ S₁.toH ru fun fu rf => ?_
    rw [hp env]
    exact onto st₁ (callWith_run (first := [x]) hf h₁ hA S₁ rf (.cons ru .nil)) fun _ _ x => x.step st₁
end
end Mine
end
section
open PySem PySem.W PyProof.Rows PySem.W.X
namespace Mine
section
variable {prog : Program} {w : World} {KF : Frag} {d : Nat} {E : HEP} {H : List O} {Q : V → List O → Prop}
theorem hq_same {α β : Type} {R : List Ent → Heap → β → α → Prop} {F : Base} {ρ : List Ent} {s : Shared} {Q : β → List O → Prop} {v : α} {b : β} {tk : Nat} (S : HSim w KF F ρ H s.heap s.gens) (r : R ρ s.heap b v) (h : Q b H) : HQ w KF R F ρ s Q v { s with toks := tk } := ⟨ρ, H, b, .same (.refl _) rfl, S, r, h⟩
theorem hq_refl {α β : Type} {R : List Ent → Heap → β → α → Prop} {F : Base} {ρ : List Ent} {s : Shared} {Q : β → List O → Prop} {v : α} {b : β} (S : HSim w KF F ρ H s.heap s.gens) (r : R ρ s.heap b v) (h : Q b H) : HQ w KF R F ρ s Q v s := ⟨ρ, H, b, .refl, S, r, h⟩
theorem hq_keep {α β : Type} {R : List Ent → Heap → β → α → Prop} {F : Base} {ρ : List Ent} {s : Shared} {Q : β → List O → Prop} {v : α} {b : β} {h' : Heap} {tk : Nat} (S : HSim w KF F ρ H s.heap s.gens) (k : Keep s.heap h') (r : R ρ h' b v) (h : Q b H) : HQ w KF R F ρ s Q v { s with heap := h', toks := tk } := ⟨ρ, H, b, .same (.of_keep k) rfl, S.keeps k, r, h⟩
theorem vr_int {ρ : List Ent} {h : Heap} {i : Int} {t : Tok} : VR ρ h (.int i) (.int i t) := by unfold VR; exact ⟨t, rfl⟩
theorem vr_str {ρ : List Ent} {h : Heap} {x : Str} {t : Tok} : VR ρ h (.str x) (.str x t) := by unfold VR; exact ⟨t, rfl⟩
theorem vr_bool {ρ : List Ent} {h : Heap} {b : Bool} : VR ρ h (.bool b) (.bool b) := by unfold VR; rfl
theorem vr_none {ρ : List Ent} {h : Heap} : VR ρ h .none .none := by unfold VR; rfl
theorem vr_bi {ρ : List Ent} {h : Heap} {a : String} : VR ρ h (.bi a) (.builtin a) := by unfold VR; rfl
theorem VR.int_eq {ρ : List Ent} {h : Heap} {i : Int} {v : Value} (r : VR ρ h (.int i) v) : ∃ t, v = .int i t := by unfold VR at r; exact r
theorem VR.str_eq {ρ : List Ent} {h : Heap} {x : Str} {v : Value} (r : VR ρ h (.str x) v) : ∃ t, v = .str x t := by unfold VR at r; exact r
theorem VR.bool_eq {ρ : List Ent} {h : Heap} {b : Bool} {v : Value} (r : VR ρ h (.bool b) v) : v = .bool b := by unfold VR at r; exact r
theorem VR.none_eq {ρ : List Ent} {h : Heap} {v : Value} (r : VR ρ h .none v) : v = .none := by unfold VR at r; exact r
theorem VR.ref_eq {ρ : List Ent} {h : Heap} {i : Nat} {v : Value} (r : VR ρ h (.ref i) v) : ∃ e, ρ[i]? = some e ∧ v = .ref e.a := by unfold VR at r; exact r
theorem VR.ty_eq {ρ : List Ent} {h : Heap} {n : String} {v : Value} (r : VR ρ h (.ty n) v) : v = .type n := by unfold VR at r; exact r
theorem VR.bi_eq {ρ : List Ent} {h : Heap} {n : String} {v : Value} (r : VR ρ h (.bi n) v) : v = .builtin n := by unfold VR at r; exact r
theorem VR.tup_eq {ρ : List Ent} {h : Heap} {xs : List V} {v : Value} (r : VR ρ h (.tup xs) v) : ∃ a vs, v = .ref a ∧ h.IsTuple a vs.toArray ∧ VRs ρ h xs vs := by unfold VR at r; exact r
-- ints
theorem add_ii {x y : Int} (h : Q (.int (x + y)) H) : W2 prog w KF d E VR H (binaryOp .Add) (.int x) (.int y) Q := fun A F ρ s u v hA S ru rv => by
  obtain ⟨t, rfl⟩ := ru.int_eq; obtain ⟨t', rfl⟩ := rv.int_eq; exact PySem.P.add_int (hq_same S vr_int h)
theorem iadd_ii {x y : Int} (h : Q (.int (x + y)) H) : W2 prog w KF d E VR H (inplaceOp .Add) (.int x) (.int y) Q := fun A F ρ s u v hA S ru rv => by
  obtain ⟨t, rfl⟩ := ru.int_eq; obtain ⟨t', rfl⟩ := rv.int_eq; exact PySem.P.iadd_int (hq_same S vr_int h)
theorem sub_ii {x y : Int} (h : Q (.int (x - y)) H) : W2 prog w KF d E VR H (binaryOp .Sub) (.int x) (.int y) Q := fun A F ρ s u v hA S ru rv => by
  obtain ⟨t, rfl⟩ := ru.int_eq; obtain ⟨t', rfl⟩ := rv.int_eq; exact PySem.P.sub_int (hq_same S vr_int h)
theorem mod_ii {x y : Int} (hy : y ≠ 0) (h : Q (.int (x.fmod y)) H) : W2 prog w KF d E VR H (binaryOp .Mod) (.int x) (.int y) Q := fun A F ρ s u v hA S ru rv => by
  obtain ⟨t, rfl⟩ := ru.int_eq; obtain ⟨t', rfl⟩ := rv.int_eq; exact mod_int' hy (hq_same S vr_int h)
theorem div_ii {x y : Int} (hy : y ≠ 0) (hp : Builtin.divisionGoesByPylong x y = false) (h : Q (.int (x.fdiv y)) H) : W2 prog w KF d E VR H (binaryOp .FloorDiv) (.int x) (.int y) Q := fun A F ρ s u v hA S ru rv => by
  obtain ⟨t, rfl⟩ := ru.int_eq; obtain ⟨t', rfl⟩ := rv.int_eq; exact floordiv_int hy (hq_same S vr_int h) (.inl hp)
theorem eq_ii {x y : Int} (h : Q (.bool (x == y)) H) : W2 prog w KF d E VR H (compareOp .Eq) (.int x) (.int y) Q := fun A F ρ s u v hA S ru rv => by
  obtain ⟨t, rfl⟩ := ru.int_eq; obtain ⟨t', rfl⟩ := rv.int_eq; exact PySem.P.eq_int (hq_refl S vr_bool h)
theorem lt_ii {x y : Int} (h : Q (.bool (decide (x < y))) H) : W2 prog w KF d E VR H (compareOp .Lt) (.int x) (.int y) Q := fun A F ρ s u v hA S ru rv => by
  obtain ⟨t, rfl⟩ := ru.int_eq; obtain ⟨t', rfl⟩ := rv.int_eq; exact PySem.P.lt_int (hq_refl S vr_bool h)
theorem tr_bool {b : Bool} {Q : Bool → List O → Prop} (h : Q b H) : W1 prog w KF d E EqR H truthy (.bool b) Q := fun A F ρ s u hA S ru => by
  rw [ru.bool_eq]; exact wpAny_truthy_bool (hq_refl S rfl h)
theorem add_ss {x y : Str} (hz : x.length + y.length ≤ sizeLine) (h : Q (.str (x ++ y)) H) : W2 prog w KF d E VR H (binaryOp .Add) (.str x) (.str y) Q := fun A F ρ s u v hA S ru rv => by
  obtain ⟨t, rfl⟩ := ru.str_eq; obtain ⟨t', rfl⟩ := rv.str_eq; exact PyProof.Rows.add_str (fun t' tk => hq_same S vr_str h) hz
theorem range_1 {n : Int} (h : Q (.rng 0 n) H) : CallW prog w KF d E H (.ty "range") [.int n] Q := fun A F ρ s u us hA S ru r => by
  rw [ru.ty_eq]
  obtain ⟨v, q, rfl, rv, rq⟩ := r.cons_eq
  rw [rq.nil_eq]
  obtain ⟨t, rfl⟩ := rv.int_eq
  refine call_range_1 (hq_keep S (fun _ _ e => Heap.get?_push_of_some _ e) ?_ h)
  unfold VR
  exact ⟨_, rfl, _, _, _, Heap.get?_push_size _ rfl⟩
theorem range_2 {a b : Int} (h : Q (.rng a b) H) : CallW prog w KF d E H (.ty "range") [.int a, .int b] Q := fun A F ρ s u us hA S ru r => by
  rw [ru.ty_eq]
  obtain ⟨v, q, rfl, rv, rq⟩ := r.cons_eq
  obtain ⟨v', q', rfl, rv', rq'⟩ := rq.cons_eq
  rw [rq'.nil_eq]
  obtain ⟨t, rfl⟩ := rv.int_eq
  obtain ⟨t', rfl⟩ := rv'.int_eq
  refine call_range_2 (hq_keep S (fun _ _ e => Heap.get?_push_of_some _ e) ?_ h)
  unfold VR
  exact ⟨_, rfl, _, _, _, Heap.get?_push_size _ rfl⟩
-- items
/-- o[i], an index -/
noncomputable def subOp (o i : Value) : Sem Value := do
  let b ← getitemInPython o
  match b with
  | true => runValue (.builtin "lifetime.subscript" ⟨[o, i], []⟩)
  | false => operate [o, i] (getItem o i)
theorem sub_of {A : Around} {s : Shared} {o i : Value} {T id : String} {K : Value → Shared → Prop} {E' : Value → Shared → Prop} (hT : s.TypeIs o T) (hl : typeLookup (.type T) "__getitem__" = pure (some (.builtin id))) (h : wpAny (model prog w) A (getItem o i) K E' s) : wpAny (model prog w) A (subOp o i) K E' s := by
  unfold subOp
  refine wpAny_bind ?_
  rw [getitemInPython_of_ne hT.not_modules]
  refine wpAny_bind (wpAny_specialOf hT hl ?_)
  exact wpAny_pure (wpAny_operating h)
theorem get_l {l : Nat} {xs : List V} {i : Int} {x : V} (hl : H[l]? = some (.list xs) ∨ H[l]? = some (.arr xs)) (h0 : 0 ≤ i) (hz : i < 2 ^ 62) (hx : xs[i.toNat]? = some x) (h : Q x H) : W2 prog w KF d E VR H getItem (.ref l) (.int i) Q := fun A F ρ s u v hA S ru rv => by
  obtain ⟨e, he, rfl⟩ := ru.ref_eq; obtain ⟨t', rfl⟩ := rv.int_eq
  have hr : ∃ vs : List Value, s.heap.IsList e.a vs.toArray ∧ VRs ρ s.heap xs vs := by
    rcases hl with hG | hG
    · obtain ⟨_, _, vs, a, b⟩ := S.ob l e _ he hG; exact ⟨vs, a.isList, b⟩
    · obtain ⟨_, _, ⟨vs, a, b⟩, _⟩ := S.ob l e _ he hG; exact ⟨vs, a, b⟩
  obtain ⟨vs, hl, hv⟩ := hr
  obtain ⟨y, hy, ry⟩ := hv.get hx
  exact wpAny_getItem_list hl h0 (by omega) (by simpa using hy) (hq_refl S ry h)
end
end Mine
end
section
open PySem PySem.W PyProof.Rows PySem.W.X PySem.SeqAt
namespace Mine
/-- Python's pick of a slice -/
noncomputable def pick {α : Type} (xs : List α) (lo hi st : Option Int) : List α := (sliceRange (sliceBounds lo hi st xs.length).1 (sliceBounds lo hi st xs.length).2.1 (sliceBounds lo hi st xs.length).2.2).filterMap (xs[·]?)
theorem VRs.picks {ρ : List Ent} {h : Heap} {xs : List V} {vs : List Value} (r : VRs ρ h xs vs) : ∀ ix : List Nat, VRs ρ h (ix.filterMap (xs[·]?)) (ix.filterMap (vs[·]?))
  | [] => .nil
  | i :: ix => by
    rw [List.filterMap_cons, List.filterMap_cons]
    cases q : xs[i]? with
    | none =>
      have : vs[i]? = none := by
        rw [List.getElem?_eq_none_iff] at q ⊢
        rw [r.len]; exact q
      rw [this]; exact VRs.picks r ix
    | some x =>
      obtain ⟨v, hv, rv⟩ := r.get q
      rw [hv]; exact .cons rv (VRs.picks r ix)
theorem pick_array (vs : List Value) (lo hi st : Option Int) : slicePick vs.toArray lo hi st = (pick vs lo hi st).toArray := by
  unfold slicePick pick
  rw [List.size_toArray]
  congr 1
  have : (fun x : Nat => vs.toArray[x]?) = fun x => vs[x]? := funext fun i => by simp
  rw [this]
theorem VRs.pick {ρ : List Ent} {h : Heap} {xs : List V} {vs : List Value} (r : VRs ρ h xs vs) (lo hi st : Option Int) : VRs ρ h (Mine.pick xs lo hi st) (Mine.pick vs lo hi st) := by
  unfold Mine.pick
  rw [r.len]; exact r.picks _
section
variable {prog : Program} {w : World} {KF : Frag} {d : Nat} {E : HEP} {H : List O} {Q : V → List O → Prop}
/-- a list of the heap's -/
noncomputable def IsL' (H : List O) (l : Nat) (xs : List V) : Prop := H[l]? = some (.list xs) ∨ H[l]? = some (.arr xs)
theorem HSim.list {F : Base} {ρ : List Ent} {s : Shared} {l : Nat} {xs : List V} (S : HSim w KF F ρ H s.heap s.gens) (hl : IsL' H l xs) {e : Ent} (he : ρ[l]? = some e) : ∃ vs : List Value, s.heap.IsList e.a vs.toArray ∧ VRs ρ s.heap xs vs := by
  rcases hl with hG | hG
  · obtain ⟨_, _, vs, a, b⟩ := S.ob l e _ he hG; exact ⟨vs, a.isList, b⟩
  · obtain ⟨_, _, ⟨vs, a, b⟩, _⟩ := S.ob l e _ he hG; exact ⟨vs, a, b⟩
theorem len_l {l : Nat} {xs : List V} (hl : IsL' H l xs) (hz : xs.length ≤ sizeLine) (h : Q (.int xs.length) H) : CallW prog w KF d E H (.bi "len") [.ref l] Q := fun A F ρ s u us hA S ru r => by
  rw [ru.bi_eq]
  obtain ⟨v, q, rfl, rv, rq⟩ := r.cons_eq
  rw [rq.nil_eq]
  obtain ⟨e, he, rfl⟩ := rv.ref_eq
  obtain ⟨vs, a, b⟩ := S.list hl he
  have hs : sizeLine = 2 ^ 24 := rfl
  refine Calls.call_len_list a (by rw [List.size_toArray, b.len]; omega) ?_
  rw [List.size_toArray, b.len]
  exact hq_same S vr_int h
theorem get_li {l : Nat} {xs : List V} {i : Int} {x : V} (hl : IsL' H l xs) (h0 : 0 ≤ i) (hz : i < 2 ^ 62) (hx : xs[i.toNat]? = some x) (h : Q x H) : W2 prog w KF d E VR H subOp (.ref l) (.int i) Q := fun A F ρ s u v hA S ru rv => by
  obtain ⟨e, he, rfl⟩ := ru.ref_eq; obtain ⟨t', rfl⟩ := rv.int_eq
  obtain ⟨vs, a, b⟩ := S.list hl he
  obtain ⟨y, hy, ry⟩ := b.get hx
  exact sub_of a.typeIs slot_list_getitem.lookup (wpAny_getItem_list a h0 (by omega) (by simpa using hy) (hq_refl S ry h))
/-- the same by getItem alone (o[i] += ..) -/
theorem geti_li {l : Nat} {xs : List V} {i : Int} {x : V} (hl : IsL' H l xs) (h0 : 0 ≤ i) (hz : i < 2 ^ 62) (hx : xs[i.toNat]? = some x) (h : Q x H) : W2 prog w KF d E VR H getItem (.ref l) (.int i) Q := get_l hl h0 hz hx h
/-- one list turned -/
theorem HSim.turn {F : Base} {ρ : List Ent} {s : Shared} {l : Nat} {xs ys : List V} {e : Ent} {us : List Value} {h' : Heap} {tk : Nat} (S : HSim w KF F ρ H s.heap s.gens) (hl : H[l]? = some (.list xs)) (he : ρ[l]? = some e) (hk : ∀ b o, b ≠ e.a → s.heap.get? b = some o → h'.get? b = some o) (hp : h'.PlainList e.a us.toArray) (r : VRs ρ s.heap ys us) :
    Step ρ s ρ { s with heap := h', toks := tk } ∧ HSim w KF F ρ (H.set l (.list ys)) h' s.gens := by
  obtain ⟨h1, h2, vs, a, b⟩ := S.ob l e _ he hl
  have t : TK s.heap h' := .of_ext hk (list_not_imm a.isList)
  refine ⟨.same t rfl, S.upd he (fun b o hb e' => hk b o (fun q => hb (by rw [h1, q]; exact .head _)) e') (fun b hb => ?_) t ⟨h1, h2, us, hp, r.mono (List.prefix_refl _) t⟩⟩
  rw [h1] at hb
  rw [List.mem_singleton.mp hb]
  obtain ⟨n, e⟩ := hp
  exact ⟨_, e⟩
theorem app_l {l : Nat} {xs : List V} {x : V} (hl : H[l]? = some (.list xs)) (hz : xs.length ≤ sizeLine) (h : Q .none (H.set l (.list (xs ++ [x])))) : CallW prog w KF d E H (.bi "list.append") [.ref l, x] Q := fun A F ρ s u us hA S ru r => by
  rw [ru.bi_eq]
  obtain ⟨v, q, rfl, rv, rq⟩ := r.cons_eq
  obtain ⟨v', q', rfl, rv', rq'⟩ := rq.cons_eq
  rw [rq'.nil_eq]
  obtain ⟨e, he, rfl⟩ := rv.ref_eq
  obtain ⟨h1, h2, vs, a, b⟩ := S.ob l e _ he hl
  refine app_plain a (fun h' hp hs => ?_) (by rw [List.size_toArray, b.len]; exact hz)
  obtain ⟨st, S'⟩ := S.turn (tk := s.toks) hl he (fun b o hb e => hs.extBut b o hb e) (us := vs ++ [v']) (by simpa using hp) (b.append (.cons rv' .nil))
  exact ⟨ρ, _, .none, st, S', vr_none, h⟩
theorem meth_append {l : Nat} {xs : List V} (hl : H[l]? = some (.list xs)) : MethIs prog w KF H (.ref l) "append" (.bi "list.append") := fun A F ρ s u pl K E' S r h => by
  obtain ⟨e, he, rfl⟩ := r.ref_eq
  obtain ⟨_, _, vs, ⟨n, a⟩, b⟩ := S.ob l e _ he hl
  exact Calls.getMethod_list_append a rfl rfl (h _ vr_bi)
/-- o[i] = v -/
theorem set_plain {A : Around} {s : Shared} {l : Nat} {items : Array Value} {k : Int} {t : Tok} {v : Value} {K : Unit → Shared → Prop} {E' : Value → Shared → Prop} (hl : s.heap.PlainList l items) (h0 : 0 ≤ k) (hfit : k < 2 ^ 63) (hn : k < items.size)
    (hQ : ∀ h', h'.PlainList l (items.setIfInBounds k.toNat v) → Heap.SameBut l s.heap h' → K () { s with heap := h' }) : wpAny (model prog w) A (setItem (.ref l) (.int k t) v) K E' s := by
  obtain ⟨n, ho⟩ := id hl
  have hT := hl.isList.typeIs (s := s)
  unfold setItem
  try with_reducible refine wpAny_holding ?_
  first | refine wpAny_bind (wpAny_pure ?_) | skip
  refine wpAny_bind (wpAny_sequenceKey hT (by decide) ?_)
  refine wpAny_bind (wpAny_callSpecial?_slot (name := Str.ofString "__setitem__") hT slot_list_setitem
    (wpAny_call_entry slot_list_setitem hT entry_list_setitem ?_ (args_list_setitem _ _ _)))
  show wpAny _ _ (Builtin.List.listSubscript? (.int k t) >>= _) _ _ s
  refine wpAny_bind (wpAny_listSubscript_int (fitsIndex_of h0 hfit) ?_)
  clear hfit
  obtain ⟨j, rfl⟩ := Int.eq_ofNat_of_zero_le h0
  have hj : j < items.size := by omega
  have hx' : items[j]? = some items[j] := Array.getElem?_eq_getElem hj
  show wpAny _ _ ((seqItemAt l j >>= fun r => pure (r.map (j, ·))) >>= _) _ _ s
  refine wpAny_bind (wpAny_bind (wpAny_seqItemAt ho rfl (wpAny_pure ?_)))
  rw [hx']
  show wpAny _ _ (setSeqItemAt l j v >>= _) _ _ s
  refine wpAny_bind (wpAny_setSeqItemAt ho rfl ?_)
  first
    | exact wpAny_bind (wpAny_pure (wpAny_pure ⟨.none, rfl, wpAny_pure (hQ _ (plain_upd _ hl) (Heap.SameBut.update ..))⟩))
    | exact wpAny_pure ⟨.none, rfl, wpAny_pure (hQ _ (plain_upd _ hl) (Heap.SameBut.update ..))⟩
theorem set_li {l : Nat} {xs : List V} {i : Int} {x : V} {Q : Unit → List O → Prop} (hl : H[l]? = some (.list xs)) (h0 : 0 ≤ i) (hz : i < 2 ^ 62) (hx : i < xs.length) (h : Q () (H.set l (.list (xs.set i.toNat x)))) : W3 prog w KF d E UnR H setItem (.ref l) (.int i) x Q := fun A F ρ s u v r hA S ru rv rr => by
  obtain ⟨e, he, rfl⟩ := ru.ref_eq; obtain ⟨t', rfl⟩ := rv.int_eq
  obtain ⟨h1, h2, vs, a, b⟩ := S.ob l e _ he hl
  refine set_plain a h0 (by omega) (by rw [List.size_toArray, b.len]; exact hx) fun h' hp hs => ?_
  obtain ⟨st, S'⟩ := S.turn (tk := s.toks) hl he (fun b o hb e => hs.extBut b o hb e) (us := vs.set i.toNat r) (by simpa using hp) (b.set rr i.toNat)
  exact ⟨ρ, _, (), st, S', trivial, h⟩
/-- a new list on the heap -/
theorem hq_list {F : Base} {ρ : List Ent} {s : Shared} {xs : List V} {vs : List Value} {h₀ : Heap} {tk : Nat} (S : HSim w KF F ρ H s.heap s.gens) (k₀ : Keep s.heap h₀) (r : VRs ρ s.heap xs vs) (h : Q (.ref H.length) (H ++ [.list xs])) : HQ w KF VR F ρ s Q (.ref h₀.objs.size) { s with heap := h₀.push { cls := .type "list", data := .seq vs.toArray }, toks := tk } := by
  have k1 : Keep h₀ (h₀.push { cls := .type "list", data := .seq vs.toArray }) := fun _ _ e => Heap.get?_push_of_some _ e
  have hg : (h₀.push { cls := .type "list", data := .seq vs.toArray }).get? h₀.objs.size = some { cls := .type "list", data := .seq vs.toArray } := Heap.get?_push_size _ rfl
  have S₀ := S.keeps k₀
  refine ⟨_, _, .ref H.length, .add (.of_keep fun b o e => k1 b o (k₀ b o e)) rfl, S₀.alloc (o := .list xs) k1 (get_size _) ⟨_, hg⟩ ⟨rfl, rfl, vs, ⟨_, hg⟩, r.mono (List.prefix_append _ _) (.of_keep fun b o e => k1 b o (k₀ b o e))⟩, ?_, h⟩
  unfold VR
  exact ⟨_, by rw [← S.len, List.getElem?_concat_length], rfl⟩
theorem add_ll {l r : Nat} {xs ys : List V} (hl : H[l]? = some (.list xs)) (hr : H[r]? = some (.list ys)) (hz : xs.length + ys.length ≤ sizeLine) (h : Q (.ref H.length) (H ++ [.list (xs ++ ys)])) : W2 prog w KF d E VR H (binaryOp .Add) (.ref l) (.ref r) Q := fun A F ρ s u v hA S ru rv => by
  obtain ⟨e, he, rfl⟩ := ru.ref_eq; obtain ⟨e', he', rfl⟩ := rv.ref_eq
  obtain ⟨_, _, vs, ⟨n, a⟩, b⟩ := S.ob l e _ he hl
  obtain ⟨_, _, vs', ⟨n', a'⟩, b'⟩ := S.ob r e' _ he' hr
  refine P.add_list a a' ?_ (by rw [List.size_toArray, List.size_toArray, b.len, b'.len]; exact hz)
  have := hq_list (tk := s.toks) S (fun _ _ e => e) (b.append b') h
  simpa using this
noncomputable def Part : V → Option Int → Prop
  | .none, p => p = none
  | .int i, p => p = some i
  | _, _ => False
theorem part_of {ρ : List Ent} {h : Heap} {x : V} {p : Option Int} {v : Value} (hp : Part x p) (r : VR ρ h x v) : IsPart v p := by
  cases x with
  | none => rw [r.none_eq, show p = none from hp]; exact .none
  | int i => obtain ⟨t, rfl⟩ := r.int_eq; rw [show p = some i from hp]; exact .int i t
  | _ => exact hp.elim
end
end Mine
end
section
open PySem PySem.W PyProof.Rows PySem.W.X PySem.SeqAt
namespace Mine
theorem subscripted_no (slice : Expr) (o i : Value) : ∃ ops, subscripted slice false o i = operate ops (getItem o i) := by
  unfold subscripted
  split
  · exact ⟨_, rfl⟩
  · rename_i h; cases h
  · exact ⟨_, rfl⟩
section
variable (prog : Program) (w : World) (KF : Frag) (d : Nat)
/-- o[l:u:k] -/
noncomputable def SliceW (E : HEP) (H : List O) (x y z q : V) (Q : V → List O → Prop) : Prop :=
  ∀ A F ρ s u v r k, Room A d → HSim w KF F ρ H s.heap s.gens → VR ρ s.heap x u → VR ρ s.heap y v → VR ρ s.heap z r → VR ρ s.heap q k → ItemOn (model prog w) A (HE w KF F ρ s E) u (.ref s.heap.objs.size) (HQ w KF VR F ρ s Q) { s with heap := s.heap.push { cls := .type "slice", data := .fields #[v, r, k] } }
noncomputable def WEo (fi : FI) (E : EP) (m : Names) (H : List O) : Option Expr → (V → List O → Prop) → Prop
  | none, Q => Q .none H
  | some e, Q => WE prog w KF fi d E m H e Q
end
section
variable {prog : Program} {w : World} {KF : Frag} {fi : FI} {d : Nat} {E : EP} {m : Names} {H : List O}
theorem we_sub {value slice : Expr} {pos : Pos} {Q : V → List O → Prop} (h : WE prog w KF fi d E m H value fun o H₁ => WE prog w KF fi d E m H₁ slice fun i H₂ => W2 prog w KF d (Em E m) VR H₂ subOp o i Q)
    (hs : ∀ b o i, subscripted slice b o i = (match b with | true => runValue (.builtin "lifetime.subscript" ⟨[o, i], []⟩) | false => operate [o, i] (getItem o i)) := by intro b o i; cases b <;> rfl) : WE prog w KF fi d E m H (.Subscript value slice pos) Q :=
  fun A env F ρ s hA S => by
    refine Subscript_ (wpAny_mono (h A env F ρ s hA S) (fun o s₁ hx => ?_) fun _ _ x => x)
    obtain ⟨ρ₁, H₁, ov, st₁, S₁, ro, h₁⟩ := hx
    refine onto st₁ (wpAny_mono (h₁ A env F ρ₁ s₁ hA S₁) (fun i s₂ hx => ?_) fun _ _ x => x) fun _ _ x => x
    obtain ⟨ρ₂, H₂, iv, st₂, S₂, ri, h₂⟩ := hx
    have e : subscriptTail value slice o i = (do let r ← subOp o i; letTemporaryGo value o r; pure r) := by
      unfold subscriptTail subOp
      first
        | (simp only [hs, bind_assoc]; rfl)
        | simp only [hs, bind_assoc]
    rw [e]
    have st := st₁.trans st₂
    refine wpAny_bind (onto st (lift S₂ fun F' T => h₂ A F' ρ₂ s₂ o i hA T (ro.mono st₂.1 st₂.2.1) ri) fun r s₃ q => ?_)
    exact wpAny_bind (wpAny_letTemporaryGo (wpAny_pure (q.step st)))
theorem opt_run {e : Option Expr} {Q : V → List O → Prop} (h : WEo prog w KF d fi E m H e Q) {A : Around} {env : Env} {F : Base} {ρ : List Ent} {s : Shared} (hA : Room A d) (S : Sim w KF fi env m F ρ H s.heap s.gens) : wpAny (model prog w) A (valueOrNone (evalOpt e env)) (SQ w KF VR fi env m F ρ s Q) (SE w KF fi env F ρ s E) s := by
  cases e with
  | none => exact wpAny_pure ⟨ρ, H, .none, .refl, S, vr_none, h⟩
  | some e => exact (show WE prog w KF fi d E m H e Q from h) A env F ρ s hA S
theorem tail_item {A : Around} {s : Shared} {value slice : Expr} {o i : Value} {K : Value → Shared → Prop} {E' : Value → Shared → Prop} (h : ItemOn (model prog w) A E' o i K s) : wpAny (model prog w) A (subscriptTail value slice o i) K E' s := by
  obtain ⟨T, id, hl, hT, hg⟩ := h
  obtain ⟨ops, hs⟩ := subscripted_no slice o i
  unfold subscriptTail
  refine wpAny_bind ?_
  rw [getitemInPython_of_ne hT.not_modules]
  refine wpAny_bind (wpAny_specialOf hT hl ?_)
  have fin : wpAny (model prog w) A (subscripted slice false o i) (fun r s₃ => wpAny (model prog w) A (letTemporaryGo value o r >>= fun _ => pure r) K E' s₃) E' s := by
    rw [hs]
    exact wpAny_operating (wpAny_mono hg (fun r s₃ h₃ => wpAny_bind (wpAny_letTemporaryGo (wpAny_pure h₃))) fun _ _ x => x)
  exact wpAny_pure (wpAny_bind fin)
theorem we_slice {value : Expr} {l u k : Option Expr} {p pos : Pos} {Q : V → List O → Prop} (h : WE prog w KF fi d E m H value fun o H₁ => WEo prog w KF d fi E m H₁ l fun lv H₂ => WEo prog w KF d fi E m H₂ u fun uv H₃ => WEo prog w KF d fi E m H₃ k fun kv H₄ => SliceW prog w KF d (Em E m) H₄ o lv uv kv Q) : WE prog w KF fi d E m H (.Subscript value (.Slice l u k p) pos) Q :=
  fun A env F ρ s hA S => by
    refine Subscript_ (wpAny_mono (h A env F ρ s hA S) (fun o s₁ hx => ?_) fun _ _ x => x)
    obtain ⟨ρ₁, H₁, ov, st₁, S₁, ro, h₁⟩ := hx
    show wpAny _ A (do
      let lv ← valueOrNone (evalOpt l env)
      let uv ← holding [lv] (valueOrNone (evalOpt u env))
      let kv ← holding [lv, uv] (valueOrNone (evalOpt k env))
      newFields "slice" [lv, uv, kv]) _ _ _
    refine wpAny_bind (onto st₁ (wpAny_mono (opt_run h₁ hA S₁) (fun lv s₂ hx => ?_) fun _ _ x => x) fun _ _ x => x)
    obtain ⟨ρ₂, H₂, la, st₂, S₂, rl, h₂⟩ := hx
    have t2 := st₁.trans st₂
    refine wpAny_bind (wpAny_holding (onto t2 (wpAny_mono (opt_run h₂ hA S₂) (fun uv s₃ hx => ?_) fun _ _ x => x) fun _ _ x => x))
    obtain ⟨ρ₃, H₃, ua, st₃, S₃, ru, h₃⟩ := hx
    have t3 := t2.trans st₃
    refine wpAny_bind (wpAny_holding (onto t3 (wpAny_mono (opt_run h₃ hA S₃) (fun kv s₄ hx => ?_) fun _ _ x => x) fun _ _ x => x))
    obtain ⟨ρ₄, H₄, ka, st₄, S₄, rk, h₄⟩ := hx
    have t4 := t3.trans st₄
    have u24 := (st₂.trans st₃).trans st₄
    have u34 := st₃.trans st₄
    obtain ⟨T, id, hl, hT, hg⟩ := h₄ A _ ρ₄ s₄ o lv uv kv hA S₄.toH (ro.mono u24.1 u24.2.1) (rl.mono u34.1 u34.2.1) (ru.mono st₄.1 st₄.2.1) rk
    refine wpAny_newObj_type (tail_item ⟨T, id, hl, hT, ?_⟩) (by size_fits)
    refine wpAny_mono hg (fun v s' ⟨ρ', H', b, st, T, rv, hq⟩ => ⟨ρ', H', b, t4.trans st, S₄.ofH st.1 st.2.1 T, rv, hq⟩) (fun e s' ⟨ρ', H', x, st, T, rv, hq⟩ => rv.elim)
end
section
variable {prog : Program} {w : World} {KF : Frag} {d : Nat} {E : HEP} {H : List O} {Q : V → List O → Prop}
theorem sl_list {l : Nat} {xs : List V} {y z k : V} {lo hi st : Option Int} (hl : IsL' H l xs) (hy : Part y lo) (hz : Part z hi) (hk : Part k st) (h0 : st ≠ some 0) (hsz : xs.length ≤ sizeLine) (h : Q (.ref H.length) (H ++ [.list (pick xs lo hi st)])) : SliceW prog w KF d E H (.ref l) y z k Q := fun A F ρ s u v r q hA S ru rv rr rk => by
  obtain ⟨e, he, rfl⟩ := ru.ref_eq
  obtain ⟨vs, a, b⟩ := S.list hl he
  have hp := a.push { cls := .type "slice", data := .fields #[v, r, q] }
  refine ⟨"list", _, list_getitem_lookup, hp.typeIs (s := { s with heap := s.heap.push { cls := .type "slice", data := .fields #[v, r, q] } }), ?_⟩
  refine wpAny_getItem_list_slice hp (Heap.IsSliceOf.new ..) (part_of hy rv) (part_of hz rr) (part_of hk rk) h0 ?_ (by rw [List.size_toArray, b.len]; exact hsz)
  have := hq_list (tk := s.toks) S (h₀ := s.heap.push { cls := .type "slice", data := .fields #[v, r, q] }) (fun _ _ e => Heap.get?_push_of_some _ e) (b.pick lo hi st) h
  rw [← pick_array] at this
  exact this
/-- x == y gives b -/
structure EqW (A : Around) (s : Shared) (u v : Value) (b : Bool) : Prop where
  rc : RcAt A s u v b
  ne : RcNeAt A s u v (!b)
  eq : EqAt A s u v b
  same : u = v → b = true
noncomputable def EqV (w : World) (KF : Frag) (H : List O) (k : Nat) (x y : V) (b : Bool) : Prop :=
  ∀ (A : Around) (F : Base) (ρ : List Ent) (s : Shared) (u v : Value), A.units + k < cLine → HSim w KF F ρ H s.heap s.gens → VR ρ s.heap x u → VR ρ s.heap y v → EqW A s u v b
theorem eqAt_of {A : Around} {s : Shared} {u v : Value} {b : Bool} (h : RcAt A s u v b) (hf : ∀ x t, u ≠ .float x t) (hb : u = v → b = true) : EqAt A s u v b := fun prog w E Q hq => by
  unfold eqBool
  refine wpAny_holding ?_
  refine wpAny_ite_split (fun hab => ?_) (fun _ => ?_)
  · rw [hb (eq_of_beq hab)] at hq
    exact wpAny_bind (wpAny_rule (wpAny_pure hq))
  · have main : wpAny (model prog w) A (do let x ← richCompare .Eq u v; truthOfDropped x) Q E s := wpAny_bind (h prog w E _ (by
      unfold truthOfDropped
      first | exact wpAny_truthy_bool hq | exact wpAny_pure hq | exact wpAny_holding (wpAny_truthy_bool hq) | exact wpAny_bind (wpAny_truthy_bool (wpAny_pure hq))))
    cases u with
    | float x t => exact absurd rfl (hf x t)
    | _ => exact main
theorem eqv_str {k : Nat} {i j : Str} : EqV w KF H k (.str i) (.str j) (i == j) := fun A F ρ s u v hu S ru rv => by
  obtain ⟨t, rfl⟩ := ru.str_eq; obtain ⟨t', rfl⟩ := rv.str_eq
  have rc : RcAt A s (.str i t) (.str j t') (i == j) := fun prog w E Q hq => PyProof.Rows.eq_str hq
  have sm : Value.str i t = .str j t' → (i == j) = true := fun q => by cases q; exact beq_self_eq_true _
  exact ⟨rc, fun prog w E Q hq => PyProof.Rows.ne_str hq, eqAt_of rc (fun _ _ q => nomatch q) sm, sm⟩
/-- all of two lists, place by place -/
noncomputable def atB (xs ys : List V) (e : V → V → Bool) (j : Nat) : Bool := match xs[j]?, ys[j]? with | some x, some y => e x y | _, _ => true
noncomputable def allB (xs ys : List V) (e : V → V → Bool) : Bool := xs.length == ys.length && (List.range xs.length).all (atB xs ys e)
section
variable {k : Nat} {xs ys : List V} {e : V → V → Bool} {A : Around} {F : Base} {ρ : List Ent} {s : Shared} {vs us : List Value}
theorem items_eq (S : HSim w KF F ρ H s.heap s.gens) (hu : A.units + k < cLine) (p2 : VRs ρ s.heap xs vs) (q2 : VRs ρ s.heap ys us) (he : ∀ x ∈ xs, ∀ y ∈ ys, EqV w KF H k x y (e x y)) (j : Nat) (h1 : j < vs.toArray.size) (h2 : j < us.toArray.size) :
    EqAt A s vs.toArray[j] us.toArray[j] (atB xs ys e j) ∧ (vs.toArray[j] = us.toArray[j] → atB xs ys e j = true) := by
  rw [List.size_toArray] at h1 h2
  obtain ⟨x, hx, rx⟩ := p2.get' (List.getElem?_eq_getElem h1)
  obtain ⟨y, hy, ry⟩ := q2.get' (List.getElem?_eq_getElem h2)
  have z := he x (List.mem_of_getElem? hx) y (List.mem_of_getElem? hy) A F ρ s _ _ hu S rx ry
  unfold atB
  rw [hx, hy]
  exact ⟨z.eq, z.same⟩
theorem items_same (S : HSim w KF F ρ H s.heap s.gens) (hu : A.units + k < cLine) (p2 : VRs ρ s.heap xs vs) (q2 : VRs ρ s.heap ys vs) (he : ∀ x ∈ xs, ∀ y ∈ ys, EqV w KF H k x y (e x y)) : allB xs ys e = true := by
  unfold allB
  rw [← p2.len, ← q2.len, beq_self_eq_true, Bool.true_and, List.all_eq_true]
  intro j hj
  have hj' : j < vs.toArray.size := by rw [List.size_toArray]; exact List.mem_range.mp hj
  exact (items_eq S hu p2 q2 he j hj' hj').2 rfl
theorem allB_eq (p2 : VRs ρ s.heap xs vs) (hlen : xs.length = ys.length) : allB xs ys e = (List.range vs.toArray.size).all (atB xs ys e) := by
  unfold allB
  rw [List.size_toArray, p2.len, hlen, beq_self_eq_true, Bool.true_and]
theorem allB_ne (hlen : xs.length ≠ ys.length) : allB xs ys e = false := by
  unfold allB
  rw [show (xs.length == ys.length) = false by simpa using hlen, Bool.false_and]
end
theorem eqv_list {k l r : Nat} {xs ys : List V} {e : V → V → Bool} (hl : H[l]? = some (.list xs)) (hr : H[r]? = some (.list ys)) (he : ∀ x ∈ xs, ∀ y ∈ ys, EqV w KF H k x y (e x y)) : EqV w KF H (k + 1) (.ref l) (.ref r) (allB xs ys e) := fun A F ρ s u v hu S ru rv => by
  obtain ⟨a, ha, rfl⟩ := ru.ref_eq
  obtain ⟨b, hb, rfl⟩ := rv.ref_eq
  obtain ⟨f1, _, vs, p1, p2⟩ := S.ob l a _ ha hl
  obtain ⟨f2, _, us, q1, q2⟩ := S.ob r b _ hb hr
  have hu1 : A.in1.units + k < cLine := by show A.units + 1 + k < cLine; omega
  have sm : Value.ref a.a = .ref b.a → allB xs ys e = true := fun q => by
    have e1 : a.a = b.a := by injection q
    have hlr : l = r := Decidable.byContradiction fun hne => fps_apart S.nd ha hb hne (b := a.a) (by rw [f1]; exact .head _) (by rw [f2, e1]; exact .head _)
    subst hlr
    rw [hl] at hr
    cases hr
    rw [ha] at hb
    cases hb
    exact items_same (A := A.in1) S hu1 p2 p2 he
  have rc : RcAt A s (.ref a.a) (.ref b.a) (allB xs ys e) ∧ RcNeAt A s (.ref a.a) (.ref b.a) (!allB xs ys e) := by
    by_cases hlen : xs.length = ys.length
    · have h1 : vs.toArray.size = us.toArray.size := by rw [List.size_toArray, List.size_toArray, p2.len, q2.len, hlen]
      rw [allB_eq (s := s) p2 hlen]
      exact ⟨RcAt.lists p1.isList q1.isList h1 (by omega) fun j h1 h2 => (items_eq (A := A.in1) S hu1 p2 q2 he j h1 h2).1, RcNeAt.lists p1.isList q1.isList h1 (by omega) fun j h1 h2 => (items_eq (A := A.in1) S hu1 p2 q2 he j h1 h2).1⟩
    · rw [allB_ne hlen]
      have hs : (vs.toArray.size != us.toArray.size) = true := by rw [List.size_toArray, List.size_toArray, p2.len, q2.len]; simpa using hlen
      exact ⟨RcAt.lists_lengths p1.isList q1.isList hs (by omega), RcNeAt.lists_lengths p1.isList q1.isList hs (by omega)⟩
  exact ⟨rc.1, rc.2, eqAt_of rc.1 (fun _ _ q => nomatch q) sm, sm⟩
theorem eq_of_eqv {k : Nat} {x y : V} {b : Bool} (hk : k ≤ 150) (h : EqV w KF H k x y b) (hq : Q (.bool b) H) : W2 prog w KF d E VR H (compareOp .Eq) x y Q := fun A F ρ s u v hA S ru rv => by
  have := hA.un
  exact (h A F ρ s u v (by omega) S ru rv).rc prog w _ _ (hq_refl S vr_bool hq)
/-- lists of texts, lists of ints -/
noncomputable def eqS : V → V → Bool
  | .str x, .str y => x == y
  | .int x, .int y => x == y
  | _, _ => false
theorem allB_map {α : Type} [DecidableEq α] (f : α → V) (hf : ∀ x y, eqS (f x) (f y) = decide (x = y)) : ∀ (xs ys : List α), allB (xs.map f) (ys.map f) eqS = decide (xs = ys) := by
  intro xs ys
  unfold allB
  rw [List.length_map, List.length_map, Bool.eq_iff_iff]
  simp only [Bool.and_eq_true, beq_iff_eq, List.all_eq_true, List.mem_range, decide_eq_true_eq]
  constructor
  · rintro ⟨h1, h2⟩
    refine List.ext_getElem h1 fun i hi hi' => ?_
    have := h2 i hi
    unfold atB at this
    rw [List.getElem?_map, List.getElem?_map, List.getElem?_eq_getElem hi, List.getElem?_eq_getElem hi'] at this
    simpa [hf] using this
  · rintro rfl
    refine ⟨rfl, fun i hi => ?_⟩
    unfold atB
    rw [List.getElem?_map, List.getElem?_eq_getElem hi]
    simp [hf]
theorem eqv_strs {l r : Nat} {xs ys : List Str} (hl : H[l]? = some (.list (xs.map .str))) (hr : H[r]? = some (.list (ys.map .str))) : EqV w KF H 1 (.ref l) (.ref r) (decide (xs = ys)) := by
  rw [← allB_map V.str (fun x y => by show (x == y) = _; rw [Bool.eq_iff_iff]; simp)]
  refine eqv_list (k := 0) hl hr fun x hx y hy => ?_
  obtain ⟨a, _, rfl⟩ := List.mem_map.mp hx
  obtain ⟨b, _, rfl⟩ := List.mem_map.mp hy
  exact eqv_str
end
end Mine
end
section
open PySem PySem.W PyProof.Rows PySem.W.X PySem.SeqAt
namespace Mine
section
variable {prog : Program} {w : World} {KF : Frag} {d : Nat} {E : HEP} {H : List O} {Q : V → List O → Prop}
theorem Chg.trans {fp : List Nat} {s s₁ s₂ : Shared} (a : Chg fp s s₁) (b : Chg fp s₁ s₂) : Chg fp s s₂ := ⟨b.1.trans a.1, b.2.1.trans a.2.1, a.2.2.1.trans b.2.2.1, fun x o hx e => b.2.2.2 x o hx (a.2.2.2 x o hx e)⟩
theorem draw_iter {I : Nat} {fp : List Nat} {xs : List V} {G : List O → Prop} {St : Nat → List Ent → Heap → Prop} (IT : Iter prog w KF I fp xs G St) {A : Around} (hh : A.handled = none) {F : Base} {ρ : List Ent} (hG : G H) (hf : ∀ b ∈ fp, F b = none ∧ b ∉ fps ρ) {E' : Value → Shared → Prop} :
    ∀ (n i : Nat) (s : Shared), i + n = xs.length → HSim w KF F ρ H s.heap s.gens → St i ρ s.heap →
      wpAny (model prog w) A (draw (.ref I) n) (fun us s' => VRs ρ s'.heap (xs.drop i) us ∧ St xs.length ρ s'.heap ∧ Chg fp s s') E' s
  | 0, i, s, hn, S, st => by
    have : xs.drop i = [] := List.drop_of_length_le (by omega)
    rw [this]
    exact wpAny_pure ⟨.nil, by rw [← hn]; exact st, .refl⟩
  | n + 1, i, s, hn, S, st => by
    have hi : i < xs.length := by omega
    unfold draw
    refine wpAny_bind (wpAny_mono (IT.item A F ρ H s i xs[i] E' hh S hG st (List.getElem?_eq_getElem hi)) (fun r s₁ ⟨v, e, rv, st₁, c₁⟩ => ?_) fun _ _ x => x)
    subst e
    have S₁ := S.chg hf c₁
    refine wpAny_bind (wpAny_holding (wpAny_mono (draw_iter IT hh hG hf n (i + 1) s₁ (by omega) S₁ st₁) (fun us s₂ ⟨ru, st₂, c₂⟩ => ?_) fun _ _ x => x))
    rw [List.drop_eq_getElem_cons hi]
    exact wpAny_pure ⟨.cons (rv.mono (List.prefix_refl _) c₂.2.2.1) ru, st₂, c₁.trans c₂⟩
/-- has the value an __iter__ -/
noncomputable def HasIter (w : World) (KF : Frag) (H : List O) (v : V) : Prop := ∀ F ρ (s : Shared) u, HSim w KF F ρ H s.heap s.gens → VR ρ s.heap v u → ∃ T r, s.TypeIs u T ∧ typeLookup (.type T) "__iter__" = pure (some r)
theorem unpack_iter {v : V} {xs : List V} {G : List O → Prop} {Q : List V → List O → Prop} (hI : IterW prog w KF d E H v xs G) (hG : G H) (hi : HasIter w KF H v) (h : Q xs H) : W1 prog w KF d E VRs H (fun u => unpackItems u xs.length none) v Q := fun A F ρ s u hA S ru => by
  obtain ⟨T, r, hT, hl⟩ := hi F ρ s u S ru
  unfold unpackItems
  refine wpAny_bind ?_
  unfold notIterableAtAll
  refine wpAny_bind (wpAny_specialOf hT hl (wpAny_pure ?_))
  simp only [Bool.false_eq_true, if_false]
  refine wpAny_bind (wpAny_holding (wpAny_mono (hI A F ρ s u hA S ru) (fun it s₁ hx => ?_) fun _ _ x => x))
  obtain ⟨I, fp, St, e, IT, hSt, hk, hg, ho, hf⟩ := hx
  subst e
  have S₁ : HSim w KF F ρ H s₁.heap s₁.gens := by rw [hg]; exact S.keeps hk
  have hfp : ∀ b ∈ fp, F b = none ∧ b ∉ fps ρ := fun b hb => by
    refine ⟨?_, fun q => ?_⟩
    · cases q : F b with
      | none => rfl
      | some o => have := S.keep _ _ q; rw [hf b hb] at this; cases this
    · obtain ⟨o, hx⟩ := S.live b q; rw [hf b hb] at hx; cases hx
  refine wpAny_bind (wpAny_holding (wpAny_mono (draw_iter IT hA.hd hG hfp xs.length 0 s₁ (by omega) S₁ hSt) (fun us s₂ ⟨rus, st₂, c₂⟩ => ?_) fun _ _ x => x))
  rw [List.drop_zero] at rus
  have S₂ := S₁.chg hfp c₂
  rw [if_neg (by rw [rus.len]; omega)]
  refine wpAny_bind (wpAny_holding (wpAny_mono (IT.done A F ρ H s₂ _ hA.hd S₂ hG st₂) (fun r s₃ ⟨e, c₃⟩ => ?_) fun _ _ x => x))
  subst e
  simp only [Option.isSome_none, Bool.false_eq_true, if_false]
  refine wpAny_pure ⟨ρ, H, xs, ((Step.same (.of_keep hk) ho (by rw [hg]; exact Nat.le_refl _)).trans c₂.step).trans c₃.step, S₂.chg hfp c₃, rus.mono (List.prefix_refl _) c₃.2.2.1, h⟩
theorem hi_tup {xs : List V} : HasIter w KF H (.tup xs) := fun F ρ s u S r => by
  obtain ⟨a, vs, rfl, ht, _⟩ := r.tup_eq
  exact ⟨"tuple", _, ht.typeIs, PySem.F.slot_tuple_iter.lookup⟩
theorem unp_tup {n : Nat} {xs : List V} {Q : List V → List O → Prop} (hn : n = xs.length) (h : Q xs H) : W1 prog w KF d E VRs H (fun u => unpackItems u n none) (.tup xs) Q := by
  subst hn; exact unpack_iter iw_tup trivial hi_tup h
end
end Mine
end
section
open PySem PySem.W PyProof.Rows PySem.W.X PySem.SeqAt
namespace Mine
section
variable {prog : Program} {w : World} {KF : Frag} {fi : FI} {d : Nat} {E : EP} {m : Names} {H : List O}
/-- a comprehension that leaves the heap alone -/
theorem comp_pure {elt target : Expr} {ifs : List Expr} {sc' : Scope} {v : V} {Q : List V → List O → Prop} {xs : List V} {G : List O → Prop} (b : V → Bool) (f : V → V) (hI : IterW prog w KF d (Em E m) H v xs G) (hG : G H) (hsz : xs.length ≤ sizeLine)
    (h : ∀ x ∈ xs, WA prog w KF (ci sc' fi) d E (locN sc' ++ m) H target x fun m₂ H₂ => H₂ = H ∧ WTs prog w KF (ci sc' fi) d E m₂ H ifs fun r H₃ => H₃ = H ∧ r = b x ∧ (b x = true → WE prog w KF (ci sc' fi) d E m₂ H elt fun y H₄ => H₄ = H ∧ y = f x))
    (hQ : Q ((xs.filter b).map f) H) : CompW prog w KF fi d E m H elt target ifs sc' v Q := by
  refine ⟨xs, G, hI, hsz, fun i ys H' => H' = H ∧ ys = ((xs.take i).filter b).map f, ⟨rfl, by simp⟩, ?_, ?_, ?_⟩
  · rintro i ys H' ⟨rfl, rfl⟩
    refine ⟨hG, ?_⟩
    rw [List.length_map]
    exact Nat.le_trans (List.length_filter_le _ _) (by rw [List.length_take]; exact Nat.min_le_left _ _)
  · rintro i x ys H' hx ⟨rfl, rfl⟩
    have hx' := h x (List.mem_of_getElem? hx)
    have e : (xs.take (i + 1)).filter b = (xs.take i).filter b ++ (if b x = true then [x] else []) := by
      rw [List.take_add_one, hx, List.filter_append]
      cases q : b x <;> simp [q]
    refine fun A env F ρ s u hA S r => wpAny_mono (hx' A env F ρ s u hA S r) (fun _ s' ⟨ρ', H₂, m', st, S', e2, h2⟩ => ⟨ρ', H₂, m', st, S', ?_⟩) fun _ _ z => z
    subst e2
    have fin : ∀ (r : Bool) H₃, (H₃ = H₂ ∧ r = b x ∧ (b x = true → WE prog w KF (ci sc' fi) d E m' H₂ elt fun y H₄ => H₄ = H₂ ∧ y = f x)) →
        (if r = true then WE prog w KF (ci sc' fi) d E m' H₃ elt fun y H₄ => H₄ = H₂ ∧ List.map f ((xs.take i).filter b) ++ [y] = ((xs.take (i + 1)).filter b).map f else H₃ = H₂ ∧ ((xs.take i).filter b).map f = ((xs.take (i + 1)).filter b).map f) := by
      rintro r H₃ ⟨rfl, rfl, hw⟩
      cases q : b x with
      | true =>
        refine (hw q).mono fun y H₄ ⟨e3, e4⟩ => ⟨e3, ?_⟩
        rw [e, if_pos q, e4]
        simp
      | false => exact ⟨rfl, by rw [e, if_neg (by rw [q]; decide), List.append_nil]⟩
    match ifs, h2 with
    | [], h2 => exact fin true _ h2
    | [c], h2 => exact fun A env F ρ s hA S => wpAny_mono (h2 A env F ρ s hA S) (fun r s' ⟨ρ', H₃, bb, st, S', rb, hq⟩ => ⟨ρ', H₃, bb, st, S', rb, fin bb H₃ hq⟩) fun _ _ z => z
    | _ :: _ :: _, h2 => exact h2
  · rintro ys H' ⟨rfl, rfl⟩
    rw [List.take_length]
    exact hQ
noncomputable def clipN (v : Option Int) (dflt n : Nat) : Nat := match v with
  | none => dflt
  | some i => (max 0 (min (if i < 0 then i + n else i) (n : Int))).toNat
theorem picks_run {α : Type} (xs : List α) : ∀ (k a : Nat), a + k ≤ xs.length → ((List.range k).map fun j => a + j).filterMap (xs[·]?) = (xs.drop a).take k
  | 0, a, _ => by simp
  | k + 1, a, h => by
    rw [List.range_succ, List.map_append, List.filterMap_append, picks_run xs k a (by omega)]
    have hk : a + k < xs.length := by omega
    simp only [List.map_cons, List.map_nil, List.filterMap_cons, List.getElem?_eq_getElem hk, List.filterMap_nil]
    rw [List.take_add_one, List.getElem?_drop, List.getElem?_eq_getElem hk]
    rfl
theorem clip_le {hi : Option Int} {n : Nat} : clipN hi n n ≤ n := by
  unfold clipN
  cases hi with
  | none => exact Nat.le_refl _
  | some i => exact Int.toNat_le.mpr (Int.max_le.mpr ⟨Int.natCast_nonneg _, Int.min_le_right _ _⟩)
theorem idx_plain (lo hi : Option Int) (n : Nat) : sliceRange (sliceBounds lo hi none n).1 (sliceBounds lo hi none n).2.1 (sliceBounds lo hi none n).2.2 = (List.range (clipN hi n n - clipN lo 0 n)).map fun k => clipN lo 0 n + k := by
  have hb : sliceBounds lo hi none n = (((clipN lo 0 n : Nat) : Int), ((clipN hi n n : Nat) : Int), 1) := by
    unfold sliceBounds clipN
    cases lo <;> cases hi <;> simp <;> omega
  rw [hb]
  unfold sliceRange
  simp only
  rw [if_pos (show (1 : Int) > 0 by decide)]
  generalize clipN hi n n = b
  generalize clipN lo 0 n = a
  by_cases h : a < b
  · rw [if_pos (by omega)]
    have e : (((b : Int) - a + 1 - 1) / 1).toNat = b - a := by rw [Int.ediv_one]; omega
    rw [e]
    have e2 : (fun k : Nat => ((a : Int) + 1 * (k : Int)).toNat) = fun k => a + k := funext fun k => by omega
    rw [e2]
  · rw [if_neg (by omega), show b - a = 0 by omega]
    rfl
theorem pick_plain {α : Type} (xs : List α) (lo hi : Option Int) : pick xs lo hi none = (xs.drop (clipN lo 0 xs.length)).take (clipN hi xs.length xs.length - clipN lo 0 xs.length) := by
  unfold pick
  rw [idx_plain]
  by_cases h : clipN lo 0 xs.length ≤ clipN hi xs.length xs.length
  · exact picks_run xs _ _ (by have := clip_le (hi := hi) (n := xs.length); omega)
  · rw [Nat.sub_eq_zero_of_le (Nat.le_of_not_le h)]
    rfl
theorem clip_nat (k d n : Nat) : clipN (some (k : Int)) d n = min k n := by
  unfold clipN
  simp only
  rw [if_neg (Int.not_lt.mpr (Int.natCast_nonneg k)), show min (k : Int) (n : Int) = ((min k n : Nat) : Int) from ?_, Int.max_eq_right (Int.natCast_nonneg _), Int.toNat_natCast]
  rcases Nat.le_total k n with h | h
  · rw [Nat.min_eq_left h, Int.min_eq_left (Int.ofNat_le.mpr h)]
  · rw [Nat.min_eq_right h, Int.min_eq_right (Int.ofNat_le.mpr h)]
theorem pick_upto {α : Type} (xs : List α) (k : Nat) : pick xs none (some (k : Int)) none = xs.take k := by
  rw [pick_plain, clip_nat, show clipN none 0 xs.length = 0 from rfl, List.drop_zero, Nat.sub_zero, ← List.take_eq_take_min]
theorem weo_none {Q : V → List O → Prop} (h : Q .none H) : WEo prog w KF d fi E m H none Q := h
theorem weo_some {e : Expr} {Q : V → List O → Prop} (h : WE prog w KF fi d E m H e Q) : WEo prog w KF d fi E m H (some e) Q := h
/-- the text of these signs -/
noncomputable def S (l : List Nat) : Str := ⟨l.toArray⟩
end
section
variable {prog : Program} {w : World} {KF : Frag} {d : Nat} {E : HEP} {H : List O} {Q : V → List O → Prop}
theorem iw_range0 {n : Nat} (hn : n < 2 ^ 61) : IterW prog w KF d E H (.rng 0 (n : Nat)) ((List.range n).map fun i => V.int (i : Nat)) (fun _ => True) := by
  have := iw_range (prog := prog) (w := w) (KF := KF) (d := d) (E := E) (H := H) (a := 0) (b := (n : Nat)) ⟨by omega, by omega⟩ ⟨by omega, by omega⟩
  have e : ((n : Int) - 0).toNat = n := by omega
  rw [e] at this
  have e2 : (fun i : Nat => V.int (0 + (i : Int))) = fun i : Nat => V.int (i : Int) := funext fun i => by rw [Int.zero_add]
  rw [e2] at this
  exact this
end
end Mine
end
section
open PySem PySem.W PyProof.Rows PySem.W.X
namespace Mine
/-- an iterator over a text -/
noncomputable def StrIt (h : Heap) (I : Nat) (x : Str) (t : Tok) (i : Nat) : Prop := h.IsStrIter I "str_ascii_iterator" x t i ∨ h.IsStrIter I "str_iterator" x t i
section
variable {prog : Program} {w : World} {A : Around} {E : Value → Shared → Prop} {s : Shared}
end
end Mine
end
section
open PySem PySem.W PyProof.Rows PySem.W.X PySem.SeqAt
namespace Mine
section
variable {prog : Program} {w : World} {KF : Frag} {A : Around} {E : Value → Shared → Prop} {s : Shared}
theorem HSim.gens {F : Base} {ρ : List Ent} {H : List O} {h : Heap} {gs gs' : Array GenState} (S : HSim w KF F ρ H h gs) (hb : ∀ x ∈ gs', x.bare = true) (hp : ∀ e ∈ ρ, e.fp ≠ [] → ∀ x c, e.g = some x → gs[x.1]? = some (.fresh c) → gs'[x.1]? = some (.fresh c)) (hz : gs.size ≤ gs'.size) : HSim w KF F ρ H h gs' := ⟨S.bs, S.keep, S.len, S.ob, S.live, S.nd, S.off, S.gn, hb, fun i e o hi ho => by
  have := S.gf i e o hi ho
  cases o with
  | fresh fi body m => obtain ⟨g, env, h1, h2⟩ := this; obtain ⟨_, _, _, hf, _⟩ := S.ob i e _ hi ho; exact ⟨g, env, h1, hp e (List.mem_of_getElem? hi) (by rw [hf]; exact List.cons_ne_nil _ _) _ _ h1 h2⟩
  | gone => exact fun x hx => Nat.lt_of_lt_of_le (this x hx) hz
  | _ => trivial⟩
end
end Mine
end
section
open PySem PySem.W PyProof.Rows PySem.W.X PySem.SeqAt
namespace Mine
noncomputable abbrev noE : EP := fun _ _ _ => False
section
variable {prog : Program} {w : World} {KF : Frag} {fi : FI} {d : Nat} {E : EP} {m : Names} {H : List O}
end
end Mine
end
section
open PySem PySem.W PyProof.Rows PySem.W.X PySem.SeqAt
namespace Mine
/-- a sign kept: c where the tag is a blank and c is white, else the tag -/
noncomputable def kept (c d : Nat) : Str := if ((⟨#[d]⟩ : Str) == " ") = true then (if Txt.isspace ⟨#[c]⟩ = true then ⟨#[c]⟩ else ⟨#[d]⟩) else ⟨#[d]⟩
section
variable {prog : Program} {w : World}
end
end Mine
end
section
open PySem PySem.W PyProof.Rows PySem.W.X PySem.SeqAt
namespace Mine
noncomputable abbrev listO (acc : Array Value) (c : Nat) : Obj := { cls := .type "list", dict := none, data := .seq acc c, slots := #[] }
section
variable {prog : Program} {w : World} {A : Around} {I S n : Nat} {P : Nat → Value → Prop} {St : Nat → Shared → Prop} {Fn : Shared → Prop}
end
end Mine
end
section
open PySem PySem.W PyProof.Rows PySem.W.X PySem.SeqAt
namespace Mine
theorem Sim.gens {w : World} {KF : Frag} {fi : FI} {env : Env} {m : Names} {F : Base} {ρ : List Ent} {H : List O} {h : Heap} {gs gs' : Array GenState} (S : Sim w KF fi env m F ρ H h gs) (hb : ∀ x ∈ gs', x.bare = true) (hp : ∀ e ∈ ρ, e.fp ≠ [] → ∀ x c, e.g = some x → gs[x.1]? = some (.fresh c) → gs'[x.1]? = some (.fresh c)) (hz : gs.size ≤ gs'.size) : Sim w KF fi env m F ρ H h gs' :=
  ⟨S.hs.gens hb hp hz, S.es, S.eg, S.eb, S.ec, S.ek, S.lo, S.ns, S.cl, S.ce, S.cn, S.cu, S.cd, S.cf⟩
/-- what is fixed while a generator is drawn: its frame, the base, the generator object a (number g), the list S -/
structure GX where
  w : World
  KF : Frag
  fi : FI
  env : Env
  F : Base
  a : Nat
  g : Nat
  S : Nat
  ρI : List Ent
  sI : Shared
/-- the state between two steps of the generator's body -/
structure SI (X : GX) (m : Names) (H : List O) (ρ : List Ent) (s : Shared) : Prop where
  st : Step X.ρI X.sI ρ s
  sim : Sim X.w X.KF X.fi X.env m X.F ρ H s.heap s.gens
  off : FpOff X.fi X.env X.F ρ [X.S, X.a]
  ls : ∃ acc c, s.heap.get? X.S = some (listO acc c)
  gen : s.heap.IsGen X.a X.g
  gs : X.g < s.gens.size
  gx : ∀ e ∈ ρ, ∀ x, e.g = some x → x.1 ≠ X.g
  ne : X.S ≠ X.a
/-- what the drawing side may do between two steps -/
structure Lk (X : GX) (s s' : Shared) : Prop where
  old : ∀ b o, b ≠ X.S → s.heap.get? b = some o → s'.heap.get? b = some o
  ls : ∃ acc c, s'.heap.get? X.S = some (listO acc c)
  os : s'.os = s.os
  bare : ∀ z ∈ s'.gens, z.bare = true
  sz : s.gens.size ≤ s'.gens.size
  gk : ∀ k, k ≠ X.g → ∀ z, s.gens[k]? = some z → s'.gens[k]? = some z
noncomputable def SKeep (X : GX) (s s' : Shared) : Prop := ∀ o, s.heap.get? X.S = some o → s'.heap.get? X.S = some o
section
variable {X : GX} {m m' : Names} {H H' : List O} {ρ ρ' : List Ent} {s s' s'' : Shared}
end
section
variable (prog : Program) (X : GX) (xs : List Str) (Qe : List O → Prop) (A : Around) (c : Code) (d : Nat)
end
section
variable {prog : Program} {X : GX} {xs : List Str} {Qe : List O → Prop} {A : Around} {c : Code} {d n : Nat} {m : Names} {H : List O} {K : Flow → Sem Fin} {Hd : Value → Sem Fin}
end
end Mine
end
section
open PySem PySem.W PyProof.Rows PySem.W.X PySem.SeqAt
namespace Mine
section
variable {prog : Program} {w : World} {A : Around} {E : Value → Shared → Prop} {s : Shared}
end
end Mine
end
section
open PySem PySem.W PyProof.Rows PySem.W.X PySem.SeqAt
namespace Mine
theorem Room.gen {A : Around} {d : Nat} (h : Room A (d + 1)) (body : List Stmt) (env : Env) : Room (A.in1.in1.in1.over (.func body env) []) d := by
  refine ⟨h.hd, ?_, ?_⟩
  · have := h.dp
    show A.depth + 0 + 1 + 4 * d < recursionLimit
    omega
  · have := h.un
    show A.units + 1 + 1 + 1 + 0 + 3 + 40 * d + 200 < cLine
    omega
section
variable {prog : Program} {w : World} {KF : Frag} {fi : FI} {d : Nat} {E : EP} {m : Names} {H : List O}
theorem strs_rel {ρ : List Ent} {h : Heap} : ∀ {xs : List Str} {vs : List Value}, vs.length = xs.length → (∀ (j : Nat) (v : Value), vs[j]? = some v → ∃ x t, xs[j]? = some x ∧ v = Value.str x t) → VRs ρ h (xs.map V.str) vs
  | [], vs, hl, _ => by rw [List.length_eq_zero_iff.mp hl]; exact .nil
  | x :: xs, [], hl, _ => by simp at hl
  | x :: xs, v :: vs, hl, h => by
    obtain ⟨y, t, e, hv⟩ := h 0 v rfl
    cases e
    refine .cons (by rw [hv]; unfold VR; exact ⟨_, rfl⟩) (strs_rel (by simpa using hl) fun j u hj => ?_)
    simpa using h (j + 1) u (by simpa using hj)
end
end Mine
end
section
open PySem PySem.W PyProof.Rows PySem.W.X PySem.SeqAt
namespace Mine
section
variable (prog : Program) (w : World) (KF : Frag) (fi : FI) (d : Nat) (E : EP)
/-- the parts of a formatted text, one behind the other -/
noncomputable def WJ (m : Names) (H : List O) (out : Str) : List Expr → (V → List O → Prop) → Prop
  | [], Q => out.length ≤ sizeLine ∧ Q (.str out) H
  | e :: es, Q => WE prog w KF fi d E m H e fun v H₁ => ∃ y, v = .str y ∧ (out ++ y).length ≤ sizeLine ∧ WJ m H₁ (out ++ y) es Q
end
section
variable {prog : Program} {w : World} {KF : Frag} {fi : FI} {d : Nat} {E : EP} {m : Names} {H : List O}
theorem wj_run {es : List Expr} {Q : V → List O → Prop} : ∀ {H : List O} {out : Str}, WJ prog w KF fi d E m H out es Q → ∀ A env F ρ s, Room A d → Sim w KF fi env m F ρ H s.heap s.gens →
    wpAny (model prog w) A (joinParts out (evalEach es env)) (SQ w KF VR fi env m F ρ s Q) (SE w KF fi env F ρ s E) s := by
  induction es with
  | nil => exact fun h A env F ρ s hA S => joinParts_nilE (joinParts_nil ⟨ρ, _, .str _, .same (.refl _) rfl, S, by unfold VR; exact ⟨_, rfl⟩, h.2⟩ h.1)
  | cons e es ih =>
    intro H out h A env F ρ s hA S
    refine joinParts_consE (joinParts_cons (wpAny_mono ((show WE prog w KF fi d E m H e _ from h) A env F ρ s hA S) (fun u s₁ hx => ?_) fun _ _ x => x))
    obtain ⟨ρ₁, H₁, v, st₁, S₁, r, y, e, hy, h₁⟩ := hx
    subst e
    obtain ⟨t, rfl⟩ := r.str_eq
    exact ⟨hy, wpAny_mono (ih h₁ A env F ρ₁ s₁ hA S₁) (fun v s₂ ⟨ρ₂, H₂, b, st₂, S₂, rb, h₂⟩ => ⟨ρ₂, H₂, b, st₁.trans st₂, S₂, rb, h₂⟩) fun _ _ x => x.step st₁⟩
theorem we_joined {v₁ v₂ : Expr} {rest : List Expr} {pos : Pos} {Q : V → List O → Prop} (h : WJ prog w KF fi d E m H Str.empty (v₁ :: v₂ :: rest) Q) : WE prog w KF fi d E m H (.JoinedStr (v₁ :: v₂ :: rest) pos) Q :=
  fun A env F ρ s hA S => JoinedStr_many (wj_run h A env F ρ s hA S)
theorem wj_nil {out : Str} {Q : V → List O → Prop} (hz : out.length ≤ sizeLine) (h : Q (.str out) H) : WJ prog w KF fi d E m H out [] Q := ⟨hz, h⟩
theorem wj_cons {e : Expr} {es : List Expr} {out : Str} {Q : V → List O → Prop} (h : WE prog w KF fi d E m H e fun v H₁ => ∃ y, v = .str y ∧ (out ++ y).length ≤ sizeLine ∧ WJ prog w KF fi d E m H₁ (out ++ y) es Q) : WJ prog w KF fi d E m H out (e :: es) Q := h
end
end Mine
end
section
open PySem PySem.W PyProof.Rows PySem.W.X PySem.SeqAt
namespace Mine
theorem ns_some_of {K : Frag} {h : Heap} {N : Nat} {mg : Str → Option Value} {n : Str} {v : Value} (X : K.In h) (G : h.Ns N mg) (e : nsIn K N n = some (some v)) : mg n = some v := by
  obtain ⟨o, es, ep, ho, hd, _, hf⟩ := G
  unfold nsIn at e
  split at e
  · rename_i c d es' n' sl q
    have := X _ _ q
    rw [ho] at this
    cases this
    cases hd
    split at e
    · rename_i en he
      cases e
      rw [← hf]
      unfold nsFind findBy
      rw [← Array.find?_toList, he]
      rfl
    · rename_i he
      split at e <;> cases e
  · cases e
/-- a class of the text's, without bases -/
structure ClsOk (KF : Frag) (C N : Nat) : Prop where
  cl : ∃ nm q bs sn sub col dd k0 k1 k2 k3 k5, KF.lookup C = some (excClassObj nm q C N bs [.type "object"] true sn sub false col dd k0 k1 k2 k3 k5 "object.__new__")
  ns : nsOkIn KF N = true
  ga : nsIn KF N "__getattribute__" = some none
  gh : nsIn KF N "__getattr__" = some none
  sa : nsIn KF N "__setattr__" = some none
section
variable {prog : Program} {w : World} {KF : Frag} {d : Nat} {E : HEP} {H : List O}
theorem ClsOk.nsp {C N : Nat} (K : ClsOk KF C N) {h : Heap} (B : Bs w KF h) : ∃ mN, h.Ns N mN := ⟨_, .of_isNs (isNs_of_in B.k K.ns)⟩
theorem Room.cls {A : Around} {C : Nat} {rest : List Value} (h : Room A (d + 1)) : Room (A.under (.builtin "type.__call__" ⟨.ref C :: rest, []⟩)) d := by
  have hw : (Code.builtin "type.__call__" ⟨.ref C :: rest, []⟩).weight ≤ 4 := by
    unfold Code.weight
    have h1 : (Code.builtin "type.__call__" ⟨.ref C :: rest, []⟩).frames = 0 := by rfl
    have h2 : (Code.builtin "type.__call__" ⟨.ref C :: rest, []⟩).isCaller = false := by rfl
    rw [h1, h2]
    split <;> split <;> simp
  have hu : (Code.builtin "type.__call__" ⟨.ref C :: rest, []⟩).cUnits ≤ 40 := by
    have h1 : (Code.builtin "type.__call__" ⟨.ref C :: rest, []⟩).cUnits = 1 := by rfl
    rw [h1]; decide
  refine ⟨h.hd, ?_, ?_⟩
  · have := h.dp; show A.depth + (Code.builtin "type.__call__" ⟨.ref C :: rest, []⟩).weight + 4 * d < _; omega
  · have := h.un; show A.units + (Code.builtin "type.__call__" ⟨.ref C :: rest, []⟩).cUnits + 40 * d + 200 < _; omega
/-- a new instance -/
theorem new_inst {C N fI : Nat} {oI : Obj} {xs : List V} {Q : V → List O → Prop} (K : ClsOk KF C N) (hi : nsIn KF N "__init__" = some (some (.ref fI))) (hfI : KF.lookup fI = some oI) (hfc : oI.cls = .type "function")
    (h : CallW prog w KF d E (H ++ [.inst C []]) (.st fI) (.ref H.length :: xs) fun v H' => v = .none ∧ Q (.ref H.length) H') : CallW prog w KF (d + 1) E H (.st C) xs Q :=
  fun A F ρ s u us hA S ru r => by
    unfold VR at ru
    subst ru
    obtain ⟨hp, g, dr, tk, os⟩ := s
    have B : Bs w KF hp := S.b
    obtain ⟨mN, hn⟩ := K.nsp B
    obtain ⟨nm, q, bs, sn, sub, col, dd, k0, k1, k2, k3, k5, hC⟩ := K.cl
    refine wpAny_call_obj_init PySem.F.objNew (B.k _ _ hC) hn (ns_some_of B.k hn hi) (B.k _ _ hfI) hfc fun h' x dx M => ?_
    obtain ⟨o, hx, hc, hnc, hdn⟩ := M.inst
    have hod := M.dict o hx
    obtain ⟨mA, hdx, hns, hmA⟩ : ∃ mA, dx ≠ x ∧ h'.Ns1 dx mA ∧ ∀ n, mA n = none := by
      rcases hdn with ⟨e, _⟩ | ⟨d', e, hne, hn'⟩
      · rw [hod] at e; cases e
      · rw [hod] at e; cases e; exact ⟨_, hne, hn', fun _ => rfl⟩
    have d1 := S.dead M.newX
    have d2 := S.dead M.newD
    have T := (S.keeps M.keeps).adopt (a := x) (r := [dx]) (o := .inst C []) (by simp [Ne.symm hdx]) (fun b hb => by
      rcases List.mem_cons.mp hb with e | hb
      · rw [e]; exact ⟨d1.1, d1.2, o, hx⟩
      · rw [List.mem_singleton.mp hb]
        obtain ⟨od, _, _, hd, _⟩ := hns
        exact ⟨d2.1, d2.2, od, hd⟩) ⟨rfl, dx, rfl, o, mA, hx, hc, hnc, hod, hns, fun n => hmA n⟩
    have p : ρ <+: ρ ++ [⟨x, [x, dx], none⟩] := List.prefix_append _ _
    refine wpAny_mono (h _ F _ ⟨h', g, dr, tk, os⟩ (.ref fI) (.ref x :: us) hA.cls T (by unfold VR; rfl) (.cons (by unfold VR; exact ⟨_, by rw [← S.len, List.getElem?_concat_length], rfl⟩) (r.mono p (.of_keep M.keeps)))) (fun v s' ⟨ρ', H', b, st, T', rv, hb, hq⟩ => ?_) (fun _ _ ⟨_, _, _, _, _, x, _⟩ => x.elim)
    subst hb
    unfold VR at rv
    refine ⟨rv, ρ', H', _, Step.trans (s₁ := ⟨h', g, dr, tk, os⟩) (Step.add (.of_keep M.keeps) rfl) st, T', ?_, hq⟩
    unfold VR
    exact ⟨_, pre_get st.1 (by rw [← S.len, List.getElem?_concat_length]), rfl⟩
theorem fp_nodup : ∀ {ρ : List Ent} {e : Ent}, (fps ρ).Nodup → e ∈ ρ → e.fp.Nodup
  | [], _, _, h => nomatch h
  | x :: ρ, e, nd, h => by
    have nd' : (x.fp ++ fps ρ).Nodup := nd
    obtain ⟨n1, n2, _⟩ := List.nodup_append.mp nd'
    rcases List.mem_cons.mp h with rfl | h
    · exact n1
    · exact fp_nodup n2 h
theorem inst_at {F : Base} {ρ : List Ent} {h : Heap} {gs : Array GenState} {i C : Nat} {fs : List (Str × V)} {e : Ent} (S : HSim w KF F ρ H h gs) (hl : H[i]? = some (.inst C fs)) (he : ρ[i]? = some e) :
    ∃ dx o mA, e.fp = [e.a, dx] ∧ h.get? e.a = some o ∧ o.dict = some dx ∧ dx ≠ e.a ∧ h.Inst e.a C mA ∧ h.Ns1 dx mA ∧ FsR ρ h fs mA := by
  obtain ⟨g, dx, hf, o, mA, h1, h2, h3, h4, h5, h6⟩ := S.ob i e _ he hl
  have hne : dx ≠ e.a := fun q => by
    have nd := S.nd
    have : e.fp.Nodup := fp_nodup nd (List.mem_of_getElem? he)
    rw [hf, q] at this
    simp at this
  exact ⟨dx, o, mA, hf, h1, h4, hne, ⟨o, h1, h2, h3, .inr ⟨dx, h4, hne, h5⟩⟩, h5, h6⟩
theorem meth_inst {C N i f : Nat} {fs : List (Str × V)} {name : Str} {of : Obj} {y : Option Value} (K : ClsOk KF C N) (hf : nsIn KF N name = some (some (.ref f))) (hfo : KF.lookup f = some of) (hfc : of.cls = .type "function") (hB : typeLookup (.type "object") name = pure y)
    (hl : H[i]? = some (.inst C fs)) (hsh : fs.lookup name = none) : MethIs prog w KF H (.ref i) name (.st f) := fun A F ρ s u pl Q E' S r h => by
  obtain ⟨e, he, rfl⟩ := r.ref_eq
  obtain ⟨dx, o, mA, hfp, h1, h2, h3, I, hns, hfs⟩ := inst_at S hl he
  obtain ⟨hp, g, dr, tk, os⟩ := s
  have B : Bs w KF hp := S.b
  obtain ⟨mN, hn⟩ := K.nsp B
  obtain ⟨nm, q, bs, sn, sub, col, dd, k0, k1, k2, k3, k5, hC⟩ := K.cl
  refine method_of (B.k _ _ hC) hn (ns_none_of B.k hn K.ga) (ns_none_of B.k hn K.gh) (ns_some_of B.k hn hf) (B.k _ _ hfo) hfc hB I ?_ (h _ (by unfold VR; rfl))
  have := hfs name
  rw [hsh] at this
  exact this
theorem set_inst {C N i : Nat} {fs : List (Str × V)} {name : Str} {v : V} {Q : Unit → List O → Prop} (K : ClsOk KF C N) (hna : nsIn KF N name = some none) (hB : typeLookup (.type "object") name = pure none) (hl : H[i]? = some (.inst C fs)) (hsz : fs.length ≤ sizeLine)
    (h : Q () (H.set i (.inst C ((name, v) :: fs)))) : W2 prog w KF d E UnR H (fun u v => setAttr u name v) (.ref i) v Q := fun A F ρ s u x hA S ru rv => by
  obtain ⟨e, he, rfl⟩ := ru.ref_eq
  obtain ⟨dx, o, mA, hfp, h1, h2, h3, I, hns, hfs⟩ := inst_at S hl he
  obtain ⟨hp, g, dr, tk, os⟩ := s
  have B : Bs w KF hp := S.b
  obtain ⟨mN, hn⟩ := K.nsp B
  obtain ⟨nm, q, bs, sn, sub, col, dd, k0, k1, k2, k3, k5, hC⟩ := K.cl
  have hxC : e.a ≠ C := fun q => by
    obtain ⟨o', ho', _, hnc, _⟩ := I
    rw [q] at ho'
    have := B.k _ _ hC
    rw [this] at ho'
    cases ho'
    exact hnc _ rfl
  have hw : PySem.Within mA (fs.map (·.1)) := fun y hy => by
    have := hfs y
    split at this
    · rename_i z hz
      exact List.mem_map.mpr ⟨_, mem_of_lookup hz, rfl⟩
    · exact absurd this hy
  refine store_attr PySem.F.store_object (B.k _ _ hC) hn (ns_none_of B.k hn K.sa) (ns_none_of B.k hn hna) hB hxC I (fun h' tk' I' hk hsame => ?_) hw (by simpa using hsz)
  obtain ⟨o₁, ho₁, c1, c2, c3, c4⟩ := hsame o h1
  have eo : o₁ = o := by
    have c4 := c4 dx h2
    cases o₁; cases o
    simp_all
  subst eo
  obtain ⟨o', ho', hc', hnc', hd'⟩ := I'
  rw [ho₁] at ho'
  cases ho'
  obtain ⟨hdx', hns'⟩ : dx ≠ e.a ∧ h'.Ns1 dx (fun y => if y = name then some x else mA y) := by
    rcases hd' with ⟨q, _⟩ | ⟨d', q, hne, hn'⟩
    · rw [h2] at q; cases q
    · rw [h2] at q; cases q; exact ⟨hne, hn'⟩
  have keep : ∀ b o, b ≠ dx → hp.get? b = some o → h'.get? b = some o := fun b ob hb eb => by
    by_cases q : b = e.a
    · subst q; rw [h1] at eb; cases eb; exact ho₁
    · exact hk b ob q (fun o₀ d₀ g1 g2 => by rw [h1] at g1; cases g1; rw [h2] at g2; cases g2; exact hb) eb
  have tk : TK hp h' := .of_ext keep (ns_not_imm hns.ns)
  have T := S.upd (o' := .inst C ((name, v) :: fs)) he (h' := h') (fun b ob hb eb => keep b ob (fun q => hb (by rw [hfp, q]; exact .tail _ (.head _))) eb) (fun b hb => by
    rw [hfp] at hb
    rcases List.mem_cons.mp hb with q | hb
    · rw [q]; exact ⟨_, ho₁⟩
    · rw [List.mem_singleton.mp hb]
      obtain ⟨od, _, _, hd, _⟩ := hns'
      exact ⟨od, hd⟩) tk ⟨(S.ob i e _ he hl).1, dx, hfp, o₁, _, ho₁, hc', hnc', h2, hns', fun n => by
    rw [List.lookup_cons]
    by_cases q : n = name
    · rw [q, beq_self_eq_true]
      exact ⟨x, if_pos rfl, rv.mono (List.prefix_refl _) tk⟩
    · rw [show (n == name) = false by simpa using q]
      have := hfs.mono (List.prefix_refl _) tk n
      show match fs.lookup n with | some v => ∃ u, (if n = name then some x else mA n) = some u ∧ VR ρ h' v u | none => (if n = name then some x else mA n) = none
      rw [if_neg q]
      exact this⟩
  exact ⟨ρ, _, (), .same tk rfl, T, trivial, h⟩
end
end Mine
end
section
open PySem PySem.W PyProof.Rows PySem.W.X PySem.SeqAt
namespace Mine
section
variable {prog : Program} {w : World} {KF : Frag} {d : Nat} {E : HEP} {H : List O} {Q : V → List O → Prop}
-- membership
theorem ints_of {ρ : List Ent} {h : Heap} : ∀ {ys : List Int} {us : List Value}, VRs ρ h (ys.map V.int) us → IntsAre us ys
  | [], us, r => by rw [r.nil_eq]; exact .nil
  | y :: ys, us, r => by
    obtain ⟨v, q, rfl, a, b⟩ := r.cons_eq
    obtain ⟨t, rfl⟩ := a.int_eq
    exact .cons y t (ints_of b)
section
variable {k : Nat} {xs ys : List V} {e : V → V → Bool} {A : Around} {F : Base} {ρ : List Ent} {s : Shared} {vs us : List Value}
noncomputable def AllEq (w : World) (KF : Frag) (H : List O) (k : Nat) (xs ys : List V) (e : V → V → Bool) : Prop := ∀ (j : Nat) (x y : V), xs[j]? = some x → ys[j]? = some y → EqV w KF H k x y (e x y)
theorem items_eqP (S : HSim w KF F ρ H s.heap s.gens) (hu : A.units + k < cLine) (p2 : VRs ρ s.heap xs vs) (q2 : VRs ρ s.heap ys us) (he : AllEq w KF H k xs ys e) (j : Nat) (h1 : j < vs.toArray.size) (h2 : j < us.toArray.size) :
    EqAt A s vs.toArray[j] us.toArray[j] (atB xs ys e j) ∧ (vs.toArray[j] = us.toArray[j] → atB xs ys e j = true) := by
  rw [List.size_toArray] at h1 h2
  obtain ⟨x, hx, rx⟩ := p2.get' (List.getElem?_eq_getElem h1)
  obtain ⟨y, hy, ry⟩ := q2.get' (List.getElem?_eq_getElem h2)
  have z := he j x y hx hy A F ρ s _ _ hu S rx ry
  unfold atB
  rw [hx, hy]
  exact ⟨z.eq, z.same⟩
theorem items_sameP (S : HSim w KF F ρ H s.heap s.gens) (hu : A.units + k < cLine) (p2 : VRs ρ s.heap xs vs) (q2 : VRs ρ s.heap ys vs) (he : AllEq w KF H k xs ys e) : allB xs ys e = true := by
  unfold allB
  rw [← p2.len, ← q2.len, beq_self_eq_true, Bool.true_and, List.all_eq_true]
  intro j hj
  have hj' : j < vs.toArray.size := by rw [List.size_toArray]; exact List.mem_range.mp hj
  exact (items_eqP S hu p2 q2 he j hj' hj').2 rfl
end
theorem eqv_listP {k l r : Nat} {xs ys : List V} {e : V → V → Bool} (hl : H[l]? = some (.list xs)) (hr : H[r]? = some (.list ys)) (he : AllEq w KF H k xs ys e) : EqV w KF H (k + 1) (.ref l) (.ref r) (allB xs ys e) := fun A F ρ s u v hu S ru rv => by
  obtain ⟨a, ha, rfl⟩ := ru.ref_eq
  obtain ⟨b, hb, rfl⟩ := rv.ref_eq
  obtain ⟨f1, _, vs, p1, p2⟩ := S.ob l a _ ha hl
  obtain ⟨f2, _, us, q1, q2⟩ := S.ob r b _ hb hr
  have hu1 : A.in1.units + k < cLine := by show A.units + 1 + k < cLine; omega
  have sm : Value.ref a.a = .ref b.a → allB xs ys e = true := fun q => by
    have e1 : a.a = b.a := by injection q
    have hlr : l = r := Decidable.byContradiction fun hne => fps_apart S.nd ha hb hne (b := a.a) (by rw [f1]; exact .head _) (by rw [f2, e1]; exact .head _)
    subst hlr
    rw [hl] at hr
    cases hr
    rw [ha] at hb
    cases hb
    exact items_sameP (A := A.in1) S hu1 p2 p2 he
  have rc : RcAt A s (.ref a.a) (.ref b.a) (allB xs ys e) ∧ RcNeAt A s (.ref a.a) (.ref b.a) (!allB xs ys e) := by
    by_cases hlen : xs.length = ys.length
    · have h1 : vs.toArray.size = us.toArray.size := by rw [List.size_toArray, List.size_toArray, p2.len, q2.len, hlen]
      rw [allB_eq (s := s) p2 hlen]
      exact ⟨RcAt.lists p1.isList q1.isList h1 (by omega) fun j h1 h2 => (items_eqP (A := A.in1) S hu1 p2 q2 he j h1 h2).1, RcNeAt.lists p1.isList q1.isList h1 (by omega) fun j h1 h2 => (items_eqP (A := A.in1) S hu1 p2 q2 he j h1 h2).1⟩
    · rw [allB_ne hlen]
      have hs : (vs.toArray.size != us.toArray.size) = true := by rw [List.size_toArray, List.size_toArray, p2.len, q2.len]; simpa using hlen
      exact ⟨RcAt.lists_lengths p1.isList q1.isList hs (by omega), RcNeAt.lists_lengths p1.isList q1.isList hs (by omega)⟩
  exact ⟨rc.1, rc.2, eqAt_of rc.1 (fun _ _ q => nomatch q) sm, sm⟩
end
end Mine
end
section
open PySem PySem.W PyProof.Rows PySem.W.X PySem.SeqAt
namespace Mine
end Mine
end
section
open PySem PySem.W PyProof.Rows PySem.W.X PySem.SeqAt
namespace Mine
section
variable {prog : Program} {w : World} {KF : Frag} {fi : FI} {d : Nat} {E : EP} {m : Names} {H : List O}
/-- one target, its kind asked of the frame -/
theorem ws_assignE {t value : Expr} {pos : Pos} {Q : Fl → Names → List O → Prop} (h : WE prog w KF fi d E m H value fun v H₁ => WA prog w KF fi d E m H₁ t v fun m₂ H₂ => Q .next m₂ H₂)
    (hs : ∀ env, env.scope = fi.sc → swapsWithSole [t] value pos.line env = pure false) (hw : ∀ env, swappedStores [t] value env = pure none := by intro _; rfl) (he : ∀ env, assignEach [t] env = [(false, assign t env)] := by intro _; rfl) : WS prog w KF fi d E m H (.Assign [t] value pos) Q :=
  fun A env F ρ s hA S => by
    refine wpAny_Assign_stores (wpAny_mono (h A env F ρ s hA S) (fun u s₁ ⟨ρ₁, H₁, v, st₁, S₁, r, h₁⟩ => ?_) fun _ _ x => x) (hs env S.es) (hw env)
    rw [he env]
    show wpAny _ A (assign t env u) _ _ _
    exact onto st₁ (h₁ A env F ρ₁ s₁ u hA S₁ r) fun _ s₂ ⟨ρ₂, H₂, m₂, st₂, S₂, h₂⟩ => ⟨ρ₂, H₂, m₂, .next, st₁.trans st₂, S₂, rfl, h₂⟩
theorem swaps_cell {x : Str} {py pos : Pos} {elt : Expr} {gens : List Comprehension} {sc' : Scope} {l : Nat} (hk : (fi.sc.names.lookup x == some .local) = false) (env : Env) (he : env.scope = fi.sc) : swapsWithSole [.Name x py] (.ListComp elt gens sc' pos) l env = pure false := by
  show (pure (env.blockKind == .function && env.kindOf x == some .local && py.line == pos.line && !(sc'.names.any fun (n, k) => n == x && (k == .local || k == .cell))) : Sem Bool) = _
  unfold Env.kindOf
  rw [he, hk, Bool.and_false, Bool.false_and, Bool.false_and]
end
end Mine
end
section
open PySem PySem.W PyProof.Rows PySem.W.X PySem.SeqAt
namespace Mine
-- arguments, one by one
theorem args1 {us : List Value} (h : us.length = 1) : ∃ a, us = [a] := List.length_eq_one_iff.mp h
theorem args2 {us : List Value} (h : us.length = 2) : ∃ a0 a1, us = [a0, a1] := by
  cases us with
  | nil => cases h
  | cons a us =>
    obtain ⟨b0, e⟩ := args1 (Nat.succ.inj h)
    exact ⟨a, b0, by rw [e]⟩
theorem args3 {us : List Value} (h : us.length = 3) : ∃ a0 a1 a2, us = [a0, a1, a2] := by
  cases us with
  | nil => cases h
  | cons a us =>
    obtain ⟨b0, b1, e⟩ := args2 (Nat.succ.inj h)
    exact ⟨a, b0, b1, by rw [e]⟩
theorem args4 {us : List Value} (h : us.length = 4) : ∃ a0 a1 a2 a3, us = [a0, a1, a2, a3] := by
  cases us with
  | nil => cases h
  | cons a us =>
    obtain ⟨b0, b1, b2, e⟩ := args3 (Nat.succ.inj h)
    exact ⟨a, b0, b1, b2, by rw [e]⟩
theorem args5 {us : List Value} (h : us.length = 5) : ∃ a0 a1 a2 a3 a4, us = [a0, a1, a2, a3, a4] := by
  cases us with
  | nil => cases h
  | cons a us =>
    obtain ⟨b0, b1, b2, b3, e⟩ := args4 (Nat.succ.inj h)
    exact ⟨a, b0, b1, b2, b3, by rw [e]⟩
theorem args6 {us : List Value} (h : us.length = 6) : ∃ a0 a1 a2 a3 a4 a5, us = [a0, a1, a2, a3, a4, a5] := by
  cases us with
  | nil => cases h
  | cons a us =>
    obtain ⟨b0, b1, b2, b3, b4, e⟩ := args5 (Nat.succ.inj h)
    exact ⟨a, b0, b1, b2, b3, b4, by rw [e]⟩
theorem args7 {us : List Value} (h : us.length = 7) : ∃ a0 a1 a2 a3 a4 a5 a6, us = [a0, a1, a2, a3, a4, a5, a6] := by
  cases us with
  | nil => cases h
  | cons a us =>
    obtain ⟨b0, b1, b2, b3, b4, b5, e⟩ := args6 (Nat.succ.inj h)
    exact ⟨a, b0, b1, b2, b3, b4, b5, by rw [e]⟩
/-! the walk's rules with their continuations by name: terms stay small -/
section
variable (prog : Program) (w : World) (KF : Frag) (fi : FI) (d : Nat) (E : EP) (m : Names)
noncomputable abbrev KB2 (op : Operator) (a : V) (Q : V → List O → Prop) : V → List O → Prop := fun b H => W2 prog w KF d (Em E m) VR H (binaryOp op) a b Q
noncomputable abbrev KB1 (op : Operator) (r : Expr) (Q : V → List O → Prop) : V → List O → Prop := fun a H => WE prog w KF fi d E m H r (KB2 prog w KF d E m op a Q)
noncomputable abbrev KU (op : UnaryOp) (Q : V → List O → Prop) : V → List O → Prop := fun a H => W1 prog w KF d (Em E m) VR H (unaryOp op) a Q
noncomputable abbrev KC2 (op : CmpOp) (a : V) (Q : V → List O → Prop) : V → List O → Prop := fun b H => W2 prog w KF d (Em E m) VR H (compareOp op) a b Q
noncomputable abbrev KC1 (op : CmpOp) (r : Expr) (Q : V → List O → Prop) : V → List O → Prop := fun a H => WE prog w KF fi d E m H r (KC2 prog w KF d E m op a Q)
noncomputable abbrev KT (Q : Bool → List O → Prop) : V → List O → Prop := fun c H => W1 prog w KF d (Em E m) EqR H truthy c Q
noncomputable abbrev KN (Q : Bool → List O → Prop) : Bool → List O → Prop := fun b H => Q (!b) H
noncomputable abbrev KAnd (y : Expr) (r : List Expr) (pos : Pos) (Q : Bool → List O → Prop) : Bool → List O → Prop := fun b H => if b = true then WT prog w KF fi d E m H (.BoolOp .And (y :: r) pos) Q else Q false H
noncomputable abbrev KOr (y : Expr) (r : List Expr) (pos : Pos) (Q : Bool → List O → Prop) : Bool → List O → Prop := fun b H => if b = true then Q true H else WT prog w KF fi d E m H (.BoolOp .Or (y :: r) pos) Q
noncomputable abbrev KIf (x y : Expr) (Q : V → List O → Prop) : Bool → List O → Prop := fun b H => if b = true then WE prog w KF fi d E m H x Q else WE prog w KF fi d E m H y Q
noncomputable abbrev KL (Q : V → List O → Prop) : List V → List O → Prop := fun vs H => vs.length ≤ sizeLine ∧ Q (.ref H.length) (H ++ [.list vs])
noncomputable abbrev KTu (Q : V → List O → Prop) : List V → List O → Prop := fun vs H => vs.length ≤ sizeLine ∧ Q (.tup vs) H
noncomputable abbrev KE2 (v : V) (Q : List V → List O → Prop) : List V → List O → Prop := fun vs H => Q (v :: vs) H
noncomputable abbrev KE1 (es : List Expr) (Q : List V → List O → Prop) : V → List O → Prop := fun v H => WEs prog w KF fi d E m H es (KE2 v Q)
noncomputable abbrev KCa2 (f : V) (Q : V → List O → Prop) : List V → List O → Prop := fun vs H => CallW prog w KF d (Em E m) H f vs Q
noncomputable abbrev KCa (args : List Expr) (Q : V → List O → Prop) : V → List O → Prop := fun f H => Callee KF f ∧ WEs prog w KF fi d E m H args (KCa2 prog w KF d E m f Q)
noncomputable abbrev KMe2 (f x : V) (Q : V → List O → Prop) : List V → List O → Prop := fun vs H => CallW prog w KF d (Em E m) H f (x :: vs) Q
noncomputable abbrev KMe (name : Str) (args : List Expr) (Q : V → List O → Prop) : V → List O → Prop := fun x H => ∃ f, MethIs prog w KF H x name f ∧ Callee KF f ∧ WEs prog w KF fi d E m H args (KMe2 prog w KF d E m f x Q)
noncomputable abbrev KS2 (o : V) (Q : V → List O → Prop) : V → List O → Prop := fun i H => W2 prog w KF d (Em E m) VR H subOp o i Q
noncomputable abbrev KS1 (slice : Expr) (Q : V → List O → Prop) : V → List O → Prop := fun o H => WE prog w KF fi d E m H slice (KS2 prog w KF d E m o Q)
noncomputable abbrev KSl4 (o lv uv : V) (Q : V → List O → Prop) : V → List O → Prop := fun kv H => SliceW prog w KF d (Em E m) H o lv uv kv Q
noncomputable abbrev KSl3 (k : Option Expr) (o lv : V) (Q : V → List O → Prop) : V → List O → Prop := fun uv H => WEo prog w KF d fi E m H k (KSl4 prog w KF d E m o lv uv Q)
noncomputable abbrev KSl2 (u k : Option Expr) (o : V) (Q : V → List O → Prop) : V → List O → Prop := fun lv H => WEo prog w KF d fi E m H u (KSl3 prog w KF fi d E m k o lv Q)
noncomputable abbrev KSl1 (l u k : Option Expr) (Q : V → List O → Prop) : V → List O → Prop := fun o H => WEo prog w KF d fi E m H l (KSl2 prog w KF fi d E m u k o Q)
noncomputable abbrev KM (Q : Names → List O → Prop) : Unit → List O → Prop := fun _ H => Q m H
noncomputable abbrev KA2 (ov v : V) (Q : Names → List O → Prop) : V → List O → Prop := fun iv H => W3 prog w KF d (Em E m) UnR H setItem ov iv v (KM m Q)
noncomputable abbrev KA1 (i : Expr) (v : V) (Q : Names → List O → Prop) : V → List O → Prop := fun ov H => WE prog w KF fi d E m H i (KA2 prog w KF d E m ov v Q)
noncomputable abbrev KAt (attr : Str) (v : V) (Q : Names → List O → Prop) : V → List O → Prop := fun ov H => W2 prog w KF d (Em E m) UnR H (fun u v => setAttr u attr v) ov v (KM m Q)
noncomputable abbrev KWt (es : List Expr) (Q : Names → List O → Prop) : List V → List O → Prop := fun vs H => WAs prog w KF fi d E m H es vs Q
noncomputable abbrev KNx (Q : Fl → Names → List O → Prop) : Names → List O → Prop := fun m H => Q .next m H
noncomputable abbrev KAs (t : Expr) (Q : Fl → Names → List O → Prop) : V → List O → Prop := fun v H => WA prog w KF fi d E m H t v (KNx Q)
noncomputable abbrev KAs3 (t' : Expr) (v : V) (Q : Fl → Names → List O → Prop) : Names → List O → Prop := fun m H => WA prog w KF fi d E m H t' v (KNx Q)
noncomputable abbrev KAs2 (t t' : Expr) (Q : Fl → Names → List O → Prop) : V → List O → Prop := fun v H => WA prog w KF fi d E m H t v (KAs3 prog w KF fi d E t' v Q)
noncomputable abbrev KAu2 (x : Str) (Q : Fl → Names → List O → Prop) : V → List O → Prop := fun c H => Q .next (setL m x c) H
noncomputable abbrev KAu (op : Operator) (a : V) (x : Str) (Q : Fl → Names → List O → Prop) : V → List O → Prop := fun b H => W2 prog w KF d (Em E m) VR H (inplaceOp op) a b (KAu2 m x Q)
noncomputable abbrev KMn (Q : Fl → Names → List O → Prop) : Unit → List O → Prop := fun _ H => Q .next m H
noncomputable abbrev KG5 (ov iv : V) (Q : Fl → Names → List O → Prop) : V → List O → Prop := fun c H => W3 prog w KF d (Em E m) UnR H setItem ov iv c (KMn m Q)
noncomputable abbrev KG4 (op : Operator) (ov iv a : V) (Q : Fl → Names → List O → Prop) : V → List O → Prop := fun b H => W2 prog w KF d (Em E m) VR H (inplaceOp op) a b (KG5 prog w KF d E m ov iv Q)
noncomputable abbrev KG3 (op : Operator) (value : Expr) (ov iv : V) (Q : Fl → Names → List O → Prop) : V → List O → Prop := fun a H => WE prog w KF fi d E m H value (KG4 prog w KF d E m op ov iv a Q)
noncomputable abbrev KG2 (op : Operator) (value : Expr) (ov : V) (Q : Fl → Names → List O → Prop) : V → List O → Prop := fun iv H => W2 prog w KF d (Em E m) VR H getItem ov iv (KG3 prog w KF fi d E m op value ov iv Q)
noncomputable abbrev KG1 (op : Operator) (i value : Expr) (Q : Fl → Names → List O → Prop) : V → List O → Prop := fun ov H => WE prog w KF fi d E m H i (KG2 prog w KF fi d E m op value ov Q)
noncomputable abbrev KSi (x y : List Stmt) (Q : Fl → Names → List O → Prop) : Bool → List O → Prop := fun b H => if b = true then WB prog w KF fi d E m H x Q else WB prog w KF fi d E m H y Q
noncomputable abbrev KRe (Q : Fl → Names → List O → Prop) : V → List O → Prop := fun v H => Q (.ret v) m H
noncomputable abbrev KEx (Q : Fl → Names → List O → Prop) : V → List O → Prop := fun _ H => Q .next m H
noncomputable abbrev KSeq (rest : List Stmt) (Q : Fl → Names → List O → Prop) : Fl → Names → List O → Prop := fun f m H => match f with | .next => WB prog w KF fi d E m H rest Q | f => Q f m H
noncomputable abbrev KFor (J : Nat → Names → List O → Prop) (i : Nat) (Q : Fl → Names → List O → Prop) : Fl → Names → List O → Prop := fun f m H => match f with | .next | .cont => J (i + 1) m H | .brk => Q .next m H | .ret v => Q (.ret v) m H
noncomputable abbrev KFn (Q : V → List O → Prop) : Fl → Names → List O → Prop := fun f _ H => match f with | .ret v => Q v H | .next => Q .none H | _ => False
end
section
variable {prog : Program} {w : World} {KF : Frag} {fi : FI} {d : Nat} {E : EP} {m : Names} {H : List O}
theorem wd_bin {l r : Expr} {op : Operator} {pos : Pos} {Q : V → List O → Prop} (h : WE prog w KF fi d E m H l (KB1 prog w KF fi d E m op r Q)) : WE prog w KF fi d E m H (.BinOp l op r pos) Q := we_bin h
theorem wd_cmp {l r : Expr} {op : CmpOp} {pos : Pos} {Q : V → List O → Prop} (h : WE prog w KF fi d E m H l (KC1 prog w KF fi d E m op r Q)) (hm : behindInMarks op r = false := by with_unfolding_all rfl) : WE prog w KF fi d E m H (.Compare l [op] [r] pos) Q := we_cmp h hm
theorem wdt_cmp {l r : Expr} {op : CmpOp} {pos : Pos} {Q : Bool → List O → Prop} (h : WE prog w KF fi d E m H l (KC1 prog w KF fi d E m op r (KT prog w KF d E m Q))) (hm : behindInMarks op r = false := by with_unfolding_all rfl) : WT prog w KF fi d E m H (.Compare l [op] [r] pos) Q := wt_cmp h hm
theorem wdt_and {x y : Expr} {r : List Expr} {pos : Pos} {Q : Bool → List O → Prop} (h : WT prog w KF fi d E m H x (KAnd prog w KF fi d E m y r pos Q)) : WT prog w KF fi d E m H (.BoolOp .And (x :: y :: r) pos) Q := wt_and h
theorem wd_list {es : List Expr} {pos : Pos} {Q : V → List O → Prop} (h : WEs prog w KF fi d E m H es (KL Q)) (hp : Plain es := by intro _; rfl) : WE prog w KF fi d E m H (.List es pos) Q := we_list h hp
theorem wd_tup {es : List Expr} {k : Nat} {pos : Pos} {Q : V → List O → Prop} (h : WEs prog w KF fi d E m H es (KTu Q)) (hp : Plain es := by intro _; rfl) : WE prog w KF fi d E m H (.Tuple es k pos) Q := we_tup h hp
theorem wds_cons {e : Expr} {es : List Expr} {Q : List V → List O → Prop} (h : WE prog w KF fi d E m H e (KE1 prog w KF fi d E m es Q)) : WEs prog w KF fi d E m H (e :: es) Q := h
theorem wd_call {func : Expr} {args : List Expr} {pos : Pos} {Q : V → List O → Prop} (h : WE prog w KF fi d E m H func (KCa prog w KF fi d E m args Q))
    (hp : Plain args := by intro _; rfl) (he : ∀ env, eval (.Call func args [] pos) env = (do callWith pos (← eval func env) [] (backTo pos (starEach args env)) (backToKw pos (keywordEach [] env))) := by intro _; rfl) : WE prog w KF fi d E m H (.Call func args [] pos) Q := we_call h hp he
theorem wd_meth {o : Expr} {name : Str} {apos pos : Pos} {args : List Expr} {pl : Env → Sem Bool} {Q : V → List O → Prop} (h : WE prog w KF fi d E m H o (KMe prog w KF fi d E m name args Q))
    (hp : Plain args := by intro _; rfl) (he : ∀ env, eval (.Call (.Attribute o name apos) args [] pos) env = (do
      let ov ← eval o env
      standAt apos.atName
      let (f, first) ← holding [ov] (getMethod ov name (pl env))
      callWith pos f first (backTo pos (starEach args env)) []) := by intro _; rfl) : WE prog w KF fi d E m H (.Call (.Attribute o name apos) args [] pos) Q := we_meth h hp he
theorem wd_sub {value slice : Expr} {pos : Pos} {Q : V → List O → Prop} (h : WE prog w KF fi d E m H value (KS1 prog w KF fi d E m slice Q))
    (hs : ∀ b o i, subscripted slice b o i = (match b with | true => runValue (.builtin "lifetime.subscript" ⟨[o, i], []⟩) | false => operate [o, i] (getItem o i)) := by intro b o i; cases b <;> rfl) : WE prog w KF fi d E m H (.Subscript value slice pos) Q := we_sub h hs
theorem wd_slice {value : Expr} {l u k : Option Expr} {p pos : Pos} {Q : V → List O → Prop} (h : WE prog w KF fi d E m H value (KSl1 prog w KF fi d E m l u k Q)) : WE prog w KF fi d E m H (.Subscript value (.Slice l u k p) pos) Q := we_slice h
theorem wda_sub {o i : Expr} {pos : Pos} {v : V} {Q : Names → List O → Prop} (h : WE prog w KF fi d E m H o (KA1 prog w KF fi d E m i v Q)) : WA prog w KF fi d E m H (.Subscript o i pos) v Q := wa_sub h
theorem wda_attr {o : Expr} {attr : Str} {pos : Pos} {v : V} {Q : Names → List O → Prop} (h : WE prog w KF fi d E m H o (KAt prog w KF d E m attr v Q)) : WA prog w KF fi d E m H (.Attribute o attr pos) v Q := wa_attr h
theorem wd_assign {t value : Expr} {pos : Pos} {Q : Fl → Names → List O → Prop} (h : WE prog w KF fi d E m H value (KAs prog w KF fi d E m t Q))
    (hs : ∀ env, swapsWithSole [t] value pos.line env = pure false := by intro _; rfl) (hw : ∀ env, swappedStores [t] value env = pure none := by intro _; rfl) (he : ∀ env, assignEach [t] env = [(false, assign t env)] := by intro _; rfl) : WS prog w KF fi d E m H (.Assign [t] value pos) Q := ws_assign h hs hw he
theorem wd_assignE {t value : Expr} {pos : Pos} {Q : Fl → Names → List O → Prop} (h : WE prog w KF fi d E m H value (KAs prog w KF fi d E m t Q))
    (hs : ∀ env, env.scope = fi.sc → swapsWithSole [t] value pos.line env = pure false) (hw : ∀ env, swappedStores [t] value env = pure none := by intro _; rfl) (he : ∀ env, assignEach [t] env = [(false, assign t env)] := by intro _; rfl) : WS prog w KF fi d E m H (.Assign [t] value pos) Q := ws_assignE h hs hw he
theorem wd_augsub {o i : Expr} {p pos : Pos} {op : Operator} {value : Expr} {Q : Fl → Names → List O → Prop} (h : WE prog w KF fi d E m H o (KG1 prog w KF fi d E m op i value Q))
    (hi : ∀ ov iv new, augStore i ov iv new = (do holding [new, ov, iv] (setItem ov iv new); release [new, ov, iv] []; pure .next) := by intros; rfl) : WS prog w KF fi d E m H (.AugAssign (.Subscript o i p) op value pos) Q := ws_augsub h hi
theorem wds_if {c : Expr} {x y : List Stmt} {pos : Pos} {Q : Fl → Names → List O → Prop} (h : WT prog w KF fi d E m H c (KSi prog w KF fi d E m x y Q)) : WS prog w KF fi d E m H (.If c x y pos) Q := ws_if h
theorem wd_ret {e : Expr} {pos : Pos} {Q : Fl → Names → List O → Prop} (h : WE prog w KF fi d E m H e (KRe m Q)) : WS prog w KF fi d E m H (.Return (some e) pos) Q := ws_ret h
theorem wd_expr {e : Expr} {pos : Pos} {Q : Fl → Names → List O → Prop} (h : WE prog w KF fi d E m H e (KEx m Q)) (hs : ∀ env, swapsWith e none pos.line env = pure false := by intro _; rfl) : WS prog w KF fi d E m H (.Expr e pos) Q := ws_expr h hs
theorem wd_seq {st : Stmt} {rest : List Stmt} {Q : Fl → Names → List O → Prop} (h : WS prog w KF fi d E m H st (KSeq prog w KF fi d E rest Q)) : WB prog w KF fi d E m H (st :: rest) Q := wb_cons (by
  intro A env F ρ s hA S
  exact wpAny_mono (h A env F ρ s hA S) (fun v s' ⟨ρ', H', m', fl, st, T, rv, q⟩ => ⟨ρ', H', m', fl, st, T, rv, by cases fl <;> exact q⟩) fun _ _ x => x)
end
section
variable {prog : Program} {w : World} {KF : Frag} {d : Nat} {E : HEP} {H : List O} {a : Nat} {o : Obj} {fd : FuncData} {body : List Stmt} {sc : Scope} {ps : List Str} {xs : List V}
end
section
variable {prog : Program} {w : World} {KF : Frag} {fi : FI} {d : Nat} {E : EP} {m : Names} {H : List O} {b : Bool}
-- the ways of a test
theorem ksi_p {x y : List Stmt} {Q : Fl → Names → List O → Prop} (hb : b = true) (h : WB prog w KF fi d E m H x Q) : KSi prog w KF fi d E m x y Q b H := by subst hb; exact h
theorem ksi_n {x y : List Stmt} {Q : Fl → Names → List O → Prop} (hb : ¬ b = true) (h : WB prog w KF fi d E m H y Q) : KSi prog w KF fi d E m x y Q b H := by rw [Bool.not_eq_true] at hb; subst hb; exact h
end
end Mine
end
section
open PySem PySem.W PyProof.Rows
namespace Mine
/-! runs that may sleep in «yield from» a generator -/
noncomputable def delegate0 (s : Shared) : Value → Bool
  | .ref a => match s.heap.get? a with
    | some o => !o.genNumber?.isSome
    | none => true
  | _ => true
/-- might a yield show something, where nothing is registered -/
noncomputable def closing0 (s : Shared) (frames : List Frame) (code : Code) (guarded : Bool) : Bool :=
  frames.any Frame.guarded || (guarded && match code with
    | .builtin "proto.yield_from" ⟨it :: _, _⟩ => delegate0 s it
    | _ => true)
theorem closing0_shows {s : Shared} {frames : List Frame} {code : Code} {g : Bool} (h : closing0 s frames code g = false) (hr : s.heap.life.registered = []) : closingShows s frames code g = false := by
  unfold closing0 at h
  unfold closingShows
  rw [Bool.or_eq_false_iff] at h ⊢
  refine ⟨h.1, ?_⟩
  have h2 := h.2
  cases g with
  | false => rfl
  | true =>
    rw [Bool.true_and] at h2 ⊢
    split at h2
    · rename_i it rest kw
      unfold delegate0 at h2
      cases it with
      | ref a =>
        show delegateShows s (.ref a) = false
        unfold delegateShows
        dsimp only at h2 ⊢
        cases ho : s.heap.get? a with
        | none => rw [ho] at h2
        | some o =>
          rw [ho] at h2
          dsimp only at h2 ⊢
          cases hn : o.genNumber? with
          | none => rw [hn] at h2; cases h2
          | some n => rw [hr]; rfl
      | _ => cases h2
    · cases h2
/-- a yield, out of «yield from», that shows nothing to the collector -/
noncomputable def mutedYield (s : Shared) (t : Thread) : Bool := match t.cur, splitAtGen t.stack with
  | .yield _ g _ _, some (frames, _, _) => !closing0 s frames t.code g
  | _, _ => false
noncomputable def calm2 (s : Shared) (t : Thread) : Bool := t.calm || mutedYield s t
inductive Ev (den : Code → Sem Fin) (prog : Program) (w : World) (Φ : Shared → Thread → Prop) : Shared → Thread → Prop
  | now {s t} : Φ s t → Ev den prog w Φ s t
  | step {s t s' t'} : calm2 s t = true → stepK den prog w s t = .go s' t' → Ev den prog w Φ s' t' → Ev den prog w Φ s t
section
variable {den : Code → Sem Fin} {prog : Program} {w : World}
theorem muted_yield {s : Shared} {t : Thread} (h : mutedYield s t = true) : ∃ v g l k fs b rest, t.cur = .yield v g l k ∧ splitAtGen t.stack = some (fs, b, rest) ∧ closing0 s fs t.code g = false := by
  unfold mutedYield at h
  split at h
  · rename_i v g l k fs b rest e1 e2
    exact ⟨v, g, l, k, fs, b, rest, e1, e2, by simpa using h⟩
  · cases h
theorem moves_muted (pr : Profile) (s : Shared) (t : Thread) (h : mutedYield s t = true) : (Config.single s t).moves pr = [.run 0] := by
  obtain ⟨v, g, l, k, fs, b, rest, e1, _⟩ := muted_yield h
  obtain ⟨cur, code, pos, stack⟩ := t
  dsimp only at e1
  subst e1
  simp [Config.moves, Config.single, movesFrom, Thread.moves]
theorem pick_muted (s : Shared) (t : Thread) (h : mutedYield s t = true) (hr : s.heap.life.registered = []) :
    (Config.single s t).pick w = .ok (.run 0, .single s t) := by
  have h1 : (Config.single s t).collect? w.params = none := by
    simp [Config.collect?, Config.single, (nothing_to_collect _ _ _ s t hr).1]
  have h2 : (Config.single s t).collectable = [] := by
    simp [Config.collectable, Config.single, (nothing_to_collect w.params _ _ s t hr).2]
  simp only [Config.pick, h1, h2, Config.pickThread, moves_muted _ s t h]
  cases w.params.lifetimes <;> simp
theorem lifeStep_muted (others : List Value) (s : Shared) (t : Thread) (h : mutedYield s t = true) (hz : s.asleep) : lifeStep den prog w others s t = step den prog w s t := by
  obtain ⟨v, g, l, k, fs, b, rest, e1, e2, e3⟩ := muted_yield h
  obtain ⟨cur, code, pos, stack⟩ := t
  dsimp only at e1 e2 e3
  subst e1
  obtain ⟨hr, hc⟩ := hz
  have e3 := closing0_shows e3 hr
  unfold lifeStep
  split
  · simp [collectorTurn?, e2, e3, Thread.atItsEnd, stepCounting, hc]
  · simp [stepCounting, hc]
theorem run_muted (s : Shared) (t : Thread) (h : mutedYield s t = true) (hl : ∀ others, lifeStep den prog w others s t = step den prog w s t) :
    (Config.single s t).run den prog w 0 = (step den prog w s t).lift := by
  obtain ⟨v, g, l, k, fs, b, rest, e1, e2, e3⟩ := muted_yield h
  obtain ⟨cur, code, pos, stack⟩ := t
  dsimp only at e1 e2 e3
  subst e1
  simp only [Config.run, Config.single]
  first
    | (simp [hl, others_single, frozenBadly, ThreadState.insideWrite]; split <;> simp_all [Step.lift, Config.single]; done)
    | (simp [hl, others_single, frozenBadly, ThreadState.insideWrite]; split <;> simp_all [Step.lift, Config.single] <;> split <;> simp; done)
    | (simp [hl, others_single, frozenBadly, ThreadState.insideWrite, Thread.finalizes]; split <;> simp_all [Step.lift, Config.single]; done)
    | (simp [hl, others_single, frozenBadly, ThreadState.insideWrite, Thread.finalizes]; split <;> simp_all [Step.lift, Config.single] <;> split <;> simp; done)
theorem sstep_calm2 (s : Shared) (t : Thread) {s' t'} (h : calm2 s t = true) (hr : s.asleep) (e : step den prog w s t = .go s' t') : sstep den prog w (.single s t) = .go (.single s' t') := by
  unfold calm2 at h
  rcases Bool.or_eq_true _ _ ▸ h with h | h
  · rcases sstep_single den prog w s t h hr with q | q
    · rw [q, e]; rfl
    · rw [q] at e; cases e
  · have hl := fun o => lifeStep_muted (den := den) (prog := prog) (w := w) o s t h hr
    simp only [sstep, pick_muted s t h hr.1, Config.move, run_muted s t h hl]
    rw [e]; rfl
theorem muted_forget {s s₂ : Shared} {t t₂ : Thread} (hs : s₂.forget = s.forget) (ht : t₂.forget = t.forget) : mutedYield s₂ t₂ = mutedYield s t := by
  obtain ⟨eh, _⟩ := Shared.forget_eq hs
  obtain ⟨cur, code, pos, stack⟩ := t
  obtain ⟨cur₂, code₂, pos₂, stack₂⟩ := t₂
  simp only [Thread.forget, Thread.mk.injEq] at ht
  obtain ⟨rfl, rfl, rfl, e⟩ := ht
  cases cur₂ with
  | yield v g l k =>
    unfold mutedYield
    dsimp only
    have a := splitAtGen_forgetAll stack
    have b := splitAtGen_forgetAll stack₂
    rw [e, a] at b
    cases h1 : splitAtGen stack with
    | none =>
      rw [h1] at b
      cases h2 : splitAtGen stack₂ with
      | none => rfl
      | some x => rw [h2] at b; cases b
    | some x =>
      obtain ⟨fs, y, r⟩ := x
      rw [h1] at b
      cases h2 : splitAtGen stack₂ with
      | none => rw [h2] at b; cases b
      | some x₂ =>
        obtain ⟨fs₂, y₂, r₂⟩ := x₂
        rw [h2] at b
        simp only [Option.map_some, Option.some.injEq, Prod.mk.injEq] at b
        have ea : fs.any Frame.guarded = fs₂.any Frame.guarded := by rw [← any_guarded_forgetAll fs, ← any_guarded_forgetAll fs₂, b.1]
        dsimp only
        unfold closing0
        rw [ea]
        unfold delegate0
        rw [eh]
  | _ => rfl
theorem calm2_forget {s s₂ : Shared} {t t₂ : Thread} (hs : s₂.forget = s.forget) (ht : t₂.forget = t.forget) : calm2 s₂ t₂ = calm2 s t := by
  unfold calm2
  rw [muted_forget hs ht, ← Thread.calm_forget t₂, ht, Thread.calm_forget]
/-- a run, on the real machine -/
theorem Ev.real {Φ : Shared → Thread → Prop} {s t} (h : Ev den prog w Φ s t) : ∀ s₂ t₂, s₂.forget = s.forget → t₂.forget = t.forget → s₂.asleep →
    ∃ n s' t' s₃ t₃, schedN den prog w n (.single s₂ t₂) = .running (.single s₃ t₃) ∧ s₃.forget = s'.forget ∧ t₃.forget = t'.forget ∧ Φ s' t' ∧ s₃.heap.life = s₂.heap.life := by
  induction h with
  | now h => exact fun s₂ t₂ hs ht ha => ⟨0, _, _, s₂, t₂, rfl, hs, ht, h, rfl⟩
  | @step s t s' t' c e _ ih =>
    intro s₂ t₂ hs ht ha
    have e2 : (PySem.step den prog w s₂ t₂).forget = (Step.go s' t').forget := by
      rw [step_same den prog w hs ht, ← stepK_forget, e]
    cases hst : PySem.step den prog w s₂ t₂ with
    | halt o x => rw [hst] at e2; cases e2
    | go s₃ t₃ =>
      rw [hst] at e2
      simp only [Step.forget, Step.go.injEq] at e2
      have hlife := step_life den prog w s₂ s₃ t₂ t₃ hst
      obtain ⟨n, a, b, s₄, t₄, h1, h2, h3, h4, h5⟩ := ih s₃ t₃ e2.1 e2.2 (Shared.asleep_of_life hlife ha)
      refine ⟨n + 1, a, b, s₄, t₄, ?_, h2, h3, h4, h5.trans hlife⟩
      show (match sstep den prog w (.single s₂ t₂) with | .go c' => schedN den prog w n c' | .halt o s => .halted o s) = _
      rw [sstep_calm2 s₂ t₂ (by rw [calm2_forget hs ht]; exact c) ha hst]
      exact h1
theorem schedN_add (n k : Nat) (c c' : Config) (h : schedN den prog w n c = .running c') : schedN den prog w (n + k) c = schedN den prog w k c' := by
  induction n generalizing c with
  | zero => cases h; rw [Nat.zero_add]
  | succ n ih =>
    rw [Nat.succ_add]
    simp only [schedN] at h ⊢
    split <;> rename_i q
    · rw [q] at h; exact ih _ h
    · rw [q] at h; cases h
/-- a run to its end -/
theorem Ev.halts {R : Result → Shared → Prop} {s t} (h : Ev den prog w (fun s' t' => ∃ r c p, t' = ⟨leafOf r, c, p, []⟩ ∧ leftWithCleanup s'.gens = false ∧ R r s') s t) (ha : s.asleep) :
    ∃ n r s' s'', schedN den prog w n (.single s t) = .halted (outcomeOf r) s' ∧ s'.forget = s''.forget ∧ s'.heap.life = s.heap.life ∧ R r s'' := by
  obtain ⟨n, s', t', s₃, t₃, h1, h2, h3, ⟨r, c, p, rfl, hl, hR⟩, h5⟩ := h.real s t rfl rfl ha
  have ht : t₃ = ⟨leafOf r, c, p, []⟩ := by
    obtain ⟨cur, code, pos, stack⟩ := t₃
    simp only [Thread.forget, Thread.mk.injEq, forgetAll_nil] at h3
    obtain ⟨rfl, rfl, rfl, e⟩ := h3
    cases stack with
    | nil => rfl
    | cons _ _ => cases e
  subst ht
  have hl3 : leftWithCleanup s₃.gens = false := by rw [leftWithCleanup_of_forget_eq h2]; exact hl
  have a3 : s₃.asleep := Shared.asleep_of_life h5 ha
  have hst : PySem.step den prog w s₃ ⟨leafOf r, c, p, []⟩ = .halt (outcomeOf r) s₃ := by
    obtain ⟨heap, gens, drawn, toks, os⟩ := s₃
    cases r <;> (show finish _ _ = _; unfold finish; rw [if_neg (by rw [hl3]; decide)]; rfl)
  refine ⟨n + 1, r, s₃, s', ?_, h2, h5, hR⟩
  rw [schedN_add n 1 _ _ h1]
  have hcalm : Thread.calm ⟨leafOf r, c, p, []⟩ = true := by cases r <;> rfl
  rcases sstep_single den prog w s₃ ⟨leafOf r, c, p, []⟩ hcalm a3 with q | q
  · simp only [schedN, q, hst]; rfl
  · rw [hst] at q
    cases r <;> cases q
end
end Mine
end
section
open PySem PySem.W PyProof.Rows
namespace Mine
theorem ctx_fits {Γ : Ctx} {st : List Frame} (h : Γ.Fits st) : Γ = Ctx.of Γ.code st := by
  obtain ⟨c, hd, ow, be, pa⟩ := Γ
  obtain ⟨h1, h2, h3, h4⟩ := h
  simp only at h1 h2 h3 h4
  subst h1 h2 h3 h4
  rfl
section
variable {M : Model} {Φ Ψ : Shared → Thread → Prop}
noncomputable abbrev EvM (M : Model) (Φ : Shared → Thread → Prop) := Ev M.den M.prog M.w Φ
theorem ev_step {s s' : Shared} {t t' : Thread} (e : M.step s t = .go s' t') (h : EvM M Φ s' t') : EvM M Φ s t := by
  cases hl : t.loud with
  | true => rw [M.step_loud hl] at e; cases e
  | false =>
    rw [M.step_quiet hl] at e
    refine .step ?_ e h
    unfold calm2
    rw [Thread.calm_eq, hl]
    cases hr : t.refused with
    | true => obtain ⟨what, q⟩ := stepK_refused M.den M.prog M.w (s := s) hr; rw [q] at e; cases e
    | false => rfl
theorem ev_runN {n : Nat} {s s' : Shared} {t t' : Thread} (e : M.runN n s t = .running s' t') (h : EvM M Φ s' t') : EvM M Φ s t := by
  induction n generalizing s t with
  | zero => injection e with e1 e2; subst e1 e2; exact h
  | succ n ih =>
    rw [runN_succ] at e
    cases hs : M.step s t with
    | go s₁ t₁ => rw [hs] at e; exact ev_step hs (ih e)
    | halt o s₁ => rw [hs] at e; cases e
theorem ev_runs {Γ : Ctx} {p : Pos} {t : Sem Fin} {s s' : Shared} {r : Result} {base : List Frame} (h : Runs M Γ p t [] s (.ret r) s') (hf : Γ.Fits base) (k : ∀ c' p', EvM M Φ s' ⟨leafOf r, c', p', base⟩) : EvM M Φ s ⟨t, Γ.code, p, base⟩ := by
  obtain ⟨n, t', c', p', pre', hn, rfl, rfl⟩ := (runs_reach h base hf).runN
  exact ev_runN hn (k c' p')
theorem ev_seg {Γ : Ctx} {p : Pos} {t : Sem Fin} {fs : List Frame} {s s₁ : Shared} {e₁ : End} {g : Nat} {k : GenResult → Sem Fin} {l : List Value} {c₁ : Code} {p₁ : Pos} {st : List Frame} (h : Runs M Γ p t fs s e₁ s₁) (hf : Γ.Fits (.gen g k l c₁ p₁ :: st)) (hq : e₁.quiet = true)
    (hk : EvM M Φ (s₁.setGen g e₁.genState) ⟨k e₁.result, c₁, p₁, st⟩) : EvM M Φ s ⟨t, Γ.code, p, fs ++ .gen g k l c₁ p₁ :: st⟩ := by
  obtain ⟨n, t', c', p', pre', hn, hx⟩ := (runs_reach h _ hf).runN
  exact ev_runN hn (ev_step (step_exit_gen s₁ g k l c₁ p₁ st hx hq) hk)
theorem up_go {α : Type} {c : Code} {st : List Frame} {K : α → Sem Fin} {H : Value → Sem Fin} {gd : Bool → Bool} {lv : List Value → List Value} {Q : α → Pos → Shared → Prop} {E : Value → Pos → Shared → Prop}
    (hK : ∀ a p' s', Q a p' s' → EvM M Φ s' ⟨K a, c, p', st⟩) (hH : ∀ e p' s', E e p' s' → EvM M Φ s' ⟨H e, c, p', st⟩) : ∀ (t : Sem α) (p : Pos) (s : Shared), Sem.wp M (Ctx.of c st) t Q E p s → EvM M Φ s ⟨t.wrap K H gd lv, c, p, st⟩ := by
  intro t
  induction t with
  | pure a => exact fun p s h => hK a p s h
  | raise e => exact fun p s h => hH e p s h
  | unsupported | finish | yield | fork | await | register => exact fun p s h => h.elim
  | rule tag k ih => exact fun p s h => ev_step (step_rule M s c p st tag _) (ih () p s h)
  | «at» p' k ih => exact fun p s h => ev_step (step_at M s c p st p' _) (ih () p' s h)
  | load a part k ih => exact fun p s ⟨o, ho, h⟩ => ev_step (step_load M s c p st part _ ho) (ih o p s h)
  | update a part f k ih => exact fun p s ⟨ha, h⟩ => ev_step (step_update M s c p st part f _ ha) (ih () p _ h)
  | loadIfAlive a k ih => exact fun p s h => ev_step (step_loadIfAlive M s c p st a _) (ih _ p s h)
  | point l k ih => exact fun p s h => ev_step (step_point M s c p st _ _) (ih () p s h)
  | alloc o k ih => exact fun p s h => ev_step (step_alloc M s c p st o _) (ih _ p _ h)
  | fresh k ih => exact fun p s h => ev_step (step_fresh M s c p st _) (ih _ p _ h)
  | ask k ih => exact fun p s h => ev_step (step_ask M s c p st _) (ih _ p s h)
  | choose src n k ih => exact fun p s ⟨hn, h⟩ => ev_step (step_choose M s c p st src _ hn) (ih _ p _ h)
  | os q l k ih => exact fun p s h => ev_step (step_os M s c p st q _ _) (ih _ p _ h)
  | call c' h g l k ih =>
    intro p s ⟨r, s₁, hr, hw⟩
    refine ev_step (step_call M s c p st c' h (gd g) (lv l) _) ?_
    refine ev_runs (Γ := (Ctx.of c st).enter c' h p) hr (Ctx.Fits.enter (Ctx.fits_of c st) c' _ h (gd g) (lv l) p []) fun c₂ p₂ => ?_
    exact ev_step (step_leaf_ret M s₁ c₂ p₂ st r _ h (gd g) (lv l) c p []) (ih r p s₁ hw)
  | handled own k ih =>
    intro p s h
    refine ev_step (step_handled M s c p st own _) ?_
    cases own <;> exact ih _ p s h
  | genState g k ih => exact fun p s ⟨x, hg, h⟩ => ev_step (step_genState M s c p st _ hg) (ih _ p s h)
  | newGen c' k ih => exact fun p s h => ev_step (step_newGen M s c p st c' _) (ih _ p _ h)
  | stack k ih => exact fun p s h => ev_step (step_stack M s c p st _) (ih _ p s h)
  | thread k ih => exact fun p s h => ev_step (step_thread M s c p st _) (ih _ p s h)
  | resume g r l k ih =>
    intro p s ⟨res, s', hw, h⟩
    have hk := ih res p s' h
    unfold Wakes at hw
    cases hg : s.gens[g]? with
    | none => rw [hg] at hw; exact hw.elim
    | some x =>
      rw [hg] at hw
      cases x with
      | fresh c' =>
        cases r with
        | send v =>
          by_cases hv : v = .none
          · subst hv
            obtain ⟨e₁, s₁, hr, hq, rfl, rfl⟩ := hw
            exact ev_step (step_resume_fresh M s c p st (lv l) _ hg) (ev_seg (Γ := (Ctx.of c st).wake c' p) (fs := []) hr (Ctx.Fits.wake (Ctx.fits_of c st) c' g _ (lv l) p) hq hk)
          · have q : res = .justStarted ∧ s' = s := by cases v <;> first | exact absurd rfl hv | exact hw
            obtain ⟨rfl, rfl⟩ := q
            exact ev_step (step_resume_justStarted M s' c p st (lv l) _ hg hv) hk
        | throw x => obtain ⟨rfl, rfl⟩ := hw; exact ev_step (step_resume_throwFresh M s c p st x (lv l) _ hg) hk
      | suspended k₀ l₀ c₀ p₀ fs cl =>
        obtain ⟨e₁, s₁, hr, hq, rfl, rfl⟩ := hw
        exact ev_step (step_resume_suspended M s c p st r (lv l) _ hg) (ev_seg (Γ := (Ctx.of c st).wake c₀ p) hr (Ctx.Fits.wake (Ctx.fits_of c st) c₀ g _ (lv l) p) hq hk)
      | running => obtain ⟨rfl, rfl⟩ := hw; exact ev_step (step_resume_running M s' c p st r (lv l) _ hg) hk
      | finished => obtain ⟨rfl, rfl⟩ := hw; exact ev_step (step_resume_finished M s' c p st r (lv l) _ hg) hk
end
/-- what a tree does, wherever it stands; it may drive generators that sleep in «yield from» -/
noncomputable def wpU {α : Type} (M : Model) (A : Around) (t : Sem α) (Q : α → Shared → Prop) (E : Value → Shared → Prop) (s : Shared) : Prop :=
  ∀ (c : Code) (p : Pos) (st : List Frame), (Ctx.of c st).In A → ∀ (K : α → Sem Fin) (H : Value → Sem Fin) (gd : Bool → Bool) (lv : List Value → List Value) (Φ : Shared → Thread → Prop),
    (∀ a p' s', Q a s' → EvM M Φ s' ⟨K a, c, p', st⟩) → (∀ e p' s', E e s' → EvM M Φ s' ⟨H e, c, p', st⟩) → EvM M Φ s ⟨t.wrap K H gd lv, c, p, st⟩
/-- what a code does -/
noncomputable def codeU (M : Model) (A : Around) (c : Code) (R : Result → Shared → Prop) (s : Shared) : Prop :=
  ∀ (p : Pos) (st : List Frame), (Ctx.of c st).Below A → ∀ (Φ : Shared → Thread → Prop), (∀ r s' c' p', R r s' → EvM M Φ s' ⟨leafOf r, c', p', st⟩) → EvM M Φ s ⟨M.den c, c, p, st⟩
section
variable {α β : Type} {M : Model} {A : Around} {s : Shared} {E E' : Value → Shared → Prop}
theorem up {t : Sem α} {Q : α → Shared → Prop} (h : wpAny M A t Q E s) : wpU M A t Q E s :=
  fun c p st hin K H gd lv Φ hK hH => up_go (Q := fun a _ s' => Q a s') (E := fun e _ s' => E e s') hK hH t p s (h _ p hin)
theorem wpU_mono {t : Sem α} {Q Q' : α → Shared → Prop} (h : wpU M A t Q E s) (hQ : ∀ a s, Q a s → Q' a s) (hE : ∀ e s, E e s → E' e s) : wpU M A t Q' E' s :=
  fun c p st hin K H gd lv Φ hK hH => h c p st hin K H gd lv Φ (fun a p' s' q => hK a p' s' (hQ a s' q)) fun e p' s' q => hH e p' s' (hE e s' q)
theorem wpU_pure {a : α} {Q : α → Shared → Prop} (h : Q a s) : wpU M A (pure a) Q E s := up (wpAny_pure h)
theorem wpU_throw {e : Value} {Q : α → Shared → Prop} (h : E e s) : wpU M A (throw e : Sem α) Q E s := up (wpAny_throw h)
theorem wpU_wrap {m : Sem α} {K₁ : α → Sem β} {H₁ : Value → Sem β} {g₁ : Bool → Bool} {l₁ : List Value → List Value} {Q : β → Shared → Prop} (h : wpU M A m (fun a s' => wpU M A (K₁ a) Q E s') (fun e s' => wpU M A (H₁ e) Q E s') s) : wpU M A (m.wrap K₁ H₁ g₁ l₁) Q E s := by
  intro c p st hin K H gd lv Φ hK hH
  rw [Sem.wrap_wrap]
  exact h c p st hin _ _ _ _ Φ (fun a p' s' q => q c p' st hin K H gd lv Φ hK hH) fun e p' s' q => q c p' st hin K H gd lv Φ hK hH
theorem wpU_bind {m : Sem α} {f : α → Sem β} {Q : β → Shared → Prop} (h : wpU M A m (fun a s' => wpU M A (f a) Q E s') E s) : wpU M A (m >>= f) Q E s := by
  rw [Sem.bind_eq_wrap']
  exact wpU_wrap (wpU_mono h (fun _ _ q => q) fun e s' q => wpU_throw q)
theorem wpU_tryCatch {m : Sem α} {k : Value → Sem α} {Q : α → Shared → Prop} (h : wpU M A m Q (fun e s' => wpU M A (k e) Q E s') s) : wpU M A (tryCatch m k) Q E s := by
  show wpU M A (m.tryCatch k) Q E s
  rw [Sem.tryCatch_eq_wrap]
  exact wpU_wrap (wpU_mono h (fun a s' q => wpU_pure q) fun _ _ q => q)
theorem wpU_onRaise {m : Sem α} {k : Value → Sem Unit} {Q : α → Shared → Prop} (h : wpU M A m Q (fun e s' => wpU M A (k e) (fun _ s'' => E e s'') E s') s) : wpU M A (m.onRaise k) Q E s := by
  rw [Sem.onRaise_eq_wrap]
  refine wpU_wrap (wpU_mono h (fun a s' q => wpU_pure q) fun e s' q => ?_)
  exact wpU_bind (f := fun _ => (throw e : Sem α)) (wpU_mono q (fun _ s'' x => wpU_throw x) fun _ _ x => x)
theorem wpU_attempt {m : Sem α} {Q : Except Value α → Shared → Prop} (h : wpU M A m (fun a => Q (.ok a)) (fun e => Q (.error e)) s) : wpU M A m.attempt Q E s := by
  unfold Sem.attempt
  exact wpU_tryCatch (wpU_bind (f := fun a => (pure (.ok a) : Sem (Except Value α))) (wpU_mono h (fun a s' q => wpU_pure q) fun e s' q => wpU_pure q))
theorem wpU_keep {vs : List Value} {m : Sem α} {Q : α → Shared → Prop} (h : wpU M A m Q E s) : wpU M A (m.keep vs) Q E s := by
  rw [Sem.keep_eq_wrap]
  exact wpU_wrap (wpU_mono h (fun a s' q => wpU_pure q) fun e s' q => wpU_throw q)
theorem wpU_holding {vs : List Value} {m : Sem α} {Q : α → Shared → Prop} (h : wpU M A m Q E s) : wpU M A (holding vs m) Q E s := by
  rw [PySem.holding_eq_keep]; exact wpU_keep h
theorem wpU_standAt {pos : Pos} {Q : Unit → Shared → Prop} (h : Q () s) : wpU M A (standAt pos) Q E s := up (wpAny_standAt h)
theorem wrap_id (t : Sem Fin) : t.wrap .pure .raise id id = t := by
  rw [← Sem.bind_eq_wrap]
  induction t <;> simp only [Sem.bind, *]
noncomputable def finU (M : Model) (A : Around) (R : Result → Shared → Prop) : Fin → Shared → Prop
  | .done f, s => R (.ok f) s
  | .again c, s => c.quiet = true ∧ codeU M A c R s
theorem codeU_of {c : Code} {R : Result → Shared → Prop} (h : wpU M (A.under c) (M.den c) (finU M A R) (fun e s' => R (.error e) s') s) : codeU M A c R s := by
  intro p st hb Φ hR
  rw [← wrap_id (M.den c)]
  refine h c p st hb.in _ _ _ _ Φ (fun f p' s' q => ?_) fun e p' s' q => hR (.error e) s' c p' q
  cases f with
  | done f => exact hR (.ok f) s' c p' q
  | again c' =>
    obtain ⟨hq, q⟩ := q
    exact ev_step (step_again M s' c p' st c' hq) (q p' st hb Φ hR)
theorem wpU_callT {c : Code} {h : Option Value} {g : Bool} {l : List Value} {k : Result → Sem α} {Q : α → Shared → Prop} (hc : codeU M (A.mark h) c (fun r s' => wpU M A (k r) Q E s') s) (hnb : h ≠ some byPass := by intro x; cases x) : wpU M A (.call c h g l k) Q E s := by
  intro c₀ p st hin K H gd lv Φ hK hH
  refine ev_step (step_call M s c₀ p st c h (gd g) (lv l) _) ?_
  have e : Ctx.of c (.ret (fun x => (k x).wrap K H gd lv) h (gd g) (lv l) c₀ p [] :: st) = (Ctx.of c₀ st).enter c h p := (ctx_fits (Ctx.Fits.enter (Ctx.fits_of c₀ st) c _ h (gd g) (lv l) p [])).symm
  refine hc p _ (by rw [e]; exact hin.enter c h p hnb) Φ fun r s' c' p' q => ?_
  exact ev_step (step_leaf_ret M s' c' p' st r _ h (gd g) (lv l) c₀ p []) (q c₀ p st hin K H gd lv Φ hK hH)
end
end Mine
end
section
open PySem PySem.W PyProof.Rows PySem.W.X PySem.SeqAt
namespace Mine
/-! the layer over wpU: what drives a generator that sleeps in «yield from» -/
section
variable (prog : Program) (w : World) (KF : Frag) (fi : FI) (d : Nat) (E : EP)
noncomputable def WEU (m : Names) (H : List O) (e : Expr) (Q : V → List O → Prop) : Prop :=
  ∀ A env F ρ s, Room A d → Sim w KF fi env m F ρ H s.heap s.gens → wpU (model prog w) A (eval e env) (SQ w KF VR fi env m F ρ s Q) (SE w KF fi env F ρ s E) s
noncomputable def WSU (m : Names) (H : List O) (st : Stmt) (Q : Fl → Names → List O → Prop) : Prop :=
  ∀ A env F ρ s, Room A d → Sim w KF fi env m F ρ H s.heap s.gens → wpU (model prog w) A (exec st env) (StQ w KF fi env F ρ s Q) (SE w KF fi env F ρ s E) s
noncomputable def WBU (m : Names) (H : List O) (st : List Stmt) (Q : Fl → Names → List O → Prop) : Prop :=
  ∀ A env F ρ s, Room A d → Sim w KF fi env m F ρ H s.heap s.gens → wpU (model prog w) A (execs st env) (StQ w KF fi env F ρ s Q) (SE w KF fi env F ρ s E) s
end
noncomputable def CallU (prog : Program) (w : World) (KF : Frag) (d : Nat) (E : HEP) (H : List O) (f : V) (xs : List V) (Q : V → List O → Prop) : Prop :=
  ∀ A F ρ s u us, Room A d → HSim w KF F ρ H s.heap s.gens → VR ρ s.heap f u → VRs ρ s.heap xs us → wpU (model prog w) A (call u us) (HQ w KF VR F ρ s Q) (HE w KF F ρ s E) s
section
variable {prog : Program} {w : World} {KF : Frag} {fi : FI} {d : Nat} {E : EP} {m : Names} {H : List O}
theorem ontoU {α : Type} {A : Around} {t : Sem α} {K K' : α → Shared → Prop} {env : Env} {F : Base} {ρ ρ₁ : List Ent} {s s₁ s₂ : Shared} (st : Step ρ s ρ₁ s₁) (h : wpU (model prog w) A t K (SE w KF fi env F ρ₁ s₁ E) s₂) (hk : ∀ v s', K v s' → K' v s') : wpU (model prog w) A t K' (SE w KF fi env F ρ s E) s₂ :=
  wpU_mono h hk fun _ _ x => x.step st
theorem wsU {st : Stmt} {Q : Fl → Names → List O → Prop} (h : WS prog w KF fi d E m H st Q) : WSU prog w KF fi d E m H st Q := fun A env F ρ s hA S => up (h A env F ρ s hA S)
theorem wbU {st : List Stmt} {Q : Fl → Names → List O → Prop} (h : WB prog w KF fi d E m H st Q) : WBU prog w KF fi d E m H st Q := fun A env F ρ s hA S => up (h A env F ρ s hA S)
noncomputable abbrev KSeqU (prog : Program) (w : World) (KF : Frag) (fi : FI) (d : Nat) (E : EP) (rest : List Stmt) (Q : Fl → Names → List O → Prop) : Fl → Names → List O → Prop := fun f m H => match f with | .next => WBU prog w KF fi d E m H rest Q | f => Q f m H
theorem wu_nil {Q : Fl → Names → List O → Prop} (h : Q .next m H) : WBU prog w KF fi d E m H [] Q := wbU (wb_nil h)
theorem wu_seq {st : Stmt} {rest : List Stmt} {Q : Fl → Names → List O → Prop} (h : WSU prog w KF fi d E m H st (KSeqU prog w KF fi d E rest Q)) : WBU prog w KF fi d E m H (st :: rest) Q :=
  fun A env F ρ s hA S => by
    rw [execs_cons]
    refine wpU_bind (wpU_mono (h A env F ρ s hA S) (fun f s₁ hx => ?_) fun _ _ x => x)
    obtain ⟨ρ₁, H₁, m₁, fl, st₁, S₁, rf, h₁⟩ := hx
    cases fl with
    | next => cases rf; exact ontoU st₁ ((show WBU prog w KF fi d E m₁ H₁ rest Q from h₁) A env F ρ₁ s₁ hA S₁) fun _ _ x => x.step st₁
    | brk => cases rf; exact wpU_pure ⟨ρ₁, H₁, m₁, .brk, st₁, S₁, rfl, h₁⟩
    | cont => cases rf; exact wpU_pure ⟨ρ₁, H₁, m₁, .cont, st₁, S₁, rfl, h₁⟩
    | ret v => obtain ⟨u, rfl, r⟩ := rf; exact wpU_pure ⟨ρ₁, H₁, m₁, .ret v, st₁, S₁, ⟨u, rfl, r⟩, h₁⟩
/-- a statement that drives no such generator -/
theorem wu_quiet {st : Stmt} {rest : List Stmt} {Q : Fl → Names → List O → Prop} (h : WS prog w KF fi d E m H st (KSeqU prog w KF fi d E rest Q)) : WBU prog w KF fi d E m H (st :: rest) Q := wu_seq (wsU h)
theorem wu_assign {x : Str} {value : Expr} {py pos : Pos} {Q : Fl → Names → List O → Prop} (hk : Ours fi x) (h : WEU prog w KF fi d E m H value fun v H => Q .next (setL m x v) H)
    (hs : ∀ env, swapsWith value (some (.Name x py)) pos.line env = pure false := by intro _; rfl) : WSU prog w KF fi d E m H (.Assign [.Name x py] value pos) Q :=
  fun A env F ρ s hA S => by
    rw [exec_Assign_Name env x py value pos (hs env)]
    refine wpU_bind (wpU_standAt (wpU_bind (wpU_mono (h A env F ρ s hA S) (fun u s₁ hq => ?_) fun _ _ x => x)))
    obtain ⟨ρ₁, H₁, v, st₁, S₁, r, h₁⟩ := hq
    refine wpU_bind (wpU_standAt (wpU_bind (up (wpAny_bindName (wpAny_mono (st_name S₁ r hk) (fun _ s₂ hq => ?_) fun _ _ x => x)))))
    exact wpU_pure ⟨ρ₁, H₁, _, .next, st₁.trans hq.1, hq.2, rfl, h₁⟩
end
-- loops
section
variable {M : Model} {A : Around} {s : Shared}
theorem codeU_loop {c : Code} {R : Result → Shared → Prop} (hq : c.quiet = true) (I : Nat → Shared → Prop)
    (turn : ∀ n s, I n s → wpU M (A.under c) (M.den c) (fun fin s' => match fin with
        | .done f => R (.ok f) s'
        | .again c' => (c' = c ∧ ∃ m, m < n ∧ I m s') ∨ (c'.quiet = true ∧ codeU M A c' R s')) (fun e s' => R (.error e) s') s)
    (n : Nat) (h : I n s) : codeU M A c R s := by
  induction n using Nat.strongRecOn generalizing s with
  | ind n ih =>
    refine codeU_of (wpU_mono (turn n s h) (fun fin s' hf => ?_) fun _ _ x => x)
    cases fin with
    | done f => exact hf
    | again c' =>
      rcases hf with ⟨rfl, m, hm, hI⟩ | hf
      · exact ⟨hq, ih m hm hI⟩
      · exact hf
theorem codeU_mono {c : Code} {R R' : Result → Shared → Prop} (h : codeU M A c R s) (k : ∀ r s, R r s → R' r s) : codeU M A c R' s := fun p st hb Φ hR => h p st hb Φ fun r s' c' p' q => hR r s' c' p' (k r s' q)
end
section
variable {prog : Program} {w : World} {A : Around}
/-- a for loop whose turns raise nothing -/
theorem for_loopU {s : Shared} {R : Result → Shared → Prop} {target it body env} (I : Nat → Shared → Prop)
    (turn : ∀ n s, I n s → wpU (model prog w) A (pyNext it) (fun r s₁ => match r with
      | none => R (.ok .next) s₁
      | some v => wpU (model prog w) A (letOwnedTupleGo target it v) (fun _ s₀ => wpU (model prog w) A (assign target env v) (fun _ s₂ => wpU (model prog w) A (execs body env) (fun f s₃ => match f with
          | .next | .cont => ∃ m, m < n ∧ I m s₃
          | .brk => R (.ok .next) s₃
          | .ret v => R (.ok (.ret v)) s₃) (fun _ _ => False) s₂) (fun _ _ => False) s₀) (fun _ _ => False) s₁) (fun _ _ => False) s)
    (n : Nat) (h : I n s) : codeU (model prog w) A (.forLoop target it body [] env) R s := by
  refine codeU_loop rfl I (fun n s hI => ?_) n h
  show wpU _ _ ((forTurn target it body [] env).onRaise (fun x => do noteFrame x env; theTreesLotGoes x)) _ _ s
  refine wpU_onRaise (wpU_mono (Q := fun fin s' => match fin with
        | .done f => R (.ok f) s'
        | .again c' => (c' = .forLoop target it body [] env ∧ ∃ m, m < n ∧ I m s') ∨ (c'.quiet = true ∧ codeU (model prog w) A c' R s')) (E := fun _ _ => False) ?_ (fun _ _ x => x) fun _ _ x => x.elim)
  simp only [forTurn]
  refine wpU_bind (wpU_standAt (wpU_bind (wpU_onRaise (wpU_mono (turn n s hI) (fun r s₁ h₁ => ?_) fun _ _ x => x.elim))))
  cases r with
  | none => exact wpU_pure (.inr ⟨rfl, codeU_of (by
      show wpU _ _ (do return Fin.done (← (execs [] env).onRaise (fun x => do noteFrame x env; theTreesLotGoes x))) _ _ s₁
      exact wpU_bind (wpU_onRaise (up (wpAny_execs_nil (wpU_pure h₁)))))⟩)
  | some v =>
    refine wpU_bind (wpU_mono h₁ (fun _ s₀ h₀ => ?_) fun _ _ h' => h'.elim)
    refine wpU_bind (wpU_mono h₀ (fun _ s₂ h₂ => wpU_bind (wpU_mono h₂ (fun f s₃ h₃ => ?_) fun _ _ h' => h'.elim)) fun _ _ h' => h'.elim)
    cases f with
    | next => exact wpU_pure (.inl ⟨rfl, h₃⟩)
    | cont => exact wpU_pure (.inl ⟨rfl, h₃⟩)
    | brk => exact wpU_pure h₃
    | ret v => exact wpU_pure h₃
end
section
variable {prog : Program} {w : World} {KF : Frag} {fi : FI} {d : Nat} {E : EP} {m : Names} {H : List O}
noncomputable abbrev KFtU (prog : Program) (w : World) (KF : Frag) (fi : FI) (d : Nat) (E : EP) (body : List Stmt) (J : Nat → Names → List O → Prop) (i : Nat) (Q : Fl → Names → List O → Prop) : Names → List O → Prop := fun m H => WBU prog w KF fi d E m H body (KFor J i Q)
noncomputable abbrev KFiU (prog : Program) (w : World) (KF : Frag) (fi : FI) (d : Nat) (E : EP) (m : Names) (target : Expr) (body : List Stmt) (Q : Fl → Names → List O → Prop) : V → List O → Prop := fun v H₁ => ∃ xs G, IterW prog w KF d (Em E m) H₁ v xs G ∧ ∃ J : Nat → Names → List O → Prop, J 0 m H₁ ∧ (∀ i m H, J i m H → G H) ∧
      (∀ i x m H, xs[i]? = some x → J i m H → WA prog w KF fi d E m H target x (KFtU prog w KF fi d E body J i Q)) ∧ (∀ m H, J xs.length m H → Q .next m H)
theorem wu_for {target iter : Expr} {body : List Stmt} {pos : Pos} {Q : Fl → Names → List O → Prop} (h : WE prog w KF fi d E m H iter (KFiU prog w KF fi d E m target body Q)) (hs : ∀ env x, foldedSetIterable iter env x = pure x := by intro _ _; rfl) : WSU prog w KF fi d E m H (.For target iter body [] pos) Q :=
  fun A env F ρ s hA S => by
    rw [exec_For]
    refine wpU_bind (wpU_standAt (wpU_bind (wpU_mono (up (h A env F ρ s hA S)) (fun u s₁ hq => ?_) fun _ _ x => x)))
    obtain ⟨ρ₁, H₁, v, st₁, S₁, r, xs, G, hI, J, hJ0, hJG, hT, hD⟩ := hq
    rw [hs env u]
    refine wpU_bind (wpU_pure (wpU_bind (wpU_standAt (wpU_bind (wpU_holding (wpU_mono (up (hI A _ ρ₁ s₁ u hA S₁.toH r)) (fun it s₂ hq => ?_) fun _ _ ⟨_, _, _, _, _, x, _⟩ => x.elim))))))
    obtain ⟨I, fp, St, e, IT, hSt, hk, hg, ho, hf⟩ := hq
    subst e
    have S₂ : Sim w KF fi env m F ρ₁ H₁ s₂.heap s₂.gens := by rw [hg]; exact S₁.keeps hk
    have off₂ := S₁.fresh hf
    have st₂ : Step ρ s ρ₁ s₂ := st₁.trans (.same (.of_keep hk) ho (by rw [hg]; exact Nat.le_refl _))
    unfold runOwn
    refine wpU_onRaise (wpU_mono (Q := StQ w KF fi env F ρ s Q) (E := fun _ _ => False) ?_ (fun _ _ x => x) fun _ _ x => x.elim)
    unfold run
    refine wpU_callT (h := none) (codeU_mono (R := fun r s' => match r with | .ok f => StQ w KF fi env F ρ s Q f s' | .error e => False) ?_ fun r s' hq => ?_) (fun q => nomatch q)
    · refine for_loopU (fun k s₃ => ∃ i ρ₃ m₃ H₃, Step ρ s ρ₃ s₃ ∧ Sim w KF fi env m₃ F ρ₃ H₃ s₃.heap s₃.gens ∧ St i ρ₃ s₃.heap ∧ FpOff fi env F ρ₃ fp ∧ J i m₃ H₃ ∧ i ≤ xs.length ∧ k = xs.length + 1 - i) ?_ (xs.length + 1) ⟨0, ρ₁, m, H₁, st₂, S₂, hSt, off₂, hJ0, Nat.zero_le _, rfl⟩
      rintro k s₃ ⟨i, ρ₃, m₃, H₃, st₃, S₃, hSt₃, off₃, hJ, hi, rfl⟩
      by_cases hlt : i < xs.length
      · refine wpU_mono (up (IT.item _ _ ρ₃ H₃ s₃ i xs[i] (fun _ _ => False) hA.hd S₃.toH (hJG _ _ _ hJ) hSt₃ (List.getElem?_eq_getElem hlt))) (fun r s₄ hq => ?_) fun _ _ x => x
        obtain ⟨v, e, rv, hSt₄, c₄⟩ := hq
        subst e
        have S₄ := S₃.chg off₃ c₄
        refine wpU_mono (up (IT.lot _ (i + 1) ρ₃ s₄ target v (fun _ _ => False) hSt₄)) (fun _ s₅ hq => ?_) fun _ _ x => x
        obtain ⟨hSt₅, c₅⟩ := hq
        have S₅ := S₄.chg off₃ c₅
        have st₅ := (st₃.trans c₄.step).trans c₅.step
        have hl := IT.live _ _ _ hSt₅
        refine wpU_mono (up (hT i _ m₃ H₃ (List.getElem?_eq_getElem hlt) hJ _ env _ ρ₃ s₅ v hA (S₅.rebase off₃) (rv.mono (List.prefix_refl _) c₅.2.2.1))) (fun _ s₆ hq => ?_) fun _ _ x => se_no x
        obtain ⟨ρ₆, H₆, m₆, st₆, S₆, h₆⟩ := hq
        have st₆' := st₅.trans st₆
        refine wpU_mono ((show WBU prog w KF fi d E m₆ H₆ body (KFor J i Q) from h₆) _ env _ ρ₆ s₆ hA S₆) (fun f s₇ hq => ?_) fun _ _ x => se_no x
        obtain ⟨ρ₇, H₇, m₇, fl, st₇, S₇, rf, h₇⟩ := hq
        obtain ⟨U, offU, kU⟩ := S₅.unbase off₃ hl (st₆.trans st₇).1 (st₆.trans st₇).2.2.2 S₇
        have st₇' := st₆'.trans st₇
        have hSt₇ : St (i + 1) ρ₇ s₇.heap := IT.frame _ _ _ _ _ hSt₅ (st₆.trans st₇).1 (st₆.trans st₇).2.1 kU
        cases fl with
        | next => cases rf; exact ⟨xs.length + 1 - (i + 1), by omega, i + 1, ρ₇, m₇, H₇, st₇', U, hSt₇, offU, h₇, hlt, rfl⟩
        | cont => cases rf; exact ⟨xs.length + 1 - (i + 1), by omega, i + 1, ρ₇, m₇, H₇, st₇', U, hSt₇, offU, h₇, hlt, rfl⟩
        | brk => cases rf; exact ⟨ρ₇, H₇, m₇, .next, st₇', U, rfl, h₇⟩
        | ret v => obtain ⟨u, rfl, r⟩ := rf; exact ⟨ρ₇, H₇, m₇, .ret v, st₇', U, ⟨u, rfl, r⟩, h₇⟩
      · have hin : i = xs.length := by omega
        subst hin
        refine wpU_mono (up (IT.done _ _ ρ₃ H₃ s₃ (fun _ _ => False) hA.hd S₃.toH (hJG _ _ _ hJ) hSt₃)) (fun r s₄ hq => ?_) fun _ _ x => x
        obtain ⟨e, c₄⟩ := hq
        subst e
        exact ⟨ρ₃, H₃, m₃, .next, st₃.trans c₄.step, S₃.chg off₃ c₄, rfl, hD _ _ hJ⟩
    · cases r with
      | ok f => exact wpU_pure (M := model prog w) hq
      | error e => exact hq.elim
end
end Mine
end
section
open PySem PySem.W PyProof.Rows PySem.W.X PySem.SeqAt
namespace Mine
section
variable {prog : Program} {w : World} {A : Around} {s : Shared} {R : Result → Shared → Prop}
theorem codeU_func {body : List Stmt} {env : Env} (h : wpU (model prog w) (A.deeper env) (execs body env) (fun f s' => R (.ok (.ret (match f with | .ret v => v | _ => .none))) s') (fun _ _ => False) s) : codeU (model prog w) A (.func body env) R s := by
  refine codeU_of ?_
  show wpU _ (A.deeper env) (do point; match ← (execs body env).onRaise (leaving env) with | .ret v => ret v | _ => ret .none) _ _ s
  refine wpU_bind (up (wpAny_point (wpU_bind (wpU_onRaise (wpU_mono h (fun f s' h' => ?_) fun _ _ x => x.elim)))))
  cases f <;> exact wpU_pure h'
theorem codeU_call {a : Addr} {args : Args} {o : Obj} {fd : FuncData} {body : List Stmt} {E : Value → Shared → Prop} (hroom : A.depth < recursionLimit) (ho : s.heap.get? a = some o)
    (hd' : o.data = .func fd) (hco : fd.scope.isCoroutine = false) (hgen : fd.scope.isGenerator = false) (hbody : fd.body = .stmts body) (hcd : s.heap.CodeRec fd.code fd.qualname)
    (h : wpAny (model prog w) A.in1 (bindArgs fd args) (fun binds s₁ =>
      wpAny (model prog w) A.in1 (newFunctionEnv fd.scope fd.globals fd.closure binds (fd.qualname ++ ".<locals>.") (some a) fd.code none fd.builtins)
        (fun env s₂ => s₂.heap.NoLimit ∧ codeU (model prog w) A (.func body env) R s₂) (fun e s' => R (.error e) s') s₁) (fun e s' => R (.error e) s') s) :
    codeU (model prog w) A (.call (.ref a) args) R s := by
  refine codeU_of (up ?_)
  show wpAny _ A.in1 (callAny (.ref a) args) _ _ s
  simp only [callAny]
  refine wpAny_bind (wpAny_load ho ?_)
  obtain ⟨c, oc, vs, tq, hc, hoc, hdc, hq⟩ := hcd
  simp only [hd', callFunction, hco, hgen, hbody, hc]
  rw [hc] at h
  refine wpAny_bind (m := field (.ref c) 1) (wpAny_field hoc hdc hq (wpAny_bind (wpAny_pure ?_)))
  refine wpAny_bind (wpAny_mono h (fun binds s₁ h₁ => wpAny_bind (wpAny_mono h₁ (fun env s₂ h₂ => ?_) fun _ _ x => x)) fun _ _ x => x)
  exact wpAny_bind (wpAny_enterFrame h₂.1 hroom (wpAny_pure ⟨rfl, h₂.2⟩))
theorem wpU_runValue {c : Code} {Q : Value → Shared → Prop} {E : Value → Shared → Prop} (h : codeU (model prog w) A c (fun r s' => match r with | .ok (.ret v) => Q v s' | .ok _ => False | .error e => E e s') s) : wpU (model prog w) A (runValue c) Q E s := by
  unfold runValue
  refine wpU_bind ?_
  unfold run
  refine wpU_callT (h := none) (codeU_mono h fun r s' hq => ?_) (fun q => nomatch q)
  cases r with
  | error e => exact wpU_throw hq
  | ok f =>
    cases f with
    | ret v => exact wpU_pure (M := model prog w) (wpU_pure hq)
    | _ => exact hq.elim
end
section
variable {prog : Program} {w : World} {KF : Frag} {d : Nat} {E : HEP} {H : List O} {a : Nat} {o : Obj} {fd : FuncData} {body : List Stmt} {sc : Scope} {ps : List Str} {xs : List V}
/-- a function called whose body drives such a generator -/
theorem wu_fn {Q : V → List O → Prop} (K : FnOk KF a o fd body sc ps) (hgen : sc.isGenerator = false) (hlen : xs.length = ps.length)
    (h : WBU prog w KF ⟨sc, true, fd.code⟩ d (fun _ _ _ => False) (initN sc ps xs) H body (KFn Q)) : CallU prog w KF (d + 1) E H (.st a) xs Q :=
  fun A F ρ s u us hA S ru r => by
    have hsc := K.hsc
    subst hsc
    unfold VR at ru
    subst ru
    obtain ⟨ho, hcd⟩ := fn_code K.toFnB S.b
    have hul : us.length = ps.length := r.len.trans hlen
    refine wpU_runValue (codeU_call (E := fun _ _ => False) hA.depth ho K.hd K.hco hgen K.hb hcd ?_)
    rw [K.hbd us hul, K.hcl]
    refine wpAny_pure (wpAny_newFunctionEnv_cells K.hk (fun x hx => ?_) fun env he s₁ X => ?_)
    · have hx1 : x.1 ∈ ps := by rw [← zip_keys hul]; exact List.mem_map.mpr ⟨x, hx, rfl⟩
      rcases K.hkd x.1 hx1 with q | q
      · exact .inl q
      · obtain ⟨c, hc⟩ := cells_has (n := s.heap.objs.size + 1) (mem_of_lookup q)
        exact .inr ⟨q, by rw [nodup_lookup (cells_nodup K.hnd) hc]; rfl⟩
    · subst he
      obtain ⟨st₁, S₁⟩ := enter_sim K.toFnB hlen S r X
      refine ⟨S₁.b.lim, codeU_func ?_⟩
      refine wpU_mono (h _ _ F ρ s₁ (hA.deeper _) S₁) (fun f s₂ hq => ?_) (fun _ _ x => (se_no x).elim)
      obtain ⟨ρ₂, H₂, m₂, fl, st₂, S₂, rf, h₂⟩ := hq
      cases fl with
      | next => cases rf; exact ⟨ρ₂, H₂, .none, st₁.trans st₂, S₂.hs, by unfold VR; rfl, h₂⟩
      | ret v => obtain ⟨u, rfl, r⟩ := rf; exact ⟨ρ₂, H₂, v, st₁.trans st₂, S₂.hs, r, h₂⟩
      | brk => exact h₂.elim
      | cont => exact h₂.elim
end
end Mine
end
section
open PySem PySem.W PyProof.Rows PySem.W.X PySem.SeqAt
namespace Mine
section
variable {prog : Program} {w : World} {A : Around} {s : Shared} {R : Result → Shared → Prop} {E : Value → Shared → Prop}
theorem codeU_builtin {id : String} {args : Args} {b : Builtin} (hb : entryFor table id = some b) (h : wpU (model prog w) (A.under (.builtin id args)) (b args) (finU (model prog w) A R) (fun e s' => R (.error e) s') s) : codeU (model prog w) A (.builtin id args) R s := by
  refine codeU_of ?_
  show wpU _ _ (match entryFor table id with | some b => b args | none => unsupported ((withoutEnding? id "#data").getD id)) _ _ s
  rw [hb]; exact h
theorem codeU_call_builtin {id : String} {args : Args} {b : Builtin} (hq : plainId id = true) (hb : entryFor table id = some b)
    (h : wpAny (model prog w) A.in1 (checkBuiltinCall id args) (fun _ s₁ => wpU (model prog w) A.in1 (b args) (finU (model prog w) A R) (fun e s' => R (.error e) s') s₁) (fun e s' => R (.error e) s') s) : codeU (model prog w) A (.call (.builtin id) args) R s := by
  refine codeU_of ?_
  show wpU _ A.in1 (do checkBuiltinCall id args; again (.builtin id args)) _ _ s
  refine wpU_bind (up (wpAny_mono h (fun _ s₁ h₁ => ?_) fun _ _ x => x))
  exact wpU_pure (M := model prog w) ⟨plainId_quiet hq args, codeU_builtin hb (by rw [Around.under_plainId hq args]; exact h₁)⟩
theorem wpU_ite_false {α : Type} {b : Prop} [Decidable b] {x y : Sem α} {Q : α → Shared → Prop} (hb : ¬ b) (h : wpU (model prog w) A y Q E s) : wpU (model prog w) A (if b then x else y) Q E s := by rw [if_neg hb]; exact h
theorem wpU_ite_true {α : Type} {b : Prop} [Decidable b] {x y : Sem α} {Q : α → Shared → Prop} (hb : b) (h : wpU (model prog w) A x Q E s) : wpU (model prog w) A (if b then x else y) Q E s := by rw [if_pos hb]; exact h
theorem call_listU {x : Value} {Q : Value → Shared → Prop}
    (hI : ∀ s₁ : Shared, s₁ = { s with heap := s.heap.push { cls := .type "list", data := .seq #[] } } → wpU (model prog w) A.in1.in1 (Builtin.«list.__init__» ⟨[.ref s.heap.objs.size, x], []⟩) (finU (model prog w) A.in1 (fun r s' => match r with | .ok (.ret .none) => Q (.ref s.heap.objs.size) s' | .error e => E e s' | _ => False)) (fun e s' => E e s') s₁) : wpU (model prog w) A (call (.type "list") [x]) Q E s := by
  obtain ⟨c, tl, hmro⟩ := F.called_list.mro
  have hmade := F.called_list.made
  have hsub := F.called_list.sub
  have hct := F.typeCall_list_1 x
  have h1 := F.called_list.notType
  have h2 := F.called_list.canCreate
  refine wpU_runValue (codeU_of ?_)
  show wpU _ _ (callAny (.type "list") _) _ _ _
  refine wpU_pure (M := model prog w) ⟨Code.quiet_builtin _ (by decide +kernel), codeU_builtin F.entry_type_call ?_⟩
  rw [Around.under_plain (weight_type_call_type "list" [x] []) rfl]
  unfold Builtin.«type.__call__»
  dsimp only
  refine wpU_ite_false (by simp [h1]) ?_
  refine wpU_ite_false (by simp [h2]) ?_
  refine wpU_bind (up (wpAny_of_eq hct ?_))
  refine wpU_bind (up (wpAny_of_eq hmro ?_))
  refine wpU_ite_false (by simp) ?_
  refine wpU_bind (up (wpAny_of_eq hmade ?_))
  refine wpU_bind (up (wpAny_pure ?_))
  refine wpU_bind (wpU_holding (up (wpAny_call (codeAny_mono (code_list_new (Q₁ := fun obj s₁ => obj = .ref s.heap.objs.size ∧ s₁ = { s with heap := s.heap.push { cls := .type "list", data := .seq #[] } }) (E := fun _ _ => False) x ⟨rfl, rfl⟩) fun r s₁ hr => ?_))))
  cases r with
  | error e => exact (show False from hr).elim
  | ok fl =>
    cases fl with
    | ret obj =>
      obtain ⟨rfl, rfl⟩ := (show obj = _ ∧ s₁ = _ from hr)
      have hS : (s.heap.push { cls := .type "list", data := .seq #[] }).get? s.heap.objs.size = some { cls := .type "list", data := .seq #[] } := Heap.get?_push_size _ rfl
      have hT : ({ s with heap := s.heap.push { cls := .type "list", data := .seq #[] } } : Shared).TypeIs (.ref s.heap.objs.size) "list" := ⟨_, hS, rfl⟩
      show wpU _ _ _ _ _ _
      refine wpU_bind (up (wpAny_isInstance hT hsub ?_))
      refine wpU_ite_false (by simp) ?_
      refine wpU_bind (wpU_holding ?_)
      have hli := F.called_list.init.lookup
      have hbi := F.called_list.init.bind (.ref s.heap.objs.size)
      simp only [callSpecial?]
      refine wpU_bind (up (wpAny_specialOf hT hli ?_))
      simp only [hbi]
      refine wpU_holding (wpU_bind (up (wpAny_pure (wpU_bind (wpU_runValue (codeU_call_builtin F.called_list.init.plain F.entry_list_init (F.called_list.init.check _ _ _ _ _ _ _ _ hT (F.args_list_init_2 _ _) (wpU_mono (hI _ rfl) (fun fin s₂ hq => ?_) fun _ _ q => q))))))))
      cases fin with
      | again c => exact ⟨hq.1, codeU_mono hq.2 fun r s₃ hr => by
          cases r with
          | error e => exact hr
          | ok fl =>
            cases fl with
            | ret v =>
              cases v with
              | none => exact wpU_pure (M := model prog w) (wpU_ite_false (by simp) (wpU_pure (M := model prog w) hr))
              | _ => exact (show False from hr).elim
            | _ => exact (show False from hr).elim⟩
      | done f =>
        cases f with
        | ret v =>
          cases v with
          | none => exact wpU_pure (M := model prog w) (wpU_ite_false (by simp) (wpU_pure (M := model prog w) hq))
          | _ => exact (show False from hq).elim
        | _ => exact (show False from hq).elim
    | _ => exact (show False from hr).elim
end
/-- a generator drawn to its end, into the list at S -/
structure DrainU (prog : Program) (w : World) (A : Around) (I S n : Nat) (P : Nat → Value → Prop) (St : Nat → Shared → Prop) (Fn : Shared → Prop) : Prop where
  ty : ∀ i s, St i s → s.TypeIs (.ref I) "generator"
  frame : ∀ i s s', St i s → (∀ b o, b ≠ S → s.heap.get? b = some o → s'.heap.get? b = some o) → (∃ acc c, s'.heap.get? S = some (listO acc c)) → s'.gens = s.gens → s'.os = s.os → St i s'
  item : ∀ i (s : Shared), i < n → St i s → wpU (model prog w) A (pyNext (.ref I)) (fun r s' => ∃ v, r = some v ∧ P i v ∧ St (i + 1) s' ∧ ∀ o, s.heap.get? S = some o → s'.heap.get? S = some o) (fun _ _ => False) s
  done : ∀ (s : Shared), St n s → wpU (model prog w) A (pyNext (.ref I)) (fun r s' => r = none ∧ Fn s' ∧ ∀ o, s.heap.get? S = some o → s'.heap.get? S = some o) (fun _ _ => False) s
  self : ∀ i (s : Shared) (Q : Value → Shared → Prop) (E : Value → Shared → Prop), St i s → Q (.ref I) s → wpAny (model prog w) A (pyIter (.ref I)) Q E s
section
variable {prog : Program} {w : World} {A : Around} {I S n : Nat} {P : Nat → Value → Prop} {St : Nat → Shared → Prop} {Fn : Shared → Prop}
theorem drain_loopU {R : Result → Shared → Prop} (W : DrainU prog w A.in1 I S n P St Fn) (hn : n ≤ sizeLine) (res : Value) (hR : ∀ s' acc c, Fn s' → s'.heap.get? S = some (listO acc c) → ItemsOf P acc n → R (.ok (.ret res)) s') :
    ∀ (k i : Nat) (s : Shared) (acc : Array Value) (c : Nat), n - i = k → i ≤ n → St i s → s.heap.get? S = some (listO acc c) → ItemsOf P acc i →
    codeU (model prog w) A (.builtin "list.extend.loop" ⟨[.ref S, .ref I, res], []⟩) R s := by
  intro k
  induction k with
  | zero =>
    intro i s acc c hk hi hst hS hacc
    have hin : i = n := by omega
    subst hin
    refine codeU_builtin F.entry_extend_loop ?_
    rw [Around.under_plainId F.plain_extend_loop _]
    show wpU _ A.in1 (pyNext (.ref I) >>= _) _ _ s
    refine wpU_bind (wpU_mono (W.done s hst) (fun r s' hq => ?_) fun _ _ x => x.elim)
    obtain ⟨rfl, hm, hk'⟩ := hq
    exact wpU_pure (M := model prog w) (hR s' acc c hm (hk' _ hS) hacc)
  | succ k ih =>
    intro i s acc c hk hi hst hS hacc
    have hlt : i < n := by omega
    refine codeU_builtin F.entry_extend_loop ?_
    rw [Around.under_plainId F.plain_extend_loop _]
    show wpU _ A.in1 (pyNext (.ref I) >>= _) _ _ s
    refine wpU_bind (wpU_mono (W.item i s hlt hst) (fun r s' hq => ?_) fun _ _ x => x.elim)
    obtain ⟨v, rfl, hP, hst', hk'⟩ := hq
    have hS' := hk' _ hS
    show wpU _ A.in1 (updateSeq S (·.push v) >>= _) _ _ _
    refine wpU_bind (up ?_)
    have hS₂ := Heap.get?_update_self (h := s'.heap) (a := S) (Obj.mapSeq (·.push v)) hS' rfl
    refine wpAny_updateSeq hS' rfl (wpU_pure (M := model prog w) ⟨plainId_quiet F.plain_extend_loop _, ih (i + 1) _ (acc.push v) _ (by omega) hlt
      (W.frame _ s' _ hst' (fun b o hb e => (Heap.get?_update_other _ _ (Ne.symm hb)).trans e) ⟨_, _, hS₂⟩ rfl rfl) hS₂ (hacc.push hP)⟩) (by rw [hacc.1]; omega) (by show (acc.push v).size ≤ sizeLine + 1; rw [Array.size_push, hacc.1]; omega)
theorem drain_initU {R : Result → Shared → Prop} {E : Value → Shared → Prop} {s : Shared} (W : DrainU prog w A.in1 I S n P St Fn) (hst : St 0 s) (hSI : S ≠ I) (hS : s.heap.get? S = some (listO #[] 0))
    (hR : ∀ s' acc c, Fn s' → s'.heap.get? S = some (listO acc c) → ItemsOf P acc n → R (.ok (.ret .none)) s') (hn : n ≤ sizeLine) :
    wpU (model prog w) A.in1 (Builtin.«list.__init__» ⟨[.ref S, .ref I], []⟩) (finU (model prog w) A R) E s := by
  show wpU _ A.in1 (do let old ← Builtin.List.listItems (.ref S); Builtin.List.listUpdate (.ref S) (fun _ => #[]); letGo old.toList.reverse; Builtin.List.listExtendWith (.ref S) (.ref I) .none) _ _ s
  refine wpU_bind (up ?_)
  unfold Builtin.List.listItems
  refine wpAny_bind (wpAny_seqItems hS rfl (wpAny_pure ?_))
  show wpU _ A.in1 (updateSeq S (fun _ => #[]) >>= fun _ => letGo (#[] : Array Value).toList.reverse >>= fun _ => Builtin.List.listExtendWith (.ref S) (.ref I) .none) _ _ s
  refine wpU_bind (up (wpAny_updateSeq hS rfl (wpU_bind (up (wpAny_letGo ?_)))))
  have hS₁ := Heap.get?_update_self (h := s.heap) (a := S) (Obj.mapSeq (fun _ => (#[] : Array Value))) hS rfl
  have st₁ : St 0 { s with heap := s.heap.update S (Obj.mapSeq (fun _ => (#[] : Array Value))) } := W.frame 0 s _ hst (fun b o hb e => (Heap.get?_update_other _ _ (Ne.symm hb)).trans e) ⟨_, _, hS₁⟩ rfl rfl
  unfold Builtin.List.listExtendWith
  refine wpU_bind (up (wpAny_typeOf (W.ty 0 _ st₁) ?_))
  have h1 : Builtin.List.listSameRef (.ref S) (.ref I) = false := by simp [Builtin.List.listSameRef, hSI]
  have h2 : (Value.type "generator" == Value.type "list") = false := by decide
  have h3 : (Value.type "generator" == Value.type "tuple") = false := by decide
  simp only [h1, h2, h3, Bool.or_false, Bool.false_eq_true, if_false]
  refine wpU_bind (up (W.self 0 _ _ _ st₁ ?_))
  refine wpU_bind (wpU_holding (up ?_))
  unfold Builtin.List.listLengthHint
  refine wpAny_bind (wpAny_specialOf (W.ty 0 _ st₁) F.gen_no_len ?_)
  show wpAny _ A.in1 (specialOf (Value.ref I) (Str.ofString "__length_hint__") >>= _) _ _ _
  refine wpAny_bind (wpAny_specialOf (W.ty 0 _ st₁) F.gen_no_hint ?_)
  refine wpAny_pure ?_
  show wpU _ A.in1 (rule "list.extend.makes-room" >>= fun _ => Builtin.List.listTouch (.ref S) >>= fun _ =>
    again (.builtin "list.extend.loop" ⟨[.ref S, .ref I, .none], []⟩)) _ _ _
  refine wpU_bind (up (wpAny_rule (wpU_bind (up ?_))))
  show wpAny _ A.in1 (updateSeq S (·.push .none) >>= fun _ => updateSeq S (·.pop)) _ _ _
  refine wpAny_bind (wpAny_updateSeq hS₁ rfl ?_)
  have hS₂ := Heap.get?_update_self (Obj.mapSeq (·.push Value.none)) hS₁ rfl
  refine wpAny_updateSeq (hz := by seq_fits) hS₂ rfl ?_
  have hS₃ := Heap.get?_update_self (Obj.mapSeq (·.pop)) hS₂ rfl
  exact wpU_pure (M := model prog w) ⟨plainId_quiet F.plain_extend_loop _, drain_loopU W hn _ hR n 0 _ _ _ rfl (Nat.zero_le _)
    (W.frame 0 _ _ st₁ (fun b o hb e => (Heap.get?_update_other _ _ (Ne.symm hb)).trans ((Heap.get?_update_other _ _ (Ne.symm hb)).trans e)) ⟨_, _, hS₃⟩ rfl rfl) hS₃ (ItemsOf.nil P)⟩
theorem drain_listU {s : Shared} {Q : Value → Shared → Prop} {E : Value → Shared → Prop} (W : DrainU prog w A.in1.in1 I s.heap.objs.size n P St Fn) (hI : I < s.heap.objs.size) (hn : n ≤ sizeLine)
    (hst : St 0 { s with heap := s.heap.push { cls := .type "list", data := .seq #[] } })
    (hQ : ∀ s' acc c, Fn s' → s'.heap.get? s.heap.objs.size = some (listO acc c) → ItemsOf P acc n → Q (.ref s.heap.objs.size) s') : wpU (model prog w) A (call (.type "list") [.ref I]) Q E s := by
  refine call_listU fun s₁ h₁ => ?_
  subst h₁
  have hS : (s.heap.push { cls := .type "list", data := .seq #[] }).get? s.heap.objs.size = some { cls := .type "list", data := .seq #[] } := Heap.get?_push_size _ rfl
  exact drain_initU W hst (Nat.ne_of_gt hI) hS (fun s' acc c hm hS' hacc => hQ s' acc c hm hS' hacc) hn
end
end Mine
end
section
open PySem PySem.W PyProof.Rows PySem.W.X PySem.SeqAt
namespace Mine
/-- what is asked where a generator gives a value; where it ends -/
noncomputable abbrev YP := Value → GenState → Shared → Prop
/-- the run of a generator's body, the frames fs above its own frame, to its next yield or its end -/
noncomputable def SegU (M : Model) (A : Around) (Y : YP) (R : Result → Shared → Prop) (c : Code) (t : Sem Fin) (fs : List Frame) (s : Shared) : Prop :=
  ∀ (p : Pos) (st : List Frame) (g : Nat) (k : GenResult → Sem Fin) (l : List Value) (c₁ : Code) (p₁ : Pos) (Φ : Shared → Thread → Prop), (Ctx.of c₁ st).In A →
    (∀ v gs' s', Y v gs' s' → EvM M Φ (s'.setGen g gs') ⟨k (.yielded v), c₁, p₁, st⟩) → (∀ r s', R r s' → EvM M Φ (s'.setGen g .finished) ⟨k (End.ret r).result, c₁, p₁, st⟩) → EvM M Φ s ⟨t, c, p, fs ++ .gen g k l c₁ p₁ :: st⟩
/-- a generator's state, woken by a next() -/
noncomputable def GoesU (M : Model) (A : Around) (Y : YP) (R : Result → Shared → Prop) (gs : GenState) (s : Shared) : Prop := match gs with
  | .fresh c => SegU M A Y R c (M.den c) [] s
  | .suspended k _ c _ fs _ => SegU M A Y R c (k (.send .none)) fs s
  | _ => False
theorem gen_ctx {A : Around} {c c₁ : Code} {fs st : List Frame} {g : Nat} {k : GenResult → Sem Fin} {l : List Value} {p₁ : Pos} (h : (Ctx.of c₁ st).In A) : (Ctx.of c (fs ++ .gen g k l c₁ p₁ :: st)).In (A.over c fs) := by
  rw [Ctx.of_append]
  have e : Ctx.of c (.gen g k l c₁ p₁ :: st) = (Ctx.of c₁ st).wake c p₁ := (ctx_fits (Ctx.Fits.wake (Ctx.fits_of c₁ st) c g k l p₁)).symm
  rw [e]
  exact (h.wake c p₁).over fs
section
variable {M : Model} {A : Around} {Y : YP} {R : Result → Shared → Prop} {c : Code} {fs : List Frame} {s : Shared}
theorem segU_wrap {α : Type} {m : Sem α} {K : α → Sem Fin} {H : Value → Sem Fin} {gd lv} (h : wpU M (A.over c fs) m (fun a s' => SegU M A Y R c (K a) fs s') (fun x s' => SegU M A Y R c (H x) fs s') s) : SegU M A Y R c (m.wrap K H gd lv) fs s :=
  fun p st g k l c₁ p₁ Φ hin hY hR => h c p _ (gen_ctx hin) K H gd lv Φ (fun a p' s' q => q p' st g k l c₁ p₁ Φ hin hY hR) fun e p' s' q => q p' st g k l c₁ p₁ Φ hin hY hR
theorem segU_bind {α : Type} {m : Sem α} {K : α → Sem Fin} (h : wpU M (A.over c fs) m (fun a s' => SegU M A Y R c (K a) fs s') (fun x s' => SegU M A Y R c (.raise x) fs s') s) : SegU M A Y R c (m >>= K) fs s := by
  rw [Sem.bind_eq_wrap']; exact segU_wrap h
theorem segU_at {p' : Pos} {k : Unit → Sem Fin} (h : SegU M A Y R c (k ()) fs s) : SegU M A Y R c (.at p' k) fs s :=
  segU_wrap (m := standAt p') (K := k) (H := .raise) (gd := id) (lv := id) (wpU_standAt h)
theorem segU_point {l : List Value} {k : Unit → Sem Fin} (h : SegU M A Y R c (k ()) fs s) : SegU M A Y R c (.point l k) fs s :=
  segU_wrap (m := point) (K := k) (H := .raise) (gd := id) (lv := fun _ => l) (up (wpAny_point h))
theorem segU_call {c' : Code} {h g l} {k : Result → Sem Fin} (hc : ∀ p, SegU M A Y R c' (M.den c') (.ret k h g l c p [] :: fs) s) : SegU M A Y R c (.call c' h g l k) fs s :=
  fun p st g' k' l' c₁ p₁ Φ hin hY hR => ev_step (step_call M s c p _ c' h g l k) (hc p p st g' k' l' c₁ p₁ Φ hin hY hR)
theorem segU_leaf {k h g l c₁ p₁ kp} (r : Result) (hk : SegU M A Y R c₁ (k r) fs s) : SegU M A Y R c (leafOf r) (.ret k h g l c₁ p₁ kp :: fs) s :=
  fun p st g' k' l' c₂ p₂ Φ hin hY hR => ev_step (step_leaf_ret M s c p _ r k h g l c₁ p₁ kp) (hk p₁ st g' k' l' c₂ p₂ Φ hin hY hR)
theorem segU_again {c' : Code} (hq : c'.quiet = true) (hc : SegU M A Y R c' (M.den c') fs s) : SegU M A Y R c (.pure (.again c')) fs s :=
  fun p st g' k' l' c₁ p₁ Φ hin hY hR => ev_step (step_again M s c p _ c' hq) (hc p st g' k' l' c₁ p₁ Φ hin hY hR)
theorem segU_end (r : Result) (h : R r s) : SegU M A Y R c (leafOf r) [] s :=
  fun p st g' k' l' c₁ p₁ Φ hin hY hR => ev_step (step_leaf_gen M s c p st r g' k' l' c₁ p₁) (hR r s h)
theorem split_gen {fs st : List Frame} {g : Nat} {k : GenResult → Sem Fin} {l : List Value} {c₁ : Code} {p₁ : Pos} (h : splitAtGen fs = none) : splitAtGen (fs ++ .gen g k l c₁ p₁ :: st) = some (fs, (g, k, c₁, p₁), st) := by
  rw [splitAtGen_append_none _ h, splitAtGen_gen]
  simp
/-- a yield that shows nothing -/
theorem segU_yield {v : Value} {gf : Bool} {l : List Value} {k : Resume → Sem Fin} (hfs : splitAtGen fs = none) (hs : closing0 s fs c gf = false) (h : ∀ p, Y v (.suspended k l c p fs (gf || fs.any Frame.guarded)) s) : SegU M A Y R c (.yield v gf l k) fs s :=
  fun p st g' k' l' c₁ p₁ Φ hin hY hR => by
    refine Ev.step (t' := ⟨k' (.yielded v), c₁, p₁, st⟩) (s' := s.setGen g' (.suspended k l c p fs (gf || fs.any Frame.guarded))) ?_ ?_ (hY v _ s (h p))
    · unfold calm2 mutedYield
      dsimp only
      rw [split_gen hfs]
      dsimp only
      rw [hs]
      exact Bool.or_true _
    · simp only [PySem.stepK, PySem.step, split_gen hfs]
      rfl
theorem closing_plain {fs : List Frame} (h : fs.any Frame.guarded = false) : closing0 s fs c false = false := by unfold closing0; rw [h]; rfl
/-- out of «yield from» a generator object -/
theorem closing_from {fs : List Frame} {a : Addr} {rest : List Value} {kw : List (Str × Value)} {o : Obj} (h : fs.any Frame.guarded = false) (ho : s.heap.get? a = some o) (hg : o.genNumber?.isSome = true) (gf : Bool) : closing0 s fs (.builtin "proto.yield_from" ⟨.ref a :: rest, kw⟩) gf = false := by
  unfold closing0
  rw [h]
  show (gf && delegate0 s (.ref a)) = false
  unfold delegate0
  dsimp only
  rw [ho]
  dsimp only
  rw [hg]
  cases gf <;> rfl
end
end Mine
end
section
open PySem PySem.W PyProof.Rows PySem.W.X PySem.SeqAt
namespace Mine
/-- a generator object; k delegators sleep over it -/
noncomputable def GenAt (h : Heap) (a : Addr) (g : Nat) (k : Int) : Prop :=
  ∃ o nm qn, h.get? a = some o ∧ o.cls = .type "generator" ∧ o.data = .fields #[.int g 0, nm, qn] ∧ ((o.slots = #[] ∧ k = 0) ∨ o.slots = #[some (rawInt k)])
theorem GenAt.of {h : Heap} {a : Addr} {g : Nat} (x : h.IsGen a g) : GenAt h a g 0 := let ⟨o, nm, qn, h1, h2, h3, h4⟩ := x; ⟨o, nm, qn, h1, h2, h3, .inl ⟨h4, rfl⟩⟩
theorem GenAt.at {h h' : Heap} {a : Addr} {g : Nat} {k : Int} (x : GenAt h a g k) (hk : ∀ o, h.get? a = some o → h'.get? a = some o) : GenAt h' a g k := let ⟨o, nm, qn, h1, r⟩ := x; ⟨o, nm, qn, hk _ h1, r⟩
theorem GenAt.typeIs {s : Shared} {a g k} (x : GenAt s.heap a g k) : s.TypeIs (.ref a) "generator" := let ⟨o, _, _, ho, hc, _⟩ := x; ⟨o, ho, hc⟩
theorem GenAt.not_imm {h : Heap} {a g k} (x : GenAt h a g k) : ∀ o, h.get? a = some o → ¬ Imm o := fun o ho => by
  obtain ⟨o2, nm, qn, h2, hc, hd, _⟩ := x
  rw [h2] at ho; cases ho
  rintro (⟨⟨xs, n, q⟩, _⟩ | ⟨q, _⟩)
  · rw [hd] at q; cases q
  · rw [hc] at q; exact absurd q (by decide)
theorem close_gen : Slot "generator" "close" "generator.close" :=
  .of (owner := "generator") (n := "close") (by rw [typeLookup_type, builtinLookup_eq_fast]; kernel_rfl) (by decide +kernel) (by decide +kernel) (by decide +kernel)
    (by first | exact .inl (by decide +kernel) | exact .inr (by decide +kernel)) (by rw [isSubtype_type]; kernel_rfl)
section
variable {M : Model} {A : Around} {E : Value → Shared → Prop} {s : Shared}
theorem wpAny_genNumberK {a : Addr} {g : Nat} {Q : Nat → Shared → Prop} (hg : GenAt s.heap a g 0) (h : Q g s) : wpAny M A (Builtin.Generator.genNumber (.ref a)) Q E s := by
  obtain ⟨o, nm, qn, ho, _, hd, hsl⟩ := hg
  unfold Builtin.Generator.genNumber
  refine wpAny_bind (wpAny_load ho ?_)
  rcases hsl with ⟨hsl, _⟩ | hsl
  · rw [hsl, hd]
    show wpAny M A (pure ((g : Int).toNat)) Q E s
    rw [Int.toNat_natCast]; exact wpAny_pure h
  · rw [hsl, hd]
    show wpAny M A (pure ((g : Int).toNat)) Q E s
    rw [Int.toNat_natCast]; exact wpAny_pure h
/-- a delegator lies down over it, or gets up -/
theorem wpAny_sleptOver {a : Addr} {g : Nat} {k : Int} {more : Bool} {Q : Unit → Shared → Prop} (hg : GenAt s.heap a g k)
    (h : ∀ h', (∀ b o, b ≠ a → s.heap.get? b = some o → h'.get? b = some o) → GenAt h' a g (if more then k + 1 else k - 1) → Q () { s with heap := h' }) : wpAny M A (Builtin.Generator.sleptOver (.ref a) more) Q E s := by
  obtain ⟨o, nm, qn, ho, hc, hd, hsl⟩ := hg
  unfold Builtin.Generator.sleptOver
  refine wpAny_bind (wpAny_load ho ?_)
  have hcc : (o.cls != .type "generator") = false := by rw [hc]; decide
  rw [hcc]
  have key : ∀ n : Int, n = k → wpAny M A (setSlotAt a 0 (some (rawInt (if more then n + 1 else n - 1)))) Q E s := fun n hn => by
    subst hn
    unfold setSlotAt
    dsimp only
    rw [if_neg (show ¬ 0 ≥ sizeLine by decide)]
    refine wpAny_updatePart ho (h _ (fun b o' hb e => (Heap.get?_update_other _ _ (Ne.symm hb)).trans e) ?_)
    refine ⟨_, nm, qn, Heap.get?_update_self _ ho ?_, hc, hd, .inr ?_⟩
    · rw [hd]; rfl
    · rcases hsl with ⟨hsl, _⟩ | hsl
      · show (o.slots ++ _).setIfInBounds 0 _ = _
        rw [hsl]; rfl
      · show (o.slots ++ _).setIfInBounds 0 _ = _
        rw [hsl]; rfl
  rcases hsl with ⟨hsl, hk⟩ | hsl
  · rw [hsl]
    exact key 0 hk.symm
  · rw [hsl]
    exact key k rfl
end
section
variable {α : Type} {M : Model} {A : Around} {Y : YP} {R : Result → Shared → Prop} {E : Value → Shared → Prop} {s : Shared}
/-- a generator woken -/
theorem wpU_resume {g : Nat} {gs : GenState} {l : List Value} {k : GenResult → Sem α} {Q : α → Shared → Prop} (hgs : s.gens[g]? = some gs) (hgo : GoesU M A Y R gs (s.setGen g .running))
    (hY : ∀ v gs' s₁, Y v gs' s₁ → wpU M A (k (.yielded v)) Q E (s₁.setGen g gs')) (hR : ∀ r s₁, R r s₁ → wpU M A (k (End.ret r).result) Q E (s₁.setGen g .finished)) : wpU M A (.resume g (.send .none) l k) Q E s := by
  intro c p st hin K H gd lv Φ hK hH
  cases gs with
  | fresh c' =>
    refine ev_step (step_resume_fresh M s c p st (lv l) _ hgs) ?_
    exact hgo p st g (fun x => (k x).wrap K H gd lv) (lv l) c p Φ hin (fun v gs' s' hv => hY v gs' s' hv c p st hin K H gd lv Φ hK hH) fun r s' hr => hR r s' hr c p st hin K H gd lv Φ hK hH
  | suspended k₀ l₀ c₀ p₀ fs cl =>
    refine ev_step (step_resume_suspended M s c p st (.send .none) (lv l) _ hgs) ?_
    exact hgo p₀ st g (fun x => (k x).wrap K H gd lv) (lv l) c p Φ hin (fun v gs' s' hv => hY v gs' s' hv c p st hin K H gd lv Φ hK hH) fun r s' hr => hR r s' hr c p st hin K H gd lv Φ hK hH
  | running => exact hgo.elim
  | finished => exact hgo.elim
end
/-- a StopIteration without a value -/
noncomputable def StopAt (h : Heap) (a : Addr) : Prop := ∃ o vs, h.get? a = some o ∧ o.cls = .type "StopIteration" ∧ o.data = .fields vs ∧ vs[5]? = some .none
section
variable {prog : Program} {w : World} {A : Around} {Y : YP} {R : Result → Shared → Prop} {s : Shared}
theorem genWakeU {a : Addr} {g : Nat} {gs : GenState} {Q : Value → Shared → Prop} {E : Value → Shared → Prop} (hh : A.handled = none) (hl : s.heap.NoLimit) (hroom : A.depth < recursionLimit) (hg : GenAt s.heap a g 0) (hgs : s.gens[g]? = some gs)
    (hgo : GoesU (model prog w) A Y R gs (s.setGen g .running)) (hY : ∀ v gs' s₁, Y v gs' s₁ → Q v (s₁.setGen g gs')) (hR : ∀ r s₁, R r s₁ → r = .ok (.ret .none) ∧ ∀ h' e, Keep s₁.heap h' → StopAt h' e → E (.ref e) { s₁.setGen g .finished with heap := h' }) :
    wpU (model prog w) A (Builtin.Generator.genWake (.ref a) (.send .none)) (fun fin s' => ∃ v, fin = .done (.ret v) ∧ Q v s') E s := by
  unfold Builtin.Generator.genWake
  refine wpU_bind (up (wpAny_holding (wpAny_genNumberK hg (wpU_bind (up (wpAny_genState hgs ?_))))))
  cases gs with
  | running => exact hgo.elim
  | finished => exact hgo.elim
  | _ =>
    refine wpU_bind (up (wpAny_roomToWake hl hroom ?_))
    show wpU _ A (.resume g (.send .none) [] _) _ _ s
    refine wpU_resume hgs hgo (fun v gs' s₁ hv => ?_) (fun x s₁ hx => ?_)
    · exact wpU_pure ⟨v, rfl, hY v gs' s₁ hv⟩
    · obtain ⟨rfl, hp⟩ := hR _ _ hx
      refine up ?_
      show wpAny _ A (newExc (.type "StopIteration") [] >>= _) _ _ _
      refine wpAny_bind ?_
      simp only [newExc, newTuple]
      refine wpAny_bind (wpAny_newObj_type ?_ (by size_fits))
      refine wpAny_bind (m := firstArgMember _ _) (wpAny_of_eq (a := Value.none) (by first | rfl | (simp only [firstArgMember]; rfl)) ?_)
      refine wpAny_newObj_type ?_ (by size_fits)
      simp only [raiseNew]
      refine wpAny_bind (wpAny_bind (wpAny_handled ?_))
      rw [hh]
      refine wpAny_throw ?_
      exact hp _ _ (fun b o hb => Heap.get?_push_of_some _ (Heap.get?_push_of_some _ hb)) ⟨_, _, Heap.get?_push_size _ rfl, rfl, rfl, rfl⟩
/-- a generator's __next__, called by name -/
theorem special_nextU {a : Addr} {g : Nat} {gs : GenState} {Q : Option Value → Shared → Prop} {E : Value → Shared → Prop} (hh : A.handled = none) (hl : s.heap.NoLimit) (hroom : A.depth < recursionLimit) (hg : GenAt s.heap a g 0) (hgs : s.gens[g]? = some gs)
    (hgo : GoesU (model prog w) A.in1 Y R gs (s.setGen g .running)) (hY : ∀ v gs' s₁, Y v gs' s₁ → Q (some v) (s₁.setGen g gs')) (hR : ∀ r s₁, R r s₁ → r = .ok (.ret .none) ∧ ∀ h' e, Keep s₁.heap h' → StopAt h' e → E (.ref e) { s₁.setGen g .finished with heap := h' }) :
    wpU (model prog w) A (callSpecial? (.ref a) (Str.ofString "__next__")) Q E s := by
  simp only [callSpecial?]
  refine wpU_bind (up (wpAny_specialOf hg.typeIs slot_gen_next.lookup ?_))
  simp only [slot_gen_next.bind]
  refine wpU_holding (wpU_bind (up (wpAny_pure (wpU_bind (wpU_runValue (codeU_call_builtin slot_gen_next.plain entry_gen_next (slot_gen_next.check _ _ _ _ _ _ _ _ hg.typeIs (args_gen_next _) (wpU_mono (genWakeU (Q := fun v s' => Q (some v) s') (A := A.in1) hh hl hroom hg hgs hgo hY hR) (fun fin s₂ hq => ?_) fun _ _ q => q))))))))
  obtain ⟨v, rfl, hv⟩ := hq
  exact wpU_pure (M := model prog w) hv
theorem nextU {a : Addr} {g : Nat} {gs : GenState} {Q : Option Value → Shared → Prop} {E : Value → Shared → Prop} (hh : A.handled = none) (hl : s.heap.NoLimit) (hroom : A.depth < recursionLimit) (hg : GenAt s.heap a g 0) (hgs : s.gens[g]? = some gs)
    (hgo : GoesU (model prog w) A.in1 Y R gs (s.setGen g .running)) (hY : ∀ v gs' s₁, Y v gs' s₁ → Q (some v) (s₁.setGen g gs')) (hR : ∀ r s₁, R r s₁ → r = .ok (.ret .none) ∧ ∀ h', Keep s₁.heap h' → Q none { s₁.setGen g .finished with heap := h' }) :
    wpU (model prog w) A (pyNext (.ref a)) Q E s := by
  unfold pyNext
  refine wpU_bind (wpU_attempt (special_nextU hh hl hroom hg hgs hgo (fun v gs' s₁ hv => ?_) (fun r s₁ hr => ⟨(hR r s₁ hr).1, fun h' e hk he => ?_⟩)))
  · exact wpU_pure (M := model prog w) (hY v gs' s₁ hv)
  · obtain ⟨o, vs, ho, hc, _⟩ := he
    refine up (wpAny_bind (wpAny_isInstance (T := "StopIteration") (b := true) ⟨_, ho, hc⟩ isSubtype_stop ?_))
    exact wpAny_pure ((hR r s₁ hr).2 _ hk)
end
end Mine
end
section
open PySem PySem.W PyProof.Rows PySem.W.X PySem.SeqAt
namespace Mine
/-- what is fixed while a generator's body runs: its frame, its base; what others may touch while it sleeps: objects, generators' numbers -/
structure GU where
  w : World
  KF : Frag
  fi : FI
  env : Env
  F : Base
  out : List Nat
  gout : List Nat
  ρI : List Ent
  sI : Shared
/-- what a body's loops hold -/
structure Held where
  hl : List Nat
  P : List Ent → Heap → Prop
  ok : ∀ ρ ρ' h h', P ρ h → ρ <+: ρ' → TK h h' → (∀ b ∈ hl, ∀ o, h.get? b = some o → h'.get? b = some o) → P ρ' h'
noncomputable def Held.nil : Held := ⟨[], fun _ _ => True, fun _ _ _ _ _ _ _ _ => trivial⟩
/-- the state between two steps of the body -/
structure SIU (X : GU) (L : Held) (m : Names) (H : List O) (ρ : List Ent) (s : Shared) : Prop where
  st : Step X.ρI X.sI ρ s
  sim : Sim X.w X.KF X.fi X.env m X.F ρ H s.heap s.gens
  off : FpOff X.fi X.env X.F ρ (L.hl ++ X.out)
  live : ∀ b ∈ L.hl ++ X.out, ∃ o, s.heap.get? b = some o
  dj : ∀ b ∈ L.hl, b ∉ X.out
  p : L.P ρ s.heap
  gs : ∀ g ∈ X.gout, g < s.gens.size
  gx : ∀ e ∈ ρ, e.fp ≠ [] → ∀ x, e.g = some x → x.1 ∉ X.gout
structure LvU (X : GU) (s : Shared) : Prop where
  lim : s.heap.NoLimit
  live : ∀ b ∈ X.out, ∃ o, s.heap.get? b = some o
  gs : ∀ g ∈ X.gout, g < s.gens.size
/-- what others may do while it sleeps -/
structure LkU (X : GU) (s s' : Shared) : Prop where
  old : ∀ b o, b ∉ X.out → s.heap.get? b = some o → s'.heap.get? b = some o
  live : ∀ b ∈ X.out, ∃ o, s'.heap.get? b = some o
  tk : TK s.heap s'.heap
  lim : s'.heap.NoLimit
  os : s'.os = s.os
  bare : ∀ (k : Nat) z, s'.gens[k]? = some z → z.bare = true ∨ s.gens[k]? = some z
  gk : ∀ k, k ∉ X.gout → ∀ z, s.gens[k]? = some z → s'.gens[k]? = some z
  sz : s.gens.size ≤ s'.gens.size
noncomputable def KpU (X : GU) (s s' : Shared) : Prop := ∀ b ∈ X.out, ∀ o, s.heap.get? b = some o → s'.heap.get? b = some o
section
variable {X : GU} {L : Held} {m m' : Names} {H H' : List O} {ρ ρ' : List Ent} {s s' s'' : Shared}
theorem KpU.refl : KpU X s s := fun _ _ _ e => e
theorem KpU.trans (a : KpU X s s') (b : KpU X s' s'') : KpU X s s'' := fun c hc o e => b c hc o (a c hc o e)
theorem SIU.lv (Z : SIU X L m H ρ s) : LvU X s := ⟨Z.sim.b.lim, fun b hb => Z.live b (List.mem_append_right _ hb), Z.gs⟩
theorem gx_new {gout : List Nat} (gs : ∀ g ∈ gout, g < s.gens.size) (gx : ∀ e ∈ ρ, e.fp ≠ [] → ∀ x, e.g = some x → x.1 ∉ gout) (p : ρ <+: ρ') (n : New s.gens.size ρ ρ') : ∀ e ∈ ρ', e.fp ≠ [] → ∀ x, e.g = some x → x.1 ∉ gout := fun e he hf x hx => by
  obtain ⟨i, hi, rfl⟩ := List.mem_iff_getElem.mp he
  by_cases q : i < ρ.length
  · obtain ⟨t, e⟩ := p
    subst e
    rw [List.getElem_append_left q] at hf hx
    exact gx _ (List.getElem_mem q) hf x hx
  · exact fun z => Nat.lt_irrefl _ (Nat.lt_of_lt_of_le (gs _ z) ((n i _ (Nat.not_lt.mp q) (List.getElem?_eq_getElem hi)).2 x hx))
/-- a run of the body's own -/
theorem SIU.run (Z : SIU X L m H ρ s) (st : Step ρ s ρ' s') (T : Sim X.w X.KF X.fi X.env m' (addF X.F s.heap (L.hl ++ X.out)) ρ' H' s'.heap s'.gens) : SIU X L m' H' ρ' s' ∧ KpU X s s' := by
  obtain ⟨U, off, k⟩ := Z.sim.unbase Z.off Z.live st.1 st.2.2.2 T
  exact ⟨⟨Z.st.trans st, U, off, fun b hb => let ⟨o, h⟩ := Z.live b hb; ⟨o, k b hb o h⟩, Z.dj, L.ok _ _ _ _ Z.p st.1 st.2.1 fun b hb => k b (List.mem_append_left _ hb), fun g hg => Nat.lt_of_lt_of_le (Z.gs g hg) st.2.2.1.2,
    gx_new Z.gs Z.gx st.1 st.2.2.2, ⟩, fun b hb o h => k b (List.mem_append_right _ hb) o h⟩
theorem SIU.look (Z : SIU X L m H ρ s) (l : LkU X s s') : SIU X L m H ρ s' := by
  have chg : Chg X.out s { s' with gens := s.gens } := ⟨rfl, l.os, l.tk, fun b o hb e => l.old b o hb e⟩
  have U := Z.sim.chg (fp := X.out) (fun b hb => Z.off b (List.mem_append_right _ hb)) chg
  have kp : ∀ b ∈ L.hl, ∀ o, s.heap.get? b = some o → s'.heap.get? b = some o := fun b hb o e => l.old b o (Z.dj b hb) e
  exact ⟨Z.st.trans (.same l.tk l.os l.sz), U.gens (fun z hz => by
      obtain ⟨k, hk, rfl⟩ := Array.mem_iff_getElem.mp hz
      rcases l.bare k _ (Array.getElem?_eq_getElem hk) with q | q
      · exact q
      · exact Z.sim.hs.bare _ (Array.mem_of_getElem? q)) (fun e he hf x c hx hc => l.gk _ (Z.gx e he hf x hx) _ hc) l.sz, Z.off, fun b hb => by
      rcases List.mem_append.mp hb with q | q
      · obtain ⟨o, h⟩ := Z.live b hb; exact ⟨o, kp b q o h⟩
      · exact l.live b q, Z.dj, L.ok _ _ _ _ Z.p (List.prefix_refl _) l.tk kp, fun g hg => Nat.lt_of_lt_of_le (Z.gs g hg) l.sz, Z.gx⟩
end
section
variable (M : Model) (A : Around) (X : GU) (Qe : List O → Prop)
/-- the end: nothing left to be told -/
noncomputable def TellR : List Str → Shared → Result → Shared → Prop
  | [], s₀ => fun r s₁ => r = .ok (.ret .none) ∧ KpU X s₀ s₁ ∧ ∃ m H ρ, SIU X .nil m H ρ s₁ ∧ Qe H
  | _ :: _, _ => fun _ _ => False
/-- the texts, one behind the other -/
noncomputable def TellY : List Str → Shared → YP
  | [], _ => fun _ _ _ => False
  | x :: xs, s₀ => fun v gs s₁ => (∃ t, v = .str x t) ∧ KpU X s₀ s₁ ∧ LvU X s₁ ∧ ∀ s'', LkU X s₁ s'' → GoesU M A (TellY xs s'') (TellR X Qe xs s'') gs s''
end
/-- frames above a generator's own -/
structure FsOk (fs : List Frame) : Prop where
  sp : splitAtGen fs = none
  gd : fs.any Frame.guarded = false
theorem FsOk.nil : FsOk [] := ⟨rfl, rfl⟩
theorem FsOk.ret {fs : List Frame} (h : FsOk fs) {k l c p kp} : FsOk (.ret k none false l c p kp :: fs) := ⟨by
  have := h.sp
  simp only [splitAtGen]
  rw [this]; rfl, by rw [List.any_cons, h.gd]; rfl⟩
section
variable (prog : Program) (X : GU) (L : Held) (xs : List Str) (Qe : List O → Prop) (A : Around) (c : Code) (fs : List Frame)
noncomputable def SOU (m : Names) (H : List O) (t : Sem Fin) : Prop := ∀ ρ s s₀, SIU X L m H ρ s → KpU X s₀ s → SegU (model prog X.w) A (TellY (model prog X.w) A X Qe xs s₀) (TellR X Qe xs s₀) c t fs s
end
section
variable {M : Model} {A : Around} {Y : YP} {R : Result → Shared → Prop} {c : Code} {fs : List Frame} {s : Shared}
theorem segU_bw {α β : Type} {x : Sem α} {k : α → Sem β} {K : β → Sem Fin} {Hd : Value → Sem Fin} {gd lv} (h : wpU M (A.over c fs) x (fun a s' => SegU M A Y R c ((k a).wrap K Hd gd lv) fs s') (fun e s' => SegU M A Y R c (Hd e) fs s') s) : SegU M A Y R c ((x >>= k).wrap K Hd gd lv) fs s := by
  rw [Sem.bind_eq_wrap', Sem.wrap_wrap]; exact segU_wrap h
end
section
variable {prog : Program} {X : GU} {L : Held} {xs : List Str} {Qe : List O → Prop} {A : Around} {c : Code} {fs : List Frame} {d : Nat} {m : Names} {H : List O} {K : Flow → Sem Fin} {Hd : Value → Sem Fin}
theorem sou_nil (h : SOU prog X L xs Qe A c fs m H (K .next)) : SOU prog X L xs Qe A c fs m H ((execs [] X.env).wrap K Hd id id) := h
theorem sou_end (h : Qe H) : SOU prog X .nil [] Qe A c [] m H (.pure (.done (.ret .none))) := fun ρ s s₀ Z k => segU_end (.ok (.ret .none)) ⟨rfl, k, m, H, ρ, Z, h⟩
theorem sou_cons {st : Stmt} {rest : List Stmt} (hr : Room (A.over c fs) d) (h : WS prog X.w X.KF X.fi d noE m H st fun f m' H' => match f with | .next => SOU prog X L xs Qe A c fs m' H' ((execs rest X.env).wrap K Hd id id) | _ => False) :
    SOU prog X L xs Qe A c fs m H ((execs (st :: rest) X.env).wrap K Hd id id) := fun ρ s s₀ Z k => by
  rw [execs_cons_wrap]
  refine segU_wrap (up (wpAny_mono (h _ X.env _ ρ s hr (Z.sim.rebase Z.off)) (fun f s₁ hx => ?_) fun _ _ x => (se_no x).elim))
  obtain ⟨ρ₁, H₁, m₁, fl, st₁, S₁, rf, h₁⟩ := hx
  obtain ⟨Z₁, k₁⟩ := Z.run st₁ S₁
  cases fl with
  | next => cases rf; exact h₁ ρ₁ s₁ s₀ Z₁ (k.trans k₁)
  | _ => exact h₁.elim
theorem sou_yield {e : Expr} {x : Str} {ypos pos : Pos} {rest : List Stmt} (hr : Room (A.over c fs) d) (hfs : FsOk fs) (h : WE prog X.w X.KF X.fi d noE m H e fun v H' => v = .str x ∧ SOU prog X L xs Qe A c fs m H' ((execs rest X.env).wrap K Hd id id))
    (hco : X.env.scope.isCoroutine = false) (hi : interactive X.env = false) : SOU prog X L (x :: xs) Qe A c fs m H ((execs (.Expr (.Yield (some e) ypos) pos :: rest) X.env).wrap K Hd id id) := fun ρ s s₀ Z k => by
  rw [execs_cons_wrap, exec_Expr X.env _ pos hi rfl]
  show SegU _ A _ _ c (.at pos fun _ => ((eval e X.env >>= fun v => (standAt ypos >>= fun _ => yieldOut X.env v)) >>= fun x =>
    dropValue (.Yield (some e) ypos) pos x).wrap _ Hd id id) fs s
  have hy : ∀ v, yieldOut X.env v = yieldValue v := fun v => by simp only [yieldOut, hco, Bool.false_eq_true, if_false]
  simp only [hy]
  refine segU_at ?_
  rw [Sem.bind_eq_wrap', Sem.bind_eq_wrap', Sem.wrap_wrap, Sem.wrap_wrap]
  refine segU_wrap (up (wpAny_mono (h _ X.env _ ρ s hr (Z.sim.rebase Z.off)) (fun v s₁ hx => ?_) fun _ _ x => (se_no x).elim))
  obtain ⟨ρ₁, H₁, x', st₁, S₁, rv, rfl, h₁⟩ := hx
  obtain ⟨Z₁, k₁⟩ := Z.run st₁ S₁
  obtain ⟨u, rfl⟩ := rv.str_eq
  refine segU_at (segU_yield hfs.sp (closing_plain hfs.gd) fun p => ⟨⟨u, rfl⟩, k.trans k₁, Z₁.lv, fun s'' l => ?_⟩)
  exact h₁ ρ₁ s'' s'' (Z₁.look l) .refl
theorem sou_if {test : Expr} {body orelse rest : List Stmt} {pos : Pos} (hr : Room (A.over c fs) d) (h : WT prog X.w X.KF X.fi d noE m H test fun b H' => SOU prog X L xs Qe A c fs m H' ((execs (if b = true then body else orelse) X.env).wrap (fun f => match f with | .next => (execs rest X.env).wrap K Hd id id | f => K f) Hd id id)) :
    SOU prog X L xs Qe A c fs m H ((execs (.If test body orelse pos :: rest) X.env).wrap K Hd id id) := fun ρ s s₀ Z k => by
  rw [execs_cons_wrap, exec_If]
  refine segU_at ?_
  show SegU _ A _ _ c (((isTrue test X.env (eval test X.env)).bind fun b => if b = true then execs body X.env else execs orelse X.env).wrap _ _ _ _) fs s
  rw [Sem.bind_eq_wrap, Sem.wrap_wrap]
  refine segU_wrap (up (wpAny_mono (h _ X.env _ ρ s hr (Z.sim.rebase Z.off)) (fun b s₁ hx => ?_) fun _ _ x => (se_no x).elim))
  obtain ⟨ρ₁, H₁, b', st₁, S₁, rb, h₁⟩ := hx
  cases rb
  obtain ⟨Z₁, k₁⟩ := Z.run st₁ S₁
  have := h₁ ρ₁ s₁ s₀ Z₁ (k.trans k₁)
  cases b
  · exact this
  · exact this
theorem sou_func {body : List Stmt} (h : SOU prog X L xs Qe A (.func body X.env) fs m H ((execs body X.env).wrap (fun f => .pure (.done (.ret (match f with | .ret v => v | _ => .none)))) (fun e => (leaving X.env e).wrap (fun _ => .raise e) .raise id id) id id)) :
    SOU prog X L xs Qe A (.func body X.env) fs m H ((model prog X.w).den (.func body X.env)) := fun ρ s s₀ Z k => by
  show SegU _ A _ _ _ (.point [] fun _ => ((execs body X.env).onRaise (leaving X.env)) >>= _) fs s
  refine segU_point ?_
  rw [Sem.onRaise_eq_wrap, Sem.bind_eq_wrap', Sem.wrap_wrap]
  rw [Sem.wrap_congr (execs body X.env) _ _ (K' := fun f => .pure (.done (.ret (match f with | .ret v => v | _ => .none))))
    (H' := fun e => (leaving X.env e).wrap (fun _ => .raise e) .raise id id) (fun f => by cases f <;> rfl)
    (fun e => by rw [Sem.bind_eq_wrap, Sem.wrap_wrap]; rfl)]
  exact h ρ s s₀ Z k
end
end Mine
end
section
open PySem PySem.W PyProof.Rows PySem.W.X PySem.SeqAt
namespace Mine
theorem over_ret {A : Around} {c c' : Code} {fs : List Frame} {k : Result → Sem Fin} {g l p kp} : (A.over c' (.ret k none g l c p kp :: fs)).handled = (A.over c fs).handled ∧ (A.over c' (.ret k none g l c p kp :: fs)).depth = (A.over c fs).depth + c'.weight ∧ (A.over c' (.ret k none g l c p kp :: fs)).units = (A.over c fs).units + c'.cUnits := by
  refine ⟨rfl, ?_, ?_⟩
  · show A.depth + frameCount ((c, p) :: fs.map Frame.where_) + c'.weight = A.depth + frameCount (fs.map Frame.where_) + c.weight + c'.weight
    rw [frameCount_cons]; omega
  · show A.units + unitsOf ((c, p) :: fs.map Frame.where_) + c'.cUnits = A.units + unitsOf (fs.map Frame.where_) + c.cUnits + c'.cUnits
    have : unitsOf ((c, p) :: fs.map Frame.where_) = c.cUnits + unitsOf (fs.map Frame.where_) := by simp [unitsOf]
    omega
theorem Room.ret {A : Around} {c c' : Code} {fs : List Frame} {k : Result → Sem Fin} {g l p kp} {d : Nat} (h : Room (A.over c fs) d) (hw : c'.weight = 0) (hu : c'.cUnits = 0) : Room (A.over c' (.ret k none g l c p kp :: fs)) d := by
  obtain ⟨h1, h2, h3⟩ := over_ret (A := A) (c := c) (c' := c') (fs := fs) (k := k) (g := g) (l := l) (p := p) (kp := kp)
  refine ⟨h1.trans h.hd, ?_, ?_⟩
  · rw [h2, hw]; exact h.dp
  · rw [h3, hu]; exact h.un
/-- an iterator held -/
noncomputable def Held.iter (L : Held) (fp : List Nat) (S : List Ent → Heap → Prop) (hS : ∀ ρ ρ' h h', S ρ h → ρ <+: ρ' → TK h h' → (∀ b ∈ fp, ∀ o, h.get? b = some o → h'.get? b = some o) → S ρ' h') : Held :=
  ⟨fp ++ L.hl, fun ρ h => L.P ρ h ∧ S ρ h, fun ρ ρ' h h' x p t k => ⟨L.ok ρ ρ' h h' x.1 p t fun b hb => k b (List.mem_append_right _ hb), hS ρ ρ' h h' x.2 p t fun b hb => k b (List.mem_append_left _ hb)⟩⟩
section
variable {X : GU} {L : Held} {m m' : Names} {H H' : List O} {ρ ρ' : List Ent} {s s' s'' : Shared} {fp : List Nat} {S S' : List Ent → Heap → Prop} {hS hS'}
theorem SIU.enter (Z : SIU X L m H ρ s) (hk : Keep s.heap s'.heap) (hg : s'.gens = s.gens) (ho : s'.os = s.os) (hf : ∀ b ∈ fp, s.heap.get? b = none) (hl : ∀ b ∈ fp, ∃ o, s'.heap.get? b = some o) (h : S ρ s'.heap) : SIU X (L.iter fp S hS) m H ρ s' ∧ KpU X s s' := by
  have off := Z.sim.fresh hf
  refine ⟨⟨Z.st.trans (.same (.of_keep hk) ho (by rw [hg]; exact Nat.le_refl _)), by rw [hg]; exact Z.sim.keeps hk, fun b hb => ?_, fun b hb => ?_, fun b hb => ?_, ⟨L.ok _ _ _ _ Z.p (List.prefix_refl _) (.of_keep hk) fun b _ o e => hk b o e, h⟩, by rw [hg]; exact Z.gs, Z.gx⟩, fun b _ o e => hk b o e⟩
  · rcases List.mem_append.mp hb with q | q
    · rcases List.mem_append.mp q with q | q
      · exact off b q
      · exact Z.off b (List.mem_append_left _ q)
    · exact Z.off b (List.mem_append_right _ q)
  · rcases List.mem_append.mp hb with q | q
    · rcases List.mem_append.mp q with q | q
      · exact hl b q
      · obtain ⟨o, e⟩ := Z.live b (List.mem_append_left _ q); exact ⟨o, hk b o e⟩
    · obtain ⟨o, e⟩ := Z.live b (List.mem_append_right _ q); exact ⟨o, hk b o e⟩
  · rcases List.mem_append.mp hb with q | q
    · intro z
      obtain ⟨o, e⟩ := Z.live b (List.mem_append_right _ z)
      rw [hf b q] at e; cases e
    · exact Z.dj b q
/-- the iterator's own turn -/
theorem SIU.turn (Z : SIU X (L.iter fp S hS) m H ρ s) (hd : ∀ b ∈ fp, b ∉ L.hl) (c : Chg fp s s') (hl : ∀ b ∈ fp, ∃ o, s'.heap.get? b = some o) (h : S' ρ s'.heap) : SIU X (L.iter fp S' hS') m H ρ s' ∧ KpU X s s' := by
  have off : FpOff X.fi X.env X.F ρ fp := fun b hb => Z.off b (List.mem_append_left _ (List.mem_append_left _ hb))
  have kL : ∀ b, b ∉ fp → ∀ o, s.heap.get? b = some o → s'.heap.get? b = some o := fun b hb o e => c.2.2.2 b o hb e
  have nf : ∀ b ∈ X.out, b ∉ fp := fun b hb q => Z.dj b (List.mem_append_left _ q) hb
  refine ⟨⟨Z.st.trans c.step, Z.sim.chg off c, Z.off, fun b hb => ?_, Z.dj, ⟨L.ok _ _ _ _ Z.p.1 (List.prefix_refl _) c.2.2.1 fun b hb => kL b fun q => hd b q hb, h⟩, by rw [c.1]; exact Z.gs, Z.gx⟩, fun b hb => kL b (nf b hb)⟩
  by_cases q : b ∈ fp
  · exact hl b q
  · obtain ⟨o, e⟩ := Z.live b hb; exact ⟨o, kL b q o e⟩
theorem SIU.leave (Z : SIU X (L.iter fp S hS) m H ρ s) : SIU X L m H ρ s :=
  ⟨Z.st, Z.sim, fun b hb => Z.off b (by
    rcases List.mem_append.mp hb with q | q
    · exact List.mem_append_left _ (List.mem_append_right _ q)
    · exact List.mem_append_right _ q), fun b hb => Z.live b (by
    rcases List.mem_append.mp hb with q | q
    · exact List.mem_append_left _ (List.mem_append_right _ q)
    · exact List.mem_append_right _ q), fun b hb => Z.dj b (List.mem_append_right _ hb), Z.p.1, Z.gs, Z.gx⟩
theorem SIU.last (Z : SIU X (L.iter fp S hS) m H ρ s) (hd : ∀ b ∈ fp, b ∉ L.hl) (c : Chg fp s s') : SIU X L m H ρ s' ∧ KpU X s s' := by
  have W := Z.leave
  have off : FpOff X.fi X.env X.F ρ fp := fun b hb => Z.off b (List.mem_append_left _ (List.mem_append_left _ hb))
  have kL : ∀ b, b ∉ fp → ∀ o, s.heap.get? b = some o → s'.heap.get? b = some o := fun b hb o e => c.2.2.2 b o hb e
  have nf : ∀ b ∈ X.out, b ∉ fp := fun b hb q => Z.dj b (List.mem_append_left _ q) hb
  refine ⟨⟨Z.st.trans c.step, Z.sim.chg off c, W.off, fun b hb => ?_, W.dj, L.ok _ _ _ _ W.p (List.prefix_refl _) c.2.2.1 fun b hb => kL b fun q => hd b q hb, by rw [c.1]; exact Z.gs, Z.gx⟩, fun b hb => kL b (nf b hb)⟩
  obtain ⟨o, e⟩ := W.live b hb
  refine ⟨o, kL b (fun q => ?_) o e⟩
  rcases List.mem_append.mp hb with z | z
  · exact hd b q z
  · exact nf b z q
end
section
variable {prog : Program} {X : GU} {L : Held} {Qe : List O → Prop} {A : Around} {c : Code} {fs : List Frame} {d : Nat} {m : Names} {H : List O} {K : Flow → Sem Fin} {Hd : Value → Sem Fin}
/-- what a for loop's body has to do, a turn -/
noncomputable def KTurn (prog : Program) (X : GU) (Qe : List O → Prop) (A : Around) (d : Nat) (body : List Stmt) (ts : Nat → List Str) (J : Nat → Names → List O → Prop) (i : Nat) : Names → List O → Prop := fun m H =>
  ∀ (L' : Held) (c' : Code) (fs' : List Frame) (Kb : Flow → Sem Fin) (Hb : Value → Sem Fin), FsOk fs' → Room (A.over c' fs') d → (∀ m H, J (i + 1) m H → SOU prog X L' (ts (i + 1)) Qe A c' fs' m H (Kb .next)) → SOU prog X L' (ts i) Qe A c' fs' m H ((execs body X.env).wrap Kb Hb id id)
theorem sou_for {target iter : Expr} {body rest : List Stmt} {pos : Pos} {vs : List V} (ts : Nat → List Str) (hr : Room (A.over c fs) d) (hfs : FsOk fs)
    (h : WE prog X.w X.KF X.fi d noE m H iter fun v H₁ => ∃ G, IterW prog X.w X.KF d (Em noE m) H₁ v vs G ∧ ∃ J : Nat → Names → List O → Prop, J 0 m H₁ ∧ (∀ i m H, J i m H → G H) ∧
      (∀ i x m H, vs[i]? = some x → J i m H → WA prog X.w X.KF X.fi d noE m H target x (KTurn prog X Qe A d body ts J i)) ∧ (∀ m H, J vs.length m H → SOU prog X L (ts vs.length) Qe A c fs m H ((execs rest X.env).wrap K Hd id id)))
    (hs : ∀ env x, foldedSetIterable iter env x = pure x := by intro _ _; rfl) (hw : ∀ it, (Code.forLoop target it body [] X.env).weight = 0 := by intro _; rfl) (hu : ∀ it, (Code.forLoop target it body [] X.env).cUnits = 0 := by intro _; rfl) :
    SOU prog X L (ts 0) Qe A c fs m H ((execs (.For target iter body [] pos :: rest) X.env).wrap K Hd id id) := fun ρ s s₀ Z k => by
  rw [execs_cons_wrap, exec_For]
  refine segU_bw (wpU_standAt (segU_bw (up (wpAny_mono (h _ X.env _ ρ s hr (Z.sim.rebase Z.off)) (fun u s₁ hx => ?_) fun _ _ x => (se_no x).elim))))
  obtain ⟨ρ₁, H₁, v, st₁, S₁, r, G, hI, J, hJ0, hJG, hT, hD⟩ := hx
  obtain ⟨Z₁, k₁⟩ := Z.run st₁ S₁
  rw [hs X.env u]
  refine segU_bw (wpU_pure (segU_bw (wpU_standAt (segU_bw (wpU_holding (up (wpAny_mono (hI _ _ ρ₁ s₁ u hr S₁.toH r) (fun it s₂ hx => ?_) fun _ _ ⟨_, _, _, _, _, x, _⟩ => x.elim)))))))
  obtain ⟨I, fp, St, e, IT, hSt, hk, hg, ho, hf⟩ := hx
  subst e
  obtain ⟨Z₂, k₂⟩ := Z₁.enter (S := St 0) (hS := fun a b c e => IT.frame 0 a c b e) hk hg ho hf (IT.live 0 ρ₁ _ hSt) hSt
  have hdl : ∀ b ∈ fp, b ∉ L.hl := fun b hb q => by
    obtain ⟨o, e⟩ := Z₁.live b (List.mem_append_left _ q)
    rw [hf b hb] at e; cases e
  unfold runOwn run
  rw [Sem.onRaise_eq_wrap, Sem.wrap_wrap]
  refine segU_call fun p => ?_
  have hr2 := fun (kk : Result → Sem Fin) l => Room.ret (k := kk) (g := false) (l := l) (p := p) (kp := []) hr (hw (.ref I)) (hu (.ref I))
  suffices loop : ∀ n i, n = vs.length - i → i ≤ vs.length → ∀ m H ρ s s₀, J i m H → SIU X (L.iter fp (St i) (fun a b c e => IT.frame i a c b e)) m H ρ s → KpU X s₀ s → SegU (model prog X.w) A (TellY (model prog X.w) A X Qe (ts i) s₀) (TellR X Qe (ts i) s₀) (.forLoop target (.ref I) body [] X.env) ((model prog X.w).den (.forLoop target (.ref I) body [] X.env)) (.ret _ none (id false) (id []) c p [] :: fs) s from
    loop _ 0 rfl (Nat.zero_le _) m H₁ ρ₁ s₂ s₀ hJ0 Z₂ ((k.trans k₁).trans k₂)
  intro n
  induction n with
  | zero =>
    intro i hn hi m₃ H₃ ρ₃ s₃ s₀' hJ Z₃ k₃
    have hin : i = vs.length := by omega
    subst hin
    show SegU _ A _ _ _ ((forTurn target (.ref I) body [] X.env).onRaise (fun x => do noteFrame x X.env; theTreesLotGoes x)) _ s₃
    rw [Sem.onRaise_eq_wrap]
    unfold forTurn
    refine segU_bw (wpU_standAt (segU_bw (wpU_onRaise (up (wpAny_mono (IT.done _ _ ρ₃ H₃ s₃ (fun _ _ => False) (hr2 _ _).hd Z₃.sim.toH (hJG _ _ _ hJ) Z₃.p.2) (fun r s₄ hq => ?_) fun _ _ x => x.elim)))))
    obtain ⟨e, c₄⟩ := hq
    subst e
    refine segU_again rfl ?_
    show SegU _ A _ _ _ ((execs [] X.env).onRaise _ >>= _) _ s₄
    refine segU_bind (wpU_onRaise (up (wpAny_execs_nil ?_)))
    obtain ⟨Z₄, k₄⟩ := Z₃.last hdl c₄
    exact segU_leaf (.ok .next) (hD _ _ hJ ρ₃ s₄ s₀' Z₄ (k₃.trans k₄))
  | succ n ih =>
    intro i hn hi m₃ H₃ ρ₃ s₃ s₀' hJ Z₃ k₃
    have hlt : i < vs.length := by omega
    show SegU _ A _ _ _ ((forTurn target (.ref I) body [] X.env).onRaise (fun x => do noteFrame x X.env; theTreesLotGoes x)) _ s₃
    rw [Sem.onRaise_eq_wrap]
    unfold forTurn
    refine segU_bw (wpU_standAt (segU_bw (wpU_onRaise (up (wpAny_mono (IT.item _ _ ρ₃ H₃ s₃ i vs[i] (fun _ _ => False) (hr2 _ _).hd Z₃.sim.toH (hJG _ _ _ hJ) Z₃.p.2 (List.getElem?_eq_getElem hlt)) (fun r s₄ hq => ?_) fun _ _ x => x.elim)))))
    obtain ⟨v, e, rv, hSt₄, c₄⟩ := hq
    subst e
    obtain ⟨Z₄, k₄⟩ := Z₃.turn (S' := St (i + 1)) (hS' := fun a b c e => IT.frame (i + 1) a c b e) hdl c₄ (IT.live _ _ _ hSt₄) hSt₄
    refine segU_bw (up (wpAny_mono (IT.lot _ (i + 1) ρ₃ s₄ target v (fun _ _ => False) hSt₄) (fun _ s₅ hq => ?_) fun _ _ x => x.elim))
    obtain ⟨hSt₅, c₅⟩ := hq
    obtain ⟨Z₅, k₅⟩ := Z₄.turn (S' := St (i + 1)) (hS' := fun a b c e => IT.frame (i + 1) a c b e) hdl c₅ (IT.live _ _ _ hSt₅) hSt₅
    refine segU_bw (up (wpAny_mono (hT i _ m₃ H₃ (List.getElem?_eq_getElem hlt) hJ _ X.env _ ρ₃ s₅ v (hr2 _ _) (Z₅.sim.rebase Z₅.off) (rv.mono (List.prefix_refl _) c₅.2.2.1)) (fun _ s₆ hq => ?_) fun _ _ x => (se_no x).elim))
    obtain ⟨ρ₆, H₆, m₆, st₆, S₆, h₆⟩ := hq
    obtain ⟨Z₆, k₆⟩ := Z₅.run st₆ S₆
    rw [Sem.bind_eq_wrap', Sem.wrap_wrap]
    refine h₆ _ _ _ _ _ hfs.ret (hr2 _ _) (fun m₇ H₇ hJ₇ ρ₇ s₇ s₀₇ Z₇ k₇ => ?_) ρ₆ s₆ s₀' Z₆ (((k₃.trans k₄).trans k₅).trans k₆)
    exact segU_again rfl (ih (i + 1) (by omega) hlt m₇ H₇ ρ₇ s₇ s₀₇ hJ₇ Z₇ k₇)
end
end Mine
end
section
open PySem PySem.W PyProof.Rows PySem.W.X PySem.SeqAt
namespace Mine
/-! entries that own nothing for a while -/
theorem as_get {ρ ρ' : List Ent} (q : ρ.map (·.a) = ρ'.map (·.a)) {i : Nat} {e : Ent} (h : ρ[i]? = some e) : ∃ e', ρ'[i]? = some e' ∧ e'.a = e.a := by
  have : (ρ'.map (·.a))[i]? = some e.a := by rw [← q, List.getElem?_map, h]; rfl
  rw [List.getElem?_map] at this
  cases h' : ρ'[i]? with
  | none => rw [h'] at this; cases this
  | some e' => rw [h'] at this; exact ⟨e', rfl, Option.some.inj this⟩
mutual
theorem VR.ents {ρ ρ' : List Ent} {h : Heap} (q : ρ.map (·.a) = ρ'.map (·.a)) : ∀ {x : V} {v : Value}, VR ρ h x v → VR ρ' h x v
  | .none, v, r => by unfold VR at r ⊢; exact r
  | .bool b, v, r => by unfold VR at r ⊢; exact r
  | .int i, v, r => by unfold VR at r ⊢; exact r
  | .flt x, v, r => by unfold VR at r ⊢; exact r
  | .str x, v, r => by unfold VR at r ⊢; exact r
  | .ty n, v, r => by unfold VR at r ⊢; exact r
  | .bi n, v, r => by unfold VR at r ⊢; exact r
  | .st a, v, r => by unfold VR at r ⊢; exact r
  | .ref i, v, r => by unfold VR at r ⊢; obtain ⟨e, he, z⟩ := r; obtain ⟨e', h1, h2⟩ := as_get q he; exact ⟨e', h1, by rw [h2]; exact z⟩
  | .rng a b, v, r => by unfold VR at r ⊢; exact r
  | .tup xs, v, r => by unfold VR at r ⊢; obtain ⟨a, vs, z, y, w⟩ := r; exact ⟨a, vs, z, y, VRs.ents q w⟩
  | .sub c xs, v, r => by unfold VR at r ⊢; obtain ⟨a, vs, z, y, w⟩ := r; exact ⟨a, vs, z, y, VRs.ents q w⟩
theorem VRs.ents {ρ ρ' : List Ent} {h : Heap} (q : ρ.map (·.a) = ρ'.map (·.a)) : ∀ {xs : List V} {vs : List Value}, VRs ρ h xs vs → VRs ρ' h xs vs
  | [], vs, r => by unfold VRs at r ⊢; exact r
  | x :: xs, vs, r => by unfold VRs at r ⊢; obtain ⟨v, t, e, a, b⟩ := r; exact ⟨v, t, e, VR.ents q a, VRs.ents q b⟩
end
theorem OVR.ents {ρ ρ' : List Ent} {h : Heap} (q : ρ.map (·.a) = ρ'.map (·.a)) : ∀ {x : Option V} {v : Option Value}, OVR ρ h x v → OVR ρ' h x v
  | none, _, _ => trivial
  | some _, some _, r => VR.ents q r
  | some _, none, r => r.elim
theorem FrameAt.ents {fi : FI} {env : Env} {m : Names} {ρ ρ' : List Ent} {h : Heap} (f : FrameAt fi env m ρ h) (q : ρ.map (·.a) = ρ'.map (·.a)) : FrameAt fi env m ρ' h :=
  ⟨f.es, f.eg, f.eb, f.ec, f.ek, let ⟨mv, a, b⟩ := f.ns; ⟨mv, a, fun x hx => (b x hx).ents q⟩, fun x c hc => let ⟨ov, a, b⟩ := f.cl x c hc; ⟨ov, a, b.ents q⟩, f.ce, f.cn, f.cu, f.cd⟩
theorem OR.ents {F : Base} {ρ ρ' : List Ent} {h : Heap} {e : Ent} {o : O} (x : OR F ρ h e o) (q : ρ.map (·.a) = ρ'.map (·.a)) : OR F ρ' h e o := by
  cases o with
  | list xs => obtain ⟨a, b, vs, l, r⟩ := x; exact ⟨a, b, vs, l, r.ents q⟩
  | arr xs => obtain ⟨a, b, ⟨vs, l, r⟩, f⟩ := x; exact ⟨a, b, ⟨vs, l, r.ents q⟩, f⟩
  | inst C fs =>
    obtain ⟨a, dx, b, o, mA, h1, h2, h3, h4, h6, h7⟩ := x
    refine ⟨a, dx, b, o, mA, h1, h2, h3, h4, h6, fun n => ?_⟩
    have := h7 n
    split at this
    · obtain ⟨u, h1, h2⟩ := this; exact ⟨u, h1, h2.ents q⟩
    · exact this
  | tbl P ps => exact x
  | fresh fi body m => obtain ⟨g, env, h1, h2, h3, h4, h5, h6⟩ := x; exact ⟨g, env, h1, h2, h3, h4, h5, h6.ents q⟩
  | gone => exact x
theorem set_as {ρ : List Ent} {i : Nat} {e f : Ent} (h : ρ[i]? = some e) (ha : f.a = e.a) : (ρ.set i f).map (·.a) = ρ.map (·.a) := by
  refine List.ext_getElem? fun j => ?_
  rw [List.getElem?_map, List.getElem?_map]
  by_cases q : i = j
  · subst q
    rw [List.getElem?_set_self (List.getElem?_eq_some_iff.mp h).1, h]
    exact congrArg some ha
  · rw [List.getElem?_set_ne q]
theorem set_gs {ρ : List Ent} {i : Nat} {e f : Ent} (h : ρ[i]? = some e) (ha : f.g = e.g) : (ρ.set i f).filterMap (·.g) = ρ.filterMap (·.g) := by
  induction ρ generalizing i with
  | nil => cases h
  | cons x ρ ih =>
    cases i with
    | zero => cases h; simp [List.filterMap_cons, ha]
    | succ i => simp only [List.set_cons_succ, List.filterMap_cons, ih (i := i) h]
theorem fps_set_perm {ρ : List Ent} {i : Nat} {e f : Ent} (h : ρ[i]? = some f) (hf : f.fp = []) : (fps (ρ.set i e)).Perm (e.fp ++ fps ρ) := by
  induction ρ generalizing i with
  | nil => cases h
  | cons x ρ ih =>
    cases i with
    | zero =>
      cases h
      show (e.fp ++ fps ρ).Perm (e.fp ++ (f.fp ++ fps ρ))
      rw [hf]; exact .refl _
    | succ i =>
      show (x.fp ++ fps (ρ.set i e)).Perm (e.fp ++ (x.fp ++ fps ρ))
      refine ((ih (i := i) h).append_left x.fp).trans ?_
      rw [← List.append_assoc, ← List.append_assoc]
      exact List.perm_append_comm.append_right _
theorem fps_set_sub {ρ : List Ent} {i : Nat} {f : Ent} (hf : f.fp = []) : (fps (ρ.set i f)).Sublist (fps ρ) := by
  induction ρ generalizing i with
  | nil => exact .slnil
  | cons x ρ ih =>
    cases i with
    | zero =>
      show (f.fp ++ fps ρ).Sublist (x.fp ++ fps ρ)
      rw [hf]; exact List.sublist_append_right _ _
    | succ i => exact (List.Sublist.refl x.fp).append ih
theorem fps_set_off {ρ : List Ent} (nd : (fps ρ).Nodup) {i : Nat} {e f : Ent} (h : ρ[i]? = some e) (hf : f.fp = []) {b : Nat} (hb : b ∈ e.fp) : b ∉ fps (ρ.set i f) := fun q => by
  obtain ⟨x, hx, hbx⟩ := List.mem_flatMap.mp q
  obtain ⟨j, hj, rfl⟩ := List.mem_iff_getElem.mp hx
  have hj' := List.getElem?_eq_getElem hj
  by_cases z : i = j
  · subst z
    have : (ρ.set i f)[i]'hj = f := List.getElem_set_self hj
    rw [this, hf] at hbx; cases hbx
  · rw [List.getElem?_set_ne z] at hj'
    exact fps_apart nd h hj' z hb hbx
theorem gn_apart {ρ : List Ent} (nd : ((ρ.filterMap (·.g)).map (·.1)).Nodup) {i j : Nat} {e f : Ent} (hi : ρ[i]? = some e) (hj : ρ[j]? = some f) (hij : i ≠ j) {x y : Nat × Env} (hx : e.g = some x) (hy : f.g = some y) : x.1 ≠ y.1 := by
  induction ρ generalizing i j with
  | nil => cases hi
  | cons z ρ ih =>
    have mem : ∀ {k : Nat} {u : Ent} {v : Nat × Env}, ρ[k]? = some u → u.g = some v → v.1 ∈ (ρ.filterMap (·.g)).map (·.1) := fun hk hu => List.mem_map.mpr ⟨_, List.mem_filterMap.mpr ⟨_, List.mem_of_getElem? hk, hu⟩, rfl⟩
    have nd' : ((ρ.filterMap (·.g)).map (·.1)).Nodup := by
      cases hz : z.g with
      | none => simpa [List.filterMap_cons, hz] using nd
      | some w => exact (List.nodup_cons.mp (by simpa [List.filterMap_cons, hz] using nd)).2
    have nz : ∀ w, z.g = some w → w.1 ∉ (ρ.filterMap (·.g)).map (·.1) := fun w hz => (List.nodup_cons.mp (by simpa only [List.filterMap_cons, hz, List.map_cons] using nd)).1
    cases i with
    | zero =>
      cases hi
      cases j with
      | zero => exact absurd rfl hij
      | succ j => exact fun q => nz x hx (q ▸ mem hj hy)
    | succ i =>
      cases j with
      | zero => cases hj; exact fun q => nz y hy (q ▸ mem hi hx)
      | succ j => exact ih nd' (i := i) (j := j) hi hj (fun q => hij (congrArg Nat.succ q))
section
variable {w : World} {KF : Frag} {F : Base} {ρ : List Ent} {H : List O} {h : Heap} {gs : Array GenState} {i : Nat} {e : Ent} {fi : FI} {body : List Stmt} {m : Names}
/-- a generator's frame, taken out of the objects -/
theorem HSim.out (S : HSim w KF F ρ H h gs) (hi : ρ[i]? = some e) (hH : H[i]? = some (.fresh fi body m)) :
    ∃ g env, e.g = some (g, env) ∧ gs[g]? = some (.fresh (.func body env)) ∧ e.fp = e.a :: ownA fi env ∧ h.IsGen e.a g ∧ interactive env = false ∧ env.scope = fi.sc ∧ Sim w KF fi env m F (ρ.set i ⟨e.a, [], e.g⟩) (H.set i .gone) h gs := by
  obtain ⟨g, env, h1, h2, h3, h4, h5, h6⟩ := S.ob i e _ hi hH
  obtain ⟨g', env', h1', hgs⟩ := S.gf i e _ hi hH
  rw [h1] at h1'; cases h1'
  have sub : ∀ b ∈ fps (ρ.set i ⟨e.a, [], e.g⟩), b ∈ fps ρ := fun b hb => (fps_set_sub rfl).subset hb
  have as := set_as (f := ⟨e.a, [], e.g⟩) hi rfl
  have T : HSim w KF F (ρ.set i ⟨e.a, [], e.g⟩) (H.set i .gone) h gs := by
    refine ⟨S.bs, S.keep, by rw [List.length_set, List.length_set]; exact S.len, fun j f o hj ho => ?_, fun b hb => S.live b (sub b hb), S.nd.sublist (fps_set_sub rfl), fun b hb => S.off b (sub b hb), by rw [set_gs (f := ⟨e.a, [], e.g⟩) hi rfl]; exact S.gn, S.bare, fun j f o hj ho => ?_⟩
    · by_cases q : i = j
      · subst q
        rw [List.getElem?_set_self (List.getElem?_eq_some_iff.mp hi).1] at hj
        rw [List.getElem?_set_self (List.getElem?_eq_some_iff.mp hH).1] at ho
        cases hj; cases ho
        exact .inr (by show e.g.isSome = true; rw [h1]; rfl)
      · rw [List.getElem?_set_ne q] at hj ho
        exact (S.ob j f o hj ho).ents as.symm
    · by_cases q : i = j
      · subst q
        rw [List.getElem?_set_self (List.getElem?_eq_some_iff.mp hi).1] at hj
        rw [List.getElem?_set_self (List.getElem?_eq_some_iff.mp hH).1] at ho
        cases hj; cases ho
        exact fun x hx => S.glt (List.mem_of_getElem? hi) hx
      · rw [List.getElem?_set_ne q] at hj ho
        exact S.gf j f o hj ho
  have f := h6.ents as.symm
  refine ⟨g, env, h1, hgs, h2, h3, h5, h6.es, T, f.es, f.eg, f.eb, f.ec, f.ek, fun b hb => ?_, f.ns, f.cl, f.ce, f.cn, f.cu, f.cd, fun q => by rw [h4] at q; cases q⟩
  have hb' : b ∈ e.fp := by rw [h2]; exact .tail _ hb
  exact ⟨S.off b (fps_mem hi hb'), fps_set_off S.nd hi rfl hb'⟩
/-- and back again, used up -/
theorem HSim.back (T : HSim w KF F ρ H h gs) {x : Nat × Env} (hi : ρ[i]? = some ⟨e.a, [], some x⟩) (hg : e.g = some x) (hnd : e.fp.Nodup) (ha : e.a ∈ e.fp) (hf : ∀ b ∈ e.fp, b ∉ fps ρ ∧ F b = none ∧ ∃ o, h.get? b = some o) :
    HSim w KF F (ρ.set i e) H h gs := by
  have pm := fps_set_perm (e := e) hi rfl
  have as := set_as (f := e) hi rfl
  have hH : ∀ o, H[i]? = some o → o = .gone := fun o ho => by
    have y := T.ob i _ o hi ho
    cases o with
    | list xs => cases y.1
    | arr xs => cases y.2.1
    | inst C fs => cases y.1
    | tbl P ps => cases y.2.2.1
    | fresh fi body m => obtain ⟨_, _, _, q, _⟩ := y; cases q
    | gone => rfl
  refine ⟨T.bs, T.keep, by rw [List.length_set]; exact T.len, fun j f o hj ho => ?_, fun b hb => ?_, pm.nodup_iff.mpr (List.nodup_append.mpr ⟨hnd, T.nd, fun b hb c hc q => (hf b hb).1 (q ▸ hc)⟩), fun b hb => ?_, by rw [set_gs (f := e) hi hg]; exact T.gn, T.bare, fun j f o hj ho => ?_⟩
  · by_cases q : i = j
    · subst q
      rw [List.getElem?_set_self (List.getElem?_eq_some_iff.mp hi).1] at hj
      cases hj
      rw [hH o ho]
      exact .inl ha
    · rw [List.getElem?_set_ne q] at hj
      exact (T.ob j f o hj ho).ents as.symm
  · rcases List.mem_append.mp (pm.mem_iff.mp hb) with q | q
    · exact (hf b q).2.2
    · exact T.live b q
  · rcases List.mem_append.mp (pm.mem_iff.mp hb) with q | q
    · exact (hf b q).2.1
    · exact T.off b q
  · by_cases q : i = j
    · subst q
      rw [List.getElem?_set_self (List.getElem?_eq_some_iff.mp hi).1] at hj
      cases hj
      rw [hH o ho]
      exact fun y hy => by rw [hg] at hy; cases hy; exact T.glt (List.mem_of_getElem? hi) rfl
    · rw [List.getElem?_set_ne q] at hj
      exact T.gf j f o hj ho
end
end Mine
end
section
open PySem PySem.W PyProof.Rows PySem.W.X PySem.SeqAt
namespace Mine
theorem fp_nodup1 {ρ : List Ent} (nd : (fps ρ).Nodup) {e : Ent} (he : e ∈ ρ) : e.fp.Nodup := by
  induction ρ with
  | nil => cases he
  | cons x ρ ih =>
    have nd' : (x.fp ++ fps ρ).Nodup := nd
    obtain ⟨n1, n2, _⟩ := List.nodup_append.mp nd'
    rcases List.mem_cons.mp he with rfl | q
    · exact n1
    · exact ih n2 q
/-- the generator that an object of the body's stands for, its own frame on top -/
noncomputable def GU.sub (X : GU) (L : Held) (ρ : List Ent) (s : Shared) (i : Nat) (e : Ent) (g : Nat) (fi : FI) (env : Env) : GU :=
  ⟨X.w, X.KF, fi, env, addF (addF X.F s.heap L.hl) s.heap (ownA X.fi X.env), e.a :: X.out, g :: X.gout, ρ.set i ⟨e.a, [], e.g⟩, s⟩
section
variable {X : GU} {L : Held} {m : Names} {H : List O} {ρ : List Ent} {s : Shared} {i : Nat} {fi : FI} {body : List Stmt} {m' : Names} {e : Ent}
theorem SIU.held (Z : SIU X L m H ρ s) : FpOff X.fi X.env X.F ρ L.hl := fun b hb => Z.off b (List.mem_append_left _ hb)
theorem SIU.sub (Z : SIU X L m H ρ s) (he : ρ[i]? = some e) (hH : H[i]? = some (.fresh fi body m')) :
    ∃ g env, e.g = some (g, env) ∧ s.gens[g]? = some (.fresh (.func body env)) ∧ s.heap.IsGen e.a g ∧ interactive env = false ∧ env.scope = fi.sc ∧ e.fp = e.a :: ownA fi env ∧ e.a ∉ X.out ∧ g ∉ X.gout ∧ SIU (X.sub L ρ s i e g fi env) .nil m' (H.set i .gone) (ρ.set i ⟨e.a, [], e.g⟩) s := by
  have R := Z.sim.rebase Z.held
  obtain ⟨g, env, h1, h2, h3, h4, h5, h6, h7⟩ := R.toH.out he hH
  have mem : ∀ b ∈ e.fp, b ∈ fps ρ := fun b hb => fps_mem he hb
  have ne : e.fp ≠ [] := by rw [h3]; exact List.cons_ne_nil _ _
  have nd : e.fp.Nodup := fp_nodup1 Z.sim.hs.nd (List.mem_of_getElem? he)
  have nd' : (e.a :: ownA fi env).Nodup := h3 ▸ nd
  have hao : e.a ∉ X.out := fun q => (Z.off _ (List.mem_append_right _ q)).2.1 (mem _ (by rw [h3]; exact .head _))
  have hgo : g ∉ X.gout := Z.gx e (List.mem_of_getElem? he) ne _ h1
  refine ⟨g, env, h1, h2, h4, h5, h6, h3, hao, hgo, ⟨.refl, h7, fun b hb => ?_, fun b hb => ?_, (fun b hb => nomatch hb), trivial, fun k hk => ?_, fun f hf hne x hx q => ?_⟩⟩
  · rcases List.mem_cons.mp hb with rfl | hb
    · have hm : e.a ∈ e.fp := by rw [h3]; exact .head _
      exact ⟨R.toH.off _ (mem _ hm), fps_set_off Z.sim.hs.nd he rfl hm, (List.nodup_cons.mp nd').1⟩
    · have o := Z.off b (List.mem_append_right _ hb)
      have nh : b ∉ L.hl := fun q => Z.dj b q hb
      refine ⟨?_, fun q => o.2.1 ((fps_set_sub rfl).subset q), fun q => o.2.1 (mem b (by rw [h3]; exact .tail _ q))⟩
      show addF (addF X.F s.heap L.hl) s.heap (ownA X.fi X.env) b = none
      rw [addF_out o.2.2, addF_out nh]; exact o.1
  · rcases List.mem_cons.mp hb with rfl | hb
    · obtain ⟨o, _, _, ho, _⟩ := h4; exact ⟨o, ho⟩
    · exact Z.live b (List.mem_append_right _ hb)
  · rcases List.mem_cons.mp hk with rfl | hk
    · exact (Array.getElem?_eq_some_iff.mp h2).1
    · exact Z.gs k hk
  · obtain ⟨j, hj, rfl⟩ := List.mem_iff_getElem.mp hf
    have hj' := List.getElem?_eq_getElem hj
    by_cases z : i = j
    · subst z
      exact hne (by rw [List.getElem_set_self])
    · rw [List.getElem?_set_ne z] at hj'
      rcases List.mem_cons.mp q with q | q
      · exact gn_apart Z.sim.hs.gn he hj' z h1 hx q.symm
      · exact Z.gx _ (List.mem_of_getElem? hj') hne x hx q
theorem set_prefix {ρ ρ' : List Ent} {i : Nat} {e f : Ent} (he : ρ[i]? = some e) (p : ρ.set i f <+: ρ') : ρ <+: ρ'.set i e := by
  obtain ⟨t, rfl⟩ := p
  have hi := (List.getElem?_eq_some_iff.mp he).1
  rw [List.set_append_left _ _ (by rw [List.length_set]; exact hi), List.set_set]
  have : ρ.set i e = ρ := by
    obtain ⟨h, rfl⟩ := List.getElem?_eq_some_iff.mp he
    exact List.set_getElem_self h
  rw [this]; exact List.prefix_append _ _
theorem SIU.back {g : Nat} {env : Env} {m'' : Names} {H'' : List O} {ρ'' : List Ent} {s'' : Shared} (Z : SIU X L m H ρ s) (he : ρ[i]? = some e) (hg : e.g = some (g, env)) (hfp : e.fp = e.a :: ownA fi env)
    (W : SIU (X.sub L ρ s i e g fi env) .nil m'' H'' ρ'' s'') : SIU X L m H'' (ρ''.set i e) s'' := by
  have mem : ∀ b ∈ e.fp, b ∈ fps ρ := fun b hb => fps_mem he hb
  have hi := (List.getElem?_eq_some_iff.mp he).1
  have nd : e.fp.Nodup := fp_nodup1 Z.sim.hs.nd (List.mem_of_getElem? he)
  have pre : ρ.set i ⟨e.a, [], e.g⟩ <+: ρ'' := W.st.1
  have hi'' : ρ''[i]? = some ⟨e.a, [], some (g, env)⟩ := by
    rw [← hg]; exact pre_get pre (List.getElem?_set_self hi)
  have p := set_prefix he pre
  have wo : ∀ b ∈ e.fp, b ∉ fps ρ'' ∧ (X.sub L ρ s i e g fi env).F b = none ∧ ∃ o, s''.heap.get? b = some o := fun b hb => by
    rw [hfp] at hb
    rcases List.mem_cons.mp hb with rfl | hb
    · have o := W.off e.a (List.mem_append_right _ (.head _))
      exact ⟨o.2.1, o.1, W.live _ (List.mem_append_right _ (.head _))⟩
    · have o := W.sim.lo b hb
      obtain ⟨q, ⟨h1, _⟩ | ⟨q2, h1⟩⟩ := W.sim.own_live b hb
      · exact ⟨o.2, o.1, q, h1⟩
      · exact ⟨o.2, o.1, q2, h1⟩
  have T := W.sim.hs.back hi'' hg nd (by rw [hfp]; exact .head _) wo
  have R := Z.sim.rebase Z.held
  have R' := R.ofH p W.st.2.1 T
  have nw : New s.gens.size ρ (ρ''.set i e) := fun j f hj hf => by
    rw [List.getElem?_set_ne (by omega)] at hf
    exact W.st.2.2.2 j f (by rw [show (X.sub L ρ s i e g fi env).ρI = ρ.set i ⟨e.a, [], e.g⟩ from rfl, List.length_set]; exact hj) hf
  obtain ⟨U, offh, kp⟩ := Z.sim.unbase Z.held (fun b hb => Z.live b (List.mem_append_left _ hb)) p nw R'
  have st : Step ρ s (ρ''.set i e) s'' := ⟨p, W.st.2.1, W.st.2.2.1, nw⟩
  have pm := fps_set_perm (e := e) hi'' rfl
  refine ⟨Z.st.trans st, U, fun b hb => ?_, fun b hb => ?_, Z.dj, L.ok _ _ _ _ Z.p p W.st.2.1 kp, fun k hk => Nat.lt_of_lt_of_le (Z.gs k hk) W.st.2.2.1.2, gx_new Z.gs Z.gx p nw⟩
  · rcases List.mem_append.mp hb with q | q
    · exact offh b q
    · have o := Z.off b hb
      have w := W.off b (List.mem_append_right _ (.tail _ q))
      refine ⟨o.1, fun z => ?_, o.2.2⟩
      rcases List.mem_append.mp (pm.mem_iff.mp z) with z | z
      · exact o.2.1 (mem b z)
      · exact w.2.1 z
  · rcases List.mem_append.mp hb with q | q
    · obtain ⟨o, h⟩ := Z.live b hb; exact ⟨o, kp b q o h⟩
    · exact W.live b (List.mem_append_right _ (.tail _ q))
end
/-- a generator asleep that still has ys to tell -/
structure InnU (prog : Program) (X : GU) (a g : Nat) (Qe : List O → Prop) (A : Around) (ys : List Str) (s : Shared) : Prop where
  gen : GenAt s.heap a g 0
  lv : LvU X s
  st : ∃ gs, s.gens[g]? = some gs ∧ ∀ s'', LkU X s s'' → s''.gens[g]? = some .running → GoesU (model prog X.w) A (TellY (model prog X.w) A X Qe ys s'') (TellR X Qe ys s'') gs s''
theorem setGen_self {s : Shared} {g : Nat} {x : GenState} (h : g < s.gens.size) : (s.setGen g x).gens[g]? = some x := by
  show (s.gens.setIfInBounds g x)[g]? = some x
  rw [Array.getElem?_setIfInBounds_self_of_lt h]
theorem setGen_ne {s : Shared} {g k : Nat} {x : GenState} (h : k ≠ g) : (s.setGen g x).gens[k]? = s.gens[k]? := by
  show (s.gens.setIfInBounds g x)[k]? = _
  rw [Array.getElem?_setIfInBounds_ne (Ne.symm h)]
theorem setGen_size {s : Shared} {g : Nat} {x : GenState} : (s.setGen g x).gens.size = s.gens.size := by
  show (s.gens.setIfInBounds g x).size = _
  rw [Array.size_setIfInBounds]
theorem noLimit_at {h h' : Heap} {a : Nat} {o : Obj} (x : h.NoLimit) (ho : h.get? a = some o) (hd : ∀ es ep, o.data ≠ .dict es ep) (hk : ∀ b p, b ≠ a → h.get? b = some p → h'.get? b = some p) : h'.NoLimit := by
  obtain ⟨mc, ⟨p, es, ep, hp, hpd, r⟩, y⟩ := x
  refine ⟨mc, ⟨p, es, ep, hk _ _ (fun q => ?_) hp, hpd, r⟩, y⟩
  rw [q, ho] at hp; cases hp
  exact hd es ep hpd
section
variable {prog : Program} {X : GU} {a g : Nat} {Qe : List O → Prop} {A : Around} {ys : List Str} {s : Shared}
theorem InnU.wake (I : InnU prog X a g Qe A ys s) (hg : g ∈ X.gout) : ∃ gs, s.gens[g]? = some gs ∧ GoesU (model prog X.w) A (TellY (model prog X.w) A X Qe ys (s.setGen g .running)) (TellR X Qe ys (s.setGen g .running)) gs (s.setGen g .running) := by
  obtain ⟨gs, h1, h2⟩ := I.st
  refine ⟨gs, h1, h2 _ ⟨fun _ _ _ e => e, I.lv.live, .refl _, I.lv.lim, rfl, fun k z hz => ?_, fun k hk z hz => ?_, by rw [setGen_size]; exact Nat.le_refl _⟩ (setGen_self (I.lv.gs g hg))⟩
  · by_cases q : k = g
    · subst q
      rw [setGen_self (I.lv.gs k hg)] at hz
      cases hz; exact .inl rfl
    · rw [setGen_ne q] at hz; exact .inr hz
  · rw [setGen_ne (fun q => hk (by rw [q]; exact hg))]; exact hz
end
end Mine
end
section
open PySem PySem.W PyProof.Rows PySem.W.X PySem.SeqAt
namespace Mine
theorem entry_yf : entryFor table "proto.yield_from" = some Builtin.«proto.yield_from» := entryFor_of_fast (by kernel_rfl)
theorem plain_yf : plainId "proto.yield_from" = true := by decide +kernel
section
variable {prog : Program} {w : World} {A : Around} {E : Value → Shared → Prop} {s : Shared}
theorem wpAny_ends {e : Nat} {Q : Bool → Shared → Prop} (he : StopAt s.heap e) (h : Q true s) : wpAny (model prog w) A (Builtin.Generator.endsTheTurnAsAValue false (.ref e)) Q E s := by
  obtain ⟨o, vs, ho, hc, hd, h5⟩ := he
  have hT : s.TypeIs (.ref e) "StopIteration" := ⟨o, ho, hc⟩
  unfold Builtin.Generator.endsTheTurnAsAValue Builtin.Generator.isStopAndMetaclass
  refine wpAny_bind (wpAny_bind (wpAny_typeOf hT (wpAny_bind (wpAny_of_eq isSubtype_stop ?_))))
  refine wpAny_bind (wpAny_of_eq (a := Value.type "type") (by first | rfl | kernel_rfl) ?_)
  exact wpAny_pure (wpAny_pure h)
end
section
variable {prog : Program} {X X' : GU} {a g : Nat} {Qe Qe' : List O → Prop} {A : Around} {fs : List Frame} {zs : List Str}
noncomputable abbrev yfC (a : Nat) : Code := .builtin "proto.yield_from" ⟨[.ref a, .bool false, .none], []⟩
theorem segU_yf (hw : X'.w = X.w) (ho : X'.out = a :: X.out) (hgo : X'.gout = g :: X.gout) (hao : a ∉ X.out) (hgn : g ∉ X.gout) (hfs : FsOk fs) (hh : (A.over (yfC a) fs).handled = none) (hd : (A.over (yfC a) fs).depth < recursionLimit)
    (hend : ∀ s₀ s₁ m H ρ, KpU X s₀ s₁ → SIU X' .nil m H ρ s₁ → Qe' H → SegU (model prog X.w) A (TellY (model prog X.w) A X Qe zs s₀) (TellR X Qe zs s₀) (yfC a) (.pure (.done (.ret .none))) fs s₁) :
    ∀ (ys : List Str) (s s₀ : Shared), InnU prog X' a g Qe' (A.over (yfC a) fs).in1 ys s → KpU X s₀ s → SegU (model prog X.w) A (TellY (model prog X.w) A X Qe (ys ++ zs) s₀) (TellR X Qe (ys ++ zs) s₀) (yfC a) ((model prog X.w).den (yfC a)) fs s := by
  obtain ⟨w', KF', fi', env', F', out', gout', ρI', sI'⟩ := X'
  dsimp only at hw ho hgo
  subst hw ho hgo
  have hden : (model prog X.w).den (yfC a) = Builtin.«proto.yield_from» ⟨[.ref a, .bool false, .none], []⟩ := by
    show (match entryFor table "proto.yield_from" with | some b => b ⟨[.ref a, .bool false, .none], []⟩ | none => unsupported ((withoutEnding? "proto.yield_from" "#data").getD "proto.yield_from")) = _
    rw [entry_yf]
  intro ys
  induction ys with
  | nil =>
    intro s s₀ I k
    obtain ⟨gs, hgs, hG⟩ := I.wake (.head _)
    rw [hden]
    unfold Builtin.«proto.yield_from»
    dsimp only
    refine segU_bind (wpU_pure (segU_bind (wpU_attempt (wpU_holding ?_))))
    refine wpU_ite_false (by simp) (wpU_ite_true rfl (wpU_bind (up (wpAny_rule ?_))))
    refine wpU_bind (special_nextU hh I.lv.lim hd I.gen hgs hG (fun v gs' s₁ hv => hv.elim) (fun r s₁ hr => ?_))
    obtain ⟨rfl, kp, m, H, ρ, W, hq⟩ := hr
    refine ⟨rfl, fun h' e hk he => ?_⟩
    dsimp only
    refine segU_bind (up (wpAny_ends he ?_))
    simp only [if_true, Bool.false_eq_true, if_false]
    obtain ⟨o, vs, ho, hc, hd5, h5⟩ := he
    refine segU_bind (up (wpAny_rule (segU_bind (up (wpAny_field ho hd5 h5 ?_)))))
    have l : LkU ⟨X.w, KF', fi', env', F', a :: X.out, g :: X.gout, ρI', sI'⟩ s₁ { s₁.setGen g .finished with heap := h' } := by
      refine ⟨fun b o _ e => hk b o e, fun b hb => let ⟨o, e⟩ := W.lv.live b hb; ⟨o, hk b o e⟩, .of_keep hk, W.lv.lim.keeps hk, rfl, fun k' z hz => ?_, fun k' hk' z hz => ?_, by show s₁.gens.size ≤ (s₁.setGen g .finished).gens.size; rw [setGen_size]; exact Nat.le_refl _⟩
      · by_cases q : k' = g
        · subst q
          have := setGen_self (x := .finished) (W.lv.gs k' (.head _))
          rw [show ({ s₁.setGen k' .finished with heap := h' } : Shared).gens = (s₁.setGen k' .finished).gens from rfl, this] at hz
          cases hz; exact .inl rfl
        · exact .inr ((setGen_ne (x := .finished) q).symm.trans hz)
      · exact (setGen_ne (x := .finished) (fun q => hk' (by rw [q]; exact .head _))).trans hz
    exact hend s₀ _ m H ρ (fun b hb o e => hk b o (kp b (.tail _ hb) o (k b hb o e))) (W.look l) hq
  | cons y ys ih =>
    intro s s₀ I k
    obtain ⟨gs, hgs, hG⟩ := I.wake (.head _)
    rw [hden]
    unfold Builtin.«proto.yield_from»
    dsimp only
    refine segU_bind (wpU_pure (segU_bind (wpU_attempt (wpU_holding ?_))))
    refine wpU_ite_false (by simp) (wpU_ite_true rfl (wpU_bind (up (wpAny_rule ?_))))
    refine wpU_bind (special_nextU hh I.lv.lim hd I.gen hgs hG (fun v gs' s₁ hv => ?_) (fun r s₁ hr => hr.elim))
    obtain ⟨⟨t, rfl⟩, kp, lv, nx⟩ := hv
    refine wpU_pure (M := model prog X.w) ?_
    dsimp only
    have g₁ : GenAt s₁.heap a g 0 := I.gen.at fun o e => kp a (.head _) o e
    have hT : (s₁.setGen g gs').TypeIs (.ref a) "generator" := g₁.typeIs (s := s₁)
    refine segU_bind (up (wpAny_typeOf hT (segU_bind (up (wpAny_of_eq close_gen.lookup (segU_bind (wpU_pure (M := model prog X.w) ?_)))))))
    refine segU_bind (up (wpAny_sleptOver (s := s₁.setGen g gs') g₁ fun h₃ k₃ g₃ => ?_))
    have ne : ∀ b ∈ X.out, b ≠ a := fun b hb q => hao (q ▸ hb)
    obtain ⟨oa, nm, qn, hoa, hca, hda, hsl⟩ := g₁
    have tk₃ : TK s₁.heap h₃ := .of_ext (a := a) (fun b o hb e => k₃ b o hb e) (I.gen.at (h' := s₁.heap) fun o e => kp a (.head _) o e).not_imm
    have lim₃ : h₃.NoLimit := noLimit_at lv.lim hoa (fun es ep q => by rw [hda] at q; cases q) k₃
    refine segU_yield (k := fun r => _) hfs.sp (closing_from hfs.gd g₃.choose_spec.choose_spec.choose_spec.1 (by
      obtain ⟨_, hc3, hd3, _⟩ := g₃.choose_spec.choose_spec.choose_spec
      unfold Obj.genNumber?
      rw [hc3, hd3]; rfl) true) fun p => ⟨⟨t, rfl⟩, fun b hb o e => k₃ b o (ne b hb) (kp b (.tail _ hb) o (k b hb o e)), ⟨lim₃, fun b hb => let ⟨o, e⟩ := lv.live b (.tail _ hb); ⟨o, k₃ b o (ne b hb) e⟩, fun n hn => ?_⟩, fun s'' l => ?_⟩
    · show n < (s₁.setGen g gs').gens.size
      rw [setGen_size]; exact lv.gs n (.tail _ hn)
    have g₃' : GenAt s''.heap a g 1 := (show GenAt h₃ a g 1 by simpa using g₃).at fun o e => l.old a o hao e
    have ni := g₃'.not_imm
    show SegU (model prog X.w) A _ _ (yfC a) (Builtin.Generator.sleptOver (.ref a) false >>= _) fs s''
    refine segU_bind (up (wpAny_sleptOver g₃' fun h₄ k₄ g₄ => ?_))
    obtain ⟨o4, _, _, ho4, _, hd4, _⟩ := g₃'
    have tk₄ : TK s''.heap h₄ := .of_ext (a := a) (fun b o hb e => k₄ b o hb e) ni
    have hgs₁ : s''.gens[g]? = some gs' := l.gk g hgn _ (setGen_self (lv.gs g (.head _)))
    have hsz : s₁.gens.size ≤ s''.gens.size := by
      have := l.sz
      rw [show ({ s₁.setGen g gs' with heap := h₃ } : Shared).gens = (s₁.setGen g gs').gens from rfl, setGen_size] at this
      exact this
    refine segU_bind (wpU_pure (M := model prog X.w) (segU_again (plainId_quiet plain_yf _) (ih { s'' with heap := h₄ } s'' ⟨by simpa using g₄, ⟨noLimit_at l.lim ho4 (fun es ep q => by rw [hd4] at q; cases q) k₄, fun b hb => ?_, fun n hn => Nat.lt_of_lt_of_le (lv.gs n hn) hsz⟩, gs', hgs₁, fun s₅ l₅ hr₅ => nx s₅ ?_⟩ fun b hb o e => k₄ b o (ne b hb) e)))
    · rcases List.mem_cons.mp hb with q | hb
      · obtain ⟨o, _, _, ho, _⟩ := g₄; rw [q]; exact ⟨o, ho⟩
      · obtain ⟨o, ho⟩ := l.live b hb; exact ⟨o, k₄ b o (ne b hb) ho⟩
    · refine ⟨fun b o hb e => ?_, l₅.live, tk₃.trans (l.tk.trans (tk₄.trans l₅.tk)), l₅.lim, l₅.os.trans l.os, fun k' z hz => ?_, fun k' hk' z hz => ?_, Nat.le_trans hsz l₅.sz⟩
      · have hba : b ≠ a := fun q => hb (by rw [q]; exact .head _)
        exact l₅.old b o hb (k₄ b o hba (l.old b o (fun q => hb (.tail _ q)) (k₃ b o hba e)))
      · by_cases q : k' = g
        · subst q
          rw [hr₅] at hz; cases hz; exact .inl rfl
        · rcases l₅.bare k' z hz with z1 | z1
          · exact .inl z1
          · rcases l.bare k' z z1 with z2 | z2
            · exact .inl z2
            · exact .inr ((setGen_ne q).symm.trans z2)
      · exact l₅.gk k' hk' z (l.gk k' (fun q => hk' (.tail _ q)) z ((setGen_ne (fun q => hk' (by rw [q]; exact .head _))).trans hz))
end
end Mine
end
section
open PySem PySem.W PyProof.Rows PySem.W.X PySem.SeqAt
namespace Mine
/-- a generator's body, begun with the names m, tells the texts ys and ends with Qe -/
noncomputable def BodyU (prog : Program) (w : World) (KF : Frag) (d : Nat) (fi : FI) (body : List Stmt) (m : Names) (H : List O) (ys : List Str) (Qe : List O → Prop) : Prop :=
  ∀ (X : GU) (A : Around), X.w = w → X.KF = KF → X.fi = fi → X.env.scope = fi.sc → interactive X.env = false → Room (A.over (.func body X.env) []) d →
    SOU prog X .nil ys Qe A (.func body X.env) [] m H ((execs body X.env).wrap (fun f => .pure (.done (.ret (match f with | .ret v => v | _ => .none)))) (fun e => (leaving X.env e).wrap (fun _ => .raise e) .raise id id) id id)
theorem Room.inner {A : Around} {c : Code} {a : Nat} {body : List Stmt} {env : Env} {fs : List Frame} {k : Result → Sem Fin} {g l p kp} {d : Nat} (h : Room (A.over c fs) (d + 1)) : Room ((A.over (yfC a) (.ret k none g l c p kp :: fs)).in1.over (.func body env) []) d := by
  obtain ⟨h1, h2, h3⟩ := over_ret (A := A) (c := c) (c' := yfC a) (fs := fs) (k := k) (g := g) (l := l) (p := p) (kp := kp)
  refine ⟨h1.trans h.hd, ?_, ?_⟩
  · have e1 : (yfC a).weight = 0 := plainId_weight plain_yf _
    have := h.dp
    show (A.over (yfC a) (.ret k none g l c p kp :: fs)).depth + 0 + 1 + 4 * d < recursionLimit
    rw [h2, e1]; omega
  · have e1 : (yfC a).cUnits = 1 := plainId_units plain_yf _
    have := h.un
    show (A.over (yfC a) (.ret k none g l c p kp :: fs)).units + 1 + 0 + 3 + 40 * d + 200 < cLine
    rw [h3, e1]; omega
section
variable {prog : Program} {X : GU} {L : Held} {xs : List Str} {Qe : List O → Prop} {A : Around} {c : Code} {fs : List Frame} {d : Nat} {m : Names} {H : List O} {K : Flow → Sem Fin} {Hd : Value → Sem Fin}
noncomputable abbrev KYf (prog : Program) (X : GU) (L : Held) (xs : List Str) (Qe : List O → Prop) (A : Around) (c : Code) (fs : List Frame) (d : Nat) (m : Names) (t : Sem Fin) : V → List O → Prop := fun v H₁ => ∃ i fi body m', v = .ref i ∧ H₁[i]? = some (.fresh fi body m') ∧ ∃ ys zs Qe', xs = ys ++ zs ∧ BodyU prog X.w X.KF d fi body m' (H₁.set i .gone) ys Qe' ∧ ∀ H₂, Qe' H₂ → SOU prog X L zs Qe A c fs m H₂ t
theorem sou_yf {e : Expr} {ypos pos : Pos} {rest : List Stmt} (hr : Room (A.over c fs) (d + 1)) (hfs : FsOk fs) (h : WE prog X.w X.KF X.fi (d + 1) noE m H e (KYf prog X L xs Qe A c fs d m ((execs rest X.env).wrap K Hd id id))) (hi : interactive X.env = false) :
    SOU prog X L xs Qe A c fs m H ((execs (.Expr (.YieldFrom e ypos) pos :: rest) X.env).wrap K Hd id id) := fun ρ s s₀ Z k => by
  rw [execs_cons_wrap, exec_Expr X.env _ pos hi rfl]
  show SegU _ A _ _ c (.at pos fun _ => ((eval e X.env >>= fun v => (standAt ypos >>= fun _ => yieldFrom X.env v)) >>= fun x =>
    dropValue (.YieldFrom e ypos) pos x).wrap _ Hd id id) fs s
  refine segU_at ?_
  rw [Sem.bind_eq_wrap', Sem.bind_eq_wrap', Sem.wrap_wrap, Sem.wrap_wrap]
  refine segU_wrap (up (wpAny_mono (h _ X.env _ ρ s hr (Z.sim.rebase Z.off)) (fun v s₁ hx => ?_) fun _ _ x => (se_no x).elim))
  obtain ⟨ρ₁, H₁, x', st₁, S₁, rv, i, fi, body, m', rfl, hH, ys, zs, Qe', rfl, hB, hK⟩ := hx
  obtain ⟨Z₁, k₁⟩ := Z.run st₁ S₁
  unfold VR at rv
  obtain ⟨en, he, rfl⟩ := rv
  obtain ⟨g, env', h1, h2, h3, h4, h5, h6, h7, h8, W⟩ := Z₁.sub he hH
  refine segU_bw (wpU_standAt ?_)
  unfold yieldFrom
  refine segU_bw (up (wpAny_typeOf h3.typeIs ?_))
  rw [if_neg (by decide)]
  refine segU_bw (wpU_holding (up (wpAny_pyIter_gen h3 ?_)))
  unfold runValue run
  rw [Sem.bind_eq_wrap', Sem.wrap_wrap]
  refine segU_call fun p => ?_
  refine segU_yf (X := X) (Qe' := Qe') (X' := X.sub L ρ₁ s₁ i en g fi env') rfl rfl rfl h7 h8 hfs.ret ?_ ?_ (fun s₀' s₂ m₂ H₂ ρ₂ kp W₂ hq => ?_) ys s₁ s₀ ⟨.of h3, W.lv, _, h2, fun s'' l _ => ?_⟩ (k.trans k₁)
  · exact over_ret.1.trans hr.hd
  · rw [over_ret.2.1, show (yfC en.a).weight = 0 from plainId_weight plain_yf _]
    have := hr.dp
    omega
  · exact segU_leaf (.ok (.ret .none)) (hK H₂ hq _ s₂ s₀' (Z₁.back he h1 h6 W₂) kp)
  · exact sou_func (hB (X.sub L ρ₁ s₁ i en g fi env') _ rfl rfl rfl h5 h4 hr.inner) _ s'' s'' (W.look l) .refl
end
end Mine
end
section
open PySem PySem.W PyProof.Rows PySem.W.X PySem.SeqAt
namespace Mine
section
variable {w : World} {KF : Frag} {fi : FI} {env : Env} {m : Names} {F : Base} {ρ ρ' : List Ent} {H : List O} {h : Heap} {gs : Array GenState}
theorem Sim.frame (S : Sim w KF fi env m F ρ H h gs) : FrameAt fi env m ρ h := ⟨S.es, S.eg, S.eb, S.ec, S.ek, S.ns, S.cl, S.ce, S.cn, S.cu, S.cd⟩
theorem FrameAt.ext {ρ' : List Ent} (f : FrameAt fi env m ρ h) (p : ρ <+: ρ') : FrameAt fi env m ρ' h :=
  ⟨f.es, f.eg, f.eb, f.ec, f.ek, let ⟨mv, a, b⟩ := f.ns; ⟨mv, a, fun x hx => (b x hx).mono p (.refl _)⟩, fun x c hc => let ⟨ov, a, b⟩ := f.cl x c hc; ⟨ov, a, b.mono p (.refl _)⟩, f.ce, f.cn, f.cu, f.cd⟩
theorem Sim.own_nodup (S : Sim w KF fi env m F ρ H h gs) (hw : fi.own = true) : (ownA fi env).Nodup := by
  unfold ownA
  rw [if_pos hw]
  refine List.nodup_cons.mpr ⟨fun q => ?_, ?_⟩
  · obtain ⟨⟨x, c⟩, hm, hx⟩ := List.mem_map.mp q
    exact (S.cu x c hm).2 hx
  · exact List.pairwise_map.mpr S.cd
end
section
variable {prog : Program} {w : World} {KF : Frag} {d : Nat} {E : HEP} {H : List O} {a : Nat} {o : Obj} {fd : FuncData} {body : List Stmt} {sc : Scope} {ps : List Str} {xs : List V}
/-- a generator function called -/
theorem call_gen {Q : V → List O → Prop} (K : FnOk KF a o fd body sc ps) (hgen : sc.isGenerator = true) (hlen : xs.length = ps.length)
    (h : Q (.ref H.length) (H ++ [.fresh ⟨sc, true, fd.code⟩ body (initN sc ps xs)])) : CallW prog w KF (d + 1) E H (.st a) xs Q :=
  fun A F ρ s u us hA S ru r => by
    have hsc := K.hsc
    subst hsc
    unfold VR at ru
    subst ru
    obtain ⟨ho, hcd⟩ := fn_code K.toFnB S.b
    have hul : us.length = ps.length := r.len.trans hlen
    refine wpAny_call (codeAny_call_generator hA.depth ho K.hd K.hco hgen K.hb hcd ?_)
    show wpAny _ _ (bindArgs fd ⟨us, []⟩) _ _ _
    rw [K.hbd _ hul, K.hcl]
    refine wpAny_pure (wpAny_newFunctionEnv_cells K.hk (fun z hz => ?_) fun env' he' s₃ Xc => ?_)
    · have hx1 : z.1 ∈ ps := by rw [← zip_keys hul]; exact List.mem_map.mpr ⟨z, hz, rfl⟩
      rcases K.hkd z.1 hx1 with q | q
      · exact .inl q
      · obtain ⟨c, hc⟩ := cells_has (n := s.heap.objs.size + 1) (mem_of_lookup q)
        exact .inr ⟨q, by rw [nodup_lookup (cells_nodup K.hnd) hc]; rfl⟩
    subst he'
    obtain ⟨st₃, S₃⟩ := enter_sim K.toFnB hlen S r Xc
    obtain ⟨h₃, tk₃, e₃, k₃⟩ := Xc.done
    subst e₃
    refine ⟨S₃.b.lim, ?_⟩
    have dd := S₃.hs.dead (get_size h₃)
    have kh : Keep h₃ (h₃.push { cls := .type "generator", data := .fields #[.int s.gens.size 0, .str fd.name tk₃, .str fd.qualname (tk₃ + 1)] }) := fun b o e => Heap.get?_push_of_some _ e
    have hb : ∀ z ∈ s.gens.push (.fresh (.func body (callEnvC fd s.heap.objs.size a))), z.bare = true := fun z hz => by
      rcases Array.mem_push.mp hz with hz | rfl
      · exact S.bare z hz
      · rfl
    have T := (S₃.keeps kh).gens hb (fun e he _ x c hx hc => by
          show (s.gens.push _)[x.1]? = _
          rw [Array.getElem?_push_lt (S.glt he hx)]; rw [Array.getElem?_eq_getElem (S.glt he hx)] at hc; exact hc) (by rw [Array.size_push]; exact Nat.le_succ _)
    have hno : h₃.objs.size ∉ ownA ⟨fd.scope, true, fd.code⟩ (callEnvC fd s.heap.objs.size a) := fun q => by
      obtain ⟨o, ⟨q2, _⟩ | ⟨q3, q2⟩⟩ := S₃.own_live _ q
      · rw [get_size] at q2; cases q2
      · rw [get_size] at q2; cases q2
    have hnd : (h₃.objs.size :: ownA ⟨fd.scope, true, fd.code⟩ (callEnvC fd s.heap.objs.size a)).Nodup := List.nodup_cons.mpr ⟨hno, S₃.own_nodup rfl⟩
    have hga : (h₃.push { cls := .type "generator", data := .fields #[.int s.gens.size 0, .str fd.name tk₃, .str fd.qualname (tk₃ + 1)] }).IsGen h₃.objs.size s.gens.size := ⟨_, _, _, Heap.get?_push_size _ rfl, rfl, rfl, rfl⟩
    have hint : interactive (callEnvC fd s.heap.objs.size a) = false := by
      have e : (callEnvC fd s.heap.objs.size a).scope = fd.scope := rfl
      unfold interactive
      rw [e]
      simp [K.hk]
    refine ⟨_, _, .ref H.length, st₃.trans ?_, T.hs.adoptG (gg := some (s.gens.size, callEnvC fd s.heap.objs.size a)) (o := .fresh ⟨fd.scope, true, fd.code⟩ body (initN fd.scope ps xs)) hnd (fun b hb => ?_) ⟨_, _, rfl, rfl, hga, rfl, hint, (S₃.keeps kh).frame.ext (List.prefix_append _ _)⟩ (fun x hx f hf y hy => ?_) ⟨_, _, rfl, Array.getElem?_push_size ..⟩, ?_, h⟩
    · exact .addG (s := ⟨h₃, s.gens, _, _, _⟩) (.of_keep kh) rfl (fun x hx => by rw [← Option.some.inj hx]; exact Nat.le_refl _) (by show s.gens.size ≤ (s.gens.push _).size; rw [Array.size_push]; exact Nat.le_succ _)
    · rcases List.mem_cons.mp hb with q | q
      · rw [q]; exact ⟨dd.1, dd.2, _, Heap.get?_push_size _ rfl⟩
      · have lo := S₃.lo b q
        obtain ⟨o, ⟨q2, _⟩ | ⟨q3, q2⟩⟩ := S₃.own_live _ q
        · exact ⟨lo.2, lo.1, _, kh _ _ q2⟩
        · exact ⟨lo.2, lo.1, _, kh _ _ q2⟩
    · rw [← Option.some.inj hx]
      exact Nat.ne_of_lt (S.glt hf hy)
    · unfold VR
      exact ⟨_, by rw [← S.len, List.getElem?_concat_length], rfl⟩
end
end Mine
end
section
open PySem PySem.W PyProof.Rows PySem.W.X PySem.SeqAt
namespace Mine
section
variable {M : Model} {A : Around} {E : Value → Shared → Prop} {s : Shared}
theorem callWith_typeU {pos : Pos} {T : String} {first : List Value} {args : List (Bool × Sem Value)} {Q : Value → Shared → Prop} (hplain : args.any (·.1) = false)
    (h : wpAny M A (evalArgs (.type T) true args []) (fun a s₁ => wpU M A (call (.type T) (first ++ a.pos) a.kw) Q E s₁) E s) : wpU M A (callWith pos (.type T) first args []) Q E s := by
  unfold callWith
  refine wpU_bind (wpU_holding (up (wpAny_mono h (fun a s₁ h₁ => wpU_bind (wpU_standAt ?_)) fun _ _ x => x)))
  simp only [hplain, List.any_nil, Bool.or_false]
  refine wpU_bind (wpU_pure ?_)
  exact wpU_bind (wpU_mono h₁ (fun r s₂ hr => wpU_bind (wpU_holding (up (wpAny_point (wpU_pure hr))))) fun _ _ x => x)
end
theorem LkU.trans {X : GU} {s s' s'' : Shared} (a : LkU X s s') (b : LkU X s' s'') : LkU X s s'' :=
  ⟨fun c o hc e => b.old c o hc (a.old c o hc e), b.live, a.tk.trans b.tk, b.lim, b.os.trans a.os, fun k z hz => (b.bare k z hz).elim .inl fun q => a.bare k z q, fun k hk z e => b.gk k hk z (a.gk k hk z e), Nat.le_trans a.sz b.sz⟩
theorem LkU.unset {X : GU} {s s'' : Shared} {g : Nat} {x : GenState} (hg : g ∈ X.gout) (l : LkU X (s.setGen g x) s'') (hr : s''.gens[g]? = some .running) : LkU X s s'' :=
  ⟨l.old, l.live, l.tk, l.lim, l.os, fun k z hz => by
    by_cases q : k = g
    · subst q; rw [hr] at hz; cases hz; exact .inl rfl
    · exact (l.bare k z hz).elim .inl fun e => .inr ((setGen_ne q).symm.trans e), fun k hk z e => l.gk k hk z ((setGen_ne (fun q => hk (by rw [q]; exact hg))).trans e), by have := l.sz; rw [setGen_size] at this; exact this⟩
theorem LkU.finished {X : GU} {s : Shared} {g : Nat} {h' : Heap} (v : LvU X s) (hg : g ∈ X.gout) (hk : Keep s.heap h') : LkU X s { s.setGen g .finished with heap := h' } := by
  refine ⟨fun b o _ e => hk b o e, fun b hb => let ⟨o, e⟩ := v.live b hb; ⟨o, hk b o e⟩, .of_keep hk, v.lim.keeps hk, rfl, fun k' z hz => ?_, fun k' hk' z hz => ?_, by show s.gens.size ≤ (s.setGen g .finished).gens.size; rw [setGen_size]; exact Nat.le_refl _⟩
  · by_cases q : k' = g
    · subst q
      have := setGen_self (x := .finished) (v.gs k' hg)
      rw [show ({ s.setGen k' .finished with heap := h' } : Shared).gens = (s.setGen k' .finished).gens from rfl, this] at hz
      cases hz; exact .inl rfl
    · exact .inr ((setGen_ne (x := .finished) q).symm.trans hz)
  · exact (setGen_ne (x := .finished) (fun q => hk' (by rw [q]; exact hg))).trans hz
section
variable {prog : Program} {X : GU} {a g : Nat} {Qe : List O → Prop} {A : Around} {ys : List Str} {s s' : Shared}
theorem InnU.look (I : InnU prog X a g Qe A ys s) (l : LkU X s s') (hg : s'.gens = s.gens) (ha : ∀ o, s.heap.get? a = some o → s'.heap.get? a = some o) : InnU prog X a g Qe A ys s' := by
  obtain ⟨gs, h1, h2⟩ := I.st
  exact ⟨I.gen.at ha, ⟨l.lim, l.live, fun n hn => by rw [hg]; exact I.lv.gs n hn⟩, gs, by rw [hg]; exact h1, fun s'' l' hr => h2 s'' (l.trans l') hr⟩
end
section
variable {prog : Program} {w : World} {A : Around} {E : Value → Shared → Prop} {s : Shared}
theorem pyIter_genAt {a : Addr} {g : Nat} {k : Int} {Q : Value → Shared → Prop} (hg : GenAt s.heap a g k) (h : Q (.ref a) s) : wpAny (model prog w) A (pyIter (.ref a)) Q E s := by
  refine wpAny_pyIter_slot hg.typeIs slot_gen_iter (wpAny_call_entry slot_gen_iter hg.typeIs entry_gen_iter ?_ (args_gen_iter _))
  show wpAny _ _ (ret (.ref a)) _ _ s
  exact wpAny_pure ⟨_, rfl, "generator", _, hg.typeIs, slot_gen_next.lookup, h⟩
end
/-- a generator of texts, drawn to its end -/
theorem gen_drainU {prog : Program} {X : GU} {a g S : Nat} {Qe : List O → Prop} {A : Around} {ys : List Str} (hout : X.out = [S, a]) (hgout : X.gout = [g]) (hSa : S ≠ a) (hh : A.handled = none) (hroom : A.depth < recursionLimit) :
    DrainU prog X.w A a S ys.length (fun i v => ∃ x t, ys[i]? = some x ∧ v = .str x t) (fun i s => InnU prog X a g Qe A.in1 (ys.drop i) s ∧ ∃ acc c, s.heap.get? S = some (listO acc c)) (fun s => ∃ m H ρ, SIU X .nil m H ρ s ∧ Qe H) where
  ty := fun i s I => I.1.gen.typeIs
  frame := fun i s s' ⟨I, acc, c, hS⟩ hk hS' hg ho => by
    have ha : ∀ o, s.heap.get? a = some o → s'.heap.get? a = some o := fun o e => hk a o (Ne.symm hSa) e
    refine ⟨I.look ⟨fun b o hb e => hk b o (fun q => hb (by rw [q, hout]; exact .head _)) e, fun b hb => ?_, .of_ext (a := S) (fun b o hb e => hk b o hb e) (list_not_imm (xs := acc) ⟨_, hS, rfl, _, rfl⟩), noLimit_at I.lv.lim hS (fun _ _ q => nomatch q) (fun b p hb e => hk b p hb e), ho, fun k z e => .inr (by rw [← hg]; exact e), fun k _ z e => by rw [hg]; exact e, by rw [hg]; exact Nat.le_refl _⟩ hg ha, hS'⟩
    rw [hout] at hb
    rcases List.mem_cons.mp hb with q | hb
    · obtain ⟨acc', c', e⟩ := hS'; rw [q]; exact ⟨_, e⟩
    · obtain ⟨o, _, _, e, _⟩ := I.gen; rw [List.mem_singleton.mp hb]; exact ⟨o, ha o e⟩
  item := fun i s hi ⟨I, acc, c, hS⟩ => by
    have hgo : g ∈ X.gout := by rw [hgout]; exact .head _
    obtain ⟨gs, hgs, hG⟩ := I.wake hgo
    rw [List.drop_eq_getElem_cons hi] at hG
    refine nextU hh I.lv.lim hroom I.gen hgs hG (fun v gs' s₁ hv => ?_) (fun r s₁ hr => hr.elim)
    obtain ⟨⟨t, rfl⟩, kp, lv, nx⟩ := hv
    refine ⟨_, rfl, ⟨_, t, List.getElem?_eq_getElem hi, rfl⟩, ⟨⟨I.gen.at fun o e => kp a (by rw [hout]; exact .tail _ (.head _)) o e, ⟨lv.lim, lv.live, fun n hn => by rw [setGen_size]; exact lv.gs n hn⟩, gs', setGen_self (lv.gs g hgo), fun s'' l hr => nx s'' (l.unset hgo hr)⟩, acc, c, kp S (by rw [hout]; exact .head _) _ hS⟩, fun o e => kp S (by rw [hout]; exact .head _) o e⟩
  done := fun s ⟨I, acc, c, hS⟩ => by
    have hgo : g ∈ X.gout := by rw [hgout]; exact .head _
    obtain ⟨gs, hgs, hG⟩ := I.wake hgo
    rw [List.drop_length] at hG
    refine nextU hh I.lv.lim hroom I.gen hgs hG (fun v gs' s₁ hv => hv.elim) (fun r s₁ hr => ?_)
    obtain ⟨rfl, kp, m, H, ρ, W, hq⟩ := hr
    exact ⟨rfl, fun h' hk => ⟨rfl, ⟨m, H, ρ, W.look (.finished W.lv hgo hk), hq⟩, fun o e => hk _ _ (kp S (by rw [hout]; exact .head _) o e)⟩⟩
  self := fun i s Q E ⟨I, _⟩ hQ => pyIter_genAt I.gen hQ
section
variable {prog : Program} {w : World} {KF : Frag} {fi : FI} {d : Nat} {E : EP} {m : Names} {H : List O}
/-- list(…) of a generator that has not begun -/
theorem weu_list {fl arg : Expr} {pos : Pos} {Q : V → List O → Prop}
    (h : WE prog w KF fi (d + 1) noE m H fl fun f H₀ => f = .ty "list" ∧ WE prog w KF fi (d + 1) noE m H₀ arg fun v H₁ => ∃ i fi' body m', v = .ref i ∧ H₁[i]? = some (.fresh fi' body m') ∧ ∃ ys Qe, BodyU prog w KF d fi' body m' (H₁.set i .gone) ys Qe ∧ ys.length ≤ sizeLine ∧ ∀ H', Qe H' → Q (.ref H'.length) (H' ++ [.list (ys.map V.str)]))
    (hpg : Plain [arg] := by intro _; rfl)
    (he : ∀ env, eval (.Call fl [arg] [] pos) env = (do callWith pos (← eval fl env) [] (backTo pos (starEach [arg] env)) (backToKw pos (keywordEach [] env))) := by intro _; rfl) : WEU prog w KF fi (d + 1) E m H (.Call fl [arg] [] pos) Q :=
  fun A env F ρ s hA S => by
    rw [he env]
    refine wpU_bind (up (wpAny_mono (h A env F ρ s hA S) (fun fv s₀ hx => ?_) fun _ _ x => (se_no x).elim))
    obtain ⟨ρ₀, H₀, f, st₀, S₀, ru, hf, h₀⟩ := hx
    subst hf
    unfold VR at ru; subst ru
    rw [hpg env]
    refine callWith_typeU plain_any (Calls.evalArgs_plain (Calls.spliced_cons ?_))
    refine wpAny_mono (h₀ A env F ρ₀ s₀ hA S₀) (fun u s₁ hx => ?_) fun _ _ x => (se_no x).elim
    obtain ⟨ρ₁, H₁, x, st₁, S₁, rx, i, fi', body, m', rfl, hH, ys, Qe, hB, hsz, hQ⟩ := hx
    unfold VR at rx
    obtain ⟨en, hen, rfl⟩ := rx
    refine Calls.spliced_nil ?_
    obtain ⟨g, env', h1, h2, h3, h4, h5, h6, h7⟩ := S₁.toH.out hen hH
    have mem : ∀ b ∈ en.fp, b ∈ fps ρ₁ := fun b hb => fps_mem hen hb
    have nd : en.fp.Nodup := fp_nodup1 S₁.hs.nd (List.mem_of_getElem? hen)
    have nd' : (en.a :: ownA fi' env').Nodup := h3 ▸ nd
    have hea : en.a ∈ en.fp := by rw [h3]; exact .head _
    have hlt : en.a < s₁.heap.objs.size := by obtain ⟨o, _, _, e, _⟩ := h4; exact Heap.lt_size e
    have hSa : s₁.heap.objs.size ≠ en.a := Nat.ne_of_gt hlt
    have kh : Keep s₁.heap (s₁.heap.push { cls := .type "list", data := .seq #[] }) := fun b o e => Heap.get?_push_of_some _ e
    have hfr : FpOff fi' env' (addF F s₁.heap (ownA fi env)) (ρ₁.set i ⟨en.a, [], en.g⟩) [s₁.heap.objs.size] := h7.fresh fun b hb => by rw [List.mem_singleton.mp hb]; exact get_size _
    have W : SIU ⟨w, KF, fi', env', addF F s₁.heap (ownA fi env), [s₁.heap.objs.size, en.a], [g], ρ₁.set i ⟨en.a, [], en.g⟩, s₁⟩ .nil m' (H₁.set i .gone) (ρ₁.set i ⟨en.a, [], en.g⟩) { s₁ with heap := s₁.heap.push { cls := .type "list", data := .seq #[] } } := by
      refine ⟨.same (.of_keep kh) rfl, h7.keeps kh, fun b hb => ?_, fun b hb => ?_, (fun b hb => nomatch hb), trivial, fun k hk => ?_, fun f hf hne x hx q => ?_⟩
      · rcases List.mem_cons.mp hb with q | hb
        · exact hfr b (List.mem_singleton.mpr q)
        · have hb := List.mem_singleton.mp hb
          subst hb
          exact ⟨S₁.toH.off _ (mem _ hea), fps_set_off S₁.hs.nd hen rfl hea, (List.nodup_cons.mp nd').1⟩
      · rcases List.mem_cons.mp hb with q | hb
        · rw [q]; exact ⟨_, Heap.get?_push_size _ rfl⟩
        · obtain ⟨o, _, _, e, _⟩ := h4; rw [List.mem_singleton.mp hb]; exact ⟨o, kh _ _ e⟩
      · rw [List.mem_singleton.mp hk]; exact (Array.getElem?_eq_some_iff.mp h2).1
      · obtain ⟨j, hj, rfl⟩ := List.mem_iff_getElem.mp hf
        have hj' := List.getElem?_eq_getElem hj
        by_cases z : i = j
        · subst z
          exact hne (by rw [List.getElem_set_self])
        · rw [List.getElem?_set_ne z] at hj'
          exact gn_apart S₁.hs.gn hen hj' z h1 hx (List.mem_singleton.mp q).symm
    refine drain_listU (n := ys.length) (gen_drainU (X := ⟨w, KF, fi', env', addF F s₁.heap (ownA fi env), [s₁.heap.objs.size, en.a], [g], ρ₁.set i ⟨en.a, [], en.g⟩, s₁⟩) (Qe := Qe) (ys := ys) rfl rfl hSa hA.hd hA.depth) hlt hsz ?_ ?_
    · refine ⟨⟨.of (h4.keeps kh), W.lv, _, h2, fun s'' l _ => ?_⟩, _, _, Heap.get?_push_size _ rfl⟩
      exact sou_func (hB _ _ rfl rfl rfl h6 h5 (hA.gen _ _)) _ s'' s'' (W.look l) .refl
    · rintro s' acc c ⟨m'', H', ρ', W', hq⟩ hS it
      have z1 := W'.off _ (.head _)
      have pre : ρ₁.set i ⟨en.a, [], en.g⟩ <+: ρ' := W'.st.1
      have hi := (List.getElem?_eq_some_iff.mp hen).1
      have hi'' : ρ'[i]? = some ⟨en.a, [], some (g, env')⟩ := by
        rw [← h1]; exact pre_get pre (List.getElem?_set_self hi)
      have p := set_prefix hen pre
      have wo : ∀ b ∈ en.fp, b ∉ fps ρ' ∧ addF F s₁.heap (ownA fi env) b = none ∧ ∃ o, s'.heap.get? b = some o := fun b hb => by
        rw [h3] at hb
        rcases List.mem_cons.mp hb with rfl | hb
        · have o := W'.off en.a (.tail _ (.head _))
          exact ⟨o.2.1, o.1, W'.live _ (.tail _ (.head _))⟩
        · have o := W'.sim.lo b hb
          obtain ⟨q, ⟨h1, _⟩ | ⟨q2, h1⟩⟩ := W'.sim.own_live b hb
          · exact ⟨o.2, o.1, q, h1⟩
          · exact ⟨o.2, o.1, q2, h1⟩
      have T := W'.sim.hs.back hi'' h1 nd hea wo
      have pm := fps_set_perm (e := en) hi'' rfl
      have zS : s₁.heap.objs.size ∉ fps (ρ'.set i en) := fun q => by
        rcases List.mem_append.mp (pm.mem_iff.mp q) with q | q
        · obtain ⟨o, e⟩ := S₁.hs.live _ (mem _ q); rw [get_size] at e; cases e
        · exact z1.2.1 q
      have T2 := T.adopt (a := s₁.heap.objs.size) (r := []) (o := .list (ys.map V.str)) (List.nodup_cons.mpr ⟨fun q => (nomatch q), List.nodup_nil⟩) (fun b hb => by rw [List.mem_singleton.mp hb]; exact ⟨zS, z1.1, _, hS⟩) ⟨rfl, rfl, acc.toList, ⟨_, hS⟩, strs_rel (by simpa using it.1) fun j v hj => it.2 j v (by simpa using hj)⟩
      have nw : New s₁.gens.size ρ₁ (ρ'.set i en) := fun j f hj hf => by
        rw [List.getElem?_set_ne (by omega)] at hf
        exact W'.st.2.2.2 j f (by rw [List.length_set]; exact hj) hf
      have st : Step ρ₁ s₁ (ρ'.set i en) s' := ⟨p, W'.st.2.1, W'.st.2.2.1, nw⟩
      refine ⟨_, _, .ref H'.length, ((st₀.trans st₁).trans st).trans (.add (.refl _) rfl), S₁.ofH (p.trans (List.prefix_append _ _)) W'.st.2.1 T2, ?_, hQ H' hq⟩
      unfold VR
      exact ⟨_, by rw [← T.len, List.getElem?_concat_length], rfl⟩
end
end Mine
end
section
open PySem PySem.W PyProof.Rows PySem.Spec PySem.Calls
namespace Mine
/-- a caller's tree that may drive such generators, on the real machine -/
theorem ends_U {prog : Program} {w : World} {t : Sem Fin} {s : Shared} {R : Result → Shared → Prop} (hz : s.asleep)
    (h : wpU (model prog w) callerA t (fun fin s' => ∃ f, fin = .done f ∧ R (.ok f) s' ∧ AllBare s'.gens) (fun e s' => R (.error e) s' ∧ AllBare s'.gens) s) :
    ∃ n r s' s'', schedN (denote table) prog w n (.single s ⟨t, .builtin "claim.caller" {}, default, []⟩) = .halted (outcomeOf r) s' ∧ s'.forget = s''.forget ∧ s'.heap.life = s.heap.life ∧ R r s'' := by
  refine Ev.halts (den := denote table) (prog := prog) (w := w) (R := R) (s := s) (t := ⟨t, .builtin "claim.caller" {}, default, []⟩) ?_ hz
  have := h (.builtin "claim.caller" {}) default [] caller_in (K := .pure) (H := .raise) (gd := id) (lv := id) (Φ := fun s' t' => ∃ r c p, t' = ⟨leafOf r, c, p, []⟩ ∧ leftWithCleanup s'.gens = false ∧ R r s') ?_ ?_
  · rw [wrap_id] at this; exact this
  · rintro fin p' s' ⟨f, rfl, hR, hb⟩
    exact .now ⟨.ok f, _, p', rfl, leftWithCleanup_false_of_bare hb, hR⟩
  · rintro e p' s' ⟨hR, hb⟩
    exact .now ⟨.error e, _, p', rfl, leftWithCleanup_false_of_bare hb, hR⟩
theorem from_U {c : ClaimW} {tree : List Value → Sem Fin} {w : World} {s : Shared} {free : Addr → Prop} {gens : Prop} {kept : Heap → Prop} (hz : s.asleep) (hgens : s.gens = #[])
    (spec : ∀ args, c.pre args = true → WData.layableAll args = true → ∀ ord : List DictEntry → List DictEntry, (∀ l, (ord l).Perm l) → ∃ vs s₁, layAllW c.records (classAt s.heap) w.params ord args s = some (vs, s₁) ∧
      wpU (model c.prog w) callerA (tree vs) (fun fin s' => ∃ f, fin = .done f ∧ (c.Ends s args vs s₁ (.ok f) s' ∧ s'.os = s.os ∧ kept s'.heap) ∧ AllBare s'.gens) (fun e s' => (c.Ends s args vs s₁ (.error e) s' ∧ s'.os = s.os ∧ kept s'.heap) ∧ AllBare s'.gens) s₁) :
    c.CallFrom (fun vs => ⟨tree vs, .builtin "claim.caller" {}, default, []⟩) w free gens kept s := by
  intro args hpre hlay ord hord
  obtain ⟨vs, s₁, hl, hc⟩ := spec args hpre hlay ord hord
  have hal := layAllW_rest _ _ _ hl
  obtain ⟨n, r, s', s'', hs, hf, hlife, hE, hos, hkp⟩ := ends_U (R := fun r s' => c.Ends s args vs s₁ r s' ∧ s'.os = s.os ∧ kept s'.heap) (Shared.asleep_of_life hal.2.2.2 hz) hc
  obtain ⟨eh, _, _, eo, _⟩ := Shared.forget_eq hf
  have hE' := hE.congr eh
  rw [← eo] at hos
  refine ⟨vs, s₁, hl, n, _, s', hs, ?_, (fun _ i x hx => by rw [hgens] at hx; simp at hx), by rw [eh]; exact hkp, by rw [hlife, hal.2.2.2], Shared.rest_eq hos⟩
  rcases hE' with ⟨v, rfl, d1, d2, d3, d4, d5⟩ | ⟨e, ob, cls, rfl, d1, d2, d3, d4, d5⟩
  · exact .inl ⟨v, rfl, d1, d2, d3, fun b o y _ => d4 b o y, d5⟩
  · exact .inr ⟨e, ob, cls, rfl, d1, d2, d3, d4, fun b o y _ => d5 b o y⟩
/-- what a law's call has to do, where it may drive such generators -/
noncomputable def WalkU (q : Program) (loose : List Str) (XP : (Str → Option Value) → Heap → Prop) (YP : World → Heap → Prop) (r : RowW) (d : DefRec) (kwd : List (Str × Expr)) : Prop :=
  ∀ (w : World) (s₀ s₁ : Shared) (mg mb : Str → Option Value), Ground q loose r.records XP w s₀ mg mb s₁.heap → YP w s₁.heap → ∀ (a : Addr) (o : Obj) (pm cd doc dV kV : Value), s₁.heap.get? a = some o →
    o.data = .func { docDef d.name d.params d.body d.scope pm cd doc with defaults := dV, kwdefaults := kV } → s₁.heap.CodeRec cd d.name → Dflts mg s₁.heap d.params kwd dV kV → mg d.name = some (.ref a) → s₁.gens = #[] →
    ∀ (args : List WData) (vals : List Value) (as : List Addr), r.claim.pre args = true → WData.layableAll args = true → ReadsAllW r.records (classAt s₀.heap) s₁.heap vals args as → WellAll w.params s₁.heap vals args → (∀ a ∈ as, (a == sysModules) = false) →
      wpU (model r.prog w) callerA (PySem.call (.ref a) vals) (fun v s' => GoodWG r.claim (classAt s₀.heap) (ExcName.means s₀.heap) args s₁ (.ok (.ret v)) s') (fun e s' => GoodWG r.claim (classAt s₀.heap) (ExcName.means s₀.heap) args s₁ (.error e) s') s₁
theorem holds_U {r : OpenRow} {q : Program} {loose : List Str} {Xt : Shared → Bool} {XP : (Str → Option Value) → Heap → Prop} {α : Type} {Yf : Shared → α} {Ya : World → α} {YP : World → Heap → Prop} {d : DefRec} {kwd : List (Str × Expr)} {N : Nat}
    (left : LeftO r.prog q loose Xt Yf Ya N) (hY : ∀ w s, Yf s = Ya w → YP w s.heap) (hYk : ∀ w h h', YP w h → (∀ b o, h.get? b = some o → h'.get? b = some o) → YP w h')
    (hX : ∀ s, Xt s = true → XP (s.heap.nsMap mainGlobals) s.heap) (hXk : ∀ mg h h', XP mg h → (∀ b o, h.get? b = some o → h'.get? b = some o) → XP mg h')
    (hdef : defOf q r.name = some (d, kwd)) (hp : r.prog.theDef r.name = some (d.params, d.body, d.scope)) (hk : kwWritten? d.params.kwonlyargs d.params.kw_defaults = some kwd) (hRf : ∀ s, Xt s = true → RecFacts r.records s.heap) (hwr : (!r.writes || r.records.isEmpty) = true)
    (k1 : r.wellSaid = true) (ok : (chainsOk q && opensWell r.prog && (frees r.toRowW && r.within.isEmpty)) = true) (hb : r.prog.bare) (hw : r.toRowW.promised) (call : WalkU q loose XP YP r.toRowW d kwd) : r.Holds := by
  obtain ⟨ok, k5⟩ := Bool.and_eq_true_iff.mp ok
  obtain ⟨hch, o1⟩ := Bool.and_eq_true_iff.mp ok
  obtain ⟨k5, k6⟩ := Bool.and_eq_true_iff.mp k5
  obtain ⟨hsame, hu, ha, hap, hm⟩ := frees_parts k5
  refine ⟨k1, hw, ⟨hb, o1, by show r.toRowW.makers.map _ = []; rw [hm]; rfl⟩, hw.witness, fun w => ⟨(left.behind hX hch w).1, fun s' hs' => ?_⟩⟩
  obtain ⟨s₀, hf, hg0, s, hT, hz, hgens, hg, G00, y⟩ := (left.behind (XP := fun mg h => XP mg h ∧ RecFacts r.records h) (fun s hs => ⟨hX s hs, hRf s hs⟩) hch w).2 s' hs'
  have G0 : Ground q loose [] XP w s (s.heap.nsMap mainGlobals) (s.heap.nsMap builtinsNs) s.heap := ⟨G00.T, G00.B, G00.D, G00.TE, G00.TD, G00.W, G00.X.1, G00.cls, G00.has, G00.apart, G00.once, G00.K⟩
  have RF := G00.X.2
  have hT' := hT
  have hgens : s.gens = #[] := Array.eq_empty_of_size_eq_zero (beq_iff_eq.mp hgens)
  have G : Ground q loose r.records XP w s _ _ s.heap := RF.ground G0
  refine ⟨s₀, hf, hg0, s, hT, fun n hn => ?_, RF.1, RF.2.1, from_U (c := r.toRowW.claim) hz hgens fun args hpre hlay ord hord => ?_⟩
  · obtain rfl : n = r.name := by split at hn <;> simp_all
    exact pinned_of_view hg G0 hdef hp hk
  obtain ⟨⟨vs, s₁⟩, hl⟩ := Option.isSome_iff_exists.mp (layAllW_isSome (P := w.params) (ord := ord) G.has args r.toRowW.args s (pre_splitW hpre).1)
  have keeps := layAllW_keeps _ _ _ hl
  have hal := layAllW_rest _ _ _ hl
  obtain ⟨as, hrd, hin, hold⟩ := reads_layAllW hord _ _ _ hl hlay s₁.heap (fun _ _ e => e)
  have L : Laid r.records w s s₁ args vs as := ⟨⟨ord, hord, hl⟩, hrd, hin, hold, keeps, hal.1.trans hgens, hal.2.2.1⟩
  have G₁ := G.keeps hXk keeps
  obtain ⟨a, o, pm, cd, doc, dV, kV, h1, h2, h3, h4, h5⟩ := G₁.fn hdef
  have h := call w s s₁ _ _ G₁ (hYk _ _ _ (hY w s y) keeps) a o pm cd doc dV kV h2 h3 h4 h5 (defOf_name hdef ▸ h1) L.gens args vs as hpre hlay L.reads L.well (L.low G.low)
  have hi := ident_freeW hu ha hap
  have hwi : r.toRowW.claim.within = [] := List.isEmpty_iff.mp k6
  refine ⟨vs, s₁, hl, wpU_bind (up (wpAny_nsGet G₁.T.g ?_))⟩
  rw [h1]
  refine wpU_bind (wpU_mono h (fun v s' g => wpU_pure (M := model r.prog w) ⟨_, rfl, ?_⟩) fun e s' g => ?_)
  · have z := g.laid (c := r.toRowW.claim) hsame hwi hi L
    exact ⟨⟨z.1, z.2.1, fun q => ⟨namesKept_of hT' hg _ keeps g.2.1.old, noTable hwr q⟩⟩, z.2.2⟩
  · have z := g.laid (c := r.toRowW.claim) hsame hwi hi L
    exact ⟨⟨z.1, z.2.1, fun q => ⟨namesKept_of hT' hg _ keeps g.2.1.old, noTable hwr q⟩⟩, z.2.2⟩
end Mine
end
section
open PySem PySem.W PyProof.Rows PySem.W.X PySem.SeqAt
namespace Mine
section
variable {prog : Program} {w : World} {KF : Frag} {fi : FI} {d : Nat} {E : EP} {m : Names} {H : List O}
/-- '%s' of a text -/
theorem we_fvals {e : Expr} {pos : Pos} {Q : V → List O → Prop} (h : WE prog w KF fi d E m H e fun v H₁ => ∃ x, v = .str x ∧ x.length ≤ sizeLine ∧ Q (.str x) H₁) : WE prog w KF fi d E m H (.FormattedValue e 115 none pos) Q :=
  fun A env F ρ s hA S => by
    show wpAny _ A (do let v ← eval e env; standAt pos; formatted pos (← holding [v] (converted 115 v)) none) _ _ s
    refine wpAny_bind (wpAny_mono (h A env F ρ s hA S) (fun u s₁ hx => ?_) fun _ _ x => x)
    obtain ⟨ρ₁, H₁, v, st₁, S₁, r, x, e, hx, h₁⟩ := hx
    subst e
    obtain ⟨t, rfl⟩ := r.str_eq
    refine wpAny_bind (wpAny_standAt ?_)
    show wpAny _ _ (do let v' ← holding [.str x t] (habitSame "fstring-hands-on-the-str" (.str x t)); formatField v' Str.empty) _ _ s₁
    exact wpAny_bind (wpAny_holding (habitSame_str (fun t' tk => formatField_str (fun t'' tk' => ⟨ρ₁, H₁, .str x, st₁.trans (.same (.refl _) rfl), S₁, by unfold VR; exact ⟨_, rfl⟩, h₁⟩) hx) hx))
end
end Mine
end
section
open PySem PySem.W PyProof.Rows PySem.W.X PySem.SeqAt
namespace Mine
section
variable {prog : Program} {w : World} {KF : Frag} {fi : FI} {d : Nat} {E : EP} {m : Names} {H : List O}
/-- an assert that holds -/
theorem ws_assert {test : Expr} {msg : Option Expr} {pos : Pos} {Q : Fl → Names → List O → Prop} (h : WT prog w KF fi d E m H test fun b H₁ => b = true ∧ Q .next m H₁) : WS prog w KF fi d E m H (.Assert test msg pos) Q :=
  fun A env F ρ s hA S => wpAny_Assert_holds (wpAny_mono (h A env F ρ s hA S) (fun b s₁ ⟨ρ₁, H₁, b', st, S₁, rb, hb, h₁⟩ => ⟨(show b = b' from rb).trans hb, ρ₁, H₁, m, .next, st, S₁, rfl, h₁⟩) fun _ _ x => x)
end
end Mine
end
section
open PySem PySem.W PyProof.Rows PySem.W.X PySem.SeqAt
namespace Mine
section
variable {prog : Program} {w : World} {KF : Frag} {d : Nat} {E : HEP} {H : List O} {Q : V → List O → Prop}
theorem abs_i {i : Int} (h : Q (.int (if i < 0 then -i else i)) H) : CallW prog w KF d E H (.bi "abs") [.int i] Q := fun A F ρ s u us hA S ru r => by
  rw [ru.bi_eq]
  obtain ⟨v, q, rfl, rv, rq⟩ := r.cons_eq
  rw [rq.nil_eq]
  obtain ⟨t, rfl⟩ := rv.int_eq
  exact PyProof.Rows.call_abs_int fun t' tk => hq_same S vr_int h
theorem str_i {i : Int} (hi : i.natAbs.log2 < 1920) (h : Q (.str (Str.ofString (toString i))) H) : CallW prog w KF d E H (.ty "str") [.int i] Q := fun A F ρ s u us hA S ru r => by
  rw [ru.ty_eq]
  obtain ⟨v, q, rfl, rv, rq⟩ := r.cons_eq
  rw [rq.nil_eq]
  obtain ⟨t, rfl⟩ := rv.int_eq
  exact PySem.P.str_of_int hi (hq_same S vr_str h)
theorem sum_l {l : Nat} {ns : List Int} (hl : IsL' H l (ns.map V.int)) (h : Q (.int ns.sum) H) : CallW prog w KF d E H (.bi "sum") [.ref l] Q := fun A F ρ s u us hA S ru r => by
  rw [ru.bi_eq]
  obtain ⟨v, q, rfl, rv, rq⟩ := r.cons_eq
  rw [rq.nil_eq]
  obtain ⟨e, he, rfl⟩ := rv.ref_eq
  obtain ⟨vs, a, b⟩ := S.list hl he
  have hi := ints_of b
  obtain ⟨xs, hx⟩ := hi.allInts.items
  rw [hx] at a
  refine sum_intListG hA.hd a fun h' tk t' hk => ?_
  have e1 : preSum (numAt xs) xs.size = ns.sum := by
    rw [preSum_eq, List.take_of_length_le (by simp), ← nums_intItems, ← hx, show vs.toArray.toList = vs from rfl, hi.numsOf]
  rw [e1]
  exact hq_keep S hk vr_int h
theorem list_l {l : Nat} {xs : List V} (hl : IsL' H l xs) (hz : xs.length ≤ sizeLine) (h : Q (.ref H.length) (H ++ [.list xs])) : CallW prog w KF d E H (.ty "list") [.ref l] Q := fun A F ρ s u us hA S ru r => by
  rw [ru.ty_eq]
  obtain ⟨v, q, rfl, rv, rq⟩ := r.cons_eq
  rw [rq.nil_eq]
  obtain ⟨e, he, rfl⟩ := rv.ref_eq
  obtain ⟨vs, a, b⟩ := S.list hl he
  obtain ⟨o, ho, hc, n, hd⟩ := a
  refine call_list_seq _ (.inl rfl) ho hc hd (fun h' c' hk hn => ?_) (by rw [List.size_toArray, b.len]; exact hz)
  have S' := S.alloc (o := .list xs) hk (get_size _) ⟨_, hn⟩ ⟨rfl, rfl, vs, ⟨_, hn⟩, b.mono (List.prefix_append _ _) (.of_keep hk)⟩
  refine ⟨_, _, .ref H.length, .add (.of_keep hk) rfl, S', ?_, h⟩
  unfold VR
  exact ⟨_, by rw [← S.len, List.getElem?_concat_length], rfl⟩
end
theorem pick_from {α : Type} (xs : List α) (k : Nat) : pick xs (some (k : Int)) none none = xs.drop k := by
  rw [pick_plain, clip_nat, show clipN none xs.length xs.length = xs.length from rfl]
  by_cases q : k ≤ xs.length
  · rw [Nat.min_eq_left q, List.take_of_length_le (Nat.le_of_eq List.length_drop)]
  · rw [Nat.min_eq_right (Nat.le_of_not_le q), List.drop_length, List.drop_eq_nil_of_le (Nat.le_of_not_le q), List.take_nil]
end Mine
namespace Mine
section
variable {prog : Program} {w : World} {KF : Frag} {fi : FI} {d : Nat} {E : EP} {m : Names} {H : List O}
theorem wts_e {elt : Expr} {K : V → List O → Prop} {B : List O → Prop} (h : WE prog w KF fi d E m H elt K) : WTs prog w KF fi d E m H [] (fun b H₃ => if b = true then WE prog w KF fi d E m H₃ elt K else B H₃) := h
end
end Mine
end
section
open PySem PySem.W PyProof.Rows PySem.W.X PySem.SeqAt
namespace Mine
local macro_rules | `(tactic| walk_at "nm") => `(tactic| fail)
local macro_rules | `(tactic| walk_at "op") => `(tactic| first
  | with_reducible refine add_ii ?_
  | with_reducible refine iadd_ii ?_
  | with_reducible refine sub_ii ?_
  | with_reducible refine mod_ii (by decide) ?_
  | ((with_reducible refine (?_ : W2 _ _ _ _ _ _ _ (binaryOp Operator.FloorDiv) _ _ _)); refine div_ii (by decide) (PyProof.noPylong_of_log2 (by decide +kernel)) ?_)
  | with_reducible refine eq_ii ?_
  | with_reducible refine lt_ii ?_
  | with_reducible refine tr_bool ?_
  | with_reducible refine range_1 ?_
  | with_reducible refine range_2 ?_)
local macro_rules | `(tactic| walk_at "we") => `(tactic| first
  | with_reducible refine we_int ?_
  | with_reducible refine we_str ?_
  | ((with_reducible refine (?_ : WE _ _ _ _ _ _ _ _ (Expr.Name _ _) _)); first | refine we_loc (by rfl) (by rfl) ?_ | refine we_cell (by rfl) (by rfl) ?_ | walk_at "nm")
  | with_reducible refine wd_bin ?_
  | ((with_reducible refine (?_ : WE _ _ _ _ _ _ _ _ (Expr.Compare _ _ _ _) _)); refine wd_cmp ?_)
  | ((with_reducible refine (?_ : WE _ _ _ _ _ _ _ _ (Expr.List _ _) _)); refine wd_list ?_)
  | ((with_reducible refine (?_ : WE _ _ _ _ _ _ _ _ (Expr.Tuple _ _ _) _)); refine wd_tup ?_)
  | ((with_reducible refine (?_ : WE _ _ _ _ _ _ _ _ (Expr.Subscript _ _ _) _)); first | with_reducible refine wd_slice ?_ | refine wd_sub ?_)
  | ((with_reducible refine (?_ : WE _ _ _ _ _ _ _ _ (Expr.Call (Expr.Attribute _ _ _) _ _ _) _)); refine wd_meth (pl := fun _ => _) ?_)
  | ((with_reducible refine (?_ : WE _ _ _ _ _ _ _ _ (Expr.Call _ _ _ _) _)); refine wd_call ?_))
local macro_rules | `(tactic| walk_at "ws") => `(tactic| first
  | with_reducible refine wd_seq ?_
  | with_reducible refine wb_nil ?_
  | with_reducible refine wds_if ?_
  | with_reducible refine wd_ret ?_
  | ((with_reducible refine (?_ : WS _ _ _ _ _ _ _ _ (Stmt.Expr _ _) _)); refine wd_expr ?_)
  | ((with_reducible refine (?_ : WA _ _ _ _ _ _ _ _ (Expr.Name _ _) _ _)); first | refine wa_name (.inl (by rfl)) ?_ | refine wa_name (.inr ⟨by rfl, by rfl⟩) ?_)
  | with_reducible refine wda_sub ?_
  | with_reducible refine wda_attr ?_
  | ((with_reducible refine (?_ : WS _ _ _ _ _ _ _ _ (Stmt.Assign [_] _ _) _)); refine wd_assign ?_)
  | ((with_reducible refine (?_ : WS _ _ _ _ _ _ _ _ (Stmt.AugAssign (Expr.Subscript _ _ _) _ _ _) _)); refine wd_augsub ?_))
local macro_rules | `(tactic| walk_at "wt") => `(tactic| first
  | ((with_reducible refine (?_ : WT _ _ _ _ _ _ _ _ (Expr.Compare _ _ _ _) _)); refine wdt_cmp ?_)
  | with_reducible refine wdt_and ?_
  | with_reducible refine wt_and1 ?_)
local macro_rules | `(tactic| walk_at "w") => `(tactic| first
  | walk_at "we"
  | walk_at "ws"
  | walk_at "wt"
  | walk_at "op"
  | with_reducible refine wds_cons ?_
  | with_reducible refine wes_nil ?_
  | with_reducible refine weo_none ?_
  | with_reducible refine weo_some ?_
  | ((with_reducible refine (?_ : Callee _ _ ∧ _)); refine ⟨by first | exact trivial | (show keepIn _ _ = true; kernel_rfl), ?_⟩))
section
/-- the top's objects but the table that grows -/
noncomputable def KK (P : Params) : Frag := (K P).filter fun x => x.1 != 248
end
section
theorem fn_dump (w : World) : FnOk (KK w.params) 282 (o282 w.params) (fdOf (o282 w.params)) (fBody (stIn 7 3)) (fScope (stIn 7 3)) ["self", "tag", "x", "lo", "hi"] where
  hsc := by rfl
  hK := by kernel_rfl
  hd := by rfl
  hb := by rfl
  hg := by rfl
  hbl := by rfl
  hcl := by rfl
  hcd := ⟨281, o281 w.params, _, _, by rfl, by kernel_rfl, by rfl, by rfl⟩
  hbd := fun us hu => by obtain ⟨a0, a1, a2, a3, a4, rfl⟩ := args5 hu; rfl
  hps := by decide
  hnd := by decide
  hkd := by decide
  hco := by rfl
  hk := by rfl
  hnf := by decide
theorem fn_plain (w : World) : FnOk (KK w.params) 289 (o289 w.params) (fdOf (o289 w.params)) (fBody (stIn 7 4)) (fScope (stIn 7 4)) ["self", "a", "alo", "ahi", "b", "blo", "bhi"] where
  hsc := by rfl
  hK := by kernel_rfl
  hd := by rfl
  hb := by rfl
  hg := by rfl
  hbl := by rfl
  hcl := by rfl
  hcd := ⟨288, o288 w.params, _, _, by rfl, by kernel_rfl, by rfl, by rfl⟩
  hbd := fun us hu => by obtain ⟨a0, a1, a2, a3, a4, a5, a6, rfl⟩ := args7 hu; rfl
  hps := by decide
  hnd := by decide
  hkd := by decide
  hco := by rfl
  hk := by rfl
  hnf := by decide



theorem g_range (w : World) : nsIn (KK w.params) mainGlobals "range" = some none := by kernel_rfl
theorem b_range : bootBuiltins "range" = some (.type "range") := by kernel_rfl
local macro_rules | `(tactic| walk_at "nm") => `(tactic| first | refine we_biT (by rfl) (g_range _) b_range ?_)
noncomputable def rowsOf (tag : Str) (rows : List Str) : List Str := rows.map fun r => tag ++ (⟨#[32]⟩ : Str) ++ r
/-- what _dump of a whole list of rows tells -/
theorem dump_ok {w : World} {H : List O} {d k : Nat} {self : V} {tag : Str} {rows : List Str} (hk : H[k]? = some (.list (rows.map V.str))) (ht : tag.length ≤ 1000000) (hr : ∀ r ∈ rows, r.length ≤ 1000000) (hn : rows.length ≤ 1000000) :
    BodyU pP w (KK w.params) (d + 1) ⟨fScope (stIn 7 3), true, (fdOf (o282 w.params)).code⟩ (fBody (stIn 7 3)) (initN (fScope (stIn 7 3)) ["self", "tag", "x", "lo", "hi"] [self, .str tag, .ref k, .int 0, .int rows.length]) H (rowsOf tag rows) (fun H' => H' = H) := by
  rintro ⟨w', KF', fi', env, F, out, gout, ρI, sI⟩ A hw hKF hfi hsc hint hrm
  dsimp only at hw hKF hfi hsc hint hrm
  subst hw hKF hfi
  have e : initN (fScope (stIn 7 3)) ["self", "tag", "x", "lo", "hi"] [self, .str tag, .ref k, .int 0, .int rows.length] = [nv "self" self, nv "tag" (.str tag), nv "x" (.ref k), nv "lo" (.int 0), nv "hi" (.int rows.length), nn "i"] := by rfl
  rw [e]
  refine sou_cons hrm ?_
  dsimp only
  repeat (walk_at "w")
  unfold KEx
  dsimp only
  refine sou_for (ts := fun i => rowsOf tag (rows.drop i)) (vs := (List.range rows.length).map fun (i : Nat) => V.int (i : Int)) hrm .nil ?_
  dsimp only
  repeat (walk_at "w")
  refine ⟨_, iw_range0 (Nat.lt_of_le_of_lt hn (by decide)), fun i m H' => H' = H ∧ ∃ v, m = [nv "self" self, nv "tag" (.str tag), nv "x" (.ref k), nv "lo" (.int 0), nv "hi" (.int rows.length), ("i", v)], ⟨rfl, none, rfl⟩, fun _ _ _ _ => trivial, ?_, ?_⟩
  · rintro i x m' H' hx ⟨rfl, v, rfl⟩
    rw [List.getElem?_map] at hx
    obtain ⟨j, hj, rfl⟩ := Option.map_eq_some_iff.mp hx
    obtain ⟨hi, rfl⟩ : i < rows.length ∧ i = j := by
      have := List.getElem?_eq_some_iff.mp hj
      obtain ⟨h1, h2⟩ := this
      rw [List.length_range] at h1
      rw [List.getElem_range] at h2
      exact ⟨h1, h2⟩
    refine wa_name (.inl (by rfl)) ?_
    intro L' c' fs' Kb Hb hfs hr' hK
    have er : rowsOf tag (rows.drop i) = (tag ++ (⟨#[32]⟩ : Str) ++ rows[i]) :: rowsOf tag (rows.drop (i + 1)) := by
      rw [List.drop_eq_getElem_cons hi]; rfl
    dsimp only
    rw [er]
    refine sou_yield hr' hfs ?_ (by rw [hsc]; rfl) hint
    dsimp only
    refine we_joined (wj_cons (we_fvals ?_))
    repeat (walk_at "w")
    have z1 : tag.length ≤ sizeLine := Nat.le_trans ht (by decide)
    have z2 : (Str.empty ++ tag).length ≤ sizeLine := by rw [strLen_append]; show 0 + tag.length ≤ sizeLine; omega
    have l1 : (Str.ofString " ").length = 1 := by rfl
    have l0 : Str.empty.length = 0 := by rfl
    have lz : 3000000 ≤ sizeLine := by decide
    have z3 : (Str.empty ++ tag ++ (Str.ofString " ")).length ≤ sizeLine := by
      rw [strLen_append, strLen_append, l1, l0]
      omega
    have hri : rows[i].length ≤ 1000000 := hr _ (List.getElem_mem hi)
    have z4 : (Str.empty ++ tag ++ (Str.ofString " ") ++ rows[i]).length ≤ sizeLine := by
      rw [strLen_append, strLen_append, strLen_append, l1, l0]
      omega
    refine ⟨_, rfl, z1, _, rfl, z2, wj_cons ?_⟩
    repeat (walk_at "w")
    refine ⟨_, rfl, z3, wj_cons (we_fvals ?_)⟩
    repeat (walk_at "w")
    refine get_li (xs := rows.map V.str) (.inl hk) (by omega) (by omega) (x := .str rows[i]) ?_ ?_
    · simp [hi]
    · refine ⟨_, rfl, Nat.le_trans hri (by decide), _, rfl, z4, wj_nil z4 ⟨?_, ?_⟩⟩
      · have e1 : Str.empty ++ tag = tag := by
          obtain ⟨c⟩ := tag
          show Str.mk (#[] ++ c) = _
          rw [Array.empty_append]
        rw [e1]; rfl
      · refine sou_nil ?_
        exact hK _ _ ⟨rfl, _, rfl⟩
  · rintro m' H' ⟨rfl, v, rfl⟩
    rw [List.length_map, List.length_range]
    rw [List.drop_length]
    refine sou_nil ?_
    exact sou_end rfl
end
section
theorem cls_differ (w : World) : ClsOk (KK w.params) 313 312 where
  cl := ⟨"Differ", "Differ", [.type "object"], [], [], none, none, none, none, some (.str "Differ" 602), some (.str "Differ" 610), some (.bool true), by kernel_rfl⟩
  ns := by kernel_rfl
  ga := by kernel_rfl
  gh := by kernel_rfl
  sa := by kernel_rfl
theorem tl_dump : typeLookup (.type "object") "_dump" = pure none := by rw [typeLookup_type, builtinLookup_eq_fast]; kernel_rfl
noncomputable def dFs : List (Str × V) := [("charjunk", .none), ("linejunk", .none)]
theorem meth_dump {w : World} {H : List O} {i : Nat} (hl : H[i]? = some (.inst 313 dFs)) : MethIs pP w (KK w.params) H (.ref i) "_dump" (.st 282) :=
  meth_inst (of := o282 w.params) (cls_differ w) (by kernel_rfl) (by kernel_rfl) (by rfl) tl_dump hl (by rfl)
theorem callee_dump (w : World) : Callee (KK w.params) (.st 282) := by show keepIn _ _ = true; kernel_rfl



theorem keep1 {H : List O} {k : Nat} {o x : O} (h : H[k]? = some o) : (H ++ [x])[k]? = some o := by rw [List.getElem?_append_left (List.getElem?_eq_some_iff.mp h).1]; exact h
theorem keep2 {H : List O} {k : Nat} {o x y : O} (h : H[k]? = some o) : (H ++ [x, y])[k]? = some o := by rw [List.getElem?_append_left (List.getElem?_eq_some_iff.mp h).1]; exact h
theorem get_app0 {H : List O} {x y : O} : (H ++ [x, y])[H.length]? = some x := by rw [List.getElem?_append_right (Nat.le_refl _), Nat.sub_self]; rfl
theorem get_app1 {H : List O} {x y : O} : (H ++ [x, y])[H.length + 1]? = some y := by rw [List.getElem?_append_right (Nat.le_succ _), show H.length.succ - H.length = 1 by omega]; rfl
theorem set_app0 {H : List O} {x y z : O} : (H ++ [x, y]).set H.length z = H ++ [z, y] := by rw [List.set_append_right _ _ (Nat.le_refl _), Nat.sub_self]; rfl
theorem set_app1 {H : List O} {x y z : O} : (H ++ [x, y]).set (H.length + 1) z = H ++ [x, z] := by rw [List.set_append_right _ _ (Nat.le_succ _), show H.length.succ - H.length = 1 by omega]; rfl
noncomputable def plainRows (ra rb : List Str) : List Str := if rb.length < ra.length then rowsOf "+" rb ++ rowsOf "-" ra else rowsOf "-" ra ++ rowsOf "+" rb
theorem plain_ok {w : World} {H : List O} {d k₁ k₂ k : Nat} {ra rb : List Str} (hs : H[k]? = some (.inst 313 dFs)) (h1 : H[k₁]? = some (.list (ra.map V.str))) (h2 : H[k₂]? = some (.list (rb.map V.str))) (hr1 : ∀ r ∈ ra, r.length ≤ 1000000) (hr2 : ∀ r ∈ rb, r.length ≤ 1000000) (hn1 : 0 < ra.length ∧ ra.length ≤ 1000000) (hn2 : 0 < rb.length ∧ rb.length ≤ 1000000) :
    BodyU pP w (KK w.params) (d + 2) ⟨fScope (stIn 7 4), true, (fdOf (o289 w.params)).code⟩ (fBody (stIn 7 4)) (initN (fScope (stIn 7 4)) ["self", "a", "alo", "ahi", "b", "blo", "bhi"] [.ref k, .ref k₁, .int 0, .int ra.length, .ref k₂, .int 0, .int rb.length]) H (plainRows ra rb) (fun H' => ∃ x y, H' = H ++ [x, y]) := by
  rintro ⟨w', KF', fi', env, F, out, gout, ρI, sI⟩ A hw hKF hfi hsc hint hrm
  dsimp only at hw hKF hfi hsc hint hrm
  subst hw hKF hfi
  have e : initN (fScope (stIn 7 4)) ["self", "a", "alo", "ahi", "b", "blo", "bhi"] [.ref k, .ref k₁, .int 0, .int ra.length, .ref k₂, .int 0, .int rb.length] = [nv "self" (.ref k), nv "a" (.ref k₁), nv "alo" (.int 0), nv "ahi" (.int ra.length), nv "b" (.ref k₂), nv "blo" (.int 0), nv "bhi" (.int rb.length), nn "first", nn "second", nn "g"] := by rfl
  rw [e]
  refine sou_cons hrm ?_
  dsimp only
  refine ws_assert ?_
  repeat (walk_at "w")
  unfold KAnd
  rw [if_pos (by simp; omega)]
  repeat (walk_at "w")
  refine ⟨by simp; omega, ?_⟩
  dsimp only
  refine sou_if hrm ?_
  repeat (walk_at "w")
  by_cases c : rb.length < ra.length
  · rw [show decide ((rb.length : Int) - 0 < (ra.length : Int) - 0) = true by simp; omega]
    dsimp only [if_true]
    refine sou_cons hrm ?_
    dsimp only
    repeat (walk_at "w")
    refine ⟨_, meth_dump hs, callee_dump _, ?_⟩
    repeat (walk_at "w")
    refine call_gen (fn_dump _) (by rfl) (by rfl) ?_
    repeat (walk_at "w")
    refine sou_cons hrm ?_
    dsimp only
    repeat (walk_at "w")
    refine ⟨_, meth_dump (keep1 hs), callee_dump _, ?_⟩
    repeat (walk_at "w")
    refine call_gen (fn_dump _) (by rfl) (by rfl) ?_
    repeat (walk_at "w")
    refine sou_nil ?_
    dsimp only
    have epl : plainRows ra rb = (fun i => match i with | 0 => rowsOf "+" rb ++ rowsOf "-" ra | 1 => rowsOf "-" ra | _ => [] : Nat → List Str) 0 := by unfold plainRows; rw [if_pos c]; rfl
    rw [epl]
    refine sou_for (vs := [V.ref H.length, V.ref (H.length + 1)]) (fun i => match i with | 0 => rowsOf "+" rb ++ rowsOf "-" ra | 1 => rowsOf "-" ra | _ => []) hrm .nil ?_
    dsimp only
    repeat (walk_at "w")
    unfold KE2 KTu
    refine ⟨by show 2 ≤ sizeLine; decide, ?_⟩
    dsimp only
    rw [List.length_append, List.length_singleton]
    refine ⟨_, iw_tup, fun i m H' => (∃ v, m = [nv "self" (.ref k), nv "a" (.ref k₁), nv "alo" (.int 0), nv "ahi" (.int ra.length), nv "b" (.ref k₂), nv "blo" (.int 0), nv "bhi" (.int rb.length), nv "first" (.ref H.length), nv "second" (.ref (H.length + 1)), ("g", v)]) ∧ ∃ x y, H' = H ++ [x, y] ∧ (i = 0 → x = _) ∧ (i ≤ 1 → y = _), ⟨⟨none, rfl⟩, _, _, List.append_assoc .., fun _ => rfl, fun _ => rfl⟩, fun _ _ _ _ => trivial, ?_, ?_⟩
    · rintro i x m' H' hx ⟨⟨v, rfl⟩, x₁, x₂, rfl, hx0, hx1⟩
      match i, hx with
      | 0, hx =>
        cases hx
        obtain rfl := hx0 rfl
        obtain rfl := hx1 (by decide)
        refine wa_name (.inl (by rfl)) ?_
        intro L' c' fs' Kb Hb hfs hr' hK
        dsimp only
        refine sou_yf hr' hfs ?_ hint
        repeat (walk_at "w")
        refine ⟨_, _, _, _, rfl, get_app0, _, _, _, rfl, dump_ok (by rw [set_app0]; exact keep2 h2) (by decide) hr2 hn2.2, ?_⟩
        rintro _ rfl
        refine sou_nil ?_
        rw [set_app0]
        exact hK _ _ ⟨⟨_, rfl⟩, _, _, rfl, (fun q => nomatch q), fun _ => rfl⟩
      | 1, hx =>
        cases hx
        obtain rfl := hx1 (by decide)
        refine wa_name (.inl (by rfl)) ?_
        intro L' c' fs' Kb Hb hfs hr' hK
        dsimp only
        refine sou_yf hr' hfs ?_ hint
        repeat (walk_at "w")
        refine ⟨_, _, _, _, rfl, get_app1, rowsOf "-" ra, [], _, (List.append_nil _).symm, dump_ok (by rw [set_app1]; exact keep2 h1) (by decide) hr1 hn1.2, ?_⟩
        rintro _ rfl
        refine sou_nil ?_
        rw [set_app1]
        exact hK _ _ ⟨⟨_, rfl⟩, _, _, rfl, (fun q => nomatch q), fun q => absurd q (by decide)⟩
      | i + 2, hx => cases hx
    · rintro m' H' ⟨⟨v, rfl⟩, x₁, x₂, rfl, _, _⟩
      exact sou_nil (sou_end ⟨_, _, rfl⟩)
  · rw [show decide ((rb.length : Int) - 0 < (ra.length : Int) - 0) = false by simp; omega]
    dsimp only [if_true]
    refine sou_cons hrm ?_
    dsimp only
    repeat (walk_at "w")
    refine ⟨_, meth_dump hs, callee_dump _, ?_⟩
    repeat (walk_at "w")
    refine call_gen (fn_dump _) (by rfl) (by rfl) ?_
    repeat (walk_at "w")
    refine sou_cons hrm ?_
    dsimp only
    repeat (walk_at "w")
    refine ⟨_, meth_dump (keep1 hs), callee_dump _, ?_⟩
    repeat (walk_at "w")
    refine call_gen (fn_dump _) (by rfl) (by rfl) ?_
    repeat (walk_at "w")
    refine sou_nil ?_
    dsimp only
    have epl : plainRows ra rb = (fun i => match i with | 0 => rowsOf "-" ra ++ rowsOf "+" rb | 1 => rowsOf "+" rb | _ => [] : Nat → List Str) 0 := by unfold plainRows; rw [if_neg c]; rfl
    rw [epl]
    refine sou_for (vs := [V.ref H.length, V.ref (H.length + 1)]) (fun i => match i with | 0 => rowsOf "-" ra ++ rowsOf "+" rb | 1 => rowsOf "+" rb | _ => []) hrm .nil ?_
    dsimp only
    repeat (walk_at "w")
    unfold KE2 KTu
    refine ⟨by show 2 ≤ sizeLine; decide, ?_⟩
    dsimp only
    rw [List.length_append, List.length_singleton]
    refine ⟨_, iw_tup, fun i m H' => (∃ v, m = [nv "self" (.ref k), nv "a" (.ref k₁), nv "alo" (.int 0), nv "ahi" (.int ra.length), nv "b" (.ref k₂), nv "blo" (.int 0), nv "bhi" (.int rb.length), nv "first" (.ref H.length), nv "second" (.ref (H.length + 1)), ("g", v)]) ∧ ∃ x y, H' = H ++ [x, y] ∧ (i = 0 → x = _) ∧ (i ≤ 1 → y = _), ⟨⟨none, rfl⟩, _, _, List.append_assoc .., fun _ => rfl, fun _ => rfl⟩, fun _ _ _ _ => trivial, ?_, ?_⟩
    · rintro i x m' H' hx ⟨⟨v, rfl⟩, x₁, x₂, rfl, hx0, hx1⟩
      match i, hx with
      | 0, hx =>
        cases hx
        obtain rfl := hx0 rfl
        obtain rfl := hx1 (by decide)
        refine wa_name (.inl (by rfl)) ?_
        intro L' c' fs' Kb Hb hfs hr' hK
        dsimp only
        refine sou_yf hr' hfs ?_ hint
        repeat (walk_at "w")
        refine ⟨_, _, _, _, rfl, get_app0, _, _, _, rfl, dump_ok (by rw [set_app0]; exact keep2 h1) (by decide) hr1 hn1.2, ?_⟩
        rintro _ rfl
        refine sou_nil ?_
        rw [set_app0]
        exact hK _ _ ⟨⟨_, rfl⟩, _, _, rfl, (fun q => nomatch q), fun _ => rfl⟩
      | 1, hx =>
        cases hx
        obtain rfl := hx1 (by decide)
        refine wa_name (.inl (by rfl)) ?_
        intro L' c' fs' Kb Hb hfs hr' hK
        dsimp only
        refine sou_yf hr' hfs ?_ hint
        repeat (walk_at "w")
        refine ⟨_, _, _, _, rfl, get_app1, rowsOf "+" rb, [], _, (List.append_nil _).symm, dump_ok (by rw [set_app1]; exact keep2 h2) (by decide) hr2 hn2.2, ?_⟩
        rintro _ rfl
        refine sou_nil ?_
        rw [set_app1]
        exact hK _ _ ⟨⟨_, rfl⟩, _, _, rfl, (fun q => nomatch q), fun q => absurd q (by decide)⟩
      | i + 2, hx => cases hx
    · rintro m' H' ⟨⟨v, rfl⟩, x₁, x₂, rfl, _, _⟩
      exact sou_nil (sou_end ⟨_, _, rfl⟩)
end
section
theorem str_assoc (a b c : Str) : a ++ b ++ c = a ++ (b ++ c) := by
  obtain ⟨x⟩ := a
  obtain ⟨y⟩ := b
  obtain ⟨z⟩ := c
  show Str.mk ((x ++ y) ++ z) = Str.mk (x ++ (y ++ z))
  rw [Array.append_assoc]
/-- the rows of a part, by their places -/
noncomputable def out8 (T : Nat → List Str) (codes : Nat → Str) (ahead : Nat → Nat) (n : Nat) (P : List Nat) : List Str := (List.range n).flatMap fun p => P.flatMap fun t => if ahead t = p then (T t).map (codes t ++ ·) else []
theorem flatMap_nil' {α β : Type} {l : List α} {f : α → List β} (h : ∀ x ∈ l, f x = []) : l.flatMap f = [] := by
  induction l with
  | nil => rfl
  | cons a l ih => rw [List.flatMap_cons, h a (.head _), ih fun x hx => h x (.tail _ hx)]; rfl
theorem flatMap_congr' {α β : Type} {l : List α} {f g : α → List β} (h : ∀ x ∈ l, f x = g x) : l.flatMap f = l.flatMap g := by
  induction l with
  | nil => rfl
  | cons a l ih => rw [List.flatMap_cons, List.flatMap_cons, h a (.head _), ih fun x hx => h x (.tail _ hx)]
theorem out8_congr {T : Nat → List Str} {c c' : Nat → Str} {a a' : Nat → Nat} {n : Nat} {P : List Nat} (h : ∀ t ∈ P, c' t = c t ∧ a' t = a t) : out8 T c' a' n P = out8 T c a n P :=
  flatMap_congr' fun p _ => flatMap_congr' fun t ht => by rw [(h t ht).1, (h t ht).2]
theorem map_flatMap' {α β γ : Type} {l : List α} {f : α → List β} {g : β → γ} : (l.flatMap f).map g = l.flatMap fun x => (f x).map g := by
  induction l with
  | nil => rfl
  | cons a l ih => rw [List.flatMap_cons, List.flatMap_cons, List.map_append, ih]
theorem out8_tag {T : Nat → List Str} {c c' : Nat → Str} {a : Nat → Nat} {n : Nat} {P : List Nat} {tag : Str} (h : ∀ t ∈ P, c' t = tag ++ (⟨#[32]⟩ : Str) ++ c t) : out8 T c' a n P = rowsOf tag (out8 T c a n P) := by
  unfold out8 rowsOf
  rw [map_flatMap']
  refine flatMap_congr' fun p _ => ?_
  rw [map_flatMap']
  refine flatMap_congr' fun t ht => ?_
  by_cases q : a t = p
  · rw [if_pos q, if_pos q, List.map_map]
    refine List.map_congr_left fun r _ => ?_
    show c' t ++ r = _
    rw [h t ht, str_assoc]
    rfl
  · rw [if_neg q, if_neg q]; rfl
/-- two parts joined: S first, R behind it; P has the signs of both -/
theorem out8_join {T : Nat → List Str} {c : Nat → Str} {a a' : Nat → Nat} {S R l r : List Nat} (hS : ∀ t ∈ S, a t < S.length) (h1 : ∀ t ∈ S, a' t = a t) (h2 : ∀ t ∈ R, a' t = a t + S.length) (hP : (l = S ∧ r = R) ∨ (l = R ∧ r = S)) :
    out8 T c a' (S.length + R.length) (l ++ r) = out8 T c a S.length S ++ out8 T c a R.length R := by
  unfold out8
  rw [List.range_add, List.flatMap_append, List.flatMap_map]
  have hp : ∀ (f : Nat → List Str), (l ++ r).flatMap f = if (l = S ∧ r = R) then S.flatMap f ++ R.flatMap f else R.flatMap f ++ S.flatMap f := fun f => by
    rw [List.flatMap_append]
    split
    · rename_i h; rw [h.1, h.2]
    · rename_i h; rcases hP with q | q
      · exact absurd q h
      · rw [q.1, q.2]
  congr 1
  · refine flatMap_congr' fun p hp' => ?_
    have hp' := List.mem_range.mp hp'
    rw [hp]
    have e1 : (R.flatMap fun t => if a' t = p then (T t).map (c t ++ ·) else []) = [] := flatMap_nil' fun t ht => if_neg (by rw [h2 t ht]; omega)
    have e2 : (S.flatMap fun t => if a' t = p then (T t).map (c t ++ ·) else []) = S.flatMap fun t => if a t = p then (T t).map (c t ++ ·) else [] := flatMap_congr' fun t ht => by rw [h1 t ht]
    rw [e1, e2, List.append_nil, List.nil_append, ite_self]
  · refine flatMap_congr' fun p hp' => ?_
    have hp' := List.mem_range.mp hp'
    rw [hp]
    have e1 : (S.flatMap fun t => if a' t = S.length + p then (T t).map (c t ++ ·) else []) = [] := flatMap_nil' fun t ht => if_neg (by rw [h1 t ht]; have := hS t ht; omega)
    have e2 : (R.flatMap fun t => if a' t = S.length + p then (T t).map (c t ++ ·) else []) = R.flatMap fun t => if a t = p then (T t).map (c t ++ ·) else [] := flatMap_congr' fun t ht => by
      by_cases q : a t = p
      · rw [if_pos q, if_pos (by rw [h2 t ht]; omega)]
      · rw [if_neg q, if_neg (by rw [h2 t ht]; omega)]
    rw [e1, e2, List.append_nil, List.nil_append, ite_self]
theorem out8_mem {T : Nat → List Str} {c : Nat → Str} {a : Nat → Nat} {n : Nat} {P : List Nat} {r : Str} (h : r ∈ out8 T c a n P) : ∃ t ∈ P, ∃ x ∈ T t, r = c t ++ x := by
  obtain ⟨p, _, h⟩ := List.mem_flatMap.mp h
  obtain ⟨t, ht, h⟩ := List.mem_flatMap.mp h
  split at h
  · obtain ⟨x, hx, rfl⟩ := List.mem_map.mp h
    exact ⟨t, ht, x, hx, rfl⟩
  · cases h
theorem rowsOf_len (tag : Str) (rows : List Str) : (rowsOf tag rows).length = rows.length := List.length_map _
theorem plainRows_len (ra rb : List Str) : (plainRows ra rb).length = ra.length + rb.length := by
  unfold plainRows
  split <;> rw [List.length_append, rowsOf_len, rowsOf_len]
  omega
noncomputable def sum8 (T : Nat → List Str) (P : List Nat) : Nat := (P.map fun t => (T t).length).sum
theorem sum8_app (T : Nat → List Str) (P R : List Nat) : sum8 T (P ++ R) = sum8 T P + sum8 T R := by unfold sum8; rw [List.map_append, List.sum_append]
/-- a part and its list -/
structure Good8 (T : Nat → List Str) (c : Nat → Str) (a : Nat → Nat) (P : List Nat) (L : List Str) : Prop where
  lt : ∀ t ∈ P, a t < P.length
  ne : P ≠ []
  eq : L = out8 T c a P.length P
  ln : L.length = sum8 T P
theorem Good8.congr {T : Nat → List Str} {c c' : Nat → Str} {a a' : Nat → Nat} {P : List Nat} {L : List Str} (g : Good8 T c a P L) (h : ∀ t ∈ P, c' t = c t ∧ a' t = a t) : Good8 T c' a' P L :=
  ⟨fun t ht => by rw [(h t ht).2]; exact g.lt t ht, g.ne, by rw [out8_congr h]; exact g.eq, g.ln⟩
/-- the codes and places behind a join -/
noncomputable def codes8 (c : Nat → Str) (l r : List Nat) : Nat → Str := fun t => if t ∈ r then ("+ " : Str) ++ c t else if t ∈ l then ("- " : Str) ++ c t else c t
noncomputable def ahead8 (T : Nat → List Str) (a : Nat → Nat) (l r : List Nat) : Nat → Nat := fun t => if sum8 T r < sum8 T l then (if t ∈ l then a t + r.length else a t) else (if t ∈ r then a t + l.length else a t)
theorem good8_join {T : Nat → List Str} {c : Nat → Str} {a : Nat → Nat} {l r : List Nat} {la lb : List Str} (gl : Good8 T c a l la) (gr : Good8 T c a r lb) (hd : ∀ t ∈ l, t ∉ r) : Good8 T (codes8 c l r) (ahead8 T a l r) (l ++ r) (plainRows la lb) := by
  have cl : ∀ t ∈ l, codes8 c l r t = ("- " : Str) ++ c t := fun t ht => by unfold codes8; rw [if_neg (hd t ht), if_pos ht]
  have cr : ∀ t ∈ r, codes8 c l r t = ("+ " : Str) ++ c t := fun t ht => by unfold codes8; rw [if_pos ht]
  have e1 : out8 T (codes8 c l r) a l.length l = rowsOf "-" la := by rw [gl.eq]; exact out8_tag fun t ht => by rw [cl t ht]; rfl
  have e2 : out8 T (codes8 c l r) a r.length r = rowsOf "+" lb := by rw [gr.eq]; exact out8_tag fun t ht => by rw [cr t ht]; rfl
  have hd' : ∀ t ∈ r, t ∉ l := fun t h1 h2 => hd t h2 h1
  refine ⟨fun t ht => ?_, fun q => gl.ne (List.append_eq_nil_iff.mp q).1, ?_, ?_⟩
  · rw [List.length_append]
    unfold ahead8
    rcases List.mem_append.mp ht with h | h
    · have := gl.lt t h
      split
      · omega
      · rw [if_neg (hd t h)]; omega
    · have := gr.lt t h
      split
      · rw [if_neg (hd' t h)]; omega
      · omega
  · unfold plainRows
    rw [gl.ln, gr.ln, List.length_append]
    by_cases q : sum8 T r < sum8 T l
    · rw [if_pos q, ← e1, ← e2, Nat.add_comm]
      exact (out8_join gr.lt (fun t ht => by unfold ahead8; rw [if_pos q, if_neg (hd' t ht)]) (fun t ht => by unfold ahead8; rw [if_pos q, if_pos ht]) (.inr ⟨rfl, rfl⟩)).symm
    · rw [if_neg q, ← e1, ← e2]
      exact (out8_join gl.lt (fun t ht => by unfold ahead8; rw [if_neg q, if_neg (hd t ht)]) (fun t ht => by unfold ahead8; rw [if_neg q, if_pos ht]) (.inl ⟨rfl, rfl⟩)).symm
  · rw [plainRows_len, gl.ln, gr.ln, sum8_app]
/-- all parts and their lists -/
structure St8 (T : Nat → List Str) (c : Nat → Str) (a : Nat → Nat) (Ps : List (List Nat)) (Ls : List (List Str)) (n : Nat) : Prop where
  fl : Ps.flatten = List.range 8
  n1 : Ps.length = n
  n2 : Ls.length = n
  gd : ∀ (k : Nat) P L, Ps[k]? = some P → Ls[k]? = some L → Good8 T c a P L
theorem flatten_apart {Ps : List (List Nat)} (h : Ps.flatten.Nodup) {i j : Nat} {P R : List Nat} (hi : Ps[i]? = some P) (hj : Ps[j]? = some R) (hij : i < j) {t : Nat} (h1 : t ∈ P) (h2 : t ∈ R) : False := by
  induction Ps generalizing i j with
  | nil => cases hi
  | cons a l ih =>
    rw [List.flatten_cons, List.nodup_append] at h
    obtain ⟨_, h3, h4⟩ := h
    match i, j, hij with
    | 0, j + 1, _ =>
      cases hi
      exact h4 t h1 t (List.mem_flatten.mpr ⟨R, List.mem_of_getElem? (by simpa using hj), h2⟩) rfl
    | i + 1, j + 1, q => exact ih h3 (by simpa using hi) (by simpa using hj) (by omega)
theorem join_get {α : Type} (xs : List α) (k : Nat) (x : α) (hk : k + 1 < xs.length) (i : Nat) : (xs.take k ++ [x] ++ xs.drop (k + 2))[i]? = if i < k then xs[i]? else if i = k then some x else xs[i + 1]? := by
  have l1 : (xs.take k).length = k := List.length_take_of_le (Nat.le_of_lt (Nat.lt_of_succ_lt hk))
  rw [List.append_assoc]
  by_cases q : i < k
  · rw [if_pos q, List.getElem?_append_left (l1.symm ▸ q), List.getElem?_take, if_pos q]
  · rw [if_neg q, List.getElem?_append_right (l1.symm ▸ Nat.le_of_not_lt q), l1]
    by_cases q2 : i = k
    · rw [if_pos q2, q2, Nat.sub_self]; rfl
    · rw [if_neg q2]
      obtain ⟨j, rfl⟩ := Nat.exists_eq_add_of_lt (Nat.lt_of_le_of_ne (Nat.le_of_not_lt q) (Ne.symm q2))
      rw [show k + j + 1 - k = j + 1 by rw [Nat.add_assoc, Nat.add_sub_cancel_left], List.singleton_append, List.getElem?_cons_succ, List.getElem?_drop]
      exact congrArg (xs[·]?) (Nat.add_right_comm k 2 j)
theorem join_len {α : Type} {xs : List α} {x : α} {k n : Nat} (h : xs.length = n + 1) (hk : k < n) : (xs.take k ++ [x] ++ xs.drop (k + 2)).length = n := by
  rw [List.length_append, List.length_append, List.length_take, List.length_drop, List.length_singleton, h, Nat.min_eq_left (Nat.le_succ_of_le (Nat.le_of_lt hk)), show n + 1 - (k + 2) = n - (k + 1) from Nat.add_sub_add_right n 1 (k + 1)]
  exact Nat.add_sub_cancel' (Nat.succ_le_of_lt hk)
theorem St8.join {T : Nat → List Str} {c : Nat → Str} {a : Nat → Nat} {Ps : List (List Nat)} {Ls : List (List Str)} {n k : Nat} (s : St8 T c a Ps Ls (n + 1)) (hk : k < n) {l r : List Nat} {la lb : List Str} (h1 : Ps[k]? = some l) (h2 : Ps[k + 1]? = some r) (h3 : Ls[k]? = some la) (h4 : Ls[k + 1]? = some lb) :
    St8 T (codes8 c l r) (ahead8 T a l r) (Ps.take k ++ [l ++ r] ++ Ps.drop (k + 2)) (Ls.take k ++ [plainRows la lb] ++ Ls.drop (k + 2)) n := by
  have nd : Ps.flatten.Nodup := by rw [s.fl]; exact List.nodup_range
  have e1 := s.n1
  have e2 := s.n2
  refine ⟨?_, ?_, ?_, fun i P L hP hL => ?_⟩
  · rw [← s.fl]
    have : Ps = Ps.take k ++ (l :: r :: Ps.drop (k + 2)) := by
      have hk1 : k < Ps.length := by rw [e1]; exact Nat.lt_succ_of_lt hk
      have hk2 : k + 1 < Ps.length := by rw [e1]; exact Nat.succ_lt_succ hk
      have g1 : l = Ps[k] := by rw [List.getElem?_eq_getElem hk1] at h1; cases h1; rfl
      have g2 : r = Ps[k + 1] := by rw [List.getElem?_eq_getElem hk2] at h2; cases h2; rfl
      conv => lhs; rw [← List.take_append_drop k Ps]
      rw [List.drop_eq_getElem_cons hk1, List.drop_eq_getElem_cons hk2, g1, g2]
    conv => rhs; rw [this]
    simp
  · exact join_len e1 hk
  · exact join_len e2 hk
  · rw [join_get _ _ _ (by rw [e1]; exact Nat.succ_lt_succ hk)] at hP
    rw [join_get _ _ _ (by rw [e2]; exact Nat.succ_lt_succ hk)] at hL
    have far : ∀ j, Ps[j]? = some P → j ≠ k → j ≠ k + 1 → ∀ t ∈ P, codes8 c l r t = c t ∧ ahead8 T a l r t = a t := fun j hj q1 q2 t ht => by
      have nl : t ∉ l := fun h => by
        rcases Nat.lt_or_gt_of_ne q1 with q | q
        · exact flatten_apart nd hj h1 q ht h
        · exact flatten_apart nd h1 hj q h ht
      have nr : t ∉ r := fun h => by
        rcases Nat.lt_or_gt_of_ne q2 with q | q
        · exact flatten_apart nd hj h2 q ht h
        · exact flatten_apart nd h2 hj q h ht
      refine ⟨by unfold codes8; rw [if_neg nr, if_neg nl], by unfold ahead8; rw [if_neg nr, if_neg nl, ite_self]⟩
    split at hP
    · rename_i q
      rw [if_pos q] at hL
      exact (s.gd i P L hP hL).congr (far i hP (Nat.ne_of_lt q) (Nat.ne_of_lt (Nat.lt_succ_of_lt q)))
    · rename_i q
      rw [if_neg q] at hL
      split at hP
      · rename_i q2
        rw [if_pos q2] at hL
        cases hP; cases hL
        exact good8_join (s.gd k _ _ h1 h3) (s.gd _ _ _ h2 h4) fun t x y => flatten_apart nd h1 h2 (Nat.lt_succ_self _) x y
      · rename_i q2
        rw [if_neg q2] at hL
        exact (s.gd _ P L hP hL).congr (far _ hP (fun z => q (z ▸ Nat.lt_succ_self i)) (fun z => q2 (Nat.succ.inj z)))
end
section
theorem fn_init (w : World) : FnB (KK w.params) 268 (o268 w.params) (fdOf (o268 w.params)) (fBody (stIn 7 1)) (fScope (stIn 7 1)) ["self", "linejunk", "charjunk"] where
  hsc := by rfl
  hK := by kernel_rfl
  hd := by rfl
  hb := by rfl
  hg := by rfl
  hbl := by rfl
  hcl := by rfl
  hcd := ⟨267, o267 w.params, _, _, by rfl, by kernel_rfl, by rfl, by rfl⟩
  hps := by decide
  hnd := by decide
  hkd := by decide
  hco := by rfl
  hk := by rfl
  hnf := by decide
theorem tl_linejunk : typeLookup (.type "object") "linejunk" = pure none := by rw [typeLookup_type, builtinLookup_eq_fast]; kernel_rfl
theorem tl_charjunk : typeLookup (.type "object") "charjunk" = pure none := by rw [typeLookup_type, builtinLookup_eq_fast]; kernel_rfl
theorem defs_init (w : World) (s : Shared) (us : List Value) (B : Bs w (KK w.params) s.heap) (hu : us.length = 1) : BindsTo s (fdOf (o268 w.params)) ⟨us, []⟩ ((["self", "linejunk", "charjunk"] : List Str).zip (us ++ [.none, .none])) := by
  match us, hu with
  | [u], _ => exact BindsTo.of_defaults (T := 261) (o := o261 w.params) (n := 0) (items := #[.none, .none]) (by rfl) (B.k _ _ (by kernel_rfl)) (by rfl) (by rfl) (by rfl)


theorem init_ok {w : World} {E : HEP} {H : List O} {d i : Nat} {Q : V → List O → Prop} (hl : H[i]? = some (.inst 313 [])) (h : Q .none (H.set i (.inst 313 dFs))) : CallW pP w (KK w.params) (d + 1) E H (.st 268) [.ref i] Q := by
  refine call_fnD (ds := [.none, .none]) (dv := [.none, .none]) (fn_init w) (by rfl) (by rfl) (fun ρ h => .cons (by unfold VR; rfl) (.cons (by unfold VR; rfl) .nil)) (fun s us B hu => defs_init w s us B hu) ?_
  have e : initN (fScope (stIn 7 1)) ["self", "linejunk", "charjunk"] ([.ref i] ++ [.none, .none]) = [nv "self" (.ref i), nv "linejunk" .none, nv "charjunk" .none] := by rfl
  rw [e]
  refine wd_seq ?_
  repeat (walk_at "w")
  refine set_inst (cls_differ w) (by kernel_rfl) tl_linejunk hl (by decide) ?_
  repeat (walk_at "w")
  have hi : i < H.length := (List.getElem?_eq_some_iff.mp hl).1
  refine set_inst (cls_differ w) (by kernel_rfl) tl_charjunk (List.getElem?_set_self hi) (by decide) ?_
  repeat (walk_at "w")
  rw [List.set_set]
  exact h
theorem differ_ok {w : World} {E : HEP} {H : List O} {d : Nat} {Q : V → List O → Prop} (h : Q (.ref H.length) (H ++ [.inst 313 dFs])) : CallW pP w (KK w.params) (d + 2) E H (.st 313) [] Q := by
  refine new_inst (oI := o268 w.params) (cls_differ w) (by kernel_rfl : nsIn (KK w.params) 312 "__init__" = some (some (.ref 268))) (by kernel_rfl) (by rfl) ?_
  refine init_ok (List.getElem?_concat_length ..) ⟨rfl, ?_⟩
  rw [List.set_append_right _ _ (Nat.le_refl _), Nat.sub_self]
  exact h
end
section
set_option pp.maxSteps 2500
theorem fn_law (w : World) : FnOk (KK w.params) 322 (o322 w.params) (fdOf (o322 w.params)) (fBody (stAt 9)) (fScope (stAt 9)) ["script"] where
  hsc := by rfl
  hK := by kernel_rfl
  hd := by rfl
  hb := by rfl
  hg := by rfl
  hbl := by rfl
  hcl := by rfl
  hcd := ⟨321, o321 w.params, _, _, by rfl, by kernel_rfl, by rfl, by rfl⟩
  hbd := fun us hu => by obtain ⟨a0, rfl⟩ := args1 hu; rfl
  hps := by decide
  hnd := by decide
  hkd := by decide
  hco := by rfl
  hk := by rfl
  hnf := by decide
theorem g_differ (w : World) : nsIn (KK w.params) mainGlobals "Differ" = some (some (.ref 313)) := by kernel_rfl
theorem g_list (w : World) : nsIn (KK w.params) mainGlobals "list" = some none := by kernel_rfl
theorem b_list : bootBuiltins "list" = some (.type "list") := by kernel_rfl
theorem g_len (w : World) : nsIn (KK w.params) mainGlobals "len" = some none := by kernel_rfl
theorem b_len : bootBuiltins "len" = some (.builtin "len") := by kernel_rfl
theorem g_str (w : World) : nsIn (KK w.params) mainGlobals "str" = some none := by kernel_rfl
theorem b_str : bootBuiltins "str" = some (.type "str") := by kernel_rfl
theorem g_abs (w : World) : nsIn (KK w.params) mainGlobals "abs" = some none := by kernel_rfl
theorem b_abs : bootBuiltins "abs" = some (.builtin "abs") := by kernel_rfl
theorem g_sum (w : World) : nsIn (KK w.params) mainGlobals "sum" = some none := by kernel_rfl
theorem b_sum : bootBuiltins "sum" = some (.builtin "sum") := by kernel_rfl
theorem c_differ (w : World) : Callee (KK w.params) (.st 313) := by show keepIn _ _ = true; kernel_rfl
theorem c_plain (w : World) : Callee (KK w.params) (.st 289) := by show keepIn _ _ = true; kernel_rfl
theorem tl_plain : typeLookup (.type "object") "_plain_replace" = pure none := by rw [typeLookup_type, builtinLookup_eq_fast]; kernel_rfl
theorem meth_plain {w : World} {H : List O} {i : Nat} (hl : H[i]? = some (.inst 313 dFs)) : MethIs pP w (KK w.params) H (.ref i) "_plain_replace" (.st 289) :=
  meth_inst (of := o289 w.params) (cls_differ w) (by kernel_rfl) (by kernel_rfl) (by rfl) tl_plain hl (by rfl)
noncomputable def dig (t : Nat) : Str := Str.ofString (toString (t : Int))
/-- the texts, each a list of its own -/
noncomputable def H1 (T : Nat → List Str) (n : Nat) : List O := (List.range n).map fun t => .list ((T t).map .str)
theorem H1_len {T : Nat → List Str} {n : Nat} : (H1 T n).length = n := by unfold H1; rw [List.length_map, List.length_range]
theorem H1_succ {T : Nat → List Str} {n : Nat} : H1 T (n + 1) = H1 T n ++ [.list ((T n).map .str)] := by unfold H1; rw [List.range_succ, List.map_append]; rfl
theorem rng_at {n i : Nat} {x : V} (h : ((List.range n).map fun (i : Nat) => V.int (i : Int))[i]? = some x) : i < n ∧ x = .int (i : Int) := by
  rw [List.getElem?_map] at h
  obtain ⟨j, hj, rfl⟩ := Option.map_eq_some_iff.mp h
  obtain ⟨h1, h2⟩ := List.getElem?_eq_some_iff.mp hj
  rw [List.length_range] at h1
  rw [List.getElem_range] at h2
  exact ⟨h1, by rw [h2]⟩
theorem small_log {i : Int} (h : i.natAbs < 1000) : i.natAbs.log2 < 1920 := Nat.lt_of_le_of_lt (Nat.log2_le_self _) (by omega)
noncomputable def refs8 : O := .list ((List.range 8).map fun t => .ref (2 + t))
noncomputable def heads8 : O := .list ((["- ", "+ ", "  ", "? ", "", "\n"] : List Str).map V.str)
structure TxOk (T : Nat → List Str) (n : Nat) : Prop where
  ne : ∀ t, T t ≠ []
  le : ∀ t, (T t).length ≤ n + 1
  row : ∀ t, ∀ x ∈ T t, x.length ≤ 4
noncomputable abbrev nm8 (t texts heads x lists parts codes ahead draw differ pairs k left right sooner later told due place : Option V) : Names := [nv "script" (.ref 0), (Str.ofString "t", t), (Str.ofString "texts", texts), (Str.ofString "heads", heads), (Str.ofString "x", x), (Str.ofString "lists", lists), (Str.ofString "parts", parts), (Str.ofString "codes", codes), (Str.ofString "ahead", ahead), (Str.ofString "draw", draw), (Str.ofString "differ", differ), (Str.ofString "pairs", pairs), (Str.ofString "k", k), (Str.ofString "left", left), (Str.ofString "right", right), (Str.ofString "sooner", sooner), (Str.ofString "later", later), (Str.ofString "told", told), (Str.ofString "due", due), (Str.ofString "place", place)]
noncomputable abbrev nm8a (x : Option V) : Names := nm8 none (some (.ref 10)) (some (.ref 11)) x none none none none none none none none none none none none none none none
theorem H1_get {T : Nat → List Str} {n t : Nat} (h : t < n) : (H1 T n)[t]? = some (.list ((T t).map .str)) := by unfold H1; rw [List.getElem?_map, List.getElem?_range h]; rfl
theorem H1_set {T T' : Nat → List Str} {n t : Nat} (h : ∀ j, j ≠ t → T' j = T j) : (H1 T n).set t (.list ((T' t).map .str)) = H1 T' n := by
  refine List.ext_getElem? fun j => ?_
  rw [List.getElem?_set]
  split
  · rename_i q
    subst q
    by_cases z : t < n
    · rw [if_pos (by rw [H1_len]; exact z), H1_get z]
    · rw [if_neg (by rw [H1_len]; exact z), List.getElem?_eq_none (by rw [H1_len]; omega)]
  · rename_i q
    by_cases z : j < n
    · rw [H1_get z, H1_get z, h j (Ne.symm q)]
    · rw [List.getElem?_eq_none (by rw [H1_len]; omega), List.getElem?_eq_none (by rw [H1_len]; omega)]
theorem tx_get {T : Nat → List Str} {a b : O} {post : List O} {t : Nat} (h : t < 8) : ([a, b] ++ H1 T 8 ++ post)[2 + t]? = some (.list ((T t).map .str)) := by
  rw [List.append_assoc, List.getElem?_append_right (by show 2 ≤ _; omega), show 2 + t - [a, b].length = t by show 2 + t - 2 = t; omega, List.getElem?_append_left (by rw [H1_len]; exact h), H1_get h]
theorem tx_set {T T' : Nat → List Str} {a b : O} {post : List O} {t : Nat} (h : t < 8) (hT : ∀ j, j ≠ t → T' j = T j) : ([a, b] ++ H1 T 8 ++ post).set (2 + t) (.list ((T' t).map .str)) = [a, b] ++ H1 T' 8 ++ post := by
  rw [List.append_assoc, List.set_append_right _ _ (by show 2 ≤ _; omega), show 2 + t - [a, b].length = t by show 2 + t - 2 = t; omega, List.set_append_left _ _ (by rw [H1_len]; exact h), H1_set hT, List.append_assoc]
theorem refs_get {t : Nat} (h : t < 8) : ((List.range 8).map fun t => V.ref (2 + t))[t]? = some (.ref (2 + t)) := by rw [List.getElem?_map, List.getElem?_range h]; rfl
theorem dig_len {t : Nat} (h : t < 10) : (dig t).length ≤ 2 := by
  have : ∀ t : Fin 10, (dig t).length ≤ 2 := by decide
  exact this ⟨t, h⟩
theorem head_at {t : Nat} (h : t < 6) : ∃ s : Str, s.length ≤ 2 ∧ ((["- ", "+ ", "  ", "? ", "", "\n"] : List Str).map V.str)[t]? = some (.str s) := by
  match t, h with
  | 0, _ => exact ⟨_, by decide, rfl⟩
  | 1, _ => exact ⟨_, by decide, rfl⟩
  | 2, _ => exact ⟨_, by decide, rfl⟩
  | 3, _ => exact ⟨_, by decide, rfl⟩
  | 4, _ => exact ⟨_, by decide, rfl⟩
  | 5, _ => exact ⟨_, by decide, rfl⟩

noncomputable def forB : Stmt → List Stmt | .For _ _ b _ _ => b | _ => []
/-- what two objects on the heap do not change -/
noncomputable def KP (H H' : List O) : Prop := ∀ (i : Nat) o, i ≠ 30 → i ≠ 31 → H[i]? = some o → H'[i]? = some o
theorem KP.trans {H H' H'' : List O} (a : KP H H') (b : KP H' H'') : KP H H'' := fun i o h1 h2 e => b i o h1 h2 (a i o h1 h2 e)
theorem KP.app {H G : List O} : KP H (H ++ G) := fun i o _ _ e => by rw [List.getElem?_append_left (List.getElem?_eq_some_iff.mp e).1]; exact e
theorem KP.set30 {H : List O} {x : O} : KP H (H.set 30 x) := fun i o h1 _ e => by rw [List.getElem?_set_ne (Ne.symm h1)]; exact e
theorem KP.set31 {H : List O} {x : O} : KP H (H.set 31 x) := fun i o _ h2 e => by rw [List.getElem?_set_ne (Ne.symm h2)]; exact e
/-- a list of lists -/
structure Rws {α : Type} (f : α → List V) (H : List O) (l : Nat) (rs : List Nat) (Xs : List α) : Prop where
  n0 : l ≠ 30
  n1 : l ≠ 31
  at' : H[l]? = some (.list (rs.map .ref))
  ln : rs.length = Xs.length
  el : ∀ (k r : Nat) X, rs[k]? = some r → Xs[k]? = some X → H[r]? = some (.list (f X)) ∧ r ≠ 30 ∧ r ≠ 31
theorem Rws.keep {α : Type} {f : α → List V} {H H' : List O} {l : Nat} {rs : List Nat} {Xs : List α} (h : Rws f H l rs Xs) (k : KP H H') : Rws f H' l rs Xs :=
  ⟨h.n0, h.n1, k _ _ h.n0 h.n1 h.at', h.ln, fun i r X a b => let ⟨x, y, z⟩ := h.el i r X a b; ⟨k _ _ y z x, y, z⟩⟩
theorem Rws.get {α : Type} {f : α → List V} {H : List O} {l : Nat} {rs : List Nat} {Xs : List α} (h : Rws f H l rs Xs) {k : Nat} {X : α} (hX : Xs[k]? = some X) : ∃ r, (rs.map V.ref)[k]? = some (.ref r) ∧ rs[k]? = some r ∧ H[r]? = some (.list (f X)) ∧ r ≠ 30 ∧ r ≠ 31 := by
  have hk : k < rs.length := by rw [h.ln]; exact (List.getElem?_eq_some_iff.mp hX).1
  have e := List.getElem?_eq_getElem hk
  exact ⟨rs[k], by rw [List.getElem?_map, e]; rfl, e, h.el k _ X e hX⟩
noncomputable abbrev sV (X : List Str) : List V := X.map V.str
noncomputable abbrev nV (X : List Nat) : List V := X.map fun t : Nat => V.int (t : Int)
noncomputable def lst8 (f : Nat → V) : O := .list ((List.range 8).map f)
theorem at8 {f : Nat → V} {t : Nat} (h : t < 8) : ((List.range 8).map f)[t]? = some (f t) := by rw [List.getElem?_map, List.getElem?_range h]; rfl
theorem set8 {f g : Nat → V} {t : Nat} (h : ∀ j, j ≠ t → g j = f j) : O.list (((List.range 8).map f).set t (g t)) = lst8 g := by
  unfold lst8
  congr 1
  refine List.ext_getElem? fun j => ?_
  rw [List.getElem?_set]
  split
  · rename_i q
    subst q
    by_cases z : t < 8
    · rw [if_pos (by simpa using z), at8 z]
    · rw [if_neg (by simpa using z), List.getElem?_eq_none (by simp; omega)]
  · rename_i q
    by_cases z : j < 8
    · rw [at8 z, at8 z, h j (Ne.symm q)]
    · rw [List.getElem?_eq_none (by simp; omega), List.getElem?_eq_none (by simp; omega)]
structure Fix8 (ns : List Int) (ps : Array Value) (T : Nat → List Str) (H : List O) : Prop where
  s1 : H[1]? = some (.arr (ns.map V.int))
  tx : H[10]? = some refs8
  tt : ∀ t, t < 8 → H[2 + t]? = some (.list (sV (T t)))
  di : H[32]? = some (.inst 313 dFs)
  pr : H[33]? = some (.list (([7, 6, 5, 4, 3, 2, 1] : List Int).map V.int))
theorem Fix8.keep {ns : List Int} {ps : Array Value} {T : Nat → List Str} {H H' : List O} (h : Fix8 ns ps T H) (k : KP H H') : Fix8 ns ps T H' :=
  ⟨k _ _ (by decide) (by decide) h.s1, k _ _ (by decide) (by decide) h.tx, fun t ht => k _ _ (by omega) (by omega) (h.tt t ht), k _ _ (by decide) (by decide) h.di, k _ _ (by decide) (by decide) h.pr⟩
structure Cur8 (c : Nat → Str) (a : Nat → Nat) (H : List O) : Prop where
  co : H[30]? = some (lst8 fun t => .str (c t))
  ah : H[31]? = some (lst8 fun t => .int (a t : Nat))
theorem Cur8.app {c : Nat → Str} {a : Nat → Nat} {H G : List O} (h : Cur8 c a H) : Cur8 c a (H ++ G) := by
  refine ⟨?_, ?_⟩
  · rw [List.getElem?_append_left (List.getElem?_eq_some_iff.mp h.co).1]; exact h.co
  · rw [List.getElem?_append_left (List.getElem?_eq_some_iff.mp h.ah).1]; exact h.ah
theorem Cur8.set30 {c c' : Nat → Str} {a : Nat → Nat} {H : List O} (h : Cur8 c a H) : Cur8 c' a (H.set 30 (lst8 fun t => .str (c' t))) :=
  ⟨List.getElem?_set_self (List.getElem?_eq_some_iff.mp h.co).1, by rw [List.getElem?_set_ne (by decide)]; exact h.ah⟩
theorem Cur8.set31 {c : Nat → Str} {a a' : Nat → Nat} {H : List O} (h : Cur8 c a H) : Cur8 c a' (H.set 31 (lst8 fun t => .int (a' t : Nat))) :=
  ⟨by rw [List.getElem?_set_ne (by decide)]; exact h.co, List.getElem?_set_self (List.getElem?_eq_some_iff.mp h.ah).1⟩
theorem i0 {t : Nat} : (0 : Int) ≤ (t : Int) := Int.natCast_nonneg t
theorem i01 {t : Nat} : (0 : Int) ≤ (t : Int) + 1 := Int.add_nonneg i0 (by decide)
theorem i62 {t : Nat} (h : t ≤ 100000) : (t : Int) < 2 ^ 62 := by omega
theorem i621 {t : Nat} (h : t ≤ 100000) : (t : Int) + 1 < 2 ^ 62 := by omega
theorem szl {n : Nat} (h : n ≤ 1000000) : n ≤ sizeLine := Nat.le_trans h (by decide)
theorem szm {α β : Type} {f : α → β} {xs : List α} (h : xs.length ≤ 1000000) : (xs.map f).length ≤ sizeLine := by rw [List.length_map]; exact szl h
theorem szm1 {α β : Type} {f : α → β} {xs : List α} (h : xs.length ≤ 1000000) : (xs.map f).length ≤ 1000000 := by rw [List.length_map]; exact h
section
variable {prog : Program} {w : World} {KF : Frag} {d : Nat} {E : HEP} {H : List O} {Q : V → List O → Prop} {l t k : Nat} {f g : Nat → V}
theorem get8 (hl : IsL' H l ((List.range 8).map f)) (ht : t < 8) (h : Q (f t) H) : W2 prog w KF d E VR H subOp (.ref l) (.int (t : Int)) Q := get_li hl i0 (i62 (Nat.le_trans (Nat.le_of_lt ht) (by decide))) (by rw [Int.toNat_natCast]; exact at8 ht) h
theorem geti8 (hl : IsL' H l ((List.range 8).map f)) (ht : t < 8) (h : Q (f t) H) : W2 prog w KF d E VR H getItem (.ref l) (.int (t : Int)) Q := geti_li hl i0 (i62 (Nat.le_trans (Nat.le_of_lt ht) (by decide))) (by rw [Int.toNat_natCast]; exact at8 ht) h
theorem set8r {v : V} {Q : Unit → List O → Prop} (hl : H[l]? = some (lst8 f)) (ht : t < 8) (hg : ∀ j, j ≠ t → g j = f j) (hv : v = g t) (h : Q () (H.set l (lst8 g))) : W3 prog w KF d E UnR H setItem (.ref l) (.int (t : Int)) v Q := by
  subst hv
  refine set_li hl i0 (i62 (Nat.le_trans (Nat.le_of_lt ht) (by decide))) (by rw [List.length_map, List.length_range]; exact Int.ofNat_lt.mpr ht) ?_
  rw [Int.toNat_natCast, set8 hg]
  exact h
theorem getK {xs : List V} {x : V} (hl : H[l]? = some (.list xs)) (hk : k ≤ 100000) (hx : xs[k]? = some x) (h : Q x H) : W2 prog w KF d E VR H subOp (.ref l) (.int (k : Int)) Q := get_li (.inl hl) i0 (i62 hk) (by rw [Int.toNat_natCast]; exact hx) h
theorem getK1 {xs : List V} {x : V} (hl : H[l]? = some (.list xs)) (hk : k ≤ 100000) (hx : xs[k + 1]? = some x) (h : Q x H) : W2 prog w KF d E VR H subOp (.ref l) (.int ((k : Int) + 1)) Q := get_li (.inl hl) i01 (i621 hk) (by rw [show ((k : Int) + 1).toNat = k + 1 by omega]; exact hx) h
theorem lenN {α : Type} {f : α → V} {xs : List α} (hl : H[l]? = some (.list (xs.map f))) (hz : xs.length ≤ 1000000) (h : Q (.int xs.length) H) : CallW prog w KF d E H (.bi "len") [.ref l] Q := len_l (.inl hl) (szm hz) (by rw [List.length_map]; exact h)
theorem addN {r : Nat} {xs ys : List V} (hl : H[l]? = some (.list xs)) (hr : H[r]? = some (.list ys)) (hx : xs.length ≤ 1000000) (hy : ys.length ≤ 1000000) (h : Q (.ref H.length) (H ++ [.list (xs ++ ys)])) : W2 prog w KF d E VR H (binaryOp .Add) (.ref l) (.ref r) Q := add_ll hl hr (Nat.le_trans (Nat.add_le_add hx hy) (by decide)) h
theorem slTo {xs : List V} (hl : H[l]? = some (.list xs)) (hz : xs.length ≤ 1000000) (h : Q (.ref H.length) (H ++ [.list (xs.take k)])) : SliceW prog w KF d E H (.ref l) .none (.int (k : Int)) .none Q := sl_list (lo := none) (hi := some (k : Int)) (st := none) (.inl hl) rfl rfl rfl (by decide) (szl hz) (by rw [pick_upto]; exact h)
theorem slFrom2 {xs : List V} (hl : H[l]? = some (.list xs)) (hk : k ≤ 100000) (hz : xs.length ≤ 1000000) (h : Q (.ref H.length) (H ++ [.list (xs.drop (k + 2))])) : SliceW prog w KF d E H (.ref l) (.int ((k : Int) + 2)) .none .none Q :=
  sl_list (lo := some ((k : Int) + 2)) (hi := none) (st := none) (.inl hl) rfl rfl rfl (by decide) (szl hz) (by rw [show ((k : Int) + 2) = ((k + 2 : Nat) : Int) by omega, pick_from]; exact h)
end
theorem l1s : 1 ≤ sizeLine := by decide
theorem l2s : 2 ≤ sizeLine := by decide
theorem Rws.lens5 {α : Type} {f : α → List V} {H : List O} {l : Nat} {rs : List Nat} {Xs : List α} (h : Rws f H l rs Xs) (hX : Xs.length ≤ 8) : (rs.map V.ref).length ≤ 100000 := by rw [List.length_map, h.ln]; exact Nat.le_trans hX (by decide)
end
section
set_option pp.maxSteps 2500


local macro_rules | `(tactic| walk_at "nm") => `(tactic| first | refine we_glob (by rfl) (g_differ _) ?_ | refine we_biT (by rfl) (g_list _) b_list ?_ | refine we_biF (by rfl) (g_len _) b_len ?_ | refine we_biT (by rfl) (g_range _) b_range ?_ | refine we_biT (by rfl) (g_str _) b_str ?_ | refine we_biF (by rfl) (g_sum _) b_sum ?_ | refine we_biF (by rfl) (g_abs _) b_abs ?_)
local macro_rules | `(tactic| walk_at "w") => `(tactic| ((with_reducible refine (?_ : Callee _ _ ∧ _)); refine ⟨by first | exact c_differ _ | exact c_plain _, ?_⟩))
noncomputable abbrev fi8 (w : World) : FI := ⟨fScope (stAt 9), true, (fdOf (o322 w.params)).code⟩
noncomputable def lp8 : List Stmt := forB ((fBody (stAt 9))[9]?.getD (.Pass ⟨0, 0, 0, 0⟩))
noncomputable def Inv8 (ns : List Int) (ps : Array Value) (T : Nat → List Str) (n : Nat) (m : Names) (H : List O) : Prop :=
  ∃ c a Ps Ls l p rl rp, ∃ D : Int, ∃ tv xv prv kv lv rv sv av ov, m = nm8 tv (some (.ref 10)) (some (.ref 11)) xv (some (.ref l)) (some (.ref p)) (some (.ref 30)) (some (.ref 31)) (some (.int D)) (some (.ref 32)) prv kv lv rv sv av ov none none ∧ 0 ≤ D ∧
    Fix8 ns ps T H ∧ Cur8 c a H ∧ Rws sV H l rl Ls ∧ Rws nV H p rp Ps ∧ St8 T c a Ps Ls n ∧ ∀ t, (c t).length ≤ 2 * (8 - n)
theorem set_same {H : List O} {i : Nat} {x : O} (h : H[i]? = some x) : H = H.set i x := by
  refine List.ext_getElem? fun j => ?_
  rw [List.getElem?_set]
  split
  · rename_i q; subst q; rw [if_pos (List.getElem?_eq_some_iff.mp h).1, h]
  · rfl
theorem nV_at {X : List Nat} {i : Nat} {x : V} (h : (nV X)[i]? = some x) : ∃ t, X[i]? = some t ∧ x = .int (t : Int) := by
  rw [List.getElem?_map] at h
  obtain ⟨t, ht, rfl⟩ := Option.map_eq_some_iff.mp h
  exact ⟨t, ht, rfl⟩
theorem take_mem {X : List Nat} {i t : Nat} (nd : X.Nodup) (h : X[i]? = some t) (j : Nat) : (j ∈ X.take (i + 1) ↔ j = t ∨ j ∈ X.take i) ∧ t ∉ X.take i := by
  have e : X.take (i + 1) = X.take i ++ [t] := by rw [List.take_add_one, h]; rfl
  refine ⟨by rw [e, List.mem_append, List.mem_singleton]; exact Or.comm, fun q => ?_⟩
  have nd2 : (X.take (i + 1)).Nodup := nd.sublist (List.take_sublist _ _)
  rw [e, List.nodup_append] at nd2
  exact nd2.2.2 t q t (.head _) rfl
theorem len_sum8 {T : Nat → List Str} (hT : TxOk T 63) : ∀ P : List Nat, P.length ≤ sum8 T P ∧ sum8 T P ≤ P.length * 64
  | [] => ⟨Nat.le_refl _, Nat.le_refl _⟩
  | t :: P => by
    have := len_sum8 hT P
    have h1 := hT.le t
    have h2 : 0 < (T t).length := List.length_pos_iff.mpr (hT.ne t)
    unfold sum8 at this ⊢
    rw [List.map_cons, List.sum_cons, List.length_cons]
    omega
theorem row8 {T : Nat → List Str} {c : Nat → Str} {a : Nat → Nat} {Ps : List (List Nat)} {Ls : List (List Str)} {n m k : Nat} {X : List Str} {P : List Nat} (S : St8 T c a Ps Ls n) (hT : TxOk T 63) (hX : Ls[k]? = some X) (hP : Ps[k]? = some P) (hc : ∀ t, (c t).length ≤ 2 * (8 - m)) :
    (∀ r ∈ X, r.length ≤ 1000000) ∧ 0 < X.length ∧ X.length ≤ 1000000 := by
  have g := S.gd _ _ _ hP hX
  have l1 := len_sum8 hT P
  have l2 : P.length ≤ 8 := by
    have := (List.sublist_flatten_of_mem (List.mem_of_getElem? hP)).length_le
    rw [S.fl, List.length_range] at this
    exact this
  have l3 : 0 < P.length := List.length_pos_iff.mpr g.ne
  have e := g.ln
  refine ⟨fun r hr => ?_, by omega, by omega⟩
  rw [g.eq] at hr
  obtain ⟨t, _, x, hx, rfl⟩ := out8_mem hr
  have h1 := hT.row t x hx
  have h2 := hc t
  rw [strLen_append]
  omega
theorem set_last {H : List O} {x y : O} : (H ++ [x]).set H.length y = H ++ [y] := by rw [List.set_append_right _ _ (Nat.le_refl _), Nat.sub_self]; rfl
theorem gl {h t : List O} {l : Nat} {x : O} (e : h[l]? = some x) : (h ++ t)[l]? = some x := by
  rw [List.getElem?_append_left (List.getElem?_eq_some_iff.mp e).1]; exact e
theorem gn {h : List O} {x : O} : (h ++ [x])[h.length]? = some x := List.getElem?_concat_length ..
theorem join_refs {rs : List Nat} {k i : Nat} : (rs.map V.ref).take k ++ [V.ref i] ++ (rs.map V.ref).drop (k + 2) = (rs.take k ++ [i] ++ rs.drop (k + 2)).map V.ref := by simp
theorem Rws.join {α : Type} {f : α → List V} {H H' : List O} {l l' r k : Nat} {rs : List Nat} {Xs : List α} {X : α} (h : Rws f H l rs Xs) (hk : k + 1 < Xs.length) (kp : KP H H') (h1 : 31 < l') (hl : H'[l']? = some (.list ((rs.take k ++ [r] ++ rs.drop (k + 2)).map .ref))) (h2 : 31 < r) (hr : H'[r]? = some (.list (f X))) :
    Rws f H' l' (rs.take k ++ [r] ++ rs.drop (k + 2)) (Xs.take k ++ [X] ++ Xs.drop (k + 2)) := by
  have e := h.ln
  refine ⟨Nat.ne_of_gt (Nat.lt_of_succ_lt h1), Nat.ne_of_gt h1, hl, (join_len (n := Xs.length - 1) (e.trans (Nat.succ_pred_eq_of_pos (Nat.zero_lt_of_lt hk)).symm) (Nat.lt_pred_iff.mpr hk)).trans (join_len (Nat.succ_pred_eq_of_pos (Nat.zero_lt_of_lt hk)).symm (Nat.lt_pred_iff.mpr hk)).symm, fun i q Y a b => ?_⟩
  rw [join_get _ _ _ (by omega)] at a b
  have old : ∀ j, rs[j]? = some q → Xs[j]? = some Y → H'[q]? = some (.list (f Y)) ∧ q ≠ 30 ∧ q ≠ 31 := fun j a b => let ⟨x, y, z⟩ := h.el j q Y a b; ⟨kp _ _ y z x, y, z⟩
  split at a
  · rename_i z; rw [if_pos z] at b; exact old _ a b
  · rename_i z; rw [if_neg z] at b
    split at a
    · rename_i z2; rw [if_pos z2] at b; cases a; cases b; exact ⟨hr, by omega, by omega⟩
    · rename_i z2; rw [if_neg z2] at b; exact old _ a b
theorem take_if {α : Type} {X : List Nat} {i t j : Nat} (h : (j ∈ X.take (i + 1) ↔ j = t ∨ j ∈ X.take i) ∧ t ∉ X.take i) (hj : j ≠ t) (x y : α) : (if j ∈ X.take (i + 1) then x else y) = if j ∈ X.take i then x else y := by
  by_cases q : j ∈ X.take i
  · rw [if_pos q, if_pos (h.1.mpr (.inr q))]
  · rw [if_neg q, if_neg fun z => (h.1.mp z).elim hj q]
theorem szs {c : Str} {n : Nat} (h : c.length ≤ 2 * (8 - n)) : 2 + c.length ≤ sizeLine := Nat.le_trans (Nat.add_le_add_left (Nat.le_trans h (Nat.mul_le_mul_left 2 (Nat.sub_le 8 n))) 2) (by decide)
noncomputable abbrev nmt (tv xv prv lv rv sv av ov : Option V) (l p k : Nat) (D : Int) : Names := nm8 tv (some (.ref 10)) (some (.ref 11)) xv (some (.ref l)) (some (.ref p)) (some (.ref 30)) (some (.ref 31)) (some (.int D)) (some (.ref 32)) prv (some (.int k)) lv rv sv av ov none none
theorem St8.part {T : Nat → List Str} {c : Nat → Str} {a : Nat → Nat} {Ps : List (List Nat)} {Ls : List (List Str)} {n k : Nat} {P : List Nat} (S : St8 T c a Ps Ls n) (h : Ps[k]? = some P) : P.Nodup ∧ (∀ t ∈ P, t < 8) ∧ P.length ≤ 8 := by
  have hm := List.sublist_flatten_of_mem (List.mem_of_getElem? h)
  rw [S.fl] at hm
  exact ⟨List.nodup_range.sublist hm, fun t ht => List.mem_range.mp (hm.subset ht), by have := hm.length_le; rwa [List.length_range] at this⟩
section
variable {w : World} {d : Nat} {c : Nat → Str} {a : Nat → Nat} {l p k I : Nat} {H : List O} {D : Int} {tv xv prv lv rv sv av ov : Option V} {Q : Fl → Names → List O → Prop}
theorem loopA {is it : Nat} {so la : List Nat} (ah : H[31]? = some (lst8 fun t => .int (a t : Nat))) (hs : H[is]? = some (.list (nV so)) ∧ is ≠ 31) (ht : H[it]? = some (.list (nV la)) ∧ it ≠ 31) (nd : la.Nodup) (l8 : ∀ t ∈ la, t < 8) (ls : so.length ≤ 1000000)
    (h : ∀ tv, WBU pP w (KK w.params) (fi8 w) (d + 3) (fun _ _ _ => False) (nmt tv xv prv lv rv (some (.ref is)) (some (.ref it)) ov l p k D) (H.set 31 (lst8 fun t => .int ((if t ∈ la then a t + so.length else a t : Nat) : Int))) (lp8.drop 6) Q) :
    WBU pP w (KK w.params) (fi8 w) (d + 3) (fun _ _ _ => False) (nmt tv xv prv lv rv (some (.ref is)) (some (.ref it)) ov l p k D) H (lp8.drop 5) Q := by
  have hlt := (List.getElem?_eq_some_iff.mp ah).1
  refine wu_seq ?_
  refine wu_for ?_
  repeat (walk_at "w")
  refine ⟨_, _, iw_list (xs := nV la) (.inl ht.1), fun i m' H' => ∃ tv, m' = nmt tv xv prv lv rv (some (.ref is)) (some (.ref it)) ov l p k D ∧ H' = H.set 31 (lst8 fun t => .int ((if t ∈ la.take i then a t + so.length else a t : Nat) : Int)), ⟨tv, rfl, set_same (by rw [ah]; rfl)⟩, ?_, ?_, ?_⟩
  · rintro i m' H' ⟨tv, rfl, rfl⟩
    exact .inl (by rw [List.getElem?_set_ne (Ne.symm ht.2)]; exact ht.1)
  · rintro i x m' H' hx ⟨tv, rfl, rfl⟩
    obtain ⟨t, hti, rfl⟩ := nV_at hx
    have ht8 : t < 8 := l8 t (List.mem_of_getElem? hti)
    have tk := take_mem nd hti
    walk_at "w"
    refine wbU ?_
    repeat (walk_at "w")
    refine geti8 (.inl (List.getElem?_set_self hlt)) ht8 ?_
    repeat (walk_at "w")
    refine lenN (by rw [List.getElem?_set_ne (Ne.symm hs.2)]; exact hs.1) ls ?_
    repeat (walk_at "w")
    refine set8r (g := fun t => V.int ((if t ∈ la.take (i + 1) then a t + so.length else a t : Nat) : Int)) (List.getElem?_set_self hlt) ht8 (fun j hj => congrArg (fun n : Nat => V.int (n : Int)) (take_if (tk j) hj _ _)) (by rw [if_neg (tk t).2, if_pos ((tk t).1.mpr (.inl rfl))]; rfl) ?_
    repeat (walk_at "w")
    exact ⟨_, rfl, List.set_set ..⟩
  · rintro m' H' ⟨tv, rfl, rfl⟩
    rw [List.length_map, List.take_length]
    exact h tv
theorem loopC {X sg : Str} {ix kk : Nat} {xs : List Nat} {p1 p2 p3 p4 p5 p6 p7 p8 p9 p10 p11 p12 : Pos} {rest : List Stmt} (hX : (fi8 w).sc.names.lookup X = some .local) (gX : getL (nmt tv xv prv lv rv sv av ov l p k D) X = some (.ref ix)) (hd : (X == ("__debug__" : Str)) = false) (co : H[30]? = some (lst8 fun t => .str (c t))) (hx : H[ix]? = some (.list (nV xs)) ∧ ix ≠ 30) (nd : xs.Nodup) (l8 : ∀ t ∈ xs, t < 8) (hc : ∀ t, sg.length + (c t).length ≤ sizeLine)
    (h : ∀ tv, WBU pP w (KK w.params) (fi8 w) (d + 3) (fun _ _ _ => False) (nmt tv xv prv lv rv sv av ov l p k D) (H.set 30 (lst8 fun t => .str (if t ∈ xs then sg ++ c t else c t))) rest Q) :
    WSU pP w (KK w.params) (fi8 w) (d + 3) (fun _ _ _ => False) (nmt tv xv prv lv rv sv av ov l p k D) H (.For (.Name "t" p1) (.Name X p2) [.Assign [.Subscript (.Name "codes" p3) (.Name "t" p4) p5] (.BinOp (.Constant (.str sg) kk p6) .Add (.Subscript (.Name "codes" p7) (.Name "t" p8) p9) p10) p11] [] p12) (KSeqU pP w (KK w.params) (fi8 w) (d + 3) (fun _ _ _ => False) rest Q) := by
  have hlt := (List.getElem?_eq_some_iff.mp co).1
  refine wu_for ?_
  refine we_loc hX gX ?_ hd
  refine ⟨_, _, iw_list (xs := nV xs) (.inl hx.1), fun i m' H' => ∃ tv, m' = nmt tv xv prv lv rv sv av ov l p k D ∧ H' = H.set 30 (lst8 fun t => .str (if t ∈ xs.take i then sg ++ c t else c t)), ⟨tv, rfl, set_same (by rw [co]; rfl)⟩, ?_, ?_, ?_⟩
  · rintro i m' H' ⟨tv, rfl, rfl⟩
    exact .inl (by rw [List.getElem?_set_ne (Ne.symm hx.2)]; exact hx.1)
  · rintro i x m' H' hx' ⟨tv, rfl, rfl⟩
    obtain ⟨t, hti, rfl⟩ := nV_at hx'
    have ht8 : t < 8 := l8 t (List.mem_of_getElem? hti)
    have tk := take_mem nd hti
    walk_at "w"
    refine wbU ?_
    repeat (walk_at "w")
    refine get8 (.inl (List.getElem?_set_self hlt)) ht8 ?_
    rw [show (if t ∈ xs.take i then sg ++ c t else c t) = c t from if_neg (tk t).2]
    refine add_ss (hc t) ?_
    repeat (walk_at "w")
    refine set8r (g := fun t => V.str (if t ∈ xs.take (i + 1) then sg ++ c t else c t)) (List.getElem?_set_self hlt) ht8 (fun j hj => congrArg V.str (take_if (tk j) hj _ _)) (by rw [if_pos ((tk t).1.mpr (.inl rfl))]) ?_
    repeat (walk_at "w")
    exact ⟨_, rfl, List.set_set ..⟩
  · rintro m' H' ⟨tv, rfl, rfl⟩
    rw [List.length_map, List.take_length]
    exact h tv
theorem told_ok {jl jr : Nat} {rl : List Nat} {lst rst : List Str} (di : H[32]? = some (.inst 313 dFs)) (RL : H[l]? = some (.list (rl.map .ref))) (C : Cur8 c a H) (k5 : k ≤ 100000) (gl1 : (rl.map V.ref)[k]? = some (.ref jl)) (gl3 : H[jl]? = some (.list (sV lst))) (gr1 : (rl.map V.ref)[k + 1]? = some (.ref jr)) (gr3 : H[jr]? = some (.list (sV rst)))
    (sl : (∀ r ∈ lst, r.length ≤ 1000000) ∧ 0 < lst.length ∧ lst.length ≤ 1000000) (sr : (∀ r ∈ rst, r.length ≤ 1000000) ∧ 0 < rst.length ∧ rst.length ≤ 1000000)
    (h : ∀ H' I, KP H H' → Cur8 c a H' → 31 < I → H'[I]? = some (.list (sV (plainRows lst rst))) → WBU pP w (KK w.params) (fi8 w) (d + 3) (fun _ _ _ => False) (nmt tv xv prv lv rv sv av (some (.ref I)) l p k D) H' (lp8.drop 9) Q) :
    WBU pP w (KK w.params) (fi8 w) (d + 3) (fun _ _ _ => False) (nmt tv xv prv lv rv sv av ov l p k D) H (lp8.drop 8) Q := by
  refine wu_seq ?_
  refine wu_assign (.inl (by rfl)) ?_
  refine weu_list ?_
  refine we_biT (by rfl) (g_list _) b_list ⟨rfl, ?_⟩
  repeat (walk_at "w")
  refine ⟨_, meth_plain di, c_plain _, ?_⟩
  repeat (walk_at "w")
  refine getK RL k5 gl1 ?_
  repeat (walk_at "w")
  refine getK RL k5 gl1 ?_
  refine lenN gl3 sl.2.2 ?_
  repeat (walk_at "w")
  refine getK1 RL k5 gr1 ?_
  repeat (walk_at "w")
  refine getK1 RL k5 gr1 ?_
  refine lenN gr3 sr.2.2 ?_
  repeat (walk_at "w")
  refine call_gen (fn_plain _) (by rfl) (by rfl) ?_
  refine ⟨_, _, _, _, rfl, List.getElem?_concat_length .., _, _, plain_ok (k := 32) (k₁ := jl) (k₂ := jr) (by rw [set_last]; exact gl di) (by rw [set_last]; exact gl gl3) (by rw [set_last]; exact gl gr3) sl.1 sr.1 sl.2 sr.2, ?_, ?_⟩
  · rw [plainRows_len]
    exact Nat.le_trans (Nat.add_le_add sl.2.2 sr.2.2) (by decide)
  rw [set_last]
  rintro H' ⟨x, y, rfl⟩
  exact h _ _ ((KP.app.trans KP.app).trans KP.app) C.app.app.app (List.getElem?_eq_some_iff.mp C.app.app.ah).1 gn
theorem lists_ok {rl : List Nat} (RL : H[l]? = some (.list (rl.map .ref))) (C : Cur8 c a H) (k5 : k ≤ 100000) (lrl : (rl.map V.ref).length ≤ 100000)
    (h : ∀ H' l', KP H H' → Cur8 c a H' → 31 < l' → H'[l']? = some (.list ((rl.take k ++ [I] ++ rl.drop (k + 2)).map V.ref)) → WBU pP w (KK w.params) (fi8 w) (d + 3) (fun _ _ _ => False) (nmt tv xv prv lv rv sv av (some (.ref I)) l' p k D) H' (lp8.drop 10) Q) :
    WBU pP w (KK w.params) (fi8 w) (d + 3) (fun _ _ _ => False) (nmt tv xv prv lv rv sv av (some (.ref I)) l p k D) H (lp8.drop 9) Q := by
  have lr6 : (rl.map V.ref).length ≤ 1000000 := Nat.le_trans lrl (by decide)
  have lt : (List.take k (rl.map V.ref)).length ≤ 100000 := Nat.le_trans (List.length_take_le' ..) lrl
  refine wu_quiet ?_
  repeat (walk_at "w")
  refine slTo RL lr6 ?_
  repeat (walk_at "w")
  refine ⟨l1s, ?_⟩
  repeat (walk_at "w")
  refine addN (gl gn) gn (Nat.le_trans lt (by decide)) (by show 1 ≤ _; decide) ?_
  repeat (walk_at "w")
  refine slFrom2 (gl (gl (gl RL))) k5 lr6 ?_
  repeat (walk_at "w")
  refine addN (gl gn) gn (by rw [List.length_append]; exact Nat.le_trans (Nat.succ_le_succ lt) (by decide)) (Nat.le_trans (by rw [List.length_drop]; exact Nat.sub_le ..) lr6) ?_
  repeat (walk_at "w")
  rw [join_refs]
  exact h _ _ ((((KP.app.trans KP.app).trans KP.app).trans KP.app).trans KP.app) C.app.app.app.app.app (List.getElem?_eq_some_iff.mp C.app.app.app.app.ah).1 gn
theorem parts_ok {il ir : Nat} {rp lf rg : List Nat} (RP : H[p]? = some (.list (rp.map .ref))) (C : Cur8 c a H) (k5 : k ≤ 100000) (lrl : (rp.map V.ref).length ≤ 100000) (hl : H[il]? = some (.list (nV lf))) (hr : H[ir]? = some (.list (nV rg))) (ll : lf.length ≤ 1000000) (lr : rg.length ≤ 1000000)
    (h : ∀ H' p' J, KP H H' → Cur8 c a H' → 31 < p' → 31 < J → H'[J]? = some (.list (nV (lf ++ rg))) → H'[p']? = some (.list ((rp.take k ++ [J] ++ rp.drop (k + 2)).map V.ref)) → Q .next (nmt tv xv prv (some (.ref il)) (some (.ref ir)) sv av ov l p' k D) H') :
    WBU pP w (KK w.params) (fi8 w) (d + 3) (fun _ _ _ => False) (nmt tv xv prv (some (.ref il)) (some (.ref ir)) sv av ov l p k D) H (lp8.drop 10) Q := by
  have lr6 : (rp.map V.ref).length ≤ 1000000 := Nat.le_trans lrl (by decide)
  have lt : (List.take k (rp.map V.ref)).length ≤ 100000 := Nat.le_trans (List.length_take_le' ..) lrl
  refine wu_quiet ?_
  repeat (walk_at "w")
  refine slTo RP lr6 ?_
  repeat (walk_at "w")
  refine addN (gl hl) (gl hr) (szm1 ll) (szm1 lr) ?_
  repeat (walk_at "w")
  refine ⟨l1s, ?_⟩
  repeat (walk_at "w")
  refine addN (gl (gl gn)) gn (Nat.le_trans lt (by decide)) (by show 1 ≤ _; decide) ?_
  repeat (walk_at "w")
  refine slFrom2 (gl (gl (gl (gl RP)))) k5 lr6 ?_
  repeat (walk_at "w")
  refine addN (gl gn) gn (by rw [List.length_append]; exact Nat.le_trans (Nat.succ_le_succ lt) (by decide)) (Nat.le_trans (by rw [List.length_drop]; exact Nat.sub_le ..) lr6) ?_
  repeat (walk_at "w")
  refine wu_nil ?_
  rw [join_refs]
  exact h _ _ _ (((((KP.app.trans KP.app).trans KP.app).trans KP.app).trans KP.app).trans KP.app) C.app.app.app.app.app.app (List.getElem?_eq_some_iff.mp C.app.app.app.app.app.ah).1 (List.getElem?_eq_some_iff.mp C.app.ah).1 (gl (gl (gl (gl (by rw [show nV (lf ++ rg) = nV lf ++ nV rg from List.map_append]; exact gn))))) gn
end
theorem turn2 {w : World} {d : Nat} {ns : List Int} {ps : Array Value} {T : Nat → List Str} {c : Nat → Str} {a : Nat → Nat} {Ps : List (List Nat)} {Ls : List (List Str)} {l p n k il ir is it : Nat} {rl rp : List Nat} {lf rg so la : List Nat} {H : List O} {D : Int} {tv xv prv ov : Option V} {Q : Fl → Names → List O → Prop}
    (F : Fix8 ns ps T H) (C : Cur8 c a H) (RL : Rws sV H l rl Ls) (RP : Rws nV H p rp Ps) (S : St8 T c a Ps Ls (n + 1)) (hk : k < n) (hn : n ≤ 7) (hc : ∀ t, (c t).length ≤ 2 * (8 - (n + 1))) (hT : TxOk T 63) (hD : 0 ≤ D)
    (el : Ps[k]? = some lf) (er : Ps[k + 1]? = some rg) (hl : H[il]? = some (.list (nV lf)) ∧ il ≠ 30 ∧ il ≠ 31) (hr : H[ir]? = some (.list (nV rg)) ∧ ir ≠ 30 ∧ ir ≠ 31) (hs : H[is]? = some (.list (nV so)) ∧ is ≠ 30 ∧ is ≠ 31) (ht : H[it]? = some (.list (nV la)) ∧ it ≠ 30 ∧ it ≠ 31)
    (hah : ∀ t, (if t ∈ la then a t + so.length else a t) = ahead8 T a lf rg t) (hla : la = lf ∨ la = rg) (hso : so = lf ∨ so = rg) (hQ : ∀ m' H', Inv8 ns ps T n m' H' → Q .next m' H') :
    WBU pP w (KK w.params) (fi8 w) (d + 3) (fun _ _ _ => False) (nmt tv xv prv (some (.ref il)) (some (.ref ir)) (some (.ref is)) (some (.ref it)) ov l p k D) H (lp8.drop 5) Q := by
  have nd : Ps.flatten.Nodup := by rw [S.fl]; exact List.nodup_range
  have pl := S.part el
  have pr := S.part er
  have lla : la.Nodup ∧ (∀ t ∈ la, t < 8) := by rcases hla with rfl | rfl <;> exact ⟨by first | exact pl.1 | exact pr.1, by first | exact pl.2.1 | exact pr.2.1⟩
  have lso : so.length ≤ 8 := by rcases hso with rfl | rfl <;> first | exact pl.2.2 | exact pr.2.2
  have k5 : k ≤ 100000 := Nat.le_trans (Nat.le_of_lt hk) (Nat.le_trans hn (by decide))
  have hd : ∀ t ∈ rg, t ∉ lf := fun t h1 h2 => flatten_apart nd el er (Nat.lt_succ_self _) h2 h1
  refine loopA C.ah ⟨hs.1, hs.2.2⟩ ⟨ht.1, ht.2.2⟩ lla.1 lla.2 (Nat.le_trans lso (by decide)) fun tv => ?_
  rw [show (fun t => V.int ((if t ∈ la then a t + so.length else a t : Nat) : Int)) = fun t => V.int (ahead8 T a lf rg t : Nat) from funext fun t => by rw [hah t]]
  have k1 : KP H (H.set 31 (lst8 fun t => .int (ahead8 T a lf rg t : Nat))) := KP.set31
  have C1 : Cur8 c (ahead8 T a lf rg) (H.set 31 (lst8 fun t => .int (ahead8 T a lf rg t : Nat))) := C.set31
  refine wu_seq (loopC (X := "left") (by rfl) (by rfl) (by decide) C1.co ⟨k1 _ _ hl.2.1 hl.2.2 hl.1, hl.2.1⟩ pl.1 pl.2.1 (fun t => szs (hc t)) fun tv => ?_)
  have k2 := k1.trans (KP.set30 (x := lst8 fun t => .str (if t ∈ lf then ("- " : Str) ++ c t else c t)))
  have C2 := C1.set30 (c' := fun t => if t ∈ lf then ("- " : Str) ++ c t else c t)
  refine wu_seq (loopC (X := "right") (by rfl) (by rfl) (by decide) C2.co ⟨k2 _ _ hr.2.1 hr.2.2 hr.1, hr.2.1⟩ pr.1 pr.2.1 (fun t => ?_) fun tv => ?_)
  · have z : (Str.ofString "- ").length = 2 := by rfl
    split
    · rw [strLen_append, z]; exact Nat.le_trans (Nat.add_le_add_left (Nat.add_le_add_left (Nat.le_trans (hc t) (Nat.mul_le_mul_left 2 (Nat.sub_le 8 _))) 2) 2) (by decide)
    · exact szs (hc t)
  rw [show (fun t => V.str (if t ∈ rg then ("+ " : Str) ++ (if t ∈ lf then ("- " : Str) ++ c t else c t) else if t ∈ lf then ("- " : Str) ++ c t else c t)) = fun t => V.str (codes8 c lf rg t) from funext fun t => by
    unfold codes8
    by_cases q : t ∈ rg
    · rw [if_pos q, if_pos q, if_neg (hd t q)]
    · rw [if_neg q, if_neg q]]
  have k3 := k2.trans (KP.set30 (x := lst8 fun t => .str (codes8 c lf rg t)))
  have C3 := C2.set30 (c' := codes8 c lf rg)
  obtain ⟨lst, hlst⟩ : ∃ x, Ls[k]? = some x := ⟨_, List.getElem?_eq_getElem (by rw [S.n2]; exact Nat.lt_succ_of_lt hk)⟩
  obtain ⟨rst, hrst⟩ : ∃ x, Ls[k + 1]? = some x := ⟨_, List.getElem?_eq_getElem (by rw [S.n2]; exact Nat.succ_lt_succ hk)⟩
  obtain ⟨jl, gl1, gl2, gl3, gl4, gl5⟩ := RL.get hlst
  obtain ⟨jr, gr1, gr2, gr3, gr4, gr5⟩ := RL.get hrst
  refine told_ok (F.keep k3).di (RL.keep k3).at' C3 k5 gl1 (k3 _ _ gl4 gl5 gl3) gr1 (k3 _ _ gr4 gr5 gr3) (row8 S hT hlst el hc) (row8 S hT hrst er hc) fun H₄ I k4 C4 hI2 hI => ?_
  have k4 := k3.trans k4
  refine lists_ok (RL.keep k4).at' C4 k5 (RL.lens5 (by rw [S.n2]; exact Nat.succ_le_succ hn)) fun H₅ l' k5' C5 lp hl' => ?_
  have k6 := k4.trans k5'
  refine parts_ok (RP.keep k6).at' C5 k5 (RP.lens5 (by rw [S.n1]; exact Nat.succ_le_succ hn)) (k6 _ _ hl.2.1 hl.2.2 hl.1) (k6 _ _ hr.2.1 hr.2.2 hr.1) (Nat.le_trans pl.2.2 (by decide)) (Nat.le_trans pr.2.2 (by decide)) fun H₆ p' J k7 C6 lp' lJ hJ hp' => ?_
  have k8 := k6.trans k7
  refine hQ _ _ ⟨_, _, _, _, _, _, _, _, D, _, _, _, _, _, _, _, _, _, rfl, hD, F.keep k8, C6, RL.join (by rw [S.n2]; exact Nat.succ_lt_succ hk) k8 lp (k7 _ _ (Nat.ne_of_gt (Nat.lt_of_succ_lt lp)) (Nat.ne_of_gt lp) hl') hI2 (k5'.trans k7 _ _ (Nat.ne_of_gt (Nat.lt_of_succ_lt hI2)) (Nat.ne_of_gt hI2) hI), RP.join (by rw [S.n1]; exact Nat.succ_lt_succ hk) k8 lp' hp' lJ hJ, S.join hk el er hlst hrst, fun t => ?_⟩
  have h1 := hc t
  have z1 : (Str.ofString "+ ").length = 2 := by rfl
  have z2 : (Str.ofString "- ").length = 2 := by rfl
  unfold codes8
  split
  · rw [strLen_append, z1]; omega
  · split
    · rw [strLen_append, z2]; omega
    · omega



theorem sum_cast8 (T : Nat → List Str) (P : List Nat) : (P.map fun t => ((T t).length : Int)).sum = (sum8 T P : Nat) := by
  unfold sum8
  induction P with
  | nil => rfl
  | cons a l ih => rw [List.map_cons, List.sum_cons, List.map_cons, List.sum_cons, ih]; omega
theorem turn1 {w : World} {d : Nat} {ns : List Int} {ps : Array Value} {T : Nat → List Str} {n : Nat} {m : Names} {H : List O} {Q : Fl → Names → List O → Prop} (hT : TxOk T 63) (h0 : 0 < n) (hn : n ≤ 7)
    (I : Inv8 ns ps T (n + 1) m H) (hQ : ∀ m' H', Inv8 ns ps T n m' H' → Q .next m' H') : WBU pP w (KK w.params) (fi8 w) (d + 3) (fun _ _ _ => False) (setL m "pairs" (.int n)) H lp8 Q := by
  have hz : sizeLine = 2 ^ 24 := rfl
  obtain ⟨c, a, Ps, Ls, l, p, rl, rp, D, tv, xv, prv, kv, lv, rv, sv, av, ov, rfl, hD, F, C, RL, RP, S, hc⟩ := I
  have nd : Ps.flatten.Nodup := by rw [S.fl]; exact List.nodup_range
  have np : (0 : Int) < n := Int.ofNat_lt.mpr h0
  have n0 : (n : Int) ≠ 0 := Int.ne_of_gt np
  have a1 := Int.fmod_nonneg_of_pos D np
  have a2 := Int.fmod_lt_of_pos D np
  have d1 : 0 ≤ D.fdiv n := Int.fdiv_nonneg hD i0
  obtain ⟨k, hk⟩ := Int.eq_ofNat_of_zero_le a1
  have hkn : k < n := Int.ofNat_lt.mp (hk ▸ a2)
  have k5 : k ≤ 100000 := Nat.le_trans (Nat.le_of_lt hkn) (Nat.le_trans hn (by decide))
  have e1 := S.n1
  obtain ⟨lf, el⟩ : ∃ x, Ps[k]? = some x := ⟨_, List.getElem?_eq_getElem (by rw [e1]; exact Nat.lt_succ_of_lt hkn)⟩
  obtain ⟨rg, er⟩ : ∃ x, Ps[k + 1]? = some x := ⟨_, List.getElem?_eq_getElem (by rw [e1]; exact Nat.succ_lt_succ hkn)⟩
  have p8 : ∀ (k : Nat) P, Ps[k]? = some P → (∀ t ∈ P, t < 8) ∧ P.length ≤ 8 := fun k P h => by
    have hm := List.mem_of_getElem? h
    refine ⟨fun t ht => ?_, ?_⟩
    · have : t ∈ Ps.flatten := List.mem_flatten.mpr ⟨P, hm, ht⟩
      rw [S.fl] at this
      exact List.mem_range.mp this
    · have := (List.sublist_flatten_of_mem hm).length_le
      rw [S.fl, List.length_range] at this
      exact this
  obtain ⟨jl, pl1, _, pl3, pl4, pl5⟩ := RP.get el
  obtain ⟨jr, pr1, _, pr3, pr4, pr5⟩ := RP.get er
  refine wu_quiet ?_
  repeat (walk_at "w")
  refine mod_ii n0 ?_
  rw [hk]
  repeat (walk_at "w")
  refine wu_quiet ?_
  repeat (walk_at "w")
  refine div_ii n0 (PyProof.noPylong_of_log2 (Nat.lt_of_le_of_lt (Nat.log2_le_self _) (Nat.lt_of_le_of_lt hn (by decide)))) ?_
  repeat (walk_at "w")
  refine wu_quiet ?_
  refine ws_swap (xs := ["left", "right"]) (fun x hx => ?_) ?_ (fun env he => by unfold swappedStores Env.blockKind Env.kindOf; rw [he]; rfl)
  · rcases List.mem_cons.mp hx with rfl | hx
    · exact .inl (by rfl)
    · rw [List.mem_singleton.mp hx]; exact .inl (by rfl)
  repeat (walk_at "w")
  refine getK RP.at' k5 pl1 ?_
  repeat (walk_at "w")
  refine getK1 RP.at' k5 pr1 ?_
  repeat (walk_at "w")
  refine ⟨l2s, ?_⟩
  refine unp_tup rfl ?_
  refine ⟨rfl, ?_⟩
  refine wu_quiet ?_
  refine ws_swap (xs := ["sooner", "later"]) (fun x hx => ?_) ?_ (fun env he => by unfold swappedStores Env.blockKind Env.kindOf; rw [he]; rfl)
  · rcases List.mem_cons.mp hx with rfl | hx
    · exact .inl (by rfl)
    · rw [List.mem_singleton.mp hx]; exact .inl (by rfl)
  repeat (walk_at "w")
  refine ⟨l2s, ?_⟩
  refine unp_tup rfl ?_
  refine ⟨rfl, ?_⟩
  refine wu_quiet ?_
  repeat (walk_at "w")
  refine we_comp ⟨by decide, by decide, by rfl, by dsimp only; decide⟩ ?_
  repeat (walk_at "w")
  refine comp_pure (fun _ => true) (fun v => match v with | .int t => .int ((T t.toNat).length : Int) | v => v) (iw_list (xs := nV rg) (.inl pr3)) (.inl pr3) (szm (Nat.le_trans (p8 _ _ er).2 (by decide))) ?_ ?_
  · intro x hx
    obtain ⟨t, ht, rfl⟩ := List.mem_map.mp hx
    have ht8 := (p8 _ _ er).1 t ht
    repeat (walk_at "w")
    refine ⟨rfl, rfl, rfl, fun _ => ?_⟩
    repeat (walk_at "w")
    refine get8 (f := fun t => V.ref (2 + t)) (.inl F.tx) ht8 ?_
    exact lenN (F.tt t ht8) (Nat.le_trans (hT.le t) (by decide)) ⟨rfl, rfl⟩
  rw [List.filter_eq_self.mpr (fun _ _ => rfl), List.map_map]
  refine sum_l (ns := rg.map fun t => ((T t).length : Int)) (.inl (by rw [List.map_map]; exact gn)) ?_
  rw [sum_cast8]
  repeat (walk_at "w")
  refine we_comp ⟨by decide, by decide, by rfl, by dsimp only; decide⟩ ?_
  repeat (walk_at "w")
  refine comp_pure (fun _ => true) (fun v => match v with | .int t => .int ((T t.toNat).length : Int) | v => v) (iw_list (xs := nV lf) (.inl (gl pl3))) (.inl (gl pl3)) (szm (Nat.le_trans (p8 _ _ el).2 (by decide))) ?_ ?_
  · intro x hx
    obtain ⟨t, ht, rfl⟩ := List.mem_map.mp hx
    have ht8 := (p8 _ _ el).1 t ht
    repeat (walk_at "w")
    refine ⟨rfl, rfl, rfl, fun _ => ?_⟩
    repeat (walk_at "w")
    refine get8 (f := fun t => V.ref (2 + t)) (.inl (gl F.tx)) ht8 ?_
    exact lenN (gl (F.tt t ht8)) (Nat.le_trans (hT.le t) (by decide)) ⟨rfl, rfl⟩
  rw [List.filter_eq_self.mpr (fun _ _ => rfl), List.map_map]
  refine sum_l (ns := lf.map fun t => ((T t).length : Int)) (.inl (by rw [List.map_map]; exact gn)) ?_
  rw [sum_cast8]
  repeat (walk_at "w")
  by_cases q : sum8 T rg < sum8 T lf
  · refine ksi_p (decide_eq_true (Int.ofNat_lt.mpr q)) ?_
    refine wd_seq ?_
    refine ws_swap (xs := ["sooner", "later"]) (fun x hx => ?_) ?_ (fun env he => by unfold swappedStores Env.blockKind Env.kindOf; rw [he]; rfl)
    · rcases List.mem_cons.mp hx with rfl | hx
      · exact .inl (by rfl)
      · rw [List.mem_singleton.mp hx]; exact .inl (by rfl)
    repeat (walk_at "w")
    refine ⟨l2s, ?_⟩
    refine unp_tup rfl ?_
    refine ⟨rfl, ?_⟩
    repeat (walk_at "w")
    exact turn2 (so := rg) (la := lf) (F.keep (KP.app.trans KP.app)) C.app.app (RL.keep (KP.app.trans KP.app)) (RP.keep (KP.app.trans KP.app)) S hkn hn hc hT d1 el er ⟨gl (gl pl3), pl4, pl5⟩ ⟨gl (gl pr3), pr4, pr5⟩ ⟨gl (gl pr3), pr4, pr5⟩ ⟨gl (gl pl3), pl4, pl5⟩ (fun t => by unfold ahead8; rw [if_pos q]) (.inl rfl) (.inr rfl) hQ
  · refine ksi_n (fun z => q (Int.ofNat_lt.mp (of_decide_eq_true z))) ?_
    repeat (walk_at "w")
    exact turn2 (so := lf) (la := rg) (F.keep (KP.app.trans KP.app)) C.app.app (RL.keep (KP.app.trans KP.app)) (RP.keep (KP.app.trans KP.app)) S hkn hn hc hT d1 el er ⟨gl (gl pl3), pl4, pl5⟩ ⟨gl (gl pr3), pr4, pr5⟩ ⟨gl (gl pl3), pl4, pl5⟩ ⟨gl (gl pr3), pr4, pr5⟩ (fun t => by unfold ahead8; rw [if_neg q]) (.inr rfl) (.inl rfl) hQ



noncomputable def cell8 (T : Nat → List Str) (c : Nat → Str) (a : Nat → Nat) (p t : Nat) : List Str := if a t = p then (T t).map (c t ++ ·) else []
noncomputable def due8 (T : Nat → List Str) (c : Nat → Str) (a : Nat → Nat) (i j : Nat) : List Str := ((List.range i).flatMap fun p => (List.range 8).flatMap (cell8 T c a p)) ++ (List.range j).flatMap (cell8 T c a i)
theorem due8_next (T : Nat → List Str) (c : Nat → Str) (a : Nat → Nat) (i j : Nat) : due8 T c a i (j + 1) = due8 T c a i j ++ cell8 T c a i j := by
  unfold due8; rw [List.range_succ (n := j), List.flatMap_append, List.append_assoc]; simp
theorem due8_row (T : Nat → List Str) (c : Nat → Str) (a : Nat → Nat) (i : Nat) : due8 T c a (i + 1) 0 = due8 T c a i 8 := by
  unfold due8; rw [List.range_succ (n := i), List.flatMap_append]; simp
theorem due8_all (T : Nat → List Str) (c : Nat → Str) (a : Nat → Nat) : due8 T c a 8 0 = out8 T c a 8 (List.range 8) := by
  unfold due8 out8 cell8; simp
theorem flatMap_len {α β : Type} {B : Nat} {f : α → List β} : ∀ {l : List α}, (∀ x ∈ l, (f x).length ≤ B) → (l.flatMap f).length ≤ l.length * B
  | [], _ => by simp
  | x :: l, h => by
    have h1 := h x (.head _)
    have h2 := flatMap_len (l := l) fun y hy => h y (.tail _ hy)
    rw [List.flatMap_cons, List.length_append, List.length_cons, Nat.succ_mul]
    omega
theorem cell8_len {T : Nat → List Str} {c : Nat → Str} {a : Nat → Nat} (hT : TxOk T 63) (p t : Nat) : (cell8 T c a p t).length ≤ 64 := by
  unfold cell8
  split
  · rw [List.length_map]; exact hT.le t
  · exact Nat.zero_le _
theorem due8_len {T : Nat → List Str} {c : Nat → Str} {a : Nat → Nat} (hT : TxOk T 63) {i j : Nat} (hi : i ≤ 8) (hj : j ≤ 8) : (due8 T c a i j).length ≤ 5000 := by
  have h1 : ((List.range i).flatMap fun p => (List.range 8).flatMap (cell8 T c a p)).length ≤ i * 512 := by
    have := flatMap_len (B := 512) (l := List.range i) (f := fun p => (List.range 8).flatMap (cell8 T c a p)) fun p _ => by
      have := flatMap_len (B := 64) (l := List.range 8) (f := cell8 T c a p) fun t _ => cell8_len hT p t
      simpa using this
    simpa using this
  have h2 : ((List.range j).flatMap (cell8 T c a i)).length ≤ j * 64 := by
    have := flatMap_len (B := 64) (l := List.range j) (f := cell8 T c a i) fun t _ => cell8_len hT i t
    simpa using this
  unfold due8
  rw [List.length_append]
  omega
noncomputable abbrev nmd (l p : Nat) (D : Int) (tv xv prv kv lv rv sv av ov dv pv : Option V) : Names := nm8 tv (some (.ref 10)) (some (.ref 11)) xv (some (.ref l)) (some (.ref p)) (some (.ref 30)) (some (.ref 31)) (some (.int D)) (some (.ref 32)) prv kv lv rv sv av ov dv pv
theorem end_ok {w : World} {d : Nat} {ns : List Int} {ps : Array Value} {T : Nat → List Str} {m : Names} {H : List O} {Q : V → List O → Prop} (hT : TxOk T 63) (I : Inv8 ns ps T 1 m H) (hQ : ∀ H' : List O, H'[1]? = some (.arr (ns.map V.int)) → Q (.bool true) H') : WBU pP w (KK w.params) (fi8 w) (d + 3) (fun _ _ _ => False) m H ((fBody (stAt 9)).drop 10) (KFn Q) := by
  have hz : sizeLine = 2 ^ 24 := rfl
  obtain ⟨c, a, Ps, Ls, l, p, rl, rp, D, tv, xv, prv, kv, lv, rv, sv, av, ov, rfl, hD, F, C, RL, RP, S, hc⟩ := I
  refine wu_quiet ?_
  repeat (walk_at "w")
  refine ⟨Nat.zero_le _, ?_⟩
  repeat (walk_at "w")
  refine wu_seq ?_
  refine wu_for ?_
  repeat (walk_at "w")
  refine ⟨_, _, iw_range0 (n := 8) (by decide), fun i m' H' => ∃ tv dd pv G, m' = nmd l p D tv xv prv kv lv rv sv av ov (some (.ref dd)) pv ∧ H' = H ++ G ∧ (H ++ G)[dd]? = some (.list (sV (due8 T c a i 0))), ⟨tv, H.length, none, _, rfl, rfl, gn⟩, fun _ _ _ _ => trivial, ?_, ?_⟩
  · rintro i x m' H' hx ⟨tv, dd, pv, G, rfl, rfl, hd⟩
    obtain ⟨hi, rfl⟩ := rng_at hx
    walk_at "w"
    refine wu_seq ?_
    refine wu_for ?_
    repeat (walk_at "w")
    refine ⟨_, _, iw_range0 (n := 8) (by decide), fun j m' H' => ∃ tv dd G, m' = nmd l p D tv xv prv kv lv rv sv av ov (some (.ref dd)) (some (.int (i : Nat))) ∧ H' = H ++ G ∧ (H ++ G)[dd]? = some (.list (sV (due8 T c a i j))), ⟨tv, dd, G, rfl, rfl, hd⟩, fun _ _ _ _ => trivial, ?_, ?_⟩
    · rintro j x m' H' hx ⟨tv, dd, G, rfl, rfl, hd⟩
      obtain ⟨hj, rfl⟩ := rng_at hx
      walk_at "w"
      refine wbU ?_
      repeat (walk_at "w")
      refine get8 (f := fun t => V.int (a t : Nat)) (.inl (gl C.ah)) hj ?_
      repeat (walk_at "w")
      by_cases q : a j = i
      · refine ksi_p (beq_iff_eq.mpr (congrArg Nat.cast q)) ?_
        repeat (walk_at "w")
        refine we_comp ⟨by decide, by decide, by rfl, by dsimp only; decide⟩ ?_
        repeat (walk_at "w")
        refine get8 (f := fun t => V.ref (2 + t)) (.inl (gl F.tx)) hj ?_
        refine comp_pure (fun _ => true) (fun v => match v with | .str r => .str (c j ++ r) | v => v) (iw_list (xs := sV (T j)) (.inl (gl (F.tt j hj)))) (.inl (gl (F.tt j hj))) (szm (Nat.le_trans (hT.le j) (by decide))) ?_ ?_
        · intro x hx
          obtain ⟨r, hr, rfl⟩ := List.mem_map.mp hx
          repeat (walk_at "w")
          refine ⟨rfl, rfl, rfl, fun _ => ?_⟩
          repeat (walk_at "w")
          refine get8 (f := fun t => V.str (c t)) (.inl (gl C.co)) hj ?_
          repeat (walk_at "w")
          exact add_ss (Nat.le_trans (Nat.add_le_add (hc j) (hT.row j r hr)) (by decide)) ⟨rfl, rfl⟩
        rw [List.filter_eq_self.mpr (fun _ _ => rfl), List.map_map]
        have e2 : List.map ((fun v => match v with | V.str r => V.str (c j ++ r) | v => v) ∘ V.str) (T j) = sV (cell8 T c a i j) := by
          unfold cell8; rw [if_pos q]; show _ = List.map V.str (List.map (fun x => c j ++ x) (T j)); rw [List.map_map]; rfl
        refine addN (xs := sV (due8 T c a i j)) (ys := sV (cell8 T c a i j)) (gl hd) (by rw [← e2]; exact gn) (szm1 (Nat.le_trans (due8_len hT (Nat.le_of_lt hi) (Nat.le_of_lt hj)) (by decide))) (szm1 (Nat.le_trans (cell8_len hT i j) (by decide))) ?_
        repeat (walk_at "w")
        refine ⟨_, _, _, rfl, by rw [List.append_assoc, List.append_assoc], ?_⟩
        rw [due8_next, ← List.append_assoc, ← List.append_assoc, show sV (due8 T c a i j ++ cell8 T c a i j) = sV (due8 T c a i j) ++ sV (cell8 T c a i j) from List.map_append]
        exact gn
      · refine ksi_n (fun z => q (Int.ofNat_inj.mp (beq_iff_eq.mp z))) ?_
        repeat (walk_at "w")
        refine ⟨_, dd, G, rfl, rfl, ?_⟩
        rw [due8_next, show cell8 T c a i j = [] from if_neg q, List.append_nil]
        exact hd
    · rintro m' H' ⟨tv, dd, G, rfl, rfl, hd⟩
      rw [List.length_map, List.length_range] at hd
      refine wu_nil ?_
      refine ⟨_, dd, _, G, rfl, rfl, ?_⟩
      rw [due8_row]
      exact hd
  · rintro m' H' ⟨tv, dd, pv, G, rfl, rfl, hd⟩
    rw [List.length_map, List.length_range] at hd
    refine wu_quiet ?_
    repeat (walk_at "w")
    refine ⟨l1s, ?_⟩
    obtain ⟨P, L, eP, eL⟩ : ∃ P L, Ps = [P] ∧ Ls = [L] := by
      have h1 := S.n1
      have h2 := S.n2
      obtain ⟨P, rfl⟩ := List.length_eq_one_iff.mp h1
      obtain ⟨L, rfl⟩ := List.length_eq_one_iff.mp h2
      exact ⟨P, L, rfl, rfl⟩
    subst eP eL
    have eP : P = List.range 8 := by have := S.fl; simpa using this
    have g := S.gd 0 P L rfl rfl
    have eL : L = due8 T c a 8 0 := by rw [due8_all, g.eq, eP, List.length_range]
    obtain ⟨r0, x1, x2, x3, x4, x5⟩ := RL.get (k := 0) (X := L) rfl
    have erl : rl = [r0] := by
      have := RL.ln
      obtain ⟨r, rfl⟩ := List.length_eq_one_iff.mp this
      cases x2; rfl
    subst erl
    refine eq_of_eqv (k := 2) (by decide) (eqv_listP (k := 1) (e := fun _ _ => true) (xs := [V.ref r0]) (ys := [V.ref dd]) (gl (gl RL.at')) gn fun j x y hx hy => ?_) ?_
    · match j, hx, hy with
      | 0, hx, hy =>
        cases hx; cases hy
        have := eqv_strs (w := w) (KF := KK w.params) (xs := L) (ys := due8 T c a 8 0) (H := H ++ G ++ [O.list [V.ref dd]]) (gl (gl x3)) (gl hd)
        rw [decide_eq_true eL] at this
        exact this
      | j + 1, hx, _ => simp at hx
    · repeat (walk_at "w")
      exact hQ _ (gl (gl F.s1))


theorem law_ok {w : World} {E : HEP} {d : Nat} {ns : List Int} {ps : Array Value} {Q : V → List O → Prop} (hn : ns.length ≤ 63) (hQ : ∀ H' : List O, H'[1]? = some (.arr (ns.map V.int)) → Q (.bool true) H') : CallU pP w (KK w.params) (d + 4) E [.arr (ns.map V.int), .arr (ns.map V.int)] (.st 322) [.ref 0] Q := by
  refine wu_fn (fn_law w) (by rfl) (by rfl) ?_
  have e : initN (fScope (stAt 9)) ["script"] [.ref 0] = [nv "script" (.ref 0), nn "t", nn "texts", nn "heads", nn "x", nn "lists", nn "parts", nn "codes", nn "ahead", nn "draw", nn "differ", nn "pairs", nn "k", nn "left", nn "right", nn "sooner", nn "later", nn "told", nn "due", nn "place"] := by rfl
  rw [e]
  have hz : sizeLine = 2 ^ 24 := rfl
  refine wu_quiet ?_
  refine wd_assignE ?_ (swaps_cell (by rfl))
  refine we_comp ⟨by decide, by decide, by rfl, by dsimp only; decide⟩ ?_
  repeat (walk_at "w")
  refine ⟨_, _, iw_range0 (n := 8) (by decide), by rw [List.length_map, List.length_range]; decide, fun i ys H' => H' = [.arr (ns.map V.int), .arr (ns.map V.int)] ++ H1 (fun t => [dig t]) i ∧ ys = (List.range i).map fun t => .ref (2 + t), ⟨rfl, rfl⟩, ?_, ?_, ?_⟩
  · rintro i ys H' ⟨rfl, rfl⟩
    exact ⟨trivial, by rw [List.length_map, List.length_range]; exact Nat.le_refl _⟩
  · rintro i x ys H' hx ⟨rfl, rfl⟩
    obtain ⟨hi, rfl⟩ := rng_at hx
    repeat (walk_at "w")
    refine wts_e ?_
    repeat (walk_at "w")
    refine str_i (i := (i : Int)) (small_log (Nat.lt_trans hi (by decide))) ?_
    repeat (walk_at "w")
    refine ⟨l1s, ?_⟩
    show _ = _ ∧ _ = _
    rw [H1_succ, List.append_assoc, List.range_succ, List.map_append]
    refine ⟨rfl, ?_⟩
    rw [List.length_append, H1_len, Nat.add_comm]; exact congrArg (fun n => _ ++ [V.ref n]) (Nat.add_comm _ _)
  · rintro ys H' ⟨rfl, rfl⟩
    rw [List.length_map, List.length_range]
    repeat (walk_at "w")
    refine wu_quiet ?_
    repeat (walk_at "w")
    refine ⟨by show 6 ≤ sizeLine; decide, ?_⟩
    repeat (walk_at "w")
    refine wu_seq ?_
    refine wu_for ?_
    repeat (walk_at "w")
    refine ⟨_, _, iw_list (.inr rfl), fun i m' H' => ∃ T xv, m' = nm8a xv ∧ H' = [.arr (ns.map V.int), .arr (ns.map V.int)] ++ H1 T 8 ++ [refs8, heads8] ∧ TxOk T i, ⟨fun t => if t < 8 then [dig t] else [dig 0], none, rfl, rfl, ?_, ?_, ?_⟩, ?_, ?_, ?_⟩
    · intro t; split <;> exact List.cons_ne_nil _ _
    · intro t; split <;> exact Nat.le_refl _
    · intro t x hx
      split at hx
      · rename_i h; rw [List.mem_singleton.mp hx]; exact Nat.le_trans (dig_len (Nat.lt_trans h (by decide))) (by decide)
      · rw [List.mem_singleton.mp hx]; decide
    · rintro i m' H' ⟨T, xv, rfl, rfl, hT⟩
      exact .inr rfl
    · rintro i x m' H' hx ⟨T, xv, rfl, rfl, hT⟩
      rw [List.getElem?_map] at hx
      obtain ⟨n, hn', rfl⟩ := Option.map_eq_some_iff.mp hx
      have hi : i < ns.length := (List.getElem?_eq_some_iff.mp hn').1
      have a1 := Int.fmod_nonneg_of_pos n (b := 8) (by decide)
      have a2 := Int.fmod_lt_of_pos n (b := 8) (by decide)
      have b1 := Int.fmod_nonneg_of_pos (n.fdiv 8) (b := 6) (by decide)
      have b2 := Int.fmod_lt_of_pos (n.fdiv 8) (b := 6) (by decide)
      have c1 := Int.fmod_nonneg_of_pos (n.fdiv 48) (b := 10) (by decide)
      have c2 := Int.fmod_lt_of_pos (n.fdiv 48) (b := 10) (by decide)
      obtain ⟨t, ht⟩ := Int.eq_ofNat_of_zero_le a1
      have ht8 : t < 8 := Int.ofNat_lt.mp (ht ▸ a2)
      obtain ⟨q, hq⟩ := Int.eq_ofNat_of_zero_le b1
      have hq6 : q < 6 := Int.ofNat_lt.mp (hq ▸ b2)
      obtain ⟨hd, hd2, hdg⟩ := head_at hq6
      obtain ⟨r, hr⟩ := Int.eq_ofNat_of_zero_le c1
      walk_at "w"
      refine wbU ?_
      repeat (walk_at "w")
      rw [ht]
      refine get8 (l := 10) (f := fun t => V.ref (2 + t)) (.inl rfl) ht8 ?_
      refine ⟨_, meth_append (tx_get ht8), trivial, ?_⟩
      repeat (walk_at "w")
      rw [hq]
      refine get_li (l := 11) (xs := (["- ", "+ ", "  ", "? ", "", "\n"] : List Str).map V.str) (.inl rfl) i0 (i62 (Nat.le_trans (Nat.le_of_lt hq6) (by decide))) (x := .str hd) hdg ?_
      repeat (walk_at "w")
      rw [hr]
      have hr10 : r < 10 := Int.ofNat_lt.mp (hr ▸ c2)
      refine str_i (small_log (Nat.lt_trans hr10 (by decide))) ?_
      repeat (walk_at "w")
      have l1 : (Str.ofString (toString ((r : Nat) : Int))).length ≤ 2 := dig_len hr10
      refine add_ss (Nat.le_trans (Nat.add_le_add hd2 l1) (by decide)) ?_
      repeat (walk_at "w")
      have l2 := hT.le t
      have li : (T t).length ≤ 64 := Nat.le_trans l2 (Nat.le_trans (Nat.succ_le_of_lt hi) (Nat.le_trans hn (by decide)))
      refine app_l (tx_get ht8) (szm (Nat.le_trans li (by decide))) ?_
      repeat (walk_at "w")
      refine ⟨fun j => if j = t then T t ++ [hd ++ Str.ofString (toString ((r : Nat) : Int))] else T j, some (.int n), rfl, ?_, ?_, ?_, ?_⟩
      · have := tx_set (T := T) (T' := fun j => if j = t then T t ++ [hd ++ Str.ofString (toString ((r : Nat) : Int))] else T j) (a := .arr (ns.map V.int)) (b := .arr (ns.map V.int)) (post := [refs8, heads8]) ht8 (fun j hj => if_neg hj)
        rw [← this, if_pos rfl, List.map_append]
        rfl
      · intro j
        split
        · exact fun q => absurd (List.append_eq_nil_iff.mp q).2 (List.cons_ne_nil _ _)
        · exact hT.ne j
      · intro j
        split
        · rw [List.length_append, List.length_singleton]; exact Nat.succ_le_succ (hT.le t)
        · exact Nat.le_succ_of_le (hT.le j)
      · intro j y hy
        split at hy
        · rcases List.mem_append.mp hy with hy | hy
          · exact hT.row t y hy
          · rw [List.mem_singleton.mp hy, strLen_append]; exact Nat.add_le_add hd2 l1
        · exact hT.row j y hy
    · rintro m' H' ⟨T, xv, rfl, rfl, hT⟩
      rw [List.length_map] at hT
      have hT : TxOk T 63 := ⟨hT.ne, fun t => Nat.le_trans (hT.le t) (Nat.succ_le_succ hn), hT.row⟩
      have f1 : ([O.arr (ns.map V.int), O.arr (ns.map V.int)] ++ H1 T 8 ++ [refs8, heads8])[1]? = some (.arr (ns.map V.int)) := rfl
      have f2 : ([O.arr (ns.map V.int), O.arr (ns.map V.int)] ++ H1 T 8 ++ [refs8, heads8])[10]? = some refs8 := rfl
      have f3 : ∀ t, t < 8 → ([O.arr (ns.map V.int), O.arr (ns.map V.int)] ++ H1 T 8 ++ [refs8, heads8])[2 + t]? = some (.list (sV (T t))) := fun t ht => tx_get ht
      have f4 : ([O.arr (ns.map V.int), O.arr (ns.map V.int)] ++ H1 T 8 ++ [refs8, heads8])[0]? = some (.arr (ns.map V.int)) := rfl
      have f5 : ([O.arr (ns.map V.int), O.arr (ns.map V.int)] ++ H1 T 8 ++ [refs8, heads8]).length = 12 := rfl
      generalize ([O.arr (ns.map V.int), O.arr (ns.map V.int)] ++ H1 T 8 ++ [refs8, heads8]) = HB at *
      refine wu_quiet ?_
      refine ws_comp ⟨by decide, by decide, by rfl, by dsimp only; decide⟩ (.inl (by rfl)) ?_ (fun env he => by unfold swapsWith Env.blockKind Env.kindOf; rw [he]; rfl)
      repeat (walk_at "w")
      refine ⟨_, _, iw_list (.inl f2), by rw [List.length_map, List.length_range]; decide, fun i ys H' => H' = HB ++ H1 T i ∧ ys = (List.range i).map fun t => .ref (12 + t), ⟨(List.append_nil _).symm, rfl⟩, ?_, ?_, ?_⟩
      · rintro i ys H' ⟨rfl, rfl⟩
        exact ⟨.inl (gl f2), by rw [List.length_map, List.length_range]; exact Nat.le_refl _⟩
      · rintro i x ys H' hx ⟨rfl, rfl⟩
        have hi : i < 8 := by have := (List.getElem?_eq_some_iff.mp hx).1; rwa [List.length_map, List.length_range] at this
        rw [refs_get hi] at hx
        cases hx
        repeat (walk_at "w")
        refine wts_e ?_
        repeat (walk_at "w")
        refine list_l (.inl (gl (f3 i hi))) (szm (Nat.le_trans (hT.le i) (by decide))) ?_
        show _ = _ ∧ _ = _
        rw [H1_succ, List.append_assoc, List.range_succ, List.map_append]
        refine ⟨rfl, ?_⟩
        rw [List.length_append, f5, H1_len]; rfl
      · rintro ys H' ⟨rfl, rfl⟩
        rw [List.length_map, List.length_range]
        refine wu_quiet ?_
        refine ws_comp ⟨by decide, by decide, by rfl, by dsimp only; decide⟩ (.inl (by rfl)) ?_ (fun env he => by unfold swapsWith Env.blockKind Env.kindOf; rw [he]; rfl)
        repeat (walk_at "w")
        refine ⟨_, _, iw_range0 (n := 8) (by decide), by rw [List.length_map, List.length_range]; decide, fun i ys H' => H' = HB ++ H1 T 8 ++ [.list ((List.range 8).map fun t => .ref (12 + t))] ++ (List.range i).map (fun t => O.list (nV [t])) ∧ ys = (List.range i).map fun t => .ref (21 + t), ⟨(List.append_nil _).symm, rfl⟩, ?_, ?_, ?_⟩
        · rintro i ys H' ⟨rfl, rfl⟩
          exact ⟨trivial, by rw [List.length_map, List.length_range]; exact Nat.le_refl _⟩
        · rintro i x ys H' hx ⟨rfl, rfl⟩
          obtain ⟨hi, rfl⟩ := rng_at hx
          repeat (walk_at "w")
          refine wts_e ?_
          repeat (walk_at "w")
          refine ⟨l1s, ?_⟩
          show _ = _ ∧ _ = _
          rw [List.append_assoc _ (List.map _ _), List.range_succ (n := i), List.map_append (l₁ := List.range i), List.map_append (l₁ := List.range i)]
          refine ⟨rfl, ?_⟩
          rw [List.length_append, List.length_append, List.length_append, f5, H1_len, List.length_map, List.length_range]; rfl
        · rintro ys H' ⟨rfl, rfl⟩
          rw [List.length_map, List.length_range]
          obtain ⟨HC, hC⟩ : ∃ HC, HC = HB ++ H1 T 8 ++ [O.list ((List.range 8).map fun t => V.ref (12 + t))] ++ (List.range 8).map (fun t => O.list (nV [t])) := ⟨_, rfl⟩
          rw [← hC]
          have l1 : HC.length = 29 := by rw [hC, List.length_append, List.length_append, List.length_append, f5, H1_len]; rfl
          have g20 : HC[20]? = some (.list ((List.range 8).map fun t => V.ref (12 + t))) := by
            rw [hC]
            refine gl ?_
            rw [show 20 = (HB ++ H1 T 8).length by rw [List.length_append, f5, H1_len]]
            exact gn
          have gB : ∀ {i o}, HB[i]? = some o → HC[i]? = some o := fun h => by rw [hC]; exact gl (gl (gl h))
          have g12 : ∀ t, t < 8 → HC[12 + t]? = some (.list (sV (T t))) := fun t ht => by
            rw [hC]
            refine gl (gl ?_)
            rw [List.getElem?_append_right (by rw [f5]; exact Nat.le_add_right ..), f5, Nat.add_sub_cancel_left]
            exact H1_get ht
          have g21 : ∀ t, t < 8 → HC[21 + t]? = some (.list (nV [t])) := fun t ht => by
            have l21 : (HB ++ H1 T 8 ++ [O.list ((List.range 8).map fun t => V.ref (12 + t))]).length = 21 := by rw [List.length_append, List.length_append, f5, H1_len]; rfl
            rw [hC, List.getElem?_append_right (by rw [l21]; exact Nat.le_add_right ..), l21, Nat.add_sub_cancel_left, List.getElem?_map, List.getElem?_range ht]
            rfl
          have b1 := gB f1
          have b2 := gB f2
          have b3 := fun t (ht : t < 8) => gB (f3 t ht)
          have b4 := gB f4
          clear hC gB f1 f2 f3 f4
          refine wu_quiet ?_
          refine wd_assignE ?_ (swaps_cell (by rfl))
          refine we_comp ⟨by decide, by decide, by rfl, by dsimp only; decide⟩ ?_
          repeat (walk_at "w")
          refine comp_pure (fun _ => true) (fun _ => .str "") (iw_range0 (n := 8) (by decide)) trivial (szm (by rw [List.length_range]; decide)) ?_ ?_
          · intro x hx
            obtain ⟨t, ht, rfl⟩ := List.mem_map.mp hx
            repeat (walk_at "w")
            refine ⟨rfl, rfl, rfl, fun _ => ?_⟩
            repeat (walk_at "w")
            exact ⟨rfl, rfl⟩
          rw [List.filter_eq_self.mpr (fun _ _ => rfl), List.map_map]
          repeat (walk_at "w")
          refine wu_quiet ?_
          refine ws_comp ⟨by decide, by decide, by rfl, by dsimp only; decide⟩ (.inl (by rfl)) ?_ (fun env he => by unfold swapsWith Env.blockKind Env.kindOf; rw [he]; rfl)
          repeat (walk_at "w")
          refine comp_pure (fun _ => true) (fun _ => .int 0) (iw_range0 (n := 8) (by decide)) trivial (szm (by rw [List.length_range]; decide)) ?_ ?_
          · intro x hx
            obtain ⟨t, ht, rfl⟩ := List.mem_map.mp hx
            repeat (walk_at "w")
            refine ⟨rfl, rfl, rfl, fun _ => ?_⟩
            repeat (walk_at "w")
            exact ⟨rfl, rfl⟩
          rw [List.filter_eq_self.mpr (fun _ _ => rfl), List.map_map]
          refine wu_quiet ?_
          repeat (walk_at "w")
          refine sum_l (.inr (gl (gl (gl b4)))) ?_
          repeat (walk_at "w")
          refine abs_i ?_
          repeat (walk_at "w")
          refine wu_quiet ?_
          repeat (walk_at "w")
          refine differ_ok (d := d + 1) ?_
          repeat (walk_at "w")
          refine wu_seq ?_
          refine wu_for ?_
          repeat (walk_at "w")
          refine ⟨by show 7 ≤ sizeLine; decide, ?_⟩
          have hD : 0 ≤ (if ns.sum < 0 then -ns.sum else ns.sum) := by split <;> omega
          generalize (if ns.sum < 0 then -ns.sum else ns.sum) = D at *
          obtain ⟨HD, hHD⟩ : ∃ HD, HD = HC ++ [O.list ((List.range 8).map fun t => V.ref (21 + t))] ++ [lst8 fun _ => .str ""] ++ [lst8 fun _ => .int (0 : Nat)] ++ [O.inst 313 dFs] ++ [O.list (([7, 6, 5, 4, 3, 2, 1] : List Int).map V.int)] := ⟨_, rfl⟩
          have l29 : (HC ++ [O.list ((List.range 8).map fun t => V.ref (21 + t))]).length = 30 := by rw [List.length_append, l1]; rfl
          have l30 : (HC ++ [O.list ((List.range 8).map fun t => V.ref (21 + t))] ++ [lst8 fun _ => .str ""]).length = 31 := by rw [List.length_append, l29]; rfl
          have l31 : (HC ++ [O.list ((List.range 8).map fun t => V.ref (21 + t))] ++ [lst8 fun _ => .str ""] ++ [lst8 fun _ => .int (0 : Nat)]).length = 32 := by rw [List.length_append, l30]; rfl
          have l32 : (HC ++ [O.list ((List.range 8).map fun t => V.ref (21 + t))] ++ [lst8 fun _ => .str ""] ++ [lst8 fun _ => .int (0 : Nat)] ++ [O.inst 313 dFs]).length = 33 := by rw [List.length_append, l31]; rfl
          have gC : ∀ {i o}, HC[i]? = some o → HD[i]? = some o := fun h => by rw [hHD]; exact gl (gl (gl (gl (gl h))))
          have n29 : HD[29]? = some (O.list ((List.range 8).map fun t => V.ref (21 + t))) := by rw [hHD, ← l1]; exact gl (gl (gl (gl gn)))
          have n30 : HD[30]? = some (lst8 fun _ => .str "") := by rw [hHD, ← l29]; exact gl (gl (gl gn))
          have n31 : HD[31]? = some (lst8 fun _ => .int (0 : Nat)) := by rw [hHD, ← l30]; exact gl (gl gn)
          have n32 : HD[32]? = some (O.inst 313 dFs) := by rw [hHD, ← l31]; exact gl gn
          have n33 : HD[33]? = some (O.list (([7, 6, 5, 4, 3, 2, 1] : List Int).map V.int)) := by rw [hHD, ← l32]; exact gn
          have I0 : Inv8 ns ps T 8 (nm8 none (some (.ref 10)) (some (.ref 11)) xv (some (.ref 20)) (some (.ref 29)) (some (.ref 30)) (some (.ref 31)) (some (.int D)) (some (.ref 32)) none none none none none none none none none) HD := by
            refine ⟨fun _ => "", fun _ => 0, (List.range 8).map fun t => [t], (List.range 8).map T, 20, 29, (List.range 8).map (12 + ·), (List.range 8).map (21 + ·), D, none, xv, none, none, none, none, none, none, none, rfl, hD, ⟨gC b1, gC b2, fun t ht => gC (b3 t ht), n32, n33⟩, ⟨n30, n31⟩, ⟨by decide, by decide, by rw [List.map_map]; exact gC g20, by simp, fun k r X a b => ?_⟩, ⟨by decide, by decide, by rw [List.map_map]; exact n29, by simp, fun k r X a b => ?_⟩, ⟨by decide, by simp, by simp, fun k P L a b => ?_⟩, fun t => Nat.zero_le _⟩
            · have hk : k < 8 := by have := (List.getElem?_eq_some_iff.mp b).1; rwa [List.length_map, List.length_range] at this
              rw [List.getElem?_map, List.getElem?_range hk] at a b
              cases a; cases b
              exact ⟨gC (g12 k hk), Nat.ne_of_lt (Nat.lt_of_lt_of_le (Nat.add_lt_add_left hk 12) (by decide)), Nat.ne_of_lt (Nat.lt_of_lt_of_le (Nat.add_lt_add_left hk 12) (by decide))⟩
            · have hk : k < 8 := by have := (List.getElem?_eq_some_iff.mp b).1; rwa [List.length_map, List.length_range] at this
              rw [List.getElem?_map, List.getElem?_range hk] at a b
              cases a; cases b
              exact ⟨gC (g21 k hk), Nat.ne_of_lt (Nat.lt_of_lt_of_le (Nat.add_lt_add_left hk 21) (by decide)), Nat.ne_of_lt (Nat.lt_of_lt_of_le (Nat.add_lt_add_left hk 21) (by decide))⟩
            · have hk : k < 8 := by have := (List.getElem?_eq_some_iff.mp b).1; rwa [List.length_map, List.length_range] at this
              rw [List.getElem?_map, List.getElem?_range hk] at a b
              cases a; cases b
              refine ⟨fun t _ => Nat.zero_lt_succ _, List.cons_ne_nil _ _, ?_, rfl⟩
              show T k = ((if 0 = 0 then (T k).map (fun x => (⟨#[]⟩ : Str) ++ x) else []) ++ []) ++ []
              rw [if_pos rfl, List.append_nil, List.append_nil]
              have : (fun x : Str => (⟨#[]⟩ : Str) ++ x) = id := funext fun x => by
                obtain ⟨y⟩ := x
                show Str.mk (#[] ++ y) = _
                rw [Array.empty_append]; rfl
              rw [this, List.map_id]
          refine ⟨_, _, iw_list (xs := ([7, 6, 5, 4, 3, 2, 1] : List Int).map V.int) (.inl gn), fun i m' H' => Inv8 ns ps T (8 - i) m' H', by rw [hHD] at I0; simp only [List.length_append, List.length_singleton, H1_len, f5, l1]; exact I0, ?_, ?_, ?_⟩
          · rintro i m' H' ⟨_, _, _, _, _, _, _, _, _, _, _, _, _, _, _, _, _, _, _, _, F, _⟩
            have e : ∀ n, n = 33 → H'[n]? = some (O.list (([7, 6, 5, 4, 3, 2, 1] : List Int).map V.int)) := fun n h => h ▸ F.pr
            exact .inl (e _ (by simp only [List.length_append, List.length_singleton, l1]))
          · rintro i x m' H' hx I
            have hi : i < 7 := by have := (List.getElem?_eq_some_iff.mp hx).1; simpa using this
            have ex : x = .int ((7 - i : Nat) : Int) := by
              match i, hi with
              | 0, _ => cases hx; rfl
              | 1, _ => cases hx; rfl
              | 2, _ => cases hx; rfl
              | 3, _ => cases hx; rfl
              | 4, _ => cases hx; rfl
              | 5, _ => cases hx; rfl
              | 6, _ => cases hx; rfl
            subst ex
            refine wa_name (.inl (by rfl)) ?_
            rw [show 8 - i = (7 - i) + 1 by omega] at I
            exact turn1 hT (by omega) (by omega) I fun m' H' h => by
              show Inv8 ns ps T (8 - (i + 1)) m' H'
              rw [show 8 - (i + 1) = 7 - i by omega]; exact h
          · intro m' H' I
            exact end_ok hT I hQ
end
section
theorem ints_rel {ρ : List Ent} {h : Heap} : ∀ {vs : List Value} {ns : List Int}, IntsAre vs ns → VRs ρ h (ns.map V.int) vs
  | _, _, .nil => .nil
  | _, _, .cons n t r => .cons (by unfold VR; exact ⟨_, rfl⟩) (ints_rel r)
theorem kk_lookup {P : Params} {a : Nat} {o : Obj} (h : (KK P).lookup a = some o) : (K P).lookup a = some o := by
  have : ∀ l : List (Nat × Obj), (l.filter fun x => x.1 != 248).lookup a = some o → l.lookup a = some o := by
    intro l
    induction l with
    | nil => intro h; cases h
    | cons p l ih =>
      intro h
      obtain ⟨b, q⟩ := p
      rw [List.filter_cons] at h
      by_cases hb : b = 248
      · rw [if_neg (by simpa using hb)] at h
        have h1 := ih h
        rw [List.lookup_cons]
        cases e : (a == b) with
        | false => exact h1
        | true =>
          exfalso
          have ha : a = 248 := (by simpa using e : a = b).trans hb
          obtain ⟨l₁, l₂, hl, _⟩ := List.lookup_eq_some_iff.mp h
          have : (a, o) ∈ l.filter fun x => x.1 != 248 := by rw [hl]; simp
          have := (List.mem_filter.mp this).2
          rw [ha] at this
          simp at this
      · rw [if_pos (by simpa using hb), List.lookup_cons] at h
        rw [List.lookup_cons]
        cases e : (a == b) with
        | true => rw [e] at h; exact h
        | false => rw [e] at h; exact ih h
  exact this _ h
theorem law_main (w : World) (s : Shared) (l : Addr) (vs : List Value) (ns : List Int) (mg mb : Str → Option Value) (hg : s.gens = #[]) (X : Frag.In (K w.params) s.heap) (G : s.heap.Ns mainGlobals mg) (lim : s.heap.NoLimit) (hb : s.heap.Ns builtinsNs mb) (hbi : ∀ x : Str, x ≠ "__name__" → mb x = bootBuiltins x) (dig : ∃ mc, s.heap.Ns cStatics mc ∧ mc "sys.int_max_str_digits" = none)
    (hl : s.heap.IsList l vs.toArray) (hi : IntsAre vs ns) (hn : ns.length ≤ 63)
    {Q : Value → Shared → Prop} {E : Value → Shared → Prop} (hQ : ∀ s', OldK s.heap s'.heap → s'.os = s.os → AllBare s'.gens → Q (.bool true) s') : wpU (model pP w) callerA (call (.ref 322) [.ref l]) Q E s := by
  have S : HSim w (KK w.params) (fun b => s.heap.get? b) [⟨l, [], none⟩, ⟨l, [], none⟩] [.arr (ns.map V.int), .arr (ns.map V.int)] s.heap s.gens := by
    have ho : OR (fun b => s.heap.get? b) [⟨l, [], none⟩, ⟨l, [], none⟩] s.heap ⟨l, [], none⟩ (.arr (ns.map V.int)) := by
      obtain ⟨o, ho, r⟩ := id hl
      exact ⟨rfl, rfl, ⟨vs, hl, ints_rel hi⟩, by show (s.heap.get? l).isSome = true; rw [ho]; rfl⟩
    refine ⟨fun h' k => ?_, fun b o e => e, rfl, fun i e o hi' ho' => ?_, fun b hb' => ?_, ?_, fun b hb' => ?_, ?_, fun x hx => ?_, fun i e o hi' ho' => ?_⟩
    · exact ⟨fun a o e => k a o (X a o (kk_lookup e)), ⟨mg, G.keeps k⟩, lim.keeps k, ⟨mb, hb.keeps k, hbi⟩, let ⟨mc, a, b⟩ := dig; ⟨mc, a.keeps k, b⟩⟩
    · rcases i with _ | _ | i
      · cases hi'; cases ho'; exact ho
      · cases hi'; cases ho'; exact ho
      · simp at hi'
    · simp [fps] at hb'
    · simp [fps]
    · simp [fps] at hb'
    · simp
    · rw [hg] at hx; simp at hx
    · rcases i with _ | _ | i
      · cases hi'; cases ho'; trivial
      · cases hi'; cases ho'; trivial
      · simp at hi'
  have hA : Room callerA (0 + 4) := ⟨rfl, by decide +kernel, by decide +kernel⟩
  refine wpU_mono (law_ok (w := w) (E := fun _ _ => False) (d := 0) (ps := #[]) (Q := fun v _ => v = .bool true) hn (fun _ _ => rfl) callerA _ _ s (.ref 322) [.ref l] hA S (by unfold VR; rfl) (.cons (by unfold VR; exact ⟨_, rfl, rfl⟩) .nil)) (fun v s' ⟨ρ', H', b, st, T, rv, hb'⟩ => ?_) (fun _ _ ⟨_, _, _, _, _, x, _⟩ => x.elim)
  subst hb'
  unfold VR at rv
  subst rv
  exact hQ s' (OldK.of_keep fun b o e => T.keep b o e) st.2.2.1.1 T.bare
end
end Mine
end
theorem PySem.Challenge.cw_dm0045_08_holds : PySem.Challenge.rw_dm0045_08.Holds := by
  w_on; o_law
  refine Mine.holds_U (q := Mine.q) (loose := Mine.loose) (Xt := fun s => xlAt Mine.q [] s && recOk [] s) (XP := XL Mine.q []) (Yf := Hook.obs Mine.Hk) (Ya := Hook.val Mine.Hk) (YP := Hook.says Mine.Hk) (N := 6000) Mine.left (Hook.of Mine.Hk) (Hook.keeps Mine.Hk) (fun s e => xl_of s (Bool.and_eq_true_iff.mp e).1) XL.keeps (by rfl) (by rfl) (by rfl) (fun s e => recFacts_of (Bool.and_eq_true_iff.mp e).2) (by rfl) (by first | assumption | decide +kernel) (by decide +kernel) ⟨rfl, rfl, rfl, rfl, rfl, by decide +kernel⟩ ?hw ?hc
  case hw => w_witness2
  intro w s₀ s₁ mg mb G Y fa o pm cd doc dV kV ho hd hcd hD hmg hg args vals as hpre hlay hrd hwl hlo
  have KX := kIn_of Y
  clear ho hd hcd hD Y
  refine Ground.open G ?_
  intro T B D TE TW
  wrow_args hpre hlay hrd hwl hlo
  x_fa T KX hmg
  clear hmg
  rename_i ns _ _ _ _ _ _ _ l vs _ hL _ _ _ hI _ hn _
  refine Mine.law_main w s₁ l vs ns mg mb hg KX T.g T.nolimit T.b T.builtins T.nodigits hL hI (by omega) ?_
  intro s' h1 h2 h3
  exact ⟨.inl ⟨_, _, [], rfl, fun _ => rfl, ReadsW.bool true, by wrow_post, fun _ => ⟨List.nodup_nil, fun _ hm => (nomatch hm)⟩⟩, h1, h2, h3⟩

