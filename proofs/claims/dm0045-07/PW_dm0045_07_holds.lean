import PyProof.Rows.All
import Wide.All
import OpenK.AllK
import PyProof.ExcStrAll.IndexError
import PyProof.ExcStrAll.AssertionError
import PyProof.ExcStrCall
import KE.KPop
import KE.KSortTup
import Wide.FinOn
import PySem.Challenge.RW_dm0045_07
open PySem PySem.W PyProof.Rows
set_option Elab.async false
set_option maxRecDepth 100000
set_option maxHeartbeats 0
set_option genInjectivity false
set_option genSizeOf false
set_option genSizeOfSpec false
namespace Mine
noncomputable abbrev pP : Program := PySem.Challenge.pw_dm0045_07
noncomputable abbrev rW : OpenLaw := PySem.Challenge.rw_dm0045_07
/-- Array.any over the whole array, by the list's recursor -/
noncomputable def anyF {α : Type} (as : Array α) (p : α → Bool) (i j : Nat) : Bool :=
  @Bool.rec (fun _ => Bool) (Array.any as p i j) (@Bool.rec (fun _ => Bool) (Array.any as p i j) (PySem.W.R.anyR as.toList p) (Nat.beq j as.size)) (Nat.beq i 0)
theorem anyF_eq : @Array.any.{0} = @anyF := by
  funext α as p i j
  unfold anyF
  cases h1 : Nat.beq i 0 with
  | false => rfl
  | true =>
    have e1 := Nat.eq_of_beq_eq_true h1
    subst e1
    cases h2 : Nat.beq j as.size with
    | false => rfl
    | true =>
      have e2 := Nat.eq_of_beq_eq_true h2
      subst e2
      show as.any p = PySem.W.R.anyR as.toList p
      rw [← PySem.W.R.anyR_eq, Array.any_toList]
noncomputable def tnB : Builtin := by
  refine (?F : (PySem.W.Fast.tw4202317264376624991 = ?w) → Builtin) ?h
  case F => exact fun _ => ?w
  case h =>
    unfold PySem.W.Fast.tw4202317264376624991
    rw [anyF_eq]
theorem tnB_eq : PySem.W.Fast.tw4202317264376624991 = tnB := by
  unfold PySem.W.Fast.tw4202317264376624991
  rw [anyF_eq]
  rfl
noncomputable def myTable (id : String) : Option Builtin :=
  @Bool.rec (fun _ => Option Builtin) (treeTable id) (some tnB) (Nat.beq (PySem.code id) (PySem.code "type.__new__"))
theorem table_my : treeTable = myTable := by
  funext id
  unfold myTable
  cases h : Nat.beq (PySem.code id) (PySem.code "type.__new__") with
  | false => rfl
  | true =>
    have e := Nat.eq_of_beq_eq_true h
    show treeTable id = some tnB
    have e2 : treeTable id = treeTable "type.__new__" := by unfold treeTable; rw [e]
    rw [e2, ← tnB_eq, ← PySem.W.Fast.te4202317264376624991]
    kernel_rfl
noncomputable def runT (tb : String → Option Builtin) (p : Program) (w : World) (n₀ : Nat) (ann : Option Value) : Nat → SharedT → Thread → Option SharedT
  | 0, _, _ => none
  | n + 1, s, t => match through t with
    | true => some s
    | false => match stepOk n₀ ann t with
      | false => none
      | true => match stepT (denote tb) p w s t with
        | some (s', t') => runT tb p w n₀ ann n s' t'
        | none => none
theorem runT_of {tb : String → Option Builtin} {p : Program} {w : World} {n₀ : Nat} {ann : Option Value} : ∀ (n : Nat) (s : SharedT) (t : Thread) (r : SharedT), runT tb p w n₀ ann n s t = some r → topRun tb p w n₀ ann n s.abs t = some r.abs
  | 0, _, _, _, h => by cases h
  | n + 1, s, t, r, h => by
    unfold runT at h
    unfold topRun
    cases ht : through t with
    | true => rw [ht] at h; cases h; rfl
    | false =>
      rw [ht] at h
      cases hk : stepOk n₀ ann t with
      | false => rw [hk] at h; cases h
      | true =>
        rw [hk] at h
        cases hs : stepT (denote tb) p w s t with
        | none => rw [hs] at h; cases h
        | some x =>
          obtain ⟨s', t'⟩ := x
          rw [hs] at h
          dsimp only at h ⊢
          rw [stepT_spec hs]
          exact runT_of n s' t' r h
noncomputable def bootT (P : Params) : BT :=
  let n := fun (o : Params → Obj) l r => BT.node (o P) l r
  n boot_o_0 (n boot_o_1 (n boot_o_3 (n boot_o_7 .nil .nil) .nil) (n boot_o_5 (n boot_o_9 .nil .nil) .nil)) (n boot_o_2 (n boot_o_4 (n boot_o_8 .nil .nil) .nil) (n boot_o_6 (n boot_o_10 .nil .nil) .nil))
theorem boot_abs (P : Params) : absHeap (bootT P) 11 (boot_heap P).life = boot_heap P := by kernel_rfl
noncomputable def looks1 (p : Program) (w : World) (s₁ : Shared) : Bool := (staticsOk [] (boot_heap w.params) s₁.heap && namesBound p s₁.heap && gensDone s₁ && laidKept (boot_heap w.params) s₁.heap)
noncomputable def getT (s : SharedT) (a : Nat) : Option Obj := match Nat.blt a s.n with
  | true => (match s.tree.get a with | some o => alive o | none => none)
  | false => none
theorem getT_of {s : SharedT} {a : Nat} {o : Obj} (h : getT s a = some o) : s.abs.heap.get? a = some o := by
  unfold getT at h
  cases hb : Nat.blt a s.n with
  | false => rw [hb] at h; cases h
  | true =>
    rw [hb] at h
    cases hg : s.tree.get a with
    | none => rw [hg] at h; cases h
    | some o' =>
      rw [hg] at h
      exact (abs_get (Nat.le_of_ble_eq_true hb) hg).trans h
theorem getT_all {s : SharedT} : ∀ {as : List Nat} {os : List Obj}, as.map (getT s) = os.map some → as.map s.abs.heap.get? = os.map some
  | [], [], _ => rfl
  | [], _ :: _, h => by cases h
  | _ :: _, [], h => by cases h
  | a :: as, o :: os, h => by
    simp only [List.map_cons, List.cons.injEq] at h ⊢
    exact ⟨getT_of h.1, getT_all h.2⟩
section
universe u
variable {β : Type u}
noncomputable def fN (n : Nat) (k : Nat → β) : β := @Nat.rec (fun _ => β) (k 0) (fun m _ => k (Nat.succ m)) n
theorem fN_eq (n : Nat) (k : Nat → β) : fN n k = k n := by cases n <;> rfl
noncomputable def fList {α : Type} (g : α → (α → β) → β) (l : List α) : (List α → β) → β :=
  @List.rec α (fun _ => (List α → β) → β) (fun k => k []) (fun a _ ih k => g a fun a' => ih fun t' => k (a' :: t')) l
theorem fList_eq {α : Type} {g : α → (α → β) → β} (hg : ∀ a k, g a k = k a) (l : List α) : ∀ k : List α → β, fList g l k = k l := by
  induction l with
  | nil => intro k; rfl
  | cons a t ih => intro k; show g a _ = _; rw [hg]; exact ih _
noncomputable def fArr {α : Type} (g : α → (α → β) → β) (x : Array α) (k : Array α → β) : β := fList g x.toList fun l => k (Array.mk l)
theorem fArr_eq {α : Type} {g : α → (α → β) → β} (hg : ∀ a k, g a k = k a) (x : Array α) (k : Array α → β) : fArr g x k = k x := fList_eq hg _ _
noncomputable def fE (e : DictEntry) (k : DictEntry → β) : β := k ⟨e.1, e.2, e.3⟩
noncomputable def fV (v : Value) (k : Value → β) : β := match v with
  | .none => k .none | .ellipsis => k .ellipsis | .notImplemented => k .notImplemented
  | .bool b => k (.bool b) | .int i t => fN t fun t => k (.int i t) | .float b t => fN t fun t => k (.float b t) | .str s t => fN t fun t => k (.str s t) | .bytes b t => fN t fun t => k (.bytes b t)
  | .type n => k (.type n) | .builtin i => k (.builtin i) | .ref a => fN a fun a => k (.ref a)
theorem fV_eq (v : Value) (k : Value → β) : fV v k = k v := by cases v <;> simp only [fV, fN_eq]
noncomputable def fEV (e : DictEntry) (k : DictEntry → β) : β := fV e.2 fun a => fV e.3 fun b => k ⟨e.1, a, b⟩
theorem fEV_eq (e : DictEntry) (k : DictEntry → β) : fEV e k = k e := by unfold fEV; rw [fV_eq, fV_eq]
noncomputable def fD (d : Data) (k : Data → β) : β := match d with
  | .plain => k .plain
  | .prim v => k (.prim v)
  | .seq xs n => fArr fV xs fun xs => fN n fun n => k (.seq xs n)
  | .dict es n => fArr fEV es fun es => fN n fun n => k (.dict es n)
  | .set a b c => k (.set a b c)
  | .bytearray a b => k (.bytearray a b)
  | .cell v => k (.cell v)
  | .func f => k (.func f)
  | .cls c => fList fV c.bases fun bs => fList fV c.mro fun mro => fList fV c.subclasses fun sub => k (.cls ⟨c.name, bs, mro, c.ns, c.qualname, c.hasDict, c.slotNames, sub, c.abstract, c.collection, c.hasDel⟩)
  | .fields vs => fArr fV vs fun vs => k (.fields vs)
  | .freed => k .freed
theorem fD_eq (d : Data) (k : Data → β) : fD d k = k d := by
  cases d <;> simp only [fD, fArr_eq fV_eq, fArr_eq fEV_eq, fList_eq fV_eq, fN_eq]
noncomputable def fO (o : Obj) (k : Obj → β) : β := fD o.data fun d => fArr (fun x k => match x with | none => k none | some v => fV v fun v => k (some v)) o.slots fun sl => k ⟨o.cls, o.dict, d, sl⟩
theorem fO_eq (o : Obj) (k : Obj → β) : fO o k = k o := by
  unfold fO
  rw [fD_eq, fArr_eq]
  intro a k
  cases a with
  | none => rfl
  | some v => exact fV_eq _ _
noncomputable def fT (t : BT) : (BT → β) → β :=
  @BT.rec (fun _ => (BT → β) → β) (fun k => k .nil) (fun v _ _ l r k => fO v fun v => l fun l => r fun r => k (.node v l r)) t
theorem fT_eq (t : BT) : ∀ k : BT → β, fT t k = k t := by
  induction t with
  | nil => intro k; rfl
  | node v l r ihl ihr => intro k; show fO v (fun v => fT l fun l => fT r fun r => k (.node v l r)) = _; rw [fO_eq, ihl, ihr]
noncomputable def fS (s : SharedT) (k : SharedT → β) : β := fT s.1 fun t => fN s.2 fun n => fN s.6 fun tk => k ⟨t, n, s.3, s.4, s.5, tk, s.7⟩
theorem fS_eq (s : SharedT) (k : SharedT → β) : fS s k = k s := by unfold fS; rw [fT_eq, fN_eq, fN_eq]
end
/-- c steps of the machine, or fewer if the thread is through -/
noncomputable def goT (tb : String → Option Builtin) (p : Program) (w : World) (n₀ : Nat) (ann : Option Value) : Nat → SharedT → Thread → Option (Bool × SharedT × Thread)
  | 0, s, t => some (false, s, t)
  | n + 1, s, t => match through t with
    | true => some (true, s, t)
    | false => match stepOk n₀ ann t with
      | false => none
      | true => match stepT (denote tb) p w s t with
        | some (s', t') => goT tb p w n₀ ann n s' t'
        | none => none
/-- legs of c steps, the heap written out behind each -/
noncomputable def legs (tb : String → Option Builtin) (p : Program) (w : World) (n₀ : Nat) (ann : Option Value) (c : Nat) : Nat → SharedT → Thread → Option SharedT
  | 0, _, _ => none
  | m + 1, s, t => match goT tb p w n₀ ann c s t with
    | none => none
    | some (b, s', t') => match b with
      | true => some s'
      | false => fS s' fun s' => legs tb p w n₀ ann c m s' t'
section
variable {tb : String → Option Builtin} {p : Program} {w : World} {n₀ : Nat} {ann : Option Value}
theorem goT_run : ∀ (n N : Nat) (s s' : SharedT) (t t' : Thread) (b : Bool) (r : SharedT), goT tb p w n₀ ann n s t = some (b, s', t') → (if b then r = s' else runT tb p w n₀ ann N s' t' = some r) → ∃ M, M ≤ n + N + 1 ∧ runT tb p w n₀ ann M s t = some r
  | 0, N, s, s', t, t', b, r, h, k => by
    cases h
    exact ⟨N, by omega, k⟩
  | n + 1, N, s, s', t, t', b, r, h, k => by
    unfold goT at h
    cases ht : through t with
    | true =>
      rw [ht] at h
      cases h
      exact ⟨1, by omega, by unfold runT; rw [ht]; exact congrArg some (Eq.symm k)⟩
    | false =>
      rw [ht] at h
      cases hk : stepOk n₀ ann t with
      | false => rw [hk] at h; cases h
      | true =>
        rw [hk] at h
        cases hs : stepT (denote tb) p w s t with
        | none => rw [hs] at h; cases h
        | some x =>
          obtain ⟨s₂, t₂⟩ := x
          rw [hs] at h
          obtain ⟨M, hM, hr⟩ := goT_run n N s₂ s' t₂ t' b r h k
          exact ⟨M + 1, by omega, by unfold runT; rw [ht, hk, hs]; exact hr⟩
theorem legs_run {c : Nat} : ∀ (m : Nat) (s : SharedT) (t : Thread) (r : SharedT), legs tb p w n₀ ann c m s t = some r → ∃ M, M ≤ m * (c + 1) ∧ runT tb p w n₀ ann M s t = some r
  | 0, _, _, _, h => by cases h
  | m + 1, s, t, r, h => by
    unfold legs at h
    cases hg : goT tb p w n₀ ann c s t with
    | none => rw [hg] at h; cases h
    | some x =>
      obtain ⟨b, s', t'⟩ := x
      rw [hg] at h
      cases b with
      | true =>
        cases h
        obtain ⟨M, hM, hr⟩ := goT_run c 0 s r t t' true r hg rfl
        exact ⟨M, by rw [Nat.succ_mul]; omega, hr⟩
      | false =>
        dsimp only at h
        rw [fS_eq] at h
        obtain ⟨M₁, hM₁, hr₁⟩ := legs_run m s' t' r h
        obtain ⟨M, hM, hr⟩ := goT_run c M₁ s s' t t' false r hg hr₁
        exact ⟨M, by rw [Nat.succ_mul]; omega, hr⟩
end
/-- the k-th statement of the text; the j-th of its body; its parts -/
noncomputable def stAt (k : Nat) : Stmt := (pP.main.body[k]?).getD (.Pass ⟨0, 0, 0, 0⟩)
noncomputable def fBody : Stmt → List Stmt | .FunctionDef _ _ b _ _ _ _ _ _ _ => b | .ClassDef _ _ _ b _ _ _ _ _ _ _ => b | _ => []
noncomputable def fScope : Stmt → Scope | .FunctionDef _ _ _ _ _ _ sc _ _ _ => sc | _ => default
noncomputable def fArgs : Stmt → Arguments | .FunctionDef _ a _ _ _ _ _ _ _ _ => a | _ => default
noncomputable def docS (st : Stmt) : Str := match fBody st with | .Expr (.Constant (.str d) _ _) _ :: _ => d | _ => Str.empty
noncomputable def stIn (k j : Nat) : Stmt := ((fBody (stAt k))[j]?).getD (.Pass ⟨0, 0, 0, 0⟩)

noncomputable def d5s : {cs : List Char // Str.ofString (String.ofList cs) = docS (stAt 5)} := ⟨_, by with_unfolding_all rfl⟩
noncomputable def d7s : {cs : List Char // Str.ofString (String.ofList cs) = docS (stAt 7)} := ⟨_, by with_unfolding_all rfl⟩
noncomputable def D5 : Str := ⟨⟨d5s.1.map Char.toNat⟩⟩
noncomputable def D7 : Str := ⟨⟨d7s.1.map Char.toNat⟩⟩
theorem D5_eq : D5 = docS (stAt 5) := (PySem.W.Fast.ofString_ofList d5s.1).symm.trans d5s.2
theorem D7_eq : D7 = docS (stAt 7) := (PySem.W.Fast.ofString_ofList d7s.1).symm.trans d7s.2
/-- a class statement's first text put in the place of the one there -/
noncomputable def setD (d : Str) : Stmt → Stmt
  | .ClassDef a b c (.Expr (.Constant (.str _) k p) q :: r) e f g h i j l => .ClassDef a b c (.Expr (.Constant (.str d) k p) q :: r) e f g h i j l
  | s => s
noncomputable def setDoc (n : Nat) (d : Str) (p : Program) : Program := { p with main := { p.main with body := p.main.body.modify n (setD d) } }
noncomputable def pE : Program := setDoc 5 D5 (setDoc 7 D7 pP)
theorem pE_eq : pE = pP := by
  unfold pE
  rw [D5_eq, D7_eq]
  kernel_rfl
noncomputable def o3 (P : Params) : Obj := ⟨(.type "dict"), none, (.dict ⟨[⟨PyData.keyHash P (Str.ofString "__name__"), (.str (Str.ofString "__name__") 165), (.str (Str.ofString "law_dm0045_07") 744)⟩, ⟨PyData.keyHash P (Str.ofString "__doc__"), (.str (Str.ofString "__doc__") 166), .none⟩, ⟨PyData.keyHash P (Str.ofString "__package__"), (.str (Str.ofString "__package__") 167), .none⟩, ⟨PyData.keyHash P (Str.ofString "__loader__"), (.str (Str.ofString "__loader__") 168), (.builtin "__main__.__loader__#opaque")⟩, ⟨PyData.keyHash P (Str.ofString "__spec__"), (.str (Str.ofString "__spec__") 169), .none⟩, ⟨PyData.keyHash P (Str.ofString "__annotations__"), (.str (Str.ofString "__annotations__") 170), (.ref 6)⟩, ⟨PyData.keyHash P (Str.ofString "__builtins__"), (.str (Str.ofString "__builtins__") 171), (.ref 4)⟩, ⟨PyData.keyHash P (Str.ofString "__file__"), (.str (Str.ofString "__file__") 173), (.str (Str.ofString "/claim/cut.py") 172)⟩, ⟨PyData.keyHash P (Str.ofString "__cached__"), (.str (Str.ofString "__cached__") 174), .none⟩, ⟨PyData.keyHash P (Str.ofString "_wall"), (.str (Str.ofString "_wall") 193), (.ref 21)⟩, ⟨PyData.keyHash P (Str.ofString "_tuplegetter"), (.str (Str.ofString "_tuplegetter") 252), (.ref 60)⟩, ⟨PyData.keyHash P (Str.ofString "Match"), (.str (Str.ofString "Match") 380), (.ref 135)⟩, ⟨PyData.keyHash P (Str.ofString "_calculate_ratio"), (.str (Str.ofString "_calculate_ratio") 388), (.ref 145)⟩, ⟨PyData.keyHash P (Str.ofString "SequenceMatcher"), (.str (Str.ofString "SequenceMatcher") 592), (.ref 242)⟩, ⟨PyData.keyHash P (Str.ofString "_keep_original_ws"), (.str (Str.ofString "_keep_original_ws") 601), (.ref 253)⟩, ⟨PyData.keyHash P (Str.ofString "Differ"), (.str (Str.ofString "Differ") 743), (.ref 313)⟩, ⟨PyData.keyHash P (Str.ofString "_law_told"), (.str (Str.ofString "_law_told") 755), (.ref 324)⟩, ⟨PyData.keyHash P (Str.ofString "_law_due"), (.str (Str.ofString "_law_due") 761), (.ref 329)⟩, ⟨PyData.keyHash P (Str.ofString "law"), (.str (Str.ofString "law") 778), (.ref 336)⟩]⟩ 19), ⟨[]⟩⟩
noncomputable def o248 (P : Params) : Obj := ⟨.none, none, (.fields ⟨[]⟩), ⟨[]⟩⟩
noncomputable def o313 (P : Params) : Obj := ⟨(.type "type"), none, (.cls ⟨(Str.ofString "Differ"), [(.type "object")], [(.ref 313), (.type "object")], 312, (Str.ofString "Differ"), true, [], [], false, none, false⟩), ⟨[none, none, some (.str (Str.ofString "Differ") 602), some (.str (Str.ofString "Differ") 610), some (.builtin "object.__new__"), some (.bool true)]⟩⟩
noncomputable def o312 (P : Params) : Obj := ⟨(.type "dict"), none, (.dict ⟨[⟨PyData.keyHash P (Str.ofString "__module__"), (.str (Str.ofString "__module__") 609), (.str (Str.ofString "cpy313.difflib") 194)⟩, ⟨PyData.keyHash P (Str.ofString "__firstlineno__"), (.str (Str.ofString "__firstlineno__") 613), (.int 491 612)⟩, ⟨PyData.keyHash P (Str.ofString "__doc__"), (.str (Str.ofString "__doc__") 615), (.str D7 614)⟩, ⟨PyData.keyHash P (Str.ofString "__init__"), (.str (Str.ofString "__init__") 626), (.ref 268)⟩, ⟨PyData.keyHash P (Str.ofString "compare"), (.str (Str.ofString "compare") 643), (.ref 275)⟩, ⟨PyData.keyHash P (Str.ofString "_dump"), (.str (Str.ofString "_dump") 656), (.ref 282)⟩, ⟨PyData.keyHash P (Str.ofString "_plain_replace"), (.str (Str.ofString "_plain_replace") 672), (.ref 289)⟩, ⟨PyData.keyHash P (Str.ofString "_fancy_replace"), (.str (Str.ofString "_fancy_replace") 708), (.ref 296)⟩, ⟨PyData.keyHash P (Str.ofString "_fancy_helper"), (.str (Str.ofString "_fancy_helper") 722), (.ref 303)⟩, ⟨PyData.keyHash P (Str.ofString "_qformat"), (.str (Str.ofString "_qformat") 734), (.ref 310)⟩, ⟨PyData.keyHash P (Str.ofString "__static_attributes__"), (.str (Str.ofString "__static_attributes__") 737), (.ref 311)⟩, ⟨PyData.keyHash P (Str.ofString "__dict__"), (.str (Str.ofString "__dict__") 739), (.ref 314)⟩, ⟨PyData.keyHash P (Str.ofString "__weakref__"), (.str (Str.ofString "__weakref__") 741), (.ref 315)⟩]⟩ 3), ⟨[]⟩⟩
noncomputable def o268 (P : Params) : Obj := ⟨(.type "function"), none, (.func ⟨(Str.ofString "__init__"), (Str.ofString "Differ.__init__"), fArgs (stIn 7 1), .stmts (fBody (stIn 7 1)), fScope (stIn 7 1), 3, [], (.ref 261), .none, (.str (docS (stIn 7 1)) 625), (.str (Str.ofString "cpy313.difflib") 194), none, (.ref 267), .none, 0⟩), ⟨[]⟩⟩
noncomputable def o267 (P : Params) : Obj := ⟨(.type "code"), none, (.fields ⟨[(.str (Str.ofString "__init__") 617), (.str (Str.ofString "Differ.__init__") 618), (.str (Str.ofString "/claim/cut.py") 619), (.int 577 0), (.int 3 0), (.int 0 0), (.int 0 0), (.int 3 0), (.ref 262), (.bool true), (.int 181 0), (.ref 263), .none, (.ref 264), (.ref 265), (.ref 266), (.int 623 0), (.int 577 0), (.str (Str.ofString "/claim/cut.py") 624)]⟩), ⟨[]⟩⟩
noncomputable def o261 (P : Params) : Obj := ⟨(.type "tuple"), none, (.seq ⟨[.none, .none]⟩ 0), ⟨[]⟩⟩
noncomputable def o314 (P : Params) : Obj := ⟨(.type "getset_descriptor"), none, (.fields ⟨[(.str (Str.ofString "__dict__") 738), (.ref 313), (.builtin "function.__dict__"), (.builtin "function.__dict__#set")]⟩), ⟨[]⟩⟩
noncomputable def o315 (P : Params) : Obj := ⟨(.type "getset_descriptor"), none, (.fields ⟨[(.str (Str.ofString "__weakref__") 740), (.ref 313), (.builtin "ExceptionGroup.__weakref__"), .none]⟩), ⟨[]⟩⟩
noncomputable def o282 (P : Params) : Obj := ⟨(.type "function"), none, (.func ⟨(Str.ofString "_dump"), (Str.ofString "Differ._dump"), fArgs (stIn 7 3), .stmts (fBody (stIn 7 3)), fScope (stIn 7 3), 3, [], .none, .none, (.str (docS (stIn 7 3)) 655), (.str (Str.ofString "cpy313.difflib") 194), none, (.ref 281), .none, 0⟩), ⟨[]⟩⟩
noncomputable def o281 (P : Params) : Obj := ⟨(.type "code"), none, (.fields ⟨[(.str (Str.ofString "_dump") 644), (.str (Str.ofString "Differ._dump") 645), (.str (Str.ofString "/claim/cut.py") 646), (.int 638 0), (.int 5 0), (.int 0 0), (.int 0 0), (.int 35 0), (.ref 276), (.bool true), (.int 181 0), (.ref 277), .none, (.ref 278), (.ref 279), (.ref 280), (.int 653 0), (.int 638 0), (.str (Str.ofString "/claim/cut.py") 654)]⟩), ⟨[]⟩⟩
noncomputable def o289 (P : Params) : Obj := ⟨(.type "function"), none, (.func ⟨(Str.ofString "_plain_replace"), (Str.ofString "Differ._plain_replace"), fArgs (stIn 7 4), .stmts (fBody (stIn 7 4)), fScope (stIn 7 4), 3, [], .none, .none, .none, (.str (Str.ofString "cpy313.difflib") 194), none, (.ref 288), .none, 0⟩), ⟨[]⟩⟩
noncomputable def o288 (P : Params) : Obj := ⟨(.type "code"), none, (.fields ⟨[(.str (Str.ofString "_plain_replace") 657), (.str (Str.ofString "Differ._plain_replace") 658), (.str (Str.ofString "/claim/cut.py") 659), (.int 643 0), (.int 7 0), (.int 0 0), (.int 0 0), (.int 35 0), (.ref 283), (.bool true), (.int 181 0), (.ref 284), .none, (.ref 285), (.ref 286), (.ref 287), (.int 670 0), (.int 643 0), (.str (Str.ofString "/claim/cut.py") 671)]⟩), ⟨[]⟩⟩
noncomputable def o324 (P : Params) : Obj := ⟨(.type "function"), none, (.func ⟨(Str.ofString "_law_told"), (Str.ofString "_law_told"), fArgs (stAt 9), .stmts (fBody (stAt 9)), fScope (stAt 9), 3, [], .none, .none, .none, (.str (Str.ofString "law_dm0045_07") 744), none, (.ref 323), .none, 0⟩), ⟨[]⟩⟩
noncomputable def o323 (P : Params) : Obj := ⟨(.type "code"), none, (.fields ⟨[(.str (Str.ofString "_law_told") 746), (.str (Str.ofString "_law_told") 747), (.str (Str.ofString "/claim/cut.py") 748), (.int 754 0), (.int 1 0), (.int 0 0), (.int 0 0), (.int 3 0), (.ref 318), (.bool true), (.int 181 0), (.ref 319), .none, (.ref 320), (.ref 321), (.ref 322), (.int 753 0), (.int 754 0), (.str (Str.ofString "/claim/cut.py") 754)]⟩), ⟨[]⟩⟩
noncomputable def o329 (P : Params) : Obj := ⟨(.type "function"), none, (.func ⟨(Str.ofString "_law_due"), (Str.ofString "_law_due"), fArgs (stAt 10), .stmts (fBody (stAt 10)), fScope (stAt 10), 3, [], .none, .none, .none, (.str (Str.ofString "law_dm0045_07") 744), none, (.ref 328), .none, 0⟩), ⟨[]⟩⟩
noncomputable def o328 (P : Params) : Obj := ⟨(.type "code"), none, (.fields ⟨[(.str (Str.ofString "_law_due") 756), (.str (Str.ofString "_law_due") 757), (.str (Str.ofString "/claim/cut.py") 758), (.int 764 0), (.int 5 0), (.int 0 0), (.int 0 0), (.int 3 0), (.ref 325), (.bool true), (.int 181 0), (.ref 326), .none, .none, .none, (.ref 327), (.int 759 0), (.int 764 0), (.str (Str.ofString "/claim/cut.py") 760)]⟩), ⟨[]⟩⟩
noncomputable def o336 (P : Params) : Obj := ⟨(.type "function"), none, (.func ⟨(Str.ofString "law"), (Str.ofString "law"), fArgs (stAt 11), .stmts (fBody (stAt 11)), fScope (stAt 11), 3, [], .none, .none, .none, (.str (Str.ofString "law_dm0045_07") 744), none, (.ref 335), .none, 0⟩), ⟨[]⟩⟩
noncomputable def o335 (P : Params) : Obj := ⟨(.type "code"), none, (.fields ⟨[(.str (Str.ofString "law") 762), (.str (Str.ofString "law") 763), (.str (Str.ofString "/claim/cut.py") 764), (.int 776 0), (.int 1 0), (.int 0 0), (.int 0 0), (.int 3 0), (.ref 330), (.bool true), (.int 181 0), (.ref 331), .none, (.ref 332), (.ref 333), (.ref 334), (.int 776 0), (.int 776 0), (.str (Str.ofString "/claim/cut.py") 777)]⟩), ⟨[]⟩⟩

noncomputable def K (P : Params) : List (Nat × Obj) := [(3, o3 P), (248, o248 P), (313, o313 P), (312, o312 P), (268, o268 P), (267, o267 P), (261, o261 P), (314, o314 P), (315, o315 P), (282, o282 P), (281, o281 P), (289, o289 P), (288, o288 P), (324, o324 P), (323, o323 P), (329, o329 P), (328, o328 P), (336, o336 P), (335, o335 P)]
noncomputable def asK : List Nat := [3, 248, 313, 312, 268, 267, 261, 314, 315, 282, 281, 289, 288, 324, 323, 329, 328, 336, 335]
noncomputable def kS (P : Params) : List (Option Obj) := [some (o3 P), some (o248 P), some (o313 P), some (o312 P), some (o268 P), some (o267 P), some (o261 P), some (o314 P), some (o315 P), some (o282 P), some (o281 P), some (o289 P), some (o288 P), some (o324 P), some (o323 P), some (o329 P), some (o328 P), some (o336 P), some (o335 P)]
noncomputable def q : Program := view pP [0, 2, 3, 4, 5, 6, 7, 9, 10, 11]
noncomputable def loose : List Str := ["_tuplegetter", "Match", "SequenceMatcher"]
noncomputable def runP (p : Program) (w : World) (os : OsState) : Option SharedT := legs myTable p w 11 (some (.ref 6)) 400 8 ⟨bootT w.params, 11, (boot_heap w.params).life, Array.mk [], boot_drawn, boot_toks, os⟩ (topStub p)
noncomputable def topA (p : Program) (w : World) (os : OsState) : Option Bool := (runP p w os).map fun s => looks1 p w s.abs
noncomputable def seenP (p : Program) (s : Shared) := openSeen (view p [0, 2, 3, 4, 5, 6, 7, 9, 10, 11]) loose [] (fun s => xlAt (view p [0, 2, 3, 4, 5, 6, 7, 9, 10, 11]) [] s && recOk [] s) true s
noncomputable def topB (p : Program) (w : World) (os : OsState) := (runP p w os).map fun s => seenP p s.abs
noncomputable def goodB (p : Program) := openGood (view p [0, 2, 3, 4, 5, 6, 7, 9, 10, 11]) loose
noncomputable def topC (p : Program) (w : World) (os : OsState) : Option (List (Option Obj)) := (runP p w os).map fun s => asK.map (getT s)
noncomputable abbrev run0 (w : World) (os : OsState) := runP pP w os
noncomputable abbrev seen0 (s : Shared) := seenP pP s
theorem twA : (fun _ => true) topA = true := by k_qdec
theorem twB : (fun _ => true) topB = true := by k_qdec
theorem twC : (fun _ => true) topC = true := by k_qdec
theorem twG : (fun _ => true) goodB = true := by k_qdec
theorem topA_ok (w : World) : topA pP w = fun _ => some true := by
  rw [← pE_eq, PySem.W.Fast.te5067563107919825018]; kernel_rfl
theorem topB_ok (w : World) : topB pP w = fun _ => some (goodB pP) := by
  rw [← pE_eq, PySem.W.Fast.te2543148203304448840, PySem.W.Fast.te4040843021490743674]; kernel_rfl
theorem topC_ok (w : World) : topC pP w = fun _ => some (kS w.params) := by
  rw [← pE_eq, PySem.W.Fast.te17501544405551553966]; kernel_rfl

theorem kS_eq (P : Params) : kS P = ((K P).map (·.2)).map some := rfl
theorem run_ok (w : World) (os : OsState) : ∃ r, runP pP w os = some r ∧ looks1 pP w r.abs = true ∧ seen0 r.abs = goodB pP ∧ asK.map (getT r) = kS w.params := by
  have a := congrFun (topA_ok w) os
  have b := congrFun (topB_ok w) os
  have c := congrFun (topC_ok w) os
  unfold topA at a
  unfold topB at b
  unfold topC at c
  cases h : runP pP w os with
  | none => rw [h] at a; cases a
  | some r =>
    rw [h] at a b c
    exact ⟨r, rfl, Option.some.inj a, Option.some.inj b, Option.some.inj c⟩
theorem imp0 : importedModules pP.main.body = [] := by kernel_rfl
theorem open0 (w : World) : (fencedOpening treeTable pP w 6000).map (fun s => (s.heap, s.gens, s.drawn, s.toks)) = some (boot_heap w.params, Array.mk [], boot_drawn, boot_toks) :=
  boot_open (p := pP) (N := 6000) (by kernel_rfl) (by rfl) (fun s => by kernel_rfl) w
theorem size1 (w : World) : ((boot_heap w.params).isNs mainGlobals && (Array.mk ([] : List GenState)).size == 0) = true := by kernel_rfl
theorem size2 (w : World) : (boot_heap w.params).objs.size = 11 := by kernel_rfl
theorem size3 (w : World) : (boot_heap w.params).nsMap mainGlobals "__annotations__" = some (.ref 6) := by kernel_rfl
theorem boot_s (w : World) (os : OsState) : (⟨bootT w.params, 11, (boot_heap w.params).life, Array.mk [], boot_drawn, boot_toks, os⟩ : SharedT).abs = ⟨boot_heap w.params, Array.mk [], boot_drawn, boot_toks, os⟩ := by
  unfold SharedT.abs; rw [boot_abs]
noncomputable abbrev Hk : Hook := kHook K asK fun _ => rfl
theorem from0 (w : World) (os : OsState) : ∃ r : SharedT, topFrom treeTable pP w 6000 ⟨boot_heap w.params, Array.mk [], boot_drawn, boot_toks, os⟩ = some r.abs ∧ seen0 r.abs = goodB pP ∧ asK.map r.abs.heap.get? = (K w.params).map fun p => some p.2 := by
  obtain ⟨r, h1, h2, h3, h4⟩ := run_ok w os
  unfold runP at h1
  obtain ⟨M, hM, hr⟩ := legs_run 8 _ _ _ h1
  have hr := runT_of _ _ _ _ hr
  have hr := topRun_mono (6000 - M) _ _ _ _ hr
  rw [show M + (6000 - M) = 6000 by omega, ← table_my, boot_s] at hr
  refine ⟨r, ?_, h3, ?_⟩
  · unfold topFrom
    dsimp only
    rw [size1, size2, size3, hr, imp0]
    unfold looks1 at h2
    show (match staticsOk [] (boot_heap w.params) r.abs.heap && namesBound pP r.abs.heap && gensDone r.abs && laidKept (boot_heap w.params) r.abs.heap with | true => some r.abs | false => none) = _
    rw [h2]
  · rw [kS_eq] at h4
    rw [getT_all h4, List.map_map]
    rfl
theorem left : LeftO pP q loose (fun s => xlAt q [] s && recOk [] s) Hk.obs Hk.val 6000 := by
  intro w
  obtain ⟨⟨h, gs, d, k, os⟩, e, e'⟩ := Option.map_eq_some_iff.mp (open0 w)
  dsimp only at e'
  obtain ⟨e1, e2, e3, e4⟩ : h = boot_heap w.params ∧ gs = Array.mk [] ∧ d = boot_drawn ∧ k = boot_toks := by simpa only [Prod.mk.injEq] using e'
  subst e1 e2 e3 e4
  obtain ⟨r, t, h3, h4⟩ := from0 w os
  unfold openEnds
  rw [e, imp0, Option.bind_some, t, Option.map_some]
  have h3 : openSeen q loose [] (fun s => xlAt q [] s && recOk [] s) true r.abs = openGood q loose := h3
  refine congrArg some ?_
  rw [h3]
  exact congrArg (Prod.mk _) h4
end Mine
section
open PySem PySem.W PyProof.Rows
namespace Mine
/-! runs that may sleep in «yield from» a generator -/
noncomputable def delegate0 (s : Shared) : Value → Bool
  | .ref a => match s.heap.get? a with
    | some o => !o.genNumber?.isSome
    | none => true
  | _ => true
/-- might a yield show something, where nothing is registered -/
noncomputable def closing0 (s : Shared) (frames : List Frame) (code : Code) (guarded : Bool) : Bool :=
  frames.any Frame.guarded || (guarded && match code with
    | .builtin "proto.yield_from" ⟨it :: _, _⟩ => delegate0 s it
    | _ => true)
theorem closing0_shows {s : Shared} {frames : List Frame} {code : Code} {g : Bool} (h : closing0 s frames code g = false) (hr : s.heap.life.registered = []) : closingShows s frames code g = false := by
  unfold closing0 at h
  unfold closingShows
  rw [Bool.or_eq_false_iff] at h ⊢
  refine ⟨h.1, ?_⟩
  have h2 := h.2
  cases g with
  | false => rfl
  | true =>
    rw [Bool.true_and] at h2 ⊢
    split at h2
    · rename_i it rest kw
      unfold delegate0 at h2
      cases it with
      | ref a =>
        show delegateShows s (.ref a) = false
        unfold delegateShows
        dsimp only at h2 ⊢
        cases ho : s.heap.get? a with
        | none => rw [ho] at h2
        | some o =>
          rw [ho] at h2
          dsimp only at h2 ⊢
          cases hn : o.genNumber? with
          | none => rw [hn] at h2; cases h2
          | some n => rw [hr]; rfl
      | _ => cases h2
    · cases h2
/-- a yield, out of «yield from», that shows nothing to the collector -/
noncomputable def mutedYield (s : Shared) (t : Thread) : Bool := match t.cur, splitAtGen t.stack with
  | .yield _ g _ _, some (frames, _, _) => !closing0 s frames t.code g
  | _, _ => false
noncomputable def calm2 (s : Shared) (t : Thread) : Bool := t.calm || mutedYield s t
inductive Ev (den : Code → Sem Fin) (prog : Program) (w : World) (Φ : Shared → Thread → Prop) : Shared → Thread → Prop
  | now {s t} : Φ s t → Ev den prog w Φ s t
  | step {s t s' t'} : calm2 s t = true → stepK den prog w s t = .go s' t' → Ev den prog w Φ s' t' → Ev den prog w Φ s t
section
variable {den : Code → Sem Fin} {prog : Program} {w : World}
theorem muted_yield {s : Shared} {t : Thread} (h : mutedYield s t = true) : ∃ v g l k fs b rest, t.cur = .yield v g l k ∧ splitAtGen t.stack = some (fs, b, rest) ∧ closing0 s fs t.code g = false := by
  unfold mutedYield at h
  split at h
  · rename_i v g l k fs b rest e1 e2
    exact ⟨v, g, l, k, fs, b, rest, e1, e2, by simpa using h⟩
  · cases h
theorem moves_muted (pr : Profile) (s : Shared) (t : Thread) (h : mutedYield s t = true) : (Config.single s t).moves pr = [.run 0] := by
  obtain ⟨v, g, l, k, fs, b, rest, e1, _⟩ := muted_yield h
  obtain ⟨cur, code, pos, stack⟩ := t
  dsimp only at e1
  subst e1
  simp [Config.moves, Config.single, movesFrom, Thread.moves]
theorem pick_muted (s : Shared) (t : Thread) (h : mutedYield s t = true) (hr : s.heap.life.registered = []) :
    (Config.single s t).pick w = .ok (.run 0, .single s t) := by
  have h1 : (Config.single s t).collect? w.params = none := by
    simp [Config.collect?, Config.single, (nothing_to_collect _ _ _ s t hr).1]
  have h2 : (Config.single s t).collectable = [] := by
    simp [Config.collectable, Config.single, (nothing_to_collect w.params _ _ s t hr).2]
  simp only [Config.pick, h1, h2, Config.pickThread, moves_muted _ s t h]
  cases w.params.lifetimes <;> simp
theorem lifeStep_muted (others : List Value) (s : Shared) (t : Thread) (h : mutedYield s t = true) (hz : s.asleep) : lifeStep den prog w others s t = step den prog w s t := by
  obtain ⟨v, g, l, k, fs, b, rest, e1, e2, e3⟩ := muted_yield h
  obtain ⟨cur, code, pos, stack⟩ := t
  dsimp only at e1 e2 e3
  subst e1
  obtain ⟨hr, hc⟩ := hz
  have e3 := closing0_shows e3 hr
  unfold lifeStep
  split
  · simp [collectorTurn?, e2, e3, Thread.atItsEnd, stepCounting, hc]
  · simp [stepCounting, hc]
theorem run_muted (s : Shared) (t : Thread) (h : mutedYield s t = true) (hl : ∀ others, lifeStep den prog w others s t = step den prog w s t) :
    (Config.single s t).run den prog w 0 = (step den prog w s t).lift := by
  obtain ⟨v, g, l, k, fs, b, rest, e1, e2, e3⟩ := muted_yield h
  obtain ⟨cur, code, pos, stack⟩ := t
  dsimp only at e1 e2 e3
  subst e1
  simp only [Config.run, Config.single]
  first
    | (simp [hl, others_single, frozenBadly, ThreadState.insideWrite]; split <;> simp_all [Step.lift, Config.single]; done)
    | (simp [hl, others_single, frozenBadly, ThreadState.insideWrite]; split <;> simp_all [Step.lift, Config.single] <;> split <;> simp; done)
    | (simp [hl, others_single, frozenBadly, ThreadState.insideWrite, Thread.finalizes]; split <;> simp_all [Step.lift, Config.single]; done)
    | (simp [hl, others_single, frozenBadly, ThreadState.insideWrite, Thread.finalizes]; split <;> simp_all [Step.lift, Config.single] <;> split <;> simp; done)
theorem sstep_calm2 (s : Shared) (t : Thread) {s' t'} (h : calm2 s t = true) (hr : s.asleep) (e : step den prog w s t = .go s' t') : sstep den prog w (.single s t) = .go (.single s' t') := by
  unfold calm2 at h
  rcases Bool.or_eq_true _ _ ▸ h with h | h
  · rcases sstep_single den prog w s t h hr with q | q
    · rw [q, e]; rfl
    · rw [q] at e; cases e
  · have hl := fun o => lifeStep_muted (den := den) (prog := prog) (w := w) o s t h hr
    simp only [sstep, pick_muted s t h hr.1, Config.move, run_muted s t h hl]
    rw [e]; rfl
theorem muted_forget {s s₂ : Shared} {t t₂ : Thread} (hs : s₂.forget = s.forget) (ht : t₂.forget = t.forget) : mutedYield s₂ t₂ = mutedYield s t := by
  obtain ⟨eh, _⟩ := Shared.forget_eq hs
  obtain ⟨cur, code, pos, stack⟩ := t
  obtain ⟨cur₂, code₂, pos₂, stack₂⟩ := t₂
  simp only [Thread.forget, Thread.mk.injEq] at ht
  obtain ⟨rfl, rfl, rfl, e⟩ := ht
  cases cur₂ with
  | yield v g l k =>
    unfold mutedYield
    dsimp only
    have a := splitAtGen_forgetAll stack
    have b := splitAtGen_forgetAll stack₂
    rw [e, a] at b
    cases h1 : splitAtGen stack with
    | none =>
      rw [h1] at b
      cases h2 : splitAtGen stack₂ with
      | none => rfl
      | some x => rw [h2] at b; cases b
    | some x =>
      obtain ⟨fs, y, r⟩ := x
      rw [h1] at b
      cases h2 : splitAtGen stack₂ with
      | none => rw [h2] at b; cases b
      | some x₂ =>
        obtain ⟨fs₂, y₂, r₂⟩ := x₂
        rw [h2] at b
        simp only [Option.map_some, Option.some.injEq, Prod.mk.injEq] at b
        have ea : fs.any Frame.guarded = fs₂.any Frame.guarded := by rw [← any_guarded_forgetAll fs, ← any_guarded_forgetAll fs₂, b.1]
        dsimp only
        unfold closing0
        rw [ea]
        unfold delegate0
        rw [eh]
  | _ => rfl
theorem calm2_forget {s s₂ : Shared} {t t₂ : Thread} (hs : s₂.forget = s.forget) (ht : t₂.forget = t.forget) : calm2 s₂ t₂ = calm2 s t := by
  unfold calm2
  rw [muted_forget hs ht, ← Thread.calm_forget t₂, ht, Thread.calm_forget]
/-- a run, on the real machine -/
theorem Ev.real {Φ : Shared → Thread → Prop} {s t} (h : Ev den prog w Φ s t) : ∀ s₂ t₂, s₂.forget = s.forget → t₂.forget = t.forget → s₂.asleep →
    ∃ n s' t' s₃ t₃, schedN den prog w n (.single s₂ t₂) = .running (.single s₃ t₃) ∧ s₃.forget = s'.forget ∧ t₃.forget = t'.forget ∧ Φ s' t' ∧ s₃.heap.life = s₂.heap.life := by
  induction h with
  | now h => exact fun s₂ t₂ hs ht ha => ⟨0, _, _, s₂, t₂, rfl, hs, ht, h, rfl⟩
  | @step s t s' t' c e _ ih =>
    intro s₂ t₂ hs ht ha
    have e2 : (PySem.step den prog w s₂ t₂).forget = (Step.go s' t').forget := by
      rw [step_same den prog w hs ht, ← stepK_forget, e]
    cases hst : PySem.step den prog w s₂ t₂ with
    | halt o x => rw [hst] at e2; cases e2
    | go s₃ t₃ =>
      rw [hst] at e2
      simp only [Step.forget, Step.go.injEq] at e2
      have hlife := step_life den prog w s₂ s₃ t₂ t₃ hst
      obtain ⟨n, a, b, s₄, t₄, h1, h2, h3, h4, h5⟩ := ih s₃ t₃ e2.1 e2.2 (Shared.asleep_of_life hlife ha)
      refine ⟨n + 1, a, b, s₄, t₄, ?_, h2, h3, h4, h5.trans hlife⟩
      show (match sstep den prog w (.single s₂ t₂) with | .go c' => schedN den prog w n c' | .halt o s => .halted o s) = _
      rw [sstep_calm2 s₂ t₂ (by rw [calm2_forget hs ht]; exact c) ha hst]
      exact h1
theorem schedN_add (n k : Nat) (c c' : Config) (h : schedN den prog w n c = .running c') : schedN den prog w (n + k) c = schedN den prog w k c' := by
  induction n generalizing c with
  | zero => cases h; rw [Nat.zero_add]
  | succ n ih =>
    rw [Nat.succ_add]
    simp only [schedN] at h ⊢
    split <;> rename_i q
    · rw [q] at h; exact ih _ h
    · rw [q] at h; cases h
/-- a run to its end -/
theorem Ev.halts {R : Result → Shared → Prop} {s t} (h : Ev den prog w (fun s' t' => ∃ r c p, t' = ⟨leafOf r, c, p, []⟩ ∧ leftWithCleanup s'.gens = false ∧ R r s') s t) (ha : s.asleep) :
    ∃ n r s' s'', schedN den prog w n (.single s t) = .halted (outcomeOf r) s' ∧ s'.forget = s''.forget ∧ s'.heap.life = s.heap.life ∧ R r s'' := by
  obtain ⟨n, s', t', s₃, t₃, h1, h2, h3, ⟨r, c, p, rfl, hl, hR⟩, h5⟩ := h.real s t rfl rfl ha
  have ht : t₃ = ⟨leafOf r, c, p, []⟩ := by
    obtain ⟨cur, code, pos, stack⟩ := t₃
    simp only [Thread.forget, Thread.mk.injEq, forgetAll_nil] at h3
    obtain ⟨rfl, rfl, rfl, e⟩ := h3
    cases stack with
    | nil => rfl
    | cons _ _ => cases e
  subst ht
  have hl3 : leftWithCleanup s₃.gens = false := by rw [leftWithCleanup_of_forget_eq h2]; exact hl
  have a3 : s₃.asleep := Shared.asleep_of_life h5 ha
  have hst : PySem.step den prog w s₃ ⟨leafOf r, c, p, []⟩ = .halt (outcomeOf r) s₃ := by
    obtain ⟨heap, gens, drawn, toks, os⟩ := s₃
    cases r <;> (show finish _ _ = _; unfold finish; rw [if_neg (by rw [hl3]; decide)]; rfl)
  refine ⟨n + 1, r, s₃, s', ?_, h2, h5, hR⟩
  rw [schedN_add n 1 _ _ h1]
  have hcalm : Thread.calm ⟨leafOf r, c, p, []⟩ = true := by cases r <;> rfl
  rcases sstep_single den prog w s₃ ⟨leafOf r, c, p, []⟩ hcalm a3 with q | q
  · simp only [schedN, q, hst]; rfl
  · rw [hst] at q
    cases r <;> cases q
end
end Mine
end
section
open PySem PySem.W PyProof.Rows
namespace Mine
theorem ctx_fits {Γ : Ctx} {st : List Frame} (h : Γ.Fits st) : Γ = Ctx.of Γ.code st := by
  obtain ⟨c, hd, ow, be, pa⟩ := Γ
  obtain ⟨h1, h2, h3, h4⟩ := h
  simp only at h1 h2 h3 h4
  subst h1 h2 h3 h4
  rfl
section
variable {M : Model} {Φ Ψ : Shared → Thread → Prop}
noncomputable abbrev EvM (M : Model) (Φ : Shared → Thread → Prop) := Ev M.den M.prog M.w Φ
theorem ev_step {s s' : Shared} {t t' : Thread} (e : M.step s t = .go s' t') (h : EvM M Φ s' t') : EvM M Φ s t := by
  cases hl : t.loud with
  | true => rw [M.step_loud hl] at e; cases e
  | false =>
    rw [M.step_quiet hl] at e
    refine .step ?_ e h
    unfold calm2
    rw [Thread.calm_eq, hl]
    cases hr : t.refused with
    | true => obtain ⟨what, q⟩ := stepK_refused M.den M.prog M.w (s := s) hr; rw [q] at e; cases e
    | false => rfl
theorem ev_runN {n : Nat} {s s' : Shared} {t t' : Thread} (e : M.runN n s t = .running s' t') (h : EvM M Φ s' t') : EvM M Φ s t := by
  induction n generalizing s t with
  | zero => injection e with e1 e2; subst e1 e2; exact h
  | succ n ih =>
    rw [runN_succ] at e
    cases hs : M.step s t with
    | go s₁ t₁ => rw [hs] at e; exact ev_step hs (ih e)
    | halt o s₁ => rw [hs] at e; cases e
theorem ev_runs {Γ : Ctx} {p : Pos} {t : Sem Fin} {s s' : Shared} {r : Result} {base : List Frame} (h : Runs M Γ p t [] s (.ret r) s') (hf : Γ.Fits base) (k : ∀ c' p', EvM M Φ s' ⟨leafOf r, c', p', base⟩) : EvM M Φ s ⟨t, Γ.code, p, base⟩ := by
  obtain ⟨n, t', c', p', pre', hn, rfl, rfl⟩ := (runs_reach h base hf).runN
  exact ev_runN hn (k c' p')
theorem ev_seg {Γ : Ctx} {p : Pos} {t : Sem Fin} {fs : List Frame} {s s₁ : Shared} {e₁ : End} {g : Nat} {k : GenResult → Sem Fin} {l : List Value} {c₁ : Code} {p₁ : Pos} {st : List Frame} (h : Runs M Γ p t fs s e₁ s₁) (hf : Γ.Fits (.gen g k l c₁ p₁ :: st)) (hq : e₁.quiet = true)
    (hk : EvM M Φ (s₁.setGen g e₁.genState) ⟨k e₁.result, c₁, p₁, st⟩) : EvM M Φ s ⟨t, Γ.code, p, fs ++ .gen g k l c₁ p₁ :: st⟩ := by
  obtain ⟨n, t', c', p', pre', hn, hx⟩ := (runs_reach h _ hf).runN
  exact ev_runN hn (ev_step (step_exit_gen s₁ g k l c₁ p₁ st hx hq) hk)
theorem up_go {α : Type} {c : Code} {st : List Frame} {K : α → Sem Fin} {H : Value → Sem Fin} {gd : Bool → Bool} {lv : List Value → List Value} {Q : α → Pos → Shared → Prop} {E : Value → Pos → Shared → Prop}
    (hK : ∀ a p' s', Q a p' s' → EvM M Φ s' ⟨K a, c, p', st⟩) (hH : ∀ e p' s', E e p' s' → EvM M Φ s' ⟨H e, c, p', st⟩) : ∀ (t : Sem α) (p : Pos) (s : Shared), Sem.wp M (Ctx.of c st) t Q E p s → EvM M Φ s ⟨t.wrap K H gd lv, c, p, st⟩ := by
  intro t
  induction t with
  | pure a => exact fun p s h => hK a p s h
  | raise e => exact fun p s h => hH e p s h
  | unsupported | finish | yield | fork | await | register => exact fun p s h => h.elim
  | rule tag k ih => exact fun p s h => ev_step (step_rule M s c p st tag _) (ih () p s h)
  | «at» p' k ih => exact fun p s h => ev_step (step_at M s c p st p' _) (ih () p' s h)
  | load a part k ih => exact fun p s ⟨o, ho, h⟩ => ev_step (step_load M s c p st part _ ho) (ih o p s h)
  | update a part f k ih => exact fun p s ⟨ha, h⟩ => ev_step (step_update M s c p st part f _ ha) (ih () p _ h)
  | loadIfAlive a k ih => exact fun p s h => ev_step (step_loadIfAlive M s c p st a _) (ih _ p s h)
  | point l k ih => exact fun p s h => ev_step (step_point M s c p st _ _) (ih () p s h)
  | alloc o k ih => exact fun p s h => ev_step (step_alloc M s c p st o _) (ih _ p _ h)
  | fresh k ih => exact fun p s h => ev_step (step_fresh M s c p st _) (ih _ p _ h)
  | ask k ih => exact fun p s h => ev_step (step_ask M s c p st _) (ih _ p s h)
  | choose src n k ih => exact fun p s ⟨hn, h⟩ => ev_step (step_choose M s c p st src _ hn) (ih _ p _ h)
  | os q l k ih => exact fun p s h => ev_step (step_os M s c p st q _ _) (ih _ p _ h)
  | call c' h g l k ih =>
    intro p s ⟨r, s₁, hr, hw⟩
    refine ev_step (step_call M s c p st c' h (gd g) (lv l) _) ?_
    refine ev_runs (Γ := (Ctx.of c st).enter c' h p) hr (Ctx.Fits.enter (Ctx.fits_of c st) c' _ h (gd g) (lv l) p []) fun c₂ p₂ => ?_
    exact ev_step (step_leaf_ret M s₁ c₂ p₂ st r _ h (gd g) (lv l) c p []) (ih r p s₁ hw)
  | handled own k ih =>
    intro p s h
    refine ev_step (step_handled M s c p st own _) ?_
    cases own <;> exact ih _ p s h
  | genState g k ih => exact fun p s ⟨x, hg, h⟩ => ev_step (step_genState M s c p st _ hg) (ih _ p s h)
  | newGen c' k ih => exact fun p s h => ev_step (step_newGen M s c p st c' _) (ih _ p _ h)
  | stack k ih => exact fun p s h => ev_step (step_stack M s c p st _) (ih _ p s h)
  | thread k ih => exact fun p s h => ev_step (step_thread M s c p st _) (ih _ p s h)
  | resume g r l k ih =>
    intro p s ⟨res, s', hw, h⟩
    have hk := ih res p s' h
    unfold Wakes at hw
    cases hg : s.gens[g]? with
    | none => rw [hg] at hw; exact hw.elim
    | some x =>
      rw [hg] at hw
      cases x with
      | fresh c' =>
        cases r with
        | send v =>
          by_cases hv : v = .none
          · subst hv
            obtain ⟨e₁, s₁, hr, hq, rfl, rfl⟩ := hw
            exact ev_step (step_resume_fresh M s c p st (lv l) _ hg) (ev_seg (Γ := (Ctx.of c st).wake c' p) (fs := []) hr (Ctx.Fits.wake (Ctx.fits_of c st) c' g _ (lv l) p) hq hk)
          · have q : res = .justStarted ∧ s' = s := by cases v <;> first | exact absurd rfl hv | exact hw
            obtain ⟨rfl, rfl⟩ := q
            exact ev_step (step_resume_justStarted M s' c p st (lv l) _ hg hv) hk
        | throw x => obtain ⟨rfl, rfl⟩ := hw; exact ev_step (step_resume_throwFresh M s c p st x (lv l) _ hg) hk
      | suspended k₀ l₀ c₀ p₀ fs cl =>
        obtain ⟨e₁, s₁, hr, hq, rfl, rfl⟩ := hw
        exact ev_step (step_resume_suspended M s c p st r (lv l) _ hg) (ev_seg (Γ := (Ctx.of c st).wake c₀ p) hr (Ctx.Fits.wake (Ctx.fits_of c st) c₀ g _ (lv l) p) hq hk)
      | running => obtain ⟨rfl, rfl⟩ := hw; exact ev_step (step_resume_running M s' c p st r (lv l) _ hg) hk
      | finished => obtain ⟨rfl, rfl⟩ := hw; exact ev_step (step_resume_finished M s' c p st r (lv l) _ hg) hk
end
/-- what a tree does, wherever it stands; it may drive generators that sleep in «yield from» -/
noncomputable def wpU {α : Type} (M : Model) (A : Around) (t : Sem α) (Q : α → Shared → Prop) (E : Value → Shared → Prop) (s : Shared) : Prop :=
  ∀ (c : Code) (p : Pos) (st : List Frame), (Ctx.of c st).In A → ∀ (K : α → Sem Fin) (H : Value → Sem Fin) (gd : Bool → Bool) (lv : List Value → List Value) (Φ : Shared → Thread → Prop),
    (∀ a p' s', Q a s' → EvM M Φ s' ⟨K a, c, p', st⟩) → (∀ e p' s', E e s' → EvM M Φ s' ⟨H e, c, p', st⟩) → EvM M Φ s ⟨t.wrap K H gd lv, c, p, st⟩
/-- what a code does -/
noncomputable def codeU (M : Model) (A : Around) (c : Code) (R : Result → Shared → Prop) (s : Shared) : Prop :=
  ∀ (p : Pos) (st : List Frame), (Ctx.of c st).Below A → ∀ (Φ : Shared → Thread → Prop), (∀ r s' c' p', R r s' → EvM M Φ s' ⟨leafOf r, c', p', st⟩) → EvM M Φ s ⟨M.den c, c, p, st⟩
section
variable {α β : Type} {M : Model} {A : Around} {s : Shared} {E E' : Value → Shared → Prop}
theorem up {t : Sem α} {Q : α → Shared → Prop} (h : wpAny M A t Q E s) : wpU M A t Q E s :=
  fun c p st hin K H gd lv Φ hK hH => up_go (Q := fun a _ s' => Q a s') (E := fun e _ s' => E e s') hK hH t p s (h _ p hin)
theorem wpU_mono {t : Sem α} {Q Q' : α → Shared → Prop} (h : wpU M A t Q E s) (hQ : ∀ a s, Q a s → Q' a s) (hE : ∀ e s, E e s → E' e s) : wpU M A t Q' E' s :=
  fun c p st hin K H gd lv Φ hK hH => h c p st hin K H gd lv Φ (fun a p' s' q => hK a p' s' (hQ a s' q)) fun e p' s' q => hH e p' s' (hE e s' q)
theorem wpU_pure {a : α} {Q : α → Shared → Prop} (h : Q a s) : wpU M A (pure a) Q E s := up (wpAny_pure h)
theorem wpU_throw {e : Value} {Q : α → Shared → Prop} (h : E e s) : wpU M A (throw e : Sem α) Q E s := up (wpAny_throw h)
theorem wpU_wrap {m : Sem α} {K₁ : α → Sem β} {H₁ : Value → Sem β} {g₁ : Bool → Bool} {l₁ : List Value → List Value} {Q : β → Shared → Prop} (h : wpU M A m (fun a s' => wpU M A (K₁ a) Q E s') (fun e s' => wpU M A (H₁ e) Q E s') s) : wpU M A (m.wrap K₁ H₁ g₁ l₁) Q E s := by
  intro c p st hin K H gd lv Φ hK hH
  rw [Sem.wrap_wrap]
  exact h c p st hin _ _ _ _ Φ (fun a p' s' q => q c p' st hin K H gd lv Φ hK hH) fun e p' s' q => q c p' st hin K H gd lv Φ hK hH
theorem wpU_bind {m : Sem α} {f : α → Sem β} {Q : β → Shared → Prop} (h : wpU M A m (fun a s' => wpU M A (f a) Q E s') E s) : wpU M A (m >>= f) Q E s := by
  rw [Sem.bind_eq_wrap']
  exact wpU_wrap (wpU_mono h (fun _ _ q => q) fun e s' q => wpU_throw q)
theorem wpU_tryCatch {m : Sem α} {k : Value → Sem α} {Q : α → Shared → Prop} (h : wpU M A m Q (fun e s' => wpU M A (k e) Q E s') s) : wpU M A (tryCatch m k) Q E s := by
  show wpU M A (m.tryCatch k) Q E s
  rw [Sem.tryCatch_eq_wrap]
  exact wpU_wrap (wpU_mono h (fun a s' q => wpU_pure q) fun _ _ q => q)
theorem wpU_onRaise {m : Sem α} {k : Value → Sem Unit} {Q : α → Shared → Prop} (h : wpU M A m Q (fun e s' => wpU M A (k e) (fun _ s'' => E e s'') E s') s) : wpU M A (m.onRaise k) Q E s := by
  rw [Sem.onRaise_eq_wrap]
  refine wpU_wrap (wpU_mono h (fun a s' q => wpU_pure q) fun e s' q => ?_)
  exact wpU_bind (f := fun _ => (throw e : Sem α)) (wpU_mono q (fun _ s'' x => wpU_throw x) fun _ _ x => x)
theorem wpU_attempt {m : Sem α} {Q : Except Value α → Shared → Prop} (h : wpU M A m (fun a => Q (.ok a)) (fun e => Q (.error e)) s) : wpU M A m.attempt Q E s := by
  unfold Sem.attempt
  exact wpU_tryCatch (wpU_bind (f := fun a => (pure (.ok a) : Sem (Except Value α))) (wpU_mono h (fun a s' q => wpU_pure q) fun e s' q => wpU_pure q))
theorem wpU_keep {vs : List Value} {m : Sem α} {Q : α → Shared → Prop} (h : wpU M A m Q E s) : wpU M A (m.keep vs) Q E s := by
  rw [Sem.keep_eq_wrap]
  exact wpU_wrap (wpU_mono h (fun a s' q => wpU_pure q) fun e s' q => wpU_throw q)
theorem wpU_holding {vs : List Value} {m : Sem α} {Q : α → Shared → Prop} (h : wpU M A m Q E s) : wpU M A (holding vs m) Q E s := by
  rw [PySem.holding_eq_keep]; exact wpU_keep h
theorem wpU_standAt {pos : Pos} {Q : Unit → Shared → Prop} (h : Q () s) : wpU M A (standAt pos) Q E s := up (wpAny_standAt h)
theorem wrap_id (t : Sem Fin) : t.wrap .pure .raise id id = t := by
  rw [← Sem.bind_eq_wrap]
  induction t <;> simp only [Sem.bind, *]
noncomputable def finU (M : Model) (A : Around) (R : Result → Shared → Prop) : Fin → Shared → Prop
  | .done f, s => R (.ok f) s
  | .again c, s => c.quiet = true ∧ codeU M A c R s
theorem codeU_of {c : Code} {R : Result → Shared → Prop} (h : wpU M (A.under c) (M.den c) (finU M A R) (fun e s' => R (.error e) s') s) : codeU M A c R s := by
  intro p st hb Φ hR
  rw [← wrap_id (M.den c)]
  refine h c p st hb.in _ _ _ _ Φ (fun f p' s' q => ?_) fun e p' s' q => hR (.error e) s' c p' q
  cases f with
  | done f => exact hR (.ok f) s' c p' q
  | again c' =>
    obtain ⟨hq, q⟩ := q
    exact ev_step (step_again M s' c p' st c' hq) (q p' st hb Φ hR)
theorem wpU_callT {c : Code} {h : Option Value} {g : Bool} {l : List Value} {k : Result → Sem α} {Q : α → Shared → Prop} (hc : codeU M (A.mark h) c (fun r s' => wpU M A (k r) Q E s') s) (hnb : h ≠ some byPass := by intro x; cases x) : wpU M A (.call c h g l k) Q E s := by
  intro c₀ p st hin K H gd lv Φ hK hH
  refine ev_step (step_call M s c₀ p st c h (gd g) (lv l) _) ?_
  have e : Ctx.of c (.ret (fun x => (k x).wrap K H gd lv) h (gd g) (lv l) c₀ p [] :: st) = (Ctx.of c₀ st).enter c h p := (ctx_fits (Ctx.Fits.enter (Ctx.fits_of c₀ st) c _ h (gd g) (lv l) p [])).symm
  refine hc p _ (by rw [e]; exact hin.enter c h p hnb) Φ fun r s' c' p' q => ?_
  exact ev_step (step_leaf_ret M s' c' p' st r _ h (gd g) (lv l) c₀ p []) (q c₀ p st hin K H gd lv Φ hK hH)
end
end Mine
end
section
open PySem PySem.W PyProof.Rows PySem.W.X PySem.SeqAt
namespace Mine
/-- what is asked where a generator gives a value; where it ends -/
noncomputable abbrev YP := Value → GenState → Shared → Prop
/-- the run of a generator's body, the frames fs above its own frame, to its next yield or its end -/
noncomputable def SegU (M : Model) (A : Around) (Y : YP) (R : Result → Shared → Prop) (c : Code) (t : Sem Fin) (fs : List Frame) (s : Shared) : Prop :=
  ∀ (p : Pos) (st : List Frame) (g : Nat) (k : GenResult → Sem Fin) (l : List Value) (c₁ : Code) (p₁ : Pos) (Φ : Shared → Thread → Prop), (Ctx.of c₁ st).In A →
    (∀ v gs' s', Y v gs' s' → EvM M Φ (s'.setGen g gs') ⟨k (.yielded v), c₁, p₁, st⟩) → (∀ r s', R r s' → EvM M Φ (s'.setGen g .finished) ⟨k (End.ret r).result, c₁, p₁, st⟩) → EvM M Φ s ⟨t, c, p, fs ++ .gen g k l c₁ p₁ :: st⟩
/-- a generator's state, woken by a next() -/
noncomputable def GoesU (M : Model) (A : Around) (Y : YP) (R : Result → Shared → Prop) (gs : GenState) (s : Shared) : Prop := match gs with
  | .fresh c => SegU M A Y R c (M.den c) [] s
  | .suspended k _ c _ fs _ => SegU M A Y R c (k (.send .none)) fs s
  | _ => False
theorem gen_ctx {A : Around} {c c₁ : Code} {fs st : List Frame} {g : Nat} {k : GenResult → Sem Fin} {l : List Value} {p₁ : Pos} (h : (Ctx.of c₁ st).In A) : (Ctx.of c (fs ++ .gen g k l c₁ p₁ :: st)).In (A.over c fs) := by
  rw [Ctx.of_append]
  have e : Ctx.of c (.gen g k l c₁ p₁ :: st) = (Ctx.of c₁ st).wake c p₁ := (ctx_fits (Ctx.Fits.wake (Ctx.fits_of c₁ st) c g k l p₁)).symm
  rw [e]
  exact (h.wake c p₁).over fs
section
variable {M : Model} {A : Around} {Y : YP} {R : Result → Shared → Prop} {c : Code} {fs : List Frame} {s : Shared}
theorem segU_wrap {α : Type} {m : Sem α} {K : α → Sem Fin} {H : Value → Sem Fin} {gd lv} (h : wpU M (A.over c fs) m (fun a s' => SegU M A Y R c (K a) fs s') (fun x s' => SegU M A Y R c (H x) fs s') s) : SegU M A Y R c (m.wrap K H gd lv) fs s :=
  fun p st g k l c₁ p₁ Φ hin hY hR => h c p _ (gen_ctx hin) K H gd lv Φ (fun a p' s' q => q p' st g k l c₁ p₁ Φ hin hY hR) fun e p' s' q => q p' st g k l c₁ p₁ Φ hin hY hR
theorem segU_bind {α : Type} {m : Sem α} {K : α → Sem Fin} (h : wpU M (A.over c fs) m (fun a s' => SegU M A Y R c (K a) fs s') (fun x s' => SegU M A Y R c (.raise x) fs s') s) : SegU M A Y R c (m >>= K) fs s := by
  rw [Sem.bind_eq_wrap']; exact segU_wrap h
theorem segU_at {p' : Pos} {k : Unit → Sem Fin} (h : SegU M A Y R c (k ()) fs s) : SegU M A Y R c (.at p' k) fs s :=
  segU_wrap (m := standAt p') (K := k) (H := .raise) (gd := id) (lv := id) (wpU_standAt h)
theorem segU_point {l : List Value} {k : Unit → Sem Fin} (h : SegU M A Y R c (k ()) fs s) : SegU M A Y R c (.point l k) fs s :=
  segU_wrap (m := point) (K := k) (H := .raise) (gd := id) (lv := fun _ => l) (up (wpAny_point h))
theorem segU_call {c' : Code} {h g l} {k : Result → Sem Fin} (hc : ∀ p, SegU M A Y R c' (M.den c') (.ret k h g l c p [] :: fs) s) : SegU M A Y R c (.call c' h g l k) fs s :=
  fun p st g' k' l' c₁ p₁ Φ hin hY hR => ev_step (step_call M s c p _ c' h g l k) (hc p p st g' k' l' c₁ p₁ Φ hin hY hR)
theorem segU_leaf {k h g l c₁ p₁ kp} (r : Result) (hk : SegU M A Y R c₁ (k r) fs s) : SegU M A Y R c (leafOf r) (.ret k h g l c₁ p₁ kp :: fs) s :=
  fun p st g' k' l' c₂ p₂ Φ hin hY hR => ev_step (step_leaf_ret M s c p _ r k h g l c₁ p₁ kp) (hk p₁ st g' k' l' c₂ p₂ Φ hin hY hR)
theorem segU_again {c' : Code} (hq : c'.quiet = true) (hc : SegU M A Y R c' (M.den c') fs s) : SegU M A Y R c (.pure (.again c')) fs s :=
  fun p st g' k' l' c₁ p₁ Φ hin hY hR => ev_step (step_again M s c p _ c' hq) (hc p st g' k' l' c₁ p₁ Φ hin hY hR)
theorem segU_end (r : Result) (h : R r s) : SegU M A Y R c (leafOf r) [] s :=
  fun p st g' k' l' c₁ p₁ Φ hin hY hR => ev_step (step_leaf_gen M s c p st r g' k' l' c₁ p₁) (hR r s h)
theorem split_gen {fs st : List Frame} {g : Nat} {k : GenResult → Sem Fin} {l : List Value} {c₁ : Code} {p₁ : Pos} (h : splitAtGen fs = none) : splitAtGen (fs ++ .gen g k l c₁ p₁ :: st) = some (fs, (g, k, c₁, p₁), st) := by
  rw [splitAtGen_append_none _ h, splitAtGen_gen]
  simp
/-- a yield that shows nothing -/
theorem segU_yield {v : Value} {gf : Bool} {l : List Value} {k : Resume → Sem Fin} (hfs : splitAtGen fs = none) (hs : closing0 s fs c gf = false) (h : ∀ p, Y v (.suspended k l c p fs (gf || fs.any Frame.guarded)) s) : SegU M A Y R c (.yield v gf l k) fs s :=
  fun p st g' k' l' c₁ p₁ Φ hin hY hR => by
    refine Ev.step (t' := ⟨k' (.yielded v), c₁, p₁, st⟩) (s' := s.setGen g' (.suspended k l c p fs (gf || fs.any Frame.guarded))) ?_ ?_ (hY v _ s (h p))
    · unfold calm2 mutedYield
      dsimp only
      rw [split_gen hfs]
      dsimp only
      rw [hs]
      exact Bool.or_true _
    · simp only [PySem.stepK, PySem.step, split_gen hfs]
      rfl
theorem closing_plain {fs : List Frame} (h : fs.any Frame.guarded = false) : closing0 s fs c false = false := by unfold closing0; rw [h]; rfl
/-- out of «yield from» a generator object -/
theorem closing_from {fs : List Frame} {a : Addr} {rest : List Value} {kw : List (Str × Value)} {o : Obj} (h : fs.any Frame.guarded = false) (ho : s.heap.get? a = some o) (hg : o.genNumber?.isSome = true) (gf : Bool) : closing0 s fs (.builtin "proto.yield_from" ⟨.ref a :: rest, kw⟩) gf = false := by
  unfold closing0
  rw [h]
  show (gf && delegate0 s (.ref a)) = false
  unfold delegate0
  dsimp only
  rw [ho]
  dsimp only
  rw [hg]
  cases gf <;> rfl
end
end Mine
end
section
open PySem PySem.W PyProof.Rows PySem.W.X PySem.SeqAt
namespace Mine
/-- a generator object; k delegators sleep over it -/
noncomputable def GenAt (h : Heap) (a : Addr) (g : Nat) (k : Int) : Prop :=
  ∃ o nm qn, h.get? a = some o ∧ o.cls = .type "generator" ∧ o.data = .fields #[.int g 0, nm, qn] ∧ ((o.slots = #[] ∧ k = 0) ∨ o.slots = #[some (rawInt k)])
theorem GenAt.of {h : Heap} {a : Addr} {g : Nat} (x : h.IsGen a g) : GenAt h a g 0 := let ⟨o, nm, qn, h1, h2, h3, h4⟩ := x; ⟨o, nm, qn, h1, h2, h3, .inl ⟨h4, rfl⟩⟩
theorem GenAt.at {h h' : Heap} {a : Addr} {g : Nat} {k : Int} (x : GenAt h a g k) (hk : ∀ o, h.get? a = some o → h'.get? a = some o) : GenAt h' a g k := let ⟨o, nm, qn, h1, r⟩ := x; ⟨o, nm, qn, hk _ h1, r⟩
theorem GenAt.typeIs {s : Shared} {a g k} (x : GenAt s.heap a g k) : s.TypeIs (.ref a) "generator" := let ⟨o, _, _, ho, hc, _⟩ := x; ⟨o, ho, hc⟩
noncomputable abbrev yfC (a : Nat) : Code := .builtin "proto.yield_from" ⟨[.ref a, .bool false, .none], []⟩
/-- what is left of a generator's frame: its own end; a for loop and what is behind it; statements behind -/
inductive Kt where
  | top (body : List Stmt)
  | loop (tgt : Expr) (I : Nat) (lb rest : List Stmt) (k : Kt)
  | seq (rest : List Stmt) (k : Kt)
/-- the frame's code, the frames above it, what follows a suite, what an exception does -/
noncomputable abbrev SegM (prog : Program) (w : World) (A : Around) (Y : YP) (R : Result → Shared → Prop) (c : Code) (t : Sem Fin) (fs : List Frame) (s : Shared) : Prop := SegU (model prog w) A Y R c t fs s
noncomputable def CxIs (env : Env) : Kt → Code → List Frame → (Flow → Sem Fin) → (Value → Sem Fin) → Prop
  | .top body, c, fs, K, Hd => c = .func body env ∧ fs = [] ∧ K = (fun f => .pure (.done (.ret (match f with | .ret v => v | _ => .none)))) ∧ Hd = fun e => (leaving env e).wrap (fun _ => .raise e) .raise id id
  | .loop tgt I lb rest k, c, fs, K, Hd => ∃ kf lf p c' fs' K' Hd', c = .forLoop tgt (.ref I) lb [] env ∧ fs = .ret kf none false lf c' p [] :: fs' ∧ CxIs env k c' fs' K' Hd' ∧
      ∀ (prog : Program) (w : World) (A : Around) (Y : YP) (R : Result → Shared → Prop) (s : Shared),
        (SegM prog w A Y R c (denote table c) fs s → SegM prog w A Y R c (K .next) fs s) ∧
        (∀ v, SegM prog w A Y R c (leafOf (.ok (.ret v))) fs s → SegM prog w A Y R c (K (.ret v)) fs s) ∧
        (∀ e, wpAny (model prog w) (A.over c fs) (noteFrame e env) (fun _ s' => SegM prog w A Y R c (leafOf (.error e)) fs s') (fun _ _ => False) s → SegM prog w A Y R c (Hd e) fs s) ∧
        (SegM prog w A Y R c' ((execs rest env).wrap K' Hd' id id) fs' s → SegM prog w A Y R c' (kf (.ok .next)) fs' s) ∧
        (∀ v, SegM prog w A Y R c' (K' (.ret v)) fs' s → SegM prog w A Y R c' (kf (.ok (.ret v))) fs' s) ∧
        (∀ e, wpAny (model prog w) (A.over c' fs') (do
          if (← field e 1) == .none then unsupported "frame.own-activation:exception-without-traceback"
          setFlight e env.frame) (fun _ s' => SegM prog w A Y R c' (Hd' e) fs' s') (fun _ _ => False) s → SegM prog w A Y R c' (kf (.error e)) fs' s)
  | .seq rest k, c, fs, K, Hd => ∃ K', CxIs env k c fs K' Hd ∧ K = fun f => match f with | .next => (execs rest env).wrap K' Hd id id | f => K' f
/-- a generator asleep: at a yield, or in «yield from» the generator object y; then rest, in k -/
noncomputable def Slp (z : GenState) (env : Env) (rest : List Stmt) (k : Kt) : Option Nat → Prop
  | none => ∃ c fs K Hd, CxIs env k c fs K Hd ∧ ∀ (prog : Program) (w : World) (A : Around) (Y : YP) (R : Result → Shared → Prop) (s : Shared), SegM prog w A Y R c ((execs rest env).wrap K Hd id id) fs s → GoesU (model prog w) A Y R z s
  | some a => ∃ c fs K Hd kf lf p, CxIs env k c fs K Hd ∧ ∀ (prog : Program) (w : World) (A : Around) (Y : YP) (R : Result → Shared → Prop) (s : Shared),
      (wpAny (model prog w) (A.over (yfC a) (.ret kf none false lf c p [] :: fs)) (Builtin.Generator.sleptOver (.ref a) false) (fun _ s' => SegM prog w A Y R (yfC a) (denote table (yfC a)) (.ret kf none false lf c p [] :: fs) s') (fun _ _ => False) s → GoesU (model prog w) A Y R z s) ∧
      (SegM prog w A Y R c ((execs rest env).wrap K Hd id id) fs s → SegM prog w A Y R c (kf (.ok (.ret .none))) fs s) ∧
      (∀ e, SegM prog w A Y R c (Hd e) fs s → SegM prog w A Y R c (kf (.error e)) fs s)
end Mine
end
section
open PySem PySem.W PyProof.Rows PySem.W.X
namespace Mine
/-- values without their tokens and addresses -/
inductive V where
  | none
  | bool (b : Bool)
  | int (i : Int)
  | flt (x : UInt64)
  | str (s : Str)
  | ty (n : String)
  | bi (n : String)
  | st (a : Nat)
  | ref (i : Nat)
  | rng (a b : Int)
  | tup (xs : List V)
  | sub (c : Nat) (xs : List V)
noncomputable abbrev Names := List (Str × Option V)
noncomputable def getL (m : Names) (x : Str) : Option V := (m.lookup x).join
noncomputable def setL : Names → Str → V → Names
  | [], x, v => [(x, some v)]
  | (y, u) :: m, x, v => if x = y then (y, some v) :: m else (y, u) :: setL m x v
theorem getL_setL (m : Names) (x : Str) (v : V) (y : Str) : getL (setL m x v) y = if y = x then some v else getL m y := by
  induction m with
  | nil =>
    unfold setL getL
    rw [List.lookup_cons]
    by_cases e : y = x
    · rw [if_pos e, e, beq_self_eq_true]; rfl
    · rw [if_neg e, show (y == x) = false by simpa using e]
  | cons p m ih =>
    obtain ⟨z, u⟩ := p
    unfold setL
    by_cases e : x = z
    · rw [if_pos e]
      unfold getL
      rw [List.lookup_cons, List.lookup_cons]
      by_cases q : y = x
      · rw [if_pos q, q, e, beq_self_eq_true]; rfl
      · have : (y == z) = false := by simpa using (fun h => q (h.trans e.symm))
        rw [if_neg q, this]
    · rw [if_neg e]
      unfold getL at ih ⊢
      rw [List.lookup_cons, List.lookup_cons]
      by_cases q : y = z
      · rw [show (y == z) = true by simpa using q, if_neg (fun h => e (h.symm.trans q))]
      · rw [show (y == z) = false by simpa using q]
        exact ih
/-- a frame's kind: its scope; are its cells its own -/
structure FI where
  sc : Scope
  own : Bool
  co : Value
noncomputable def ownA (fi : FI) (env : Env) : List Nat := if fi.own = true then env.locals :: env.cells.map (·.2) else [env.locals]
theorem loc_own (fi : FI) (env : Env) : env.locals ∈ ownA fi env := by unfold ownA; split <;> exact .head _
/-- the objects that a call owns, without addresses; a generator that has not begun; one that is used up -/
inductive O where
  | list (xs : List V)
  | arr (xs : List V)
  | inst (C : Nat) (fs : List (Str × V))
  | tbl (P : Nat) (ps : Array Value)
  | fresh (fi : FI) (body : List Stmt) (m : Names)
  | gone
  | done
  | slp (a : Nat) (fi : FI) (m : Names) (rest : List Stmt) (k : Kt) (y : Option Nat) (n : Int)
  | rit (I : Nat) (lo : Int) (n : Nat)
  | tit (I : Nat) (xs : List V) (i : Nat)
  | lit (I : Nat) (l : Nat) (i : Nat)
structure Ent where
  a : Nat
  fp : List Nat
  g : Option (Nat × Env)
/-- what stands: objects; the frames that stand, the innermost first -/
structure Base where
  f : Nat → Option Obj
  fr : List Env
noncomputable def Base.lo (F : Base) : List Nat := F.fr.filterMap (·.frame)
/-- the same, but for a frame's slots -/
noncomputable def UpS (L : List Nat) (b : Nat) (o o' : Obj) : Prop := o' = o ∨ (b ∈ L ∧ ∃ sl, o' = { o with slots := sl })
theorem UpS.refl {L : List Nat} {b : Nat} {o : Obj} : UpS L b o o := .inl rfl
theorem UpS.same {L : List Nat} {b : Nat} {o o' : Obj} (h : UpS L b o o') : o'.cls = o.cls ∧ o'.data = o.data ∧ o'.dict = o.dict := by
  rcases h with rfl | ⟨_, sl, rfl⟩ <;> exact ⟨rfl, rfl, rfl⟩
theorem UpS.trans {L : List Nat} {b : Nat} {o o' o'' : Obj} (h : UpS L b o o') (h' : UpS L b o' o'') : UpS L b o o'' := by
  rcases h with rfl | ⟨m, sl, rfl⟩
  · exact h'
  · rcases h' with rfl | ⟨_, sl', rfl⟩
    · exact .inr ⟨m, sl, rfl⟩
    · exact .inr ⟨m, sl', rfl⟩
theorem UpS.mono {L L' : List Nat} {b : Nat} {o o' : Obj} (h : UpS L b o o') (hL : ∀ x ∈ L, x ∈ L') : UpS L' b o o' := by
  rcases h with rfl | ⟨m, sl, rfl⟩
  · exact .inl rfl
  · exact .inr ⟨hL _ m, sl, rfl⟩
noncomputable def KeepG (F : Base) (h : Heap) : Prop := ∀ b o, F.f b = some o → ∃ o', h.get? b = some o' ∧ UpS F.lo b o o'
/-- every frame that stands is among the objects -/
noncomputable def FrIn (F : Base) : Prop := ∀ e ∈ F.fr, e.scope.kind ≠ .module ∧ ∃ L o, e.frame = some L ∧ F.f L = some o ∧ ∃ es ep, o.data = .dict es ep
noncomputable abbrev Keep (h h' : Heap) : Prop := ∀ b o, h.get? b = some o → h'.get? b = some o
/-- objects that are never turned -/
noncomputable def Imm (o : Obj) : Prop := ((∃ xs n, o.data = .seq xs n) ∧ o.cls ≠ .type "list") ∨ (o.cls = .type "range" ∧ ∃ vs, o.data = .fields vs)
noncomputable def TK (h h' : Heap) : Prop := ∀ b o, h.get? b = some o → Imm o → h'.get? b = some o
theorem TK.refl (h : Heap) : TK h h := fun _ _ e _ => e
theorem TK.trans {h h' h'' : Heap} (x : TK h h') (y : TK h' h'') : TK h h'' := fun b o e i => y b o (x b o e i) i
theorem TK.of_keep {h h' : Heap} (k : Keep h h') : TK h h' := fun b o e _ => k b o e
theorem TK.of_ext {h h' : Heap} {a : Nat} (x : ∀ b o, b ≠ a → h.get? b = some o → h'.get? b = some o) (ha : ∀ o, h.get? a = some o → ¬ Imm o) : TK h h' := fun b o e i => x b o (fun q => ha o (q ▸ e) i) e
/-- what stands behind the top, in every heap of the call -/
structure Bs (w : World) (KF : Frag) (h : Heap) : Prop where
  k : Frag.In KF h
  g : ∃ mg, h.Ns mainGlobals mg
  lim : h.NoLimit
  bi : ∃ mb, h.Ns builtinsNs mb ∧ ∀ x : Str, x ≠ "__name__" → mb x = bootBuiltins x
  dig : ∃ mc, h.Ns cStatics mc ∧ mc "sys.int_max_str_digits" = none
noncomputable def IsRng (h : Heap) (r : Nat) (a b : Int) : Prop := ∃ t u k, IsRange h r a b 1 t u k
noncomputable def IsSub (h : Heap) (a c : Nat) (vs : Array Value) : Prop := ∃ o, h.get? a = some o ∧ o.cls = .ref c ∧ ∃ n, o.data = .seq vs n
mutual
noncomputable def VR (ρ : List Ent) (h : Heap) : V → Value → Prop
  | .none, v => v = .none
  | .bool b, v => v = .bool b
  | .int i, v => ∃ t, v = .int i t
  | .flt x, v => ∃ t, v = .float x t
  | .str x, v => ∃ t, v = .str x t
  | .ty n, v => v = .type n
  | .bi n, v => v = .builtin n
  | .st a, v => v = .ref a
  | .ref i, v => ∃ e, ρ[i]? = some e ∧ v = .ref e.a
  | .rng a b, v => ∃ r, v = .ref r ∧ IsRng h r a b
  | .tup xs, v => ∃ a vs, v = .ref a ∧ h.IsTuple a vs.toArray ∧ VRs ρ h xs vs
  | .sub c xs, v => ∃ a vs, v = .ref a ∧ IsSub h a c vs.toArray ∧ VRs ρ h xs vs
noncomputable def VRs (ρ : List Ent) (h : Heap) : List V → List Value → Prop
  | [], vs => vs = []
  | x :: xs, vs => ∃ v r, vs = v :: r ∧ VR ρ h x v ∧ VRs ρ h xs r
end
theorem tk_tuple {h h' : Heap} {a : Nat} {vs : Array Value} (k : TK h h') (x : h.IsTuple a vs) : h'.IsTuple a vs := by
  obtain ⟨o, ho, hc, n, hd⟩ := x
  exact ⟨o, k a o ho (.inl ⟨⟨_, _, hd⟩, by rw [hc]; decide⟩), hc, n, hd⟩
theorem tk_sub {h h' : Heap} {a c : Nat} {vs : Array Value} (k : TK h h') (x : IsSub h a c vs) : IsSub h' a c vs := by
  obtain ⟨o, ho, hc, n, hd⟩ := x
  exact ⟨o, k a o ho (.inl ⟨⟨_, _, hd⟩, by rw [hc]; exact fun q => nomatch q⟩), hc, n, hd⟩
theorem tk_rng {h h' : Heap} {r : Nat} {a b : Int} (k : TK h h') (x : IsRng h r a b) : IsRng h' r a b := by
  obtain ⟨t, u, q, ho⟩ := x
  exact ⟨t, u, q, k r _ ho (.inr ⟨rfl, _, rfl⟩)⟩
theorem pre_get {ρ ρ' : List Ent} (p : ρ <+: ρ') {i : Nat} {e : Ent} (h : ρ[i]? = some e) : ρ'[i]? = some e := by
  obtain ⟨t, rfl⟩ := p
  rw [List.getElem?_append_left (List.getElem?_eq_some_iff.mp h).1]
  exact h
mutual
theorem VR.mono {ρ ρ' : List Ent} {h h' : Heap} (p : ρ <+: ρ') (k : TK h h') : ∀ {x : V} {v : Value}, VR ρ h x v → VR ρ' h' x v
  | .none, v, r => by unfold VR at r ⊢; exact r
  | .bool b, v, r => by unfold VR at r ⊢; exact r
  | .int i, v, r => by unfold VR at r ⊢; exact r
  | .flt x, v, r => by unfold VR at r ⊢; exact r
  | .str x, v, r => by unfold VR at r ⊢; exact r
  | .ty n, v, r => by unfold VR at r ⊢; exact r
  | .bi n, v, r => by unfold VR at r ⊢; exact r
  | .st a, v, r => by unfold VR at r ⊢; exact r
  | .ref i, v, r => by unfold VR at r ⊢; obtain ⟨e, q, z⟩ := r; exact ⟨e, pre_get p q, z⟩
  | .rng a b, v, r => by unfold VR at r ⊢; obtain ⟨e, q, z⟩ := r; exact ⟨e, q, tk_rng k z⟩
  | .tup xs, v, r => by unfold VR at r ⊢; obtain ⟨a, vs, q, z, y⟩ := r; exact ⟨a, vs, q, tk_tuple k z, VRs.mono p k y⟩
  | .sub c xs, v, r => by unfold VR at r ⊢; obtain ⟨a, vs, q, z, y⟩ := r; exact ⟨a, vs, q, tk_sub k z, VRs.mono p k y⟩
theorem VRs.mono {ρ ρ' : List Ent} {h h' : Heap} (p : ρ <+: ρ') (k : TK h h') : ∀ {xs : List V} {vs : List Value}, VRs ρ h xs vs → VRs ρ' h' xs vs
  | [], vs, r => by unfold VRs at r ⊢; exact r
  | x :: xs, vs, r => by unfold VRs at r ⊢; obtain ⟨v, q, e, a, b⟩ := r; exact ⟨v, q, e, VR.mono p k a, VRs.mono p k b⟩
end
theorem VRs.nil {ρ : List Ent} {h : Heap} : VRs ρ h [] [] := by unfold VRs; rfl
theorem VRs.cons {ρ : List Ent} {h : Heap} {x : V} {v : Value} {xs : List V} {vs : List Value} (a : VR ρ h x v) (b : VRs ρ h xs vs) : VRs ρ h (x :: xs) (v :: vs) := by unfold VRs; exact ⟨v, vs, rfl, a, b⟩
theorem VRs.nil_eq {ρ : List Ent} {h : Heap} {vs : List Value} (r : VRs ρ h [] vs) : vs = [] := by unfold VRs at r; exact r
theorem VRs.cons_eq {ρ : List Ent} {h : Heap} {x : V} {xs : List V} {vs : List Value} (r : VRs ρ h (x :: xs) vs) : ∃ v q, vs = v :: q ∧ VR ρ h x v ∧ VRs ρ h xs q := by unfold VRs at r; exact r
theorem VRs.len {ρ : List Ent} {h : Heap} : ∀ {xs : List V} {vs : List Value}, VRs ρ h xs vs → vs.length = xs.length
  | [], vs, r => by rw [r.nil_eq]; rfl
  | x :: xs, vs, r => by obtain ⟨v, q, rfl, _, b⟩ := r.cons_eq; rw [List.length_cons, List.length_cons, VRs.len b]
theorem VRs.get {ρ : List Ent} {h : Heap} : ∀ {xs : List V} {vs : List Value} {i : Nat} {x : V}, VRs ρ h xs vs → xs[i]? = some x → ∃ v, vs[i]? = some v ∧ VR ρ h x v
  | [], _, _, _, _, e => by cases e
  | x :: xs, vs, 0, y, r, e => by obtain ⟨v, q, rfl, a, _⟩ := r.cons_eq; cases e; exact ⟨v, rfl, a⟩
  | x :: xs, vs, i + 1, y, r, e => by obtain ⟨v, q, rfl, _, b⟩ := r.cons_eq; exact VRs.get (xs := xs) (i := i) b (by simpa using e)
theorem VRs.get' {ρ : List Ent} {h : Heap} : ∀ {xs : List V} {vs : List Value} {i : Nat} {v : Value}, VRs ρ h xs vs → vs[i]? = some v → ∃ x, xs[i]? = some x ∧ VR ρ h x v
  | [], vs, _, _, r, e => by rw [r.nil_eq] at e; cases e
  | x :: xs, vs, 0, y, r, e => by obtain ⟨v, q, rfl, a, _⟩ := r.cons_eq; cases e; exact ⟨x, rfl, a⟩
  | x :: xs, vs, i + 1, y, r, e => by obtain ⟨v, q, rfl, _, b⟩ := r.cons_eq; exact VRs.get' (vs := q) (i := i) b (by simpa using e)
theorem VRs.append {ρ : List Ent} {h : Heap} : ∀ {xs : List V} {vs : List Value} {ys : List V} {us : List Value}, VRs ρ h xs vs → VRs ρ h ys us → VRs ρ h (xs ++ ys) (vs ++ us)
  | [], vs, _, _, r, y => by rw [r.nil_eq]; exact y
  | x :: xs, vs, _, _, r, y => by obtain ⟨v, q, rfl, a, b⟩ := r.cons_eq; exact .cons a (VRs.append b y)
/-- what is known of a name; none: nothing -/
noncomputable def OVR (ρ : List Ent) (h : Heap) : Option V → Option Value → Prop
  | none, _ => True
  | some x, some v => VR ρ h x v
  | some _, none => False
theorem OVR.mono {ρ ρ' : List Ent} {h h' : Heap} (p : ρ <+: ρ') (k : TK h h') : ∀ {x : Option V} {v : Option Value}, OVR ρ h x v → OVR ρ' h' x v
  | none, _, _ => trivial
  | some _, some _, r => VR.mono p k r
  | some _, none, r => r.elim
theorem OVR.some_of {ρ : List Ent} {h : Heap} {x : V} {v : Option Value} (r : OVR ρ h (some x) v) : ∃ u, v = some u ∧ VR ρ h x u := by
  cases v with
  | none => exact r.elim
  | some u => exact ⟨u, rfl, r⟩
noncomputable def fps (ρ : List Ent) : List Nat := ρ.flatMap (·.fp)
/-- an instance's dict -/
noncomputable def FsR (ρ : List Ent) (h : Heap) (fs : List (Str × V)) (mA : Str → Option Value) : Prop := ∀ n, match fs.lookup n with | some v => ∃ u, mA n = some u ∧ VR ρ h v u | none => mA n = none
theorem FsR.mono {ρ ρ' : List Ent} {h h' : Heap} {fs : List (Str × V)} {mA : Str → Option Value} (x : FsR ρ h fs mA) (p : ρ <+: ρ') (k : TK h h') : FsR ρ' h' fs mA := fun n => by
  have := x n
  split at this
  · obtain ⟨u, h1, h2⟩ := this; exact ⟨u, h1, h2.mono p k⟩
  · exact this
/-- rows of a code's table: line, column, code -/
noncomputable def Triples (l : List Value) : Prop := TriplesOk l
/-- a frame that stands -/
structure FrameAt (fi : FI) (env : Env) (m : Names) (ρ : List Ent) (h : Heap) : Prop where
  es : env.scope = fi.sc
  eg : env.globals = mainGlobals
  eb : env.builtins = builtinsNs
  ec : env.code = fi.co
  ek : fi.sc.kind = .function
  ef : env.frame = some env.locals
  ns : ∃ mv, h.Ns env.locals mv ∧ ∀ x, fi.sc.names.lookup x = some .local → OVR ρ h (getL m x) (mv x)
  cl : ∀ x c, env.cells.lookup x = some c → ∃ ov, h.IsCell c ov ∧ OVR ρ h (getL m x) ov
  ce : ∀ x, (fi.sc.names.lookup x = some .cell ∨ fi.sc.names.lookup x = some .free) → ∃ c, env.cells.lookup x = some c
  cn : ∀ x, fi.sc.names.lookup x = some .local → env.cells.lookup x = none
  cu : ∀ x c, (x, c) ∈ env.cells → env.cells.lookup x = some c ∧ c ≠ env.locals
  cd : env.cells.Pairwise fun x y => x.2 ≠ y.2
theorem FrameAt.mono {fi : FI} {env : Env} {m : Names} {ρ ρ' : List Ent} {h h' : Heap} (f : FrameAt fi env m ρ h) (hw : fi.own = true) (p : ρ <+: ρ') (t : TK h h') (hk : ∀ b ∈ ownA fi env, ∀ q, h.get? b = some q → h'.get? b = some q) : FrameAt fi env m ρ' h' := by
  refine ⟨f.es, f.eg, f.eb, f.ec, f.ek, f.ef, ?_, fun x c hc => ?_, f.ce, f.cn, f.cu, f.cd⟩
  · obtain ⟨mv, ⟨o, es, ep, ho, r⟩, hv⟩ := f.ns
    exact ⟨mv, ⟨o, es, ep, hk _ (loc_own fi env) o ho, r⟩, fun x hx => (hv x hx).mono p t⟩
  · obtain ⟨ov, ⟨o, ho, hd⟩, hv⟩ := f.cl x c hc
    exact ⟨ov, ⟨o, hk c (by unfold ownA; rw [if_pos hw]; exact .tail _ (List.mem_map.mpr ⟨_, mem_of_lookup hc, rfl⟩)) o ho, hd⟩, hv.mono p t⟩
/-- what a generator's number stands for -/
noncomputable def GR (gs : Array GenState) (e : Ent) : O → Prop
  | .fresh _ body _ => ∃ g env, e.g = some (g, env) ∧ gs[g]? = some (.fresh (.func body env))
  | .gone => ∀ x, e.g = some x → x.1 < gs.size
  | .done => ∃ g env, e.g = some (g, env) ∧ gs[g]? = some .finished
  | .slp _ _ _ rest k y _ => ∃ g env z, e.g = some (g, env) ∧ gs[g]? = some z ∧ Slp z env rest k y
  | _ => True
noncomputable def OR (F : Base) (ρ : List Ent) (h : Heap) (e : Ent) : O → Prop
  | .list xs => e.fp = [e.a] ∧ e.g = none ∧ ∃ vs : List Value, h.PlainList e.a vs.toArray ∧ VRs ρ h xs vs
  | .arr xs => e.fp = [] ∧ e.g = none ∧ (∃ vs : List Value, h.IsList e.a vs.toArray ∧ VRs ρ h xs vs) ∧ (F.f e.a).isSome = true
  | .inst C fs => e.g = none ∧ ∃ dx, e.fp = [e.a, dx] ∧ ∃ o mA, h.get? e.a = some o ∧ o.cls = .ref C ∧ (∀ c, o.data ≠ .cls c) ∧ o.dict = some dx ∧ h.Ns1 dx mA ∧ FsR ρ h fs mA
  | .tbl P ps => e.a = P ∧ e.fp = [e.a] ∧ e.g = none ∧ ∃ more : List Value, Triples (ps.toList ++ more) ∧ h.get? e.a = some { cls := .none, data := .fields (ps ++ more.toArray) }
  | .fresh fi body m => ∃ g env, e.g = some (g, env) ∧ e.fp = e.a :: ownA fi env ∧ h.IsGen e.a g ∧ fi.own = true ∧ interactive env = false ∧ FrameAt fi env m ρ h
  | .gone => e.a ∈ e.fp ∨ e.g.isSome = true
  | .done => ∃ g env r, e.g = some (g, env) ∧ e.fp = e.a :: r ∧ GenAt h e.a g 0
  | .slp a fi m _ _ _ n => e.a = a ∧ ∃ g env, e.g = some (g, env) ∧ e.fp = e.a :: ownA fi env ∧ GenAt h e.a g n ∧ fi.own = true ∧ interactive env = false ∧ FrameAt fi env m ρ h
  | .rit I lo n => e.a = I ∧ e.fp = [e.a] ∧ e.g = none ∧ IsRangeIter h e.a lo n 1
  | .tit I xs i => e.a = I ∧ e.fp = [e.a] ∧ e.g = none ∧ ∃ a vs, h.IsTupleIter e.a a i ∧ h.IsTuple a (List.toArray vs) ∧ VRs ρ h xs vs
  | .lit I l i => e.a = I ∧ e.fp = [e.a] ∧ e.g = none ∧ ∃ e', ρ[l]? = some e' ∧ h.IsListIter e.a e'.a i
theorem UpS.ex {L : List Nat} {b : Nat} {o o' : Obj} (h : UpS L b o o') (hb : b ∉ L) : o' = o := by
  rcases h with e | ⟨m, _⟩
  · exact e
  · exact absurd m hb
theorem FrIn.off {F : Base} (h : FrIn F) {b : Nat} (hb : F.f b = none) : b ∉ F.lo := fun q => by
  obtain ⟨e, he, hf⟩ := List.mem_filterMap.mp q
  obtain ⟨_, L, o, h2, h3, _⟩ := h e he
  rw [hf] at h2
  cases h2
  rw [hb] at h3
  cases h3
theorem isList_up {h h' : Heap} {L : List Nat} {a : Nat} {q : Obj} {xs : Array Value} (x : h.IsList a xs) (k : ∃ o', h.get? a = some o' ∧ UpS L a q o') (k' : ∃ o', h'.get? a = some o' ∧ UpS L a q o') : h'.IsList a xs := by
  obtain ⟨o, ho, hc, n, hd⟩ := x
  obtain ⟨o1, h1, u1⟩ := k
  obtain ⟨o2, h2, u2⟩ := k'
  rw [ho] at h1
  cases h1
  exact ⟨o2, h2, u2.same.1.trans (u1.same.1.symm.trans hc), n, u2.same.2.1.trans (u1.same.2.1.symm.trans hd)⟩
theorem ns1_at {h h' : Heap} {a : Nat} {m : Str → Option Value} (x : h.Ns1 a m) (hk : ∀ o, h.get? a = some o → h'.get? a = some o) : h'.Ns1 a m := by
  obtain ⟨o, es, ep, ho, r⟩ := x
  exact ⟨o, es, ep, hk _ ho, r⟩
/-- an object of the call's stands where nothing of its own is touched -/
theorem OR.mono {F : Base} {ρ ρ' : List Ent} {h h' : Heap} {e : Ent} {o : O} (x : OR F ρ h e o) (p : ρ <+: ρ') (t : TK h h') (kF : KeepG F h) (kF' : KeepG F h') (hk : ∀ b ∈ e.fp, ∀ q, h.get? b = some q → h'.get? b = some q) : OR F ρ' h' e o := by
  cases o with
  | list xs =>
    obtain ⟨a, b, vs, l, r⟩ := x
    exact ⟨a, b, vs, l.at (hk e.a (by rw [a]; exact .head _)), r.mono p t⟩
  | arr xs =>
    obtain ⟨a, b, ⟨vs, l, r⟩, f⟩ := x
    obtain ⟨q, hq⟩ := Option.isSome_iff_exists.mp f
    exact ⟨a, b, ⟨vs, isList_up l (kF _ _ hq) (kF' _ _ hq), r.mono p t⟩, f⟩
  | inst C fs =>
    obtain ⟨a, dx, b, o, mA, h1, h2, h3, h4, h6, h7⟩ := x
    exact ⟨a, dx, b, o, mA, hk e.a (by rw [b]; exact .head _) _ h1, h2, h3, h4, ns1_at h6 (hk dx (by rw [b]; exact .tail _ (.head _))), h7.mono p t⟩
  | tbl P ps =>
    obtain ⟨z, a, b, more, h0, h1⟩ := x
    exact ⟨z, a, b, more, h0, hk e.a (by rw [a]; exact .head _) _ h1⟩
  | fresh fi body m =>
    obtain ⟨g, env, h1, h2, ⟨o, nm, qn, ho, r⟩, h4, h5, h6⟩ := x
    exact ⟨g, env, h1, h2, ⟨o, nm, qn, hk e.a (by rw [h2]; exact .head _) _ ho, r⟩, h4, h5, h6.mono h4 p t fun b hb => hk b (by rw [h2]; exact .tail _ hb)⟩
  | gone => exact x
  | done =>
    obtain ⟨g, env, r, h1, h2, h3⟩ := x
    exact ⟨g, env, r, h1, h2, h3.at (hk e.a (by rw [h2]; exact .head _))⟩
  | slp a fi m rest k y n =>
    obtain ⟨h0, g, env, h1, h2, h3, h4, h5, h6⟩ := x
    exact ⟨h0, g, env, h1, h2, h3.at (hk e.a (by rw [h2]; exact .head _)), h4, h5, h6.mono h4 p t fun b hb => hk b (by rw [h2]; exact .tail _ hb)⟩
  | tit I xs i =>
    obtain ⟨z, a, b, r, vs, ⟨o, ho, q⟩, h2, h3⟩ := x
    exact ⟨z, a, b, r, vs, ⟨o, hk e.a (by rw [a]; exact .head _) _ ho, q⟩, tk_tuple t h2, h3.mono p t⟩
  | lit I l i =>
    obtain ⟨z, a, b, e', he', ⟨o, ho, q⟩⟩ := x
    exact ⟨z, a, b, e', pre_get p he', ⟨o, hk e.a (by rw [a]; exact .head _) _ ho, q⟩⟩
  | rit I lo n =>
    obtain ⟨z, a, b, h1⟩ := x
    exact ⟨z, a, b, hk e.a (by rw [a]; exact .head _) _ h1⟩
theorem OR.base {F F' : Base} {ρ : List Ent} {h : Heap} {e : Ent} {o : O} (x : OR F ρ h e o) (hF : ∀ b o, F.f b = some o → F'.f b = some o) : OR F' ρ h e o := by
  cases o with
  | arr xs =>
    obtain ⟨a, b, l, f⟩ := x
    obtain ⟨q, hq⟩ := Option.isSome_iff_exists.mp f
    exact ⟨a, b, l, by rw [hF _ _ hq]; rfl⟩
  | _ => exact x
theorem OR.own {F : Base} {ρ : List Ent} {h : Heap} {e : Ent} {o : O} (x : OR F ρ h e o) : (∃ xs, o = .arr xs) ∨ e.a ∈ e.fp ∨ e.g.isSome = true := by
  cases o with
  | arr xs => exact .inl ⟨xs, rfl⟩
  | list xs => right; left; rw [x.1]; exact .head _
  | inst C fs => right; left; obtain ⟨_, dx, b, _⟩ := x; rw [b]; exact .head _
  | tbl P ps => right; left; rw [x.2.1]; exact .head _
  | fresh fi body m => right; left; obtain ⟨g, env, h1, h2, _⟩ := x; rw [h2]; exact .head _
  | gone => exact .inr x
  | done => right; left; obtain ⟨_, _, _, _, h2, _⟩ := x; rw [h2]; exact .head _
  | slp a fi m rest k y n => right; left; obtain ⟨_, _, _, _, h2, _⟩ := x; rw [h2]; exact .head _
  | tit I xs i => right; left; rw [x.2.1]; exact .head _
  | lit I l i => right; left; rw [x.2.1]; exact .head _
  | rit I lo n => right; left; rw [x.2.1]; exact .head _
/-- asleep in «yield from» -/
noncomputable def isY : O → Bool
  | .slp _ _ _ _ _ (some _) _ => true
  | _ => false
/-- a generator left with a cleanup is one asleep in «yield from» -/
noncomputable def NBare (ρ : List Ent) (H : List O) (gs : Array GenState) : Prop := ∀ (k : Nat) z, gs[k]? = some z → z.bare = true ∨ ∃ (i : Nat) (e : Ent) (o : O) (env : Env), ρ[i]? = some e ∧ e.g = some (k, env) ∧ H[i]? = some o ∧ isY o = true
theorem NBare.app {ρ : List Ent} {H : List O} {gs : Array GenState} (h : NBare ρ H gs) {e : Ent} {o : O} : NBare (ρ ++ [e]) (H ++ [o]) gs := fun k z hz => (h k z hz).imp id fun ⟨i, e', o', env, h1, h2, h3, h4⟩ => ⟨i, e', o', env, by rw [List.getElem?_append_left (List.getElem?_eq_some_iff.mp h1).1]; exact h1, h2, by rw [List.getElem?_append_left (List.getElem?_eq_some_iff.mp h3).1]; exact h3, h4⟩
theorem NBare.set {ρ : List Ent} {H : List O} {gs : Array GenState} (h : NBare ρ H gs) {i : Nat} {o' : O} (hy : ∀ o, H[i]? = some o → isY o = true → isY o' = true) : NBare ρ (H.set i o') gs := fun k z hz => (h k z hz).imp id fun ⟨j, e, o, env, h1, h2, h3, h4⟩ => by
  by_cases q : i = j
  · subst q
    exact ⟨i, e, o', env, h1, h2, List.getElem?_set_self (List.getElem?_eq_some_iff.mp h3).1, hy o h3 h4⟩
  · exact ⟨j, e, o, env, h1, h2, by rw [List.getElem?_set_ne q]; exact h3, h4⟩
theorem NBare.ents {ρ ρ' : List Ent} {H : List O} {gs : Array GenState} (h : NBare ρ H gs) (hg : ∀ (i : Nat) e, ρ[i]? = some e → ∃ e', ρ'[i]? = some e' ∧ e'.g = e.g) : NBare ρ' H gs := fun k z hz => (h k z hz).imp id fun ⟨j, e, o, env, h1, h2, h3, h4⟩ => let ⟨e', h5, h6⟩ := hg j e h1; ⟨j, e', o, env, h5, h6.trans h2, h3, h4⟩
/-- the heap of a call: the base F, the objects H at ρ -/
structure HSim (w : World) (KF : Frag) (F : Base) (ρ : List Ent) (H : List O) (h : Heap) (gs : Array GenState) : Prop where
  bs : ∀ h', KeepG F h' → Bs w KF h'
  keep : KeepG F h
  len : ρ.length = H.length
  ob : ∀ (i : Nat) e o, ρ[i]? = some e → H[i]? = some o → OR F ρ h e o
  live : ∀ b ∈ fps ρ, ∃ o, h.get? b = some o
  nd : (fps ρ).Nodup
  off : ∀ b ∈ fps ρ, F.f b = none
  gn : ((ρ.filterMap (·.g)).map (·.1)).Nodup
  bare : NBare ρ H gs
  gf : ∀ (i : Nat) e o, ρ[i]? = some e → H[i]? = some o → GR gs e o
  fo : FrIn F
theorem get_size (h : Heap) : h.get? h.objs.size = none := by
  cases q : h.get? h.objs.size with
  | none => rfl
  | some o => exact absurd (Heap.lt_size q) (Nat.lt_irrefl _)
theorem fps_mem {ρ : List Ent} {i : Nat} {e : Ent} (h : ρ[i]? = some e) {b : Nat} (hb : b ∈ e.fp) : b ∈ fps ρ := List.mem_flatMap.mpr ⟨e, List.mem_of_getElem? h, hb⟩
theorem fps_apart {ρ : List Ent} (nd : (fps ρ).Nodup) {i j : Nat} {e f : Ent} (hi : ρ[i]? = some e) (hj : ρ[j]? = some f) (hij : i ≠ j) {b : Nat} (hb : b ∈ e.fp) : b ∉ f.fp := by
  induction ρ generalizing i j with
  | nil => cases hi
  | cons x ρ ih =>
    have nd' : (x.fp ++ fps ρ).Nodup := nd
    obtain ⟨n1, n2, n3⟩ := List.nodup_append.mp nd'
    cases i with
    | zero =>
      cases hi
      cases j with
      | zero => exact absurd rfl hij
      | succ j => exact fun q => n3 b hb b (fps_mem (ρ := ρ) hj q) rfl
    | succ i =>
      cases j with
      | zero => cases hj; exact fun q => n3 b q b (fps_mem (ρ := ρ) hi hb) rfl
      | succ j => exact ih n2 hi hj (fun q => hij (congrArg Nat.succ q))
section
variable {w : World} {KF : Frag} {F : Base} {ρ ρ' : List Ent} {H : List O} {h h' : Heap} {gs : Array GenState}
theorem HSim.b (S : HSim w KF F ρ H h gs) : Bs w KF h := S.bs _ S.keep
theorem HSim.keeps (S : HSim w KF F ρ H h gs) (k : Keep h h') : HSim w KF F ρ H h' gs := by
  have kF : KeepG F h' := fun b o e => let ⟨o', e', u⟩ := S.keep b o e; ⟨o', k b o' e', u⟩
  exact ⟨S.bs, kF, S.len, fun i e o hi ho => (S.ob i e o hi ho).mono (List.prefix_refl _) (.of_keep k) S.keep kF (fun b _ q hq => k b q hq), fun b hb => let ⟨o, ho⟩ := S.live b hb; ⟨o, k b o ho⟩, S.nd, S.off, S.gn, S.bare, S.gf, S.fo⟩
theorem HSim.glt (S : HSim w KF F ρ H h gs) {e : Ent} (he : e ∈ ρ) {x : Nat × Env} (hx : e.g = some x) : x.1 < gs.size := by
  obtain ⟨i, hi, rfl⟩ := List.mem_iff_getElem.mp he
  have hi' := List.getElem?_eq_getElem hi
  have hH : i < H.length := by rw [← S.len]; exact hi
  have y := S.ob i _ _ hi' (List.getElem?_eq_getElem hH)
  have z := S.gf i _ _ hi' (List.getElem?_eq_getElem hH)
  cases q : H[i] with
  | list xs => rw [q] at y; rw [y.2.1] at hx; cases hx
  | arr xs => rw [q] at y; rw [y.2.1] at hx; cases hx
  | inst C fs => rw [q] at y; rw [y.1] at hx; cases hx
  | tbl P ps => rw [q] at y; rw [y.2.2.1] at hx; cases hx
  | fresh fi body m =>
    rw [q] at z
    obtain ⟨g, env, h1, h2⟩ := z
    rw [h1] at hx; cases hx
    exact (Array.getElem?_eq_some_iff.mp h2).1
  | gone => rw [q] at z; exact z x hx
  | done =>
    rw [q] at z
    obtain ⟨g, env, h1, h2⟩ := z
    rw [h1] at hx; cases hx
    exact (Array.getElem?_eq_some_iff.mp h2).1
  | rit I lo n => rw [q] at y; rw [y.2.2.1] at hx; cases hx
  | tit I xs k => rw [q] at y; rw [y.2.2.1] at hx; cases hx
  | lit I l k => rw [q] at y; rw [y.2.2.1] at hx; cases hx
  | slp a fi m rest k y n =>
    rw [q] at z
    obtain ⟨g, env, _, h1, h2, _⟩ := z
    rw [h1] at hx; cases hx
    exact (Array.getElem?_eq_some_iff.mp h2).1
theorem HSim.at' (S : HSim w KF F ρ H h gs) {i : Nat} {o : O} (ho : H[i]? = some o) : ∃ e, ρ[i]? = some e ∧ OR F ρ h e o := by
  have hi : i < ρ.length := by rw [S.len]; exact (List.getElem?_eq_some_iff.mp ho).1
  exact ⟨ρ[i], List.getElem?_eq_getElem hi, S.ob i _ o (List.getElem?_eq_getElem hi) ho⟩
/-- one object turned; nothing else is touched -/
theorem HSim.upd (S : HSim w KF F ρ H h gs) {i : Nat} {e : Ent} {o' : O} (hi : ρ[i]? = some e) (hk : ∀ b o, b ∉ e.fp → h.get? b = some o → h'.get? b = some o) (hl : ∀ b ∈ e.fp, ∃ o, h'.get? b = some o) (t : TK h h') (ho' : OR F ρ h' e o') (hG : GR gs e o' := by trivial) (hy : ∀ o, H[i]? = some o → isY o = true → isY o' = true) : HSim w KF F ρ (H.set i o') h' gs := by
  have kF : KeepG F h' := fun b o q => let ⟨o', e', u⟩ := S.keep b o q; ⟨o', hk b o' (fun m => by rw [S.off b (fps_mem hi m)] at q; cases q) e', u⟩
  refine ⟨S.bs, kF, by rw [List.length_set]; exact S.len, fun j f o hj ho => ?_, fun b hb => ?_, S.nd, S.off, S.gn, S.bare.set hy, fun j f o hj ho => ?_, S.fo⟩
  · by_cases q : i = j
    · subst q
      rw [hi] at hj
      cases hj
      rw [List.getElem?_set_self (by have := (List.getElem?_eq_some_iff.mp ho).1; rw [List.length_set] at this; exact this)] at ho
      cases ho
      exact ho'
    · rw [List.getElem?_set_ne q] at ho
      exact (S.ob j f o hj ho).mono (List.prefix_refl _) t S.keep kF (fun b hb o2 h2 => hk b o2 (fps_apart S.nd hj hi (Ne.symm q) hb) h2)
  · by_cases q : b ∈ e.fp
    · exact hl b q
    · obtain ⟨o, ho⟩ := S.live b hb
      exact ⟨o, hk b o q ho⟩
  · by_cases q : i = j
    · subst q
      rw [hi] at hj
      cases hj
      rw [List.getElem?_set_self (by have := (List.getElem?_eq_some_iff.mp ho).1; rw [List.length_set] at this; exact this)] at ho
      cases ho
      exact hG
    · rw [List.getElem?_set_ne q] at ho
      exact S.gf j f o hj ho
/-- an object that was nobody's -/
theorem HSim.adoptG (S : HSim w KF F ρ H h gs) {a : Nat} {r : List Nat} {o : O} {gg : Option (Nat × Env)} (nd : (a :: r).Nodup) (ha : ∀ b ∈ a :: r, b ∉ fps ρ ∧ F.f b = none ∧ ∃ q, h.get? b = some q) (ho : OR F (ρ ++ [⟨a, a :: r, gg⟩]) h ⟨a, a :: r, gg⟩ o) (hg : ∀ x, gg = some x → ∀ f ∈ ρ, ∀ y, f.g = some y → y.1 ≠ x.1) (hG : GR gs ⟨a, a :: r, gg⟩ o) : HSim w KF F (ρ ++ [⟨a, a :: r, gg⟩]) (H ++ [o]) h gs := by
  have hf : fps (ρ ++ [⟨a, a :: r, gg⟩]) = fps ρ ++ (a :: r) := by simp [fps]
  refine ⟨S.bs, S.keep, by rw [List.length_append, List.length_append, S.len]; rfl, fun i e o' hi ho' => ?_, fun b hb => ?_, ?_, fun b hb => ?_, ?_, S.bare.app, fun i e o' hi ho' => ?_, S.fo⟩
  · by_cases q : i < ρ.length
    · rw [List.getElem?_append_left q] at hi
      rw [List.getElem?_append_left (by rw [← S.len]; exact q)] at ho'
      exact (S.ob i e o' hi ho').mono (List.prefix_append _ _) (.refl _) S.keep S.keep (fun b _ q hq => hq)
    · have hi' : i = ρ.length := by
        have := (List.getElem?_eq_some_iff.mp hi).1
        rw [List.length_append] at this
        simp at this
        omega
      subst hi'
      rw [List.getElem?_concat_length] at hi
      cases hi
      rw [S.len, List.getElem?_concat_length] at ho'
      cases ho'
      exact ho
  · rw [hf] at hb
    rcases List.mem_append.mp hb with m | m
    · exact S.live b m
    · exact (ha b m).2.2
  · rw [hf, List.nodup_append]
    refine ⟨S.nd, nd, fun x hx y hy q => (ha y hy).1 (q ▸ hx)⟩
  · rw [hf] at hb
    rcases List.mem_append.mp hb with m | m
    · exact S.off b m
    · exact (ha b m).2.1
  · rw [List.filterMap_append, List.map_append]
    cases gg with
    | none => simpa using S.gn
    | some x =>
      refine List.nodup_append.mpr ⟨S.gn, by simp, fun n hn k hk q => ?_⟩
      obtain ⟨y, hy, rfl⟩ := List.mem_map.mp hn
      obtain ⟨f, hf1, hf2⟩ := List.mem_filterMap.mp hy
      have hk : k = x.1 := by simpa using hk
      exact hg x rfl f hf1 y hf2 (q.trans hk)
  · by_cases q : i < ρ.length
    · rw [List.getElem?_append_left q] at hi
      rw [List.getElem?_append_left (by rw [← S.len]; exact q)] at ho'
      exact S.gf i e o' hi ho'
    · have hi' : i = ρ.length := by
        have := (List.getElem?_eq_some_iff.mp hi).1
        rw [List.length_append] at this
        simp at this
        omega
      subst hi'
      rw [List.getElem?_concat_length] at hi
      cases hi
      rw [S.len, List.getElem?_concat_length] at ho'
      cases ho'
      exact hG
theorem HSim.adopt (S : HSim w KF F ρ H h gs) {a : Nat} {r : List Nat} {o : O} (nd : (a :: r).Nodup) (ha : ∀ b ∈ a :: r, b ∉ fps ρ ∧ F.f b = none ∧ ∃ q, h.get? b = some q) (ho : OR F (ρ ++ [⟨a, a :: r, none⟩]) h ⟨a, a :: r, none⟩ o) (hG : GR gs ⟨a, a :: r, none⟩ o := by trivial) : HSim w KF F (ρ ++ [⟨a, a :: r, none⟩]) (H ++ [o]) h gs :=
  S.adoptG nd ha ho (fun _ q => nomatch q) hG
theorem HSim.dead (S : HSim w KF F ρ H h gs) {b : Nat} (hb : h.get? b = none) : b ∉ fps ρ ∧ F.f b = none := by
  refine ⟨fun m => ?_, ?_⟩
  · obtain ⟨o, q⟩ := S.live b m; rw [hb] at q; cases q
  · cases q : F.f b with
    | none => rfl
    | some o => obtain ⟨o', e', _⟩ := S.keep _ _ q; rw [e'] at hb; cases hb
/-- a new object -/
theorem HSim.alloc (S : HSim w KF F ρ H h gs) {a : Nat} {o : O} (k : Keep h h') (ha : h.get? a = none) (hl : ∃ q, h'.get? a = some q) (ho : OR F (ρ ++ [⟨a, [a], none⟩]) h' ⟨a, [a], none⟩ o) (hG : GR gs ⟨a, [a], none⟩ o := by trivial) : HSim w KF F (ρ ++ [⟨a, [a], none⟩]) (H ++ [o]) h' gs := by
  have d := S.dead ha
  exact (S.keeps k).adopt (r := []) (List.nodup_cons.mpr ⟨fun q => (nomatch q), List.nodup_nil⟩) (fun b hb => by rw [List.mem_singleton.mp hb]; exact ⟨d.1, d.2, hl⟩) ho hG
end
end Mine
end
section
open PySem PySem.W PyProof.Rows PySem.W.X
namespace Mine
noncomputable def addF (F : Base) (h : Heap) (as : List Nat) : Base := ⟨fun b => if b ∈ as then h.get? b else F.f b, F.fr⟩
theorem addF_in {F : Base} {h : Heap} {as : List Nat} {b : Nat} (hb : b ∈ as) : (addF F h as).f b = h.get? b := if_pos hb
theorem addF_out {F : Base} {h : Heap} {as : List Nat} {b : Nat} (hb : b ∉ as) : (addF F h as).f b = F.f b := if_neg hb
/-- the frames that stand while env's code runs -/
noncomputable def frOf (env : Env) (F : Base) : List Env := if env.frame = some env.locals then env :: F.fr else F.fr
/-- a frame put into the base -/
noncomputable def addE (F : Base) (h : Heap) (env : Env) (as : List Nat) : Base := ⟨(addF F h as).f, frOf env F⟩
theorem addE_in {F : Base} {h : Heap} {env : Env} {as : List Nat} {b : Nat} (hb : b ∈ as) : (addE F h env as).f b = h.get? b := if_pos hb
theorem addE_out {F : Base} {h : Heap} {env : Env} {as : List Nat} {b : Nat} (hb : b ∉ as) : (addE F h env as).f b = F.f b := if_neg hb
theorem addE_lo {F : Base} {h : Heap} {env : Env} {as : List Nat} : (∀ b ∈ F.lo, b ∈ (addE F h env as).lo) ∧ ∀ b ∈ (addE F h env as).lo, b = env.locals ∨ b ∈ F.lo := by
  by_cases q : env.frame = some env.locals
  · have e : (addE F h env as).lo = env.locals :: F.lo := by
      show (frOf env F).filterMap (·.frame) = _
      unfold frOf
      rw [if_pos q, List.filterMap_cons, q]; rfl
    rw [e]
    exact ⟨fun b hb => .tail _ hb, fun b hb => List.mem_cons.mp hb⟩
  · have e : (addE F h env as).lo = F.lo := by
      show (frOf env F).filterMap (·.frame) = _
      unfold frOf
      rw [if_neg q]; rfl
    rw [e]
    exact ⟨fun b hb => hb, fun b hb => .inr hb⟩
theorem UpS.less {F : Base} {h : Heap} {env : Env} {as : List Nat} {b : Nat} {o o' : Obj} (u : UpS (addE F h env as).lo b o o') (hb : b ≠ env.locals) : UpS F.lo b o o' := by
  rcases u with e | ⟨m, r⟩
  · exact .inl e
  · exact .inr ⟨(addE_lo.2 b m).resolve_left hb, r⟩
structure Sim (w : World) (KF : Frag) (fi : FI) (env : Env) (m : Names) (F : Base) (ρ : List Ent) (H : List O) (h : Heap) (gs : Array GenState) : Prop where
  hs : HSim w KF F ρ H h gs
  es : env.scope = fi.sc
  eg : env.globals = mainGlobals
  eb : env.builtins = builtinsNs
  ec : env.code = fi.co
  ek : fi.sc.kind = .function
  ef : env.frame = some env.locals ∨ ∃ L ∈ F.lo, env.frame = some L
  lo : ∀ b ∈ ownA fi env, F.f b = none ∧ b ∉ fps ρ
  ns : ∃ mv, h.Ns env.locals mv ∧ ∀ x, fi.sc.names.lookup x = some .local → OVR ρ h (getL m x) (mv x)
  cl : ∀ x c, env.cells.lookup x = some c → ∃ ov, h.IsCell c ov ∧ OVR ρ h (getL m x) ov
  ce : ∀ x, (fi.sc.names.lookup x = some .cell ∨ fi.sc.names.lookup x = some .free) → ∃ c, env.cells.lookup x = some c
  cn : ∀ x, fi.sc.names.lookup x = some .local → env.cells.lookup x = none
  cu : ∀ x c, (x, c) ∈ env.cells → env.cells.lookup x = some c ∧ c ≠ env.locals
  cd : env.cells.Pairwise fun x y => x.2 ≠ y.2
  cf : fi.own = false → ∀ x c, (x, c) ∈ env.cells → (F.f c).isSome = true
section
variable {w : World} {KF : Frag} {fi : FI} {env : Env} {m : Names} {F : Base} {ρ ρ' : List Ent} {H H' : List O} {h h' : Heap} {gs gs' : Array GenState}
theorem Sim.kind (S : Sim w KF fi env m F ρ H h gs) (x : Str) : env.kindOf x = fi.sc.names.lookup x := by unfold Env.kindOf; rw [S.es]
theorem Sim.kd (S : Sim w KF fi env m F ρ H h gs) : env.scope.kind = .function := by rw [S.es]; exact S.ek
theorem Sim.b (S : Sim w KF fi env m F ρ H h gs) : Bs w KF h := S.hs.b
theorem Sim.cell_own (S : Sim w KF fi env m F ρ H h gs) {x : Str} {c : Nat} (hc : (x, c) ∈ env.cells) : c ∈ ownA fi env ∨ (F.f c).isSome = true := by
  cases q : fi.own with
  | true => left; unfold ownA; rw [if_pos q]; exact .tail _ (List.mem_map.mpr ⟨_, hc, rfl⟩)
  | false => exact .inr (S.cf q x c hc)
theorem lookup_mem {cs : List (Str × Nat)} {x : Str} {c : Nat} (h : cs.lookup x = some c) : (x, c) ∈ cs := mem_of_lookup h
/-- the frame put into the base -/
theorem Sim.locF (S : Sim w KF fi env m F ρ H h gs) {b : Nat} {o : Obj} (e : F.f b = some o) : b ∉ ownA fi env := fun q => by rw [(S.lo b q).1] at e; cases e
theorem Sim.toH (S : Sim w KF fi env m F ρ H h gs) : HSim w KF (addE F h env (ownA fi env)) ρ H h gs := by
  have hF : ∀ b o, F.f b = some o → (addE F h env (ownA fi env)).f b = some o := fun b o e => by rw [addE_out (S.locF e)]; exact e
  refine ⟨fun h' k => S.hs.bs h' (fun b o e => ?_), fun b o e => ?_, S.hs.len, fun i e o hi ho => (S.hs.ob i e o hi ho).base hF, S.hs.live, S.hs.nd, fun b hb => ?_, S.hs.gn, S.hs.bare, S.hs.gf, fun e he => ?_⟩
  · obtain ⟨o', e', u⟩ := k b o (hF b o e)
    exact ⟨o', e', u.less fun q => S.locF e (q ▸ loc_own fi env)⟩
  · by_cases q : b ∈ ownA fi env
    · rw [addE_in q] at e; exact ⟨o, e, .refl⟩
    · rw [addE_out q] at e
      obtain ⟨o', e', u⟩ := S.hs.keep b o e
      exact ⟨o', e', u.mono addE_lo.1⟩
  · rw [addE_out (fun q => (S.lo b q).2 hb)]; exact S.hs.off b hb
  · have old : e ∈ F.fr → e.scope.kind ≠ .module ∧ ∃ L o, e.frame = some L ∧ (addE F h env (ownA fi env)).f L = some o ∧ ∃ es ep, o.data = .dict es ep := fun he => by
      obtain ⟨h1, L, o, h2, h3, h4⟩ := S.hs.fo e he
      exact ⟨h1, L, o, h2, hF L o h3, h4⟩
    have he : e ∈ frOf env F := he
    unfold frOf at he
    split at he
    · rename_i q
      rcases List.mem_cons.mp he with rfl | he
      · obtain ⟨mv, ⟨o, es, ep, ho, hd, _⟩, _⟩ := S.ns
        refine ⟨(by rw [S.es, S.ek]; exact fun z => nomatch z), _, o, q, by rw [addE_in (loc_own fi e)]; exact ho, es, ep, hd⟩
      · exact old he
    · exact old he
/-- and out of it again -/
theorem Sim.ofH (S : Sim w KF fi env m F ρ H h gs) (p : ρ <+: ρ') (t : TK h h') (T : HSim w KF (addE F h env (ownA fi env)) ρ' H' h' gs') : Sim w KF fi env m F ρ' H' h' gs' := by
  have hF : ∀ b o, F.f b = some o → (addE F h env (ownA fi env)).f b = some o := fun b o e => by rw [addE_out (S.locF e)]; exact e
  have hoF : ∀ b ∈ fps ρ', F.f b = none := fun b hb => by
    cases q : F.f b with
    | none => rfl
    | some o => have := T.off b hb; rw [hF b o q] at this; cases this
  have kp : ∀ b ∈ ownA fi env, ∀ o, h.get? b = some o → ∃ o', h'.get? b = some o' ∧ UpS (addE F h env (ownA fi env)).lo b o o' := fun b hb o e => T.keep b o (by rw [addE_in hb]; exact e)
  have kF : KeepG F h' := fun b o e => let ⟨o', e', u⟩ := T.keep b o (hF b o e); ⟨o', e', u.less fun q => S.locF e (q ▸ loc_own fi env)⟩
  have live : ∀ b ∈ ownA fi env, ∃ o, h.get? b = some o := fun b hb => by
    unfold ownA at hb
    split at hb
    · rcases List.mem_cons.mp hb with rfl | hb
      · obtain ⟨mv, ⟨o, _, _, ho, _⟩, _⟩ := S.ns; exact ⟨o, ho⟩
      · obtain ⟨⟨x, c⟩, hm, rfl⟩ := List.mem_map.mp hb
        obtain ⟨ov, ⟨o, ho, _⟩, _⟩ := S.cl x c (S.cu x c hm).1
        exact ⟨o, ho⟩
    · rw [List.mem_singleton.mp hb]
      obtain ⟨mv, ⟨o, _, _, ho, _⟩, _⟩ := S.ns; exact ⟨o, ho⟩
  have lo : ∀ b ∈ ownA fi env, F.f b = none ∧ b ∉ fps ρ' := fun b hb => ⟨(S.lo b hb).1, fun q => by
    have := T.off b q
    rw [addE_in hb] at this
    obtain ⟨o, ho⟩ := live b hb
    rw [this] at ho; cases ho⟩
  refine ⟨⟨S.hs.bs, kF, T.len, fun i e o hi ho => ?_, T.live, T.nd, hoF, T.gn, T.bare, T.gf, S.hs.fo⟩, S.es, S.eg, S.eb, S.ec, S.ek, S.ef, lo, ?_, fun x c hc => ?_, S.ce, S.cn, S.cu, S.cd, S.cf⟩
  · have y := T.ob i e o hi ho
    cases o with
    | arr xs =>
      obtain ⟨a, b, l, f⟩ := y
      refine ⟨a, b, l, ?_⟩
      by_cases q : e.a ∈ ownA fi env
      · exfalso
        obtain ⟨vs, ⟨ob, hob, hcl, n, hd⟩, _⟩ := l
        unfold ownA at q
        have q' : e.a = env.locals ∨ ∃ x, (x, e.a) ∈ env.cells := by
          split at q
          · rcases List.mem_cons.mp q with q | q
            · exact .inl q
            · obtain ⟨⟨x, c⟩, hm, hx⟩ := List.mem_map.mp q
              exact .inr ⟨x, hx ▸ hm⟩
          · exact .inl (List.mem_singleton.mp q)
        rcases q' with q' | ⟨x, q'⟩
        · obtain ⟨mv, ⟨o2, es, ep, ho2, hd2, _⟩, _⟩ := S.ns
          rw [← q'] at ho2
          obtain ⟨o3, h3, u⟩ := kp e.a q o2 ho2
          rw [hob] at h3; cases h3
          have z := u.same.2.1
          rw [hd, hd2] at z; cases z
        · obtain ⟨ov, ⟨o2, ho2, hd2⟩, _⟩ := S.cl x e.a (S.cu x e.a q').1
          obtain ⟨o3, h3, u⟩ := kp e.a q o2 ho2
          rw [hob] at h3; cases h3
          have z := u.same.2.1
          rw [hd, hd2] at z; cases z
      · rw [addE_out q] at f; exact f
    | _ => exact y
  · obtain ⟨mv, ⟨o, es, ep, ho, hd, r⟩, hv⟩ := S.ns
    obtain ⟨o', h1, u⟩ := kp _ (loc_own fi env) o ho
    exact ⟨mv, ⟨o', es, ep, h1, u.same.2.1.trans hd, r⟩, fun x hx => (hv x hx).mono p t⟩
  · obtain ⟨ov, ⟨o, ho, hd⟩, hv⟩ := S.cl x c hc
    rcases S.cell_own (lookup_mem hc) with q | q
    · obtain ⟨o', h1, u⟩ := kp c q o ho
      exact ⟨ov, ⟨o', h1, u.same.2.1.trans hd⟩, hv.mono p t⟩
    · obtain ⟨o2, h2⟩ := Option.isSome_iff_exists.mp q
      obtain ⟨o3, h3, u3⟩ := S.hs.keep _ _ h2
      rw [h3] at ho
      cases ho
      obtain ⟨o4, h4, u4⟩ := kF _ _ h2
      exact ⟨ov, ⟨o4, h4, u4.same.2.1.trans (u3.same.2.1.symm.trans hd)⟩, hv.mono p t⟩
theorem Sim.keeps (S : Sim w KF fi env m F ρ H h gs) (k : Keep h h') : Sim w KF fi env m F ρ H h' gs := S.ofH (List.prefix_refl _) (.of_keep k) (S.toH.keeps k)
theorem Sim.get (S : Sim w KF fi env m F ρ H h gs) {x : Str} {v : V} (hv : getL m x = some v) (hl : fi.sc.names.lookup x = some .local) : ∃ mv u, h.Ns env.locals mv ∧ mv x = some u ∧ VR ρ h v u := by
  obtain ⟨mv, hn, hm⟩ := S.ns
  have := hm x hl
  rw [hv] at this
  obtain ⟨u, e, r⟩ := this.some_of
  exact ⟨mv, u, hn, e, r⟩
/-- a name of the frame's stored -/
theorem ns_not_imm {a : Nat} {mv : Str → Option Value} (hn : h.Ns a mv) : ∀ o, h.get? a = some o → ¬ Imm o := fun o ho => by
  obtain ⟨o2, es, ep, h2, hd, _⟩ := hn
  rw [h2] at ho; cases ho
  rintro (⟨⟨xs, n, q⟩, _⟩ | ⟨_, vs, q⟩) <;> (rw [hd] at q; cases q)
theorem cell_not_imm {a : Nat} {ov : Option Value} (hn : h.IsCell a ov) : ∀ o, h.get? a = some o → ¬ Imm o := fun o ho => by
  obtain ⟨o2, h2, hd⟩ := hn
  rw [h2] at ho; cases ho
  rintro (⟨⟨xs, n, q⟩, _⟩ | ⟨_, vs, q⟩) <;> (rw [hd] at q; cases q)
theorem list_not_imm {a : Nat} {xs : Array Value} (hn : h.IsList a xs) : ∀ o, h.get? a = some o → ¬ Imm o := fun o ho => by
  obtain ⟨o2, h2, hc, n, hd⟩ := hn
  rw [h2] at ho; cases ho
  rintro (⟨_, q⟩ | ⟨q, _⟩)
  · exact q hc
  · rw [hc] at q; exact absurd q (by decide)
/-- something of the frame's turned alone -/
theorem Sim.own_upd (S : Sim w KF fi env m F ρ H h gs) {a : Nat} (ha : a ∈ ownA fi env) (hs : ∀ b o, b ≠ a → h.get? b = some o → h'.get? b = some o) (hi : ∀ o, h.get? a = some o → ¬ Imm o) : HSim w KF F ρ H h' gs ∧ TK h h' := by
  obtain ⟨f1, f2⟩ := S.lo a ha
  have t : TK h h' := .of_ext hs hi
  have kF : KeepG F h' := fun b o e => let ⟨o', e', u⟩ := S.hs.keep b o e; ⟨o', hs b o' (fun q => by rw [q, f1] at e; cases e) e', u⟩
  have ne : ∀ b ∈ fps ρ, b ≠ a := fun b hb q => f2 (q ▸ hb)
  exact ⟨⟨S.hs.bs, kF, S.hs.len, fun i e o hi ho => (S.hs.ob i e o hi ho).mono (List.prefix_refl _) t S.hs.keep kF (fun b hb q hq => hs b q (ne b (fps_mem hi hb)) hq), fun b hb => let ⟨o, ho⟩ := S.hs.live b hb; ⟨o, hs b o (ne b hb) ho⟩, S.hs.nd, S.hs.off, S.hs.gn, S.hs.bare, S.hs.gf, S.hs.fo⟩, t⟩
/-- a name of the frame's stored -/
theorem Sim.setLoc (S : Sim w KF fi env m F ρ H h gs) {x : Str} {v : V} {u : Value} (r : VR ρ h v u) {mv : Str → Option Value} (hn₀ : h.Ns env.locals mv)
    (hm : ∀ x, fi.sc.names.lookup x = some .local → OVR ρ h (getL m x) (mv x)) (hn : h'.Ns env.locals (fun y => if y = x then some u else mv y)) (hs : Heap.SameBut env.locals h h') (hl : fi.sc.names.lookup x = some .local) : Sim w KF fi env (setL m x v) F ρ H h' gs := by
  obtain ⟨hs', t⟩ := S.own_upd (loc_own fi env) (fun b o hb e => hs.extBut b o hb e) (ns_not_imm hn₀)
  refine ⟨hs', S.es, S.eg, S.eb, S.ec, S.ek, S.ef, S.lo, ⟨_, hn, fun y hy => ?_⟩, fun y c hc => ?_, S.ce, S.cn, S.cu, S.cd, S.cf⟩
  · rw [getL_setL]
    by_cases q : y = x
    · rw [if_pos q, if_pos q]; exact r.mono (List.prefix_refl _) t
    · rw [if_neg q, if_neg q]; exact (hm y hy).mono (List.prefix_refl _) t
  · obtain ⟨ov, ⟨o, ho, hd⟩, hv⟩ := S.cl y c hc
    refine ⟨ov, ⟨o, hs.extBut c o (S.cu y c (lookup_mem hc)).2 ho, hd⟩, ?_⟩
    rw [getL_setL, if_neg (fun q => by rw [q, S.cn x hl] at hc; cases hc)]
    exact hv.mono (List.prefix_refl _) t
theorem name_of_cell {cs : List (Str × Nat)} (hd : cs.Pairwise fun x y => x.2 ≠ y.2) {x y : Str} {c : Nat} (hx : (x, c) ∈ cs) (hy : (y, c) ∈ cs) : x = y := name_of_addr hd hx hy
theorem Sim.setCell (S : Sim w KF fi env m F ρ H h gs) {x : Str} {c : Nat} {v : V} {u : Value} (r : VR ρ h v u) (ho : fi.own = true) (hc : env.cells.lookup x = some c) {ov : Option Value} (hv₀ : h.IsCell c ov)
    (hv : h'.IsCell c (some u)) (hs : Heap.SameBut c h h') (hx : fi.sc.names.lookup x ≠ some .local) : Sim w KF fi env (setL m x v) F ρ H h' gs := by
  have hco : c ∈ ownA fi env := by unfold ownA; rw [if_pos ho]; exact .tail _ (List.mem_map.mpr ⟨_, lookup_mem hc, rfl⟩)
  obtain ⟨hs', t⟩ := S.own_upd hco (fun b o hb e => hs.extBut b o hb e) (cell_not_imm hv₀)
  refine ⟨hs', S.es, S.eg, S.eb, S.ec, S.ek, S.ef, S.lo, ?_, fun y d hd => ?_, S.ce, S.cn, S.cu, S.cd, S.cf⟩
  · obtain ⟨mv, hn, hm⟩ := S.ns
    refine ⟨mv, hn.sameBut hs (Ne.symm (S.cu x c (lookup_mem hc)).2), fun y hy => ?_⟩
    rw [getL_setL, if_neg (fun q => hx (by rw [← q]; exact hy))]
    exact (hm y hy).mono (List.prefix_refl _) t
  · rw [getL_setL]
    by_cases q : y = x
    · subst q
      rw [hc] at hd; cases hd
      rw [if_pos rfl]
      exact ⟨_, hv, r.mono (List.prefix_refl _) t⟩
    · rw [if_neg q]
      obtain ⟨ov, hy, hr⟩ := S.cl y d hd
      exact ⟨ov, hy.sameBut hs (fun e => q (name_of_cell S.cd (lookup_mem hd) (e ▸ lookup_mem hc))), hr.mono (List.prefix_refl _) t⟩
end
/-- what an exception is -/
structure Exc where
  cls : String
  args : List V
noncomputable def ExcAt (_ : Base) (_ : List Ent) (_ : Heap) (_ : Value) (_ : Exc) : Prop := False
/-- new entries own something; their generators are new -/
noncomputable def New (n : Nat) (ρ ρ' : List Ent) : Prop := ∀ (i : Nat) e, ρ.length ≤ i → ρ'[i]? = some e → e.fp ≠ [] ∧ ∀ x, e.g = some x → n ≤ x.1
theorem New.refl {n : Nat} {ρ : List Ent} : New n ρ ρ := fun i e hi h => absurd (List.getElem?_eq_some_iff.mp h).1 (Nat.not_lt.mpr hi)
theorem New.trans {n k : Nat} {ρ ρ₁ ρ₂ : List Ent} (a : New n ρ ρ₁) (b : New k ρ₁ ρ₂) (p : ρ₁ <+: ρ₂) (hk : n ≤ k) : New n ρ ρ₂ := fun i e hi h => by
  by_cases q : i < ρ₁.length
  · exact a i e hi (by obtain ⟨t, rfl⟩ := p; rwa [List.getElem?_append_left q] at h)
  · exact ⟨(b i e (Nat.not_lt.mp q) h).1, fun x hx => Nat.le_trans hk ((b i e (Nat.not_lt.mp q) h).2 x hx)⟩
theorem New.add {n : Nat} {ρ : List Ent} {a : Nat} {g : Option (Nat × Env)} {r : List Nat} (hg : ∀ x, g = some x → n ≤ x.1) : New n ρ (ρ ++ [⟨a, a :: r, g⟩]) := fun i e hi h => by
  rw [List.getElem?_append_right hi] at h
  have : e ∈ [(⟨a, a :: r, g⟩ : Ent)] := List.mem_of_getElem? h
  rw [List.mem_singleton.mp this]
  exact ⟨List.cons_ne_nil _ _, hg⟩
noncomputable def Step (ρ : List Ent) (s : Shared) (ρ' : List Ent) (s' : Shared) : Prop := ρ <+: ρ' ∧ TK s.heap s'.heap ∧ (s'.os = s.os ∧ s.gens.size ≤ s'.gens.size) ∧ New s.gens.size ρ ρ'
theorem Step.refl {ρ : List Ent} {s : Shared} : Step ρ s ρ s := ⟨List.prefix_refl _, .refl _, ⟨rfl, Nat.le_refl _⟩, .refl⟩
theorem Step.same {ρ : List Ent} {s s' : Shared} (t : TK s.heap s'.heap) (o : s'.os = s.os) (g : s.gens.size ≤ s'.gens.size := by first | exact Nat.le_refl _ | assumption) : Step ρ s ρ s' := ⟨List.prefix_refl _, t, ⟨o, g⟩, .refl⟩
theorem Step.addG {ρ : List Ent} {s s' : Shared} {a : Nat} {g : Option (Nat × Env)} {r : List Nat} (t : TK s.heap s'.heap) (o : s'.os = s.os) (hg : ∀ x, g = some x → s.gens.size ≤ x.1) (gg : s.gens.size ≤ s'.gens.size := by first | exact Nat.le_refl _ | assumption) : Step ρ s (ρ ++ [⟨a, a :: r, g⟩]) s' := ⟨List.prefix_append _ _, t, ⟨o, gg⟩, .add hg⟩
theorem Step.add {ρ : List Ent} {s s' : Shared} {a : Nat} {r : List Nat} (t : TK s.heap s'.heap) (o : s'.os = s.os) (gg : s.gens.size ≤ s'.gens.size := by first | exact Nat.le_refl _ | assumption) : Step ρ s (ρ ++ [⟨a, a :: r, none⟩]) s' := .addG t o (fun _ q => nomatch q) gg
theorem Step.trans {ρ ρ₁ ρ₂ : List Ent} {s s₁ s₂ : Shared} (a : Step ρ s ρ₁ s₁) (b : Step ρ₁ s₁ ρ₂ s₂) : Step ρ s ρ₂ s₂ := ⟨a.1.trans b.1, a.2.1.trans b.2.1, ⟨b.2.2.1.1.trans a.2.2.1.1, Nat.le_trans a.2.2.1.2 b.2.2.1.2⟩, a.2.2.2.trans b.2.2.2 b.1 a.2.2.1.2⟩
structure Room (A : Around) (d : Nat) (l : List Env) : Prop where
  fr : A.frames = some l
  hd : A.handled = none
  dp : A.depth + 4 * d < recursionLimit
  un : A.units + 40 * d + 200 < cLine
section
variable (w : World) (KF : Frag)
noncomputable def HQ {α β : Type} (R : List Ent → Heap → β → α → Prop) (F : Base) (ρ : List Ent) (s : Shared) (Q : β → List O → Prop) (v : α) (s' : Shared) : Prop :=
  ∃ ρ' H' b, Step ρ s ρ' s' ∧ HSim w KF F ρ' H' s'.heap s'.gens ∧ R ρ' s'.heap b v ∧ Q b H'
noncomputable def HE (F : Base) (ρ : List Ent) (s : Shared) (E : Exc → List O → Prop) (e : Value) (s' : Shared) : Prop :=
  ∃ ρ' H' x, Step ρ s ρ' s' ∧ HSim w KF F ρ' H' s'.heap s'.gens ∧ ExcAt F ρ' s'.heap e x ∧ E x H'
noncomputable def SQ {α β : Type} (R : List Ent → Heap → β → α → Prop) (fi : FI) (env : Env) (m : Names) (F : Base) (ρ : List Ent) (s : Shared) (Q : β → List O → Prop) (v : α) (s' : Shared) : Prop :=
  ∃ ρ' H' b, Step ρ s ρ' s' ∧ Sim w KF fi env m F ρ' H' s'.heap s'.gens ∧ R ρ' s'.heap b v ∧ Q b H'
noncomputable def SE (fi : FI) (env : Env) (F : Base) (ρ : List Ent) (s : Shared) (E : Exc → Names → List O → Prop) (e : Value) (s' : Shared) : Prop :=
  ∃ ρ' H' x m, Step ρ s ρ' s' ∧ Sim w KF fi env m F ρ' H' s'.heap s'.gens ∧ ExcAt (addF F s'.heap (ownA fi env)) ρ' s'.heap e x ∧ E x m H'
end
end Mine
end
section
open PySem PySem.W PyProof.Rows PySem.W.X
namespace Mine
inductive Fl where
  | next | brk | cont
  | ret (v : V)
noncomputable def FlR (ρ : List Ent) (h : Heap) : Fl → Flow → Prop
  | .next, f => f = .next
  | .brk, f => f = .brk
  | .cont, f => f = .cont
  | .ret v, f => ∃ u, f = .ret u ∧ VR ρ h v u
noncomputable def EqR {α : Type} (_ : List Ent) (_ : Heap) (b v : α) : Prop := v = b
noncomputable abbrev EP := Exc → Names → List O → Prop
noncomputable abbrev HEP := Exc → List O → Prop
section
variable (prog : Program) (w : World) (KF : Frag) (fi : FI) (d : Nat) (E : EP)
noncomputable def WE (m : Names) (H : List O) (e : Expr) (Q : V → List O → Prop) : Prop :=
  ∀ A env F ρ s, Room A d (frOf env F) → Sim w KF fi env m F ρ H s.heap s.gens → wpAny (model prog w) A (eval e env) (SQ w KF VR fi env m F ρ s Q) (SE w KF fi env F ρ s E) s
noncomputable def WT (m : Names) (H : List O) (e : Expr) (Q : Bool → List O → Prop) : Prop :=
  ∀ A env F ρ s, Room A d (frOf env F) → Sim w KF fi env m F ρ H s.heap s.gens → wpAny (model prog w) A (isTrue e env (eval e env)) (SQ w KF EqR fi env m F ρ s Q) (SE w KF fi env F ρ s E) s
/-- several expressions, one behind the other -/
noncomputable def WEs (m : Names) (H : List O) : List Expr → (List V → List O → Prop) → Prop
  | [], Q => Q [] H
  | e :: es, Q => WE prog w KF fi d E m H e fun v H₁ => WEs m H₁ es fun vs H₂ => Q (v :: vs) H₂
noncomputable def StQ (env : Env) (F : Base) (ρ : List Ent) (s : Shared) (Q : Fl → Names → List O → Prop) (f : Flow) (s' : Shared) : Prop :=
  ∃ ρ' H' m' fl, Step ρ s ρ' s' ∧ Sim w KF fi env m' F ρ' H' s'.heap s'.gens ∧ FlR ρ' s'.heap fl f ∧ Q fl m' H'
noncomputable def WS (m : Names) (H : List O) (st : Stmt) (Q : Fl → Names → List O → Prop) : Prop :=
  ∀ A env F ρ s, Room A d (frOf env F) → Sim w KF fi env m F ρ H s.heap s.gens → wpAny (model prog w) A (exec st env) (StQ w KF fi env F ρ s Q) (SE w KF fi env F ρ s E) s
noncomputable def WB (m : Names) (H : List O) (st : List Stmt) (Q : Fl → Names → List O → Prop) : Prop :=
  ∀ A env F ρ s, Room A d (frOf env F) → Sim w KF fi env m F ρ H s.heap s.gens → wpAny (model prog w) A (execs st env) (StQ w KF fi env F ρ s Q) (SE w KF fi env F ρ s E) s
/-- a target stored -/
noncomputable def WA (m : Names) (H : List O) (t : Expr) (v : V) (Q : Names → List O → Prop) : Prop :=
  ∀ A env F ρ s u, Room A d (frOf env F) → Sim w KF fi env m F ρ H s.heap s.gens → VR ρ s.heap v u → wpAny (model prog w) A (assign t env u) (fun _ s' => ∃ ρ' H' m', Step ρ s ρ' s' ∧ Sim w KF fi env m' F ρ' H' s'.heap s'.gens ∧ Q m' H') (SE w KF fi env F ρ s E) s
end
section
variable (prog : Program) (w : World) (KF : Frag) (d : Nat) (E : HEP)
/-- operations upon the heap alone -/
noncomputable def W1 {α β : Type} (R : List Ent → Heap → β → α → Prop) (H : List O) (t : Value → Sem α) (x : V) (Q : β → List O → Prop) : Prop :=
  ∀ A F ρ s u, Room A d F.fr → HSim w KF F ρ H s.heap s.gens → VR ρ s.heap x u → wpAny (model prog w) A (t u) (HQ w KF R F ρ s Q) (HE w KF F ρ s E) s
noncomputable def W2 {α β : Type} (R : List Ent → Heap → β → α → Prop) (H : List O) (t : Value → Value → Sem α) (x y : V) (Q : β → List O → Prop) : Prop :=
  ∀ A F ρ s u v, Room A d F.fr → HSim w KF F ρ H s.heap s.gens → VR ρ s.heap x u → VR ρ s.heap y v → wpAny (model prog w) A (t u v) (HQ w KF R F ρ s Q) (HE w KF F ρ s E) s
noncomputable def W3 {α β : Type} (R : List Ent → Heap → β → α → Prop) (H : List O) (t : Value → Value → Value → Sem α) (x y z : V) (Q : β → List O → Prop) : Prop :=
  ∀ A F ρ s u v r, Room A d F.fr → HSim w KF F ρ H s.heap s.gens → VR ρ s.heap x u → VR ρ s.heap y v → VR ρ s.heap z r → wpAny (model prog w) A (t u v r) (HQ w KF R F ρ s Q) (HE w KF F ρ s E) s
/-- a call -/
noncomputable def CallW (H : List O) (f : V) (xs : List V) (Q : V → List O → Prop) : Prop :=
  ∀ A F ρ s u us, Room A d F.fr → HSim w KF F ρ H s.heap s.gens → VR ρ s.heap f u → VRs ρ s.heap xs us → wpAny (model prog w) A (call u us) (HQ w KF VR F ρ s Q) (HE w KF F ρ s E) s
end
theorem SE.step {w : World} {KF : Frag} {fi : FI} {env : Env} {F : Base} {ρ ρ₁ : List Ent} {s s₁ : Shared} {E : EP} {e : Value} {s' : Shared} (st : Step ρ s ρ₁ s₁) (x : SE w KF fi env F ρ₁ s₁ E e s') : SE w KF fi env F ρ s E e s' := let ⟨a, b, c, m, p, r⟩ := x; ⟨a, b, c, m, st.trans p, r⟩
theorem SQ.step {w : World} {KF : Frag} {α β : Type} {R : List Ent → Heap → β → α → Prop} {fi : FI} {env : Env} {m : Names} {F : Base} {ρ ρ₁ : List Ent} {s s₁ : Shared} {Q : β → List O → Prop} {v : α} {s' : Shared} (st : Step ρ s ρ₁ s₁) (x : SQ w KF R fi env m F ρ₁ s₁ Q v s') : SQ w KF R fi env m F ρ s Q v s' := let ⟨a, b, c, p, r⟩ := x; ⟨a, b, c, st.trans p, r⟩
theorem StQ.step {w : World} {KF : Frag} {fi : FI} {env : Env} {F : Base} {ρ ρ₁ : List Ent} {s s₁ : Shared} {Q : Fl → Names → List O → Prop} {v : Flow} {s' : Shared} (st : Step ρ s ρ₁ s₁) (x : StQ w KF fi env F ρ₁ s₁ Q v s') : StQ w KF fi env F ρ s Q v s' := let ⟨a, b, c, e, p, r⟩ := x; ⟨a, b, c, e, st.trans p, r⟩
section
variable {prog : Program} {w : World} {KF : Frag} {fi : FI} {d : Nat} {E : EP} {m : Names} {H : List O}
/-- an operation upon the heap, in a frame -/
theorem lift {α β : Type} {R : List Ent → Heap → β → α → Prop} {A : Around} {env : Env} {F : Base} {ρ : List Ent} {s : Shared} {t : Sem α} {Q : β → List O → Prop} (S : Sim w KF fi env m F ρ H s.heap s.gens)
    (h : ∀ F' : Base, F'.fr = frOf env F → HSim w KF F' ρ H s.heap s.gens → wpAny (model prog w) A t (HQ w KF R F' ρ s Q) (HE w KF F' ρ s fun x H' => E x m H') s) : wpAny (model prog w) A t (SQ w KF R fi env m F ρ s Q) (SE w KF fi env F ρ s E) s := by
  refine wpAny_mono (h _ rfl S.toH) (fun v s' ⟨ρ', H', b, st, T, rv, hq⟩ => ⟨ρ', H', b, st, S.ofH st.1 st.2.1 T, rv, hq⟩) (fun e s' ⟨ρ', H', x, st, T, rv, hq⟩ => ?_)
  exact rv.elim
/-- from state to state -/
theorem onto {α : Type} {A : Around} {t : Sem α} {K K' : α → Shared → Prop} {env : Env} {F : Base} {ρ ρ₁ : List Ent} {s s₁ s₂ : Shared} (st : Step ρ s ρ₁ s₁) (h : wpAny (model prog w) A t K (SE w KF fi env F ρ₁ s₁ E) s₂) (hk : ∀ v s', K v s' → K' v s') : wpAny (model prog w) A t K' (SE w KF fi env F ρ s E) s₂ :=
  wpAny_mono h hk fun _ _ x => x.step st
theorem WE.mono {e : Expr} {Q Q' : V → List O → Prop} (h : WE prog w KF fi d E m H e Q) (hq : ∀ v H, Q v H → Q' v H) : WE prog w KF fi d E m H e Q' :=
  fun A env F ρ s hA S => wpAny_mono (h A env F ρ s hA S) (fun v s' ⟨ρ', H', b, st, T, rv, q⟩ => ⟨ρ', H', b, st, T, rv, hq _ _ q⟩) fun _ _ x => x
theorem we_int {i : Int} {k : Nat} {pos : Pos} {Q : V → List O → Prop} (h : Q (.int i) H) : WE prog w KF fi d E m H (.Constant (.int i) k pos) Q :=
  fun A env F ρ s hA S => wpAny_Constant_int ⟨ρ, H, _, .refl, S, by unfold VR; exact ⟨_, rfl⟩, h⟩
theorem we_str {i : Str} {k : Nat} {pos : Pos} {Q : V → List O → Prop} (h : Q (.str i) H) : WE prog w KF fi d E m H (.Constant (.str i) k pos) Q :=
  fun A env F ρ s hA S => wpAny_Constant_str ⟨ρ, H, _, .refl, S, by unfold VR; exact ⟨_, rfl⟩, h⟩
theorem we_loc {x : Str} {v : V} {pos : Pos} {Q : V → List O → Prop} (hl : fi.sc.names.lookup x = some .local) (hv : getL m x = some v) (h : Q v H) (hd : (x == ("__debug__" : Str)) = false := by decide) : WE prog w KF fi d E m H (.Name x pos) Q :=
  fun A env F ρ s hA S => by
    obtain ⟨mv, u, hn, e, r⟩ := S.get hv hl
    exact wpAny_Name (wpAny_loadName_local S.kd ((S.kind x).trans hl) hn e ⟨ρ, H, _, .refl, S, r, h⟩) hd
theorem we_cell {x : Str} {v : V} {pos : Pos} {Q : V → List O → Prop} (hl : fi.sc.names.lookup x = some .cell) (hv : getL m x = some v) (h : Q v H) (hd : (x == ("__debug__" : Str)) = false := by decide) : WE prog w KF fi d E m H (.Name x pos) Q :=
  fun A env F ρ s hA S => by
    obtain ⟨c, hc⟩ := S.ce x (.inl hl)
    obtain ⟨ov, hi, r⟩ := S.cl x c hc
    rw [hv] at r
    obtain ⟨u, rfl, r⟩ := r.some_of
    exact wpAny_Name (wpAny_loadName_cell S.kd ((S.kind x).trans hl) hc hi ⟨ρ, H, _, .refl, S, r, h⟩) hd
theorem mg_no {K : Frag} {h : Heap} {mg : Str → Option Value} {n : Str} (X : K.In h) (G : h.Ns mainGlobals mg) (e : nsIn K mainGlobals n = some none) : mg n = none := by
  obtain ⟨o, es, ep, ho, hd, _, hf⟩ := G
  unfold nsIn at e
  split at e
  · rename_i c d es' n' sl q
    have := X _ _ q
    rw [ho] at this
    cases this
    cases hd
    split at e
    · cases e
    · rename_i he
      rw [← hf]
      unfold nsFind findBy
      rw [← Array.find?_toList, he]
      rfl
  · cases e
theorem we_glob {x : Str} {a : Nat} {pos : Pos} {Q : V → List O → Prop} (hl : fi.sc.names.lookup x = some .globalImplicit) (e : nsIn KF mainGlobals x = some (some (.ref a))) (h : Q (.st a) H) (hd : (x == ("__debug__" : Str)) = false := by decide) : WE prog w KF fi d E m H (.Name x pos) Q :=
  fun A env F ρ s hA S => by
    obtain ⟨mg, hg⟩ := S.b.g
    exact Calls.Name_function_global S.kd ((S.kind x).trans hl) (Calls.loadGlobal_global (S.eg ▸ hg) (mg_of S.b.k hg e) ⟨ρ, H, _, .refl, S, by unfold VR; rfl, h⟩) hd
theorem we_biF {x : Str} {id : String} {pos : Pos} {Q : V → List O → Prop} (hl : fi.sc.names.lookup x = some .globalImplicit) (e : nsIn KF mainGlobals x = some none) (hb : bootBuiltins x = some (.builtin id)) (h : Q (.bi id) H) (hd : (x == ("__debug__" : Str)) = false := by decide) (hn : x ≠ "__name__" := by decide) : WE prog w KF fi d E m H (.Name x pos) Q :=
  fun A env F ρ s hA S => by
    obtain ⟨mg, hg⟩ := S.b.g
    obtain ⟨mb, hm, hb'⟩ := S.b.bi
    exact Calls.Name_function_global S.kd ((S.kind x).trans hl) (Calls.loadGlobal_builtin (S.eg ▸ hg) (mg_no S.b.k hg e) (S.eb ▸ hm) ((hb' x hn).trans hb) ⟨ρ, H, .bi id, .refl, S, by unfold VR; rfl, h⟩) hd
theorem we_biT {x : Str} {id : String} {pos : Pos} {Q : V → List O → Prop} (hl : fi.sc.names.lookup x = some .globalImplicit) (e : nsIn KF mainGlobals x = some none) (hb : bootBuiltins x = some (.type id)) (h : Q (.ty id) H) (hd : (x == ("__debug__" : Str)) = false := by decide) (hn : x ≠ "__name__" := by decide) : WE prog w KF fi d E m H (.Name x pos) Q :=
  fun A env F ρ s hA S => by
    obtain ⟨mg, hg⟩ := S.b.g
    obtain ⟨mb, hm, hb'⟩ := S.b.bi
    exact Calls.Name_function_global S.kd ((S.kind x).trans hl) (Calls.loadGlobal_builtin (S.eg ▸ hg) (mg_no S.b.k hg e) (S.eb ▸ hm) ((hb' x hn).trans hb) ⟨ρ, H, .ty id, .refl, S, by unfold VR; rfl, h⟩) hd
noncomputable abbrev Em (E : EP) (m : Names) : HEP := fun x H => E x m H
theorem we_bin {l r : Expr} {op : Operator} {pos : Pos} {Q : V → List O → Prop} (h : WE prog w KF fi d E m H l fun a H₁ => WE prog w KF fi d E m H₁ r fun b H₂ => W2 prog w KF d (Em E m) VR H₂ (binaryOp op) a b Q) : WE prog w KF fi d E m H (.BinOp l op r pos) Q :=
  fun A env F ρ s hA S => wpAny_BinOp (wpAny_mono (h A env F ρ s hA S) (fun u s₁ ⟨ρ₁, H₁, a, st₁, S₁, ra, h₁⟩ =>
    onto st₁ (wpAny_mono (h₁ A env F ρ₁ s₁ hA S₁) (fun v s₂ ⟨ρ₂, H₂, b, st₂, S₂, rb, h₂⟩ =>
      onto (st₁.trans st₂) (lift S₂ fun F' q T => h₂ A F' ρ₂ s₂ u v (q ▸ hA) T (ra.mono st₂.1 st₂.2.1) rb) fun _ _ x => (x.step st₂).step st₁) fun _ _ x => x) fun _ _ x => x) fun _ _ x => x)
theorem we_un {x : Expr} {op : UnaryOp} {pos : Pos} {Q : V → List O → Prop} (h : WE prog w KF fi d E m H x fun a H₁ => W1 prog w KF d (Em E m) VR H₁ (unaryOp op) a Q) : WE prog w KF fi d E m H (.UnaryOp op x pos) Q :=
  fun A env F ρ s hA S => wpAny_UnaryOp (wpAny_mono (h A env F ρ s hA S) (fun u s₁ ⟨ρ₁, H₁, a, st₁, S₁, ra, h₁⟩ =>
    onto st₁ (lift S₁ fun F' q T => h₁ A F' ρ₁ s₁ u (q ▸ hA) T ra) fun _ _ x => x.step st₁) fun _ _ x => x)
theorem we_cmp {l r : Expr} {op : CmpOp} {pos : Pos} {Q : V → List O → Prop} (h : WE prog w KF fi d E m H l fun a H₁ => WE prog w KF fi d E m H₁ r fun b H₂ => W2 prog w KF d (Em E m) VR H₂ (compareOp op) a b Q) (hm : behindInMarks op r = false := by with_unfolding_all rfl) : WE prog w KF fi d E m H (.Compare l [op] [r] pos) Q :=
  fun A env F ρ s hA S => wpAny_Compare1 (wpAny_mono (h A env F ρ s hA S) (fun u s₁ ⟨ρ₁, H₁, a, st₁, S₁, ra, h₁⟩ =>
    onto st₁ (wpAny_mono (h₁ A env F ρ₁ s₁ hA S₁) (fun v s₂ ⟨ρ₂, H₂, b, st₂, S₂, rb, h₂⟩ =>
      onto (st₁.trans st₂) (lift S₂ fun F' q T => h₂ A F' ρ₂ s₂ u v (q ▸ hA) T (ra.mono st₂.1 st₂.2.1) rb) fun _ _ x => (x.step st₂).step st₁) fun _ _ x => x) fun _ _ x => x) fun _ _ x => x) hm
theorem wt_cmp {l r : Expr} {op : CmpOp} {pos : Pos} {Q : Bool → List O → Prop} (h : WE prog w KF fi d E m H l fun a H₁ => WE prog w KF fi d E m H₁ r fun b H₂ => W2 prog w KF d (Em E m) VR H₂ (compareOp op) a b fun c H₃ => W1 prog w KF d (Em E m) EqR H₃ truthy c Q) (hm : behindInMarks op r = false := by with_unfolding_all rfl) : WT prog w KF fi d E m H (.Compare l [op] [r] pos) Q :=
  fun A env F ρ s hA S => wpAny_isTrue_Compare1 (wpAny_mono (h A env F ρ s hA S) (fun u s₁ ⟨ρ₁, H₁, a, st₁, S₁, ra, h₁⟩ =>
    onto st₁ (wpAny_mono (h₁ A env F ρ₁ s₁ hA S₁) (fun v s₂ ⟨ρ₂, H₂, b, st₂, S₂, rb, h₂⟩ =>
      onto (st₁.trans st₂) (wpAny_mono (lift S₂ fun F' q T => h₂ A F' ρ₂ s₂ u v (q ▸ hA) T (ra.mono st₂.1 st₂.2.1) rb) (fun c s₃ ⟨ρ₃, H₃, cv, st₃, S₃, rc, h₃⟩ =>
        onto ((st₁.trans st₂).trans st₃) (lift S₃ fun F' q T => h₃ A F' ρ₃ s₃ c (q ▸ hA) T rc) fun _ _ x => (((x.step st₃).step st₂).step st₁)) fun _ _ x => x) fun _ _ x => x) fun _ _ x => x) fun _ _ x => x) fun _ _ x => x) hm
theorem wt_and1 {x : Expr} {pos : Pos} {Q : Bool → List O → Prop} (h : WT prog w KF fi d E m H x Q) : WT prog w KF fi d E m H (.BoolOp .And [x] pos) Q :=
  fun A env F ρ s hA S => wpAny_isTrue_BoolOp (wpAny_allTrue_And_cons (wpAny_mono (h A env F ρ s hA S) (fun b s₁ ⟨ρ₁, H₁, a, st₁, S₁, ra, h₁⟩ => by
    cases ra
    cases b
    · exact ⟨ρ₁, H₁, _, st₁, S₁, rfl, h₁⟩
    · exact wpAny_allTrue_And_nil ⟨ρ₁, H₁, _, st₁, S₁, rfl, h₁⟩) fun _ _ x => x))
theorem wt_and {x y : Expr} {r : List Expr} {pos : Pos} {Q : Bool → List O → Prop} (h : WT prog w KF fi d E m H x fun b H₁ => if b = true then WT prog w KF fi d E m H₁ (.BoolOp .And (y :: r) pos) Q else Q false H₁) : WT prog w KF fi d E m H (.BoolOp .And (x :: y :: r) pos) Q :=
  fun A env F ρ s hA S => wpAny_isTrue_BoolOp (wpAny_allTrue_And_cons (wpAny_mono (h A env F ρ s hA S) (fun b s₁ ⟨ρ₁, H₁, a, st₁, S₁, ra, h₁⟩ => by
    cases ra
    cases b
    · exact ⟨ρ₁, H₁, _, st₁, S₁, rfl, h₁⟩
    · have q := (show WT prog w KF fi d E m H₁ _ Q from h₁) A env F ρ₁ s₁ hA S₁
      rw [arm_isTrue_BoolOp] at q
      exact onto st₁ q fun _ _ x => x.step st₁) fun _ _ x => x))
theorem wt_or1 {x : Expr} {pos : Pos} {Q : Bool → List O → Prop} (h : WT prog w KF fi d E m H x Q) : WT prog w KF fi d E m H (.BoolOp .Or [x] pos) Q :=
  fun A env F ρ s hA S => wpAny_isTrue_BoolOp (wpAny_allTrue_Or_cons (wpAny_mono (h A env F ρ s hA S) (fun b s₁ ⟨ρ₁, H₁, a, st₁, S₁, ra, h₁⟩ => by
    cases ra
    cases b
    · exact wpAny_allTrue_Or_nil ⟨ρ₁, H₁, _, st₁, S₁, rfl, h₁⟩
    · exact ⟨ρ₁, H₁, _, st₁, S₁, rfl, h₁⟩) fun _ _ x => x))
theorem wt_or {x y : Expr} {r : List Expr} {pos : Pos} {Q : Bool → List O → Prop} (h : WT prog w KF fi d E m H x fun b H₁ => if b = true then Q true H₁ else WT prog w KF fi d E m H₁ (.BoolOp .Or (y :: r) pos) Q) : WT prog w KF fi d E m H (.BoolOp .Or (x :: y :: r) pos) Q :=
  fun A env F ρ s hA S => wpAny_isTrue_BoolOp (wpAny_allTrue_Or_cons (wpAny_mono (h A env F ρ s hA S) (fun b s₁ ⟨ρ₁, H₁, a, st₁, S₁, ra, h₁⟩ => by
    cases ra
    cases b
    · have q := (show WT prog w KF fi d E m H₁ _ Q from h₁) A env F ρ₁ s₁ hA S₁
      rw [arm_isTrue_BoolOp] at q
      exact onto st₁ q fun _ _ x => x.step st₁
    · exact ⟨ρ₁, H₁, _, st₁, S₁, rfl, h₁⟩) fun _ _ x => x))
/-- no starred ones among them -/
noncomputable def Plain (es : List Expr) : Prop := ∀ env, starEach es env = es.map fun e => (false, eval e env)
theorem wes_run {es : List Expr} {pos : Pos} {Q : List V → List O → Prop} : ∀ {H : List O}, WEs prog w KF fi d E m H es Q → ∀ A env F ρ s, Room A d (frOf env F) → Sim w KF fi env m F ρ H s.heap s.gens →
    wpAny (model prog w) A (spliced (backTo pos (es.map fun e => (false, eval e env)))) (SQ w KF VRs fi env m F ρ s Q) (SE w KF fi env F ρ s E) s := by
  induction es generalizing Q with
  | nil => exact fun h A env F ρ s hA S => wpAny_pure ⟨ρ, _, [], .refl, S, .nil, h⟩
  | cons e es ih =>
    intro H h A env F ρ s hA S
    refine Calls.spliced_cons (wpAny_mono ((show WE prog w KF fi d E m H e _ from h) A env F ρ s hA S) (fun u s₁ hx => ?_) fun _ _ x => x)
    obtain ⟨ρ₁, H₁, a, st₁, S₁, ra, h₁⟩ := hx
    exact onto st₁ (wpAny_mono (ih h₁ A env F ρ₁ s₁ hA S₁) (fun us s₂ ⟨ρ₂, H₂, as, st₂, S₂, ras, h₂⟩ => (⟨ρ₂, H₂, a :: as, st₁.trans st₂, S₂, .cons (ra.mono st₂.1 st₂.2.1) ras, h₂⟩ : SQ w KF VRs fi env m F ρ s Q (u :: us) s₂)) fun _ _ x => x) fun _ _ x => x
theorem we_list {es : List Expr} {pos : Pos} {Q : V → List O → Prop} (h : WEs prog w KF fi d E m H es fun vs H₁ => vs.length ≤ sizeLine ∧ Q (.ref H₁.length) (H₁ ++ [.list vs])) (hp : Plain es := by intro _; rfl) : WE prog w KF fi d E m H (.List es pos) Q :=
  fun A env F ρ s hA S => by
    refine List_ ?_
    rw [hp env]
    refine wpAny_mono (wes_run h A env F ρ s hA S) (fun us s₁ hx => ?_) fun _ _ x => x
    obtain ⟨ρ₁, H₁, as, st₁, S₁, ra, hsz, h₁⟩ := hx
    refine wpAny_newObj_type ?_ (by show us.toArray.size ≤ sizeLine; rw [List.size_toArray, ra.len]; exact hsz)
    have k : Keep s₁.heap (s₁.heap.push { cls := .type "list", data := .seq us.toArray }) := fun _ _ e => Heap.get?_push_of_some _ e
    have p : ρ₁ <+: ρ₁ ++ [⟨s₁.heap.objs.size, [s₁.heap.objs.size], none⟩] := List.prefix_append _ _
    have hg : (s₁.heap.push { cls := .type "list", data := .seq us.toArray }).get? s₁.heap.objs.size = some { cls := .type "list", data := .seq us.toArray } := Heap.get?_push_size _ rfl
    refine ⟨_, _, .ref H₁.length, st₁.trans (.add (.of_keep k) rfl), S₁.ofH p (.of_keep k) (S₁.toH.alloc (o := .list as) k (get_size _) ⟨_, hg⟩ ⟨rfl, rfl, us, ⟨_, hg⟩, ra.mono p (.of_keep k)⟩), ?_, h₁⟩
    unfold VR
    exact ⟨_, by rw [← S₁.hs.len, List.getElem?_concat_length], rfl⟩
theorem we_tup {es : List Expr} {k : Nat} {pos : Pos} {Q : V → List O → Prop} (h : WEs prog w KF fi d E m H es fun vs H₁ => vs.length ≤ sizeLine ∧ Q (.tup vs) H₁) (hp : Plain es := by intro _; rfl) : WE prog w KF fi d E m H (.Tuple es k pos) Q :=
  fun A env F ρ s hA S => by
    refine Tuple_ ?_
    rw [hp env]
    refine wpAny_mono (wes_run h A env F ρ s hA S) (fun us s₁ hx => ?_) fun _ _ x => x
    obtain ⟨ρ₁, H₁, as, st₁, S₁, ra, hsz, h₁⟩ := hx
    refine wpAny_newObj_type ?_ (by show us.toArray.size ≤ sizeLine; rw [List.size_toArray, ra.len]; exact hsz)
    have k : Keep s₁.heap (s₁.heap.push { cls := .type "tuple", data := .seq us.toArray }) := fun _ _ e => Heap.get?_push_of_some _ e
    have hg : (s₁.heap.push { cls := .type "tuple", data := .seq us.toArray }).get? s₁.heap.objs.size = some { cls := .type "tuple", data := .seq us.toArray } := Heap.get?_push_size _ rfl
    refine ⟨ρ₁, H₁, .tup as, st₁.trans (.same (.of_keep k) rfl), S₁.keeps k, ?_, h₁⟩
    unfold VR
    exact ⟨_, us, rfl, ⟨_, hg, rfl, _, rfl⟩, ra.mono (List.prefix_refl _) (.of_keep k)⟩
end
end Mine
end
section
open PySem PySem.W PyProof.Rows PySem.W.X
namespace Mine
section
variable (prog : Program) (w : World) (KF : Frag) (fi : FI) (d : Nat) (E : EP)
/-- targets, one behind the other -/
noncomputable def WAs : Names → List O → List Expr → List V → (Names → List O → Prop) → Prop
  | m, H, [], [], Q => Q m H
  | m, H, t :: ts, v :: vs, Q => WA prog w KF fi d E m H t v fun m₁ H₁ => WAs m₁ H₁ ts vs Q
  | _, _, _, _, _ => False
end
noncomputable abbrev UnR (_ : List Ent) (_ : Heap) (_ _ : Unit) : Prop := True
section
variable {prog : Program} {w : World} {KF : Frag} {fi : FI} {d : Nat} {E : EP} {m : Names} {H : List O}
/-- a name that the frame may store -/
noncomputable def Ours (fi : FI) (x : Str) : Prop := fi.sc.names.lookup x = some .local ∨ (fi.sc.names.lookup x = some .cell ∧ fi.own = true)
theorem Sim.nocls {env : Env} {F : Base} {ρ : List Ent} {h : Heap} {gs : Array GenState} (S : Sim w KF fi env m F ρ H h gs) : (env.scope.kind == .class || (env.scope.kind == .module && env.locals != env.globals)) = false := by rw [S.kd]; rfl
theorem st_name' {A : Around} {env : Env} {F : Base} {ρ : List Ent} {s : Shared} {x : Str} {v : V} {u : Value} {E' : Value → Shared → Prop} (S : Sim w KF fi env m F ρ H s.heap s.gens) (r : VR ρ s.heap v u) (hk : Ours fi x) :
    wpAny (model prog w) A (storeName env x u) (fun _ s' => Step ρ s ρ s' ∧ Sim w KF fi env (setL m x v) F ρ H s'.heap s'.gens ∧ ∀ b o, b ∉ ownA fi env → s.heap.get? b = some o → s'.heap.get? b = some o) E' s := by
  rcases hk with hl | ⟨hl, ho⟩
  · obtain ⟨mv, hn, hm⟩ := S.ns
    refine wpAny_storeName_local ((S.kind x).trans hl) hn (fun h' hn' hs => ⟨.same (.of_ext (fun b o hb e => hs.extBut b o hb e) (ns_not_imm hn)) rfl, S.setLoc r hn hm hn' hs hl, fun b o hb e => hs.extBut b o (fun q => hb (q ▸ loc_own fi env)) e⟩) S.nocls
  · obtain ⟨c, hc⟩ := S.ce x (.inl hl)
    obtain ⟨ov, hi, _⟩ := S.cl x c hc
    refine wpAny_storeName_cell S.kd ((S.kind x).trans hl) hc hi fun h' hi' hs => ⟨.same (.of_ext (fun b o hb e => hs.extBut b o hb e) (cell_not_imm hi)) rfl, S.setCell r ho hc hi hi' hs (by rw [hl]; decide), fun b o hb e => hs.extBut b o (fun q => hb ?_) e⟩
    rw [q]; unfold ownA; rw [if_pos ho]; exact .tail _ (List.mem_map.mpr ⟨_, lookup_mem hc, rfl⟩)
theorem st_name {A : Around} {env : Env} {F : Base} {ρ : List Ent} {s : Shared} {x : Str} {v : V} {u : Value} {E' : Value → Shared → Prop} (S : Sim w KF fi env m F ρ H s.heap s.gens) (r : VR ρ s.heap v u) (hk : Ours fi x) :
    wpAny (model prog w) A (storeName env x u) (fun _ s' => Step ρ s ρ s' ∧ Sim w KF fi env (setL m x v) F ρ H s'.heap s'.gens) E' s := wpAny_mono (st_name' S r hk) (fun _ _ x => ⟨x.1, x.2.1⟩) fun _ _ x => x
theorem wa_name {x : Str} {pos : Pos} {v : V} {Q : Names → List O → Prop} (hk : Ours fi x) (h : Q (setL m x v) H) : WA prog w KF fi d E m H (.Name x pos) v Q :=
  fun A env F ρ s u hA S r => wpAny_assign_Name (wpAny_mono (st_name S r hk) (fun _ s' ⟨st, S'⟩ => ⟨ρ, H, _, st, S', h⟩) fun _ _ x => x)
theorem wa_attr {o : Expr} {attr : Str} {pos : Pos} {v : V} {Q : Names → List O → Prop} (h : WE prog w KF fi d E m H o fun ov H₁ => W2 prog w KF d (Em E m) UnR H₁ (fun u v => setAttr u attr v) ov v fun _ H₃ => Q m H₃) : WA prog w KF fi d E m H (.Attribute o attr pos) v Q :=
  fun A env F ρ s u hA S r => by
    show wpAny _ A (do
      let ov ← holding [u] (eval o env)
      standAt pos.atName
      holding [u, ov] (setAttr ov attr u)
      release [u, ov] []) _ _ s
    refine wpAny_bind (wpAny_holding (wpAny_mono (h A env F ρ s hA S) (fun ov s₁ hx => ?_) fun _ _ x => x))
    obtain ⟨ρ₁, H₁, a, st₁, S₁, ra, h₁⟩ := hx
    refine wpAny_bind (wpAny_standAt (wpAny_bind (wpAny_holding (onto st₁ (lift S₁ fun F' q T => h₁ A F' ρ₁ s₁ ov u (q ▸ hA) T ra (r.mono st₁.1 st₁.2.1)) ?_))))
    rintro _ s₃ ⟨ρ₃, H₃, _, st₃, S₃, _, h₃⟩
    exact wpAny_release ⟨ρ₃, H₃, m, st₁.trans st₃, S₃, h₃⟩
noncomputable def PlainT (es : List Expr) : Prop := ∀ env, assignEach es env = es.map fun e => (false, assign e env)
theorem was_run {ts : List Expr} : ∀ {m : Names} {H : List O} {vs : List V} {Q : Names → List O → Prop}, WAs prog w KF fi d E m H ts vs Q → ∀ A env F ρ s us, Room A d (frOf env F) → Sim w KF fi env m F ρ H s.heap s.gens → VRs ρ s.heap vs us →
    wpAny (model prog w) A (assignInOrder (ts.map fun e => assign e env) us) (fun _ s' => ∃ ρ' H' m', Step ρ s ρ' s' ∧ Sim w KF fi env m' F ρ' H' s'.heap s'.gens ∧ Q m' H') (SE w KF fi env F ρ s E) s := by
  induction ts with
  | nil =>
    intro m H vs Q h A env F ρ s us hA S r
    cases vs with
    | nil => rw [r.nil_eq]; exact wpAny_pure ⟨ρ, H, m, .refl, S, h⟩
    | cons _ _ => exact h.elim
  | cons t ts ih =>
    intro m H vs Q h A env F ρ s us hA S r
    cases vs with
    | nil => exact h.elim
    | cons v vs =>
      obtain ⟨u, us, rfl, ru, rus⟩ := r.cons_eq
      show wpAny _ A (do holding us (assign t env u); assignInOrder (ts.map fun e => assign e env) us) _ _ s
      refine wpAny_bind (wpAny_holding (wpAny_mono (h A env F ρ s u hA S ru) (fun _ s₁ ⟨ρ₁, H₁, m₁, st₁, S₁, h₁⟩ => ?_) fun _ _ x => x))
      exact onto st₁ (ih h₁ A env F ρ₁ s₁ us hA S₁ (rus.mono st₁.1 st₁.2.1)) fun _ s₂ ⟨ρ₂, H₂, m₂, st₂, S₂, h₂⟩ => ⟨ρ₂, H₂, m₂, st₁.trans st₂, S₂, h₂⟩
theorem plainT_len {es : List Expr} (hp : PlainT es) (env : Env) : (assignEach es env).length = es.length ∧ (assignEach es env).findIdx? (·.1) = none ∧ (assignEach es env).map (·.2) = es.map fun e => assign e env := by
  rw [hp env]
  refine ⟨List.length_map .., ?_, by rw [List.map_map]; rfl⟩
  rw [List.findIdx?_eq_none_iff]
  intro x hx
  obtain ⟨e, _, rfl⟩ := List.mem_map.mp hx
  rfl
theorem wa_tup {es : List Expr} {k : Nat} {pos : Pos} {v : V} {Q : Names → List O → Prop} (h : W1 prog w KF d (Em E m) VRs H (fun u => unpackItems u es.length none) v fun vs H₁ => WAs prog w KF fi d E m H₁ es vs Q) (hp : PlainT es := by intro _; rfl) : WA prog w KF fi d E m H (.Tuple es k pos) v Q :=
  fun A env F ρ s u hA S r => by
    rw [arm_assign_Tuple]
    refine wpAny_bind (wpAny_standAt ?_)
    unfold unpack
    obtain ⟨h1, h2, h3⟩ := plainT_len hp env
    rw [h1, h2, h3]
    refine wpAny_bind (wpAny_holding (wpAny_mono (lift S fun F' q T => h A F' ρ s u (q ▸ hA) T r) (fun us s₁ hx => ?_) fun _ _ x => x))
    obtain ⟨ρ₁, H₁, vs, st₁, S₁, rs, h₁⟩ := hx
    exact onto st₁ (was_run h₁ A env F ρ₁ s₁ us hA S₁ rs) fun _ s₂ ⟨ρ₂, H₂, m₂, st₂, S₂, h₂⟩ => ⟨ρ₂, H₂, m₂, st₁.trans st₂, S₂, h₂⟩
/-- one target -/
theorem ws_assign {t value : Expr} {pos : Pos} {Q : Fl → Names → List O → Prop} (h : WE prog w KF fi d E m H value fun v H₁ => WA prog w KF fi d E m H₁ t v fun m₂ H₂ => Q .next m₂ H₂)
    (hs : ∀ env, swapsWithSole [t] value pos.line env = pure false := by intro _; rfl) (hw : ∀ env, swappedStores [t] value env = pure none := by intro _; rfl) (he : ∀ env, assignEach [t] env = [(false, assign t env)] := by intro _; rfl) : WS prog w KF fi d E m H (.Assign [t] value pos) Q :=
  fun A env F ρ s hA S => by
    refine wpAny_Assign_stores (wpAny_mono (h A env F ρ s hA S) (fun u s₁ hx => ?_) fun _ _ x => x) (hs env) (hw env)
    obtain ⟨ρ₁, H₁, v, st₁, S₁, r, h₁⟩ := hx
    rw [he env]
    show wpAny _ A (assign t env u) _ _ _
    exact onto st₁ (h₁ A env F ρ₁ s₁ u hA S₁ r) fun _ s₂ ⟨ρ₂, H₂, m₂, st₂, S₂, h₂⟩ => ⟨ρ₂, H₂, m₂, .next, st₁.trans st₂, S₂, rfl, h₂⟩
/-- names stored from the last to the first -/
noncomputable def setAll (m : Names) : List Str → List V → Names
  | x :: xs, v :: vs => setAll (setL m x v) xs vs
  | _, _ => m
theorem sets_run {xs : List Str} : ∀ {m : Names} {vs : List V}, (∀ x ∈ xs, Ours fi x) → vs.length = xs.length → ∀ A env F ρ s us, Sim w KF fi env m F ρ H s.heap s.gens → VRs ρ s.heap vs us → ∀ {E' : Value → Shared → Prop},
    wpAny (model prog w) A (assignInOrder (xs.map fun x => bindName env x) us) (fun _ s' => Step ρ s ρ s' ∧ Sim w KF fi env (setAll m xs vs) F ρ H s'.heap s'.gens) E' s := by
  induction xs with
  | nil =>
    intro m vs _ hl A env F ρ s us S r E'
    cases vs with
    | nil => rw [r.nil_eq]; exact wpAny_pure ⟨.refl, S⟩
    | cons _ _ => cases hl
  | cons x xs ih =>
    intro m vs hx hl A env F ρ s us S r E'
    cases vs with
    | nil => cases hl
    | cons v vs =>
      obtain ⟨u, us, rfl, ru, rus⟩ := r.cons_eq
      show wpAny _ A (do holding us (bindName env x u); assignInOrder (xs.map fun x => bindName env x) us) _ _ s
      refine wpAny_bind (wpAny_holding (wpAny_bindName (wpAny_mono (st_name S ru (hx x (.head _))) (fun _ s₁ ⟨st₁, S₁⟩ => ?_) fun _ _ x => x)))
      exact wpAny_mono (ih (fun y hy => hx y (.tail _ hy)) (Nat.succ.inj hl) A env F ρ s₁ us S₁ (rus.mono st₁.1 st₁.2.1)) (fun _ s₂ ⟨st₂, S₂⟩ => ⟨st₁.trans st₂, S₂⟩) fun _ _ x => x
theorem VRs.reverse {ρ : List Ent} {h : Heap} : ∀ {xs : List V} {vs : List Value}, VRs ρ h xs vs → VRs ρ h xs.reverse vs.reverse
  | [], vs, r => by rw [r.nil_eq]; exact .nil
  | x :: xs, vs, r => by obtain ⟨v, q, rfl, a, b⟩ := r.cons_eq; rw [List.reverse_cons, List.reverse_cons]; exact (VRs.reverse b).append (.cons a .nil)
theorem ws_swap {es : List Expr} {k : Nat} {tp pos : Pos} {value : Expr} {xs : List Str} {Q : Fl → Names → List O → Prop} (hx : ∀ x ∈ xs, Ours fi x)
    (h : WE prog w KF fi d E m H value fun v H₁ => W1 prog w KF d (Em E m) VRs H₁ (fun u => unpackItems u xs.length none) v fun vs H₂ => vs.length = xs.length ∧ Q .next (setAll m xs.reverse vs.reverse) H₂)
    (hw : ∀ env, env.scope = fi.sc → swappedStores [.Tuple es k tp] value env = pure (some xs)) (hs : ∀ env, swapsWithSole [.Tuple es k tp] value pos.line env = pure false := by intro _; rfl) : WS prog w KF fi d E m H (.Assign [.Tuple es k tp] value pos) Q :=
  fun A env F ρ s hA S => by
    refine Assign_Tuple_swapped (names := xs) (wpAny_mono (h A env F ρ s hA S) (fun u s₁ hx => ?_) fun _ _ x => x) (hs env) (hw env S.es)
    obtain ⟨ρ₁, H₁, v, st₁, S₁, r, h₁⟩ := hx
    refine onto st₁ (wpAny_mono (lift S₁ fun F' q T => h₁ A F' ρ₁ s₁ u (q ▸ hA) T r) (fun us s₂ hx => ?_) fun _ _ x => x) fun _ _ x => x
    obtain ⟨ρ₂, H₂, vs, st₂, S₂, rs, hl, h₂⟩ := hx
    exact wpAny_mono (sets_run (fun x hxm => hx x (List.mem_reverse.mp hxm)) (by rw [List.length_reverse, List.length_reverse]; exact hl) A env F ρ₂ s₂ _ S₂ rs.reverse) (fun _ s₃ ⟨st₃, S₃⟩ => ⟨ρ₂, H₂, _, .next, (st₁.trans st₂).trans st₃, S₃, rfl, h₂⟩) fun _ _ x => x
theorem ws_if {c : Expr} {x y : List Stmt} {pos : Pos} {Q : Fl → Names → List O → Prop} (h : WT prog w KF fi d E m H c fun b H₁ => if b = true then WB prog w KF fi d E m H₁ x Q else WB prog w KF fi d E m H₁ y Q) : WS prog w KF fi d E m H (.If c x y pos) Q :=
  fun A env F ρ s hA S => wpAny_If (wpAny_mono (h A env F ρ s hA S) (fun b s₁ ⟨ρ₁, H₁, a, st₁, S₁, ra, h₁⟩ => by
    cases ra
    cases b
    · exact onto st₁ ((show WB prog w KF fi d E m H₁ y Q from h₁) A env F ρ₁ s₁ hA S₁) fun _ _ x => x.step st₁
    · exact onto st₁ ((show WB prog w KF fi d E m H₁ x Q from h₁) A env F ρ₁ s₁ hA S₁) fun _ _ x => x.step st₁) fun _ _ x => x)
theorem ws_ret {e : Expr} {pos : Pos} {Q : Fl → Names → List O → Prop} (h : WE prog w KF fi d E m H e fun v H₁ => Q (.ret v) m H₁) : WS prog w KF fi d E m H (.Return (some e) pos) Q :=
  fun A env F ρ s hA S => wpAny_Return_some (wpAny_mono (h A env F ρ s hA S) (fun u s₁ ⟨ρ₁, H₁, a, st₁, S₁, ra, h₁⟩ => ⟨ρ₁, H₁, m, .ret a, st₁, S₁, ⟨u, rfl, ra⟩, h₁⟩) fun _ _ x => x)
theorem Sim.noint {env : Env} {F : Base} {ρ : List Ent} {h : Heap} {gs : Array GenState} (S : Sim w KF fi env m F ρ H h gs) : interactive env = false := by unfold interactive; rw [S.kd]; rfl
theorem ws_expr {e : Expr} {pos : Pos} {Q : Fl → Names → List O → Prop} (h : WE prog w KF fi d E m H e fun v H₁ => Q .next m H₁) (hs : ∀ env, swapsWith e none pos.line env = pure false := by intro _; rfl) : WS prog w KF fi d E m H (.Expr e pos) Q :=
  fun A env F ρ s hA S => wpAny_Expr_any (wpAny_mono (h A env F ρ s hA S) (fun u s₁ ⟨ρ₁, H₁, a, st₁, S₁, ra, h₁⟩ => ⟨ρ₁, H₁, m, .next, st₁, S₁, rfl, h₁⟩) fun _ _ x => x) S.noint (hs env)
theorem wb_nil {Q : Fl → Names → List O → Prop} (h : Q .next m H) : WB prog w KF fi d E m H [] Q :=
  fun A env F ρ s hA S => wpAny_execs_nil ⟨ρ, H, m, .next, .refl, S, rfl, h⟩
theorem wb_cons {st : Stmt} {rest : List Stmt} {Q : Fl → Names → List O → Prop} (h : WS prog w KF fi d E m H st fun f m₁ H₁ => match f with | .next => WB prog w KF fi d E m₁ H₁ rest Q | f => Q f m₁ H₁) : WB prog w KF fi d E m H (st :: rest) Q :=
  fun A env F ρ s hA S => wpAny_execs_cons (wpAny_mono (h A env F ρ s hA S) (fun f s₁ ⟨ρ₁, H₁, m₁, fl, st₁, S₁, rf, h₁⟩ => by
    cases fl with
    | next => cases rf; exact onto st₁ (h₁ A env F ρ₁ s₁ hA S₁) fun _ _ x => x.step st₁
    | brk => cases rf; exact ⟨ρ₁, H₁, m₁, .brk, st₁, S₁, rfl, h₁⟩
    | cont => cases rf; exact ⟨ρ₁, H₁, m₁, .cont, st₁, S₁, rfl, h₁⟩
    | ret v => obtain ⟨u, rfl, r⟩ := rf; exact ⟨ρ₁, H₁, m₁, .ret v, st₁, S₁, ⟨u, rfl, r⟩, h₁⟩) fun _ _ x => x)
theorem se_passes {A : Around} {env : Env} {F : Base} {ρ : List Ent} {s : Shared} : PassesOwn (model prog w) A env (SE w KF fi env F ρ s E) := fun _ _ ⟨_, _, _, _, _, _, x, _⟩ => x.elim
end
end Mine
end
section
open PySem PySem.W PyProof.Rows PySem.W.X
namespace Mine
/-- nothing but fp is touched -/
noncomputable def Chg (fp : List Nat) (s s' : Shared) : Prop := s'.gens = s.gens ∧ s'.os = s.os ∧ TK s.heap s'.heap ∧ ∀ b o, b ∉ fp → s.heap.get? b = some o → s'.heap.get? b = some o
theorem Chg.refl {fp : List Nat} {s : Shared} : Chg fp s s := ⟨rfl, rfl, .refl _, fun _ _ _ e => e⟩
section
variable {w : World} {KF : Frag} {fi : FI} {env : Env} {m m' : Names} {F : Base} {ρ ρ' : List Ent} {H H' : List O} {h h' : Heap} {gs gs' : Array GenState} {fp : List Nat}
theorem HSim.chg {s s' : Shared} (S : HSim w KF F ρ H s.heap s.gens) (hf : ∀ b ∈ fp, F.f b = none ∧ b ∉ fps ρ) (c : Chg fp s s') : HSim w KF F ρ H s'.heap s'.gens := by
  obtain ⟨cg, _, t, k⟩ := c
  have kF : KeepG F s'.heap := fun b o e => let ⟨o', e', u⟩ := S.keep b o e; ⟨o', k b o' (fun q => by rw [(hf b q).1] at e; cases e) e', u⟩
  have kp : ∀ b ∈ fps ρ, ∀ o, s.heap.get? b = some o → s'.heap.get? b = some o := fun b hb o e => k b o (fun q => (hf b q).2 hb) e
  exact ⟨S.bs, kF, S.len, fun i e o hi ho => (S.ob i e o hi ho).mono (List.prefix_refl _) t S.keep kF (fun b hb q hq => kp b (fps_mem hi hb) q hq), fun b hb => let ⟨o, ho⟩ := S.live b hb; ⟨o, kp b hb o ho⟩, S.nd, S.off, S.gn, by rw [cg]; exact S.bare, by rw [cg]; exact S.gf, S.fo⟩
/-- fp is none of the frame's -/
noncomputable def FpOff (fi : FI) (env : Env) (F : Base) (ρ : List Ent) (fp : List Nat) : Prop := ∀ b ∈ fp, F.f b = none ∧ b ∉ fps ρ ∧ b ∉ ownA fi env
theorem Sim.chg {s s' : Shared} (S : Sim w KF fi env m F ρ H s.heap s.gens) (hf : FpOff fi env F ρ fp) (c : Chg fp s s') : Sim w KF fi env m F ρ H s'.heap s'.gens :=
  S.ofH (List.prefix_refl _) c.2.2.1 (S.toH.chg (fun b hb => ⟨by rw [addE_out (hf b hb).2.2]; exact (hf b hb).1, (hf b hb).2.1⟩) c)
theorem Sim.own_live (S : Sim w KF fi env m F ρ H h gs) : ∀ b ∈ ownA fi env, ∃ o, h.get? b = some o ∧ o.cls ≠ .type "list" ∨ ∃ o, h.get? b = some o := fun b hb => by
  unfold ownA at hb
  split at hb
  · rcases List.mem_cons.mp hb with rfl | hb
    · obtain ⟨mv, ⟨o, _, _, ho, _⟩, _⟩ := S.ns; exact ⟨o, .inr ⟨o, ho⟩⟩
    · obtain ⟨⟨x, c⟩, hm, rfl⟩ := List.mem_map.mp hb
      obtain ⟨ov, ⟨o, ho, _⟩, _⟩ := S.cl x c (S.cu x c hm).1
      exact ⟨o, .inr ⟨o, ho⟩⟩
  · rw [List.mem_singleton.mp hb]
    obtain ⟨mv, ⟨o, _, _, ho, _⟩, _⟩ := S.ns; exact ⟨o, .inr ⟨o, ho⟩⟩
theorem Sim.fresh (S : Sim w KF fi env m F ρ H h gs) (hf : ∀ b ∈ fp, h.get? b = none) : FpOff fi env F ρ fp := fun b hb => by
  refine ⟨?_, fun q => ?_, fun q => ?_⟩
  · cases q : F.f b with
    | none => rfl
    | some o => obtain ⟨o', e', _⟩ := S.hs.keep _ _ q; rw [hf b hb] at e'; cases e'
  · obtain ⟨o, ho⟩ := S.hs.live b q; rw [hf b hb] at ho; cases ho
  · obtain ⟨o, ⟨ho, _⟩ | ⟨o, ho⟩⟩ := S.own_live b q <;> (rw [hf b hb] at ho; cases ho)
/-- the iterator put into the base -/
theorem Sim.rebase (S : Sim w KF fi env m F ρ H h gs) (hf : FpOff fi env F ρ fp) : Sim w KF fi env m (addF F h fp) ρ H h gs := by
  have hF : ∀ b o, F.f b = some o → (addF F h fp).f b = some o := fun b o e => by
    rw [addF_out (fun q => by rw [(hf b q).1] at e; cases e)]; exact e
  refine ⟨⟨fun h' k => S.hs.bs h' (fun b o e => k b o (hF b o e)), fun b o e => ?_, S.hs.len, fun i e o hi ho => (S.hs.ob i e o hi ho).base hF, S.hs.live, S.hs.nd, fun b hb => ?_, S.hs.gn, S.hs.bare, S.hs.gf, fun e he => let ⟨h1, L, o, h2, h3, h4⟩ := S.hs.fo e he; ⟨h1, L, o, h2, hF L o h3, h4⟩⟩, S.es, S.eg, S.eb, S.ec, S.ek, S.ef, fun b hb => ⟨?_, (S.lo b hb).2⟩, S.ns, S.cl, S.ce, S.cn, S.cu, S.cd, fun q x c hc => ?_⟩
  · by_cases q : b ∈ fp
    · rw [addF_in q] at e; exact ⟨o, e, .refl⟩
    · rw [addF_out q] at e; exact S.hs.keep b o e
  · rw [addF_out (fun q => (hf b q).2.1 hb)]; exact S.hs.off b hb
  · rw [addF_out (fun q => (hf b q).2.2 hb)]; exact (S.lo b hb).1
  · obtain ⟨o, ho⟩ := Option.isSome_iff_exists.mp (S.cf q x c hc)
    rw [hF c o ho]; rfl
theorem Sim.unbase (S : Sim w KF fi env m F ρ H h gs) (hf : FpOff fi env F ρ fp) (hl : ∀ b ∈ fp, ∃ o, h.get? b = some o) (p : ρ <+: ρ') {nn : Nat} (nw : New nn ρ ρ') (T : Sim w KF fi env m' (addF F h fp) ρ' H' h' gs') :
    Sim w KF fi env m' F ρ' H' h' gs' ∧ FpOff fi env F ρ' fp ∧ ∀ b ∈ fp, ∀ o, h.get? b = some o → h'.get? b = some o := by
  have hF : ∀ b o, F.f b = some o → (addF F h fp).f b = some o := fun b o e => by
    rw [addF_out (fun q => by rw [(hf b q).1] at e; cases e)]; exact e
  have hoF : ∀ b, (addF F h fp).f b = none → F.f b = none := fun b q => by
    cases z : F.f b with
    | none => rfl
    | some o => rw [hF b o z] at q; cases q
  have kp : ∀ b ∈ fp, ∀ o, h.get? b = some o → h'.get? b = some o := fun b hb o e => by
    obtain ⟨o', e', u⟩ := T.hs.keep b o (by rw [addF_in hb]; exact e)
    rw [e', u.ex (S.hs.fo.off (hf b hb).1)]
  refine ⟨⟨⟨S.hs.bs, fun b o e => T.hs.keep b o (hF b o e), T.hs.len, fun i e o hi ho => ?_, T.hs.live, T.hs.nd, fun b hb => hoF b (T.hs.off b hb), T.hs.gn, T.hs.bare, T.hs.gf, S.hs.fo⟩, T.es, T.eg, T.eb, T.ec, T.ek, T.ef, fun b hb => ⟨hoF b (T.lo b hb).1, (T.lo b hb).2⟩, T.ns, T.cl, T.ce, T.cn, T.cu, T.cd, S.cf⟩, fun b hb => ⟨(hf b hb).1, fun q => ?_, (hf b hb).2.2⟩, kp⟩
  · have y := T.hs.ob i e o hi ho
    cases o with
    | arr xs =>
      obtain ⟨a, b, l, f⟩ := y
      refine ⟨a, b, l, ?_⟩
      by_cases q : i < ρ.length
      · have hi' : ρ[i]? = some e := by obtain ⟨t, rfl⟩ := p; rwa [List.getElem?_append_left q] at hi
        have hH : i < H.length := by rw [← S.hs.len]; exact q
        have y' := S.hs.ob i e H[i] hi' (List.getElem?_eq_getElem hH)
        rcases y'.own with ⟨ys, q2⟩ | q2 | q2
        · rw [q2] at y'; exact y'.2.2.2
        · rw [a] at q2; cases q2
        · rw [b] at q2; cases q2
      · exact absurd a (nw i e (Nat.not_lt.mp q) hi).1
    | _ => exact y
  · have := T.hs.off b q
    rw [addF_in hb] at this
    obtain ⟨o, ho⟩ := hl b hb
    rw [this] at ho; cases ho
end
/-- an iterator and its items -/
structure Iter (prog : Program) (w : World) (KF : Frag) (I : Nat) (fp : List Nat) (xs : List V) (G : List O → Prop) (St : Nat → List Ent → Heap → Prop) : Prop where
  frame : ∀ i ρ h ρ' h', St i ρ h → ρ <+: ρ' → TK h h' → (∀ b ∈ fp, ∀ o, h.get? b = some o → h'.get? b = some o) → St i ρ' h'
  live : ∀ i ρ h, St i ρ h → ∀ b ∈ fp, ∃ o, h.get? b = some o
  lot : ∀ A i ρ (s : Shared) t v (E' : Value → Shared → Prop), St i ρ s.heap → wpAny (model prog w) A (letOwnedTupleGo t (.ref I) v) (fun _ s' => St i ρ s'.heap ∧ Chg fp s s') E' s
  item : ∀ A F ρ H (s : Shared) i x (E' : Value → Shared → Prop), A.handled = none → HSim w KF F ρ H s.heap s.gens → G H → St i ρ s.heap → xs[i]? = some x →
    wpAny (model prog w) A (pyNext (.ref I)) (fun r s' => ∃ v, r = some v ∧ VR ρ s'.heap x v ∧ St (i + 1) ρ s'.heap ∧ Chg fp s s') E' s
  done : ∀ A F ρ H (s : Shared) (E' : Value → Shared → Prop), A.handled = none → HSim w KF F ρ H s.heap s.gens → G H → St xs.length ρ s.heap →
    wpAny (model prog w) A (pyNext (.ref I)) (fun r s' => r = none ∧ Chg fp s s') E' s
  self : ∀ A i ρ (s : Shared) (K : Value → Shared → Prop) (E' : Value → Shared → Prop), St i ρ s.heap → K (.ref I) s → wpAny (model prog w) A (pyIter (.ref I)) K E' s
section
variable (prog : Program) (w : World) (KF : Frag) (d : Nat) (E : HEP)
/-- the items that a value gives, as long as G holds -/
noncomputable def IterW (H : List O) (v : V) (xs : List V) (G : List O → Prop) : Prop :=
  ∀ A F ρ s u, Room A d F.fr → HSim w KF F ρ H s.heap s.gens → VR ρ s.heap v u → wpAny (model prog w) A (pyIter u) (fun it s' => ∃ I fp St, it = .ref I ∧ Iter prog w KF I fp xs G St ∧ St 0 ρ s'.heap ∧ Keep s.heap s'.heap ∧ s'.gens = s.gens ∧ s'.os = s.os ∧ ∀ b ∈ fp, s.heap.get? b = none) (HE w KF F ρ s E) s
end
section
variable {prog : Program} {w : World} {KF : Frag} {fi : FI} {d : Nat} {E : EP} {m : Names} {H : List O}
theorem for_loop {A : Around} {s : Shared} {R : Result → Shared → Prop} {target it body orelse env} (I : Nat → Shared → Prop)
    (turn : ∀ n s, I n s → wpAny (model prog w) A (pyNext it) (fun r s₁ => match r with
      | none => wpAny (model prog w) A (execs orelse env) (fun f s₃ => R (.ok f) s₃) (notedBy (model prog w) A env fun e s' => R (.error e) s') s₁
      | some v => wpAny (model prog w) A (letOwnedTupleGo target it v) (fun _ s₀ => wpAny (model prog w) A (assign target env v) (fun _ s₂ => wpAny (model prog w) A (execs body env) (fun f s₃ => match f with
          | .next | .cont => ∃ m, m < n ∧ I m s₃
          | .brk => R (.ok .next) s₃
          | .ret v => R (.ok (.ret v)) s₃) (notedBy (model prog w) A env fun e s' => R (.error e) s') s₂) (notedBy (model prog w) A env fun e s' => R (.error e) s') s₀) (notedBy (model prog w) A env fun e s' => R (.error e) s') s₁) (notedBy (model prog w) A env fun e s' => R (.error e) s') s)
    (n : Nat) (h : I n s) : codeAny (model prog w) A (.forLoop target it body orelse env) R s := by
  refine codeAny_loop' rfl I (fun n s hI => ?_) n h
  show wpAny _ _ ((forTurn target it body orelse env).onRaise (fun x => do noteFrame x env; theTreesLotGoes x)) _ _ s
  refine wpAny_noted ?_
  simp only [forTurn]
  refine wpAny_bind (wpAny_standAt (wpAny_bind (wpAny_onRaise (wpAny_mono (turn n s hI) (fun r s₁ h₁ => ?_) fun _ _ h' => wpAny_standAt h'))))
  cases r with
  | none => exact wpAny_pure (.inr ⟨rfl, codeAny_block h₁⟩)
  | some v =>
    refine wpAny_bind (wpAny_mono h₁ (fun _ s₀ h₀ => ?_) fun _ _ h' => h')
    refine wpAny_bind (wpAny_mono h₀ (fun _ s₂ h₂ => wpAny_bind (wpAny_mono h₂ (fun f s₃ h₃ => ?_) fun _ _ h' => h')) fun _ _ h' => h')
    cases f with
    | next => exact wpAny_pure (.inl ⟨rfl, h₃⟩)
    | cont => exact wpAny_pure (.inl ⟨rfl, h₃⟩)
    | brk => exact wpAny_pure h₃
    | ret v => exact wpAny_pure h₃
theorem SE.unbase {env : Env} {F : Base} {ρ : List Ent} {s : Shared} {h : Heap} {fp : List Nat} {e : Value} {s' : Shared} (x : SE w KF fi env (addF F h fp) ρ s E e s') : SE w KF fi env F ρ s E e s' := let ⟨_, _, _, _, _, _, x, _⟩ := x; x.elim
theorem Chg.step {fp : List Nat} {s s' : Shared} {ρ : List Ent} (c : Chg fp s s') : Step ρ s ρ s' := .same c.2.2.1 c.2.1 (by rw [c.1]; exact Nat.le_refl _)
/-- for, by what holds ahead of each turn -/
theorem ws_for {target iter : Expr} {body : List Stmt} {pos : Pos} {Q : Fl → Names → List O → Prop}
    (h : WE prog w KF fi d E m H iter fun v H₁ => ∃ xs G, IterW prog w KF d (Em E m) H₁ v xs G ∧ ∃ J : Nat → Names → List O → Prop, J 0 m H₁ ∧ (∀ i m H, J i m H → G H) ∧
      (∀ i x m H, xs[i]? = some x → J i m H → WA prog w KF fi d E m H target x fun m₂ H₂ => WB prog w KF fi d E m₂ H₂ body fun f m₃ H₃ => match f with | .next | .cont => J (i + 1) m₃ H₃ | .brk => Q .next m₃ H₃ | .ret v => Q (.ret v) m₃ H₃) ∧
      (∀ m H, J xs.length m H → Q .next m H)) (hs : ∀ env x, foldedSetIterable iter env x = pure x := by intro _ _; rfl) : WS prog w KF fi d E m H (.For target iter body [] pos) Q :=
  fun A env F ρ s hA S => by
    refine wpAny_For (wpAny_mono (h A env F ρ s hA S) (fun u s₁ hx => ?_) fun _ _ x => x) (hs env)
    obtain ⟨ρ₁, H₁, v, st₁, S₁, r, xs, G, hI, J, hJ0, hJG, hT, hD⟩ := hx
    have hI' := hI A _ ρ₁ s₁ u hA S₁.toH r
    refine wpAny_mono hI' (fun it s₂ hx => ?_) (fun _ _ ⟨_, _, _, _, _, x, _⟩ => x.elim)
    obtain ⟨I, fp, St, e, IT, hSt, hk, hg, ho, hf⟩ := hx
    subst e
    have S₂ : Sim w KF fi env m F ρ₁ H₁ s₂.heap s₂.gens := by rw [hg]; exact S₁.keeps hk
    have off₂ := S₁.fresh hf
    have st₂ : Step ρ s ρ₁ s₂ := st₁.trans (.same (.of_keep hk) ho (by rw [hg]; exact Nat.le_refl _))
    refine for_loop (R := fun r s' => match r with | .ok f => StQ w KF fi env F ρ s Q f s' | .error e => cameBackBy (model prog w) A env (SE w KF fi env F ρ s E) e s')
      (fun k s₃ => ∃ i ρ₃ m₃ H₃, Step ρ s ρ₃ s₃ ∧ Sim w KF fi env m₃ F ρ₃ H₃ s₃.heap s₃.gens ∧ St i ρ₃ s₃.heap ∧ FpOff fi env F ρ₃ fp ∧ J i m₃ H₃ ∧ i ≤ xs.length ∧ k = xs.length + 1 - i) ?_ (xs.length + 1) ⟨0, ρ₁, m, H₁, st₂, S₂, hSt, off₂, hJ0, Nat.zero_le _, rfl⟩
    rintro k s₃ ⟨i, ρ₃, m₃, H₃, st₃, S₃, hSt₃, off₃, hJ, hi, rfl⟩
    by_cases hlt : i < xs.length
    · refine wpAny_mono (IT.item A _ ρ₃ H₃ s₃ i xs[i] _ hA.hd S₃.toH (hJG _ _ _ hJ) hSt₃ (List.getElem?_eq_getElem hlt)) (fun r s₄ ⟨v, e, rv, hSt₄, c₄⟩ => ?_) fun _ _ x => x
      subst e
      have S₄ := S₃.chg off₃ c₄
      refine wpAny_mono (IT.lot A (i + 1) ρ₃ s₄ target v _ hSt₄) (fun _ s₅ ⟨hSt₅, c₅⟩ => ?_) fun _ _ x => x
      have S₅ := S₄.chg off₃ c₅
      have st₅ := (st₃.trans c₄.step).trans c₅.step
      have hl := IT.live _ _ _ hSt₅
      refine wpAny_passesOwn se_passes (wpAny_mono (hT i _ m₃ H₃ (List.getElem?_eq_getElem hlt) hJ A env (addF F s₅.heap _) ρ₃ s₅ v hA (S₅.rebase off₃) (rv.mono (List.prefix_refl _) c₅.2.2.1)) (fun _ s₆ ⟨ρ₆, H₆, m₆, st₆, S₆, h₆⟩ => ?_) fun _ _ x => x.unbase.step st₅)
      have st₆' := st₅.trans st₆
      refine wpAny_passesOwn se_passes (wpAny_mono (h₆ A env (addF F s₅.heap _) ρ₆ s₆ hA S₆) (fun f s₇ hx => ?_) fun _ _ x => x.unbase.step st₆')
      obtain ⟨ρ₇, H₇, m₇, fl, st₇, S₇, rf, h₇⟩ := hx
      obtain ⟨U, offU, kU⟩ := S₅.unbase off₃ hl (st₆.trans st₇).1 (st₆.trans st₇).2.2.2 S₇
      have st₇' := st₆'.trans st₇
      have hSt₇ : St (i + 1) ρ₇ s₇.heap := IT.frame _ _ _ _ _ hSt₅ (st₆.trans st₇).1 (st₆.trans st₇).2.1 kU
      cases fl with
      | next => cases rf; exact ⟨xs.length + 1 - (i + 1), by omega, i + 1, ρ₇, m₇, H₇, st₇', U, hSt₇, offU, h₇, hlt, rfl⟩
      | cont => cases rf; exact ⟨xs.length + 1 - (i + 1), by omega, i + 1, ρ₇, m₇, H₇, st₇', U, hSt₇, offU, h₇, hlt, rfl⟩
      | brk => cases rf; exact ⟨ρ₇, H₇, m₇, .next, st₇', U, rfl, h₇⟩
      | ret v => obtain ⟨u, rfl, r⟩ := rf; exact ⟨ρ₇, H₇, m₇, .ret v, st₇', U, ⟨u, rfl, r⟩, h₇⟩
    · have hin : i = xs.length := by omega
      subst hin
      refine wpAny_mono (IT.done A _ ρ₃ H₃ s₃ _ hA.hd S₃.toH (hJG _ _ _ hJ) hSt₃) (fun r s₄ ⟨e, c₄⟩ => ?_) fun _ _ x => x
      subst e
      exact wpAny_execs_nil ⟨ρ₃, H₃, m₃, .next, st₃.trans c₄.step, S₃.chg off₃ c₄, rfl, hD _ _ hJ⟩
end
end Mine
end
section
open PySem PySem.W PyProof.Rows PySem.W.X
namespace Mine
section
variable {prog : Program} {w : World} {KF : Frag} {A : Around} {E : HEP} {d : Nat} {H : List O}
/-- an iterator that is no owner of its tuples -/
theorem lot_plain {s : Shared} {I : Nat} {o : Obj} {n : String} {t : Expr} {v : Value} {K : Unit → Shared → Prop} {E' : Value → Shared → Prop} (ho : s.heap.get? I = some o) (hc : o.cls = .type n)
    (hn : ["enumerate", "zip", "dict_itemiterator", "dict_reverseitemiterator", "odict_iterator", "itertools.zip_longest", "itertools.pairwise"].contains n = false) (h : K () s) : wpAny (model prog w) A (letOwnedTupleGo t (.ref I) v) K E' s := by
  have main : wpAny (model prog w) A (do
      let (.ref r, .ref a) := (Value.ref I, v) | return
      let o ← load r
      match o.cls, o.data with
      | .type n, .fields vs =>
        if ["enumerate", "zip", "dict_itemiterator", "dict_reverseitemiterator", "odict_iterator", "itertools.zip_longest", "itertools.pairwise"].contains n && vs[0]? == some (rawInt a) then
          rule "for.unpacks-the-owned-tuple"
          updateField r 0 .none
      | _, _ => pure () : Sem Unit) K E' s := by
    cases v with
    | ref a =>
      refine wpAny_bind (wpAny_load ho ?_)
      rw [hc]
      cases hd : o.data with
      | fields vs =>
        dsimp only
        rw [hn, Bool.false_and, if_neg (by decide)]
        exact wpAny_pure h
      | _ => exact wpAny_pure h
    | _ => exact wpAny_pure h
  unfold letOwnedTupleGo
  split
  · exact main
  · exact main
  · exact wpAny_pure h
theorem sameBut_chg {s : Shared} {I : Nat} {h' : Heap} {tk : Nat} (x : ∀ b o, b ≠ I → s.heap.get? b = some o → h'.get? b = some o) (hi : ∀ o, s.heap.get? I = some o → ¬ Imm o) : Chg [I] s { s with heap := h', toks := tk } :=
  ⟨rfl, rfl, .of_ext x hi, fun b o hb e => x b o (fun q => hb (q ▸ List.mem_singleton.mpr rfl)) e⟩
theorem not_imm {h : Heap} {a : Nat} {o : Obj} {n : String} {vs : Array Value} (ho : h.get? a = some o) (hc : o.cls = .type n) (hd : o.data = .fields vs) (hn : n ≠ "range") : ∀ q, h.get? a = some q → ¬ Imm q := fun q hq => by
  rw [ho] at hq; cases hq
  rintro (⟨⟨xs, k, z⟩, _⟩ | ⟨z, _⟩)
  · rw [hd] at z; cases z
  · rw [hc] at z; cases z; exact hn rfl
theorem iter_range {a : Int} {n : Nat} {I : Nat} : Iter prog w KF I [I] ((List.range n).map fun i => V.int (a + (i : Nat))) (fun _ => True) (fun i _ h => IsRangeIter h I (a + (i : Nat)) ((n : Int) - (i : Nat)) 1) where
  frame := fun i ρ h ρ' h' st _ _ k => k I (.head _) _ st
  live := fun i ρ h st b hb => by rw [List.mem_singleton.mp hb]; exact ⟨_, st⟩
  lot := fun A i ρ s t v E' st => lot_plain st rfl (by decide) ⟨st, .refl⟩
  item := fun A F ρ H s i x E' hh S _ st hx => by
    have hi : i < n := by have := (List.getElem?_eq_some_iff.mp hx).1; simpa using this
    have hx' : x = V.int (a + (i : Nat)) := by rw [List.getElem?_map, List.getElem?_range hi] at hx; exact (Option.some.inj hx).symm
    refine wpAny_pyNext_range_item st (by omega) fun h' hit' hs' => ⟨_, rfl, ?_, ?_, sameBut_chg (fun b o hb e => hs'.extBut b o hb e) (not_imm st rfl rfl (by decide))⟩
    · rw [hx']; unfold VR; exact ⟨_, rfl⟩
    · have e1 : a + ((i + 1 : Nat) : Int) = a + (i : Nat) + 1 := by omega
      have e2 : (n : Int) - ((i + 1 : Nat) : Int) = (n : Int) - (i : Nat) - 1 := by omega
      show IsRangeIter h' I (a + ((i + 1 : Nat) : Int)) ((n : Int) - ((i + 1 : Nat) : Int)) 1
      rw [e1, e2]; exact hit'
  done := fun A F ρ H s E' hh S _ st => by
    rw [List.length_map, List.length_range] at st
    exact wpAny_pyNext_range_end hh st (by omega) fun h' he' => ⟨rfl, sameBut_chg (fun b o hb e => he' b o hb e) (not_imm st rfl rfl (by decide))⟩
  self := fun A i ρ s K E' st hK => wpAny_pyIter_rangeiter st hK
theorem iter_list {l : Nat} {xs : List V} {I : Nat} : Iter prog w KF I [I] xs (fun H => H[l]? = some (.list xs) ∨ H[l]? = some (.arr xs)) (fun i ρ h => ∃ e, ρ[l]? = some e ∧ h.IsListIter I e.a i) where
  frame := fun i ρ h ρ' h' ⟨e, he, o, ho, r⟩ p _ k => ⟨e, pre_get p he, o, k I (.head _) o ho, r⟩
  live := fun i ρ h ⟨e, he, o, ho, hc, hd⟩ b hb => by rw [List.mem_singleton.mp hb]; exact ⟨o, ho⟩
  lot := fun A i ρ s t v E' st => by obtain ⟨e, he, o, ho, hc, hd⟩ := id st; exact lot_plain ho hc (by decide) ⟨st, .refl⟩
  item := fun A F ρ H s i x E' hh S hG st hx => by
    obtain ⟨e, he, st⟩ := st
    have hr : ∃ vs : List Value, s.heap.IsList e.a vs.toArray ∧ VRs ρ s.heap xs vs := by
      rcases hG with hG | hG
      · obtain ⟨_, _, vs, a, b⟩ := S.ob l e _ he hG; exact ⟨vs, a.isList, b⟩
      · obtain ⟨_, _, ⟨vs, a, b⟩, _⟩ := S.ob l e _ he hG; exact ⟨vs, a, b⟩
    obtain ⟨vs, hl, hv⟩ := hr
    obtain ⟨v, hv1, hv2⟩ := hv.get hx
    obtain ⟨o, ho, hc, hd⟩ := id st
    refine wpAny_pyNext_list_item st hl (x := v) (by simpa using hv1) fun h' hit' hs' => ?_
    have c : Chg [I] s { s with heap := h', toks := s.toks } := sameBut_chg (fun b o hb e => hs'.extBut b o hb e) (not_imm ho hc hd (by decide))
    exact ⟨v, rfl, hv2.mono (List.prefix_refl _) c.2.2.1, ⟨e, he, hit'⟩, c⟩
  done := fun A F ρ H s E' hh S hG st => by
    obtain ⟨e, he, st⟩ := st
    have hr : ∃ vs : List Value, s.heap.IsList e.a vs.toArray ∧ VRs ρ s.heap xs vs := by
      rcases hG with hG | hG
      · obtain ⟨_, _, vs, a, b⟩ := S.ob l e _ he hG; exact ⟨vs, a.isList, b⟩
      · obtain ⟨_, _, ⟨vs, a, b⟩, _⟩ := S.ob l e _ he hG; exact ⟨vs, a, b⟩
    obtain ⟨vs, hl, hv⟩ := hr
    obtain ⟨o, ho, hc, hd⟩ := id st
    exact wpAny_pyNext_list_end hh st hl (by simp [hv.len]) fun h' he' => ⟨rfl, sameBut_chg (tk := s.toks) (fun b o hb e => he' b o hb e) (not_imm ho hc hd (by decide))⟩
  self := fun A i ρ s K E' ⟨e, he, st⟩ hK => wpAny_pyIter_listiter st hK
theorem iter_tup {xs : List V} {I : Nat} : Iter prog w KF I [I] xs (fun _ => True) (fun i ρ h => ∃ a vs, h.IsTupleIter I a i ∧ h.IsTuple a (List.toArray vs) ∧ VRs ρ h xs vs) where
  frame := fun i ρ h ρ' h' ⟨a, vs, ⟨o, ho, r⟩, t, q⟩ p tk k => ⟨a, vs, ⟨o, k I (.head _) o ho, r⟩, tk_tuple tk t, q.mono p tk⟩
  live := fun i ρ h ⟨a, vs, ⟨o, ho, hc, hd⟩, _⟩ b hb => by rw [List.mem_singleton.mp hb]; exact ⟨o, ho⟩
  lot := fun A i ρ s t v E' st => by obtain ⟨a, vs, ⟨o, ho, hc, hd⟩, _⟩ := id st; exact lot_plain ho hc (by decide) ⟨st, .refl⟩
  item := fun A F ρ H s i x E' hh S hG st hx => by
    obtain ⟨a, vs, st, ht, hv⟩ := st
    obtain ⟨v, hv1, hv2⟩ := hv.get hx
    obtain ⟨o, ho, hc, hd⟩ := id st
    refine wpAny_pyNext_tuple_item st ht (x := v) (by simpa using hv1) fun h' hit' hs' => ?_
    have c : Chg [I] s { s with heap := h', toks := s.toks } := sameBut_chg (fun b o hb e => hs'.extBut b o hb e) (not_imm ho hc hd (by decide))
    exact ⟨v, rfl, hv2.mono (List.prefix_refl _) c.2.2.1, ⟨a, vs, hit', tk_tuple c.2.2.1 ht, hv.mono (List.prefix_refl _) c.2.2.1⟩, c⟩
  done := fun A F ρ H s E' hh S hG st => by
    obtain ⟨a, vs, st, ht, hv⟩ := st
    obtain ⟨o, ho, hc, hd⟩ := id st
    exact wpAny_pyNext_tuple_end hh st ht (by simp [hv.len]) fun h' he' => ⟨rfl, sameBut_chg (tk := s.toks) (fun b o hb e => he' b o hb e) (not_imm ho hc hd (by decide))⟩
  self := fun A i ρ s K E' ⟨a, vs, st, _⟩ hK => wpAny_pyIter_tupleiter st hK
/-- a small range -/
theorem rng_small {a b : Int} (ha : -(2 ^ 61) ≤ a ∧ a < 2 ^ 61) (hb : -(2 ^ 61) ≤ b ∧ b < 2 ^ 61) : Builtin.Range.small a b 1 = true ∧ Builtin.Range.rangeSize a b 1 = (((b - a).toNat : Nat) : Int) := by
  have e : Builtin.Range.rangeSize a b 1 = (((b - a).toNat : Nat) : Int) := by
    rw [rangeSize_one]
    split <;> omega
  refine ⟨?_, e⟩
  unfold Builtin.Range.small
  rw [e]
  unfold Builtin.Range.rangeFitsLong
  simp
  omega
theorem iw_range {a b : Int} (ha : -(2 ^ 61) ≤ a ∧ a < 2 ^ 61) (hb : -(2 ^ 61) ≤ b ∧ b < 2 ^ 61) : IterW prog w KF d E H (.rng a b) ((List.range (b - a).toNat).map fun i => V.int (a + (i : Nat))) (fun _ => True) := fun A F ρ s u hA S r => by
  unfold VR at r
  obtain ⟨r, rfl, t, u, k, hr⟩ := r
  obtain ⟨hs, hn⟩ := rng_small ha hb
  refine wpAny_pyIter_range hr hs ⟨_, [_], _, rfl, iter_range (a := a) (n := (b - a).toNat), ?_, fun _ _ e => Heap.get?_push_of_some _ e, rfl, rfl, fun b hb => by rw [List.mem_singleton.mp hb]; exact get_size _⟩
  rw [hn]
  show IsRangeIter _ _ (a + ((0 : Nat) : Int)) (((b - a).toNat : Int) - ((0 : Nat) : Int)) 1
  rw [show a + ((0 : Nat) : Int) = a by omega, show (((b - a).toNat : Int) - ((0 : Nat) : Int)) = ((b - a).toNat : Int) by omega]
  exact Heap.get?_push_size _ rfl
theorem iw_list {l : Nat} {xs : List V} (hl : H[l]? = some (.list xs) ∨ H[l]? = some (.arr xs)) : IterW prog w KF d E H (.ref l) xs (fun H => H[l]? = some (.list xs) ∨ H[l]? = some (.arr xs)) := fun A F ρ s u hA S r => by
  unfold VR at r
  obtain ⟨e, he, rfl⟩ := r
  have hr : ∃ vs : List Value, s.heap.IsList e.a vs.toArray ∧ VRs ρ s.heap xs vs := by
    rcases hl with hG | hG
    · obtain ⟨_, _, vs, a, b⟩ := S.ob l e _ he hG; exact ⟨vs, a.isList, b⟩
    · obtain ⟨_, _, ⟨vs, a, b⟩, _⟩ := S.ob l e _ he hG; exact ⟨vs, a, b⟩
  obtain ⟨vs, hl, hv⟩ := hr
  exact wpAny_pyIter_list hl ⟨_, [_], _, rfl, iter_list (l := l), ⟨e, he, _, Heap.get?_push_size _ rfl, rfl, rfl⟩, fun _ _ e => Heap.get?_push_of_some _ e, rfl, rfl, fun b hb => by rw [List.mem_singleton.mp hb]; exact get_size _⟩
theorem iw_tup {xs : List V} : IterW prog w KF d E H (.tup xs) xs (fun _ => True) := fun A F ρ s u hA S r => by
  unfold VR at r
  obtain ⟨a, vs, rfl, ht, hv⟩ := r
  have k : Keep s.heap (s.heap.push { cls := .type "tuple_iterator", data := .fields #[.ref a, .int 0 0] }) := fun _ _ e => Heap.get?_push_of_some _ e
  exact wpAny_pyIter_tuple ht ⟨_, [_], _, rfl, iter_tup, ⟨a, vs, ⟨_, Heap.get?_push_size _ rfl, rfl, rfl⟩, ht.push _, hv.mono (List.prefix_refl _) (.of_keep k)⟩, k, rfl, rfl, fun b hb => by rw [List.mem_singleton.mp hb]; exact get_size _⟩
end
end Mine
end
section
open PySem PySem.W PyProof.Rows PySem.W.X
namespace Mine
/-- a comprehension's scope in its frame's -/
noncomputable def compSc (sc' sc : Scope) : Scope := { sc' with names := sc'.names.map fun (n, k) => if (k == .free && sc.kind == .function && sc.names.lookup n == some .cell) then (n, .cell) else (n, k) }
noncomputable def ci (sc' : Scope) (fi : FI) : FI := ⟨compSc sc' fi.sc, false, fi.co⟩
noncomputable def locN (sc' : Scope) : Names := (sc'.names.filter fun x => x.2 == .local).map fun x => (x.1, none)
noncomputable def clo (cells : List (Str × Nat)) (names : List (Str × NameKind)) : List (Str × Nat) := ((names.filter fun x => x.2 == .free).map fun x => (x.1, (cells.lookup x.1).getD 0)).reverse
theorem clo_go {env : Env} : ∀ (names : List (Str × NameKind)) (acc : List (Str × Nat)), (∀ n, (n, NameKind.free) ∈ names → ∃ c, env.cells.lookup n = some c) →
    (forIn names acc fun x r => match x with | (name, kind) => if (kind == NameKind.free) = true then do let a ← cellOf env name; pure (ForInStep.yield ((name, a) :: r)) else (pure (ForInStep.yield r) : Sem (ForInStep (List (Str × Addr))))) = pure (clo env.cells names ++ acc)
  | [], acc, _ => rfl
  | (n, k) :: r, acc, h => by
    rw [List.forIn_cons]
    cases q : (k == NameKind.free) with
    | true =>
      have hk : k = .free := by simpa using q
      subst hk
      obtain ⟨c, hc⟩ := h n (.head _)
      have e : cellOf env n = pure c := by unfold cellOf; rw [hc]
      simp only [beq_self_eq_true, if_true, e]
      refine (clo_go (env := env) r ((n, c) :: acc) (fun n' hn' => h n' (.tail _ hn'))).trans (congrArg pure ?_)
      simp [clo, List.filter_cons, hc]
    | false =>
      simp only [q, Bool.false_eq_true, if_false]
      refine (clo_go (env := env) r acc (fun n' hn' => h n' (.tail _ hn'))).trans (congrArg pure ?_)
      simp [clo, List.filter_cons, q]
theorem closure_eq {env : Env} {sc' : Scope} (h : ∀ n, (n, NameKind.free) ∈ sc'.names → ∃ c, env.cells.lookup n = some c) : closureFor sc' env = pure (clo env.cells sc'.names) := by
  simp only [closureFor]
  have := clo_go (env := env) sc'.names [] h
  rw [List.append_nil] at this
  rw [this]
  rfl
/-- what a comprehension's scope must be -/
structure CompOk (sc' : Scope) (fi : FI) : Prop where
  nd : (sc'.names.map (·.1)).Nodup
  nc : ∀ x ∈ sc'.names, x.2 ≠ .cell
  kd : sc'.kind = .function
  fr' : ∀ p ∈ sc'.names, p.2 = .free → fi.sc.names.lookup p.1 = some .cell ∨ fi.sc.names.lookup p.1 = some .free
theorem CompOk.fr {sc' : Scope} {fi : FI} (h : CompOk sc' fi) (n : Str) (hn : (n, NameKind.free) ∈ sc'.names) : fi.sc.names.lookup n = some .cell ∨ fi.sc.names.lookup n = some .free := h.fr' _ hn rfl
theorem nodup_lookup {α : Type} : ∀ {l : List (Str × α)} {x : Str} {k : α}, (l.map (·.1)).Nodup → (x, k) ∈ l → l.lookup x = some k
  | [], _, _, _, h => nomatch h
  | (y, j) :: l, x, k, nd, h => by
    rw [List.map_cons, List.nodup_cons] at nd
    rw [List.lookup_cons]
    rcases List.mem_cons.mp h with q | q
    · cases q; rw [beq_self_eq_true]
    · have : (x == y) = false := by
        cases e : (x == y) with
        | false => rfl
        | true => exact absurd (List.mem_map.mpr ⟨_, q, by simpa using e⟩) nd.1
      rw [this]; exact nodup_lookup nd.2 q
theorem clo_mem {cells : List (Str × Nat)} {names : List (Str × NameKind)} {x : Str} {c : Nat} : (x, c) ∈ clo cells names ↔ (x, NameKind.free) ∈ names ∧ c = (cells.lookup x).getD 0 := by
  unfold clo
  rw [List.mem_reverse, List.mem_map]
  constructor
  · rintro ⟨⟨y, k⟩, hm, e⟩
    obtain ⟨h1, h2⟩ := List.mem_filter.mp hm
    cases e
    have : k = .free := by simpa using h2
    subst this
    exact ⟨h1, rfl⟩
  · rintro ⟨h, rfl⟩
    exact ⟨(x, .free), List.mem_filter.mpr ⟨h, rfl⟩, rfl⟩
theorem clo_lookup {cells : List (Str × Nat)} {names : List (Str × NameKind)} {x : Str} (h : (x, NameKind.free) ∈ names) : (clo cells names).lookup x = some ((cells.lookup x).getD 0) := by
  have hm : (x, (cells.lookup x).getD 0) ∈ clo cells names := clo_mem.mpr ⟨h, rfl⟩
  have : ∀ l : List (Str × Nat), (∀ y c, (y, c) ∈ l → c = (cells.lookup y).getD 0) → (x, (cells.lookup x).getD 0) ∈ l → l.lookup x = some ((cells.lookup x).getD 0) := by
    intro l
    induction l with
    | nil => intro _ h; cases h
    | cons p r ih =>
      obtain ⟨k, c⟩ := p
      intro h1 h2
      rw [List.lookup_cons]
      cases e : (x == k) with
      | true =>
        have : x = k := by simpa using e
        subst this
        show some c = _
        rw [h1 x c (.head _)]
      | false =>
        rcases List.mem_cons.mp h2 with q | q
        · exfalso
          have : x = k := (Prod.mk.inj q).1
          rw [this, beq_self_eq_true] at e; cases e
        · exact ih (fun y c hy => h1 y c (.tail _ hy)) q
  exact this _ (fun y c hy => (clo_mem.mp hy).2) hm
theorem getL_app {l : List Str} {m : Names} {x : Str} : getL (l.map (fun y => (y, none)) ++ m) x = if x ∈ l then none else getL m x := by
  induction l with
  | nil => rfl
  | cons y l ih =>
    unfold getL at ih ⊢
    rw [List.map_cons, List.cons_append, List.lookup_cons]
    cases e : (x == y) with
    | true =>
      have : x = y := by simpa using e
      rw [if_pos (by rw [this]; exact .head _)]; rfl
    | false =>
      have hne : x ≠ y := by simpa using e
      show (List.lookup x _).join = _
      rw [ih]
      by_cases q : x ∈ l
      · rw [if_pos q, if_pos (.tail _ q)]
      · rw [if_neg q, if_neg (fun h => by rcases List.mem_cons.mp h with h | h; exact hne h; exact q h)]
theorem locN_eq (sc' : Scope) : locN sc' = ((sc'.names.filter fun x => x.2 == .local).map (·.1)).map fun y => (y, none) := by unfold locN; rw [List.map_map]; rfl
section
variable {prog : Program} {w : World} {KF : Frag} {fi : FI} {d : Nat} {E : EP} {m : Names} {H : List O}
variable {env : Env} {F : Base} {ρ : List Ent} {h : Heap} {gs : Array GenState}
theorem relabel_eq (S : Sim w KF fi env m F ρ H h gs) (sc' : Scope) : relabel sc' env = compSc sc' fi.sc := by unfold relabel compSc Env.kindOf; rw [S.es]
theorem comp_names {sc' sc : Scope} {x : Str} {k : NameKind} (h : (compSc sc' sc).names.lookup x = some k) : (∃ k', (x, k') ∈ sc'.names ∧ (k' = k ∨ (k' = .free ∧ k = .cell))) := by
  have hm : (x, k) ∈ (compSc sc' sc).names := mem_of_lookup h
  unfold compSc at hm
  obtain ⟨⟨y, k'⟩, h1, h2⟩ := List.mem_map.mp hm
  dsimp only at h2
  split at h2
  · rename_i hc
    cases h2
    refine ⟨k', h1, .inr ⟨?_, rfl⟩⟩
    simp only [Bool.and_eq_true, beq_iff_eq] at hc
    exact hc.1.1
  · cases h2; exact ⟨_, h1, .inl rfl⟩
/-- a comprehension's own frame -/
theorem Sim.fr_lo (S : Sim w KF fi env m F ρ H h gs) (h' : Heap) : ∃ L ∈ (addE F h' env (ownA fi env)).lo, env.frame = some L := by
  rcases S.ef with q | ⟨L, hL, q⟩
  · refine ⟨_, ?_, q⟩
    show env.locals ∈ (frOf env F).filterMap (·.frame)
    unfold frOf
    rw [if_pos q, List.filterMap_cons, q]
    exact .head _
  · exact ⟨L, addE_lo.1 L hL, q⟩
/-- a comprehension stands in its function's frame -/
theorem Sim.comp_fr (S : Sim w KF fi env m F ρ H h gs) {C : Nat} {sc' : Scope} {cl : List (Str × Nat)} {h' : Heap} (hF : F.f C = none) (ho : C ∉ ownA fi env) : frOf (compEnvC sc' cl C env) (addE F h' env (ownA fi env)) = frOf env F := by
  have hne : env.frame ≠ some C := fun q => by
    rcases S.ef with z | ⟨L, hL, z⟩
    · rw [z] at q; cases q; exact ho (loc_own fi env)
    · rw [z] at q; cases q; exact S.hs.fo.off hF hL
  show (if env.frame = some C then _ else frOf env F) = _
  rw [if_neg hne]
theorem comp_sim {sc' : Scope} (hok : CompOk sc' fi) (S : Sim w KF fi env m F ρ H h gs) {C : Nat} {mv : Str → Option Value} (hn : h.Ns C mv) (hF : F.f C = none) (hp : C ∉ fps ρ) (ho : C ∉ ownA fi env) :
    Sim w KF (ci sc' fi) (compEnvC sc' (clo env.cells sc'.names) C env) (locN sc' ++ m) (addE F h env (ownA fi env)) ρ H h gs := by
  have free_cell : ∀ x, (x, NameKind.free) ∈ sc'.names → ∃ c, env.cells.lookup x = some c := fun x hx => S.ce x (hok.fr x hx)
  have cells : ∀ x c, (clo env.cells sc'.names).lookup x = some c → env.cells.lookup x = some c ∧ (x, NameKind.free) ∈ sc'.names := fun x c hc => by
    obtain ⟨h1, h2⟩ := clo_mem.mp (mem_of_lookup hc)
    obtain ⟨c', hc'⟩ := free_cell x h1
    rw [hc'] at h2
    exact ⟨by rw [hc', h2]; rfl, h1⟩
  have notloc : ∀ x, (x, NameKind.free) ∈ sc'.names → getL (locN sc' ++ m) x = getL m x := fun x hx => by
    rw [locN_eq, getL_app, if_neg]
    intro q
    obtain ⟨⟨y, k⟩, hm, rfl⟩ := List.mem_map.mp q
    obtain ⟨h1, h2⟩ := List.mem_filter.mp hm
    have e1 := nodup_lookup hok.nd hx
    have e2 := nodup_lookup hok.nd h1
    rw [e1] at e2
    cases e2
    simp at h2
  refine ⟨S.toH, ?_, S.eg, S.eb, S.ec, hok.kd, .inr (S.fr_lo h), fun b hb => ?_, ⟨mv, hn, fun x hx => ?_⟩, fun x c hc => ?_, fun x hx => ?_, fun x hx => ?_, fun x c hc => ?_, ?_, fun _ x c hc => ?_⟩
  · exact relabel_eq S sc'
  · have : b = C := by simpa [ownA, ci, compEnvC] using hb
    subst this
    rw [addE_out ho]
    exact ⟨hF, hp⟩
  · have : getL (locN sc' ++ m) x = none := by
      rw [locN_eq, getL_app, if_pos]
      obtain ⟨k', h1, rfl | ⟨_, h2⟩⟩ := comp_names hx
      · exact List.mem_map.mpr ⟨_, List.mem_filter.mpr ⟨h1, rfl⟩, rfl⟩
      · cases h2
    rw [this]; trivial
  · obtain ⟨h1, h2⟩ := cells x c hc
    obtain ⟨ov, hi, hv⟩ := S.cl x c h1
    rw [notloc x h2]
    exact ⟨ov, hi, hv⟩
  · have hf : (x, NameKind.free) ∈ sc'.names := by
      rcases hx with hx | hx
      · obtain ⟨k', h1, rfl | ⟨rfl, _⟩⟩ := comp_names hx
        · exact absurd rfl (hok.nc _ h1)
        · exact h1
      · obtain ⟨k', h1, rfl | ⟨_, h2⟩⟩ := comp_names hx
        · exact h1
        · cases h2
    exact ⟨_, clo_lookup hf⟩
  · cases q : (clo env.cells sc'.names).lookup x with
    | none => exact q
    | some c =>
      exfalso
      obtain ⟨_, h2⟩ := cells x c q
      obtain ⟨k', h1, rfl | ⟨_, h3⟩⟩ := comp_names hx
      · have e1 := nodup_lookup hok.nd h1
        have e2 := nodup_lookup hok.nd h2
        rw [e1] at e2; cases e2
      · cases h3
  · obtain ⟨h1, h2⟩ := clo_mem.mp hc
    have hl := clo_lookup (cells := env.cells) h1
    rw [← h2] at hl
    refine ⟨hl, fun q => ?_⟩
    obtain ⟨h3, _⟩ := cells x c hl
    have q : c = C := q
    subst q
    rcases S.cell_own (lookup_mem h3) with z | z
    · exact ho z
    · rw [hF] at z; cases z
  · show (clo env.cells sc'.names).Pairwise _
    unfold clo
    rw [List.pairwise_reverse, List.pairwise_map]
    have nd2 : (sc'.names.filter fun x => x.2 == .free).Pairwise fun a b => a.1 ≠ b.1 := by
      have : sc'.names.Pairwise fun a b => a.1 ≠ b.1 := List.pairwise_map.mp hok.nd
      exact this.filter _
    refine nd2.imp_of_mem ?_
    rintro ⟨x, kx⟩ ⟨y, ky⟩ hx hy hxy e
    have gx : (x, NameKind.free) ∈ sc'.names := by obtain ⟨a, b⟩ := List.mem_filter.mp hx
                                                   have q : kx = .free := by simpa using b
                                                   rw [← q]; exact a
    have gy : (y, NameKind.free) ∈ sc'.names := by obtain ⟨a, b⟩ := List.mem_filter.mp hy
                                                   have q : ky = .free := by simpa using b
                                                   rw [← q]; exact a
    obtain ⟨cx, hcx⟩ := free_cell x gx
    obtain ⟨cy, hcy⟩ := free_cell y gy
    have e' : cy = cx := by simpa [hcx, hcy] using e
    subst e'
    exact hxy (name_of_cell S.cd (lookup_mem hcx) (lookup_mem hcy))
  · obtain ⟨h1, _⟩ := cells x c (by
      obtain ⟨h1, h2⟩ := clo_mem.mp hc
      rw [h2]; exact clo_lookup h1)
    rcases S.cell_own (lookup_mem h1) with z | z
    · rw [addE_in z]
      obtain ⟨ov, ⟨o, ho, _⟩, _⟩ := S.cl x c h1
      rw [ho]; rfl
    · by_cases q : c ∈ ownA fi env
      · rw [addE_in q]
        obtain ⟨ov, ⟨o, ho, _⟩, _⟩ := S.cl x c h1
        rw [ho]; rfl
      · rw [addE_out q]; exact z
end
theorem comp_loop {prog : Program} {w : World} {A : Around} {R : Result → Shared → Prop} {s : Shared} {elt target iter : Expr} {ifs : List Expr} {scope : Scope} {pos : Pos} {it acc : Value} {env : Env} (I : Nat → Shared → Prop)
    (turn : ∀ n s, I n s → wpAny (model prog w) A (pyNext it) (fun r s₁ => match r with
      | none => R (.ok .next) s₁
      | some v => wpAny (model prog w) A (letOwnedTupleGo target it v) (fun _ s₀ => wpAny (model prog w) A (assign target env v) (fun _ s₂ =>
          wpAny (model prog w) A (forIn ifs true fun c r => if r = true then do let ok ← isTrue c env (eval c env); pure (ForInStep.yield ok) else pure (ForInStep.yield r)) (fun ok s₃ =>
            if ok = true then wpAny (model prog w) A (eval elt env) (fun x s₄ =>
              wpAny (model prog w) A (call (.builtin "list.append") [acc, x]) (fun _ s₅ => ∃ m, m < n ∧ I m s₅) (notedBy (model prog w) A env fun e s' => R (.error e) s') s₄) (notedBy (model prog w) A env fun e s' => R (.error e) s') s₃
            else ∃ m, m < n ∧ I m s₃) (notedBy (model prog w) A env fun e s' => R (.error e) s') s₂) (notedBy (model prog w) A env fun e s' => R (.error e) s') s₀) (notedBy (model prog w) A env fun e s' => R (.error e) s') s₁) (notedBy (model prog w) A env fun e s' => R (.error e) s') s)
    (n : Nat) (h : I n s) :
    codeAny (model prog w) A (.compLoop (.ListComp elt [⟨target, iter, ifs, 0⟩] scope pos) 0 it acc env) R s := by
  refine codeAny_loop rfl I (fun n s hI => ?_) n h
  show wpAny _ A ((compTurn (.ListComp elt [⟨target, iter, ifs, 0⟩] scope pos) 0 it acc env).onRaise (fun x => do noteFrame x env; theTreesLotGoes x)) _ _ s
  refine wpAny_noted ?_
  rw [compTurn_list]
  refine wpAny_bind (wpAny_standAt (wpAny_bind (wpAny_mono (turn n s hI) (fun r s₁ h₁ => ?_) fun _ _ h' => h')))
  cases r with
  | none => exact wpAny_pure h₁
  | some v =>
    refine wpAny_bind (wpAny_mono h₁ (fun _ s₀ h₀ => ?_) fun _ _ h' => h')
    refine wpAny_bind (wpAny_mono h₀ (fun _ s₂ h₂ => wpAny_bind (wpAny_mono h₂ (fun ok s₃ h₃ => ?_) fun _ _ h' => h')) fun _ _ h' => h')
    cases ok with
    | false => exact wpAny_pure ⟨rfl, h₃⟩
    | true =>
      exact wpAny_bind (wpAny_bind (wpAny_mono h₃ (fun x s₄ h₄ => wpAny_bind (wpAny_mono h₄ (fun _ s₅ h₅ => wpAny_pure (wpAny_pure ⟨rfl, h₅⟩)) fun _ _ h' => h')) fun _ _ h' => h'))
section
variable (prog : Program) (w : World) (KF : Frag) (fi : FI) (d : Nat) (E : EP)
/-- the tests of a comprehension: none or one -/
noncomputable def WTs (m : Names) (H : List O) : List Expr → (Bool → List O → Prop) → Prop
  | [], Q => Q true H
  | [c], Q => WT prog w KF fi d E m H c Q
  | _, _ => False
/-- what a comprehension gives: by what holds ahead of each turn -/
noncomputable def CompW (m : Names) (H : List O) (elt target : Expr) (ifs : List Expr) (sc' : Scope) (v : V) (Q : List V → List O → Prop) : Prop :=
  ∃ xs G, IterW prog w KF d (Em E m) H v xs G ∧ xs.length ≤ sizeLine ∧ ∃ J : Nat → List V → List O → Prop, J 0 [] H ∧ (∀ i ys H, J i ys H → G H ∧ ys.length ≤ i) ∧
    (∀ i x ys H, xs[i]? = some x → J i ys H → WA prog w KF (ci sc' fi) d E (locN sc' ++ m) H target x fun m₂ H₂ => WTs prog w KF (ci sc' fi) d E m₂ H₂ ifs fun b H₃ => if b = true then WE prog w KF (ci sc' fi) d E m₂ H₃ elt fun y H₄ => J (i + 1) (ys ++ [y]) H₄ else J (i + 1) ys H₃) ∧
    (∀ ys H, J xs.length ys H → Q ys H)
end
end Mine
end
section
open PySem PySem.W PyProof.Rows PySem.W.X
namespace Mine
theorem se_no {w : World} {KF : Frag} {fi : FI} {E : EP} {env : Env} {F : Base} {ρ : List Ent} {s : Shared} {e : Value} {s' : Shared} (x : SE w KF fi env F ρ s E e s') : False := let ⟨_, _, _, _, _, _, x, _⟩ := x; x
theorem plain_upd {h : Heap} {l : Nat} {items : Array Value} (f : Array Value → Array Value) (x : h.PlainList l items) : (h.update l (Obj.mapSeq f)).PlainList l (f items) := by
  obtain ⟨n, e⟩ := x
  exact ⟨_, Heap.get?_update_self _ e rfl⟩
theorem app_plain {prog : Program} {w : World} {A : Around} {E : Value → Shared → Prop} {s : Shared} {l : Nat} {its : Array Value} {x : Value} {Q : Value → Shared → Prop} (hl : s.heap.PlainList l its)
    (hQ : ∀ h', h'.PlainList l (its.push x) → Heap.SameBut l s.heap h' → Q .none { s with heap := h' }) (hsz : its.size ≤ sizeLine) : wpAny (model prog w) A (call (.builtin "list.append") [.ref l, x]) Q E s := by
  obtain ⟨n, ho⟩ := id hl
  refine wpAny_call_entry slot_list_append hl.isList.typeIs entry_list_append ?_ (args_list_append _ _)
  show wpAny _ _ (updateSeq l (·.push x) >>= fun _ => ret .none) _ _ s
  refine wpAny_bind ?_
  exact wpAny_updateSeq ho rfl (wpAny_pure ⟨.none, rfl, hQ _ (plain_upd _ hl) (Heap.SameBut.update ..)⟩) (hz := hsz)
section
variable {prog : Program} {w : World} {KF : Frag} {fi : FI} {d : Nat} {E : EP} {m : Names} {H : List O}
theorem comp_run {A : Around} {env : Env} {F : Base} {ρ : List Ent} {s : Shared} {elt target iter : Expr} {ifs : List Expr} {sc' : Scope} {pos : Pos} {I : Nat} {fp : List Nat} {xs : List V} {G : List O → Prop} {St : Nat → List Ent → Heap → Prop} (hA : Room A d (frOf env F)) (hok : CompOk sc' fi)
    (S : Sim w KF fi env m F ρ H s.heap s.gens) (IT : Iter prog w KF I fp xs G St) (hst : St 0 ρ s.heap) (off : FpOff fi env F ρ fp) (hsz : xs.length ≤ sizeLine) (J : Nat → List V → List O → Prop) (hJ0 : J 0 [] H) (hJG : ∀ i ys H, J i ys H → G H ∧ ys.length ≤ i)
    (hT : ∀ i x ys H, xs[i]? = some x → J i ys H → WA prog w KF (ci sc' fi) d E (locN sc' ++ m) H target x fun m₂ H₂ => WTs prog w KF (ci sc' fi) d E m₂ H₂ ifs fun b H₃ => if b = true then WE prog w KF (ci sc' fi) d E m₂ H₃ elt fun y H₄ => J (i + 1) (ys ++ [y]) H₄ else J (i + 1) ys H₃)
    {RR : Value → Nat → Result → Shared → Prop} {E' : Value → Shared → Prop}
    (hRR : ∀ D C ρ' H' ys us mC s', Step ρ s ρ' s' → Sim w KF fi env m F ρ' H' s'.heap s'.gens → s'.heap.PlainList D (List.toArray us) → VRs ρ' s'.heap ys us → s'.heap.Ns C mC → FpOff fi env F ρ' [C, D] → C ≠ D → J xs.length ys H' → RR (.ref D) C (.ok .next) s') :
    wpAny (model prog w) A (newList []) (fun acc s₃ => wpAny (model prog w) A (newFunctionEnv sc' env.globals (clo env.cells sc'.names) [] env.qual none .none (some env)) (fun cenv s₄ =>
      codeAny (model prog w) A (.compStart (.ListComp elt [⟨target, iter, ifs, 0⟩] sc' pos) 0 (.ref I) acc { cenv with scope := relabel sc' env }) (RR acc cenv.locals) s₄) E' s₃) E' s := by
  refine wpAny_newObj_type (wpAny_newFunctionEnv hok.nc (by intro y hy; cases hy) (fun h₁ hns₁ hsb₁ => ?_) hok.kd)
  dsimp only at hns₁ hsb₁ ⊢
  generalize hH2 : s.heap.push { cls := .type "list", dict := none, data := .seq ([] : List Value).toArray } = H2 at hns₁ hsb₁ ⊢
  have hC : H2.objs.size = s.heap.objs.size + 1 := by rw [← hH2, Heap.size_push]
  generalize hCe : H2.objs.size = C at hns₁ hsb₁ hC ⊢
  generalize hDe : s.heap.objs.size = D at hC ⊢
  have hDC : C ≠ D := by omega
  have dead : ∀ a, D ≤ a → s.heap.get? a = none := fun a ha => by
    cases e : s.heap.get? a with
    | none => rfl
    | some o => exact absurd (Heap.lt_size e) (Nat.not_lt.mpr (hDe ▸ ha))
  have old : Keep s.heap h₁ := fun b o e => hsb₁.extBut b o (fun q => by rw [dead b (by rw [q]; omega)] at e; cases e) (Heap.get?_push_of_some _ (hH2 ▸ Heap.get?_push_of_some _ e))
  have hD : h₁.PlainList D (List.toArray ([] : List Value)) := ⟨_, hsb₁.extBut _ _ (Ne.symm hDC) (Heap.get?_push_of_some _ (hH2 ▸ hDe ▸ Heap.get?_push_size _ rfl))⟩
  have S₁ := S.keeps old
  have offCD : FpOff fi env F ρ (C :: D :: fp) := fun b hb => by
    rcases List.mem_cons.mp hb with rfl | hb
    · exact S.fresh (fp := [b]) (fun b' hb' => by rw [List.mem_singleton.mp hb']; exact dead _ (by omega)) b (.head _)
    rcases List.mem_cons.mp hb with rfl | hb
    · exact S.fresh (fp := [b]) (fun b' hb' => by rw [List.mem_singleton.mp hb']; exact dead _ (Nat.le_refl _)) b (.head _)
    · exact off b hb
  have hCf : C ∉ fp := fun q => by obtain ⟨o, ho⟩ := IT.live _ _ _ hst C q; rw [dead C (by omega)] at ho; cases ho
  have hDf : D ∉ fp := fun q => by obtain ⟨o, ho⟩ := IT.live _ _ _ hst D q; rw [dead D (Nat.le_refl _)] at ho; cases ho
  have st₁ : St 0 ρ h₁ := IT.frame _ _ _ _ _ hst (List.prefix_refl _) (.of_keep old) (fun b _ o e => old b o e)
  have loop : ∀ s₃ : Shared, s₃ = { s with heap := h₁, toks := s.toks + ([] : List (Str × Value)).length } →
      codeAny (model prog w) A (.compLoop (.ListComp elt [⟨target, iter, ifs, 0⟩] sc' pos) 0 (.ref I) (.ref D) (compEnvC sc' (clo env.cells sc'.names) C env)) (RR (.ref D) C) s₃ := by
    rintro s₃ rfl
    refine comp_loop (fun k s₃ => ∃ i ρ₃ H₃ ys us mC, Step ρ s ρ₃ s₃ ∧ Sim w KF fi env m F ρ₃ H₃ s₃.heap s₃.gens ∧ s₃.heap.PlainList D (List.toArray us) ∧ VRs ρ₃ s₃.heap ys us ∧ s₃.heap.Ns C mC ∧ St i ρ₃ s₃.heap ∧ FpOff fi env F ρ₃ (C :: D :: fp) ∧ J i ys H₃ ∧ i ≤ xs.length ∧ k = xs.length + 1 - i) ?_ (xs.length + 1)
      ⟨0, ρ, H, [], [], _, .same (.of_keep old) rfl, S₁, hD, .nil, hns₁, st₁, offCD, hJ0, Nat.zero_le _, rfl⟩
    rintro k s₃ ⟨i, ρ₃, H₃, ys, us, mC, t₃, S₃, hD₃, ru₃, hn₃, st₃, off₃, hJ, hi, rfl⟩
    have offp : FpOff fi env F ρ₃ fp := fun b hb => off₃ b (.tail _ (.tail _ hb))
    by_cases hlt : i < xs.length
    · refine wpAny_mono (IT.item A _ ρ₃ H₃ s₃ i xs[i] _ hA.hd S₃.toH (hJG _ _ _ hJ).1 st₃ (List.getElem?_eq_getElem hlt)) (fun r s₄ ⟨v, e, rv, hSt₄, c₄⟩ => ?_) fun _ _ x => x
      subst e
      have S₄ := S₃.chg offp c₄
      refine wpAny_mono (IT.lot A (i + 1) ρ₃ s₄ target v _ hSt₄) (fun _ s₅ ⟨hSt₅, c₅⟩ => ?_) fun _ _ x => x
      have S₅ := S₄.chg offp c₅
      have kp : ∀ b o, b ∉ fp → s₃.heap.get? b = some o → s₅.heap.get? b = some o := fun b o hb e => c₅.2.2.2 b o hb (c₄.2.2.2 b o hb e)
      have tk5 : TK s₃.heap s₅.heap := c₄.2.2.1.trans c₅.2.2.1
      have t₅ := (t₃.trans c₄.step).trans c₅.step
      have hD₅ : s₅.heap.PlainList D (List.toArray us) := hD₃.at fun o e => kp D o hDf e
      have hn₅ : s₅.heap.Ns C mC := hn₃.at' fun o e => kp C o hCf e
      have ru₅ := ru₃.mono (List.prefix_refl _) tk5
      have oC := off₃ C (.head _)
      have oD := off₃ D (.tail _ (.head _))
      have T₅ := comp_sim hok S₅ hn₅ oC.1 oC.2.1 oC.2.2
      have off₅ : FpOff (ci sc' fi) (compEnvC sc' (clo env.cells sc'.names) C env) (addE F s₅.heap env (ownA fi env)) ρ₃ (D :: fp) := fun b hb => by
        have q := off₃ b (.tail _ hb)
        refine ⟨by rw [addE_out q.2.2]; exact q.1, q.2.1, fun z => ?_⟩
        have z' : b = C := by simpa [ownA, ci, compEnvC] using z
        subst z'
        rcases List.mem_cons.mp hb with z | z
        · exact hDC z
        · exact hCf z
      have live₅ : ∀ b ∈ D :: fp, ∃ o, s₅.heap.get? b = some o := fun b hb => by
        rcases List.mem_cons.mp hb with rfl | hb
        · obtain ⟨n, e⟩ := hD₅; exact ⟨_, e⟩
        · exact IT.live _ _ _ hSt₅ b hb
      have fin : ∀ m₆ ρ₈ H₈ (s₈ : Shared), Step ρ₃ s₅ ρ₈ s₈ → Sim w KF (ci sc' fi) (compEnvC sc' (clo env.cells sc'.names) C env) m₆ (addF (addE F s₅.heap env (ownA fi env)) s₅.heap (D :: fp)) ρ₈ H₈ s₈.heap s₈.gens →
          Sim w KF fi env m F ρ₈ H₈ s₈.heap s₈.gens ∧ (∃ mC, s₈.heap.Ns C mC) ∧ FpOff fi env F ρ₈ (C :: D :: fp) ∧ s₈.heap.PlainList D (List.toArray us) ∧ St (i + 1) ρ₈ s₈.heap ∧ VRs ρ₈ s₈.heap ys us := fun m₆ ρ₈ H₈ s₈ t T => by
        obtain ⟨U, offU, kU⟩ := T₅.unbase off₅ live₅ t.1 t.2.2.2 T
        refine ⟨S₅.ofH t.1 t.2.1 U.hs, let ⟨mv, a, _⟩ := U.ns; ⟨mv, a⟩, fun b hb => ⟨(off₃ b hb).1, ?_, (off₃ b hb).2.2⟩, hD₅.at fun o e => kU D (.head _) o e, IT.frame _ _ _ _ _ hSt₅ t.1 t.2.1 (fun b hb => kU b (.tail _ hb)), ru₅.mono t.1 t.2.1⟩
        rcases List.mem_cons.mp hb with rfl | hb
        · exact (U.lo _ (loc_own _ _)).2
        · exact (offU b hb).2.1
      have hA' : Room A d (frOf (compEnvC sc' (clo env.cells sc'.names) C env) (addE F s₅.heap env (ownA fi env))) := by rw [S₅.comp_fr oC.1 oC.2.2]; exact hA
      refine wpAny_mono (hT i _ ys H₃ (List.getElem?_eq_getElem hlt) hJ A _ (addF (addE F s₅.heap env (ownA fi env)) s₅.heap (D :: fp)) ρ₃ s₅ v hA' (T₅.rebase off₅) (rv.mono (List.prefix_refl _) c₅.2.2.1)) (fun _ s₆ ⟨ρ₆, H₆, m₆, t₆, T₆, h₆⟩ => ?_) fun _ _ x => (se_no x).elim
      have tests : wpAny (model prog w) A (forIn ifs true fun c r => if r = true then do let ok ← isTrue c (compEnvC sc' (clo env.cells sc'.names) C env) (eval c (compEnvC sc' (clo env.cells sc'.names) C env)); pure (ForInStep.yield ok) else pure (ForInStep.yield r))
          (SQ w KF EqR (ci sc' fi) (compEnvC sc' (clo env.cells sc'.names) C env) m₆ (addF (addE F s₅.heap env (ownA fi env)) s₅.heap (D :: fp)) ρ₆ s₆ fun b H₃ => if b = true then WE prog w KF (ci sc' fi) d E m₆ H₃ elt fun y H₄ => J (i + 1) (ys ++ [y]) H₄ else J (i + 1) ys H₃) (notedBy (model prog w) A (compEnvC sc' (clo env.cells sc'.names) C env) fun e s' => RR (.ref D) C (.error e) s') s₆ := by
        match ifs, h₆ with
        | [], h₆ => exact wpAny_tests_nil ⟨ρ₆, H₆, true, .refl, T₆, rfl, h₆⟩
        | [c], h₆ => exact wpAny_tests_one (wpAny_mono (h₆ A _ (addF (addE F s₅.heap env (ownA fi env)) s₅.heap (D :: fp)) ρ₆ s₆ hA' T₆) (fun _ _ x => x) fun _ _ x => (se_no x).elim)
        | _ :: _ :: _, h₆ => exact h₆.elim
      refine wpAny_mono tests (fun ok s₇ hx => ?_) fun _ _ x => x
      obtain ⟨ρ₇, H₇, b, t₇, T₇, rb, h₇⟩ := hx
      cases rb
      have t57 := t₆.trans t₇
      cases ok with
      | false =>
        obtain ⟨U, ⟨mC', hC'⟩, offU, hDU, stU, ruU⟩ := fin _ _ _ _ t57 T₇
        exact ⟨xs.length + 1 - (i + 1), by omega, i + 1, ρ₇, H₇, ys, us, mC', t₅.trans t57, U, hDU, ruU, hC', stU, offU, h₇, hlt, rfl⟩
      | true =>
        refine wpAny_mono ((show WE prog w KF (ci sc' fi) d E m₆ H₇ elt _ from h₇) A _ (addF (addE F s₅.heap env (ownA fi env)) s₅.heap (D :: fp)) ρ₇ s₇ hA' T₇) (fun y s₈ hx => ?_) fun _ _ x => (se_no x).elim
        obtain ⟨ρ₈, H₈, yv, t₈, T₈, ry, h₈⟩ := hx
        have t58 := t57.trans t₈
        obtain ⟨U, ⟨mC', hC'⟩, offU, hDU, stU, ruU⟩ := fin _ _ _ _ t58 T₈
        refine app_plain hDU (fun h₉ hD₉ hs₉ => ?_) (by rw [List.size_toArray, ruU.len]; exact Nat.le_trans (hJG _ _ _ hJ).2 (Nat.le_trans hi hsz))
        have c₉ : Chg [D] s₈ { s₈ with heap := h₉ } := sameBut_chg (fun b o hb e => hs₉.extBut b o hb e) (list_not_imm hDU.isList)
        refine ⟨xs.length + 1 - (i + 1), by omega, i + 1, ρ₈, H₈, ys ++ [yv], us ++ [y], mC', (t₅.trans t58).trans c₉.step, U.chg (fun b hb => by rw [List.mem_singleton.mp hb]; exact offU D (.tail _ (.head _))) c₉, by simpa using hD₉, (ruU.append (.cons ry .nil)).mono (List.prefix_refl _) c₉.2.2.1, hC'.sameBut hs₉ hDC, ?_, offU, h₈, hlt, rfl⟩
        exact IT.frame _ _ _ _ _ stU (List.prefix_refl _) c₉.2.2.1 (fun b hb o e => c₉.2.2.2 b o (fun z => hDf (List.mem_singleton.mp z ▸ hb)) e)
    · have hin : i = xs.length := by omega
      subst hin
      refine wpAny_mono (IT.done A _ ρ₃ H₃ s₃ _ hA.hd S₃.toH (hJG _ _ _ hJ).1 st₃) (fun r s₄ ⟨e, c₄⟩ => ?_) fun _ _ x => x
      subst e
      exact hRR D C ρ₃ H₃ ys us mC s₄ (t₃.trans c₄.step) (S₃.chg offp c₄) (hD₃.at fun o e => c₄.2.2.2 D o hDf e) (ru₃.mono (List.prefix_refl _) c₄.2.2.1) (hn₃.at' fun o e => c₄.2.2.2 C o hCf e) (fun b hb => off₃ b (by rcases List.mem_cons.mp hb with rfl | hb; exact .head _; rw [List.mem_singleton.mp hb]; exact .tail _ (.head _))) hDC hJ
  exact codeAny_compStart_list (loop _ rfl) (IT.self A 0 ρ _ _ _ st₁ (loop _ rfl))
/-- the list that a comprehension made, taken over -/
theorem comp_adopt {env : Env} {F : Base} {ρ : List Ent} {h : Heap} {gs : Array GenState} {D : Nat} {ys : List V} {us : List Value} (S : Sim w KF fi env m F ρ H h gs) (hD : h.PlainList D (List.toArray us)) (r : VRs ρ h ys us) (o : FpOff fi env F ρ [D]) :
    Sim w KF fi env m F (ρ ++ [⟨D, [D], none⟩]) (H ++ [.list ys]) h gs ∧ VR (ρ ++ [⟨D, [D], none⟩]) h (.ref H.length) (.ref D) := by
  obtain ⟨o1, o2, o3⟩ := o D (.head _)
  refine ⟨S.ofH (List.prefix_append _ _) (.refl _) (S.toH.adopt (r := []) (o := .list ys) (List.nodup_cons.mpr ⟨fun q => (nomatch q), List.nodup_nil⟩) (fun b hb => by rw [List.mem_singleton.mp hb]; exact ⟨o2, by rw [addE_out o3]; exact o1, let ⟨n, e⟩ := hD; ⟨_, e⟩⟩) ⟨rfl, rfl, us, hD, r.mono (List.prefix_append _ _) (.refl _)⟩), ?_⟩
  unfold VR
  exact ⟨_, by rw [← S.hs.len, List.getElem?_concat_length], rfl⟩
theorem comp_closure {env : Env} {F : Base} {ρ : List Ent} {h : Heap} {gs : Array GenState} {sc' : Scope} (S : Sim w KF fi env m F ρ H h gs) (hok : CompOk sc' fi) : closureFor sc' env = pure (clo env.cells sc'.names) := closure_eq fun n hn => S.ce n (hok.fr n hn)
theorem comp_nl {sc' : Scope} (hok : CompOk sc' fi) : ∀ x ∈ sc'.names, x.2 = .local → sc'.names.lookup x.1 = some .local := fun x hx hl => by
  obtain ⟨n, k⟩ := x
  cases hl
  exact nodup_lookup hok.nd hx
theorem we_comp {elt target iter : Expr} {ifs : List Expr} {sc' : Scope} {pos : Pos} {Q : V → List O → Prop} (hok : CompOk sc' fi) (h : WE prog w KF fi d E m H iter fun v H₁ => CompW prog w KF fi d E m H₁ elt target ifs sc' v fun ys H₂ => Q (.ref H₂.length) (H₂ ++ [.list ys]))
    (hs : ∀ env x, foldedSetIterable iter env x = pure x := by intro _ _; rfl) : WE prog w KF fi d E m H (.ListComp elt [⟨target, iter, ifs, 0⟩] sc' pos) Q :=
  fun A env F ρ s hA S => by
    rw [eval_ListComp]
    refine wpAny_comprehension_free (use := none) rfl (hs env) (comp_closure S hok) hok.kd (comp_nl hok) (wpAny_mono (h A env F ρ s hA S) (fun u s₁ hx => ?_) fun _ _ x => x)
    obtain ⟨ρ₁, H₁, v, st₁, S₁, r, xs, G, hI, hsz, J, hJ0, hJG, hT, hD⟩ := hx
    refine wpAny_mono (hI A _ ρ₁ s₁ u hA S₁.toH r) (fun it s₂ hx => ?_) (fun _ _ ⟨_, _, _, _, _, x, _⟩ => x.elim)
    obtain ⟨I, fp, St, e, IT, hSt, hk, hg, ho, hf⟩ := hx
    subst e
    have S₂ : Sim w KF fi env m F ρ₁ H₁ s₂.heap s₂.gens := by rw [hg]; exact S₁.keeps hk
    have st₂ : Step ρ s ρ₁ s₂ := st₁.trans (.same (.of_keep hk) ho (by rw [hg]; exact Nat.le_refl _))
    refine comp_run (RR := fun acc C => compPost (model prog w) A _ none _ acc C) hA hok S₂ IT hSt (S₁.fresh hf) hsz J hJ0 hJG hT ?_
    intro D C ρ' H' ys us mC s' t S' hD' ru hn off hDC hJ
    refine ⟨mC, hn, fun h' hs' => ?_⟩
    have c : Chg [C] s' { s' with heap := h' } := sameBut_chg (fun b o hb e => hs'.extBut b o hb e) (ns_not_imm hn)
    have S'' := S'.chg (fun b hb => by rw [List.mem_singleton.mp hb]; exact off C (.head _)) c
    obtain ⟨S3, rv⟩ := comp_adopt S'' (hD'.at fun o e => c.2.2.2 D o (fun q => hDC (List.mem_singleton.mp q).symm) e) (ru.mono (List.prefix_refl _) c.2.2.1) (fun b hb => by rw [List.mem_singleton.mp hb]; exact off D (.tail _ (.head _)))
    exact ⟨_, _, _, ((st₂.trans t).trans c.step).trans (.add (.refl _) rfl), S3, rv, hD _ _ hJ⟩
/-- y = [.. for ..] -/
theorem ws_comp {elt target iter : Expr} {ifs : List Expr} {sc' : Scope} {y : Str} {py pos spos : Pos} {Q : Fl → Names → List O → Prop} (hok : CompOk sc' fi) (hy : Ours fi y) (h : WE prog w KF fi d E m H iter fun v H₁ => CompW prog w KF fi d E m H₁ elt target ifs sc' v fun ys H₂ => Q .next (setL m y (.ref H₂.length)) (H₂ ++ [.list ys]))
    (hsw : ∀ env, env.scope = fi.sc → swapsWith (.ListComp elt [⟨target, iter, ifs, 0⟩] sc' pos) (some (.Name y py)) spos.line env = pure true) (hs : ∀ env x, foldedSetIterable iter env x = pure x := by intro _ _; rfl) : WS prog w KF fi d E m H (.Assign [.Name y py] (.ListComp elt [⟨target, iter, ifs, 0⟩] sc' pos) spos) Q :=
  fun A env F ρ s hA S => by
    rw [exec_Assign_Name_used _ _ _ _ (hsw env S.es)]
    refine wpAny_bind (wpAny_standAt (wpAny_bind ?_))
    show wpAny _ A (do let _ ← comprehension (.ListComp elt [⟨target, iter, ifs, 0⟩] sc' pos) sc' env _ (newList []) false (eval iter env) (some (assign (.Name y py) env))) _ _ s
    refine wpAny_bind (wpAny_mono (wpAny_comprehension_free (use := some (assign (.Name y py) env)) (Q := fun _ s' => StQ w KF fi env F ρ s Q .next s') rfl (hs env) (comp_closure S hok) hok.kd (comp_nl hok) (wpAny_mono (h A env F ρ s hA S) (fun u s₁ hx => ?_) fun _ _ x => x)) (fun _ s' hq => wpAny_pure (wpAny_pure hq)) fun _ _ x => x)
    obtain ⟨ρ₁, H₁, v, st₁, S₁, r, xs, G, hI, hsz, J, hJ0, hJG, hT, hD⟩ := hx
    refine wpAny_mono (hI A _ ρ₁ s₁ u hA S₁.toH r) (fun it s₂ hx => ?_) (fun _ _ ⟨_, _, _, _, _, x, _⟩ => x.elim)
    obtain ⟨I, fp, St, e, IT, hSt, hk, hg, ho, hf⟩ := hx
    subst e
    have S₂ : Sim w KF fi env m F ρ₁ H₁ s₂.heap s₂.gens := by rw [hg]; exact S₁.keeps hk
    have st₂ : Step ρ s ρ₁ s₂ := st₁.trans (.same (.of_keep hk) ho (by rw [hg]; exact Nat.le_refl _))
    refine comp_run (RR := fun acc C => compPost (model prog w) A _ (some (assign (.Name y py) env)) _ acc C) hA hok S₂ IT hSt (S₁.fresh hf) hsz J hJ0 hJG hT ?_
    intro D C ρ' H' ys us mC s' t S' hD' ru hn off hDC hJ
    have offD : FpOff fi env F ρ' [D] := fun b hb => by rw [List.mem_singleton.mp hb]; exact off D (.tail _ (.head _))
    obtain ⟨S3, rv⟩ := comp_adopt S' hD' ru offD
    show wpAny _ A (assign (.Name y py) env (.ref D)) _ _ _
    refine wpAny_assign_Name (wpAny_mono (st_name' S3 rv hy) (fun _ s₄ ⟨t₄, S₄, k₄⟩ => ?_) fun _ _ x => x)
    have oC := off C (.head _)
    have hCn : C ∉ fps (ρ' ++ [⟨D, [D], none⟩]) := fun q => by
      have e : fps (ρ' ++ [⟨D, [D], none⟩]) = fps ρ' ++ [D] := by simp [fps]
      rw [e] at q
      rcases List.mem_append.mp q with q | q
      · exact oC.2.1 q
      · exact hDC (List.mem_singleton.mp q)
    have hn₄ : s₄.heap.Ns C mC := hn.at' fun o e => k₄ C o oC.2.2 e
    refine ⟨mC, hn₄, fun h' hs' => ?_⟩
    have c : Chg [C] s₄ { s₄ with heap := h' } := sameBut_chg (fun b o hb e => hs'.extBut b o hb e) (ns_not_imm hn₄)
    have S₅ := S₄.chg (fun b hb => by rw [List.mem_singleton.mp hb]; exact ⟨oC.1, hCn, oC.2.2⟩) c
    exact ⟨_, _, _, .next, (((st₂.trans t).trans (.add (.refl _) rfl)).trans t₄).trans c.step, S₅, rfl, hD _ _ hJ⟩
end
end Mine
end
section
open PySem PySem.W PyProof.Rows PySem.W.X
namespace Mine
theorem Room.deeper {A : Around} {d : Nat} {F : Base} {env : Env} (h : Room A (d + 1) F.fr) (he : env.frame = some env.locals) : Room (A.deeper env) d (frOf env F) := ⟨by unfold frOf; rw [if_pos he]; show A.frames.map (env :: ·) = _; rw [h.fr]; rfl, h.hd, by have := h.dp; show A.depth + 1 + 4 * d < recursionLimit; omega, by have := h.un; show A.units + 3 + 40 * d + 200 < cLine; omega⟩
theorem Room.depth {A : Around} {d : Nat} {l : List Env} (h : Room A d l) : A.depth < recursionLimit := by have := h.dp; omega
/-- a function's data -/
noncomputable def fdOf (o : Obj) : FuncData := match o.data with | .func f => f | _ => default
/-- a function of the text's, at its place -/
structure FnB (KF : Frag) (a : Nat) (o : Obj) (fd : FuncData) (body : List Stmt) (sc : Scope) (ps : List Str) : Prop where
  hsc : fd.scope = sc
  hK : KF.lookup a = some o
  hd : o.data = .func fd
  hb : fd.body = .stmts body
  hg : fd.globals = mainGlobals
  hbl : fd.builtins = builtinsNs
  hcl : fd.closure = []
  hcd : ∃ c oc vs t, fd.code = .ref c ∧ KF.lookup c = some oc ∧ oc.data = .fields vs ∧ vs[1]? = some (.str fd.qualname t)
  hps : ps.Nodup
  hnd : (sc.names.map (·.1)).Nodup
  hkd : ∀ p ∈ ps, sc.names.lookup p = some .local ∨ sc.names.lookup p = some .cell
  hco : sc.isCoroutine = false
  hk : sc.kind = .function
  hnf : ∀ p ∈ sc.names, p.2 ≠ .free
/-- and without defaults -/
structure FnOk (KF : Frag) (a : Nat) (o : Obj) (fd : FuncData) (body : List Stmt) (sc : Scope) (ps : List Str) : Prop extends FnB KF a o fd body sc ps where
  hbd : ∀ us : List Value, us.length = ps.length → bindArgs fd ⟨us, []⟩ = pure (ps.zip us)
noncomputable abbrev nv (x : String) (v : V) : Str × Option V := (Str.ofString x, some v)
noncomputable abbrev nn (x : String) : Str × Option V := (Str.ofString x, none)
noncomputable def initN (sc : Scope) (ps : List Str) (xs : List V) : Names := (sc.names.filter fun x => x.2 == .local || x.2 == .cell).map fun x => (x.1, (ps.zip xs).lookup x.1)
theorem initN_get {sc : Scope} {ps : List Str} {xs : List V} {x : Str} {v : V} (h : getL (initN sc ps xs) x = some v) : (x, v) ∈ ps.zip xs := by
  unfold getL initN at h
  have : ∀ l : List (Str × NameKind), ((l.map fun y => (y.1, (ps.zip xs).lookup y.1)).lookup x).join = some v → (ps.zip xs).lookup x = some v := by
    intro l
    induction l with
    | nil => intro h; cases h
    | cons p l ih =>
      intro h
      rw [List.map_cons, List.lookup_cons] at h
      cases e : (x == p.1) with
      | true =>
        rw [e] at h
        have : x = p.1 := by simpa using e
        rw [this]; exact h
      | false => rw [e] at h; exact ih h
  exact mem_of_lookup (this _ h)
theorem zip_rel {ρ : List Ent} {h : Heap} : ∀ {ps : List Str} {xs : List V} {us : List Value} {x : Str} {v : V}, VRs ρ h xs us → (x, v) ∈ ps.zip xs → ∃ u, (x, u) ∈ ps.zip us ∧ VR ρ h v u
  | [], _, _, _, _, _, hm => nomatch hm
  | p :: ps, [], _, _, _, _, hm => nomatch hm
  | p :: ps, y :: xs, us, x, v, r, hm => by
    obtain ⟨u, q, rfl, a, b⟩ := r.cons_eq
    rw [List.zip_cons_cons] at hm
    rcases List.mem_cons.mp hm with e | hm
    · cases e; exact ⟨u, .head _, a⟩
    · obtain ⟨u', h1, h2⟩ := zip_rel b hm
      exact ⟨u', .tail _ h1, h2⟩
theorem zip_keys {α : Type} : ∀ {ps : List Str} {us : List α}, us.length = ps.length → (ps.zip us).map (·.1) = ps
  | [], _, _ => by simp
  | p :: ps, [], h => by simp at h
  | p :: ps, u :: us, h => by rw [List.zip_cons_cons, List.map_cons, zip_keys (Nat.succ.inj h)]
theorem bindL_mem {kindOf : Str → Option NameKind} : ∀ {binds : List (Str × Value)} {m : Str → Option Value} {x : Str} {u : Value}, (binds.map (·.1)).Nodup → kindOf x = some .local → ((x, u) ∈ binds → bindL kindOf binds m x = some u) ∧ (x ∉ binds.map (·.1) → bindL kindOf binds m x = m x)
  | [], m, x, u, _, _ => ⟨fun h => (nomatch h), fun _ => rfl⟩
  | (n, v) :: r, m, x, u, nd, hk => by
    rw [List.map_cons, List.nodup_cons] at nd
    unfold bindL
    obtain ⟨i1, i2⟩ := bindL_mem (binds := r) (m := if kindOf n = some .local then fun y => if y = n then some v else m y else m) (x := x) (u := u) nd.2 hk
    refine ⟨fun h => ?_, fun h => ?_⟩
    · rcases List.mem_cons.mp h with e | h
      · cases e
        rw [i2 nd.1, if_pos hk]
        exact if_pos rfl
      · exact i1 h
    · rw [List.map_cons, List.mem_cons, not_or] at h
      rw [i2 h.2]
      split
      · exact if_neg h.1
      · rfl
theorem bindC_mem {kindOf : Str → Option NameKind} : ∀ {binds : List (Str × Value)} {m : Str → Option Value} {x : Str} {u : Value}, (binds.map (·.1)).Nodup → kindOf x ≠ some .local → ((x, u) ∈ binds → bindC kindOf binds m x = some u) ∧ (x ∉ binds.map (·.1) → bindC kindOf binds m x = m x)
  | [], m, x, u, _, _ => ⟨fun h => (nomatch h), fun _ => rfl⟩
  | (n, v) :: r, m, x, u, nd, hk => by
    rw [List.map_cons, List.nodup_cons] at nd
    unfold bindC
    obtain ⟨i1, i2⟩ := bindC_mem (binds := r) (m := if kindOf n = some .local then m else fun y => if y = n then some v else m y) (x := x) (u := u) nd.2 hk
    refine ⟨fun h => ?_, fun h => ?_⟩
    · rcases List.mem_cons.mp h with e | h
      · cases e
        rw [i2 nd.1, if_neg hk]
        exact if_pos rfl
      · exact i1 h
    · rw [List.map_cons, List.mem_cons, not_or] at h
      rw [i2 h.2]
      split
      · rfl
      · exact if_neg h.1
theorem cellsFrom_mem : ∀ {names : List (Str × NameKind)} {n : Nat} {acc : List (Str × Nat)} {x : Str} {c : Nat}, (x, c) ∈ cellsFrom n names acc → (x, c) ∈ acc ∨ (x, NameKind.cell) ∈ names
  | [], _, _, _, _, h => .inl h
  | (y, k) :: r, n, acc, x, c, h => by
    unfold cellsFrom at h
    split at h
    · rename_i hk
      have hk : k = .cell := by simpa using hk
      subst hk
      rcases cellsFrom_mem h with h | h
      · rcases List.mem_cons.mp h with e | h
        · cases e; exact .inr (.head _)
        · exact .inl h
      · exact .inr (.tail _ h)
    · rcases cellsFrom_mem h with h | h
      · exact .inl h
      · exact .inr (.tail _ h)
theorem cellsFrom_keys : ∀ {names : List (Str × NameKind)} {n : Nat} {acc : List (Str × Nat)}, (cellsFrom n names acc).map (·.1) = ((names.filter fun x => x.2 == .cell).map (·.1)).reverse ++ acc.map (·.1)
  | [], _, _ => rfl
  | (y, k) :: r, n, acc => by
    unfold cellsFrom
    split
    · rename_i hk
      have hk : k = .cell := by simpa using hk
      subst hk
      rw [cellsFrom_keys]
      simp
    · rename_i hk
      rw [cellsFrom_keys]
      have : (k == NameKind.cell) = false := by simpa using hk
      simp [List.filter_cons, this]
theorem cells_nodup {names : List (Str × NameKind)} {n : Nat} (nd : (names.map (·.1)).Nodup) : ((cellsFrom n names []).map (·.1)).Nodup := by
  rw [cellsFrom_keys, List.map_nil, List.append_nil]
  refine (List.reverse_perm _).nodup_iff.mpr ?_
  have : (names.filter fun x => x.2 == .cell).Pairwise fun a b => a.1 ≠ b.1 := (List.pairwise_map.mp nd).filter _
  exact List.pairwise_map.mpr this
theorem cells_has {names : List (Str × NameKind)} {n : Nat} {x : Str} (h : (x, NameKind.cell) ∈ names) : ∃ c, (x, c) ∈ cellsFrom n names [] := by
  have : x ∈ (cellsFrom n names []).map (·.1) := by
    rw [cellsFrom_keys, List.map_nil, List.append_nil, List.mem_reverse]
    exact List.mem_map.mpr ⟨_, List.mem_filter.mpr ⟨h, rfl⟩, rfl⟩
  obtain ⟨⟨y, c⟩, hm, rfl⟩ := List.mem_map.mp this
  exact ⟨c, hm⟩
section
variable {prog : Program} {w : World} {KF : Frag} {d : Nat} {E : HEP} {H : List O} {a : Nat} {o : Obj} {fd : FuncData} {body : List Stmt} {sc : Scope} {ps : List Str} {xs : List V}
/-- a function's frame, right behind its entry -/
theorem enter_sim {F : Base} {ρ : List Ent} {s s₁ : Shared} {us : List Value} (K : FnB KF a o fd body sc ps) (hlen : xs.length = ps.length) (S : HSim w KF F ρ H s.heap s.gens) (r : VRs ρ s.heap xs us)
    (X : InCallC s (callEnvC fd s.heap.objs.size a).locals (bindL (callEnvC fd s.heap.objs.size a).kindOf (ps.zip us) fun _ => none) (callEnvC fd s.heap.objs.size a).cells (bindC (callEnvC fd s.heap.objs.size a).kindOf (ps.zip us) fun _ => none) s₁) :
    Step ρ s ρ s₁ ∧ Sim w KF ⟨sc, true, fd.code⟩ (callEnvC fd s.heap.objs.size a) (initN sc ps xs) F ρ H s₁.heap s₁.gens := by
  have hsc := K.hsc
  subst hsc
  obtain ⟨h₁, tk, rfl, hk⟩ := X.done
  have hul : us.length = ps.length := r.len.trans hlen
  have hkeys : ((ps.zip us).map (·.1)).Nodup := by rw [zip_keys hul]; exact K.hps
  have hkind : ∀ x, (callEnvC fd s.heap.objs.size a).kindOf x = fd.scope.names.lookup x := fun _ => rfl
  have dead : ∀ b, s.heap.objs.size ≤ b → s.heap.get? b = none := fun b hb => by
    cases e : s.heap.get? b with
    | none => rfl
    | some o => exact absurd (Heap.lt_size e) (Nat.not_lt.mpr hb)
  have hL : (callEnvC fd s.heap.objs.size a).locals = s.heap.objs.size := rfl
  have cells_eq : (callEnvC fd s.heap.objs.size a).cells = cellsFrom (s.heap.objs.size + 1) fd.scope.names [] := rfl
  have cu : ∀ x c, (x, c) ∈ (callEnvC fd s.heap.objs.size a).cells → (callEnvC fd s.heap.objs.size a).cells.lookup x = some c := fun x c hc => nodup_lookup (cells_nodup K.hnd) hc
  have kc : ∀ x c, (x, c) ∈ (callEnvC fd s.heap.objs.size a).cells → fd.scope.names.lookup x = some .cell := fun x c hc => by
    rcases cellsFrom_mem (show (x, c) ∈ cellsFrom (s.heap.objs.size + 1) fd.scope.names [] from hc) with h | h
    · cases h
    · exact nodup_lookup K.hnd h
  have hs₁ : HSim w KF F ρ H h₁ s.gens := S.keeps hk
  have tk₁ : TK s.heap h₁ := .of_keep hk
  refine ⟨.same tk₁ rfl, hs₁, rfl, K.hg, K.hbl, rfl, K.hk, .inl rfl, fun b hb => ?_, ?_, fun x c hc => ?_, fun x hx => ?_, fun x hx => ?_, fun x c hc => ⟨cu x c hc, Nat.ne_of_gt (X.above x c hc)⟩, X.apart, fun q => by cases q⟩
  · have hge : s.heap.objs.size ≤ b := by
      unfold ownA at hb
      rw [if_pos rfl] at hb
      rcases List.mem_cons.mp hb with e | hb
      · rw [e]; exact Nat.le_refl _
      · obtain ⟨⟨x, c⟩, hm, rfl⟩ := List.mem_map.mp hb
        exact Nat.le_of_lt (X.above x c hm)
    refine ⟨?_, fun q => ?_⟩
    · cases q : F.f b with
      | none => rfl
      | some o => obtain ⟨o', e', _⟩ := S.keep _ _ q; rw [dead b hge] at e'; cases e'
    · obtain ⟨o, ho⟩ := S.live b q; rw [dead b hge] at ho; cases ho
  · refine ⟨_, X.toInCall.ns, fun x hx => ?_⟩
    cases q : getL (initN fd.scope ps xs) x with
    | none => trivial
    | some v =>
      obtain ⟨u, hm, hv⟩ := zip_rel r (initN_get q)
      rw [(bindL_mem hkeys ((hkind x).trans hx)).1 hm]
      exact hv.mono (List.prefix_refl _) tk₁
  · refine ⟨_, X.cell x c hc, ?_⟩
    cases q : getL (initN fd.scope ps xs) x with
    | none => trivial
    | some v =>
      obtain ⟨u, hm, hv⟩ := zip_rel r (initN_get q)
      rw [(bindC_mem hkeys (by rw [hkind, kc x c (mem_of_lookup hc)]; decide)).1 hm]
      exact hv.mono (List.prefix_refl _) tk₁
  · rcases hx with hx | hx
    · obtain ⟨c, hc⟩ := cells_has (n := s.heap.objs.size + 1) (mem_of_lookup hx)
      exact ⟨c, cu x c hc⟩
    · exact absurd rfl (K.hnf _ (mem_of_lookup hx))
  · cases q : (callEnvC fd s.heap.objs.size a).cells.lookup x with
    | none => rfl
    | some c => have := kc x c (mem_of_lookup q); rw [this] at hx; cases hx
theorem fn_code (K : FnB KF a o fd body sc ps) {h : Heap} (B : Bs w KF h) : h.get? a = some o ∧ h.CodeRec fd.code fd.qualname := by
  obtain ⟨c, oc, vs, t, h1, h2, h3, h4⟩ := K.hcd
  exact ⟨B.k _ _ K.hK, c, oc, vs, t, h1, B.k _ _ h2, h3, h4⟩
/-- a plain function called, its defaults filled in -/
theorem call_fnD {dv : List Value} {ds : List V} {Q : V → List O → Prop} (K : FnB KF a o fd body sc ps) (hgen : sc.isGenerator = false) (hlen : (xs ++ ds).length = ps.length) (hdv : ∀ ρ h, VRs ρ h ds dv)
    (hb : ∀ (s : Shared) (us : List Value), Bs w KF s.heap → us.length = xs.length → BindsTo s fd ⟨us, []⟩ (ps.zip (us ++ dv)))
    (h : WB prog w KF ⟨sc, true, fd.code⟩ d (fun _ _ _ => False) (initN sc ps (xs ++ ds)) H body fun f m' H' => match f with | .ret v => Q v H' | .next => Q .none H' | _ => False) : CallW prog w KF (d + 1) E H (.st a) xs Q :=
  fun A F ρ s u us hA S ru r => by
    have hsc := K.hsc
    subst hsc
    unfold VR at ru
    subst ru
    have B := S.b
    obtain ⟨ho, hcd⟩ := fn_code K B
    have r' : VRs ρ s.heap (xs ++ ds) (us ++ dv) := r.append (hdv _ _)
    have hul : (us ++ dv).length = ps.length := r'.len.trans hlen
    refine wpAny_call (codeAny_call_function hA.depth ho K.hd K.hco hgen K.hb hcd (hb s us B r.len _ _ _ _ ?_))
    rw [K.hcl]
    refine wpAny_newFunctionEnv_cells K.hk (fun x hx => ?_) fun env he s₁ X => ?_
    · have hx1 : x.1 ∈ ps := by rw [← zip_keys hul]; exact List.mem_map.mpr ⟨x, hx, rfl⟩
      rcases K.hkd x.1 hx1 with q | q
      · exact .inl q
      · obtain ⟨c, hc⟩ := cells_has (n := s.heap.objs.size + 1) (mem_of_lookup q)
        exact .inr ⟨q, by rw [nodup_lookup (cells_nodup K.hnd) hc]; rfl⟩
    · subst he
      obtain ⟨st₁, S₁⟩ := enter_sim K hlen S r' X
      refine ⟨S₁.b.lim, codeAny_func ?_⟩
      refine wpAny_mono (h _ _ F ρ s₁ (hA.deeper rfl) S₁) (fun f s₂ hx => ?_) (fun _ _ x => (se_no x).elim)
      obtain ⟨ρ₂, H₂, m₂, fl, st₂, S₂, rf, h₂⟩ := hx
      cases fl with
      | next => cases rf; exact ⟨ρ₂, H₂, .none, st₁.trans st₂, S₂.hs, by unfold VR; rfl, h₂⟩
      | ret v => obtain ⟨u, rfl, r⟩ := rf; exact ⟨ρ₂, H₂, v, st₁.trans st₂, S₂.hs, r, h₂⟩
      | brk => exact h₂.elim
      | cont => exact h₂.elim
/-- a plain function called -/
theorem call_fn {Q : V → List O → Prop} (K : FnOk KF a o fd body sc ps) (hgen : sc.isGenerator = false) (hlen : xs.length = ps.length)
    (h : WB prog w KF ⟨sc, true, fd.code⟩ d (fun _ _ _ => False) (initN sc ps xs) H body fun f m' H' => match f with | .ret v => Q v H' | .next => Q .none H' | _ => False) : CallW prog w KF (d + 1) E H (.st a) xs Q :=
  fun A F ρ s u us hA S ru r => by
    have hsc := K.hsc
    subst hsc
    unfold VR at ru
    subst ru
    have B := S.b
    obtain ⟨ho, hcd⟩ := fn_code K.toFnB B
    have hul : us.length = ps.length := r.len.trans hlen
    refine wpAny_call (codeAny_call_cells (binds := ps.zip us) hA.depth ho K.hd B.lim hcd K.hb (K.hbd us hul) K.hcl (fun x hx => ?_) (fun s₁ X => ?_) K.hco hgen K.hk)
    · have hx1 : x.1 ∈ ps := by rw [← zip_keys hul]; exact List.mem_map.mpr ⟨x, hx, rfl⟩
      rcases K.hkd x.1 hx1 with q | q
      · exact .inl q
      · obtain ⟨c, hc⟩ := cells_has (n := s.heap.objs.size + 1) (mem_of_lookup q)
        exact .inr ⟨q, by rw [nodup_lookup (cells_nodup K.hnd) hc]; rfl⟩
    · obtain ⟨st₁, S₁⟩ := enter_sim K.toFnB hlen S r X
      refine wpAny_mono (h _ _ F ρ s₁ (hA.deeper rfl) S₁) (fun f s₂ hx => ?_) (fun _ _ x => (se_no x).elim)
      obtain ⟨ρ₂, H₂, m₂, fl, st₂, S₂, rf, h₂⟩ := hx
      cases fl with
      | next => cases rf; exact ⟨ρ₂, H₂, .none, st₁.trans st₂, S₂.hs, by unfold VR; rfl, h₂⟩
      | ret v => obtain ⟨u, rfl, r⟩ := rf; exact ⟨ρ₂, H₂, v, st₁.trans st₂, S₂.hs, r, h₂⟩
      | brk => exact h₂.elim
      | cont => exact h₂.elim
end
section
variable {prog : Program} {w : World} {KF : Frag} {fi : FI} {d : Nat} {E : EP} {m : Names} {H : List O}
/-- arguments, evaluated -/
theorem args_run {es : List Expr} {pos : Pos} {Q : List V → List O → Prop} {f : Value} (h : WEs prog w KF fi d E m H es Q) {A : Around} {env : Env} {F : Base} {ρ : List Ent} {s : Shared} (hA : Room A d (frOf env F)) (S : Sim w KF fi env m F ρ H s.heap s.gens) :
    wpAny (model prog w) A (evalArgs f true (backTo pos (es.map fun e => (false, eval e env))) []) (fun x s' => x.kw = [] ∧ SQ w KF VRs fi env m F ρ s Q x.pos s') (SE w KF fi env F ρ s E) s := by
  cases es with
  | nil => exact PyProof.Rows.evalArgs_none ⟨rfl, ρ, H, [], .refl, S, .nil, h⟩
  | cons e es => exact Calls.evalArgs_plain (wpAny_mono (wes_run h A env F ρ s hA S) (fun us s' q => ⟨rfl, q⟩) fun _ _ x => x)
theorem wes_nil {Q : List V → List O → Prop} (h : Q [] H) : WEs prog w KF fi d E m H [] Q := h
noncomputable def Callee (KF : Frag) : V → Prop
  | .bi _ => True
  | .ty _ => True
  | .st a => keepIn KF (.ref a) = true
  | _ => False
theorem plain_any {es : List Expr} {pos : Pos} {env : Env} : (backTo pos (es.map fun e => (false, eval e env))).any (·.1) = false := by
  unfold backTo
  rw [List.map_map]
  induction es with
  | nil => rfl
  | cons e es ih => rw [List.map_cons, List.any_cons, ih]; rfl
theorem callWith_run {es : List Expr} {pos : Pos} {f : V} {first : List V} {Q : V → List O → Prop} (hf : Callee KF f) (h : WEs prog w KF fi d E m H es fun vs H₂ => CallW prog w KF d (Em E m) H₂ f (first ++ vs) Q) {A : Around} {env : Env} {F : Base} {ρ : List Ent} {s : Shared} {u : Value} {us : List Value} (hA : Room A d (frOf env F)) (S : Sim w KF fi env m F ρ H s.heap s.gens) (ru : VR ρ s.heap f u) (rus : VRs ρ s.heap first us) :
    wpAny (model prog w) A (callWith pos u us (backTo pos (es.map fun e => (false, eval e env))) []) (SQ w KF VR fi env m F ρ s Q) (SE w KF fi env F ρ s E) s := by
  have key : ∀ (x : Args) (s₁ : Shared), (x.kw = [] ∧ SQ w KF VRs fi env m F ρ s (fun vs H₂ => CallW prog w KF d (Em E m) H₂ f (first ++ vs) Q) x.pos s₁) → wpAny (model prog w) A (call u (us ++ x.pos) x.kw) (SQ w KF VR fi env m F ρ s Q) (SE w KF fi env F ρ s E) s₁ := by
    rintro x s₁ ⟨hkw, ρ₁, H₁, vs, st₁, S₁, rv, h₁⟩
    rw [hkw]
    exact onto st₁ (lift S₁ fun F' q T => h₁ A F' ρ₁ s₁ u _ (q ▸ hA) T (ru.mono st₁.1 st₁.2.1) ((rus.mono st₁.1 st₁.2.1).append rv)) fun _ _ x => x.step st₁
  cases f with
  | bi id =>
    unfold VR at ru; subst ru
    exact Calls.callWith_builtin plain_any (wpAny_mono (args_run h hA S) key fun _ _ x => x)
  | ty id =>
    unfold VR at ru; subst ru
    exact PySem.callWith_type plain_any (wpAny_mono (args_run h hA S) key fun _ _ x => x)
  | st a =>
    unfold VR at ru; subst ru
    refine callWith_of (by rw [plain_any]; rfl) (keeps_K (K := KF) hf) (wpAny_mono (args_run h hA S) (fun x s₁ hx => ⟨?_, key x s₁ hx⟩) fun _ _ x => x)
    obtain ⟨_, ρ₁, H₁, vs, st₁, S₁, _⟩ := hx
    exact S₁.b.k
  | _ => exact hf.elim
theorem we_call {func : Expr} {args : List Expr} {pos : Pos} {Q : V → List O → Prop} (h : WE prog w KF fi d E m H func fun f H₁ => Callee KF f ∧ WEs prog w KF fi d E m H₁ args fun vs H₂ => CallW prog w KF d (Em E m) H₂ f vs Q)
    (hp : Plain args := by intro _; rfl) (he : ∀ env, eval (.Call func args [] pos) env = (do callWith pos (← eval func env) [] (backTo pos (starEach args env)) (backToKw pos (keywordEach [] env))) := by intro _; rfl) : WE prog w KF fi d E m H (.Call func args [] pos) Q :=
  fun A env F ρ s hA S => by
    refine Call_ (wpAny_mono (h A env F ρ s hA S) (fun u s₁ hx => ?_) fun _ _ x => x) (he env)
    obtain ⟨ρ₁, H₁, f, st₁, S₁, ru, hf, h₁⟩ := hx
    rw [hp env]
    exact onto st₁ (callWith_run (first := []) hf h₁ hA S₁ ru .nil) fun _ _ x => x.step st₁
/-- a method's function -/
noncomputable def MethIs (prog : Program) (w : World) (KF : Frag) (H : List O) (x : V) (name : Str) (f : V) : Prop :=
  ∀ A F ρ (s : Shared) u (pl : Sem Bool) (K : Value × List Value → Shared → Prop) (E' : Value → Shared → Prop), HSim w KF F ρ H s.heap s.gens → VR ρ s.heap x u → (∀ fu, VR ρ s.heap f fu → K (fu, [u]) s) → wpAny (model prog w) A (getMethod u name pl) K E' s
theorem we_meth {o : Expr} {name : Str} {apos pos : Pos} {args : List Expr} {pl : Env → Sem Bool} {Q : V → List O → Prop} (h : WE prog w KF fi d E m H o fun x H₁ => ∃ f, MethIs prog w KF H₁ x name f ∧ Callee KF f ∧ WEs prog w KF fi d E m H₁ args fun vs H₂ => CallW prog w KF d (Em E m) H₂ f (x :: vs) Q)
    (hp : Plain args := by intro _; rfl) (he : ∀ env, eval (.Call (.Attribute o name apos) args [] pos) env = (do
      let ov ← eval o env
      standAt apos.atName
      let (f, first) ← holding [ov] (getMethod ov name (pl env))
      callWith pos f first (backTo pos (starEach args env)) []) := by intro _; rfl) : WE prog w KF fi d E m H (.Call (.Attribute o name apos) args [] pos) Q :=
  fun A env F ρ s hA S => by
    refine MethodCall_ (pl := pl env) (wpAny_mono (h A env F ρ s hA S) (fun u s₁ hx => ?_) fun _ _ x => x) (he env)
    obtain ⟨ρ₁, H₁, x, st₁, S₁, ru, f, hm, hf, h₁⟩ := hx
    refine hm A _ ρ₁ s₁ u _ _ _ S₁.toH ru fun fu rf => ?_
    rw [hp env]
    exact onto st₁ (callWith_run (first := [x]) hf h₁ hA S₁ rf (.cons ru .nil)) fun _ _ x => x.step st₁
end
end Mine
end
section
open PySem PySem.W PyProof.Rows PySem.W.X
namespace Mine
section
variable {prog : Program} {w : World} {KF : Frag} {d : Nat} {E : HEP} {H : List O} {Q : V → List O → Prop}
theorem hq_same {α β : Type} {R : List Ent → Heap → β → α → Prop} {F : Base} {ρ : List Ent} {s : Shared} {Q : β → List O → Prop} {v : α} {b : β} {tk : Nat} (S : HSim w KF F ρ H s.heap s.gens) (r : R ρ s.heap b v) (h : Q b H) : HQ w KF R F ρ s Q v { s with toks := tk } := ⟨ρ, H, b, .same (.refl _) rfl, S, r, h⟩
theorem hq_refl {α β : Type} {R : List Ent → Heap → β → α → Prop} {F : Base} {ρ : List Ent} {s : Shared} {Q : β → List O → Prop} {v : α} {b : β} (S : HSim w KF F ρ H s.heap s.gens) (r : R ρ s.heap b v) (h : Q b H) : HQ w KF R F ρ s Q v s := ⟨ρ, H, b, .refl, S, r, h⟩
theorem hq_keep {α β : Type} {R : List Ent → Heap → β → α → Prop} {F : Base} {ρ : List Ent} {s : Shared} {Q : β → List O → Prop} {v : α} {b : β} {h' : Heap} {tk : Nat} (S : HSim w KF F ρ H s.heap s.gens) (k : Keep s.heap h') (r : R ρ h' b v) (h : Q b H) : HQ w KF R F ρ s Q v { s with heap := h', toks := tk } := ⟨ρ, H, b, .same (.of_keep k) rfl, S.keeps k, r, h⟩
theorem vr_int {ρ : List Ent} {h : Heap} {i : Int} {t : Tok} : VR ρ h (.int i) (.int i t) := by unfold VR; exact ⟨t, rfl⟩
theorem vr_str {ρ : List Ent} {h : Heap} {x : Str} {t : Tok} : VR ρ h (.str x) (.str x t) := by unfold VR; exact ⟨t, rfl⟩
theorem vr_bool {ρ : List Ent} {h : Heap} {b : Bool} : VR ρ h (.bool b) (.bool b) := by unfold VR; rfl
theorem vr_none {ρ : List Ent} {h : Heap} : VR ρ h .none .none := by unfold VR; rfl
theorem vr_bi {ρ : List Ent} {h : Heap} {a : String} : VR ρ h (.bi a) (.builtin a) := by unfold VR; rfl
theorem VR.int_eq {ρ : List Ent} {h : Heap} {i : Int} {v : Value} (r : VR ρ h (.int i) v) : ∃ t, v = .int i t := by unfold VR at r; exact r
theorem VR.str_eq {ρ : List Ent} {h : Heap} {x : Str} {v : Value} (r : VR ρ h (.str x) v) : ∃ t, v = .str x t := by unfold VR at r; exact r
theorem VR.bool_eq {ρ : List Ent} {h : Heap} {b : Bool} {v : Value} (r : VR ρ h (.bool b) v) : v = .bool b := by unfold VR at r; exact r
theorem VR.ref_eq {ρ : List Ent} {h : Heap} {i : Nat} {v : Value} (r : VR ρ h (.ref i) v) : ∃ e, ρ[i]? = some e ∧ v = .ref e.a := by unfold VR at r; exact r
theorem VR.ty_eq {ρ : List Ent} {h : Heap} {n : String} {v : Value} (r : VR ρ h (.ty n) v) : v = .type n := by unfold VR at r; exact r
theorem VR.bi_eq {ρ : List Ent} {h : Heap} {n : String} {v : Value} (r : VR ρ h (.bi n) v) : v = .builtin n := by unfold VR at r; exact r
theorem VR.tup_eq {ρ : List Ent} {h : Heap} {xs : List V} {v : Value} (r : VR ρ h (.tup xs) v) : ∃ a vs, v = .ref a ∧ h.IsTuple a vs.toArray ∧ VRs ρ h xs vs := by unfold VR at r; exact r
-- ints
theorem add_ii {x y : Int} (h : Q (.int (x + y)) H) : W2 prog w KF d E VR H (binaryOp .Add) (.int x) (.int y) Q := fun A F ρ s u v hA S ru rv => by
  obtain ⟨t, rfl⟩ := ru.int_eq; obtain ⟨t', rfl⟩ := rv.int_eq; exact PySem.P.add_int (hq_same S vr_int h)
theorem sub_ii {x y : Int} (h : Q (.int (x - y)) H) : W2 prog w KF d E VR H (binaryOp .Sub) (.int x) (.int y) Q := fun A F ρ s u v hA S ru rv => by
  obtain ⟨t, rfl⟩ := ru.int_eq; obtain ⟨t', rfl⟩ := rv.int_eq; exact PySem.P.sub_int (hq_same S vr_int h)
theorem mod_ii {x y : Int} (hy : y ≠ 0) (h : Q (.int (x.fmod y)) H) : W2 prog w KF d E VR H (binaryOp .Mod) (.int x) (.int y) Q := fun A F ρ s u v hA S ru rv => by
  obtain ⟨t, rfl⟩ := ru.int_eq; obtain ⟨t', rfl⟩ := rv.int_eq; exact mod_int' hy (hq_same S vr_int h)
theorem div_ii {x y : Int} (hy : y ≠ 0) (hp : Builtin.divisionGoesByPylong x y = false) (h : Q (.int (x.fdiv y)) H) : W2 prog w KF d E VR H (binaryOp .FloorDiv) (.int x) (.int y) Q := fun A F ρ s u v hA S ru rv => by
  obtain ⟨t, rfl⟩ := ru.int_eq; obtain ⟨t', rfl⟩ := rv.int_eq; exact floordiv_int hy (hq_same S vr_int h) (.inl hp)
theorem eq_ii {x y : Int} (h : Q (.bool (x == y)) H) : W2 prog w KF d E VR H (compareOp .Eq) (.int x) (.int y) Q := fun A F ρ s u v hA S ru rv => by
  obtain ⟨t, rfl⟩ := ru.int_eq; obtain ⟨t', rfl⟩ := rv.int_eq; exact PySem.P.eq_int (hq_refl S vr_bool h)
theorem lt_ii {x y : Int} (h : Q (.bool (decide (x < y))) H) : W2 prog w KF d E VR H (compareOp .Lt) (.int x) (.int y) Q := fun A F ρ s u v hA S ru rv => by
  obtain ⟨t, rfl⟩ := ru.int_eq; obtain ⟨t', rfl⟩ := rv.int_eq; exact PySem.P.lt_int (hq_refl S vr_bool h)
theorem ge_ii {x y : Int} (h : Q (.bool (decide (x ≥ y))) H) : W2 prog w KF d E VR H (compareOp .GtE) (.int x) (.int y) Q := fun A F ρ s u v hA S ru rv => by
  obtain ⟨t, rfl⟩ := ru.int_eq; obtain ⟨t', rfl⟩ := rv.int_eq; exact PySem.P.ge_int (hq_refl S vr_bool h)
theorem neg_i {x : Int} (h : Q (.int (-x)) H) : W1 prog w KF d E VR H (unaryOp .USub) (.int x) Q := fun A F ρ s u hA S ru => by
  obtain ⟨t, rfl⟩ := ru.int_eq; exact neg_int (hq_same S vr_int h)
-- truth
theorem tr_bool {b : Bool} {Q : Bool → List O → Prop} (h : Q b H) : W1 prog w KF d E EqR H truthy (.bool b) Q := fun A F ρ s u hA S ru => by
  rw [ru.bool_eq]; exact wpAny_truthy_bool (hq_refl S rfl h)
theorem add_ss {x y : Str} (hz : x.length + y.length ≤ sizeLine) (h : Q (.str (x ++ y)) H) : W2 prog w KF d E VR H (binaryOp .Add) (.str x) (.str y) Q := fun A F ρ s u v hA S ru rv => by
  obtain ⟨t, rfl⟩ := ru.str_eq; obtain ⟨t', rfl⟩ := rv.str_eq; exact PyProof.Rows.add_str (fun t' tk => hq_same S vr_str h) hz
theorem range_2 {a b : Int} (h : Q (.rng a b) H) : CallW prog w KF d E H (.ty "range") [.int a, .int b] Q := fun A F ρ s u us hA S ru r => by
  rw [ru.ty_eq]
  obtain ⟨v, q, rfl, rv, rq⟩ := r.cons_eq
  obtain ⟨v', q', rfl, rv', rq'⟩ := rq.cons_eq
  rw [rq'.nil_eq]
  obtain ⟨t, rfl⟩ := rv.int_eq
  obtain ⟨t', rfl⟩ := rv'.int_eq
  refine call_range_2 (hq_keep S (fun _ _ e => Heap.get?_push_of_some _ e) ?_ h)
  unfold VR
  exact ⟨_, rfl, _, _, _, Heap.get?_push_size _ rfl⟩
-- items
/-- o[i], an index -/
noncomputable def subOp (o i : Value) : Sem Value := do
  let b ← getitemInPython o
  match b with
  | true => runValue (.builtin "lifetime.subscript" ⟨[o, i], []⟩)
  | false => operate [o, i] (getItem o i)
theorem sub_of {A : Around} {s : Shared} {o i : Value} {T id : String} {K : Value → Shared → Prop} {E' : Value → Shared → Prop} (hT : s.TypeIs o T) (hl : typeLookup (.type T) "__getitem__" = pure (some (.builtin id))) (h : wpAny (model prog w) A (getItem o i) K E' s) : wpAny (model prog w) A (subOp o i) K E' s := by
  unfold subOp
  refine wpAny_bind ?_
  rw [getitemInPython_of_ne hT.not_modules]
  refine wpAny_bind (wpAny_specialOf hT hl ?_)
  exact wpAny_pure (wpAny_operating h)
end
end Mine
end
section
open PySem PySem.W PyProof.Rows PySem.W.X PySem.SeqAt
namespace Mine
/-- Python's pick of a slice -/
noncomputable def pick {α : Type} (xs : List α) (lo hi st : Option Int) : List α := (sliceRange (sliceBounds lo hi st xs.length).1 (sliceBounds lo hi st xs.length).2.1 (sliceBounds lo hi st xs.length).2.2).filterMap (xs[·]?)
section
variable {prog : Program} {w : World} {KF : Frag} {d : Nat} {E : HEP} {H : List O} {Q : V → List O → Prop}
/-- a list of the heap's -/
noncomputable def IsL' (H : List O) (l : Nat) (xs : List V) : Prop := H[l]? = some (.list xs) ∨ H[l]? = some (.arr xs)
theorem HSim.list {F : Base} {ρ : List Ent} {s : Shared} {l : Nat} {xs : List V} (S : HSim w KF F ρ H s.heap s.gens) (hl : IsL' H l xs) {e : Ent} (he : ρ[l]? = some e) : ∃ vs : List Value, s.heap.IsList e.a vs.toArray ∧ VRs ρ s.heap xs vs := by
  rcases hl with hG | hG
  · obtain ⟨_, _, vs, a, b⟩ := S.ob l e _ he hG; exact ⟨vs, a.isList, b⟩
  · obtain ⟨_, _, ⟨vs, a, b⟩, _⟩ := S.ob l e _ he hG; exact ⟨vs, a, b⟩
theorem len_l {l : Nat} {xs : List V} (hl : IsL' H l xs) (hz : xs.length ≤ sizeLine) (h : Q (.int xs.length) H) : CallW prog w KF d E H (.bi "len") [.ref l] Q := fun A F ρ s u us hA S ru r => by
  rw [ru.bi_eq]
  obtain ⟨v, q, rfl, rv, rq⟩ := r.cons_eq
  rw [rq.nil_eq]
  obtain ⟨e, he, rfl⟩ := rv.ref_eq
  obtain ⟨vs, a, b⟩ := S.list hl he
  have hs : sizeLine = 2 ^ 24 := rfl
  refine Calls.call_len_list a (by rw [List.size_toArray, b.len]; omega) ?_
  rw [List.size_toArray, b.len]
  exact hq_same S vr_int h
theorem get_li {l : Nat} {xs : List V} {i : Int} {x : V} (hl : IsL' H l xs) (h0 : 0 ≤ i) (hz : i < 2 ^ 62) (hx : xs[i.toNat]? = some x) (h : Q x H) : W2 prog w KF d E VR H subOp (.ref l) (.int i) Q := fun A F ρ s u v hA S ru rv => by
  obtain ⟨e, he, rfl⟩ := ru.ref_eq; obtain ⟨t', rfl⟩ := rv.int_eq
  obtain ⟨vs, a, b⟩ := S.list hl he
  obtain ⟨y, hy, ry⟩ := b.get hx
  exact sub_of a.typeIs slot_list_getitem.lookup (wpAny_getItem_list a h0 (by omega) (by simpa using hy) (hq_refl S ry h))
theorem get_ln {l : Nat} {xs : List V} {k : Nat} {x : V} (hl : IsL' H l xs) (h0 : 1 ≤ k) (hz : k ≤ xs.length) (hs : xs.length ≤ sizeLine) (hx : xs[xs.length - k]? = some x) (h : Q x H) : W2 prog w KF d E VR H subOp (.ref l) (.int (-(k : Nat))) Q := fun A F ρ s u v hA S ru rv => by
  obtain ⟨e, he, rfl⟩ := ru.ref_eq; obtain ⟨t', rfl⟩ := rv.int_eq
  obtain ⟨vs, a, b⟩ := S.list hl he
  obtain ⟨y, hy, ry⟩ := b.get hx
  have hss : sizeLine = 2 ^ 24 := rfl
  have hlen := b.len
  refine sub_of a.typeIs slot_list_getitem.lookup (wpAny_getItem_list_neg a (by omega) (by rw [List.size_toArray]; omega) (by omega) (x := y) ?_ (hq_refl S ry h))
  rw [List.size_toArray, hlen]
  rw [show (-(k : Int) + (xs.length : Nat)).toNat = xs.length - k by omega]
  simpa using hy
/-- one list turned -/
theorem HSim.turn {F : Base} {ρ : List Ent} {s : Shared} {l : Nat} {xs ys : List V} {e : Ent} {us : List Value} {h' : Heap} {tk : Nat} (S : HSim w KF F ρ H s.heap s.gens) (hl : H[l]? = some (.list xs)) (he : ρ[l]? = some e) (hk : ∀ b o, b ≠ e.a → s.heap.get? b = some o → h'.get? b = some o) (hp : h'.PlainList e.a us.toArray) (r : VRs ρ s.heap ys us) :
    Step ρ s ρ { s with heap := h', toks := tk } ∧ HSim w KF F ρ (H.set l (.list ys)) h' s.gens := by
  obtain ⟨h1, h2, vs, a, b⟩ := S.ob l e _ he hl
  have t : TK s.heap h' := .of_ext hk (list_not_imm a.isList)
  refine ⟨.same t rfl, S.upd he (fun b o hb e' => hk b o (fun q => hb (by rw [h1, q]; exact .head _)) e') (fun b hb => ?_) t ⟨h1, h2, us, hp, r.mono (List.prefix_refl _) t⟩ (hy := fun o h q => by rw [hl] at h; cases h; cases q)⟩
  rw [h1] at hb
  rw [List.mem_singleton.mp hb]
  obtain ⟨n, e⟩ := hp
  exact ⟨_, e⟩
theorem app_l {l : Nat} {xs : List V} {x : V} (hl : H[l]? = some (.list xs)) (hz : xs.length ≤ sizeLine) (h : Q .none (H.set l (.list (xs ++ [x])))) : CallW prog w KF d E H (.bi "list.append") [.ref l, x] Q := fun A F ρ s u us hA S ru r => by
  rw [ru.bi_eq]
  obtain ⟨v, q, rfl, rv, rq⟩ := r.cons_eq
  obtain ⟨v', q', rfl, rv', rq'⟩ := rq.cons_eq
  rw [rq'.nil_eq]
  obtain ⟨e, he, rfl⟩ := rv.ref_eq
  obtain ⟨h1, h2, vs, a, b⟩ := S.ob l e _ he hl
  refine app_plain a (fun h' hp hs => ?_) (by rw [List.size_toArray, b.len]; exact hz)
  obtain ⟨st, S'⟩ := S.turn (tk := s.toks) hl he (fun b o hb e => hs.extBut b o hb e) (us := vs ++ [v']) (by simpa using hp) (b.append (.cons rv' .nil))
  exact ⟨ρ, _, .none, st, S', vr_none, h⟩
theorem meth_append {l : Nat} {xs : List V} (hl : H[l]? = some (.list xs)) : MethIs prog w KF H (.ref l) "append" (.bi "list.append") := fun A F ρ s u pl K E' S r h => by
  obtain ⟨e, he, rfl⟩ := r.ref_eq
  obtain ⟨_, _, vs, ⟨n, a⟩, b⟩ := S.ob l e _ he hl
  exact Calls.getMethod_list_append a rfl rfl (h _ vr_bi)
/-- a new list on the heap -/
theorem hq_list {F : Base} {ρ : List Ent} {s : Shared} {xs : List V} {vs : List Value} {h₀ : Heap} {tk : Nat} (S : HSim w KF F ρ H s.heap s.gens) (k₀ : Keep s.heap h₀) (r : VRs ρ s.heap xs vs) (h : Q (.ref H.length) (H ++ [.list xs])) : HQ w KF VR F ρ s Q (.ref h₀.objs.size) { s with heap := h₀.push { cls := .type "list", data := .seq vs.toArray }, toks := tk } := by
  have k1 : Keep h₀ (h₀.push { cls := .type "list", data := .seq vs.toArray }) := fun _ _ e => Heap.get?_push_of_some _ e
  have hg : (h₀.push { cls := .type "list", data := .seq vs.toArray }).get? h₀.objs.size = some { cls := .type "list", data := .seq vs.toArray } := Heap.get?_push_size _ rfl
  have S₀ := S.keeps k₀
  refine ⟨_, _, .ref H.length, .add (.of_keep fun b o e => k1 b o (k₀ b o e)) rfl, S₀.alloc (o := .list xs) k1 (get_size _) ⟨_, hg⟩ ⟨rfl, rfl, vs, ⟨_, hg⟩, r.mono (List.prefix_append _ _) (.of_keep fun b o e => k1 b o (k₀ b o e))⟩, ?_, h⟩
  unfold VR
  exact ⟨_, by rw [← S.len, List.getElem?_concat_length], rfl⟩
theorem add_ll {l r : Nat} {xs ys : List V} (hl : H[l]? = some (.list xs)) (hr : H[r]? = some (.list ys)) (hz : xs.length + ys.length ≤ sizeLine) (h : Q (.ref H.length) (H ++ [.list (xs ++ ys)])) : W2 prog w KF d E VR H (binaryOp .Add) (.ref l) (.ref r) Q := fun A F ρ s u v hA S ru rv => by
  obtain ⟨e, he, rfl⟩ := ru.ref_eq; obtain ⟨e', he', rfl⟩ := rv.ref_eq
  obtain ⟨_, _, vs, ⟨n, a⟩, b⟩ := S.ob l e _ he hl
  obtain ⟨_, _, vs', ⟨n', a'⟩, b'⟩ := S.ob r e' _ he' hr
  refine P.add_list a a' ?_ (by rw [List.size_toArray, List.size_toArray, b.len, b'.len]; exact hz)
  have := hq_list (tk := s.toks) S (fun _ _ e => e) (b.append b') h
  simpa using this
end
end Mine
end
section
open PySem PySem.W PyProof.Rows PySem.W.X PySem.SeqAt
namespace Mine
section
variable (prog : Program) (w : World) (KF : Frag) (d : Nat)
/-- o[l:u:k] -/
noncomputable def SliceW (E : HEP) (H : List O) (x y z q : V) (Q : V → List O → Prop) : Prop :=
  ∀ A F ρ s u v r k, Room A d F.fr → HSim w KF F ρ H s.heap s.gens → VR ρ s.heap x u → VR ρ s.heap y v → VR ρ s.heap z r → VR ρ s.heap q k → ItemOn (model prog w) A (HE w KF F ρ s E) u (.ref s.heap.objs.size) (HQ w KF VR F ρ s Q) { s with heap := s.heap.push { cls := .type "slice", data := .fields #[v, r, k] } }
noncomputable def WEo (fi : FI) (E : EP) (m : Names) (H : List O) : Option Expr → (V → List O → Prop) → Prop
  | none, Q => Q .none H
  | some e, Q => WE prog w KF fi d E m H e Q
end
section
variable {prog : Program} {w : World} {KF : Frag} {fi : FI} {d : Nat} {E : EP} {m : Names} {H : List O}
theorem we_sub {value slice : Expr} {pos : Pos} {Q : V → List O → Prop} (h : WE prog w KF fi d E m H value fun o H₁ => WE prog w KF fi d E m H₁ slice fun i H₂ => W2 prog w KF d (Em E m) VR H₂ subOp o i Q)
    (hs : ∀ b o i, subscripted slice b o i = (match b with | true => runValue (.builtin "lifetime.subscript" ⟨[o, i], []⟩) | false => operate [o, i] (getItem o i)) := by intro b o i; cases b <;> rfl) : WE prog w KF fi d E m H (.Subscript value slice pos) Q :=
  fun A env F ρ s hA S => by
    refine Subscript_ (wpAny_mono (h A env F ρ s hA S) (fun o s₁ hx => ?_) fun _ _ x => x)
    obtain ⟨ρ₁, H₁, ov, st₁, S₁, ro, h₁⟩ := hx
    refine onto st₁ (wpAny_mono (h₁ A env F ρ₁ s₁ hA S₁) (fun i s₂ hx => ?_) fun _ _ x => x) fun _ _ x => x
    obtain ⟨ρ₂, H₂, iv, st₂, S₂, ri, h₂⟩ := hx
    have e : subscriptTail value slice o i = (do let r ← subOp o i; letTemporaryGo value o r; pure r) := by
      unfold subscriptTail subOp
      first
        | (simp only [hs, bind_assoc]; rfl)
        | simp only [hs, bind_assoc]
    rw [e]
    have st := st₁.trans st₂
    refine wpAny_bind (onto st (lift S₂ fun F' q T => h₂ A F' ρ₂ s₂ o i (q ▸ hA) T (ro.mono st₂.1 st₂.2.1) ri) fun r s₃ q => ?_)
    exact wpAny_bind (wpAny_letTemporaryGo (wpAny_pure (q.step st)))
end
section
variable {prog : Program} {w : World} {KF : Frag} {d : Nat} {E : HEP} {H : List O} {Q : V → List O → Prop}
/-- x == y gives b -/
structure EqW (A : Around) (s : Shared) (u v : Value) (b : Bool) : Prop where
  rc : RcAt A s u v b
  ne : RcNeAt A s u v (!b)
  eq : EqAt A s u v b
  same : u = v → b = true
noncomputable def EqV (w : World) (KF : Frag) (H : List O) (k : Nat) (x y : V) (b : Bool) : Prop :=
  ∀ (A : Around) (F : Base) (ρ : List Ent) (s : Shared) (u v : Value), A.units + k < cLine → HSim w KF F ρ H s.heap s.gens → VR ρ s.heap x u → VR ρ s.heap y v → EqW A s u v b
theorem eqAt_of {A : Around} {s : Shared} {u v : Value} {b : Bool} (h : RcAt A s u v b) (hf : ∀ x t, u ≠ .float x t) (hb : u = v → b = true) : EqAt A s u v b := fun prog w E Q hq => by
  unfold eqBool
  refine wpAny_holding ?_
  refine wpAny_ite_split (fun hab => ?_) (fun _ => ?_)
  · rw [hb (eq_of_beq hab)] at hq
    exact wpAny_bind (wpAny_rule (wpAny_pure hq))
  · have main : wpAny (model prog w) A (do let x ← richCompare .Eq u v; truthOfDropped x) Q E s := wpAny_bind (h prog w E _ (by
      unfold truthOfDropped
      first | exact wpAny_truthy_bool hq | exact wpAny_pure hq | exact wpAny_holding (wpAny_truthy_bool hq) | exact wpAny_bind (wpAny_truthy_bool (wpAny_pure hq))))
    cases u with
    | float x t => exact absurd rfl (hf x t)
    | _ => exact main
theorem eqv_str {k : Nat} {i j : Str} : EqV w KF H k (.str i) (.str j) (i == j) := fun A F ρ s u v hu S ru rv => by
  obtain ⟨t, rfl⟩ := ru.str_eq; obtain ⟨t', rfl⟩ := rv.str_eq
  have rc : RcAt A s (.str i t) (.str j t') (i == j) := fun prog w E Q hq => PyProof.Rows.eq_str hq
  have sm : Value.str i t = .str j t' → (i == j) = true := fun q => by cases q; exact beq_self_eq_true _
  exact ⟨rc, fun prog w E Q hq => PyProof.Rows.ne_str hq, eqAt_of rc (fun _ _ q => nomatch q) sm, sm⟩
/-- all of two lists, place by place -/
noncomputable def atB (xs ys : List V) (e : V → V → Bool) (j : Nat) : Bool := match xs[j]?, ys[j]? with | some x, some y => e x y | _, _ => true
noncomputable def allB (xs ys : List V) (e : V → V → Bool) : Bool := xs.length == ys.length && (List.range xs.length).all (atB xs ys e)
section
variable {k : Nat} {xs ys : List V} {e : V → V → Bool} {A : Around} {F : Base} {ρ : List Ent} {s : Shared} {vs us : List Value}
theorem items_eq (S : HSim w KF F ρ H s.heap s.gens) (hu : A.units + k < cLine) (p2 : VRs ρ s.heap xs vs) (q2 : VRs ρ s.heap ys us) (he : ∀ x ∈ xs, ∀ y ∈ ys, EqV w KF H k x y (e x y)) (j : Nat) (h1 : j < vs.toArray.size) (h2 : j < us.toArray.size) :
    EqAt A s vs.toArray[j] us.toArray[j] (atB xs ys e j) ∧ (vs.toArray[j] = us.toArray[j] → atB xs ys e j = true) := by
  rw [List.size_toArray] at h1 h2
  obtain ⟨x, hx, rx⟩ := p2.get' (List.getElem?_eq_getElem h1)
  obtain ⟨y, hy, ry⟩ := q2.get' (List.getElem?_eq_getElem h2)
  have z := he x (List.mem_of_getElem? hx) y (List.mem_of_getElem? hy) A F ρ s _ _ hu S rx ry
  unfold atB
  rw [hx, hy]
  exact ⟨z.eq, z.same⟩
theorem items_same (S : HSim w KF F ρ H s.heap s.gens) (hu : A.units + k < cLine) (p2 : VRs ρ s.heap xs vs) (q2 : VRs ρ s.heap ys vs) (he : ∀ x ∈ xs, ∀ y ∈ ys, EqV w KF H k x y (e x y)) : allB xs ys e = true := by
  unfold allB
  rw [← p2.len, ← q2.len, beq_self_eq_true, Bool.true_and, List.all_eq_true]
  intro j hj
  have hj' : j < vs.toArray.size := by rw [List.size_toArray]; exact List.mem_range.mp hj
  exact (items_eq S hu p2 q2 he j hj' hj').2 rfl
theorem allB_eq (p2 : VRs ρ s.heap xs vs) (hlen : xs.length = ys.length) : allB xs ys e = (List.range vs.toArray.size).all (atB xs ys e) := by
  unfold allB
  rw [List.size_toArray, p2.len, hlen, beq_self_eq_true, Bool.true_and]
theorem allB_ne (hlen : xs.length ≠ ys.length) : allB xs ys e = false := by
  unfold allB
  rw [show (xs.length == ys.length) = false by simpa using hlen, Bool.false_and]
end
theorem eqv_list {k l r : Nat} {xs ys : List V} {e : V → V → Bool} (hl : H[l]? = some (.list xs)) (hr : H[r]? = some (.list ys)) (he : ∀ x ∈ xs, ∀ y ∈ ys, EqV w KF H k x y (e x y)) : EqV w KF H (k + 1) (.ref l) (.ref r) (allB xs ys e) := fun A F ρ s u v hu S ru rv => by
  obtain ⟨a, ha, rfl⟩ := ru.ref_eq
  obtain ⟨b, hb, rfl⟩ := rv.ref_eq
  obtain ⟨f1, _, vs, p1, p2⟩ := S.ob l a _ ha hl
  obtain ⟨f2, _, us, q1, q2⟩ := S.ob r b _ hb hr
  have hu1 : A.in1.units + k < cLine := by show A.units + 1 + k < cLine; omega
  have sm : Value.ref a.a = .ref b.a → allB xs ys e = true := fun q => by
    have e1 : a.a = b.a := by injection q
    have hlr : l = r := Decidable.byContradiction fun hne => fps_apart S.nd ha hb hne (b := a.a) (by rw [f1]; exact .head _) (by rw [f2, e1]; exact .head _)
    subst hlr
    rw [hl] at hr
    cases hr
    rw [ha] at hb
    cases hb
    exact items_same (A := A.in1) S hu1 p2 p2 he
  have rc : RcAt A s (.ref a.a) (.ref b.a) (allB xs ys e) ∧ RcNeAt A s (.ref a.a) (.ref b.a) (!allB xs ys e) := by
    by_cases hlen : xs.length = ys.length
    · have h1 : vs.toArray.size = us.toArray.size := by rw [List.size_toArray, List.size_toArray, p2.len, q2.len, hlen]
      rw [allB_eq (s := s) p2 hlen]
      exact ⟨RcAt.lists p1.isList q1.isList h1 (by omega) fun j h1 h2 => (items_eq (A := A.in1) S hu1 p2 q2 he j h1 h2).1, RcNeAt.lists p1.isList q1.isList h1 (by omega) fun j h1 h2 => (items_eq (A := A.in1) S hu1 p2 q2 he j h1 h2).1⟩
    · rw [allB_ne hlen]
      have hs : (vs.toArray.size != us.toArray.size) = true := by rw [List.size_toArray, List.size_toArray, p2.len, q2.len]; simpa using hlen
      exact ⟨RcAt.lists_lengths p1.isList q1.isList hs (by omega), RcNeAt.lists_lengths p1.isList q1.isList hs (by omega)⟩
  exact ⟨rc.1, rc.2, eqAt_of rc.1 (fun _ _ q => nomatch q) sm, sm⟩
theorem eq_of_eqv {k : Nat} {x y : V} {b : Bool} (hk : k ≤ 150) (h : EqV w KF H k x y b) (hq : Q (.bool b) H) : W2 prog w KF d E VR H (compareOp .Eq) x y Q := fun A F ρ s u v hA S ru rv => by
  have := hA.un
  exact (h A F ρ s u v (by omega) S ru rv).rc prog w _ _ (hq_refl S vr_bool hq)
theorem ne_of_eqv {k : Nat} {x y : V} {b : Bool} (hk : k ≤ 150) (h : EqV w KF H k x y b) (hq : Q (.bool (!b)) H) : W2 prog w KF d E VR H (compareOp .NotEq) x y Q := fun A F ρ s u v hA S ru rv => by
  have := hA.un
  exact (h A F ρ s u v (by omega) S ru rv).ne prog w _ _ (hq_refl S vr_bool hq)
/-- lists of texts, lists of ints -/
noncomputable def eqS : V → V → Bool
  | .str x, .str y => x == y
  | .int x, .int y => x == y
  | _, _ => false
theorem allB_map {α : Type} [DecidableEq α] (f : α → V) (hf : ∀ x y, eqS (f x) (f y) = decide (x = y)) : ∀ (xs ys : List α), allB (xs.map f) (ys.map f) eqS = decide (xs = ys) := by
  intro xs ys
  unfold allB
  rw [List.length_map, List.length_map, Bool.eq_iff_iff]
  simp only [Bool.and_eq_true, beq_iff_eq, List.all_eq_true, List.mem_range, decide_eq_true_eq]
  constructor
  · rintro ⟨h1, h2⟩
    refine List.ext_getElem h1 fun i hi hi' => ?_
    have := h2 i hi
    unfold atB at this
    rw [List.getElem?_map, List.getElem?_map, List.getElem?_eq_getElem hi, List.getElem?_eq_getElem hi'] at this
    simpa [hf] using this
  · rintro rfl
    refine ⟨rfl, fun i hi => ?_⟩
    unfold atB
    rw [List.getElem?_map, List.getElem?_eq_getElem hi]
    simp [hf]
theorem eqv_strs {l r : Nat} {xs ys : List Str} (hl : H[l]? = some (.list (xs.map .str))) (hr : H[r]? = some (.list (ys.map .str))) : EqV w KF H 1 (.ref l) (.ref r) (decide (xs = ys)) := by
  rw [← allB_map V.str (fun x y => by show (x == y) = _; rw [Bool.eq_iff_iff]; simp)]
  refine eqv_list (k := 0) hl hr fun x hx y hy => ?_
  obtain ⟨a, _, rfl⟩ := List.mem_map.mp hx
  obtain ⟨b, _, rfl⟩ := List.mem_map.mp hy
  exact eqv_str
end
end Mine
end
section
open PySem PySem.W PyProof.Rows PySem.W.X PySem.SeqAt
namespace Mine
section
variable {prog : Program} {w : World} {KF : Frag} {d : Nat} {E : HEP} {H : List O} {Q : V → List O → Prop}
theorem Chg.trans {fp : List Nat} {s s₁ s₂ : Shared} (a : Chg fp s s₁) (b : Chg fp s₁ s₂) : Chg fp s s₂ := ⟨b.1.trans a.1, b.2.1.trans a.2.1, a.2.2.1.trans b.2.2.1, fun x o hx e => b.2.2.2 x o hx (a.2.2.2 x o hx e)⟩
theorem draw_iter {I : Nat} {fp : List Nat} {xs : List V} {G : List O → Prop} {St : Nat → List Ent → Heap → Prop} (IT : Iter prog w KF I fp xs G St) {A : Around} (hh : A.handled = none) {F : Base} {ρ : List Ent} (hG : G H) (hf : ∀ b ∈ fp, F.f b = none ∧ b ∉ fps ρ) {E' : Value → Shared → Prop} :
    ∀ (n i : Nat) (s : Shared), i + n = xs.length → HSim w KF F ρ H s.heap s.gens → St i ρ s.heap →
      wpAny (model prog w) A (draw (.ref I) n) (fun us s' => VRs ρ s'.heap (xs.drop i) us ∧ St xs.length ρ s'.heap ∧ Chg fp s s') E' s
  | 0, i, s, hn, S, st => by
    have : xs.drop i = [] := List.drop_of_length_le (by omega)
    rw [this]
    exact wpAny_pure ⟨.nil, by rw [← hn]; exact st, .refl⟩
  | n + 1, i, s, hn, S, st => by
    have hi : i < xs.length := by omega
    unfold draw
    refine wpAny_bind (wpAny_mono (IT.item A F ρ H s i xs[i] E' hh S hG st (List.getElem?_eq_getElem hi)) (fun r s₁ ⟨v, e, rv, st₁, c₁⟩ => ?_) fun _ _ x => x)
    subst e
    have S₁ := S.chg hf c₁
    refine wpAny_bind (wpAny_holding (wpAny_mono (draw_iter IT hh hG hf n (i + 1) s₁ (by omega) S₁ st₁) (fun us s₂ ⟨ru, st₂, c₂⟩ => ?_) fun _ _ x => x))
    rw [List.drop_eq_getElem_cons hi]
    exact wpAny_pure ⟨.cons (rv.mono (List.prefix_refl _) c₂.2.2.1) ru, st₂, c₁.trans c₂⟩
/-- has the value an __iter__ -/
noncomputable def HasIter (w : World) (KF : Frag) (H : List O) (v : V) : Prop := ∀ F ρ (s : Shared) u, HSim w KF F ρ H s.heap s.gens → VR ρ s.heap v u → ∃ T r, s.TypeIs u T ∧ typeLookup (.type T) "__iter__" = pure (some r)
theorem unpack_iter {v : V} {xs : List V} {G : List O → Prop} {Q : List V → List O → Prop} (hI : IterW prog w KF d E H v xs G) (hG : G H) (hi : HasIter w KF H v) (h : Q xs H) : W1 prog w KF d E VRs H (fun u => unpackItems u xs.length none) v Q := fun A F ρ s u hA S ru => by
  obtain ⟨T, r, hT, hl⟩ := hi F ρ s u S ru
  unfold unpackItems
  refine wpAny_bind ?_
  unfold notIterableAtAll
  refine wpAny_bind (wpAny_specialOf hT hl (wpAny_pure ?_))
  simp only [Bool.false_eq_true, if_false]
  refine wpAny_bind (wpAny_holding (wpAny_mono (hI A F ρ s u hA S ru) (fun it s₁ hx => ?_) fun _ _ x => x))
  obtain ⟨I, fp, St, e, IT, hSt, hk, hg, ho, hf⟩ := hx
  subst e
  have S₁ : HSim w KF F ρ H s₁.heap s₁.gens := by rw [hg]; exact S.keeps hk
  have hfp : ∀ b ∈ fp, F.f b = none ∧ b ∉ fps ρ := fun b hb => by
    refine ⟨?_, fun q => ?_⟩
    · cases q : F.f b with
      | none => rfl
      | some o => obtain ⟨o', e', _⟩ := S.keep _ _ q; rw [hf b hb] at e'; cases e'
    · obtain ⟨o, hx⟩ := S.live b q; rw [hf b hb] at hx; cases hx
  refine wpAny_bind (wpAny_holding (wpAny_mono (draw_iter IT hA.hd hG hfp xs.length 0 s₁ (by omega) S₁ hSt) (fun us s₂ ⟨rus, st₂, c₂⟩ => ?_) fun _ _ x => x))
  rw [List.drop_zero] at rus
  have S₂ := S₁.chg hfp c₂
  rw [if_neg (by rw [rus.len]; omega)]
  refine wpAny_bind (wpAny_holding (wpAny_mono (IT.done A F ρ H s₂ _ hA.hd S₂ hG st₂) (fun r s₃ ⟨e, c₃⟩ => ?_) fun _ _ x => x))
  subst e
  simp only [Option.isSome_none, Bool.false_eq_true, if_false]
  refine wpAny_pure ⟨ρ, H, xs, ((Step.same (.of_keep hk) ho (by rw [hg]; exact Nat.le_refl _)).trans c₂.step).trans c₃.step, S₂.chg hfp c₃, rus.mono (List.prefix_refl _) c₃.2.2.1, h⟩
theorem hi_tup {xs : List V} : HasIter w KF H (.tup xs) := fun F ρ s u S r => by
  obtain ⟨a, vs, rfl, ht, _⟩ := r.tup_eq
  exact ⟨"tuple", _, ht.typeIs, PySem.F.slot_tuple_iter.lookup⟩
theorem unp_tup {n : Nat} {xs : List V} {Q : List V → List O → Prop} (hn : n = xs.length) (h : Q xs H) : W1 prog w KF d E VRs H (fun u => unpackItems u n none) (.tup xs) Q := by
  subst hn; exact unpack_iter iw_tup trivial hi_tup h
end
end Mine
end
section
open PySem PySem.W PyProof.Rows PySem.W.X PySem.SeqAt
namespace Mine
section
variable {prog : Program} {w : World} {KF : Frag} {fi : FI} {d : Nat} {E : EP} {m : Names} {H : List O}
/-- a comprehension that leaves the heap alone -/
theorem comp_pure {elt target : Expr} {ifs : List Expr} {sc' : Scope} {v : V} {Q : List V → List O → Prop} {xs : List V} {G : List O → Prop} (b : V → Bool) (f : V → V) (hI : IterW prog w KF d (Em E m) H v xs G) (hG : G H) (hsz : xs.length ≤ sizeLine)
    (h : ∀ x ∈ xs, WA prog w KF (ci sc' fi) d E (locN sc' ++ m) H target x fun m₂ H₂ => H₂ = H ∧ WTs prog w KF (ci sc' fi) d E m₂ H ifs fun r H₃ => H₃ = H ∧ r = b x ∧ (b x = true → WE prog w KF (ci sc' fi) d E m₂ H elt fun y H₄ => H₄ = H ∧ y = f x))
    (hQ : Q ((xs.filter b).map f) H) : CompW prog w KF fi d E m H elt target ifs sc' v Q := by
  refine ⟨xs, G, hI, hsz, fun i ys H' => H' = H ∧ ys = ((xs.take i).filter b).map f, ⟨rfl, by simp⟩, ?_, ?_, ?_⟩
  · rintro i ys H' ⟨rfl, rfl⟩
    refine ⟨hG, ?_⟩
    rw [List.length_map]
    exact Nat.le_trans (List.length_filter_le _ _) (by rw [List.length_take]; exact Nat.min_le_left _ _)
  · rintro i x ys H' hx ⟨rfl, rfl⟩
    have hx' := h x (List.mem_of_getElem? hx)
    have e : (xs.take (i + 1)).filter b = (xs.take i).filter b ++ (if b x = true then [x] else []) := by
      rw [List.take_add_one, hx, List.filter_append]
      cases q : b x <;> simp [q]
    refine fun A env F ρ s u hA S r => wpAny_mono (hx' A env F ρ s u hA S r) (fun _ s' ⟨ρ', H₂, m', st, S', e2, h2⟩ => ⟨ρ', H₂, m', st, S', ?_⟩) fun _ _ z => z
    subst e2
    have fin : ∀ (r : Bool) H₃, (H₃ = H₂ ∧ r = b x ∧ (b x = true → WE prog w KF (ci sc' fi) d E m' H₂ elt fun y H₄ => H₄ = H₂ ∧ y = f x)) →
        (if r = true then WE prog w KF (ci sc' fi) d E m' H₃ elt fun y H₄ => H₄ = H₂ ∧ List.map f ((xs.take i).filter b) ++ [y] = ((xs.take (i + 1)).filter b).map f else H₃ = H₂ ∧ ((xs.take i).filter b).map f = ((xs.take (i + 1)).filter b).map f) := by
      rintro r H₃ ⟨rfl, rfl, hw⟩
      cases q : b x with
      | true =>
        refine (hw q).mono fun y H₄ ⟨e3, e4⟩ => ⟨e3, ?_⟩
        rw [e, if_pos q, e4]
        simp
      | false => exact ⟨rfl, by rw [e, if_neg (by rw [q]; decide), List.append_nil]⟩
    match ifs, h2 with
    | [], h2 => exact fin true _ h2
    | [c], h2 => exact fun A env F ρ s hA S => wpAny_mono (h2 A env F ρ s hA S) (fun r s' ⟨ρ', H₃, bb, st, S', rb, hq⟩ => ⟨ρ', H₃, bb, st, S', rb, fin bb H₃ hq⟩) fun _ _ z => z
    | _ :: _ :: _, h2 => exact h2
  · rintro ys H' ⟨rfl, rfl⟩
    rw [List.take_length]
    exact hQ
/-- the text of these signs -/
noncomputable def S (l : List Nat) : Str := ⟨l.toArray⟩
end
section
variable {prog : Program} {w : World} {KF : Frag} {d : Nat} {E : HEP} {H : List O} {Q : V → List O → Prop}
end
end Mine
end
section
open PySem PySem.W PyProof.Rows PySem.W.X
namespace Mine
/-- an iterator over a text -/
noncomputable def StrIt (h : Heap) (I : Nat) (x : Str) (t : Tok) (i : Nat) : Prop := h.IsStrIter I "str_ascii_iterator" x t i ∨ h.IsStrIter I "str_iterator" x t i
section
variable {prog : Program} {w : World} {A : Around} {E : Value → Shared → Prop} {s : Shared}
end
end Mine
end
section
open PySem PySem.W PyProof.Rows PySem.W.X PySem.SeqAt
namespace Mine
section
variable {prog : Program} {w : World} {KF : Frag} {A : Around} {E : Value → Shared → Prop} {s : Shared}
theorem HSim.gens {F : Base} {ρ : List Ent} {H : List O} {h : Heap} {gs gs' : Array GenState} (S : HSim w KF F ρ H h gs) (hb : ∀ (k : Nat) (z : GenState), gs'[k]? = some z → z.bare = true ∨ gs[k]? = some z) (hp : ∀ e ∈ ρ, e.fp ≠ [] → ∀ x z, e.g = some x → gs[x.1]? = some z → gs'[x.1]? = some z) (hz : gs.size ≤ gs'.size) : HSim w KF F ρ H h gs' := ⟨S.bs, S.keep, S.len, S.ob, S.live, S.nd, S.off, S.gn, (fun k z hz => (hb k z hz).elim .inl fun q => S.bare k z q), fun i e o hi ho => by
  have := S.gf i e o hi ho
  cases o with
  | fresh fi body m => obtain ⟨g, env, h1, h2⟩ := this; obtain ⟨_, _, _, hf, _⟩ := S.ob i e _ hi ho; exact ⟨g, env, h1, hp e (List.mem_of_getElem? hi) (by rw [hf]; exact List.cons_ne_nil _ _) _ _ h1 h2⟩
  | gone => exact fun x hx => Nat.lt_of_lt_of_le (this x hx) hz
  | done => obtain ⟨g, env, h1, h2⟩ := this; obtain ⟨_, _, _, _, hf, _⟩ := S.ob i e _ hi ho; exact ⟨g, env, h1, hp e (List.mem_of_getElem? hi) (by rw [hf]; exact List.cons_ne_nil _ _) _ _ h1 h2⟩
  | slp a fi m rest k y n => obtain ⟨g, env, z, h1, h2, h4⟩ := this; obtain ⟨_, _, _, _, hf, _⟩ := S.ob i e _ hi ho; exact ⟨g, env, z, h1, hp e (List.mem_of_getElem? hi) (by rw [hf]; exact List.cons_ne_nil _ _) _ _ h1 h2, h4⟩
  | _ => trivial, S.fo⟩
end
end Mine
end
section
open PySem PySem.W PyProof.Rows PySem.W.X PySem.SeqAt
namespace Mine
noncomputable abbrev noE : EP := fun _ _ _ => False
section
variable {prog : Program} {w : World} {KF : Frag} {fi : FI} {d : Nat} {E : EP} {m : Names} {H : List O}
end
end Mine
end
section
open PySem PySem.W PyProof.Rows PySem.W.X PySem.SeqAt
namespace Mine
/-- a sign kept: c where the tag is a blank and c is white, else the tag -/
noncomputable def kept (c d : Nat) : Str := if ((⟨#[d]⟩ : Str) == " ") = true then (if Txt.isspace ⟨#[c]⟩ = true then ⟨#[c]⟩ else ⟨#[d]⟩) else ⟨#[d]⟩
section
variable {prog : Program} {w : World}
end
end Mine
end
section
open PySem PySem.W PyProof.Rows PySem.W.X PySem.SeqAt
namespace Mine
noncomputable abbrev listO (acc : Array Value) (c : Nat) : Obj := { cls := .type "list", dict := none, data := .seq acc c, slots := #[] }
theorem Sim.gens {w : World} {KF : Frag} {fi : FI} {env : Env} {m : Names} {F : Base} {ρ : List Ent} {H : List O} {h : Heap} {gs gs' : Array GenState} (S : Sim w KF fi env m F ρ H h gs) (hb : ∀ (k : Nat) (z : GenState), gs'[k]? = some z → z.bare = true ∨ gs[k]? = some z) (hp : ∀ e ∈ ρ, e.fp ≠ [] → ∀ x z, e.g = some x → gs[x.1]? = some z → gs'[x.1]? = some z) (hz : gs.size ≤ gs'.size) : Sim w KF fi env m F ρ H h gs' :=
  ⟨S.hs.gens hb hp hz, S.es, S.eg, S.eb, S.ec, S.ek, S.ef, S.lo, S.ns, S.cl, S.ce, S.cn, S.cu, S.cd, S.cf⟩
section
variable {X : GX} {m m' : Names} {H H' : List O} {ρ ρ' : List Ent} {s s' s'' : Shared}
end
section
variable (prog : Program) (X : GX) (xs : List Str) (Qe : List O → Prop) (A : Around) (c : Code) (d : Nat)
end
section
variable {prog : Program} {X : GX} {xs : List Str} {Qe : List O → Prop} {A : Around} {c : Code} {d n : Nat} {m : Names} {H : List O} {K : Flow → Sem Fin} {Hd : Value → Sem Fin}
end
theorem frOf_pos {env : Env} {F : Base} (he : env.frame = some env.locals) : frOf env F = env :: F.fr := if_pos he
section
variable {prog : Program} {w : World} {KF : Frag} {fi : FI} {d : Nat} {E : EP} {m : Names} {H : List O}
theorem strs_rel {ρ : List Ent} {h : Heap} : ∀ {xs : List Str} {vs : List Value}, vs.length = xs.length → (∀ (j : Nat) (v : Value), vs[j]? = some v → ∃ x t, xs[j]? = some x ∧ v = Value.str x t) → VRs ρ h (xs.map V.str) vs
  | [], vs, hl, _ => by rw [List.length_eq_zero_iff.mp hl]; exact .nil
  | x :: xs, [], hl, _ => by simp at hl
  | x :: xs, v :: vs, hl, h => by
    obtain ⟨y, t, e, hv⟩ := h 0 v rfl
    cases e
    refine .cons (by rw [hv]; unfold VR; exact ⟨_, rfl⟩) (strs_rel (by simpa using hl) fun j u hj => ?_)
    simpa using h (j + 1) u (by simpa using hj)
end
end Mine
end
section
open PySem PySem.W PyProof.Rows PySem.W.X PySem.SeqAt
namespace Mine
section
variable (prog : Program) (w : World) (KF : Frag) (fi : FI) (d : Nat) (E : EP)
/-- the parts of a formatted text, one behind the other -/
noncomputable def WJ (m : Names) (H : List O) (out : Str) : List Expr → (V → List O → Prop) → Prop
  | [], Q => out.length ≤ sizeLine ∧ Q (.str out) H
  | e :: es, Q => WE prog w KF fi d E m H e fun v H₁ => ∃ y, v = .str y ∧ (out ++ y).length ≤ sizeLine ∧ WJ m H₁ (out ++ y) es Q
end
section
variable {prog : Program} {w : World} {KF : Frag} {fi : FI} {d : Nat} {E : EP} {m : Names} {H : List O}
theorem wj_run {es : List Expr} {Q : V → List O → Prop} : ∀ {H : List O} {out : Str}, WJ prog w KF fi d E m H out es Q → ∀ A env F ρ s, Room A d (frOf env F) → Sim w KF fi env m F ρ H s.heap s.gens →
    wpAny (model prog w) A (joinParts out (evalEach es env)) (SQ w KF VR fi env m F ρ s Q) (SE w KF fi env F ρ s E) s := by
  induction es with
  | nil => exact fun h A env F ρ s hA S => joinParts_nilE (joinParts_nil ⟨ρ, _, .str _, .same (.refl _) rfl, S, by unfold VR; exact ⟨_, rfl⟩, h.2⟩ h.1)
  | cons e es ih =>
    intro H out h A env F ρ s hA S
    refine joinParts_consE (joinParts_cons (wpAny_mono ((show WE prog w KF fi d E m H e _ from h) A env F ρ s hA S) (fun u s₁ hx => ?_) fun _ _ x => x))
    obtain ⟨ρ₁, H₁, v, st₁, S₁, r, y, e, hy, h₁⟩ := hx
    subst e
    obtain ⟨t, rfl⟩ := r.str_eq
    exact ⟨hy, wpAny_mono (ih h₁ A env F ρ₁ s₁ hA S₁) (fun v s₂ ⟨ρ₂, H₂, b, st₂, S₂, rb, h₂⟩ => ⟨ρ₂, H₂, b, st₁.trans st₂, S₂, rb, h₂⟩) fun _ _ x => x.step st₁⟩
theorem we_joined {v₁ v₂ : Expr} {rest : List Expr} {pos : Pos} {Q : V → List O → Prop} (h : WJ prog w KF fi d E m H Str.empty (v₁ :: v₂ :: rest) Q) : WE prog w KF fi d E m H (.JoinedStr (v₁ :: v₂ :: rest) pos) Q :=
  fun A env F ρ s hA S => JoinedStr_many (wj_run h A env F ρ s hA S)
theorem wj_nil {out : Str} {Q : V → List O → Prop} (hz : out.length ≤ sizeLine) (h : Q (.str out) H) : WJ prog w KF fi d E m H out [] Q := ⟨hz, h⟩
theorem wj_cons {e : Expr} {es : List Expr} {out : Str} {Q : V → List O → Prop} (h : WE prog w KF fi d E m H e fun v H₁ => ∃ y, v = .str y ∧ (out ++ y).length ≤ sizeLine ∧ WJ prog w KF fi d E m H₁ (out ++ y) es Q) : WJ prog w KF fi d E m H out (e :: es) Q := h
end
end Mine
end
section
open PySem PySem.W PyProof.Rows PySem.W.X PySem.SeqAt
namespace Mine
theorem ns_some_of {K : Frag} {h : Heap} {N : Nat} {mg : Str → Option Value} {n : Str} {v : Value} (X : K.In h) (G : h.Ns N mg) (e : nsIn K N n = some (some v)) : mg n = some v := by
  obtain ⟨o, es, ep, ho, hd, _, hf⟩ := G
  unfold nsIn at e
  split at e
  · rename_i c d es' n' sl q
    have := X _ _ q
    rw [ho] at this
    cases this
    cases hd
    split at e
    · rename_i en he
      cases e
      rw [← hf]
      unfold nsFind findBy
      rw [← Array.find?_toList, he]
      rfl
    · rename_i he
      split at e <;> cases e
  · cases e
/-- a class of the text's, without bases -/
structure ClsOk (KF : Frag) (C N : Nat) : Prop where
  cl : ∃ nm q bs sn sub col dd k0 k1 k2 k3 k5, KF.lookup C = some (excClassObj nm q C N bs [.type "object"] true sn sub false col dd k0 k1 k2 k3 k5 "object.__new__")
  ns : nsOkIn KF N = true
  ga : nsIn KF N "__getattribute__" = some none
  gh : nsIn KF N "__getattr__" = some none
  sa : nsIn KF N "__setattr__" = some none
section
variable {prog : Program} {w : World} {KF : Frag} {d : Nat} {E : HEP} {H : List O}
theorem ClsOk.nsp {C N : Nat} (K : ClsOk KF C N) {h : Heap} (B : Bs w KF h) : ∃ mN, h.Ns N mN := ⟨_, .of_isNs (isNs_of_in B.k K.ns)⟩
theorem Room.cls {A : Around} {C : Nat} {rest : List Value} {l : List Env} (h : Room A (d + 1) l) : Room (A.under (.builtin "type.__call__" ⟨.ref C :: rest, []⟩)) d l := by
  have hw : (Code.builtin "type.__call__" ⟨.ref C :: rest, []⟩).weight ≤ 4 := by
    unfold Code.weight
    have h1 : (Code.builtin "type.__call__" ⟨.ref C :: rest, []⟩).frames = 0 := by rfl
    have h2 : (Code.builtin "type.__call__" ⟨.ref C :: rest, []⟩).isCaller = false := by rfl
    rw [h1, h2]
    split <;> split <;> simp
  have hu : (Code.builtin "type.__call__" ⟨.ref C :: rest, []⟩).cUnits ≤ 40 := by
    have h1 : (Code.builtin "type.__call__" ⟨.ref C :: rest, []⟩).cUnits = 1 := by rfl
    rw [h1]; decide
  refine ⟨h.fr, h.hd, ?_, ?_⟩
  · have := h.dp; show A.depth + (Code.builtin "type.__call__" ⟨.ref C :: rest, []⟩).weight + 4 * d < _; omega
  · have := h.un; show A.units + (Code.builtin "type.__call__" ⟨.ref C :: rest, []⟩).cUnits + 40 * d + 200 < _; omega
/-- a new instance -/
theorem new_inst {C N fI : Nat} {oI : Obj} {xs : List V} {Q : V → List O → Prop} (K : ClsOk KF C N) (hi : nsIn KF N "__init__" = some (some (.ref fI))) (hfI : KF.lookup fI = some oI) (hfc : oI.cls = .type "function")
    (h : CallW prog w KF d E (H ++ [.inst C []]) (.st fI) (.ref H.length :: xs) fun v H' => v = .none ∧ Q (.ref H.length) H') : CallW prog w KF (d + 1) E H (.st C) xs Q :=
  fun A F ρ s u us hA S ru r => by
    unfold VR at ru
    subst ru
    obtain ⟨hp, g, dr, tk, os⟩ := s
    have B : Bs w KF hp := S.b
    obtain ⟨mN, hn⟩ := K.nsp B
    obtain ⟨nm, q, bs, sn, sub, col, dd, k0, k1, k2, k3, k5, hC⟩ := K.cl
    refine wpAny_call_obj_init PySem.F.objNew (B.k _ _ hC) hn (ns_some_of B.k hn hi) (B.k _ _ hfI) hfc fun h' x dx M => ?_
    obtain ⟨o, hx, hc, hnc, hdn⟩ := M.inst
    have hod := M.dict o hx
    obtain ⟨mA, hdx, hns, hmA⟩ : ∃ mA, dx ≠ x ∧ h'.Ns1 dx mA ∧ ∀ n, mA n = none := by
      rcases hdn with ⟨e, _⟩ | ⟨d', e, hne, hn'⟩
      · rw [hod] at e; cases e
      · rw [hod] at e; cases e; exact ⟨_, hne, hn', fun _ => rfl⟩
    have d1 := S.dead M.newX
    have d2 := S.dead M.newD
    have T := (S.keeps M.keeps).adopt (a := x) (r := [dx]) (o := .inst C []) (by simp [Ne.symm hdx]) (fun b hb => by
      rcases List.mem_cons.mp hb with e | hb
      · rw [e]; exact ⟨d1.1, d1.2, o, hx⟩
      · rw [List.mem_singleton.mp hb]
        obtain ⟨od, _, _, hd, _⟩ := hns
        exact ⟨d2.1, d2.2, od, hd⟩) ⟨rfl, dx, rfl, o, mA, hx, hc, hnc, hod, hns, fun n => hmA n⟩
    have p : ρ <+: ρ ++ [⟨x, [x, dx], none⟩] := List.prefix_append _ _
    refine wpAny_mono (h _ F _ ⟨h', g, dr, tk, os⟩ (.ref fI) (.ref x :: us) hA.cls T (by unfold VR; rfl) (.cons (by unfold VR; exact ⟨_, by rw [← S.len, List.getElem?_concat_length], rfl⟩) (r.mono p (.of_keep M.keeps)))) (fun v s' ⟨ρ', H', b, st, T', rv, hb, hq⟩ => ?_) (fun _ _ ⟨_, _, _, _, _, x, _⟩ => x.elim)
    subst hb
    unfold VR at rv
    refine ⟨rv, ρ', H', _, Step.trans (s₁ := ⟨h', g, dr, tk, os⟩) (Step.add (.of_keep M.keeps) rfl) st, T', ?_, hq⟩
    unfold VR
    exact ⟨_, pre_get st.1 (by rw [← S.len, List.getElem?_concat_length]), rfl⟩
theorem fp_nodup : ∀ {ρ : List Ent} {e : Ent}, (fps ρ).Nodup → e ∈ ρ → e.fp.Nodup
  | [], _, _, h => nomatch h
  | x :: ρ, e, nd, h => by
    have nd' : (x.fp ++ fps ρ).Nodup := nd
    obtain ⟨n1, n2, _⟩ := List.nodup_append.mp nd'
    rcases List.mem_cons.mp h with rfl | h
    · exact n1
    · exact fp_nodup n2 h
theorem inst_at {F : Base} {ρ : List Ent} {h : Heap} {gs : Array GenState} {i C : Nat} {fs : List (Str × V)} {e : Ent} (S : HSim w KF F ρ H h gs) (hl : H[i]? = some (.inst C fs)) (he : ρ[i]? = some e) :
    ∃ dx o mA, e.fp = [e.a, dx] ∧ h.get? e.a = some o ∧ o.dict = some dx ∧ dx ≠ e.a ∧ h.Inst e.a C mA ∧ h.Ns1 dx mA ∧ FsR ρ h fs mA := by
  obtain ⟨g, dx, hf, o, mA, h1, h2, h3, h4, h5, h6⟩ := S.ob i e _ he hl
  have hne : dx ≠ e.a := fun q => by
    have nd := S.nd
    have : e.fp.Nodup := fp_nodup nd (List.mem_of_getElem? he)
    rw [hf, q] at this
    simp at this
  exact ⟨dx, o, mA, hf, h1, h4, hne, ⟨o, h1, h2, h3, .inr ⟨dx, h4, hne, h5⟩⟩, h5, h6⟩
theorem meth_inst {C N i f : Nat} {fs : List (Str × V)} {name : Str} {of : Obj} {y : Option Value} (K : ClsOk KF C N) (hf : nsIn KF N name = some (some (.ref f))) (hfo : KF.lookup f = some of) (hfc : of.cls = .type "function") (hB : typeLookup (.type "object") name = pure y)
    (hl : H[i]? = some (.inst C fs)) (hsh : fs.lookup name = none) : MethIs prog w KF H (.ref i) name (.st f) := fun A F ρ s u pl Q E' S r h => by
  obtain ⟨e, he, rfl⟩ := r.ref_eq
  obtain ⟨dx, o, mA, hfp, h1, h2, h3, I, hns, hfs⟩ := inst_at S hl he
  obtain ⟨hp, g, dr, tk, os⟩ := s
  have B : Bs w KF hp := S.b
  obtain ⟨mN, hn⟩ := K.nsp B
  obtain ⟨nm, q, bs, sn, sub, col, dd, k0, k1, k2, k3, k5, hC⟩ := K.cl
  refine method_of (B.k _ _ hC) hn (ns_none_of B.k hn K.ga) (ns_none_of B.k hn K.gh) (ns_some_of B.k hn hf) (B.k _ _ hfo) hfc hB I ?_ (h _ (by unfold VR; rfl))
  have := hfs name
  rw [hsh] at this
  exact this
theorem set_inst {C N i : Nat} {fs : List (Str × V)} {name : Str} {v : V} {Q : Unit → List O → Prop} (K : ClsOk KF C N) (hna : nsIn KF N name = some none) (hB : typeLookup (.type "object") name = pure none) (hl : H[i]? = some (.inst C fs)) (hsz : fs.length ≤ sizeLine)
    (h : Q () (H.set i (.inst C ((name, v) :: fs)))) : W2 prog w KF d E UnR H (fun u v => setAttr u name v) (.ref i) v Q := fun A F ρ s u x hA S ru rv => by
  obtain ⟨e, he, rfl⟩ := ru.ref_eq
  obtain ⟨dx, o, mA, hfp, h1, h2, h3, I, hns, hfs⟩ := inst_at S hl he
  obtain ⟨hp, g, dr, tk, os⟩ := s
  have B : Bs w KF hp := S.b
  obtain ⟨mN, hn⟩ := K.nsp B
  obtain ⟨nm, q, bs, sn, sub, col, dd, k0, k1, k2, k3, k5, hC⟩ := K.cl
  have hxC : e.a ≠ C := fun q => by
    obtain ⟨o', ho', _, hnc, _⟩ := I
    rw [q] at ho'
    have := B.k _ _ hC
    rw [this] at ho'
    cases ho'
    exact hnc _ rfl
  have hw : PySem.Within mA (fs.map (·.1)) := fun y hy => by
    have := hfs y
    split at this
    · rename_i z hz
      exact List.mem_map.mpr ⟨_, mem_of_lookup hz, rfl⟩
    · exact absurd this hy
  refine store_attr PySem.F.store_object (B.k _ _ hC) hn (ns_none_of B.k hn K.sa) (ns_none_of B.k hn hna) hB hxC I (fun h' tk' I' hk hsame => ?_) hw (by simpa using hsz)
  obtain ⟨o₁, ho₁, c1, c2, c3, c4⟩ := hsame o h1
  have eo : o₁ = o := by
    have c4 := c4 dx h2
    cases o₁; cases o
    simp_all
  subst eo
  obtain ⟨o', ho', hc', hnc', hd'⟩ := I'
  rw [ho₁] at ho'
  cases ho'
  obtain ⟨hdx', hns'⟩ : dx ≠ e.a ∧ h'.Ns1 dx (fun y => if y = name then some x else mA y) := by
    rcases hd' with ⟨q, _⟩ | ⟨d', q, hne, hn'⟩
    · rw [h2] at q; cases q
    · rw [h2] at q; cases q; exact ⟨hne, hn'⟩
  have keep : ∀ b o, b ≠ dx → hp.get? b = some o → h'.get? b = some o := fun b ob hb eb => by
    by_cases q : b = e.a
    · subst q; rw [h1] at eb; cases eb; exact ho₁
    · exact hk b ob q (fun o₀ d₀ g1 g2 => by rw [h1] at g1; cases g1; rw [h2] at g2; cases g2; exact hb) eb
  have tk : TK hp h' := .of_ext keep (ns_not_imm hns.ns)
  have T := S.upd (o' := .inst C ((name, v) :: fs)) he (h' := h') (fun b ob hb eb => keep b ob (fun q => hb (by rw [hfp, q]; exact .tail _ (.head _))) eb) (fun b hb => by
    rw [hfp] at hb
    rcases List.mem_cons.mp hb with q | hb
    · rw [q]; exact ⟨_, ho₁⟩
    · rw [List.mem_singleton.mp hb]
      obtain ⟨od, _, _, hd, _⟩ := hns'
      exact ⟨od, hd⟩) tk ⟨(S.ob i e _ he hl).1, dx, hfp, o₁, _, ho₁, hc', hnc', h2, hns', fun n => by
    rw [List.lookup_cons]
    by_cases q : n = name
    · rw [q, beq_self_eq_true]
      exact ⟨x, if_pos rfl, rv.mono (List.prefix_refl _) tk⟩
    · rw [show (n == name) = false by simpa using q]
      have := hfs.mono (List.prefix_refl _) tk n
      show match fs.lookup n with | some v => ∃ u, (if n = name then some x else mA n) = some u ∧ VR ρ h' v u | none => (if n = name then some x else mA n) = none
      rw [if_neg q]
      exact this⟩ (hy := fun o h q => by rw [hl] at h; cases h; cases q)
  exact ⟨ρ, _, (), .same tk rfl, T, trivial, h⟩
end
end Mine
end
section
open PySem PySem.W PyProof.Rows PySem.W.X PySem.SeqAt
namespace Mine
section
variable {prog : Program} {w : World} {KF : Frag} {d : Nat} {E : HEP} {H : List O} {Q : V → List O → Prop}
-- membership
section
variable {k : Nat} {xs ys : List V} {e : V → V → Bool} {A : Around} {F : Base} {ρ : List Ent} {s : Shared} {vs us : List Value}
noncomputable def AllEq (w : World) (KF : Frag) (H : List O) (k : Nat) (xs ys : List V) (e : V → V → Bool) : Prop := ∀ (j : Nat) (x y : V), xs[j]? = some x → ys[j]? = some y → EqV w KF H k x y (e x y)
theorem items_eqP (S : HSim w KF F ρ H s.heap s.gens) (hu : A.units + k < cLine) (p2 : VRs ρ s.heap xs vs) (q2 : VRs ρ s.heap ys us) (he : AllEq w KF H k xs ys e) (j : Nat) (h1 : j < vs.toArray.size) (h2 : j < us.toArray.size) :
    EqAt A s vs.toArray[j] us.toArray[j] (atB xs ys e j) ∧ (vs.toArray[j] = us.toArray[j] → atB xs ys e j = true) := by
  rw [List.size_toArray] at h1 h2
  obtain ⟨x, hx, rx⟩ := p2.get' (List.getElem?_eq_getElem h1)
  obtain ⟨y, hy, ry⟩ := q2.get' (List.getElem?_eq_getElem h2)
  have z := he j x y hx hy A F ρ s _ _ hu S rx ry
  unfold atB
  rw [hx, hy]
  exact ⟨z.eq, z.same⟩
theorem items_sameP (S : HSim w KF F ρ H s.heap s.gens) (hu : A.units + k < cLine) (p2 : VRs ρ s.heap xs vs) (q2 : VRs ρ s.heap ys vs) (he : AllEq w KF H k xs ys e) : allB xs ys e = true := by
  unfold allB
  rw [← p2.len, ← q2.len, beq_self_eq_true, Bool.true_and, List.all_eq_true]
  intro j hj
  have hj' : j < vs.toArray.size := by rw [List.size_toArray]; exact List.mem_range.mp hj
  exact (items_eqP S hu p2 q2 he j hj' hj').2 rfl
end
theorem eqv_listP {k l r : Nat} {xs ys : List V} {e : V → V → Bool} (hl : H[l]? = some (.list xs)) (hr : H[r]? = some (.list ys)) (he : AllEq w KF H k xs ys e) : EqV w KF H (k + 1) (.ref l) (.ref r) (allB xs ys e) := fun A F ρ s u v hu S ru rv => by
  obtain ⟨a, ha, rfl⟩ := ru.ref_eq
  obtain ⟨b, hb, rfl⟩ := rv.ref_eq
  obtain ⟨f1, _, vs, p1, p2⟩ := S.ob l a _ ha hl
  obtain ⟨f2, _, us, q1, q2⟩ := S.ob r b _ hb hr
  have hu1 : A.in1.units + k < cLine := by show A.units + 1 + k < cLine; omega
  have sm : Value.ref a.a = .ref b.a → allB xs ys e = true := fun q => by
    have e1 : a.a = b.a := by injection q
    have hlr : l = r := Decidable.byContradiction fun hne => fps_apart S.nd ha hb hne (b := a.a) (by rw [f1]; exact .head _) (by rw [f2, e1]; exact .head _)
    subst hlr
    rw [hl] at hr
    cases hr
    rw [ha] at hb
    cases hb
    exact items_sameP (A := A.in1) S hu1 p2 p2 he
  have rc : RcAt A s (.ref a.a) (.ref b.a) (allB xs ys e) ∧ RcNeAt A s (.ref a.a) (.ref b.a) (!allB xs ys e) := by
    by_cases hlen : xs.length = ys.length
    · have h1 : vs.toArray.size = us.toArray.size := by rw [List.size_toArray, List.size_toArray, p2.len, q2.len, hlen]
      rw [allB_eq (s := s) p2 hlen]
      exact ⟨RcAt.lists p1.isList q1.isList h1 (by omega) fun j h1 h2 => (items_eqP (A := A.in1) S hu1 p2 q2 he j h1 h2).1, RcNeAt.lists p1.isList q1.isList h1 (by omega) fun j h1 h2 => (items_eqP (A := A.in1) S hu1 p2 q2 he j h1 h2).1⟩
    · rw [allB_ne hlen]
      have hs : (vs.toArray.size != us.toArray.size) = true := by rw [List.size_toArray, List.size_toArray, p2.len, q2.len]; simpa using hlen
      exact ⟨RcAt.lists_lengths p1.isList q1.isList hs (by omega), RcNeAt.lists_lengths p1.isList q1.isList hs (by omega)⟩
  exact ⟨rc.1, rc.2, eqAt_of rc.1 (fun _ _ q => nomatch q) sm, sm⟩
theorem eqv_tupP {k : Nat} {xs ys : List V} {e : V → V → Bool} (he : AllEq w KF H k xs ys e) : EqV w KF H (k + 1) (.tup xs) (.tup ys) (allB xs ys e) := fun A F ρ s u v hu S ru rv => by
  obtain ⟨a, vs, rfl, p1, p2⟩ := ru.tup_eq
  obtain ⟨b, us, rfl, q1, q2⟩ := rv.tup_eq
  have hu1 : A.in1.units + k < cLine := by show A.units + 1 + k < cLine; omega
  have sm : Value.ref a = .ref b → allB xs ys e = true := fun q => by
    cases q
    obtain ⟨o, ho, _, n, hd⟩ := p1
    obtain ⟨o', ho', _, n', hd'⟩ := q1
    rw [ho] at ho'
    cases ho'
    rw [hd] at hd'
    have : vs = us := by simpa using congrArg (fun x => match x with | Data.seq xs _ => xs.toList | _ => []) hd'
    subst this
    exact items_sameP (A := A.in1) S hu1 p2 q2 he
  have eb : ((List.range (min vs.toArray.size us.toArray.size)).all (atB xs ys e) && vs.toArray.size == us.toArray.size) = allB xs ys e := by
    unfold allB
    rw [List.size_toArray, List.size_toArray, p2.len, q2.len]
    by_cases hlen : xs.length = ys.length
    · rw [hlen, Nat.min_self, beq_self_eq_true, Bool.and_true, Bool.true_and]
    · rw [show (xs.length == ys.length) = false by simpa using hlen, Bool.false_and, Bool.and_false]
  have rc : RcAt A s (.ref a) (.ref b) (allB xs ys e) := by
    rw [← eb]; exact RcAt.tuples p1 q1 (by omega) fun j h1 h2 => (items_eqP (A := A.in1) S hu1 p2 q2 he j h1 h2).1
  refine ⟨rc, ?_, eqAt_of rc (fun _ _ q => nomatch q) sm, sm⟩
  rw [← eb]; exact RcNeAt.tuples p1 q1 (by omega) fun j h1 h2 => (items_eqP (A := A.in1) S hu1 p2 q2 he j h1 h2).1
end
end Mine
end
section
open PySem PySem.W PyProof.Rows PySem.W.X PySem.SeqAt
namespace Mine
end Mine
end
section
open PySem PySem.W PyProof.Rows PySem.W.X PySem.SeqAt
namespace Mine
section
variable {prog : Program} {w : World} {KF : Frag} {fi : FI} {d : Nat} {E : EP} {m : Names} {H : List O}
end
end Mine
end
section
open PySem PySem.W PyProof.Rows PySem.W.X PySem.SeqAt
namespace Mine
-- arguments, one by one
theorem args1 {us : List Value} (h : us.length = 1) : ∃ a, us = [a] := List.length_eq_one_iff.mp h
theorem args2 {us : List Value} (h : us.length = 2) : ∃ a0 a1, us = [a0, a1] := by
  cases us with
  | nil => cases h
  | cons a us =>
    obtain ⟨b0, e⟩ := args1 (Nat.succ.inj h)
    exact ⟨a, b0, by rw [e]⟩
theorem args3 {us : List Value} (h : us.length = 3) : ∃ a0 a1 a2, us = [a0, a1, a2] := by
  cases us with
  | nil => cases h
  | cons a us =>
    obtain ⟨b0, b1, e⟩ := args2 (Nat.succ.inj h)
    exact ⟨a, b0, b1, by rw [e]⟩
theorem args4 {us : List Value} (h : us.length = 4) : ∃ a0 a1 a2 a3, us = [a0, a1, a2, a3] := by
  cases us with
  | nil => cases h
  | cons a us =>
    obtain ⟨b0, b1, b2, e⟩ := args3 (Nat.succ.inj h)
    exact ⟨a, b0, b1, b2, by rw [e]⟩
theorem args5 {us : List Value} (h : us.length = 5) : ∃ a0 a1 a2 a3 a4, us = [a0, a1, a2, a3, a4] := by
  cases us with
  | nil => cases h
  | cons a us =>
    obtain ⟨b0, b1, b2, b3, e⟩ := args4 (Nat.succ.inj h)
    exact ⟨a, b0, b1, b2, b3, by rw [e]⟩
theorem args6 {us : List Value} (h : us.length = 6) : ∃ a0 a1 a2 a3 a4 a5, us = [a0, a1, a2, a3, a4, a5] := by
  cases us with
  | nil => cases h
  | cons a us =>
    obtain ⟨b0, b1, b2, b3, b4, e⟩ := args5 (Nat.succ.inj h)
    exact ⟨a, b0, b1, b2, b3, b4, by rw [e]⟩
theorem args7 {us : List Value} (h : us.length = 7) : ∃ a0 a1 a2 a3 a4 a5 a6, us = [a0, a1, a2, a3, a4, a5, a6] := by
  cases us with
  | nil => cases h
  | cons a us =>
    obtain ⟨b0, b1, b2, b3, b4, b5, e⟩ := args6 (Nat.succ.inj h)
    exact ⟨a, b0, b1, b2, b3, b4, b5, by rw [e]⟩
/-! the walk's rules with their continuations by name: terms stay small -/
section
variable (prog : Program) (w : World) (KF : Frag) (fi : FI) (d : Nat) (E : EP) (m : Names)
noncomputable abbrev KB2 (op : Operator) (a : V) (Q : V → List O → Prop) : V → List O → Prop := fun b H => W2 prog w KF d (Em E m) VR H (binaryOp op) a b Q
noncomputable abbrev KB1 (op : Operator) (r : Expr) (Q : V → List O → Prop) : V → List O → Prop := fun a H => WE prog w KF fi d E m H r (KB2 prog w KF d E m op a Q)
noncomputable abbrev KU (op : UnaryOp) (Q : V → List O → Prop) : V → List O → Prop := fun a H => W1 prog w KF d (Em E m) VR H (unaryOp op) a Q
noncomputable abbrev KC2 (op : CmpOp) (a : V) (Q : V → List O → Prop) : V → List O → Prop := fun b H => W2 prog w KF d (Em E m) VR H (compareOp op) a b Q
noncomputable abbrev KC1 (op : CmpOp) (r : Expr) (Q : V → List O → Prop) : V → List O → Prop := fun a H => WE prog w KF fi d E m H r (KC2 prog w KF d E m op a Q)
noncomputable abbrev KT (Q : Bool → List O → Prop) : V → List O → Prop := fun c H => W1 prog w KF d (Em E m) EqR H truthy c Q
noncomputable abbrev KN (Q : Bool → List O → Prop) : Bool → List O → Prop := fun b H => Q (!b) H
noncomputable abbrev KAnd (y : Expr) (r : List Expr) (pos : Pos) (Q : Bool → List O → Prop) : Bool → List O → Prop := fun b H => if b = true then WT prog w KF fi d E m H (.BoolOp .And (y :: r) pos) Q else Q false H
noncomputable abbrev KOr (y : Expr) (r : List Expr) (pos : Pos) (Q : Bool → List O → Prop) : Bool → List O → Prop := fun b H => if b = true then Q true H else WT prog w KF fi d E m H (.BoolOp .Or (y :: r) pos) Q
noncomputable abbrev KIf (x y : Expr) (Q : V → List O → Prop) : Bool → List O → Prop := fun b H => if b = true then WE prog w KF fi d E m H x Q else WE prog w KF fi d E m H y Q
noncomputable abbrev KL (Q : V → List O → Prop) : List V → List O → Prop := fun vs H => vs.length ≤ sizeLine ∧ Q (.ref H.length) (H ++ [.list vs])
noncomputable abbrev KTu (Q : V → List O → Prop) : List V → List O → Prop := fun vs H => vs.length ≤ sizeLine ∧ Q (.tup vs) H
noncomputable abbrev KE2 (v : V) (Q : List V → List O → Prop) : List V → List O → Prop := fun vs H => Q (v :: vs) H
noncomputable abbrev KE1 (es : List Expr) (Q : List V → List O → Prop) : V → List O → Prop := fun v H => WEs prog w KF fi d E m H es (KE2 v Q)
noncomputable abbrev KCa2 (f : V) (Q : V → List O → Prop) : List V → List O → Prop := fun vs H => CallW prog w KF d (Em E m) H f vs Q
noncomputable abbrev KCa (args : List Expr) (Q : V → List O → Prop) : V → List O → Prop := fun f H => Callee KF f ∧ WEs prog w KF fi d E m H args (KCa2 prog w KF d E m f Q)
noncomputable abbrev KMe2 (f x : V) (Q : V → List O → Prop) : List V → List O → Prop := fun vs H => CallW prog w KF d (Em E m) H f (x :: vs) Q
noncomputable abbrev KMe (name : Str) (args : List Expr) (Q : V → List O → Prop) : V → List O → Prop := fun x H => ∃ f, MethIs prog w KF H x name f ∧ Callee KF f ∧ WEs prog w KF fi d E m H args (KMe2 prog w KF d E m f x Q)
noncomputable abbrev KS2 (o : V) (Q : V → List O → Prop) : V → List O → Prop := fun i H => W2 prog w KF d (Em E m) VR H subOp o i Q
noncomputable abbrev KS1 (slice : Expr) (Q : V → List O → Prop) : V → List O → Prop := fun o H => WE prog w KF fi d E m H slice (KS2 prog w KF d E m o Q)
noncomputable abbrev KSl4 (o lv uv : V) (Q : V → List O → Prop) : V → List O → Prop := fun kv H => SliceW prog w KF d (Em E m) H o lv uv kv Q
noncomputable abbrev KSl3 (k : Option Expr) (o lv : V) (Q : V → List O → Prop) : V → List O → Prop := fun uv H => WEo prog w KF d fi E m H k (KSl4 prog w KF d E m o lv uv Q)
noncomputable abbrev KSl2 (u k : Option Expr) (o : V) (Q : V → List O → Prop) : V → List O → Prop := fun lv H => WEo prog w KF d fi E m H u (KSl3 prog w KF fi d E m k o lv Q)
noncomputable abbrev KSl1 (l u k : Option Expr) (Q : V → List O → Prop) : V → List O → Prop := fun o H => WEo prog w KF d fi E m H l (KSl2 prog w KF fi d E m u k o Q)
noncomputable abbrev KM (Q : Names → List O → Prop) : Unit → List O → Prop := fun _ H => Q m H
noncomputable abbrev KA2 (ov v : V) (Q : Names → List O → Prop) : V → List O → Prop := fun iv H => W3 prog w KF d (Em E m) UnR H setItem ov iv v (KM m Q)
noncomputable abbrev KA1 (i : Expr) (v : V) (Q : Names → List O → Prop) : V → List O → Prop := fun ov H => WE prog w KF fi d E m H i (KA2 prog w KF d E m ov v Q)
noncomputable abbrev KAt (attr : Str) (v : V) (Q : Names → List O → Prop) : V → List O → Prop := fun ov H => W2 prog w KF d (Em E m) UnR H (fun u v => setAttr u attr v) ov v (KM m Q)
noncomputable abbrev KWt (es : List Expr) (Q : Names → List O → Prop) : List V → List O → Prop := fun vs H => WAs prog w KF fi d E m H es vs Q
noncomputable abbrev KNx (Q : Fl → Names → List O → Prop) : Names → List O → Prop := fun m H => Q .next m H
noncomputable abbrev KAs (t : Expr) (Q : Fl → Names → List O → Prop) : V → List O → Prop := fun v H => WA prog w KF fi d E m H t v (KNx Q)
noncomputable abbrev KAs3 (t' : Expr) (v : V) (Q : Fl → Names → List O → Prop) : Names → List O → Prop := fun m H => WA prog w KF fi d E m H t' v (KNx Q)
noncomputable abbrev KAs2 (t t' : Expr) (Q : Fl → Names → List O → Prop) : V → List O → Prop := fun v H => WA prog w KF fi d E m H t v (KAs3 prog w KF fi d E t' v Q)
noncomputable abbrev KAu2 (x : Str) (Q : Fl → Names → List O → Prop) : V → List O → Prop := fun c H => Q .next (setL m x c) H
noncomputable abbrev KAu (op : Operator) (a : V) (x : Str) (Q : Fl → Names → List O → Prop) : V → List O → Prop := fun b H => W2 prog w KF d (Em E m) VR H (inplaceOp op) a b (KAu2 m x Q)
noncomputable abbrev KMn (Q : Fl → Names → List O → Prop) : Unit → List O → Prop := fun _ H => Q .next m H
noncomputable abbrev KG5 (ov iv : V) (Q : Fl → Names → List O → Prop) : V → List O → Prop := fun c H => W3 prog w KF d (Em E m) UnR H setItem ov iv c (KMn m Q)
noncomputable abbrev KG4 (op : Operator) (ov iv a : V) (Q : Fl → Names → List O → Prop) : V → List O → Prop := fun b H => W2 prog w KF d (Em E m) VR H (inplaceOp op) a b (KG5 prog w KF d E m ov iv Q)
noncomputable abbrev KG3 (op : Operator) (value : Expr) (ov iv : V) (Q : Fl → Names → List O → Prop) : V → List O → Prop := fun a H => WE prog w KF fi d E m H value (KG4 prog w KF d E m op ov iv a Q)
noncomputable abbrev KG2 (op : Operator) (value : Expr) (ov : V) (Q : Fl → Names → List O → Prop) : V → List O → Prop := fun iv H => W2 prog w KF d (Em E m) VR H getItem ov iv (KG3 prog w KF fi d E m op value ov iv Q)
noncomputable abbrev KG1 (op : Operator) (i value : Expr) (Q : Fl → Names → List O → Prop) : V → List O → Prop := fun ov H => WE prog w KF fi d E m H i (KG2 prog w KF fi d E m op value ov Q)
noncomputable abbrev KSi (x y : List Stmt) (Q : Fl → Names → List O → Prop) : Bool → List O → Prop := fun b H => if b = true then WB prog w KF fi d E m H x Q else WB prog w KF fi d E m H y Q
noncomputable abbrev KRe (Q : Fl → Names → List O → Prop) : V → List O → Prop := fun v H => Q (.ret v) m H
noncomputable abbrev KEx (Q : Fl → Names → List O → Prop) : V → List O → Prop := fun _ H => Q .next m H
noncomputable abbrev KSeq (rest : List Stmt) (Q : Fl → Names → List O → Prop) : Fl → Names → List O → Prop := fun f m H => match f with | .next => WB prog w KF fi d E m H rest Q | f => Q f m H
noncomputable abbrev KFor (J : Nat → Names → List O → Prop) (i : Nat) (Q : Fl → Names → List O → Prop) : Fl → Names → List O → Prop := fun f m H => match f with | .next | .cont => J (i + 1) m H | .brk => Q .next m H | .ret v => Q (.ret v) m H
noncomputable abbrev KFt (body : List Stmt) (J : Nat → Names → List O → Prop) (i : Nat) (Q : Fl → Names → List O → Prop) : Names → List O → Prop := fun m H => WB prog w KF fi d E m H body (KFor J i Q)
noncomputable abbrev KFi (target : Expr) (body : List Stmt) (Q : Fl → Names → List O → Prop) : V → List O → Prop := fun v H₁ => ∃ xs G, IterW prog w KF d (Em E m) H₁ v xs G ∧ ∃ J : Nat → Names → List O → Prop, J 0 m H₁ ∧ (∀ i m H, J i m H → G H) ∧
      (∀ i x m H, xs[i]? = some x → J i m H → WA prog w KF fi d E m H target x (KFt prog w KF fi d E body J i Q)) ∧ (∀ m H, J xs.length m H → Q .next m H)
noncomputable abbrev KFn (Q : V → List O → Prop) : Fl → Names → List O → Prop := fun f _ H => match f with | .ret v => Q v H | .next => Q .none H | _ => False
end
section
variable {prog : Program} {w : World} {KF : Frag} {fi : FI} {d : Nat} {E : EP} {m : Names} {H : List O}
theorem wd_bin {l r : Expr} {op : Operator} {pos : Pos} {Q : V → List O → Prop} (h : WE prog w KF fi d E m H l (KB1 prog w KF fi d E m op r Q)) : WE prog w KF fi d E m H (.BinOp l op r pos) Q := we_bin h
theorem wd_un {x : Expr} {op : UnaryOp} {pos : Pos} {Q : V → List O → Prop} (h : WE prog w KF fi d E m H x (KU prog w KF d E m op Q)) : WE prog w KF fi d E m H (.UnaryOp op x pos) Q := we_un h
theorem wd_cmp {l r : Expr} {op : CmpOp} {pos : Pos} {Q : V → List O → Prop} (h : WE prog w KF fi d E m H l (KC1 prog w KF fi d E m op r Q)) (hm : behindInMarks op r = false := by with_unfolding_all rfl) : WE prog w KF fi d E m H (.Compare l [op] [r] pos) Q := we_cmp h hm
theorem wdt_cmp {l r : Expr} {op : CmpOp} {pos : Pos} {Q : Bool → List O → Prop} (h : WE prog w KF fi d E m H l (KC1 prog w KF fi d E m op r (KT prog w KF d E m Q))) (hm : behindInMarks op r = false := by with_unfolding_all rfl) : WT prog w KF fi d E m H (.Compare l [op] [r] pos) Q := wt_cmp h hm
theorem wdt_and {x y : Expr} {r : List Expr} {pos : Pos} {Q : Bool → List O → Prop} (h : WT prog w KF fi d E m H x (KAnd prog w KF fi d E m y r pos Q)) : WT prog w KF fi d E m H (.BoolOp .And (x :: y :: r) pos) Q := wt_and h
theorem wdt_or {x y : Expr} {r : List Expr} {pos : Pos} {Q : Bool → List O → Prop} (h : WT prog w KF fi d E m H x (KOr prog w KF fi d E m y r pos Q)) : WT prog w KF fi d E m H (.BoolOp .Or (x :: y :: r) pos) Q := wt_or h
theorem wd_list {es : List Expr} {pos : Pos} {Q : V → List O → Prop} (h : WEs prog w KF fi d E m H es (KL Q)) (hp : Plain es := by intro _; rfl) : WE prog w KF fi d E m H (.List es pos) Q := we_list h hp
theorem wd_tup {es : List Expr} {k : Nat} {pos : Pos} {Q : V → List O → Prop} (h : WEs prog w KF fi d E m H es (KTu Q)) (hp : Plain es := by intro _; rfl) : WE prog w KF fi d E m H (.Tuple es k pos) Q := we_tup h hp
theorem wds_cons {e : Expr} {es : List Expr} {Q : List V → List O → Prop} (h : WE prog w KF fi d E m H e (KE1 prog w KF fi d E m es Q)) : WEs prog w KF fi d E m H (e :: es) Q := h
theorem wd_call {func : Expr} {args : List Expr} {pos : Pos} {Q : V → List O → Prop} (h : WE prog w KF fi d E m H func (KCa prog w KF fi d E m args Q))
    (hp : Plain args := by intro _; rfl) (he : ∀ env, eval (.Call func args [] pos) env = (do callWith pos (← eval func env) [] (backTo pos (starEach args env)) (backToKw pos (keywordEach [] env))) := by intro _; rfl) : WE prog w KF fi d E m H (.Call func args [] pos) Q := we_call h hp he
theorem wd_meth {o : Expr} {name : Str} {apos pos : Pos} {args : List Expr} {pl : Env → Sem Bool} {Q : V → List O → Prop} (h : WE prog w KF fi d E m H o (KMe prog w KF fi d E m name args Q))
    (hp : Plain args := by intro _; rfl) (he : ∀ env, eval (.Call (.Attribute o name apos) args [] pos) env = (do
      let ov ← eval o env
      standAt apos.atName
      let (f, first) ← holding [ov] (getMethod ov name (pl env))
      callWith pos f first (backTo pos (starEach args env)) []) := by intro _; rfl) : WE prog w KF fi d E m H (.Call (.Attribute o name apos) args [] pos) Q := we_meth h hp he
theorem wd_sub {value slice : Expr} {pos : Pos} {Q : V → List O → Prop} (h : WE prog w KF fi d E m H value (KS1 prog w KF fi d E m slice Q))
    (hs : ∀ b o i, subscripted slice b o i = (match b with | true => runValue (.builtin "lifetime.subscript" ⟨[o, i], []⟩) | false => operate [o, i] (getItem o i)) := by intro b o i; cases b <;> rfl) : WE prog w KF fi d E m H (.Subscript value slice pos) Q := we_sub h hs
theorem wda_attr {o : Expr} {attr : Str} {pos : Pos} {v : V} {Q : Names → List O → Prop} (h : WE prog w KF fi d E m H o (KAt prog w KF d E m attr v Q)) : WA prog w KF fi d E m H (.Attribute o attr pos) v Q := wa_attr h
theorem wda_tup {es : List Expr} {k : Nat} {pos : Pos} {v : V} {Q : Names → List O → Prop} (h : W1 prog w KF d (Em E m) VRs H (fun u => unpackItems u es.length none) v (KWt prog w KF fi d E m es Q)) (hp : PlainT es := by intro _; rfl) : WA prog w KF fi d E m H (.Tuple es k pos) v Q := wa_tup h hp
theorem wd_assign {t value : Expr} {pos : Pos} {Q : Fl → Names → List O → Prop} (h : WE prog w KF fi d E m H value (KAs prog w KF fi d E m t Q))
    (hs : ∀ env, swapsWithSole [t] value pos.line env = pure false := by intro _; rfl) (hw : ∀ env, swappedStores [t] value env = pure none := by intro _; rfl) (he : ∀ env, assignEach [t] env = [(false, assign t env)] := by intro _; rfl) : WS prog w KF fi d E m H (.Assign [t] value pos) Q := ws_assign h hs hw he
theorem wds_if {c : Expr} {x y : List Stmt} {pos : Pos} {Q : Fl → Names → List O → Prop} (h : WT prog w KF fi d E m H c (KSi prog w KF fi d E m x y Q)) : WS prog w KF fi d E m H (.If c x y pos) Q := ws_if h
theorem wd_ret {e : Expr} {pos : Pos} {Q : Fl → Names → List O → Prop} (h : WE prog w KF fi d E m H e (KRe m Q)) : WS prog w KF fi d E m H (.Return (some e) pos) Q := ws_ret h
theorem wd_expr {e : Expr} {pos : Pos} {Q : Fl → Names → List O → Prop} (h : WE prog w KF fi d E m H e (KEx m Q)) (hs : ∀ env, swapsWith e none pos.line env = pure false := by intro _; rfl) : WS prog w KF fi d E m H (.Expr e pos) Q := ws_expr h hs
theorem wd_seq {st : Stmt} {rest : List Stmt} {Q : Fl → Names → List O → Prop} (h : WS prog w KF fi d E m H st (KSeq prog w KF fi d E rest Q)) : WB prog w KF fi d E m H (st :: rest) Q := wb_cons (by
  intro A env F ρ s hA S
  exact wpAny_mono (h A env F ρ s hA S) (fun v s' ⟨ρ', H', m', fl, st, T, rv, q⟩ => ⟨ρ', H', m', fl, st, T, rv, by cases fl <;> exact q⟩) fun _ _ x => x)
theorem wd_for {target iter : Expr} {body : List Stmt} {pos : Pos} {Q : Fl → Names → List O → Prop} (h : WE prog w KF fi d E m H iter (KFi prog w KF fi d E m target body Q)) (hs : ∀ env x, foldedSetIterable iter env x = pure x := by intro _ _; rfl) : WS prog w KF fi d E m H (.For target iter body [] pos) Q := by
  refine ws_for (h.mono fun v H ⟨xs, G, hI, J, h0, h1, h2, h3⟩ => ⟨xs, G, hI, J, h0, h1, fun i x m H hx hJ => ?_, h3⟩) hs
  intro A env F ρ s u hA S r
  refine wpAny_mono (h2 i x m H hx hJ A env F ρ s u hA S r) (fun _ s' ⟨ρ', H', m', st, T, q⟩ => ⟨ρ', H', m', st, T, ?_⟩) fun _ _ x => x
  intro A env F ρ s hA S
  exact wpAny_mono ((show WB prog w KF fi d E m' H' body (KFor J i Q) from q) A env F ρ s hA S) (fun v s' ⟨ρ', H', m', fl, st, T, rv, q⟩ => ⟨ρ', H', m', fl, st, T, rv, by cases fl <;> exact q⟩) fun _ _ x => x
end
section
variable {prog : Program} {w : World} {KF : Frag} {d : Nat} {E : HEP} {H : List O} {a : Nat} {o : Obj} {fd : FuncData} {body : List Stmt} {sc : Scope} {ps : List Str} {xs : List V}
end
section
variable {prog : Program} {w : World} {KF : Frag} {fi : FI} {d : Nat} {E : EP} {m : Names} {H : List O} {b : Bool}
-- the ways of a test
theorem ksi_p {x y : List Stmt} {Q : Fl → Names → List O → Prop} (hb : b = true) (h : WB prog w KF fi d E m H x Q) : KSi prog w KF fi d E m x y Q b H := by subst hb; exact h
theorem ksi_n {x y : List Stmt} {Q : Fl → Names → List O → Prop} (hb : ¬ b = true) (h : WB prog w KF fi d E m H y Q) : KSi prog w KF fi d E m x y Q b H := by rw [Bool.not_eq_true] at hb; subst hb; exact h
end
end Mine
end
section
open PySem PySem.W PyProof.Rows PySem.W.X PySem.SeqAt
namespace Mine
/-! the layer over wpU: what drives a generator that sleeps in «yield from» -/
section
variable (prog : Program) (w : World) (KF : Frag) (fi : FI) (d : Nat) (E : EP)
noncomputable def WEU (m : Names) (H : List O) (e : Expr) (Q : V → List O → Prop) : Prop :=
  ∀ A env F ρ s, Room A d (frOf env F) → Sim w KF fi env m F ρ H s.heap s.gens → wpU (model prog w) A (eval e env) (SQ w KF VR fi env m F ρ s Q) (SE w KF fi env F ρ s E) s
noncomputable def WTU (m : Names) (H : List O) (e : Expr) (Q : Bool → List O → Prop) : Prop :=
  ∀ A env F ρ s, Room A d (frOf env F) → Sim w KF fi env m F ρ H s.heap s.gens → wpU (model prog w) A (isTrue e env (eval e env)) (SQ w KF EqR fi env m F ρ s Q) (SE w KF fi env F ρ s E) s
noncomputable def WSU (m : Names) (H : List O) (st : Stmt) (Q : Fl → Names → List O → Prop) : Prop :=
  ∀ A env F ρ s, Room A d (frOf env F) → Sim w KF fi env m F ρ H s.heap s.gens → wpU (model prog w) A (exec st env) (StQ w KF fi env F ρ s Q) (SE w KF fi env F ρ s E) s
noncomputable def WBU (m : Names) (H : List O) (st : List Stmt) (Q : Fl → Names → List O → Prop) : Prop :=
  ∀ A env F ρ s, Room A d (frOf env F) → Sim w KF fi env m F ρ H s.heap s.gens → wpU (model prog w) A (execs st env) (StQ w KF fi env F ρ s Q) (SE w KF fi env F ρ s E) s
end
noncomputable def CallU (prog : Program) (w : World) (KF : Frag) (d : Nat) (E : HEP) (H : List O) (f : V) (xs : List V) (Q : V → List O → Prop) : Prop :=
  ∀ A F ρ s u us, Room A d F.fr → HSim w KF F ρ H s.heap s.gens → VR ρ s.heap f u → VRs ρ s.heap xs us → wpU (model prog w) A (call u us) (HQ w KF VR F ρ s Q) (HE w KF F ρ s E) s
section
variable {prog : Program} {w : World} {KF : Frag} {fi : FI} {d : Nat} {E : EP} {m : Names} {H : List O}
theorem ontoU {α : Type} {A : Around} {t : Sem α} {K K' : α → Shared → Prop} {env : Env} {F : Base} {ρ ρ₁ : List Ent} {s s₁ s₂ : Shared} (st : Step ρ s ρ₁ s₁) (h : wpU (model prog w) A t K (SE w KF fi env F ρ₁ s₁ E) s₂) (hk : ∀ v s', K v s' → K' v s') : wpU (model prog w) A t K' (SE w KF fi env F ρ s E) s₂ :=
  wpU_mono h hk fun _ _ x => x.step st
theorem wtU {e : Expr} {Q : Bool → List O → Prop} (h : WT prog w KF fi d E m H e Q) : WTU prog w KF fi d E m H e Q := fun A env F ρ s hA S => up (h A env F ρ s hA S)
theorem wsU {st : Stmt} {Q : Fl → Names → List O → Prop} (h : WS prog w KF fi d E m H st Q) : WSU prog w KF fi d E m H st Q := fun A env F ρ s hA S => up (h A env F ρ s hA S)
theorem wbU {st : List Stmt} {Q : Fl → Names → List O → Prop} (h : WB prog w KF fi d E m H st Q) : WBU prog w KF fi d E m H st Q := fun A env F ρ s hA S => up (h A env F ρ s hA S)
noncomputable abbrev KSeqU (prog : Program) (w : World) (KF : Frag) (fi : FI) (d : Nat) (E : EP) (rest : List Stmt) (Q : Fl → Names → List O → Prop) : Fl → Names → List O → Prop := fun f m H => match f with | .next => WBU prog w KF fi d E m H rest Q | f => Q f m H
theorem wu_nil {Q : Fl → Names → List O → Prop} (h : Q .next m H) : WBU prog w KF fi d E m H [] Q := wbU (wb_nil h)
theorem wu_seq {st : Stmt} {rest : List Stmt} {Q : Fl → Names → List O → Prop} (h : WSU prog w KF fi d E m H st (KSeqU prog w KF fi d E rest Q)) : WBU prog w KF fi d E m H (st :: rest) Q :=
  fun A env F ρ s hA S => by
    rw [execs_cons]
    refine wpU_bind (wpU_mono (h A env F ρ s hA S) (fun f s₁ hx => ?_) fun _ _ x => x)
    obtain ⟨ρ₁, H₁, m₁, fl, st₁, S₁, rf, h₁⟩ := hx
    cases fl with
    | next => cases rf; exact ontoU st₁ ((show WBU prog w KF fi d E m₁ H₁ rest Q from h₁) A env F ρ₁ s₁ hA S₁) fun _ _ x => x.step st₁
    | brk => cases rf; exact wpU_pure ⟨ρ₁, H₁, m₁, .brk, st₁, S₁, rfl, h₁⟩
    | cont => cases rf; exact wpU_pure ⟨ρ₁, H₁, m₁, .cont, st₁, S₁, rfl, h₁⟩
    | ret v => obtain ⟨u, rfl, r⟩ := rf; exact wpU_pure ⟨ρ₁, H₁, m₁, .ret v, st₁, S₁, ⟨u, rfl, r⟩, h₁⟩
/-- a statement that drives no such generator -/
theorem wu_quiet {st : Stmt} {rest : List Stmt} {Q : Fl → Names → List O → Prop} (h : WS prog w KF fi d E m H st (KSeqU prog w KF fi d E rest Q)) : WBU prog w KF fi d E m H (st :: rest) Q := wu_seq (wsU h)
theorem wu_if {c : Expr} {x y : List Stmt} {pos : Pos} {Q : Fl → Names → List O → Prop} (h : WTU prog w KF fi d E m H c fun b H => if b = true then WBU prog w KF fi d E m H x Q else WBU prog w KF fi d E m H y Q) : WSU prog w KF fi d E m H (.If c x y pos) Q :=
  fun A env F ρ s hA S => by
    rw [exec_If]
    refine wpU_bind (wpU_standAt (wpU_bind (wpU_mono (h A env F ρ s hA S) (fun b s₁ hq => ?_) fun _ _ x => x)))
    obtain ⟨ρ₁, H₁, a, st₁, S₁, ra, h₁⟩ := hq
    cases ra
    cases b
    · exact ontoU st₁ ((show WBU prog w KF fi d E m H₁ y Q from h₁) A env F ρ₁ s₁ hA S₁) fun _ _ x => x.step st₁
    · exact ontoU st₁ ((show WBU prog w KF fi d E m H₁ x Q from h₁) A env F ρ₁ s₁ hA S₁) fun _ _ x => x.step st₁
theorem wpU_operate {M : Model} {A : Around} {s : Shared} {Q : Value → Shared → Prop} {E' : Value → Shared → Prop} {vs : List Value} {t : Sem Value} (h : wpU M A t Q E' s) : wpU M A (operate vs t) Q E' s := by
  unfold operate
  exact wpU_bind (wpU_holding (wpU_mono h (fun r s' q => wpU_bind (up (wpAny_release (wpU_pure q)))) fun _ _ x => x))
theorem wtu_cmp {l r : Expr} {op : CmpOp} {pos : Pos} {Q : Bool → List O → Prop} (h : WEU prog w KF fi d E m H l (KC1 prog w KF fi d E m op r (KT prog w KF d E m Q))) (hm : behindInMarks op r = false := by with_unfolding_all rfl) : WTU prog w KF fi d E m H (.Compare l [op] [r] pos) Q :=
  fun A env F ρ s hA S => by
    rw [isTrue_Compare1, markedBehindIn_of_false hm]
    refine wpU_bind (wpU_mono (h A env F ρ s hA S) (fun u s₁ hq => ?_) fun _ _ x => x)
    obtain ⟨ρ₁, H₁, a, st₁, S₁, ra, h₁⟩ := hq
    refine wpU_bind (wpU_holding (ontoU st₁ (up ((show WE prog w KF fi d E m H₁ r _ from h₁) A env F ρ₁ s₁ hA S₁)) fun v s₂ hq => ?_))
    obtain ⟨ρ₂, H₂, b, st₂, S₂, rb, h₂⟩ := hq
    have t2 := st₁.trans st₂
    refine wpU_bind (wpU_standAt (wpU_bind (wpU_operate (ontoU t2 (up (lift S₂ fun F' q T => (show W2 prog w KF d (Em E m) VR H₂ (compareOp op) a b _ from h₂) A F' ρ₂ s₂ u v (q ▸ hA) T (ra.mono st₂.1 st₂.2.1) rb)) fun c s₃ hq => ?_))))
    obtain ⟨ρ₃, H₃, cv, st₃, S₃, rc, h₃⟩ := hq
    exact wpU_holding (ontoU (t2.trans st₃) (up (lift S₃ fun F' q T => (show W1 prog w KF d (Em E m) EqR H₃ truthy cv Q from h₃) A F' ρ₃ s₃ c (q ▸ hA) T rc)) fun _ _ x => x.step (t2.trans st₃))
end
-- loops
section
variable {M : Model} {A : Around} {s : Shared}
theorem codeU_loop {c : Code} {R : Result → Shared → Prop} (hq : c.quiet = true) (I : Nat → Shared → Prop)
    (turn : ∀ n s, I n s → wpU M (A.under c) (M.den c) (fun fin s' => match fin with
        | .done f => R (.ok f) s'
        | .again c' => (c' = c ∧ ∃ m, m < n ∧ I m s') ∨ (c'.quiet = true ∧ codeU M A c' R s')) (fun e s' => R (.error e) s') s)
    (n : Nat) (h : I n s) : codeU M A c R s := by
  induction n using Nat.strongRecOn generalizing s with
  | ind n ih =>
    refine codeU_of (wpU_mono (turn n s h) (fun fin s' hf => ?_) fun _ _ x => x)
    cases fin with
    | done f => exact hf
    | again c' =>
      rcases hf with ⟨rfl, m, hm, hI⟩ | hf
      · exact ⟨hq, ih m hm hI⟩
      · exact hf
theorem codeU_mono {c : Code} {R R' : Result → Shared → Prop} (h : codeU M A c R s) (k : ∀ r s, R r s → R' r s) : codeU M A c R' s := fun p st hb Φ hR => h p st hb Φ fun r s' c' p' q => hR r s' c' p' (k r s' q)
end
section
variable {prog : Program} {w : World} {A : Around}
/-- a for loop whose turns raise nothing -/
theorem for_loopU {s : Shared} {R : Result → Shared → Prop} {target it body env} (I : Nat → Shared → Prop)
    (turn : ∀ n s, I n s → wpU (model prog w) A (pyNext it) (fun r s₁ => match r with
      | none => R (.ok .next) s₁
      | some v => wpU (model prog w) A (letOwnedTupleGo target it v) (fun _ s₀ => wpU (model prog w) A (assign target env v) (fun _ s₂ => wpU (model prog w) A (execs body env) (fun f s₃ => match f with
          | .next | .cont => ∃ m, m < n ∧ I m s₃
          | .brk => R (.ok .next) s₃
          | .ret v => R (.ok (.ret v)) s₃) (fun _ _ => False) s₂) (fun _ _ => False) s₀) (fun _ _ => False) s₁) (fun _ _ => False) s)
    (n : Nat) (h : I n s) : codeU (model prog w) A (.forLoop target it body [] env) R s := by
  refine codeU_loop rfl I (fun n s hI => ?_) n h
  show wpU _ _ ((forTurn target it body [] env).onRaise (fun x => do noteFrame x env; theTreesLotGoes x)) _ _ s
  refine wpU_onRaise (wpU_mono (Q := fun fin s' => match fin with
        | .done f => R (.ok f) s'
        | .again c' => (c' = .forLoop target it body [] env ∧ ∃ m, m < n ∧ I m s') ∨ (c'.quiet = true ∧ codeU (model prog w) A c' R s')) (E := fun _ _ => False) ?_ (fun _ _ x => x) fun _ _ x => x.elim)
  simp only [forTurn]
  refine wpU_bind (wpU_standAt (wpU_bind (wpU_onRaise (wpU_mono (turn n s hI) (fun r s₁ h₁ => ?_) fun _ _ x => x.elim))))
  cases r with
  | none => exact wpU_pure (.inr ⟨rfl, codeU_of (by
      show wpU _ _ (do return Fin.done (← (execs [] env).onRaise (fun x => do noteFrame x env; theTreesLotGoes x))) _ _ s₁
      exact wpU_bind (wpU_onRaise (up (wpAny_execs_nil (wpU_pure h₁)))))⟩)
  | some v =>
    refine wpU_bind (wpU_mono h₁ (fun _ s₀ h₀ => ?_) fun _ _ h' => h'.elim)
    refine wpU_bind (wpU_mono h₀ (fun _ s₂ h₂ => wpU_bind (wpU_mono h₂ (fun f s₃ h₃ => ?_) fun _ _ h' => h'.elim)) fun _ _ h' => h'.elim)
    cases f with
    | next => exact wpU_pure (.inl ⟨rfl, h₃⟩)
    | cont => exact wpU_pure (.inl ⟨rfl, h₃⟩)
    | brk => exact wpU_pure h₃
    | ret v => exact wpU_pure h₃
end
section
variable {prog : Program} {w : World} {KF : Frag} {fi : FI} {d : Nat} {E : EP} {m : Names} {H : List O}
noncomputable abbrev KFtU (prog : Program) (w : World) (KF : Frag) (fi : FI) (d : Nat) (E : EP) (body : List Stmt) (J : Nat → Names → List O → Prop) (i : Nat) (Q : Fl → Names → List O → Prop) : Names → List O → Prop := fun m H => WBU prog w KF fi d E m H body (KFor J i Q)
noncomputable abbrev KFiU (prog : Program) (w : World) (KF : Frag) (fi : FI) (d : Nat) (E : EP) (m : Names) (target : Expr) (body : List Stmt) (Q : Fl → Names → List O → Prop) : V → List O → Prop := fun v H₁ => ∃ xs G, IterW prog w KF d (Em E m) H₁ v xs G ∧ ∃ J : Nat → Names → List O → Prop, J 0 m H₁ ∧ (∀ i m H, J i m H → G H) ∧
      (∀ i x m H, xs[i]? = some x → J i m H → WA prog w KF fi d E m H target x (KFtU prog w KF fi d E body J i Q)) ∧ (∀ m H, J xs.length m H → Q .next m H)
theorem wu_for {target iter : Expr} {body : List Stmt} {pos : Pos} {Q : Fl → Names → List O → Prop} (h : WE prog w KF fi d E m H iter (KFiU prog w KF fi d E m target body Q)) (hs : ∀ env x, foldedSetIterable iter env x = pure x := by intro _ _; rfl) : WSU prog w KF fi d E m H (.For target iter body [] pos) Q :=
  fun A env F ρ s hA S => by
    rw [exec_For]
    refine wpU_bind (wpU_standAt (wpU_bind (wpU_mono (up (h A env F ρ s hA S)) (fun u s₁ hq => ?_) fun _ _ x => x)))
    obtain ⟨ρ₁, H₁, v, st₁, S₁, r, xs, G, hI, J, hJ0, hJG, hT, hD⟩ := hq
    rw [hs env u]
    refine wpU_bind (wpU_pure (wpU_bind (wpU_standAt (wpU_bind (wpU_holding (wpU_mono (up (hI A _ ρ₁ s₁ u hA S₁.toH r)) (fun it s₂ hq => ?_) fun _ _ ⟨_, _, _, _, _, x, _⟩ => x.elim))))))
    obtain ⟨I, fp, St, e, IT, hSt, hk, hg, ho, hf⟩ := hq
    subst e
    have S₂ : Sim w KF fi env m F ρ₁ H₁ s₂.heap s₂.gens := by rw [hg]; exact S₁.keeps hk
    have off₂ := S₁.fresh hf
    have st₂ : Step ρ s ρ₁ s₂ := st₁.trans (.same (.of_keep hk) ho (by rw [hg]; exact Nat.le_refl _))
    unfold runOwn
    refine wpU_onRaise (wpU_mono (Q := StQ w KF fi env F ρ s Q) (E := fun _ _ => False) ?_ (fun _ _ x => x) fun _ _ x => x.elim)
    unfold run
    refine wpU_callT (h := none) (codeU_mono (R := fun r s' => match r with | .ok f => StQ w KF fi env F ρ s Q f s' | .error e => False) ?_ fun r s' hq => ?_) (fun q => nomatch q)
    · refine for_loopU (fun k s₃ => ∃ i ρ₃ m₃ H₃, Step ρ s ρ₃ s₃ ∧ Sim w KF fi env m₃ F ρ₃ H₃ s₃.heap s₃.gens ∧ St i ρ₃ s₃.heap ∧ FpOff fi env F ρ₃ fp ∧ J i m₃ H₃ ∧ i ≤ xs.length ∧ k = xs.length + 1 - i) ?_ (xs.length + 1) ⟨0, ρ₁, m, H₁, st₂, S₂, hSt, off₂, hJ0, Nat.zero_le _, rfl⟩
      rintro k s₃ ⟨i, ρ₃, m₃, H₃, st₃, S₃, hSt₃, off₃, hJ, hi, rfl⟩
      by_cases hlt : i < xs.length
      · refine wpU_mono (up (IT.item _ _ ρ₃ H₃ s₃ i xs[i] (fun _ _ => False) hA.hd S₃.toH (hJG _ _ _ hJ) hSt₃ (List.getElem?_eq_getElem hlt))) (fun r s₄ hq => ?_) fun _ _ x => x
        obtain ⟨v, e, rv, hSt₄, c₄⟩ := hq
        subst e
        have S₄ := S₃.chg off₃ c₄
        refine wpU_mono (up (IT.lot _ (i + 1) ρ₃ s₄ target v (fun _ _ => False) hSt₄)) (fun _ s₅ hq => ?_) fun _ _ x => x
        obtain ⟨hSt₅, c₅⟩ := hq
        have S₅ := S₄.chg off₃ c₅
        have st₅ := (st₃.trans c₄.step).trans c₅.step
        have hl := IT.live _ _ _ hSt₅
        refine wpU_mono (up (hT i _ m₃ H₃ (List.getElem?_eq_getElem hlt) hJ _ env (addF F s₅.heap _) ρ₃ s₅ v hA (S₅.rebase off₃) (rv.mono (List.prefix_refl _) c₅.2.2.1))) (fun _ s₆ hq => ?_) fun _ _ x => se_no x
        obtain ⟨ρ₆, H₆, m₆, st₆, S₆, h₆⟩ := hq
        have st₆' := st₅.trans st₆
        refine wpU_mono ((show WBU prog w KF fi d E m₆ H₆ body (KFor J i Q) from h₆) _ env (addF F s₅.heap _) ρ₆ s₆ hA S₆) (fun f s₇ hq => ?_) fun _ _ x => se_no x
        obtain ⟨ρ₇, H₇, m₇, fl, st₇, S₇, rf, h₇⟩ := hq
        obtain ⟨U, offU, kU⟩ := S₅.unbase off₃ hl (st₆.trans st₇).1 (st₆.trans st₇).2.2.2 S₇
        have st₇' := st₆'.trans st₇
        have hSt₇ : St (i + 1) ρ₇ s₇.heap := IT.frame _ _ _ _ _ hSt₅ (st₆.trans st₇).1 (st₆.trans st₇).2.1 kU
        cases fl with
        | next => cases rf; exact ⟨xs.length + 1 - (i + 1), by omega, i + 1, ρ₇, m₇, H₇, st₇', U, hSt₇, offU, h₇, hlt, rfl⟩
        | cont => cases rf; exact ⟨xs.length + 1 - (i + 1), by omega, i + 1, ρ₇, m₇, H₇, st₇', U, hSt₇, offU, h₇, hlt, rfl⟩
        | brk => cases rf; exact ⟨ρ₇, H₇, m₇, .next, st₇', U, rfl, h₇⟩
        | ret v => obtain ⟨u, rfl, r⟩ := rf; exact ⟨ρ₇, H₇, m₇, .ret v, st₇', U, ⟨u, rfl, r⟩, h₇⟩
      · have hin : i = xs.length := by omega
        subst hin
        refine wpU_mono (up (IT.done _ _ ρ₃ H₃ s₃ (fun _ _ => False) hA.hd S₃.toH (hJG _ _ _ hJ) hSt₃)) (fun r s₄ hq => ?_) fun _ _ x => x
        obtain ⟨e, c₄⟩ := hq
        subst e
        exact ⟨ρ₃, H₃, m₃, .next, st₃.trans c₄.step, S₃.chg off₃ c₄, rfl, hD _ _ hJ⟩
    · cases r with
      | ok f => exact wpU_pure (M := model prog w) hq
      | error e => exact hq.elim
end
end Mine
end
section
open PySem PySem.W PyProof.Rows PySem.W.X PySem.SeqAt
namespace Mine
section
variable {prog : Program} {w : World} {A : Around} {s : Shared} {R : Result → Shared → Prop}
theorem codeU_func {body : List Stmt} {env : Env} (h : wpU (model prog w) (A.deeper env) (execs body env) (fun f s' => R (.ok (.ret (match f with | .ret v => v | _ => .none))) s') (fun _ _ => False) s) : codeU (model prog w) A (.func body env) R s := by
  refine codeU_of ?_
  show wpU _ (A.deeper env) (do point; match ← (execs body env).onRaise (leaving env) with | .ret v => ret v | _ => ret .none) _ _ s
  refine wpU_bind (up (wpAny_point (wpU_bind (wpU_onRaise (wpU_mono h (fun f s' h' => ?_) fun _ _ x => x.elim)))))
  cases f <;> exact wpU_pure h'
theorem codeU_call {a : Addr} {args : Args} {o : Obj} {fd : FuncData} {body : List Stmt} {E : Value → Shared → Prop} (hroom : A.depth < recursionLimit) (ho : s.heap.get? a = some o)
    (hd' : o.data = .func fd) (hco : fd.scope.isCoroutine = false) (hgen : fd.scope.isGenerator = false) (hbody : fd.body = .stmts body) (hcd : s.heap.CodeRec fd.code fd.qualname)
    (h : wpAny (model prog w) A.in1 (bindArgs fd args) (fun binds s₁ =>
      wpAny (model prog w) A.in1 (newFunctionEnv fd.scope fd.globals fd.closure binds (fd.qualname ++ ".<locals>.") (some a) fd.code none fd.builtins)
        (fun env s₂ => s₂.heap.NoLimit ∧ codeU (model prog w) A (.func body env) R s₂) (fun e s' => R (.error e) s') s₁) (fun e s' => R (.error e) s') s) :
    codeU (model prog w) A (.call (.ref a) args) R s := by
  refine codeU_of (up ?_)
  show wpAny _ A.in1 (callAny (.ref a) args) _ _ s
  simp only [callAny]
  refine wpAny_bind (wpAny_load ho ?_)
  obtain ⟨c, oc, vs, tq, hc, hoc, hdc, hq⟩ := hcd
  simp only [hd', callFunction, hco, hgen, hbody, hc]
  rw [hc] at h
  refine wpAny_bind (m := field (.ref c) 1) (wpAny_field hoc hdc hq (wpAny_bind (wpAny_pure ?_)))
  refine wpAny_bind (wpAny_mono h (fun binds s₁ h₁ => wpAny_bind (wpAny_mono h₁ (fun env s₂ h₂ => ?_) fun _ _ x => x)) fun _ _ x => x)
  exact wpAny_bind (wpAny_enterFrame h₂.1 hroom (wpAny_pure ⟨rfl, h₂.2⟩))
theorem wpU_runValue {c : Code} {Q : Value → Shared → Prop} {E : Value → Shared → Prop} (h : codeU (model prog w) A c (fun r s' => match r with | .ok (.ret v) => Q v s' | .ok _ => False | .error e => E e s') s) : wpU (model prog w) A (runValue c) Q E s := by
  unfold runValue
  refine wpU_bind ?_
  unfold run
  refine wpU_callT (h := none) (codeU_mono h fun r s' hq => ?_) (fun q => nomatch q)
  cases r with
  | error e => exact wpU_throw hq
  | ok f =>
    cases f with
    | ret v => exact wpU_pure (M := model prog w) (wpU_pure hq)
    | _ => exact hq.elim
end
section
variable {prog : Program} {w : World} {KF : Frag} {d : Nat} {E : HEP} {H : List O} {a : Nat} {o : Obj} {fd : FuncData} {body : List Stmt} {sc : Scope} {ps : List Str} {xs : List V}
/-- a function called whose body drives such a generator -/
theorem wu_fn {Q : V → List O → Prop} (K : FnOk KF a o fd body sc ps) (hgen : sc.isGenerator = false) (hlen : xs.length = ps.length)
    (h : WBU prog w KF ⟨sc, true, fd.code⟩ d (fun _ _ _ => False) (initN sc ps xs) H body (KFn Q)) : CallU prog w KF (d + 1) E H (.st a) xs Q :=
  fun A F ρ s u us hA S ru r => by
    have hsc := K.hsc
    subst hsc
    unfold VR at ru
    subst ru
    obtain ⟨ho, hcd⟩ := fn_code K.toFnB S.b
    have hul : us.length = ps.length := r.len.trans hlen
    refine wpU_runValue (codeU_call (E := fun _ _ => False) hA.depth ho K.hd K.hco hgen K.hb hcd ?_)
    rw [K.hbd us hul, K.hcl]
    refine wpAny_pure (wpAny_newFunctionEnv_cells K.hk (fun x hx => ?_) fun env he s₁ X => ?_)
    · have hx1 : x.1 ∈ ps := by rw [← zip_keys hul]; exact List.mem_map.mpr ⟨x, hx, rfl⟩
      rcases K.hkd x.1 hx1 with q | q
      · exact .inl q
      · obtain ⟨c, hc⟩ := cells_has (n := s.heap.objs.size + 1) (mem_of_lookup q)
        exact .inr ⟨q, by rw [nodup_lookup (cells_nodup K.hnd) hc]; rfl⟩
    · subst he
      obtain ⟨st₁, S₁⟩ := enter_sim K.toFnB hlen S r X
      refine ⟨S₁.b.lim, codeU_func ?_⟩
      refine wpU_mono (h _ _ F ρ s₁ (hA.deeper rfl) S₁) (fun f s₂ hq => ?_) (fun _ _ x => (se_no x).elim)
      obtain ⟨ρ₂, H₂, m₂, fl, st₂, S₂, rf, h₂⟩ := hq
      cases fl with
      | next => cases rf; exact ⟨ρ₂, H₂, .none, st₁.trans st₂, S₂.hs, by unfold VR; rfl, h₂⟩
      | ret v => obtain ⟨u, rfl, r⟩ := rf; exact ⟨ρ₂, H₂, v, st₁.trans st₂, S₂.hs, r, h₂⟩
      | brk => exact h₂.elim
      | cont => exact h₂.elim
end
end Mine
end
section
open PySem PySem.W PyProof.Rows PySem.W.X PySem.SeqAt
namespace Mine
section
variable {prog : Program} {w : World} {A : Around} {s : Shared} {R : Result → Shared → Prop} {E : Value → Shared → Prop}
theorem codeU_builtin {id : String} {args : Args} {b : Builtin} (hb : entryFor table id = some b) (h : wpU (model prog w) (A.under (.builtin id args)) (b args) (finU (model prog w) A R) (fun e s' => R (.error e) s') s) : codeU (model prog w) A (.builtin id args) R s := by
  refine codeU_of ?_
  show wpU _ _ (match entryFor table id with | some b => b args | none => unsupported ((withoutEnding? id "#data").getD id)) _ _ s
  rw [hb]; exact h
theorem codeU_call_builtin {id : String} {args : Args} {b : Builtin} (hq : plainId id = true) (hb : entryFor table id = some b)
    (h : wpAny (model prog w) A.in1 (checkBuiltinCall id args) (fun _ s₁ => wpU (model prog w) A.in1 (b args) (finU (model prog w) A R) (fun e s' => R (.error e) s') s₁) (fun e s' => R (.error e) s') s) : codeU (model prog w) A (.call (.builtin id) args) R s := by
  refine codeU_of ?_
  show wpU _ A.in1 (do checkBuiltinCall id args; again (.builtin id args)) _ _ s
  refine wpU_bind (up (wpAny_mono h (fun _ s₁ h₁ => ?_) fun _ _ x => x))
  exact wpU_pure (M := model prog w) ⟨plainId_quiet hq args, codeU_builtin hb (by rw [Around.under_plainId hq args]; exact h₁)⟩
theorem wpU_ite_false {α : Type} {b : Prop} [Decidable b] {x y : Sem α} {Q : α → Shared → Prop} (hb : ¬ b) (h : wpU (model prog w) A y Q E s) : wpU (model prog w) A (if b then x else y) Q E s := by rw [if_neg hb]; exact h
theorem wpU_ite_true {α : Type} {b : Prop} [Decidable b] {x y : Sem α} {Q : α → Shared → Prop} (hb : b) (h : wpU (model prog w) A x Q E s) : wpU (model prog w) A (if b then x else y) Q E s := by rw [if_pos hb]; exact h
theorem call_listU {x : Value} {Q : Value → Shared → Prop}
    (hI : ∀ s₁ : Shared, s₁ = { s with heap := s.heap.push { cls := .type "list", data := .seq #[] } } → wpU (model prog w) A.in1.in1 (Builtin.«list.__init__» ⟨[.ref s.heap.objs.size, x], []⟩) (finU (model prog w) A.in1 (fun r s' => match r with | .ok (.ret .none) => Q (.ref s.heap.objs.size) s' | .error e => E e s' | _ => False)) (fun e s' => E e s') s₁) : wpU (model prog w) A (call (.type "list") [x]) Q E s := by
  obtain ⟨c, tl, hmro⟩ := F.called_list.mro
  have hmade := F.called_list.made
  have hsub := F.called_list.sub
  have hct := F.typeCall_list_1 x
  have h1 := F.called_list.notType
  have h2 := F.called_list.canCreate
  refine wpU_runValue (codeU_of ?_)
  show wpU _ _ (callAny (.type "list") _) _ _ _
  refine wpU_pure (M := model prog w) ⟨Code.quiet_builtin _ (by decide +kernel), codeU_builtin F.entry_type_call ?_⟩
  rw [Around.under_plain (weight_type_call_type "list" [x] []) rfl]
  unfold Builtin.«type.__call__»
  dsimp only
  refine wpU_ite_false (by simp [h1]) ?_
  refine wpU_ite_false (by simp [h2]) ?_
  refine wpU_bind (up (wpAny_of_eq hct ?_))
  refine wpU_bind (up (wpAny_of_eq hmro ?_))
  refine wpU_ite_false (by simp) ?_
  refine wpU_bind (up (wpAny_of_eq hmade ?_))
  refine wpU_bind (up (wpAny_pure ?_))
  refine wpU_bind (wpU_holding (up (wpAny_call (codeAny_mono (code_list_new (Q₁ := fun obj s₁ => obj = .ref s.heap.objs.size ∧ s₁ = { s with heap := s.heap.push { cls := .type "list", data := .seq #[] } }) (E := fun _ _ => False) x ⟨rfl, rfl⟩) fun r s₁ hr => ?_))))
  cases r with
  | error e => exact (show False from hr).elim
  | ok fl =>
    cases fl with
    | ret obj =>
      obtain ⟨rfl, rfl⟩ := (show obj = _ ∧ s₁ = _ from hr)
      have hS : (s.heap.push { cls := .type "list", data := .seq #[] }).get? s.heap.objs.size = some { cls := .type "list", data := .seq #[] } := Heap.get?_push_size _ rfl
      have hT : ({ s with heap := s.heap.push { cls := .type "list", data := .seq #[] } } : Shared).TypeIs (.ref s.heap.objs.size) "list" := ⟨_, hS, rfl⟩
      show wpU _ _ _ _ _ _
      refine wpU_bind (up (wpAny_isInstance hT hsub ?_))
      refine wpU_ite_false (by simp) ?_
      refine wpU_bind (wpU_holding ?_)
      have hli := F.called_list.init.lookup
      have hbi := F.called_list.init.bind (.ref s.heap.objs.size)
      simp only [callSpecial?]
      refine wpU_bind (up (wpAny_specialOf hT hli ?_))
      simp only [hbi]
      refine wpU_holding (wpU_bind (up (wpAny_pure (wpU_bind (wpU_runValue (codeU_call_builtin F.called_list.init.plain F.entry_list_init (F.called_list.init.check _ _ _ _ _ _ _ _ hT (F.args_list_init_2 _ _) (wpU_mono (hI _ rfl) (fun fin s₂ hq => ?_) fun _ _ q => q))))))))
      cases fin with
      | again c => exact ⟨hq.1, codeU_mono hq.2 fun r s₃ hr => by
          cases r with
          | error e => exact hr
          | ok fl =>
            cases fl with
            | ret v =>
              cases v with
              | none => exact wpU_pure (M := model prog w) (wpU_ite_false (by simp) (wpU_pure (M := model prog w) hr))
              | _ => exact (show False from hr).elim
            | _ => exact (show False from hr).elim⟩
      | done f =>
        cases f with
        | ret v =>
          cases v with
          | none => exact wpU_pure (M := model prog w) (wpU_ite_false (by simp) (wpU_pure (M := model prog w) hq))
          | _ => exact (show False from hq).elim
        | _ => exact (show False from hq).elim
    | _ => exact (show False from hr).elim
end
/-- a generator drawn to its end, into the list at S -/
structure DrainU (prog : Program) (w : World) (A : Around) (I S n : Nat) (P : Nat → Value → Prop) (St : Nat → Shared → Prop) (Fn : Shared → Prop) : Prop where
  ty : ∀ i s, St i s → s.TypeIs (.ref I) "generator"
  frame : ∀ i s s', St i s → (∀ b o, b ≠ S → s.heap.get? b = some o → s'.heap.get? b = some o) → (∃ acc c, s'.heap.get? S = some (listO acc c)) → s'.gens = s.gens → s'.os = s.os → St i s'
  item : ∀ i (s : Shared), i < n → St i s → wpU (model prog w) A (pyNext (.ref I)) (fun r s' => ∃ v, r = some v ∧ P i v ∧ St (i + 1) s' ∧ ∀ o, s.heap.get? S = some o → s'.heap.get? S = some o) (fun _ _ => False) s
  done : ∀ (s : Shared), St n s → wpU (model prog w) A (pyNext (.ref I)) (fun r s' => r = none ∧ Fn s' ∧ ∀ o, s.heap.get? S = some o → s'.heap.get? S = some o) (fun _ _ => False) s
  self : ∀ i (s : Shared) (Q : Value → Shared → Prop) (E : Value → Shared → Prop), St i s → Q (.ref I) s → wpAny (model prog w) A (pyIter (.ref I)) Q E s
section
variable {prog : Program} {w : World} {A : Around} {I S n : Nat} {P : Nat → Value → Prop} {St : Nat → Shared → Prop} {Fn : Shared → Prop}
theorem drain_loopU {R : Result → Shared → Prop} (W : DrainU prog w A.in1 I S n P St Fn) (hn : n ≤ sizeLine) (res : Value) (hR : ∀ s' acc c, Fn s' → s'.heap.get? S = some (listO acc c) → ItemsOf P acc n → R (.ok (.ret res)) s') :
    ∀ (k i : Nat) (s : Shared) (acc : Array Value) (c : Nat), n - i = k → i ≤ n → St i s → s.heap.get? S = some (listO acc c) → ItemsOf P acc i →
    codeU (model prog w) A (.builtin "list.extend.loop" ⟨[.ref S, .ref I, res], []⟩) R s := by
  intro k
  induction k with
  | zero =>
    intro i s acc c hk hi hst hS hacc
    have hin : i = n := by omega
    subst hin
    refine codeU_builtin F.entry_extend_loop ?_
    rw [Around.under_plainId F.plain_extend_loop _]
    show wpU _ A.in1 (pyNext (.ref I) >>= _) _ _ s
    refine wpU_bind (wpU_mono (W.done s hst) (fun r s' hq => ?_) fun _ _ x => x.elim)
    obtain ⟨rfl, hm, hk'⟩ := hq
    exact wpU_pure (M := model prog w) (hR s' acc c hm (hk' _ hS) hacc)
  | succ k ih =>
    intro i s acc c hk hi hst hS hacc
    have hlt : i < n := by omega
    refine codeU_builtin F.entry_extend_loop ?_
    rw [Around.under_plainId F.plain_extend_loop _]
    show wpU _ A.in1 (pyNext (.ref I) >>= _) _ _ s
    refine wpU_bind (wpU_mono (W.item i s hlt hst) (fun r s' hq => ?_) fun _ _ x => x.elim)
    obtain ⟨v, rfl, hP, hst', hk'⟩ := hq
    have hS' := hk' _ hS
    show wpU _ A.in1 (updateSeq S (·.push v) >>= _) _ _ _
    refine wpU_bind (up ?_)
    have hS₂ := Heap.get?_update_self (h := s'.heap) (a := S) (Obj.mapSeq (·.push v)) hS' rfl
    refine wpAny_updateSeq hS' rfl (wpU_pure (M := model prog w) ⟨plainId_quiet F.plain_extend_loop _, ih (i + 1) _ (acc.push v) _ (by omega) hlt
      (W.frame _ s' _ hst' (fun b o hb e => (Heap.get?_update_other _ _ (Ne.symm hb)).trans e) ⟨_, _, hS₂⟩ rfl rfl) hS₂ (hacc.push hP)⟩) (by rw [hacc.1]; omega) (by show (acc.push v).size ≤ sizeLine + 1; rw [Array.size_push, hacc.1]; omega)
theorem drain_initU {R : Result → Shared → Prop} {E : Value → Shared → Prop} {s : Shared} (W : DrainU prog w A.in1 I S n P St Fn) (hst : St 0 s) (hSI : S ≠ I) (hS : s.heap.get? S = some (listO #[] 0))
    (hR : ∀ s' acc c, Fn s' → s'.heap.get? S = some (listO acc c) → ItemsOf P acc n → R (.ok (.ret .none)) s') (hn : n ≤ sizeLine) :
    wpU (model prog w) A.in1 (Builtin.«list.__init__» ⟨[.ref S, .ref I], []⟩) (finU (model prog w) A R) E s := by
  show wpU _ A.in1 (do let old ← Builtin.List.listItems (.ref S); Builtin.List.listUpdate (.ref S) (fun _ => #[]); letGo old.toList.reverse; Builtin.List.listExtendWith (.ref S) (.ref I) .none) _ _ s
  refine wpU_bind (up ?_)
  unfold Builtin.List.listItems
  refine wpAny_bind (wpAny_seqItems hS rfl (wpAny_pure ?_))
  show wpU _ A.in1 (updateSeq S (fun _ => #[]) >>= fun _ => letGo (#[] : Array Value).toList.reverse >>= fun _ => Builtin.List.listExtendWith (.ref S) (.ref I) .none) _ _ s
  refine wpU_bind (up (wpAny_updateSeq hS rfl (wpU_bind (up (wpAny_letGo ?_)))))
  have hS₁ := Heap.get?_update_self (h := s.heap) (a := S) (Obj.mapSeq (fun _ => (#[] : Array Value))) hS rfl
  have st₁ : St 0 { s with heap := s.heap.update S (Obj.mapSeq (fun _ => (#[] : Array Value))) } := W.frame 0 s _ hst (fun b o hb e => (Heap.get?_update_other _ _ (Ne.symm hb)).trans e) ⟨_, _, hS₁⟩ rfl rfl
  unfold Builtin.List.listExtendWith
  refine wpU_bind (up (wpAny_typeOf (W.ty 0 _ st₁) ?_))
  have h1 : Builtin.List.listSameRef (.ref S) (.ref I) = false := by simp [Builtin.List.listSameRef, hSI]
  have h2 : (Value.type "generator" == Value.type "list") = false := by decide
  have h3 : (Value.type "generator" == Value.type "tuple") = false := by decide
  simp only [h1, h2, h3, Bool.or_false, Bool.false_eq_true, if_false]
  refine wpU_bind (up (W.self 0 _ _ _ st₁ ?_))
  refine wpU_bind (wpU_holding (up ?_))
  unfold Builtin.List.listLengthHint
  refine wpAny_bind (wpAny_specialOf (W.ty 0 _ st₁) F.gen_no_len ?_)
  show wpAny _ A.in1 (specialOf (Value.ref I) (Str.ofString "__length_hint__") >>= _) _ _ _
  refine wpAny_bind (wpAny_specialOf (W.ty 0 _ st₁) F.gen_no_hint ?_)
  refine wpAny_pure ?_
  show wpU _ A.in1 (rule "list.extend.makes-room" >>= fun _ => Builtin.List.listTouch (.ref S) >>= fun _ =>
    again (.builtin "list.extend.loop" ⟨[.ref S, .ref I, .none], []⟩)) _ _ _
  refine wpU_bind (up (wpAny_rule (wpU_bind (up ?_))))
  show wpAny _ A.in1 (updateSeq S (·.push .none) >>= fun _ => updateSeq S (·.pop)) _ _ _
  refine wpAny_bind (wpAny_updateSeq hS₁ rfl ?_)
  have hS₂ := Heap.get?_update_self (Obj.mapSeq (·.push Value.none)) hS₁ rfl
  refine wpAny_updateSeq (hz := by seq_fits) hS₂ rfl ?_
  have hS₃ := Heap.get?_update_self (Obj.mapSeq (·.pop)) hS₂ rfl
  exact wpU_pure (M := model prog w) ⟨plainId_quiet F.plain_extend_loop _, drain_loopU W hn _ hR n 0 _ _ _ rfl (Nat.zero_le _)
    (W.frame 0 _ _ st₁ (fun b o hb e => (Heap.get?_update_other _ _ (Ne.symm hb)).trans ((Heap.get?_update_other _ _ (Ne.symm hb)).trans e)) ⟨_, _, hS₃⟩ rfl rfl) hS₃ (ItemsOf.nil P)⟩
theorem drain_listU {s : Shared} {Q : Value → Shared → Prop} {E : Value → Shared → Prop} (W : DrainU prog w A.in1.in1 I s.heap.objs.size n P St Fn) (hI : I < s.heap.objs.size) (hn : n ≤ sizeLine)
    (hst : St 0 { s with heap := s.heap.push { cls := .type "list", data := .seq #[] } })
    (hQ : ∀ s' acc c, Fn s' → s'.heap.get? s.heap.objs.size = some (listO acc c) → ItemsOf P acc n → Q (.ref s.heap.objs.size) s') : wpU (model prog w) A (call (.type "list") [.ref I]) Q E s := by
  refine call_listU fun s₁ h₁ => ?_
  subst h₁
  have hS : (s.heap.push { cls := .type "list", data := .seq #[] }).get? s.heap.objs.size = some { cls := .type "list", data := .seq #[] } := Heap.get?_push_size _ rfl
  exact drain_initU W hst (Nat.ne_of_gt hI) hS (fun s' acc c hm hS' hacc => hQ s' acc c hm hS' hacc) hn
end
end Mine
end
section
open PySem PySem.W PyProof.Rows PySem.W.X PySem.SeqAt
namespace Mine
theorem GenAt.not_imm {h : Heap} {a g k} (x : GenAt h a g k) : ∀ o, h.get? a = some o → ¬ Imm o := fun o ho => by
  obtain ⟨o2, nm, qn, h2, hc, hd, _⟩ := x
  rw [h2] at ho; cases ho
  rintro (⟨⟨xs, n, q⟩, _⟩ | ⟨q, _⟩)
  · rw [hd] at q; cases q
  · rw [hc] at q; exact absurd q (by decide)
theorem close_gen : Slot "generator" "close" "generator.close" :=
  .of (owner := "generator") (n := "close") (by rw [typeLookup_type, builtinLookup_eq_fast]; kernel_rfl) (by decide +kernel) (by decide +kernel) (by decide +kernel)
    (by first | exact .inl (by decide +kernel) | exact .inr (by decide +kernel)) (by rw [isSubtype_type]; kernel_rfl)
section
variable {M : Model} {A : Around} {E : Value → Shared → Prop} {s : Shared}
theorem wpAny_genNumberK {a : Addr} {g : Nat} {Q : Nat → Shared → Prop} (hg : GenAt s.heap a g 0) (h : Q g s) : wpAny M A (Builtin.Generator.genNumber (.ref a)) Q E s := by
  obtain ⟨o, nm, qn, ho, _, hd, hsl⟩ := hg
  unfold Builtin.Generator.genNumber
  refine wpAny_bind (wpAny_load ho ?_)
  rcases hsl with ⟨hsl, _⟩ | hsl
  · rw [hsl, hd]
    show wpAny M A (pure ((g : Int).toNat)) Q E s
    rw [Int.toNat_natCast]; exact wpAny_pure h
  · rw [hsl, hd]
    show wpAny M A (pure ((g : Int).toNat)) Q E s
    rw [Int.toNat_natCast]; exact wpAny_pure h
/-- a delegator lies down over it, or gets up -/
theorem wpAny_sleptOver {a : Addr} {g : Nat} {k : Int} {more : Bool} {Q : Unit → Shared → Prop} (hg : GenAt s.heap a g k)
    (h : ∀ h', (∀ b o, b ≠ a → s.heap.get? b = some o → h'.get? b = some o) → GenAt h' a g (if more then k + 1 else k - 1) → Q () { s with heap := h' }) : wpAny M A (Builtin.Generator.sleptOver (.ref a) more) Q E s := by
  obtain ⟨o, nm, qn, ho, hc, hd, hsl⟩ := hg
  unfold Builtin.Generator.sleptOver
  refine wpAny_bind (wpAny_load ho ?_)
  have hcc : (o.cls != .type "generator") = false := by rw [hc]; decide
  rw [hcc]
  have key : ∀ n : Int, n = k → wpAny M A (setSlotAt a 0 (some (rawInt (if more then n + 1 else n - 1)))) Q E s := fun n hn => by
    subst hn
    unfold setSlotAt
    dsimp only
    rw [if_neg (show ¬ 0 ≥ sizeLine by decide)]
    refine wpAny_updatePart ho (h _ (fun b o' hb e => (Heap.get?_update_other _ _ (Ne.symm hb)).trans e) ?_)
    refine ⟨_, nm, qn, Heap.get?_update_self _ ho ?_, hc, hd, .inr ?_⟩
    · rw [hd]; rfl
    · rcases hsl with ⟨hsl, _⟩ | hsl
      · show (o.slots ++ _).setIfInBounds 0 _ = _
        rw [hsl]; rfl
      · show (o.slots ++ _).setIfInBounds 0 _ = _
        rw [hsl]; rfl
  rcases hsl with ⟨hsl, hk⟩ | hsl
  · rw [hsl]
    exact key 0 hk.symm
  · rw [hsl]
    exact key k rfl
end
section
variable {α : Type} {M : Model} {A : Around} {Y : YP} {R : Result → Shared → Prop} {E : Value → Shared → Prop} {s : Shared}
/-- a generator woken -/
theorem wpU_resume {g : Nat} {gs : GenState} {l : List Value} {k : GenResult → Sem α} {Q : α → Shared → Prop} (hgs : s.gens[g]? = some gs) (hgo : GoesU M A Y R gs (s.setGen g .running))
    (hY : ∀ v gs' s₁, Y v gs' s₁ → wpU M A (k (.yielded v)) Q E (s₁.setGen g gs')) (hR : ∀ r s₁, R r s₁ → wpU M A (k (End.ret r).result) Q E (s₁.setGen g .finished)) : wpU M A (.resume g (.send .none) l k) Q E s := by
  intro c p st hin K H gd lv Φ hK hH
  cases gs with
  | fresh c' =>
    refine ev_step (step_resume_fresh M s c p st (lv l) _ hgs) ?_
    exact hgo p st g (fun x => (k x).wrap K H gd lv) (lv l) c p Φ hin (fun v gs' s' hv => hY v gs' s' hv c p st hin K H gd lv Φ hK hH) fun r s' hr => hR r s' hr c p st hin K H gd lv Φ hK hH
  | suspended k₀ l₀ c₀ p₀ fs cl =>
    refine ev_step (step_resume_suspended M s c p st (.send .none) (lv l) _ hgs) ?_
    exact hgo p₀ st g (fun x => (k x).wrap K H gd lv) (lv l) c p Φ hin (fun v gs' s' hv => hY v gs' s' hv c p st hin K H gd lv Φ hK hH) fun r s' hr => hR r s' hr c p st hin K H gd lv Φ hK hH
  | running => exact hgo.elim
  | finished => exact hgo.elim
end
/-- a StopIteration without a value -/
noncomputable def StopAt (h : Heap) (a : Addr) : Prop := ∃ o vs, h.get? a = some o ∧ o.cls = .type "StopIteration" ∧ o.data = .fields vs ∧ vs[5]? = some .none
section
variable {prog : Program} {w : World} {A : Around} {Y : YP} {R : Result → Shared → Prop} {s : Shared}
end
end Mine
end
section
open PySem PySem.W PyProof.Rows PySem.W.X PySem.SeqAt
namespace Mine
section
variable {X : GU} {L : Held} {m m' : Names} {H H' : List O} {ρ ρ' : List Ent} {s s' s'' : Shared}
end
section
variable (M : Model) (A : Around) (X : GU) (Qe : List O → Prop)
end
/-- frames above a generator's own -/
structure FsOk (fs : List Frame) : Prop where
  sp : splitAtGen fs = none
  gd : fs.any Frame.guarded = false
theorem FsOk.nil : FsOk [] := ⟨rfl, rfl⟩
theorem FsOk.ret {fs : List Frame} (h : FsOk fs) {k l c p kp} : FsOk (.ret k none false l c p kp :: fs) := ⟨by
  have := h.sp
  simp only [splitAtGen]
  rw [this]; rfl, by rw [List.any_cons, h.gd]; rfl⟩
section
variable (prog : Program) (X : GU) (L : Held) (xs : List Str) (Qe : List O → Prop) (A : Around) (c : Code) (fs : List Frame)
end
section
variable {M : Model} {A : Around} {Y : YP} {R : Result → Shared → Prop} {c : Code} {fs : List Frame} {s : Shared}
theorem segU_bw {α β : Type} {x : Sem α} {k : α → Sem β} {K : β → Sem Fin} {Hd : Value → Sem Fin} {gd lv} (h : wpU M (A.over c fs) x (fun a s' => SegU M A Y R c ((k a).wrap K Hd gd lv) fs s') (fun e s' => SegU M A Y R c (Hd e) fs s') s) : SegU M A Y R c ((x >>= k).wrap K Hd gd lv) fs s := by
  rw [Sem.bind_eq_wrap', Sem.wrap_wrap]; exact segU_wrap h
end
section
variable {prog : Program} {X : GU} {L : Held} {xs : List Str} {Qe : List O → Prop} {A : Around} {c : Code} {fs : List Frame} {d : Nat} {m : Names} {H : List O} {K : Flow → Sem Fin} {Hd : Value → Sem Fin}
end
theorem over_ret {A : Around} {c c' : Code} {fs : List Frame} {k : Result → Sem Fin} {g l p kp} : (A.over c' (.ret k none g l c p kp :: fs)).handled = (A.over c fs).handled ∧ (A.over c' (.ret k none g l c p kp :: fs)).depth = (A.over c fs).depth + c'.weight ∧ (A.over c' (.ret k none g l c p kp :: fs)).units = (A.over c fs).units + c'.cUnits := by
  refine ⟨rfl, ?_, ?_⟩
  · show A.depth + frameCount ((c, p) :: fs.map Frame.where_) + c'.weight = A.depth + frameCount (fs.map Frame.where_) + c.weight + c'.weight
    rw [frameCount_cons]; omega
  · show A.units + unitsOf ((c, p) :: fs.map Frame.where_) + c'.cUnits = A.units + unitsOf (fs.map Frame.where_) + c.cUnits + c'.cUnits
    have : unitsOf ((c, p) :: fs.map Frame.where_) = c.cUnits + unitsOf (fs.map Frame.where_) := by simp [unitsOf]
    omega
theorem pushEnvs_app (a b : List Env) (x : Option (List Env)) : pushEnvs (a ++ b) x = pushEnvs a (pushEnvs b x) := by
  rw [pushEnvs_eq, pushEnvs_eq, pushEnvs_eq]
  cases x with
  | none => rfl
  | some l => show some ((a ++ b) ++ l) = some (a ++ (b ++ l)); rw [List.append_assoc]
theorem over_fr {A : Around} {c c' : Code} {fs : List Frame} {k : Result → Sem Fin} {g l p kp} : (A.over c' (.ret k none g l c p kp :: fs)).frames = pushEnvs c'.envs (A.over c fs).frames := by
  show pushEnvs c'.envs (pushEnvs (envsOf ((c, p) :: fs.map Frame.where_)) A.frames) = pushEnvs c'.envs (pushEnvs c.envs (pushEnvs (envsOf (fs.map Frame.where_)) A.frames))
  rw [envsOf_cons, pushEnvs_app]
theorem Room.ret {A : Around} {c c' : Code} {fs : List Frame} {k : Result → Sem Fin} {g l p kp} {d : Nat} {lf : List Env} (h : Room (A.over c fs) d lf) (hw : c'.weight = 0) (hu : c'.cUnits = 0) : Room (A.over c' (.ret k none g l c p kp :: fs)) d lf := by
  obtain ⟨h1, h2, h3⟩ := over_ret (A := A) (c := c) (c' := c') (fs := fs) (k := k) (g := g) (l := l) (p := p) (kp := kp)
  refine ⟨by rw [over_fr, Code.envs_of_weight hw]; exact h.fr, h1.trans h.hd, ?_, ?_⟩
  · rw [h2, hw]; exact h.dp
  · rw [h3, hu]; exact h.un
section
variable {X : GU} {L : Held} {m m' : Names} {H H' : List O} {ρ ρ' : List Ent} {s s' s'' : Shared} {fp : List Nat} {S S' : List Ent → Heap → Prop} {hS hS'}
end
section
variable {prog : Program} {X : GU} {L : Held} {Qe : List O → Prop} {A : Around} {c : Code} {fs : List Frame} {d : Nat} {m : Names} {H : List O} {K : Flow → Sem Fin} {Hd : Value → Sem Fin}
end
theorem as_get {ρ ρ' : List Ent} (q : ρ.map (·.a) = ρ'.map (·.a)) {i : Nat} {e : Ent} (h : ρ[i]? = some e) : ∃ e', ρ'[i]? = some e' ∧ e'.a = e.a := by
  have : (ρ'.map (·.a))[i]? = some e.a := by rw [← q, List.getElem?_map, h]; rfl
  rw [List.getElem?_map] at this
  cases h' : ρ'[i]? with
  | none => rw [h'] at this; cases this
  | some e' => rw [h'] at this; exact ⟨e', rfl, Option.some.inj this⟩
mutual
theorem VR.ents {ρ ρ' : List Ent} {h : Heap} (q : ρ.map (·.a) = ρ'.map (·.a)) : ∀ {x : V} {v : Value}, VR ρ h x v → VR ρ' h x v
  | .none, v, r => by unfold VR at r ⊢; exact r
  | .bool b, v, r => by unfold VR at r ⊢; exact r
  | .int i, v, r => by unfold VR at r ⊢; exact r
  | .flt x, v, r => by unfold VR at r ⊢; exact r
  | .str x, v, r => by unfold VR at r ⊢; exact r
  | .ty n, v, r => by unfold VR at r ⊢; exact r
  | .bi n, v, r => by unfold VR at r ⊢; exact r
  | .st a, v, r => by unfold VR at r ⊢; exact r
  | .ref i, v, r => by unfold VR at r ⊢; obtain ⟨e, he, z⟩ := r; obtain ⟨e', h1, h2⟩ := as_get q he; exact ⟨e', h1, by rw [h2]; exact z⟩
  | .rng a b, v, r => by unfold VR at r ⊢; exact r
  | .tup xs, v, r => by unfold VR at r ⊢; obtain ⟨a, vs, z, y, w⟩ := r; exact ⟨a, vs, z, y, VRs.ents q w⟩
  | .sub c xs, v, r => by unfold VR at r ⊢; obtain ⟨a, vs, z, y, w⟩ := r; exact ⟨a, vs, z, y, VRs.ents q w⟩
theorem VRs.ents {ρ ρ' : List Ent} {h : Heap} (q : ρ.map (·.a) = ρ'.map (·.a)) : ∀ {xs : List V} {vs : List Value}, VRs ρ h xs vs → VRs ρ' h xs vs
  | [], vs, r => by unfold VRs at r ⊢; exact r
  | x :: xs, vs, r => by unfold VRs at r ⊢; obtain ⟨v, t, e, a, b⟩ := r; exact ⟨v, t, e, VR.ents q a, VRs.ents q b⟩
end
theorem OVR.ents {ρ ρ' : List Ent} {h : Heap} (q : ρ.map (·.a) = ρ'.map (·.a)) : ∀ {x : Option V} {v : Option Value}, OVR ρ h x v → OVR ρ' h x v
  | none, _, _ => trivial
  | some _, some _, r => VR.ents q r
  | some _, none, r => r.elim
theorem FrameAt.ents {fi : FI} {env : Env} {m : Names} {ρ ρ' : List Ent} {h : Heap} (f : FrameAt fi env m ρ h) (q : ρ.map (·.a) = ρ'.map (·.a)) : FrameAt fi env m ρ' h :=
  ⟨f.es, f.eg, f.eb, f.ec, f.ek, f.ef, let ⟨mv, a, b⟩ := f.ns; ⟨mv, a, fun x hx => (b x hx).ents q⟩, fun x c hc => let ⟨ov, a, b⟩ := f.cl x c hc; ⟨ov, a, b.ents q⟩, f.ce, f.cn, f.cu, f.cd⟩
theorem OR.ents {F : Base} {ρ ρ' : List Ent} {h : Heap} {e : Ent} {o : O} (x : OR F ρ h e o) (q : ρ.map (·.a) = ρ'.map (·.a)) : OR F ρ' h e o := by
  cases o with
  | list xs => obtain ⟨a, b, vs, l, r⟩ := x; exact ⟨a, b, vs, l, r.ents q⟩
  | arr xs => obtain ⟨a, b, ⟨vs, l, r⟩, f⟩ := x; exact ⟨a, b, ⟨vs, l, r.ents q⟩, f⟩
  | inst C fs =>
    obtain ⟨a, dx, b, o, mA, h1, h2, h3, h4, h6, h7⟩ := x
    refine ⟨a, dx, b, o, mA, h1, h2, h3, h4, h6, fun n => ?_⟩
    have := h7 n
    split at this
    · obtain ⟨u, h1, h2⟩ := this; exact ⟨u, h1, h2.ents q⟩
    · exact this
  | tbl P ps => exact x
  | fresh fi body m => obtain ⟨g, env, h1, h2, h3, h4, h5, h6⟩ := x; exact ⟨g, env, h1, h2, h3, h4, h5, h6.ents q⟩
  | gone => exact x
  | done => exact x
  | slp a fi m rest k y n => obtain ⟨h0, g, env, h1, h2, h3, h4, h5, h6⟩ := x; exact ⟨h0, g, env, h1, h2, h3, h4, h5, h6.ents q⟩
  | tit I xs i => obtain ⟨z, a, b, r, vs, h1, h2, h3⟩ := x; exact ⟨z, a, b, r, vs, h1, h2, h3.ents q⟩
  | lit I l i =>
    obtain ⟨z, a, b, e', he', h1⟩ := x
    obtain ⟨e2, h2, h3⟩ := as_get q he'
    exact ⟨z, a, b, e2, h2, by rw [h3]; exact h1⟩
  | rit I lo n => exact x
theorem set_as {ρ : List Ent} {i : Nat} {e f : Ent} (h : ρ[i]? = some e) (ha : f.a = e.a) : (ρ.set i f).map (·.a) = ρ.map (·.a) := by
  refine List.ext_getElem? fun j => ?_
  rw [List.getElem?_map, List.getElem?_map]
  by_cases q : i = j
  · subst q
    rw [List.getElem?_set_self (List.getElem?_eq_some_iff.mp h).1, h]
    exact congrArg some ha
  · rw [List.getElem?_set_ne q]
theorem set_gs {ρ : List Ent} {i : Nat} {e f : Ent} (h : ρ[i]? = some e) (ha : f.g = e.g) : (ρ.set i f).filterMap (·.g) = ρ.filterMap (·.g) := by
  induction ρ generalizing i with
  | nil => cases h
  | cons x ρ ih =>
    cases i with
    | zero => cases h; simp [List.filterMap_cons, ha]
    | succ i => simp only [List.set_cons_succ, List.filterMap_cons, ih (i := i) h]
theorem fps_set_perm {ρ : List Ent} {i : Nat} {e f : Ent} (h : ρ[i]? = some f) (hf : f.fp = []) : (fps (ρ.set i e)).Perm (e.fp ++ fps ρ) := by
  induction ρ generalizing i with
  | nil => cases h
  | cons x ρ ih =>
    cases i with
    | zero =>
      cases h
      show (e.fp ++ fps ρ).Perm (e.fp ++ (f.fp ++ fps ρ))
      rw [hf]; exact .refl _
    | succ i =>
      show (x.fp ++ fps (ρ.set i e)).Perm (e.fp ++ (x.fp ++ fps ρ))
      refine ((ih (i := i) h).append_left x.fp).trans ?_
      rw [← List.append_assoc, ← List.append_assoc]
      exact List.perm_append_comm.append_right _
theorem fps_set_sub {ρ : List Ent} {i : Nat} {f : Ent} (hf : f.fp = []) : (fps (ρ.set i f)).Sublist (fps ρ) := by
  induction ρ generalizing i with
  | nil => exact .slnil
  | cons x ρ ih =>
    cases i with
    | zero =>
      show (f.fp ++ fps ρ).Sublist (x.fp ++ fps ρ)
      rw [hf]; exact List.sublist_append_right _ _
    | succ i => exact (List.Sublist.refl x.fp).append ih
theorem fps_set_off {ρ : List Ent} (nd : (fps ρ).Nodup) {i : Nat} {e f : Ent} (h : ρ[i]? = some e) (hf : f.fp = []) {b : Nat} (hb : b ∈ e.fp) : b ∉ fps (ρ.set i f) := fun q => by
  obtain ⟨x, hx, hbx⟩ := List.mem_flatMap.mp q
  obtain ⟨j, hj, rfl⟩ := List.mem_iff_getElem.mp hx
  have hj' := List.getElem?_eq_getElem hj
  by_cases z : i = j
  · subst z
    have : (ρ.set i f)[i]'hj = f := List.getElem_set_self hj
    rw [this, hf] at hbx; cases hbx
  · rw [List.getElem?_set_ne z] at hj'
    exact fps_apart nd h hj' z hb hbx
theorem gn_apart {ρ : List Ent} (nd : ((ρ.filterMap (·.g)).map (·.1)).Nodup) {i j : Nat} {e f : Ent} (hi : ρ[i]? = some e) (hj : ρ[j]? = some f) (hij : i ≠ j) {x y : Nat × Env} (hx : e.g = some x) (hy : f.g = some y) : x.1 ≠ y.1 := by
  induction ρ generalizing i j with
  | nil => cases hi
  | cons z ρ ih =>
    have mem : ∀ {k : Nat} {u : Ent} {v : Nat × Env}, ρ[k]? = some u → u.g = some v → v.1 ∈ (ρ.filterMap (·.g)).map (·.1) := fun hk hu => List.mem_map.mpr ⟨_, List.mem_filterMap.mpr ⟨_, List.mem_of_getElem? hk, hu⟩, rfl⟩
    have nd' : ((ρ.filterMap (·.g)).map (·.1)).Nodup := by
      cases hz : z.g with
      | none => simpa [List.filterMap_cons, hz] using nd
      | some w => exact (List.nodup_cons.mp (by simpa [List.filterMap_cons, hz] using nd)).2
    have nz : ∀ w, z.g = some w → w.1 ∉ (ρ.filterMap (·.g)).map (·.1) := fun w hz => (List.nodup_cons.mp (by simpa only [List.filterMap_cons, hz, List.map_cons] using nd)).1
    cases i with
    | zero =>
      cases hi
      cases j with
      | zero => exact absurd rfl hij
      | succ j => exact fun q => nz x hx (q ▸ mem hj hy)
    | succ i =>
      cases j with
      | zero => cases hj; exact fun q => nz y hy (q ▸ mem hi hx)
      | succ j => exact ih nd' (i := i) (j := j) hi hj (fun q => hij (congrArg Nat.succ q))
section
variable {w : World} {KF : Frag} {F : Base} {ρ : List Ent} {H : List O} {h : Heap} {gs : Array GenState} {i : Nat} {e : Ent} {fi : FI} {body : List Stmt} {m : Names}
/-- and back again, used up -/
theorem HSim.back (T : HSim w KF F ρ H h gs) {x : Nat × Env} (hi : ρ[i]? = some ⟨e.a, [], some x⟩) (hg : e.g = some x) (hnd : e.fp.Nodup) (ha : e.a ∈ e.fp) (hf : ∀ b ∈ e.fp, b ∉ fps ρ ∧ F.f b = none ∧ ∃ o, h.get? b = some o) :
    HSim w KF F (ρ.set i e) H h gs := by
  have pm := fps_set_perm (e := e) hi rfl
  have as := set_as (f := e) hi rfl
  have hH : ∀ o, H[i]? = some o → o = .gone := fun o ho => by
    have y := T.ob i _ o hi ho
    cases o with
    | list xs => cases y.1
    | arr xs => cases y.2.1
    | inst C fs => cases y.1
    | tbl P ps => cases y.2.2.1
    | fresh fi body m => obtain ⟨_, _, _, q, _⟩ := y; cases q
    | gone => rfl
    | done => obtain ⟨_, _, _, _, q, _⟩ := y; cases q
    | slp a fi m rest k w n => obtain ⟨_, _, _, _, q, _⟩ := y; cases q
    | tit I xs i => cases y.2.1
    | lit I l i => cases y.2.1
    | rit I lo n => cases y.2.1
  refine ⟨T.bs, T.keep, by rw [List.length_set]; exact T.len, fun j f o hj ho => ?_, fun b hb => ?_, pm.nodup_iff.mpr (List.nodup_append.mpr ⟨hnd, T.nd, fun b hb c hc q => (hf b hb).1 (q ▸ hc)⟩), fun b hb => ?_, by rw [set_gs (f := e) hi hg]; exact T.gn, T.bare.ents (fun j f hj => by
      by_cases q : i = j
      · subst q; rw [hi] at hj; cases hj; exact ⟨e, List.getElem?_set_self (List.getElem?_eq_some_iff.mp hi).1, hg⟩
      · exact ⟨f, by rw [List.getElem?_set_ne q]; exact hj, rfl⟩), fun j f o hj ho => ?_, T.fo⟩
  · by_cases q : i = j
    · subst q
      rw [List.getElem?_set_self (List.getElem?_eq_some_iff.mp hi).1] at hj
      cases hj
      rw [hH o ho]
      exact .inl ha
    · rw [List.getElem?_set_ne q] at hj
      exact (T.ob j f o hj ho).ents as.symm
  · rcases List.mem_append.mp (pm.mem_iff.mp hb) with q | q
    · exact (hf b q).2.2
    · exact T.live b q
  · rcases List.mem_append.mp (pm.mem_iff.mp hb) with q | q
    · exact (hf b q).2.1
    · exact T.off b q
  · by_cases q : i = j
    · subst q
      rw [List.getElem?_set_self (List.getElem?_eq_some_iff.mp hi).1] at hj
      cases hj
      rw [hH o ho]
      exact fun y hy => by rw [hg] at hy; cases hy; exact T.glt (List.mem_of_getElem? hi) rfl
    · rw [List.getElem?_set_ne q] at hj
      exact T.gf j f o hj ho
end
theorem fp_nodup1 {ρ : List Ent} (nd : (fps ρ).Nodup) {e : Ent} (he : e ∈ ρ) : e.fp.Nodup := by
  induction ρ with
  | nil => cases he
  | cons x ρ ih =>
    have nd' : (x.fp ++ fps ρ).Nodup := nd
    obtain ⟨n1, n2, _⟩ := List.nodup_append.mp nd'
    rcases List.mem_cons.mp he with rfl | q
    · exact n1
    · exact ih n2 q
section
variable {X : GU} {L : Held} {m : Names} {H : List O} {ρ : List Ent} {s : Shared} {i : Nat} {fi : FI} {body : List Stmt} {m' : Names} {e : Ent}
theorem set_prefix {ρ ρ' : List Ent} {i : Nat} {e f : Ent} (he : ρ[i]? = some e) (p : ρ.set i f <+: ρ') : ρ <+: ρ'.set i e := by
  obtain ⟨t, rfl⟩ := p
  have hi := (List.getElem?_eq_some_iff.mp he).1
  rw [List.set_append_left _ _ (by rw [List.length_set]; exact hi), List.set_set]
  have : ρ.set i e = ρ := by
    obtain ⟨h, rfl⟩ := List.getElem?_eq_some_iff.mp he
    exact List.set_getElem_self h
  rw [this]; exact List.prefix_append _ _
end
theorem setGen_self {s : Shared} {g : Nat} {x : GenState} (h : g < s.gens.size) : (s.setGen g x).gens[g]? = some x := by
  show (s.gens.setIfInBounds g x)[g]? = some x
  rw [Array.getElem?_setIfInBounds_self_of_lt h]
theorem setGen_ne {s : Shared} {g k : Nat} {x : GenState} (h : k ≠ g) : (s.setGen g x).gens[k]? = s.gens[k]? := by
  show (s.gens.setIfInBounds g x)[k]? = _
  rw [Array.getElem?_setIfInBounds_ne (Ne.symm h)]
theorem setGen_size {s : Shared} {g : Nat} {x : GenState} : (s.setGen g x).gens.size = s.gens.size := by
  show (s.gens.setIfInBounds g x).size = _
  rw [Array.size_setIfInBounds]
section
variable {prog : Program} {X : GU} {a g : Nat} {Qe : List O → Prop} {A : Around} {ys : List Str} {s : Shared}
end
theorem entry_yf : entryFor table "proto.yield_from" = some Builtin.«proto.yield_from» := entryFor_of_fast (by kernel_rfl)
theorem plain_yf : plainId "proto.yield_from" = true := by decide +kernel
section
variable {prog : Program} {w : World} {A : Around} {E : Value → Shared → Prop} {s : Shared}
theorem wpAny_ends {e : Nat} {Q : Bool → Shared → Prop} (he : StopAt s.heap e) (h : Q true s) : wpAny (model prog w) A (Builtin.Generator.endsTheTurnAsAValue false (.ref e)) Q E s := by
  obtain ⟨o, vs, ho, hc, hd, h5⟩ := he
  have hT : s.TypeIs (.ref e) "StopIteration" := ⟨o, ho, hc⟩
  unfold Builtin.Generator.endsTheTurnAsAValue Builtin.Generator.isStopAndMetaclass
  refine wpAny_bind (wpAny_bind (wpAny_typeOf hT (wpAny_bind (wpAny_of_eq isSubtype_stop ?_))))
  refine wpAny_bind (wpAny_of_eq (a := Value.type "type") (by first | rfl | kernel_rfl) ?_)
  exact wpAny_pure (wpAny_pure h)
end
section
variable {prog : Program} {X X' : GU} {a g : Nat} {Qe Qe' : List O → Prop} {A : Around} {fs : List Frame} {zs : List Str}
end
section
variable {w : World} {KF : Frag} {fi : FI} {env : Env} {m : Names} {F : Base} {ρ ρ' : List Ent} {H : List O} {h : Heap} {gs : Array GenState}
theorem Sim.frame (S : Sim w KF fi env m F ρ H h gs) (he : env.frame = some env.locals) : FrameAt fi env m ρ h := ⟨S.es, S.eg, S.eb, S.ec, S.ek, he, S.ns, S.cl, S.ce, S.cn, S.cu, S.cd⟩
theorem FrameAt.ext {ρ' : List Ent} (f : FrameAt fi env m ρ h) (p : ρ <+: ρ') : FrameAt fi env m ρ' h :=
  ⟨f.es, f.eg, f.eb, f.ec, f.ek, f.ef, let ⟨mv, a, b⟩ := f.ns; ⟨mv, a, fun x hx => (b x hx).mono p (.refl _)⟩, fun x c hc => let ⟨ov, a, b⟩ := f.cl x c hc; ⟨ov, a, b.mono p (.refl _)⟩, f.ce, f.cn, f.cu, f.cd⟩
theorem Sim.own_nodup (S : Sim w KF fi env m F ρ H h gs) (hw : fi.own = true) : (ownA fi env).Nodup := by
  unfold ownA
  rw [if_pos hw]
  refine List.nodup_cons.mpr ⟨fun q => ?_, ?_⟩
  · obtain ⟨⟨x, c⟩, hm, hx⟩ := List.mem_map.mp q
    exact (S.cu x c hm).2 hx
  · exact List.pairwise_map.mpr S.cd
end
section
variable {prog : Program} {w : World} {KF : Frag} {d : Nat} {E : HEP} {H : List O} {a : Nat} {o : Obj} {fd : FuncData} {body : List Stmt} {sc : Scope} {ps : List Str} {xs : List V}
/-- a generator function called -/
theorem call_gen {Q : V → List O → Prop} (K : FnOk KF a o fd body sc ps) (hgen : sc.isGenerator = true) (hlen : xs.length = ps.length)
    (h : Q (.ref H.length) (H ++ [.fresh ⟨sc, true, fd.code⟩ body (initN sc ps xs)])) : CallW prog w KF (d + 1) E H (.st a) xs Q :=
  fun A F ρ s u us hA S ru r => by
    have hsc := K.hsc
    subst hsc
    unfold VR at ru
    subst ru
    obtain ⟨ho, hcd⟩ := fn_code K.toFnB S.b
    have hul : us.length = ps.length := r.len.trans hlen
    refine wpAny_call (codeAny_call_generator hA.depth ho K.hd K.hco hgen K.hb hcd ?_)
    show wpAny _ _ (bindArgs fd ⟨us, []⟩) _ _ _
    rw [K.hbd _ hul, K.hcl]
    refine wpAny_pure (wpAny_newFunctionEnv_cells K.hk (fun z hz => ?_) fun env' he' s₃ Xc => ?_)
    · have hx1 : z.1 ∈ ps := by rw [← zip_keys hul]; exact List.mem_map.mpr ⟨z, hz, rfl⟩
      rcases K.hkd z.1 hx1 with q | q
      · exact .inl q
      · obtain ⟨c, hc⟩ := cells_has (n := s.heap.objs.size + 1) (mem_of_lookup q)
        exact .inr ⟨q, by rw [nodup_lookup (cells_nodup K.hnd) hc]; rfl⟩
    subst he'
    obtain ⟨st₃, S₃⟩ := enter_sim K.toFnB hlen S r Xc
    obtain ⟨h₃, tk₃, e₃, k₃⟩ := Xc.done
    subst e₃
    refine ⟨S₃.b.lim, ?_⟩
    have dd := S₃.hs.dead (get_size h₃)
    have kh : Keep h₃ (h₃.push { cls := .type "generator", data := .fields #[.int s.gens.size 0, .str fd.name tk₃, .str fd.qualname (tk₃ + 1)] }) := fun b o e => Heap.get?_push_of_some _ e
    have hb : ∀ (k : Nat) z, (s.gens.push (.fresh (.func body (callEnvC fd s.heap.objs.size a))))[k]? = some z → z.bare = true ∨ s.gens[k]? = some z := fun k z hz => by
      rw [Array.getElem?_push] at hz
      split at hz
      · rw [← Option.some.inj hz]; exact .inl rfl
      · exact .inr hz
    have T := (S₃.keeps kh).gens hb (fun e he _ x c hx hc => by
          show (s.gens.push _)[x.1]? = _
          rw [Array.getElem?_push_lt (S.glt he hx)]; rw [Array.getElem?_eq_getElem (S.glt he hx)] at hc; exact hc) (by rw [Array.size_push]; exact Nat.le_succ _)
    have hno : h₃.objs.size ∉ ownA ⟨fd.scope, true, fd.code⟩ (callEnvC fd s.heap.objs.size a) := fun q => by
      obtain ⟨o, ⟨q2, _⟩ | ⟨q3, q2⟩⟩ := S₃.own_live _ q
      · rw [get_size] at q2; cases q2
      · rw [get_size] at q2; cases q2
    have hnd : (h₃.objs.size :: ownA ⟨fd.scope, true, fd.code⟩ (callEnvC fd s.heap.objs.size a)).Nodup := List.nodup_cons.mpr ⟨hno, S₃.own_nodup rfl⟩
    have hga : (h₃.push { cls := .type "generator", data := .fields #[.int s.gens.size 0, .str fd.name tk₃, .str fd.qualname (tk₃ + 1)] }).IsGen h₃.objs.size s.gens.size := ⟨_, _, _, Heap.get?_push_size _ rfl, rfl, rfl, rfl⟩
    have hint : interactive (callEnvC fd s.heap.objs.size a) = false := by
      have e : (callEnvC fd s.heap.objs.size a).scope = fd.scope := rfl
      unfold interactive
      rw [e]
      simp [K.hk]
    refine ⟨_, _, .ref H.length, st₃.trans ?_, T.hs.adoptG (gg := some (s.gens.size, callEnvC fd s.heap.objs.size a)) (o := .fresh ⟨fd.scope, true, fd.code⟩ body (initN fd.scope ps xs)) hnd (fun b hb => ?_) ⟨_, _, rfl, rfl, hga, rfl, hint, ((S₃.keeps kh).frame rfl).ext (List.prefix_append _ _)⟩ (fun x hx f hf y hy => ?_) ⟨_, _, rfl, Array.getElem?_push_size ..⟩, ?_, h⟩
    · exact .addG (s := ⟨h₃, s.gens, _, _, _⟩) (.of_keep kh) rfl (fun x hx => by rw [← Option.some.inj hx]; exact Nat.le_refl _) (by show s.gens.size ≤ (s.gens.push _).size; rw [Array.size_push]; exact Nat.le_succ _)
    · rcases List.mem_cons.mp hb with q | q
      · rw [q]; exact ⟨dd.1, dd.2, _, Heap.get?_push_size _ rfl⟩
      · have lo := S₃.lo b q
        obtain ⟨o, ⟨q2, _⟩ | ⟨q3, q2⟩⟩ := S₃.own_live _ q
        · exact ⟨lo.2, lo.1, _, kh _ _ q2⟩
        · exact ⟨lo.2, lo.1, _, kh _ _ q2⟩
    · rw [← Option.some.inj hx]
      exact Nat.ne_of_lt (S.glt hf hy)
    · unfold VR
      exact ⟨_, by rw [← S.len, List.getElem?_concat_length], rfl⟩
end
section
variable {M : Model} {A : Around} {E : Value → Shared → Prop} {s : Shared}
theorem callWith_typeU {pos : Pos} {T : String} {first : List Value} {args : List (Bool × Sem Value)} {Q : Value → Shared → Prop} (hplain : args.any (·.1) = false)
    (h : wpAny M A (evalArgs (.type T) true args []) (fun a s₁ => wpU M A (call (.type T) (first ++ a.pos) a.kw) Q E s₁) E s) : wpU M A (callWith pos (.type T) first args []) Q E s := by
  unfold callWith
  refine wpU_bind (wpU_holding (up (wpAny_mono h (fun a s₁ h₁ => wpU_bind (wpU_standAt ?_)) fun _ _ x => x)))
  simp only [hplain, List.any_nil, Bool.or_false]
  refine wpU_bind (wpU_pure ?_)
  exact wpU_bind (wpU_mono h₁ (fun r s₂ hr => wpU_bind (wpU_holding (up (wpAny_point (wpU_pure hr))))) fun _ _ x => x)
end
section
variable {prog : Program} {X : GU} {a g : Nat} {Qe : List O → Prop} {A : Around} {ys : List Str} {s s' : Shared}
end
section
variable {prog : Program} {w : World} {A : Around} {E : Value → Shared → Prop} {s : Shared}
theorem pyIter_genAt {a : Addr} {g : Nat} {k : Int} {Q : Value → Shared → Prop} (hg : GenAt s.heap a g k) (h : Q (.ref a) s) : wpAny (model prog w) A (pyIter (.ref a)) Q E s := by
  refine wpAny_pyIter_slot hg.typeIs slot_gen_iter (wpAny_call_entry slot_gen_iter hg.typeIs entry_gen_iter ?_ (args_gen_iter _))
  show wpAny _ _ (ret (.ref a)) _ _ s
  exact wpAny_pure ⟨_, rfl, "generator", _, hg.typeIs, slot_gen_next.lookup, h⟩
end
section
variable {prog : Program} {w : World} {KF : Frag} {fi : FI} {d : Nat} {E : EP} {m : Names} {H : List O}
end
end Mine
end
section
open PySem PySem.W PyProof.Rows PySem.Spec PySem.Calls
namespace Mine
/-- a caller's tree that may drive such generators, on the real machine -/
theorem ends_U {prog : Program} {w : World} {t : Sem Fin} {s : Shared} {R : Result → Shared → Prop} (hz : s.asleep)
    (h : wpU (model prog w) callerA t (fun fin s' => ∃ f, fin = .done f ∧ R (.ok f) s' ∧ AllBare s'.gens) (fun e s' => R (.error e) s' ∧ AllBare s'.gens) s) :
    ∃ n r s' s'', schedN (denote table) prog w n (.single s ⟨t, .builtin "claim.caller" {}, default, []⟩) = .halted (outcomeOf r) s' ∧ s'.forget = s''.forget ∧ s'.heap.life = s.heap.life ∧ R r s'' := by
  refine Ev.halts (den := denote table) (prog := prog) (w := w) (R := R) (s := s) (t := ⟨t, .builtin "claim.caller" {}, default, []⟩) ?_ hz
  have := h (.builtin "claim.caller" {}) default [] caller_in (K := .pure) (H := .raise) (gd := id) (lv := id) (Φ := fun s' t' => ∃ r c p, t' = ⟨leafOf r, c, p, []⟩ ∧ leftWithCleanup s'.gens = false ∧ R r s') ?_ ?_
  · rw [wrap_id] at this; exact this
  · rintro fin p' s' ⟨f, rfl, hR, hb⟩
    exact .now ⟨.ok f, _, p', rfl, leftWithCleanup_false_of_bare hb, hR⟩
  · rintro e p' s' ⟨hR, hb⟩
    exact .now ⟨.error e, _, p', rfl, leftWithCleanup_false_of_bare hb, hR⟩
theorem from_U {c : ClaimW} {tree : List Value → Sem Fin} {w : World} {s : Shared} {free : Addr → Prop} {gens : Prop} {kept : Heap → Prop} (hz : s.asleep) (hgens : s.gens = #[])
    (spec : ∀ args, c.pre args = true → WData.layableAll args = true → ∀ ord : List DictEntry → List DictEntry, (∀ l, (ord l).Perm l) → ∃ vs s₁, layAllW c.records (classAt s.heap) w.params ord args s = some (vs, s₁) ∧
      wpU (model c.prog w) callerA (tree vs) (fun fin s' => ∃ f, fin = .done f ∧ (c.Ends s args vs s₁ (.ok f) s' ∧ s'.os = s.os ∧ kept s'.heap) ∧ AllBare s'.gens) (fun e s' => (c.Ends s args vs s₁ (.error e) s' ∧ s'.os = s.os ∧ kept s'.heap) ∧ AllBare s'.gens) s₁) :
    c.CallFrom (fun vs => ⟨tree vs, .builtin "claim.caller" {}, default, []⟩) w free gens kept s := by
  intro args hpre hlay ord hord
  obtain ⟨vs, s₁, hl, hc⟩ := spec args hpre hlay ord hord
  have hal := layAllW_rest _ _ _ hl
  obtain ⟨n, r, s', s'', hs, hf, hlife, hE, hos, hkp⟩ := ends_U (R := fun r s' => c.Ends s args vs s₁ r s' ∧ s'.os = s.os ∧ kept s'.heap) (Shared.asleep_of_life hal.2.2.2 hz) hc
  obtain ⟨eh, _, _, eo, _⟩ := Shared.forget_eq hf
  have hE' := hE.congr eh
  rw [← eo] at hos
  refine ⟨vs, s₁, hl, n, _, s', hs, ?_, (fun _ i x hx => by rw [hgens] at hx; simp at hx), by rw [eh]; exact hkp, by rw [hlife, hal.2.2.2], Shared.rest_eq hos⟩
  rcases hE' with ⟨v, rfl, d1, d2, d3, d4, d5⟩ | ⟨e, ob, cls, rfl, d1, d2, d3, d4, d5⟩
  · exact .inl ⟨v, rfl, d1, d2, d3, fun b o y _ => d4 b o y, d5⟩
  · exact .inr ⟨e, ob, cls, rfl, d1, d2, d3, d4, fun b o y _ => d5 b o y⟩
/-- what a law's call has to do, where it may drive such generators -/
noncomputable def WalkU (q : Program) (loose : List Str) (XP : (Str → Option Value) → Heap → Prop) (YP : World → Heap → Prop) (r : RowW) (d : DefRec) (kwd : List (Str × Expr)) : Prop :=
  ∀ (w : World) (s₀ s₁ : Shared) (mg mb : Str → Option Value), Ground q loose r.records XP w s₀ mg mb s₁.heap → YP w s₁.heap → ∀ (a : Addr) (o : Obj) (pm cd doc dV kV : Value), s₁.heap.get? a = some o →
    o.data = .func { docDef d.name d.params d.body d.scope pm cd doc with defaults := dV, kwdefaults := kV } → s₁.heap.CodeRec cd d.name → Dflts mg s₁.heap d.params kwd dV kV → mg d.name = some (.ref a) → s₁.gens = #[] →
    ∀ (args : List WData) (vals : List Value) (as : List Addr), r.claim.pre args = true → WData.layableAll args = true → ReadsAllW r.records (classAt s₀.heap) s₁.heap vals args as → WellAll w.params s₁.heap vals args → (∀ a ∈ as, (a == sysModules) = false) →
      wpU (model r.prog w) callerA (PySem.call (.ref a) vals) (fun v s' => GoodWG r.claim (classAt s₀.heap) (ExcName.means s₀.heap) args s₁ (.ok (.ret v)) s') (fun e s' => GoodWG r.claim (classAt s₀.heap) (ExcName.means s₀.heap) args s₁ (.error e) s') s₁
theorem holds_U {r : OpenRow} {q : Program} {loose : List Str} {Xt : Shared → Bool} {XP : (Str → Option Value) → Heap → Prop} {α : Type} {Yf : Shared → α} {Ya : World → α} {YP : World → Heap → Prop} {d : DefRec} {kwd : List (Str × Expr)} {N : Nat}
    (left : LeftO r.prog q loose Xt Yf Ya N) (hY : ∀ w s, Yf s = Ya w → YP w s.heap) (hYk : ∀ w h h', YP w h → (∀ b o, h.get? b = some o → h'.get? b = some o) → YP w h')
    (hX : ∀ s, Xt s = true → XP (s.heap.nsMap mainGlobals) s.heap) (hXk : ∀ mg h h', XP mg h → (∀ b o, h.get? b = some o → h'.get? b = some o) → XP mg h')
    (hdef : defOf q r.name = some (d, kwd)) (hp : r.prog.theDef r.name = some (d.params, d.body, d.scope)) (hk : kwWritten? d.params.kwonlyargs d.params.kw_defaults = some kwd) (hRf : ∀ s, Xt s = true → RecFacts r.records s.heap) (hwr : (!r.writes || r.records.isEmpty) = true)
    (k1 : r.wellSaid = true) (ok : (chainsOk q && opensWell r.prog && (frees r.toRowW && r.within.isEmpty)) = true) (hb : r.prog.bare) (hw : r.toRowW.promised) (call : WalkU q loose XP YP r.toRowW d kwd) : r.Holds := by
  obtain ⟨ok, k5⟩ := Bool.and_eq_true_iff.mp ok
  obtain ⟨hch, o1⟩ := Bool.and_eq_true_iff.mp ok
  obtain ⟨k5, k6⟩ := Bool.and_eq_true_iff.mp k5
  obtain ⟨hsame, hu, ha, hap, hm⟩ := frees_parts k5
  refine ⟨k1, hw, ⟨hb, o1, by show r.toRowW.makers.map _ = []; rw [hm]; rfl⟩, hw.witness, fun w => ⟨(left.behind hX hch w).1, fun s' hs' => ?_⟩⟩
  obtain ⟨s₀, hf, hg0, s, hT, hz, hgens, hg, G00, y⟩ := (left.behind (XP := fun mg h => XP mg h ∧ RecFacts r.records h) (fun s hs => ⟨hX s hs, hRf s hs⟩) hch w).2 s' hs'
  have G0 : Ground q loose [] XP w s (s.heap.nsMap mainGlobals) (s.heap.nsMap builtinsNs) s.heap := ⟨G00.T, G00.B, G00.D, G00.TE, G00.TD, G00.W, G00.X.1, G00.cls, G00.has, G00.apart, G00.once, G00.K⟩
  have RF := G00.X.2
  have hT' := hT
  have hgens : s.gens = #[] := Array.eq_empty_of_size_eq_zero (beq_iff_eq.mp hgens)
  have G : Ground q loose r.records XP w s _ _ s.heap := RF.ground G0
  refine ⟨s₀, hf, hg0, s, hT, fun n hn => ?_, RF.1, RF.2.1, from_U (c := r.toRowW.claim) hz hgens fun args hpre hlay ord hord => ?_⟩
  · obtain rfl : n = r.name := by split at hn <;> simp_all
    exact pinned_of_view hg G0 hdef hp hk
  obtain ⟨⟨vs, s₁⟩, hl⟩ := Option.isSome_iff_exists.mp (layAllW_isSome (P := w.params) (ord := ord) G.has args r.toRowW.args s (pre_splitW hpre).1)
  have keeps := layAllW_keeps _ _ _ hl
  have hal := layAllW_rest _ _ _ hl
  obtain ⟨as, hrd, hin, hold⟩ := reads_layAllW hord _ _ _ hl hlay s₁.heap (fun _ _ e => e)
  have L : Laid r.records w s s₁ args vs as := ⟨⟨ord, hord, hl⟩, hrd, hin, hold, keeps, hal.1.trans hgens, hal.2.2.1⟩
  have G₁ := G.keeps hXk keeps
  obtain ⟨a, o, pm, cd, doc, dV, kV, h1, h2, h3, h4, h5⟩ := G₁.fn hdef
  have h := call w s s₁ _ _ G₁ (hYk _ _ _ (hY w s y) keeps) a o pm cd doc dV kV h2 h3 h4 h5 (defOf_name hdef ▸ h1) L.gens args vs as hpre hlay L.reads L.well (L.low G.low)
  have hi := ident_freeW hu ha hap
  have hwi : r.toRowW.claim.within = [] := List.isEmpty_iff.mp k6
  refine ⟨vs, s₁, hl, wpU_bind (up (wpAny_nsGet G₁.T.g ?_))⟩
  rw [h1]
  refine wpU_bind (wpU_mono h (fun v s' g => wpU_pure (M := model r.prog w) ⟨_, rfl, ?_⟩) fun e s' g => ?_)
  · have z := g.laid (c := r.toRowW.claim) hsame hwi hi L
    exact ⟨⟨z.1, z.2.1, fun q => ⟨namesKept_of hT' hg _ keeps g.2.1.old, noTable hwr q⟩⟩, z.2.2⟩
  · have z := g.laid (c := r.toRowW.claim) hsame hwi hi L
    exact ⟨⟨z.1, z.2.1, fun q => ⟨namesKept_of hT' hg _ keeps g.2.1.old, noTable hwr q⟩⟩, z.2.2⟩
end Mine
end
section
open PySem PySem.W PyProof.Rows PySem.W.X PySem.SeqAt
namespace Mine
section
variable {prog : Program} {w : World} {KF : Frag} {fi : FI} {d : Nat} {E : EP} {m : Names} {H : List O}
/-- '%s' of a text -/
theorem we_fvals {e : Expr} {pos : Pos} {Q : V → List O → Prop} (h : WE prog w KF fi d E m H e fun v H₁ => ∃ x, v = .str x ∧ x.length ≤ sizeLine ∧ Q (.str x) H₁) : WE prog w KF fi d E m H (.FormattedValue e 115 none pos) Q :=
  fun A env F ρ s hA S => by
    show wpAny _ A (do let v ← eval e env; standAt pos; formatted pos (← holding [v] (converted 115 v)) none) _ _ s
    refine wpAny_bind (wpAny_mono (h A env F ρ s hA S) (fun u s₁ hx => ?_) fun _ _ x => x)
    obtain ⟨ρ₁, H₁, v, st₁, S₁, r, x, e, hx, h₁⟩ := hx
    subst e
    obtain ⟨t, rfl⟩ := r.str_eq
    refine wpAny_bind (wpAny_standAt ?_)
    show wpAny _ _ (do let v' ← holding [.str x t] (habitSame "fstring-hands-on-the-str" (.str x t)); formatField v' Str.empty) _ _ s₁
    exact wpAny_bind (wpAny_holding (habitSame_str (fun t' tk => formatField_str (fun t'' tk' => ⟨ρ₁, H₁, .str x, st₁.trans (.same (.refl _) rfl), S₁, by unfold VR; exact ⟨_, rfl⟩, h₁⟩) hx) hx))
end
end Mine
end
section
open PySem PySem.W PyProof.Rows PySem.W.X PySem.SeqAt
namespace Mine
section
variable {prog : Program} {w : World} {KF : Frag} {fi : FI} {d : Nat} {E : EP} {m : Names} {H : List O}
/-- an assert that holds -/
theorem ws_assert {test : Expr} {msg : Option Expr} {pos : Pos} {Q : Fl → Names → List O → Prop} (h : WT prog w KF fi d E m H test fun b H₁ => b = true ∧ Q .next m H₁) : WS prog w KF fi d E m H (.Assert test msg pos) Q :=
  fun A env F ρ s hA S => wpAny_Assert_holds (wpAny_mono (h A env F ρ s hA S) (fun b s₁ ⟨ρ₁, H₁, b', st, S₁, rb, hb, h₁⟩ => ⟨(show b = b' from rb).trans hb, ρ₁, H₁, m, .next, st, S₁, rfl, h₁⟩) fun _ _ x => x)
end
end Mine
end
section
open PySem PySem.W PyProof.Rows PySem.W.X PySem.SeqAt
namespace Mine
section
variable {prog : Program} {w : World} {KF : Frag} {d : Nat} {E : HEP} {H : List O} {Q : V → List O → Prop}
theorem list_l {l : Nat} {xs : List V} (hl : IsL' H l xs) (hz : xs.length ≤ sizeLine) (h : Q (.ref H.length) (H ++ [.list xs])) : CallW prog w KF d E H (.ty "list") [.ref l] Q := fun A F ρ s u us hA S ru r => by
  rw [ru.ty_eq]
  obtain ⟨v, q, rfl, rv, rq⟩ := r.cons_eq
  rw [rq.nil_eq]
  obtain ⟨e, he, rfl⟩ := rv.ref_eq
  obtain ⟨vs, a, b⟩ := S.list hl he
  obtain ⟨o, ho, hc, n, hd⟩ := a
  refine call_list_seq _ (.inl rfl) ho hc hd (fun h' c' hk hn => ?_) (by rw [List.size_toArray, b.len]; exact hz)
  have S' := S.alloc (o := .list xs) hk (get_size _) ⟨_, hn⟩ ⟨rfl, rfl, vs, ⟨_, hn⟩, b.mono (List.prefix_append _ _) (.of_keep hk)⟩
  refine ⟨_, _, .ref H.length, .add (.of_keep hk) rfl, S', ?_, h⟩
  unfold VR
  exact ⟨_, by rw [← S.len, List.getElem?_concat_length], rfl⟩
end
end Mine
namespace Mine
section
variable {prog : Program} {w : World} {KF : Frag} {fi : FI} {d : Nat} {E : EP} {m : Names} {H : List O}
end
end Mine
end
section
open PySem PySem.W PyProof.Rows PySem.W.X PySem.SeqAt
namespace Mine
section
variable {prog : Program} {w : World} {KF : Frag} {d : Nat} {E : HEP} {H : List O} {Q : V → List O → Prop}
end
end Mine
end
section
open PySem PySem.W PyProof.Rows PySem.W.X PySem.SeqAt
namespace Mine
section
variable {α : Type} {M : Model} {A : Around} {E : Value → Shared → Prop} {s : Shared}
/-- an error raised, with its words -/
theorem raiseWords {cls msg : String} {Q : α → Shared → Prop} (hp : PlainExc cls) (hh : A.handled = none)
    (h : ∀ h' tk e t, Heap.MadeExc s.heap h' e cls [.str (Str.ofString msg) t] → E (.ref e) { s with heap := h', toks := tk }) :
    wpAny M A (raiseErrorWords cls msg : Sem α) Q E s := by
  unfold raiseErrorWords
  refine wpAny_bind (wpAny_mkText (wpAny_bind (wpAny_newExc_plain hp fun h' e hm => wpAny_raiseNew_none hh ?_)))
  exact h _ _ _ _ hm
end
section
variable {prog : Program} {w : World} {A : Around} {E : Value → Shared → Prop} {s : Shared}
/-- l[k], k behind the last place -/
theorem getItem_out {l : Addr} {items : Array Value} {k : Int} {t : Tok} {Q : Value → Shared → Prop} (hA : A.handled = none) (hl : s.heap.IsList l items) (h0 : 0 ≤ k) (hout : (items.size : Int) ≤ k) (hk : k < 2 ^ 62)
    (hE : ∀ h' tk e t, Heap.MadeExc s.heap h' e "IndexError" [.str (Str.ofString "list index out of range") t] → E (.ref e) { s with heap := h', toks := tk }) :
    wpAny (model prog w) A (getItem (.ref l) (.int k t)) Q E s := by
  obtain ⟨o, ho, hc, ne, hd⟩ := id hl
  unfold getItem
  try with_reducible refine wpAny_holding ?_
  first | refine wpAny_bind (wpAny_pure ?_) | skip
  refine wpAny_bind (wpAny_sequenceKey hl.typeIs (by decide) ?_)
  refine wpAny_bind (wpAny_callSpecial?_slot (name := Str.ofString "__getitem__") hl.typeIs slot_list_getitem
    (wpAny_call_entry slot_list_getitem hl.typeIs entry_list_getitem ?_ (args_list_getitem _ _)))
  show wpAny _ _ (Builtin.List.listSubscript? (.int k t) >>= _) _ _ s
  refine wpAny_bind (wpAny_listSubscript_int (fitsIndex_both (by omega) (by omega)) ?_)
  clear hk
  obtain ⟨j, rfl⟩ := Int.eq_ofNat_of_zero_le h0
  have hx : items[j]? = none := Array.getElem?_eq_none (by omega)
  show wpAny _ _ ((seqItemAt l j >>= fun r => pure (r.map (j, ·))) >>= _) _ _ s
  refine wpAny_bind (wpAny_bind (wpAny_seqItemAt ho hd (wpAny_pure ?_)))
  rw [hx]
  first
    | exact wpAny_bind (wpAny_rule (raiseWords plainExc_IndexError hA hE))
    | exact wpAny_bind (wpAny_rule (wpAny_bind (raiseWords plainExc_IndexError hA hE)))
    | exact wpAny_bind (wpAny_bind (wpAny_rule (raiseWords plainExc_IndexError hA hE)))
    | exact wpAny_rule (raiseWords plainExc_IndexError hA hE)
end
/-- a heap without some objects -/
noncomputable def holes (h : Heap) (S : List Nat) : Heap := { h with objs := h.objs.mapIdx fun i o => if i ∈ S then { o with data := .freed } else o }
theorem holes_get {h : Heap} {S : List Nat} {b : Nat} : (holes h S).get? b = if b ∈ S then none else h.get? b := by
  unfold holes Heap.get?
  simp only [Array.getElem?_mapIdx]
  cases q : h.objs[b]? with
  | none => simp
  | some o =>
    by_cases z : b ∈ S
    · simp [z]
    · simp [z]
end Mine
end
section
open PySem PySem.W PyProof.Rows PySem.W.X PySem.SeqAt
namespace Mine
/-- where the frames stand -/
noncomputable def FrAt (L : List Nat) (h : Heap) (l : List Env) : Prop := ∀ e ∈ l, e.scope.kind ≠ .module ∧ ∃ a o, e.frame = some a ∧ a ∈ L ∧ h.get? a = some o ∧ ∃ es ep, o.data = .dict es ep
/-- but for e and the slots of L nothing has changed since h₁ -/
structure Noted (L : List Nat) (e : Nat) (h₁ h : Heap) : Prop where
  kp : ∀ b o, b ≠ e → b ∉ L → h₁.get? b = some o → h.get? b = some o
  lo : ∀ b ∈ L, ∀ o, h₁.get? b = some o → ∃ sl, h.get? b = some { o with slots := sl }
theorem FrAt.fun {L : List Nat} {h base : Heap} : ∀ {l : List Env}, FrAt L h l → (∀ b ∈ L, base.get? b = none) → h.FunFrames base l
  | [], _, _ => trivial
  | x :: l, f, hb => by
    obtain ⟨h1, a, o, h2, h3, h4, es, ep, h5⟩ := f x (.head _)
    exact ⟨h1, ⟨a, o, h2, hb a h3, h4, fun vs z => by rw [h5] at z; cases z⟩, FrAt.fun (fun y hy => f y (.tail _ hy)) hb⟩
/-- an exception under way: raised at h₁, its frames noted since -/
structure Fly (L : List Nat) (e : Nat) (cls a0 : Value) (l : List Env) (h₁ h : Heap) : Prop where
  fl : Heap.FlyingW (holes h₁ (e :: L)) l e cls a0 h
  nt : Noted L e h₁ h
  fr : FrAt L h₁ l
theorem noted_of {L : List Nat} {e : Nat} {h₁ h h' : Heap} (n : Noted L e h₁ h) (hd : ∀ b ∈ L, ∃ o es ep, h₁.get? b = some o ∧ o.data = .dict es ep) (hs : (holes h₁ (e :: L)).StaysIn h') (hu : ∀ b o, h.get? b = some o → (∀ vs, o.data ≠ .fields vs) → ∃ sl, h'.get? b = some { o with slots := sl }) : Noted L e h₁ h' := by
  refine ⟨fun b o h1 h2 h3 => hs b o ?_, fun b hb o ho => ?_⟩
  · rw [holes_get, if_neg fun q => (List.mem_cons.mp q).elim h1 h2]; exact h3
  · obtain ⟨sl, h4⟩ := n.lo b hb o ho
    obtain ⟨o2, es, ep, h5, h6⟩ := hd b hb
    rw [ho] at h5; cases h5
    obtain ⟨sl', h7⟩ := hu b _ h4 fun vs z => by
      have z : o.data = .fields vs := z
      rw [h6] at z; cases z
    exact ⟨sl', h7⟩
section
variable {M : Model} {A : Around} {E : Value → Shared → Prop} {s : Shared} {L : List Nat} {e : Nat} {env : Env} {outer : List Env}
/-- the first frame left -/
theorem fly_first {cls : String} {args : List Value} {h₀ : Heap} {Q : Unit → Shared → Prop} (hfr : A.frames = some (env :: outer)) (hd : ∀ b ∈ L, ∃ o es ep, s.heap.get? b = some o ∧ o.data = .dict es ep) (hf : FrAt L s.heap (env :: outer)) (hm : Heap.MadeExc h₀ s.heap e cls args)
    (h : ∀ h' t, Fly L e (.type cls) (.ref t) outer s.heap h' → s.heap.get? t = some { cls := .type "tuple", data := .seq args.toArray } → t ≠ e → Q () { s with heap := h' }) : wpAny M A (leaving env (.ref e)) Q E s := by
  obtain ⟨t, he, hn, ht⟩ := hm.there
  obtain ⟨_, a, o, h2, h3, h4, es, ep, h5⟩ := hf env (.head _)
  have hb : ∀ b ∈ L, (holes s.heap (e :: L)).get? b = none := fun b hb => by rw [holes_get, if_pos (.tail _ hb)]
  have hkb : (holes s.heap (e :: L)).StaysIn s.heap := fun b o q => by
    rw [holes_get] at q
    split at q
    · cases q
    · exact q
  have hte : t ≠ e := fun q => by rw [q] at ht; rw [ht] at he; cases he
  refine wpAny_leaving_firstW (base := holes s.heap (e :: L)) hfr (hf.fun hb) h2 he hkb (by rw [holes_get, if_pos (.head _)]) rfl rfl rfl fun h' hL => ?_
  obtain ⟨k1, ⟨x1, x2, k2⟩, k3, k4⟩ := hL
  have n0 : Noted L e s.heap s.heap := ⟨fun _ _ _ _ q => q, fun b _ o q => ⟨o.slots, q⟩⟩
  exact h h' t ⟨⟨k1, by rw [holes_get, if_pos (.head _)], k2, k3⟩, noted_of n0 hd k1 k4, fun x hx => hf x (.tail _ hx)⟩ ht hte
/-- a further frame left -/
theorem fly_next {cls a0 : Value} {h₁ : Heap} {Q : Unit → Shared → Prop} (hfr : A.frames = some (env :: outer)) (he : env.frame.isSome = true) (hd : ∀ b ∈ L, ∃ o es ep, h₁.get? b = some o ∧ o.data = .dict es ep) (f : Fly L e cls a0 (env :: outer) h₁ s.heap)
    (h : ∀ h', Fly L e cls a0 outer h₁ h' → Q () { s with heap := h' }) : wpAny M A (leaving env (.ref e)) Q E s := by
  obtain ⟨a, ha⟩ := Option.isSome_iff_exists.mp he
  exact wpAny_leaves_onW hfr ha f.fl fun h' k1 k2 => h h' ⟨k1, noted_of f.nt hd k1.1 k2, fun x hx => f.fr x (.tail _ hx)⟩
end
end Mine
end
section
open PySem PySem.W PyProof.Rows PySem.W.X PySem.SeqAt
namespace Mine
theorem dict_not_imm {o : Obj} {es ep} (hd : o.data = .dict es ep) : ¬ Imm o := by
  rintro (⟨⟨xs, n, q⟩, _⟩ | ⟨_, vs, q⟩) <;> (rw [hd] at q; cases q)
section
variable {w : World} {KF : Frag} {F : Base} {ρ : List Ent} {H : List O} {h₁ h : Heap} {gs : Array GenState} {L : List Nat} {e : Nat}
theorem Noted.tk (n : Noted L e h₁ h) (hd : ∀ b ∈ L, ∃ o es ep, h₁.get? b = some o ∧ o.data = .dict es ep) (he : ∀ o, h₁.get? e = some o → ¬ Imm o) : TK h₁ h := fun b o ho hi => by
  by_cases q : b = e
  · subst q; exact absurd hi (he o ho)
  · by_cases z : b ∈ L
    · obtain ⟨o', es, ep, h2, h3⟩ := hd b z
      rw [ho] at h2; cases h2
      exact absurd hi (dict_not_imm h3)
    · exact n.kp b o q z ho
/-- the call's heap behind the noting of an exception; what is used up may be touched -/
theorem HSim.noted (S : HSim w KF F ρ H h₁ gs) (n : Noted L e h₁ h) (hd : ∀ b ∈ L, ∃ o es ep, h₁.get? b = some o ∧ o.data = .dict es ep) (he : ∀ o, h₁.get? e = some o → ¬ Imm o) (heF : F.f e = none ∧ e ∉ fps ρ)
    (hL : ∀ b ∈ L, b ∈ F.lo ∨ ∃ (j : Nat) (f : Ent), ρ[j]? = some f ∧ H[j]? = some .gone ∧ b ∈ f.fp) : HSim w KF F ρ H h gs := by
  have t := n.tk hd he
  have kF : KeepG F h := fun b o q => by
    obtain ⟨o', h2, u⟩ := S.keep b o q
    have hne : b ≠ e := fun z => by rw [z, heF.1] at q; cases q
    by_cases z : b ∈ L
    · rcases hL b z with z' | ⟨j, f, hf, _, hb⟩
      · obtain ⟨sl, h3⟩ := n.lo b z o' h2
        exact ⟨_, h3, u.trans (.inr ⟨z', sl, rfl⟩)⟩
      · have := S.off b (fps_mem hf hb)
        rw [this] at q; cases q
    · exact ⟨o', n.kp b o' hne z h2, u⟩
  refine ⟨S.bs, kF, S.len, fun i f o hi ho => ?_, fun b hb => ?_, S.nd, S.off, S.gn, S.bare, S.gf, S.fo⟩
  · by_cases z : o = .gone
    · subst z; exact S.ob i f _ hi ho
    · refine (S.ob i f o hi ho).mono (List.prefix_refl _) t S.keep kF fun b hb q hq => n.kp b q (fun z => heF.2 (z ▸ fps_mem hi hb)) (fun hbL => ?_) hq
      rcases hL b hbL with z' | ⟨j, f', hf, hg, hb'⟩
      · exact S.fo.off (S.off b (fps_mem hi hb)) z'
      · by_cases q2 : i = j
        · subst q2
          rw [ho] at hg
          cases hg
          exact z rfl
        · exact fps_apart S.nd hi hf q2 hb hb'
  · obtain ⟨o, ho⟩ := S.live b hb
    by_cases z : b ∈ L
    · obtain ⟨sl, h3⟩ := n.lo b z o ho; exact ⟨_, h3⟩
    · exact ⟨o, n.kp b o (fun q => heF.2 (q ▸ hb)) z ho⟩
/-- a frame that stands, behind the noting -/
theorem Sim.noted {fi : FI} {env : Env} {m : Names} (S : Sim w KF fi env m F ρ H h₁ gs) (n : Noted L e h₁ h) (hd : ∀ b ∈ L, ∃ o es ep, h₁.get? b = some o ∧ o.data = .dict es ep) (he : ∀ o, h₁.get? e = some o → ¬ Imm o) (heF : FpOff fi env F ρ [e])
    (hL : ∀ b ∈ L, b ∈ (addE F h₁ env (ownA fi env)).lo ∨ ∃ (j : Nat) (f : Ent), ρ[j]? = some f ∧ H[j]? = some .gone ∧ b ∈ f.fp) : Sim w KF fi env m F ρ H h gs := by
  obtain ⟨e1, e2, e3⟩ := heF e (.head _)
  exact S.ofH (List.prefix_refl _) (n.tk hd he) (S.toH.noted n hd he ⟨by rw [addE_out e3]; exact e1, e2⟩ hL)
end
end Mine
end
section
open PySem PySem.W PyProof.Rows PySem.W.X PySem.SeqAt
namespace Mine
section
variable {w : World} {KF : Frag} {fi : FI} {env : Env} {m : Names} {F : Base} {ρ : List Ent} {H : List O} {h h' : Heap} {gs : Array GenState}
/-- a name of which nothing is known takes any value -/
theorem Sim.setAny (S : Sim w KF fi env m F ρ H h gs) {x : Str} {u : Value} (hx : getL m x = none) {mv : Str → Option Value} (hn₀ : h.Ns env.locals mv)
    (hm : ∀ x, fi.sc.names.lookup x = some .local → OVR ρ h (getL m x) (mv x)) (hn : h'.Ns env.locals (fun y => if y = x then some u else mv y)) (hs : Heap.SameBut env.locals h h') : Sim w KF fi env m F ρ H h' gs := by
  obtain ⟨hs', t⟩ := S.own_upd (loc_own fi env) (fun b o hb e => hs.extBut b o hb e) (ns_not_imm hn₀)
  refine ⟨hs', S.es, S.eg, S.eb, S.ec, S.ek, S.ef, S.lo, ⟨_, hn, fun y hy => ?_⟩, fun y c hc => ?_, S.ce, S.cn, S.cu, S.cd, S.cf⟩
  · by_cases q : y = x
    · rw [q, hx]; trivial
    · rw [if_neg q]; exact (hm y hy).mono (List.prefix_refl _) t
  · obtain ⟨ov, ⟨o, ho, hd⟩, hv⟩ := S.cl y c hc
    exact ⟨ov, ⟨o, hs.extBut c o (S.cu y c (lookup_mem hc)).2 ho, hd⟩, hv.mono (List.prefix_refl _) t⟩
/-- the frame's names forgotten -/
theorem Sim.forget (S : Sim w KF fi env m F ρ H h gs) {mv : Str → Option Value} (hn : h'.Ns env.locals mv) (hs : Heap.SameBut env.locals h h') : Sim w KF fi env [] F ρ H h' gs := by
  obtain ⟨mv₀, hn₀, _⟩ := S.ns
  obtain ⟨hs', t⟩ := S.own_upd (loc_own fi env) (fun b o hb e => hs.extBut b o hb e) (ns_not_imm hn₀)
  refine ⟨hs', S.es, S.eg, S.eb, S.ec, S.ek, S.ef, S.lo, ⟨_, hn, fun y hy => trivial⟩, fun y c hc => ?_, S.ce, S.cn, S.cu, S.cd, S.cf⟩
  obtain ⟨ov, ⟨o, ho, hd⟩, hv⟩ := S.cl y c hc
  exact ⟨ov, ⟨o, hs.extBut c o (S.cu y c (lookup_mem hc)).2 ho, hd⟩, trivial⟩
end
/-- what an exception's object says -/
noncomputable def ExcOb (h : Heap) (a : Nat) (X : String) (args : List Value) : Prop := ∃ t, h.ExcAt a X (.ref t) ∧ h.TupAt t args
section
variable {prog : Program} {w : World} {KF : Frag} {fi : FI} {env : Env} {m : Names} {F : Base} {ρ : List Ent} {H : List O} {s : Shared} {A : Around} {L : List Nat} {a : Nat} {outer : List Env} {h₁ : Heap}
theorem Fly.exc {X : String} {t : Nat} {l : List Env} {args : List Value} {h : Heap} (f : Fly L a (.type X) (.ref t) l h₁ h) (ht : h₁.get? t = some { cls := .type "tuple", data := .seq args.toArray }) (hta : t ≠ a) (htL : t ∉ L) : ExcOb h a X args := by
  obtain ⟨_, _, _, oe, vs, T, oT, ts, he, ⟨hc, h0⟩, hd, _⟩ := f.fl
  exact ⟨t, ⟨oe, vs, he, hc, hd, h0⟩, ⟨_, _, f.nt.kp t _ hta htL ht, rfl, rfl⟩⟩
end
end Mine
end
section
open PySem PySem.W PyProof.Rows PySem.W.X PySem.SeqAt
namespace Mine
/-- of the exceptions' classes -/
structure ExcCls (X T : String) (b : Bool) : Prop where
  base : isSubtype (.type T) (.type "BaseException") = pure true
  notup : isSubtype (.type ((Manifest.find? T).elim "type" fun x => x.metatype)) (.type "tuple") = pure false
  sub : isSubtype (.type X) (.type T) = pure b
section
variable {prog : Program} {w : World} {KF : Frag} {fi : FI} {env : Env} {m : Names} {F : Base} {ρ : List Ent} {H : List O} {s : Shared} {A : Around} {L : List Nat} {a : Nat} {outer : List Env} {h₁ : Heap} {E : Value → Shared → Prop}
/-- what the suite of an except clause has to do, at a state in which the name n holds the exception -/
noncomputable abbrev SuiteW (prog : Program) (w : World) (KF : Frag) (fi : FI) (env : Env) (m : Names) (F : Base) (ρ : List Ent) (H : List O) (A : Around) (a : Nat) (X : String) (args : List Value) (n : Str) (body : List Stmt) (s : Shared) (Q : Flow → List Ent → List O → Shared → Prop) : Prop :=
  ∀ s₃ : Shared, s₃.gens = s.gens → s₃.os = s.os → Sim w KF fi env m F ρ H s₃.heap s₃.gens → ExcOb s₃.heap a X args → (∃ mv, s₃.heap.Ns env.locals mv ∧ mv n = some (.ref a)) →
    wpAny (model prog w) (A.mark (some (.ref a))) (execs body env) (fun f s₄ => ∃ ρ₄ H₄, Step ρ s₃ ρ₄ s₄ ∧ Sim w KF fi env m F ρ₄ H₄ s₄.heap s₄.gens ∧ Q f ρ₄ H₄ s₄) (fun _ _ => False) s₃
theorem handle_as {ρ₀ : List Ent} {s₀ : Shared} {X T : String} {t : Nat} {args : List Value} {n tn : Str} {np pos : Pos} {b₀ : Stmt} {suite : List Stmt} {rest : List ExceptHandler} {Q : Flow → Shared → Prop} {R : Flow → List Ent → List O → Shared → Prop} (K : ExcCls X T true)
    (S : Sim w KF fi env m F ρ H s.heap s.gens) (hn : fi.sc.names.lookup n = some .local) (hm : getL m n = none)
    (hT : fi.sc.names.lookup tn = some .globalImplicit) (eT : nsIn KF mainGlobals tn = some none) (bT : bootBuiltins tn = some (.type T)) (dT : (tn == ("__debug__" : Str)) = false) (nT : tn ≠ "__name__")
    (hd : ∀ b ∈ L, ∃ o es ep, h₁.get? b = some o ∧ o.data = .dict es ep) (f : Fly L a (.type X) (.ref t) (env :: outer) h₁ s.heap) (ht : h₁.get? t = some { cls := .type "tuple", data := .seq args.toArray }) (hta : t ≠ a) (htL : t ∉ L)
    (hal : a ≠ env.locals) (hsn : ∀ h', Fly L a (.type X) (.ref t) (env :: outer) h₁ h' → Step ρ₀ s₀ ρ { s with heap := h' } ∧ Sim w KF fi env m F ρ H h' s.gens)
    (h : SuiteW prog w KF fi env m F ρ H A a X args n (b₀ :: suite) s R)
    (hQ : ∀ fl ρ₄ H₄ s₄ s₅, R fl ρ₄ H₄ s₄ → Step ρ₀ s₀ ρ₄ s₅ → TK s₄.heap s₅.heap → Sim w KF fi env [] F ρ₄ H₄ s₅.heap s₅.gens → Q fl s₅) :
    wpAny (model prog w) A (handleBy (.ref a) env (.ExceptHandler (some (.Name tn np)) (some n) (b₀ :: suite) pos :: rest)) Q E s := by
  obtain ⟨mg, hg⟩ := S.b.g
  obtain ⟨mb, hmb, hb'⟩ := S.b.bi
  have ex : ExcOb s.heap a X args := f.exc ht hta htL
  refine wpAny_handleBy_builtin_as K.base K.notup K.sub ?_
  refine Calls.Name_function_global S.kd ((S.kind tn).trans hT) (Calls.loadGlobal_builtin (S.eg ▸ hg) (mg_no S.b.k hg eT) (S.eb ▸ hmb) ((hb' tn nT).trans bT) ⟨rfl, ?_, ?_⟩) dT
  · obtain ⟨_, ⟨o, vs, ho, hc, _⟩, _⟩ := ex
    exact ⟨o, ho, hc⟩
  rw [if_pos rfl]
  refine wpAny_setFlight_noneW f.fl.1 f.fl.2.2.1 f.fl.2.2.2.at fun h₂ k1 k2 k3 k4 => ?_
  have f₂ : Fly L a (.type X) (.ref t) (env :: outer) h₁ h₂ := ⟨⟨k1, f.fl.2.1, k2, k3⟩, noted_of f.nt hd k1 fun b o hb hv => ⟨o.slots, k4 b o hb hv⟩, f.fr⟩
  obtain ⟨tk₂, S₂⟩ := hsn h₂ f₂
  have ex₂ : ExcOb h₂ a X args := f₂.exc ht hta htL
  obtain ⟨mv, hns, hmv⟩ := S₂.ns
  refine wpAny_storeName_local ((S₂.kind n).trans hn) hns (fun h₃ hn₃ hs₃ => ?_) S₂.nocls
  have S₃ := S₂.setAny hm hns hmv hn₃ hs₃
  have tk₃ : TK h₂ h₃ := .of_ext (fun b o hb e => hs₃.extBut b o hb e) (ns_not_imm hns)
  have ex₃ : ExcOb h₃ a X args := by
    obtain ⟨t', ⟨o, vs, ho, r⟩, ⟨o', nn, ho', hc', hd'⟩⟩ := ex₂
    exact ⟨t', ⟨o, vs, hs₃.extBut a o hal ho, r⟩, ⟨o', nn, tk₃ t' o' ho' (.inl ⟨⟨_, _, hd'⟩, by rw [hc']; decide⟩), hc', hd'⟩⟩
  refine wpAny_mono (h ⟨h₃, s.gens, s.drawn, s.toks + 1, s.os⟩ rfl rfl S₃ ex₃ ⟨_, hn₃, by rw [if_pos rfl]⟩) (fun fl s₄ hx => ?_) fun _ _ x => x.elim
  obtain ⟨ρ₄, H₄, st₄, S₄, r₄⟩ := hx
  obtain ⟨mv₄, hns₄, _⟩ := S₄.ns
  refine wpAny_nameGoes ((S₄.kind n).trans hn) hns₄ S₄.nocls fun h₅ m₅ hn₅ hs₅ => ?_
  have tk₅ : TK s₄.heap h₅ := .of_ext (fun b o hb e => hs₅.extBut b o hb e) (ns_not_imm hns₄)
  refine hQ fl ρ₄ H₄ s₄ _ r₄ ?_ tk₅ (S₄.forget hn₅ hs₅)
  exact (tk₂.trans (Step.same (s := { s with heap := h₂ }) (s' := ⟨h₃, s.gens, s.drawn, s.toks + 1, s.os⟩) tk₃ rfl (Nat.le_refl _))).trans (st₄.trans (.same tk₅ rfl (Nat.le_refl _)))
end
end Mine
end
section
open PySem PySem.W PyProof.Rows PySem.W.X PySem.SeqAt
namespace Mine
section
variable {prog : Program} {w : World} {KF : Frag} {fi : FI} {env : Env} {m : Names} {F : Base} {ρ : List Ent} {H : List O} {s : Shared} {A : Around} {a : Nat} {E : Value → Shared → Prop}
theorem cls_index : ExcCls "IndexError" "IndexError" true := ⟨by rw [isSubtype_type]; kernel_rfl, by rw [isSubtype_type]; kernel_rfl, by rw [isSubtype_type]; kernel_rfl⟩
end
end Mine
end
section
open PySem PySem.W PyProof.Rows PySem.W.X PySem.SeqAt
namespace Mine
section
variable {prog : Program} {w : World} {A : Around} {Y : YP} {R : Result → Shared → Prop} {s : Shared}
/-- an exception that leaves a generator -/
structure LeftGen (a g : Nat) (x : Nat) (s₁ : Shared) : Prop where
  gen : GenAt s₁.heap a g 0
  ty : ∃ X, s₁.TypeIs (.ref x) X ∧ isSubtype (.type X) (.type "StopIteration") = pure false
theorem genLeft_pass {α : Type} {M : Model} {a g x : Nat} {Q : α → Shared → Prop} {E : Value → Shared → Prop} (l : LeftGen a g x s) (h : E (.ref x) s) : wpAny M A (Builtin.Generator.genLeft (.ref a) (.ref x) : Sem α) Q E s := by
  obtain ⟨⟨o, nm, qn, ho, hc, hd, _⟩, X, hx, hs⟩ := l
  unfold Builtin.Generator.genLeft Builtin.Generator.madeByALambda
  refine wpAny_bind (wpAny_bind (wpAny_load ho (wpAny_pure ?_)))
  refine wpAny_bind (wpAny_isInstance (b := false) hx hs ?_)
  rw [hd]
  simp only [hc]
  unfold Builtin.Generator.genEscaped
  simp
  refine wpAny_bind (wpAny_isInstance (b := false) hx hs ?_)
  simp
  exact wpAny_throw h
theorem genWakeE {a : Addr} {g : Nat} {gs : GenState} {Q : Value → Shared → Prop} {E : Value → Shared → Prop} (hh : A.handled = none) (hl : s.heap.NoLimit) (hroom : A.depth < recursionLimit) (hg : GenAt s.heap a g 0) (hgs : s.gens[g]? = some gs)
    (hgo : GoesU (model prog w) A Y R gs (s.setGen g .running)) (hY : ∀ v gs' s₁, Y v gs' s₁ → Q v (s₁.setGen g gs'))
    (hR : ∀ r s₁, R r s₁ → (r = .ok (.ret .none) ∧ ∀ h' e, Keep s₁.heap h' → StopAt h' e → E (.ref e) { s₁.setGen g .finished with heap := h' }) ∨ ∃ x, r = .error (.ref x) ∧ LeftGen a g x s₁ ∧ E (.ref x) (s₁.setGen g .finished)) :
    wpU (model prog w) A (Builtin.Generator.genWake (.ref a) (.send .none)) (fun fin s' => ∃ v, fin = .done (.ret v) ∧ Q v s') E s := by
  unfold Builtin.Generator.genWake
  refine wpU_bind (up (wpAny_holding (wpAny_genNumberK hg (wpU_bind (up (wpAny_genState hgs ?_))))))
  cases gs with
  | running => exact hgo.elim
  | finished => exact hgo.elim
  | _ =>
    refine wpU_bind (up (wpAny_roomToWake hl hroom ?_))
    show wpU _ A (.resume g (.send .none) [] _) _ _ s
    refine wpU_resume hgs hgo (fun v gs' s₁ hv => ?_) (fun x s₁ hx => ?_)
    · exact wpU_pure ⟨v, rfl, hY v gs' s₁ hv⟩
    · rcases hR _ _ hx with ⟨rfl, hp⟩ | ⟨x, rfl, hlg, hp⟩
      · refine up ?_
        show wpAny _ A (newExc (.type "StopIteration") [] >>= _) _ _ _
        refine wpAny_bind ?_
        simp only [newExc, newTuple]
        refine wpAny_bind (wpAny_newObj_type ?_ (by size_fits))
        refine wpAny_bind (m := firstArgMember _ _) (wpAny_of_eq (a := Value.none) (by first | rfl | (simp only [firstArgMember]; rfl)) ?_)
        refine wpAny_newObj_type ?_ (by size_fits)
        simp only [raiseNew]
        refine wpAny_bind (wpAny_bind (wpAny_handled ?_))
        rw [hh]
        refine wpAny_throw ?_
        exact hp _ _ (fun b o hb => Heap.get?_push_of_some _ (Heap.get?_push_of_some _ hb)) ⟨_, _, Heap.get?_push_size _ rfl, rfl, rfl, rfl⟩
      · refine up ?_
        show wpAny _ A (Builtin.Generator.genLeft (.ref a) (.ref x)) _ _ _
        exact genLeft_pass (s := s₁.setGen g .finished) ⟨hlg.gen, hlg.ty⟩ hp
end
end Mine
end
section
open PySem PySem.W PyProof.Rows PySem.W.X PySem.SeqAt
namespace Mine
section
variable {prog : Program} {w : World} {A : Around} {Y : YP} {R : Result → Shared → Prop} {s : Shared}
theorem special_nextE {a : Addr} {g : Nat} {gs : GenState} {Q : Option Value → Shared → Prop} {E : Value → Shared → Prop} (hh : A.handled = none) (hl : s.heap.NoLimit) (hroom : A.depth < recursionLimit) (hg : GenAt s.heap a g 0) (hgs : s.gens[g]? = some gs)
    (hgo : GoesU (model prog w) A.in1 Y R gs (s.setGen g .running)) (hY : ∀ v gs' s₁, Y v gs' s₁ → Q (some v) (s₁.setGen g gs'))
    (hR : ∀ r s₁, R r s₁ → (r = .ok (.ret .none) ∧ ∀ h' e, Keep s₁.heap h' → StopAt h' e → E (.ref e) { s₁.setGen g .finished with heap := h' }) ∨ ∃ x, r = .error (.ref x) ∧ LeftGen a g x s₁ ∧ E (.ref x) (s₁.setGen g .finished)) :
    wpU (model prog w) A (callSpecial? (.ref a) (Str.ofString "__next__")) Q E s := by
  simp only [callSpecial?]
  refine wpU_bind (up (wpAny_specialOf hg.typeIs slot_gen_next.lookup ?_))
  simp only [slot_gen_next.bind]
  refine wpU_holding (wpU_bind (up (wpAny_pure (wpU_bind (wpU_runValue (codeU_call_builtin slot_gen_next.plain entry_gen_next (slot_gen_next.check _ _ _ _ _ _ _ _ hg.typeIs (args_gen_next _) (wpU_mono (genWakeE (Q := fun v s' => Q (some v) s') (A := A.in1) hh hl hroom hg hgs hgo hY hR) (fun fin s₂ hq => ?_) fun _ _ q => q))))))))
  obtain ⟨v, rfl, hv⟩ := hq
  exact wpU_pure (M := model prog w) hv
end
end Mine
end
section
open PySem PySem.W PyProof.Rows PySem.W.X PySem.SeqAt
namespace Mine
/-- an exception that its own frame (at a) has noted and still holds -/
structure FlyH (L : List Nat) (e : Nat) (cls a0 : Value) (l : List Env) (a : Nat) (h₁ h : Heap) : Prop where
  fl : Heap.HeldW (holes h₁ (e :: L)) l e cls a0 a h
  nt : Noted L e h₁ h
  fr : FrAt L h₁ l
section
variable {M : Model} {A : Around} {E : Value → Shared → Prop} {s : Shared} {L : List Nat} {e : Nat} {env : Env} {outer : List Env}
/-- the first note, in a loop of the frame's own -/
theorem note_first {cls : String} {args : List Value} {h₀ : Heap} {a : Nat} {Q : Unit → Shared → Prop} (hfr : A.frames = some (env :: outer)) (ha : env.frame = some a) (hd : ∀ b ∈ L, ∃ o es ep, s.heap.get? b = some o ∧ o.data = .dict es ep) (hf : FrAt L s.heap (env :: outer)) (hm : Heap.MadeExc h₀ s.heap e cls args)
    (h : ∀ h' t, FlyH L e (.type cls) (.ref t) (env :: outer) a s.heap h' → s.heap.get? t = some { cls := .type "tuple", data := .seq args.toArray } → t ≠ e → Q () { s with heap := h' }) : wpAny M A (noteFrame (.ref e) env) Q E s := by
  obtain ⟨t, he, hn, ht⟩ := hm.there
  have hb : ∀ b ∈ L, (holes s.heap (e :: L)).get? b = none := fun b hb => by rw [holes_get, if_pos (.tail _ hb)]
  have hkb : (holes s.heap (e :: L)).StaysIn s.heap := fun b o q => by
    rw [holes_get] at q
    split at q
    · cases q
    · exact q
  have hte : t ≠ e := fun q => by rw [q] at ht; rw [ht] at he; cases he
  unfold noteFrame
  simp only [ha]
  refine wpAny_bind (wpAny_field he rfl (x := .none) rfl ?_)
  rw [if_neg (by decide)]
  refine wpAny_entryW (base := holes s.heap (e :: L)) hfr (hf.fun hb) ha he hkb (by rw [holes_get, if_pos (.head _)]) rfl (by show 1 < 6; decide) rfl fun h' hL => ?_
  obtain ⟨k1, k2, k3, k4⟩ := hL
  have n0 : Noted L e s.heap s.heap := ⟨fun _ _ _ _ q => q, fun b _ o q => ⟨o.slots, q⟩⟩
  exact h h' t ⟨⟨k1, by rw [holes_get, if_pos (.head _)], k2, k3⟩, noted_of n0 hd k1 k4, hf⟩ ht hte
/-- what a loop's end does to it -/
theorem flight_back {cls a0 : Value} {h₁ : Heap} {a : Nat} {Q : Unit → Shared → Prop} (ha : env.frame = some a) (hd : ∀ b ∈ L, ∃ o es ep, h₁.get? b = some o ∧ o.data = .dict es ep) (f : FlyH L e cls a0 (env :: outer) a h₁ s.heap)
    (h : ∀ h', FlyH L e cls a0 (env :: outer) a h₁ h' → Q () { s with heap := h' }) :
    wpAny M A (do
      if (← field (.ref e) 1) == .none then unsupported "frame.own-activation:exception-without-traceback"
      setFlight (.ref e) env.frame) Q E s := by
  obtain ⟨f1, f2, f3, oe, vs, T, oT, ts, he, hcls, hdv, hv1, hnT, hTe, hT, hdT, h3⟩ := f.fl
  have hsz3 : 3 < ts.size := (Array.getElem?_eq_some_iff.mp h3).1
  have other : ∀ b, b ≠ T → (s.heap.update T (Obj.mapFields (·.setIfInBounds 3 (rawInt a)))).get? b = s.heap.get? b := fun b hb => Heap.get?_update_other _ _ (Ne.symm hb)
  have noRecord : ∀ b o, s.heap.get? b = some o → (∀ vs, o.data ≠ .fields vs) → b ≠ T := fun b o hb hnf q => by
    rw [q, hT] at hb; injection hb with hb; subst hb; exact hnf ts hdT
  refine wpAny_bind (wpAny_field he hdv hv1 ?_)
  rw [if_neg (by simp)]
  try refine wpAny_bind (wpAny_pure ?_)
  unfold setFlight
  refine wpAny_bind (wpAny_field he hdv hv1 ?_)
  rw [if_pos (show (Value.ref T != Value.none) = true from by simp)]
  rw [ha]
  refine wpAny_setField hT hdT hsz3 (h _ ?_)
  have k1 : (holes h₁ (e :: L)).StaysIn (s.heap.update T (Obj.mapFields (·.setIfInBounds 3 (rawInt a)))) := fun b o hbo => (other b fun q => by rw [q, hnT] at hbo; cases hbo).trans (f1 b o hbo)
  refine ⟨⟨k1, f2, f3.of_keeps fun b o hb hnf => ⟨o, (other b (noRecord b o hb hnf)).trans hb, rfl⟩, ?_⟩, noted_of f.nt hd k1 fun b o hb hnf => ⟨o.slots, (other b (noRecord b o hb hnf)).trans hb⟩, f.fr⟩
  exact ⟨oe, vs, T, _, _, (other e (Ne.symm hTe)).trans he, hcls, hdv, hv1, hnT, hTe, Heap.get?_update_self _ hT (Obj.isFreed_of_fields (Obj.data_mapFields hdT _)), Obj.data_mapFields hdT _, by simp [hsz3]⟩
/-- the frame left by it -/
theorem leave_held {cls a0 : Value} {h₁ : Heap} {a : Nat} {Q : Unit → Shared → Prop} (ha : env.frame = some a) (hd : ∀ b ∈ L, ∃ o es ep, h₁.get? b = some o ∧ o.data = .dict es ep) (f : FlyH L e cls a0 (env :: outer) a h₁ s.heap)
    (h : ∀ h', Fly L e cls a0 outer h₁ h' → Q () { s with heap := h' }) : wpAny M A (leaving env (.ref e)) Q E s := by
  unfold leaving
  refine wpAny_bind (wpAny_noteFrame_againW ha f.fl.2.2.2 ?_)
  refine wpAny_landsW f.fl fun h' k1 k2 => h h' ?_
  obtain ⟨g1, g2, ⟨_, _, g3⟩, g4⟩ := k1
  exact ⟨⟨g1, g2, g3, g4⟩, noted_of f.nt hd g1 k2, fun x hx => f.fr x (.tail _ hx)⟩
end
end Mine
end
section
open PySem PySem.W PyProof.Rows PySem.W.X PySem.SeqAt
namespace Mine
/-- an exception's words -/
noncomputable def ExArgs : Option Str → List Value → Prop
  | none, vs => vs = []
  | some m, vs => ∃ tk, vs = [.str m tk]
/-- an exception just raised, in a frame that stands -/
noncomputable def RzQ (w : World) (KF : Frag) (fi : FI) (env : Env) (m : Names) (F : Base) (ρ : List Ent) (s : Shared) (X : String) (msg : Option Str) (Q : List O → Prop) (e : Value) (s' : Shared) : Prop :=
  ∃ ρ' H' h₀ x args, e = .ref x ∧ Step ρ s ρ' s' ∧ Sim w KF fi env m F ρ' H' s'.heap s'.gens ∧ ExArgs msg args ∧ Heap.MadeExc h₀ s'.heap x X args ∧ FpOff fi env F ρ' [x] ∧ Q H'
section
variable (prog : Program) (w : World) (KF : Frag) (fi : FI) (d : Nat)
/-- an expression that raises, and touches no generator -/
noncomputable def WX (m : Names) (H : List O) (e : Expr) (X : String) (msg : Option Str) (Q : List O → Prop) : Prop :=
  ∀ A env F ρ s, Room A d (frOf env F) → Sim w KF fi env m F ρ H s.heap s.gens → wpAny (model prog w) A (eval e env) (fun _ _ => False) (RzQ w KF fi env m F ρ s X msg Q) s
end
section
variable {prog : Program} {w : World} {KF : Frag} {fi : FI} {d : Nat} {m : Names} {H : List O} {X : String} {msg : Option Str} {Q : List O → Prop}
theorem wx_fvals {e : Expr} {pos : Pos} (h : WX prog w KF fi d m H e X msg Q) : WX prog w KF fi d m H (.FormattedValue e 115 none pos) X msg Q :=
  fun A env F ρ s hA S => by
    show wpAny _ A (do let v ← eval e env; standAt pos; formatted pos (← holding [v] (converted 115 v)) none) _ _ s
    exact wpAny_bind (wpAny_mono (h A env F ρ s hA S) (fun _ _ x => x.elim) fun _ _ x => x)
/-- a formatted text, one part of which raises -/
noncomputable def WJX (prog : Program) (w : World) (KF : Frag) (fi : FI) (d : Nat) (m : Names) (H : List O) (X : String) (msg : Option Str) (Q : List O → Prop) (out : Str) : List Expr → Prop
  | [] => False
  | e :: es => WX prog w KF fi d m H e X msg Q ∨ ∃ y, (∀ A env F ρ s, Room A d (frOf env F) → Sim w KF fi env m F ρ H s.heap s.gens → wpAny (model prog w) A (eval e env) (fun v s' => (∃ t, v = .str y t) ∧ ∃ tk, s' = { s with toks := tk }) (fun _ _ => False) s) ∧ (out ++ y).length ≤ sizeLine ∧ WJX prog w KF fi d m H X msg Q (out ++ y) es
theorem wjx_run {es : List Expr} : ∀ {out : Str}, WJX prog w KF fi d m H X msg Q out es → ∀ A env F ρ s, Room A d (frOf env F) → Sim w KF fi env m F ρ H s.heap s.gens →
    wpAny (model prog w) A (joinParts out (evalEach es env)) (fun _ _ => False) (RzQ w KF fi env m F ρ s X msg Q) s := by
  induction es with
  | nil => exact fun h => h.elim
  | cons e es ih =>
    intro out h A env F ρ s hA S
    refine joinParts_consE (joinParts_cons ?_)
    rcases h with h | ⟨y, h, hy, h₁⟩
    · exact wpAny_mono (h A env F ρ s hA S) (fun _ _ x => x.elim) fun _ _ x => x
    · refine wpAny_mono (h A env F ρ s hA S) (fun u s₁ hx => ?_) fun _ _ x => x.elim
      obtain ⟨⟨t, rfl⟩, tk, rfl⟩ := hx
      exact ⟨hy, wpAny_mono (ih h₁ A env F ρ _ hA S) (fun _ _ x => x) fun _ _ x => x⟩
theorem wx_joined {v₁ v₂ : Expr} {rest : List Expr} {pos : Pos} (h : WJX prog w KF fi d m H X msg Q Str.empty (v₁ :: v₂ :: rest)) : WX prog w KF fi d m H (.JoinedStr (v₁ :: v₂ :: rest) pos) X msg Q :=
  fun A env F ρ s hA S => JoinedStr_many (wjx_run h A env F ρ s hA S)
/-- the quiet parts: a constant; a local text -/
theorem wjx_str {y out : Str} {k : Nat} {pos : Pos} {es : List Expr} (hy : (out ++ y).length ≤ sizeLine) (h : WJX prog w KF fi d m H X msg Q (out ++ y) es) : WJX prog w KF fi d m H X msg Q out (.Constant (.str y) k pos :: es) :=
  .inr ⟨y, fun A env F ρ s hA S => wpAny_Constant_str ⟨⟨_, rfl⟩, _, rfl⟩, hy, h⟩
theorem wjx_loc {xn y out : Str} {xp pos : Pos} {es : List Expr} (hx : fi.sc.names.lookup xn = some .local) (vx : getL m xn = some (.str y)) (dx : (xn == ("__debug__" : Str)) = false) (hz : y.length ≤ sizeLine) (hy : (out ++ y).length ≤ sizeLine) (h : WJX prog w KF fi d m H X msg Q (out ++ y) es) : WJX prog w KF fi d m H X msg Q out (.FormattedValue (.Name xn xp) 115 none pos :: es) :=
  .inr ⟨y, fun A env F ρ s hA S => by
    show wpAny _ A (do let v ← eval (.Name xn xp) env; standAt pos; formatted pos (← holding [v] (converted 115 v)) none) _ _ s
    obtain ⟨mv, u, hn, e, ru⟩ := S.get vx hx
    refine wpAny_bind (wpAny_Name (wpAny_loadName_local S.kd ((S.kind xn).trans hx) hn e ?_) dx)
    obtain ⟨t, rfl⟩ := ru.str_eq
    refine wpAny_bind (wpAny_standAt ?_)
    show wpAny _ _ (do let v' ← holding [.str y t] (habitSame "fstring-hands-on-the-str" (.str y t)); formatField v' Str.empty) _ _ s
    exact wpAny_bind (wpAny_holding (habitSame_str (fun t' tk => formatField_str (fun t'' tk' => ⟨⟨_, rfl⟩, _, rfl⟩) hz) hz)), hy, h⟩
end
end Mine
end
section
open PySem PySem.W PyProof.Rows PySem.W.X PySem.SeqAt
namespace Mine
section
variable {α : Type} {M : Model} {A : Around} {E : Value → Shared → Prop} {s : Shared}
/-- a generator that is used up, woken -/
theorem wpU_resumeD {g : Nat} {l : List Value} {k : GenResult → Sem α} {Q : α → Shared → Prop} (hgs : s.gens[g]? = some .finished) (h : wpU M A (k .finished) Q E s) : wpU M A (.resume g (.send .none) l k) Q E s := by
  intro c p st hin K H gd lv Φ hK hH
  refine ev_step (step_resume_finished M s c p st (.send .none) (lv l) _ hgs) ?_
  exact h c p st hin K H gd lv Φ hK hH
end
section
variable {prog : Program} {w : World} {A : Around} {s : Shared}
theorem genWakeD {a : Addr} {g : Nat} {Q : Fin → Shared → Prop} {E : Value → Shared → Prop} (hh : A.handled = none) (hg : GenAt s.heap a g 0) (hgs : s.gens[g]? = some .finished) (h : ∀ h' e, Keep s.heap h' → StopAt h' e → E (.ref e) { s with heap := h' }) :
    wpU (model prog w) A (Builtin.Generator.genWake (.ref a) (.send .none)) Q E s := by
  unfold Builtin.Generator.genWake
  refine wpU_bind (up (wpAny_holding (wpAny_genNumberK hg (wpU_bind (up (wpAny_genState hgs ?_))))))
  show wpU _ A (.resume g (.send .none) [] _) _ _ s
  refine wpU_resumeD hgs (up ?_)
  show wpAny _ A (newExc (.type "StopIteration") [] >>= _) _ _ _
  refine wpAny_bind ?_
  simp only [newExc, newTuple]
  refine wpAny_bind (wpAny_newObj_type ?_ (by size_fits))
  refine wpAny_bind (m := firstArgMember _ _) (wpAny_of_eq (a := Value.none) (by first | rfl | (simp only [firstArgMember]; rfl)) ?_)
  refine wpAny_newObj_type ?_ (by size_fits)
  simp only [raiseNew]
  first
    | (refine wpAny_bind (wpAny_handled ?_); rw [hh]; refine wpAny_throw ?_)
    | (refine wpAny_bind (wpAny_bind (wpAny_handled ?_)); rw [hh]; exact wpAny_pure (wpAny_throw ?_))
    | (refine wpAny_bind (wpAny_bind (wpAny_handled ?_)); rw [hh]; refine wpAny_pure (wpAny_throw ?_))
  exact h _ _ (fun b o hb => Heap.get?_push_of_some _ (Heap.get?_push_of_some _ hb)) ⟨_, _, Heap.get?_push_size _ rfl, rfl, rfl, rfl⟩
theorem special_nextD {a : Addr} {g : Nat} {Q : Option Value → Shared → Prop} {E : Value → Shared → Prop} (hh : A.handled = none) (hg : GenAt s.heap a g 0) (hgs : s.gens[g]? = some .finished) (h : ∀ h' e, Keep s.heap h' → StopAt h' e → E (.ref e) { s with heap := h' }) :
    wpU (model prog w) A (callSpecial? (.ref a) (Str.ofString "__next__")) Q E s := by
  simp only [callSpecial?]
  refine wpU_bind (up (wpAny_specialOf hg.typeIs slot_gen_next.lookup ?_))
  simp only [slot_gen_next.bind]
  refine wpU_holding (wpU_bind (up (wpAny_pure (wpU_bind (wpU_runValue (codeU_call_builtin slot_gen_next.plain entry_gen_next (slot_gen_next.check _ _ _ _ _ _ _ _ hg.typeIs (args_gen_next _) (wpU_mono (genWakeD (Q := fun _ _ => False) (A := A.in1) hh hg hgs h) (fun fin s₂ hq => hq.elim) fun _ _ q => q))))))))
end
end Mine
end
section
open PySem PySem.W PyProof.Rows PySem.W.X PySem.SeqAt
namespace Mine
section
variable {w : World} {KF : Frag} {F : Base} {ρ : List Ent} {H : List O} {h : Heap} {gs : Array GenState}
/-- where the frames stand, and what they are -/
theorem HSim.lows (S : HSim w KF F ρ H h gs) : FrAt F.lo h F.fr ∧ ∀ b ∈ F.lo, ∃ o es ep, h.get? b = some o ∧ o.data = .dict es ep := by
  refine ⟨fun e he => ?_, fun b hb => ?_⟩
  · obtain ⟨h1, L, o, h2, h3, es, ep, h4⟩ := S.fo e he
    obtain ⟨o', h5, u⟩ := S.keep L o h3
    exact ⟨h1, L, o', h2, List.mem_filterMap.mpr ⟨e, he, h2⟩, h5, es, ep, u.same.2.1.trans h4⟩
  · obtain ⟨e, he, hf⟩ := List.mem_filterMap.mp hb
    obtain ⟨h1, L, o, h2, h3, es, ep, h4⟩ := S.fo e he
    rw [hf] at h2; cases h2
    obtain ⟨o', h5, u⟩ := S.keep b o h3
    exact ⟨o', es, ep, h5, u.same.2.1.trans h4⟩
end
/-- the text of an exception is no frame's -/
theorem tup_off {L : List Nat} {h : Heap} (hd : ∀ b ∈ L, ∃ o es ep, h.get? b = some o ∧ o.data = .dict es ep) {t : Nat} {args : List Value} (ht : h.get? t = some { cls := .type "tuple", data := .seq args.toArray }) : t ∉ L := fun q => by
  obtain ⟨o, es, ep, h1, h2⟩ := hd t q
  rw [ht] at h1; cases h1; cases h2
/-- the frames' locals while env's code runs -/
noncomputable abbrev loOf (env : Env) (F : Base) : List Nat := (frOf env F).filterMap (·.frame)
/-- classes of exceptions that pass a generator's frame -/
structure ExcOk (X : String) : Prop where
  stop : isSubtype (.type X) (.type "StopIteration") = pure false
  rng : X ≠ "range"
  ty : typeOf (.type X) = pure (.type "type")
/-- an exception, raised at h₁, and what stands behind its landing -/
structure ExnAt (w : World) (KF : Frag) (fi : FI) (env : Env) (m : Names) (F : Base) (ρ₀ : List Ent) (s₀ : Shared) (H : List O) (ρ : List Ent) (L : List Nat) (h₁ : Heap) (t x : Nat) (args : List Value) (s : Shared) : Prop where
  dict : ∀ b ∈ L, ∃ o es ep, h₁.get? b = some o ∧ o.data = .dict es ep
  tup : h₁.get? t = some { cls := .type "tuple", data := .seq args.toArray }
  tx : t ≠ x
  tL : t ∉ L
  off : FpOff fi env F ρ [x]
  land : ∀ h'', Noted L x h₁ h'' → Step ρ₀ s₀ ρ { s with heap := h'' } ∧ Sim w KF fi env m F ρ H h'' s.gens
section
variable (w : World) (KF : Frag) (fi : FI) (env : Env) (m : Names) (F : Base) (ρ₀ : List Ent) (s₀ : Shared) (X : String) (msg : Option Str) (H : List O) (x : Nat) (s : Shared)
/-- just raised -/
noncomputable def ExNew : Prop := ∃ ρ L h₁ t args, ExArgs msg args ∧ ExnAt w KF fi env m F ρ₀ s₀ H ρ L h₁ t x args s ∧ s.heap = h₁ ∧ (∃ h₀, Heap.MadeExc h₀ h₁ x X args) ∧ FrAt L h₁ (env :: F.fr)
/-- under way among the frames l -/
noncomputable def ExFly (l : List Env) : Prop := ∃ ρ L h₁ t args, ExArgs msg args ∧ ExnAt w KF fi env m F ρ₀ s₀ H ρ L h₁ t x args s ∧ Fly L x (.type X) (.ref t) l h₁ s.heap
/-- noted by its own frame, which still holds it -/
noncomputable def ExHeld : Prop := ∃ ρ L h₁ t args, ExArgs msg args ∧ ExnAt w KF fi env m F ρ₀ s₀ H ρ L h₁ t x args s ∧ FlyH L x (.type X) (.ref t) (env :: F.fr) env.locals h₁ s.heap
/-- at its own frame, or come to it -/
noncomputable def ExAny : Prop := ExNew w KF fi env m F ρ₀ s₀ X msg H x s ∨ ExFly w KF fi env m F ρ₀ s₀ X msg H x s (env :: F.fr) ∨ ExHeld w KF fi env m F ρ₀ s₀ X msg H x s
end
section
variable {w : World} {KF : Frag} {fi : FI} {env : Env} {m : Names} {F : Base} {ρ₀ : List Ent} {s₀ : Shared} {X : String} {msg : Option Str} {H : List O} {x : Nat} {s : Shared} {M : Model} {A : Around} {E : Value → Shared → Prop}
theorem ExnAt.re {ρ : List Ent} {L : List Nat} {h₁ h' : Heap} {t t' : Nat} {args : List Value} (n : ExnAt w KF fi env m F ρ₀ s₀ H ρ L h₁ t x args s) (ht : h₁.get? t' = some { cls := .type "tuple", data := .seq args.toArray }) (hx : t' ≠ x) : ExnAt w KF fi env m F ρ₀ s₀ H ρ L h₁ t' x args { s with heap := h' } :=
  ⟨n.dict, ht, hx, tup_off n.dict ht, n.off, n.land⟩
/-- an exception made in a frame of its own -/
theorem ExNew.of {ρ : List Ent} {h₀ : Heap} {args : List Value} (hef : env.frame = some env.locals) (hX : ExcOk X) (ha : ExArgs msg args) (st : Step ρ₀ s₀ ρ s) (S : Sim w KF fi env m F ρ H s.heap s.gens) (hm : Heap.MadeExc h₀ s.heap x X args) (off : FpOff fi env F ρ [x]) : ExNew w KF fi env m F ρ₀ s₀ X msg H x s := by
  obtain ⟨t, hxo, hn, ht⟩ := hm.there
  obtain ⟨lw, ld⟩ := S.toH.lows
  have ef : frOf env F = env :: F.fr := frOf_pos hef
  have lw : FrAt (loOf env F) s.heap (env :: F.fr) := by rw [← ef]; exact lw
  have ld : ∀ b ∈ loOf env F, ∃ o es ep, s.heap.get? b = some o ∧ o.data = .dict es ep := ld
  have ni : ∀ o, s.heap.get? x = some o → ¬ Imm o := fun o ho => by
    rw [hxo] at ho; cases ho
    rintro (⟨⟨xs, n, q⟩, _⟩ | ⟨q, _⟩)
    · cases q
    · exact hX.rng (by injection q)
  refine ⟨ρ, loOf env F, s.heap, t, args, ha, ⟨ld, ht, fun q => ?_, tup_off ld ht, off, fun h'' n => ⟨st.trans (.same (n.tk ld ni) rfl (Nat.le_refl _)), S.noted n ld ni off fun b hb => .inl hb⟩⟩, rfl, ⟨h₀, hm⟩, lw⟩
  rw [q] at ht; rw [ht] at hxo; cases hxo
theorem ExNew.note {Q : Unit → Shared → Prop} (hfr : A.frames = some (env :: F.fr)) (hef : env.frame = some env.locals) (e : ExNew w KF fi env m F ρ₀ s₀ X msg H x s) (h : ∀ h', ExHeld w KF fi env m F ρ₀ s₀ X msg H x { s with heap := h' } → Q () { s with heap := h' }) : wpAny M A (noteFrame (.ref x) env) Q E s := by
  obtain ⟨ρ, L, h₁, t, args, ha, n, rfl, ⟨h₀, hm⟩, fr⟩ := e
  exact note_first hfr hef n.dict fr hm fun h' t' fl ht hte => h h' ⟨ρ, L, s.heap, t', args, ha, n.re ht hte, fl⟩
theorem ExFly.note {Q : Unit → Shared → Prop} (hfr : A.frames = some (env :: F.fr)) (hef : env.frame = some env.locals) (e : ExFly w KF fi env m F ρ₀ s₀ X msg H x s (env :: F.fr)) (h : ∀ h', ExHeld w KF fi env m F ρ₀ s₀ X msg H x { s with heap := h' } → Q () { s with heap := h' }) : wpAny M A (noteFrame (.ref x) env) Q E s := by
  obtain ⟨ρ, L, h₁, t, args, ha, n, fl⟩ := e
  exact wpAny_looks_onW hfr hef fl.fl fun h' k1 k2 => h h' ⟨ρ, L, h₁, t, args, ha, n.re n.tup n.tx, ⟨k1, noted_of fl.nt n.dict k1.1 k2, fl.fr⟩⟩
theorem ExAny.note {Q : Unit → Shared → Prop} (hfr : A.frames = some (env :: F.fr)) (hef : env.frame = some env.locals) (e : ExAny w KF fi env m F ρ₀ s₀ X msg H x s) (h : ∀ h', ExHeld w KF fi env m F ρ₀ s₀ X msg H x { s with heap := h' } → Q () { s with heap := h' }) : wpAny M A (noteFrame (.ref x) env) Q E s := by
  rcases e with e | e | e
  · exact e.note hfr hef h
  · exact e.note hfr hef h
  · have e' := e
    obtain ⟨ρ, L, h₁, t, args, ha, n, fl⟩ := e
    exact wpAny_noteFrame_againW hef fl.fl.2.2.2 (h s.heap e')
theorem ExHeld.back {Q : Unit → Shared → Prop} (hef : env.frame = some env.locals) (e : ExHeld w KF fi env m F ρ₀ s₀ X msg H x s) (h : ∀ h', ExHeld w KF fi env m F ρ₀ s₀ X msg H x { s with heap := h' } → Q () { s with heap := h' }) :
    wpAny M A (do
      if (← field (.ref x) 1) == .none then unsupported "frame.own-activation:exception-without-traceback"
      setFlight (.ref x) env.frame) Q E s := by
  obtain ⟨ρ, L, h₁, t, args, ha, n, fl⟩ := e
  exact flight_back hef n.dict fl fun h' fl' => h h' ⟨ρ, L, h₁, t, args, ha, n.re n.tup n.tx, fl'⟩
theorem ExAny.leave {Q : Unit → Shared → Prop} (hfr : A.frames = some (env :: F.fr)) (hef : env.frame = some env.locals) (e : ExAny w KF fi env m F ρ₀ s₀ X msg H x s) (h : ∀ h', ExFly w KF fi env m F ρ₀ s₀ X msg H x { s with heap := h' } F.fr → Q () { s with heap := h' }) : wpAny M A (leaving env (.ref x)) Q E s := by
  rcases e with ⟨ρ, L, h₁, t, args, ha, n, rfl, ⟨h₀, hm⟩, fr⟩ | ⟨ρ, L, h₁, t, args, ha, n, fl⟩ | ⟨ρ, L, h₁, t, args, ha, n, fl⟩
  · exact fly_first hfr n.dict fr hm fun h' t' fl ht hte => h h' ⟨ρ, L, s.heap, t', args, ha, n.re ht hte, fl⟩
  · exact fly_next hfr (by rw [hef]; rfl) n.dict fl fun h' fl' => h h' ⟨ρ, L, h₁, t, args, ha, n.re n.tup n.tx, fl'⟩
  · exact leave_held hef n.dict fl fun h' fl' => h h' ⟨ρ, L, h₁, t, args, ha, n.re n.tup n.tx, fl'⟩
/-- a try looks on -/
theorem ExAny.landed {Q : Unit → Shared → Prop} (hfr : A.frames = some (env :: F.fr)) (hef : env.frame = some env.locals) (e : ExAny w KF fi env m F ρ₀ s₀ X msg H x s) (h : ∀ h', ExFly w KF fi env m F ρ₀ s₀ X msg H x { s with heap := h' } (env :: F.fr) → Q () { s with heap := h' }) :
    wpAny M A (noteFrame (.ref x) env) (fun _ s₂ => wpAny M A (setFlight (.ref x) none) Q E s₂) E s :=
  e.note hfr hef fun h' e' => by
    obtain ⟨ρ, L, h₁, t, args, ha, n, fl⟩ := e'
    exact wpAny_landsW fl.fl fun h'' k1 k2 => h h'' ⟨ρ, L, h₁, t, args, ha, n.re n.tup n.tx, ⟨k1, noted_of fl.nt n.dict k1.1 k2, fl.fr⟩⟩
end
end Mine
end
section
open PySem PySem.W PyProof.Rows PySem.W.X PySem.SeqAt
namespace Mine
section
variable {w : World} {KF : Frag} {F : Base} {ρ : List Ent} {H : List O} {h : Heap} {gs gs' : Array GenState} {i : Nat} {e : Ent} {fi : FI} {m : Names}
theorem GR.gens {o : O} (x : GR gs e o) (hk : ∀ y, e.g = some y → gs'[y.1]? = gs[y.1]?) (hz : gs.size ≤ gs'.size) : GR gs' e o := by
  cases o with
  | fresh fi body m => obtain ⟨g, env, h1, h2⟩ := x; exact ⟨g, env, h1, (hk _ h1).trans h2⟩
  | gone => exact fun y hy => Nat.lt_of_lt_of_le (x y hy) hz
  | done => obtain ⟨g, env, h1, h2⟩ := x; exact ⟨g, env, h1, (hk _ h1).trans h2⟩
  | slp a fi m rest k y n => obtain ⟨g, env, z, h1, h2, h3⟩ := x; exact ⟨g, env, z, h1, (hk _ h1).trans h2, h3⟩
  | _ => exact trivial
/-- an entry that owns nothing while its generator runs -/
theorem HSim.outAt {s : Shared} {g : Nat} {env : Env} {o : O} (S : HSim w KF F ρ H s.heap s.gens) (hi : ρ[i]? = some e) (hH : H[i]? = some o) (hg : e.g = some (g, env)) (lt : g < s.gens.size) : HSim w KF F (ρ.set i ⟨e.a, [], e.g⟩) (H.set i .gone) s.heap (s.setGen g .running).gens := by
  have sub : ∀ b ∈ fps (ρ.set i ⟨e.a, [], e.g⟩), b ∈ fps ρ := fun b hb => (fps_set_sub rfl).subset hb
  have as := set_as (f := ⟨e.a, [], e.g⟩) hi rfl
  refine ⟨S.bs, S.keep, by rw [List.length_set, List.length_set]; exact S.len, fun j f o hj ho => ?_, fun b hb => S.live b (sub b hb), S.nd.sublist (fps_set_sub rfl), fun b hb => S.off b (sub b hb), by rw [set_gs (f := ⟨e.a, [], e.g⟩) hi rfl]; exact S.gn, fun k z hz => ?_, fun j f o hj ho => ?_, S.fo⟩
  · by_cases q : i = j
    · subst q
      rw [List.getElem?_set_self (List.getElem?_eq_some_iff.mp hi).1] at hj
      rw [List.getElem?_set_self (List.getElem?_eq_some_iff.mp hH).1] at ho
      cases hj; cases ho
      exact .inr (by show e.g.isSome = true; rw [hg]; rfl)
    · rw [List.getElem?_set_ne q] at hj ho
      exact (S.ob j f o hj ho).ents as.symm
  · by_cases q : k = g
    · subst q
      rw [setGen_self lt] at hz
      rw [← Option.some.inj hz]; exact .inl rfl
    · rw [setGen_ne q] at hz
      refine (S.bare k z hz).imp id fun ⟨j, f, o', env', h1, h2, h3, h4⟩ => ?_
      have hj : i ≠ j := fun w => by
        subst w
        rw [hi] at h1; cases h1
        rw [hg] at h2; cases h2
        exact q rfl
      exact ⟨j, f, o', env', by rw [List.getElem?_set_ne hj]; exact h1, h2, by rw [List.getElem?_set_ne hj]; exact h3, h4⟩
  · by_cases q : i = j
    · subst q
      rw [List.getElem?_set_self (List.getElem?_eq_some_iff.mp hi).1] at hj
      rw [List.getElem?_set_self (List.getElem?_eq_some_iff.mp hH).1] at ho
      cases hj; cases ho
      exact fun x hx => by rw [setGen_size]; exact S.glt (List.mem_of_getElem? hi) hx
    · rw [List.getElem?_set_ne q] at hj ho
      exact (S.gf j f o hj ho).gens (fun y hy => setGen_ne (Ne.symm (gn_apart S.gn hi hj q hg hy))) (by rw [setGen_size]; exact Nat.le_refl _)
end
theorem Room.ask {A : Around} {d : Nat} {F : Base} {env : Env} (h : Room A (d + 1) F.fr) (he : env.frame = some env.locals) (body : List Stmt) : Room (A.in1.over (.func body env) []) d (frOf env F) := by
  refine ⟨by rw [frOf_pos he]; show A.frames.map ([env] ++ ·) = _; rw [h.fr]; rfl, h.hd, ?_, ?_⟩
  · have := h.dp
    show A.depth + 0 + 1 + 4 * d < recursionLimit
    omega
  · have := h.un
    show A.units + 1 + 0 + 3 + 40 * d + 200 < cLine
    omega
/-- what a generator answers -/
inductive Ans where
  | txt (x : Str)
  | nothing
  | err (X : String) (msg : Option Str)
/-- an exception that has come out of a generator, under way among the frames l -/
noncomputable def Flew (w : World) (KF : Frag) (F : Base) (ρ : List Ent) (s : Shared) (X : String) (msg : Option Str) (H : List O) (x : Nat) (l : List Env) (s' : Shared) : Prop :=
  ∃ ρ' L h₁ t args, ExArgs msg args ∧ (∀ b ∈ L, ∃ o es ep, h₁.get? b = some o ∧ o.data = .dict es ep) ∧ h₁.get? t = some { cls := .type "tuple", data := .seq args.toArray } ∧ t ≠ x ∧ t ∉ L ∧ (F.f x = none ∧ x ∉ fps ρ') ∧
    Fly L x (.type X) (.ref t) l h₁ s'.heap ∧ ∀ h'', Noted L x h₁ h'' → Step ρ s ρ' { s' with heap := h'' } ∧ HSim w KF F ρ' H h'' s'.gens
/-- the generator's place, and its frame -/
structure AskX (w : World) (KF : Frag) (fi : FI) (env : Env) (F : Base) (ρ : List Ent) (H : List O) (s : Shared) (i : Nat) (e : Ent) (g : Nat) : Prop where
  S : HSim w KF F ρ H s.heap s.gens
  he : ρ[i]? = some e
  hg : e.g = some (g, env)
  lt : g < s.gens.size
  fp : e.fp = e.a :: ownA fi env
  gen : GenAt s.heap e.a g 0
  int : interactive env = false
  fr : env.frame = some env.locals
  sc : env.scope = fi.sc
  own : fi.own = true
section
variable {w : World} {KF : Frag} {fi : FI} {env : Env} {F : Base} {ρ ρ' : List Ent} {H H' : List O} {s s₁ : Shared} {i : Nat} {e : Ent} {g : Nat} {m m' : Names}
noncomputable abbrev AskX.bF (F : Base) (s : Shared) (e : Ent) : Base := addF F s.heap [e.a]
theorem AskX.nd (X : AskX w KF fi env F ρ H s i e g) : e.fp.Nodup := fp_nodup1 X.S.nd (List.mem_of_getElem? X.he)
theorem AskX.mem (X : AskX w KF fi env F ρ H s i e g) : e.a ∈ e.fp := by rw [X.fp]; exact .head _
theorem AskX.off (X : AskX w KF fi env F ρ H s i e g) : FpOff fi env F (ρ.set i ⟨e.a, [], e.g⟩) [e.a] := fun b hb => by
  rw [List.mem_singleton.mp hb]
  exact ⟨X.S.off _ (fps_mem X.he X.mem), fps_set_off X.S.nd X.he rfl X.mem, (List.nodup_cons.mp (X.fp ▸ X.nd)).1⟩
theorem AskX.live (X : AskX w KF fi env F ρ H s i e g) : ∀ b ∈ [e.a], ∃ o, s.heap.get? b = some o := fun b hb => by
  rw [List.mem_singleton.mp hb]; obtain ⟨o, _, _, h, _⟩ := X.gen; exact ⟨o, h⟩
/-- the frame, its generator running -/
theorem AskX.T (X : AskX w KF fi env F ρ H s i e g) {o : O} (hH : H[i]? = some o) (f : FrameAt fi env m ρ s.heap) : Sim w KF fi env m F (ρ.set i ⟨e.a, [], e.g⟩) (H.set i .gone) s.heap (s.setGen g .running).gens := by
  have as := set_as (f := ⟨e.a, [], e.g⟩) X.he rfl
  have f := f.ents as.symm
  refine ⟨X.S.outAt X.he hH X.hg X.lt, f.es, f.eg, f.eb, f.ec, f.ek, .inl f.ef, fun b hb => ?_, f.ns, f.cl, f.ce, f.cn, f.cu, f.cd, fun q => by rw [X.own] at q; cases q⟩
  have hb' : b ∈ e.fp := by rw [X.fp]; exact .tail _ hb
  exact ⟨X.S.off b (fps_mem X.he hb'), fps_set_off X.S.nd X.he rfl hb'⟩
theorem AskX.start (X : AskX w KF fi env F ρ H s i e g) (T : Sim w KF fi env m F (ρ.set i ⟨e.a, [], e.g⟩) (H.set i .gone) s.heap (s.setGen g .running).gens) : Sim w KF fi env m (AskX.bF F s e) (ρ.set i ⟨e.a, [], e.g⟩) (H.set i .gone) (s.setGen g .running).heap (s.setGen g .running).gens :=
  T.rebase X.off
theorem gone_of {w : World} {KF : Frag} {F : Base} {ρ : List Ent} {H : List O} {h : Heap} {gs : Array GenState} {i a : Nat} {x : Nat × Env} (S : HSim w KF F ρ H h gs) (hi : ρ[i]? = some ⟨a, [], some x⟩) : H[i]? = some .gone := by
  have hH : i < H.length := by rw [← S.len]; exact (List.getElem?_eq_some_iff.mp hi).1
  have y := S.ob i _ _ hi (List.getElem?_eq_getElem hH)
  rw [List.getElem?_eq_getElem hH]
  cases q : H[i] with
  | list xs => rw [q] at y; cases y.1
  | arr xs => rw [q] at y; cases y.2.1
  | inst C fs => rw [q] at y; cases y.1
  | tbl P ps => rw [q] at y; cases y.2.2.1
  | fresh fi body m => rw [q] at y; obtain ⟨_, _, _, z, _⟩ := y; cases z
  | gone => rfl
  | done => rw [q] at y; obtain ⟨_, _, _, _, z, _⟩ := y; cases z
  | slp a fi m rest k w n => rw [q] at y; obtain ⟨_, _, _, _, z, _⟩ := y; cases z
  | rit I lo n => rw [q] at y; cases y.2.1
  | tit I xs n => rw [q] at y; cases y.2.1
  | lit I l n => rw [q] at y; cases y.2.1
theorem AskX.back (X : AskX w KF fi env F ρ H s i e g) (T₀ : Sim w KF fi env m F (ρ.set i ⟨e.a, [], e.g⟩) (H.set i .gone) s.heap (s.setGen g .running).gens) (st : Step (ρ.set i ⟨e.a, [], e.g⟩) (s.setGen g .running) ρ' s₁)
    (T : Sim w KF fi env m' (AskX.bF F s e) ρ' H' s₁.heap s₁.gens) {z : GenState} {o' : O} (hz : z.bare = true ∨ isY o' = true) (ho' : GenAt s₁.heap e.a g 0 → FrameAt fi env m' (ρ'.set i e) s₁.heap → OR F (ρ'.set i e) s₁.heap e o') (hG : (s₁.setGen g z).gens[g]? = some z → GR (s₁.setGen g z).gens e o') :
    HSim w KF F (ρ'.set i e) (H'.set i o') (s₁.setGen g z).heap (s₁.setGen g z).gens ∧ GenAt s₁.heap e.a g 0 ∧ FrameAt fi env m' (ρ'.set i e) s₁.heap ∧ Step ρ s (ρ'.set i e) (s₁.setGen g z) ∧ ρ'[i]? = some ⟨e.a, [], some (g, env)⟩ := by
  obtain ⟨U, offU, kU⟩ := Sim.unbase T₀ X.off X.live st.1 st.2.2.2 T
  have hi := (List.getElem?_eq_some_iff.mp X.he).1
  have hi' : ρ'[i]? = some ⟨e.a, [], some (g, env)⟩ := by
    rw [← X.hg]; exact pre_get st.1 (List.getElem?_set_self hi)
  have hlt : i < ρ'.length := (List.getElem?_eq_some_iff.mp hi').1
  have sz : s.gens.size ≤ s₁.gens.size := by have := st.2.2.1.2; rw [setGen_size] at this; exact this
  have glt : g < s₁.gens.size := Nat.lt_of_lt_of_le X.lt sz
  have wo : ∀ b ∈ e.fp, b ∉ fps ρ' ∧ F.f b = none ∧ ∃ o, s₁.heap.get? b = some o := fun b hb => by
    rw [X.fp] at hb
    rcases List.mem_cons.mp hb with rfl | hb
    · obtain ⟨o, _, _, h, _⟩ := X.gen
      exact ⟨(offU _ (.head _)).2.1, (offU _ (.head _)).1, o, kU _ (.head _) o h⟩
    · have lo := U.lo b hb
      obtain ⟨o, ⟨h1, _⟩ | ⟨o2, h1⟩⟩ := U.own_live b hb
      · exact ⟨lo.2, lo.1, o, h1⟩
      · exact ⟨lo.2, lo.1, o2, h1⟩
  have B := U.hs.back hi' X.hg X.nd X.mem wo
  have as := set_as (f := e) hi' rfl
  have nw : New s.gens.size ρ (ρ'.set i e) := fun j f hj hf => by
    rw [List.getElem?_set_ne (by omega)] at hf
    have := st.2.2.2 j f (by rw [List.length_set]; exact hj) hf
    rw [setGen_size] at this; exact this
  have hgen := X.gen.at (kU _ (.head _))
  have hfr := (U.frame X.fr).ents as.symm
  have hiB : (ρ'.set i e)[i]? = some e := List.getElem?_set_self hlt
  have hHg := gone_of U.hs hi'
  have hH' : (H'.set i o')[i]? = some o' := List.getElem?_set_self (List.getElem?_eq_some_iff.mp hHg).1
  have hgz : (s₁.setGen g z).gens[g]? = some z := setGen_self glt
  refine ⟨⟨B.bs, B.keep, B.len.trans List.length_set.symm, fun j f o hj ho => ?_, B.live, B.nd, B.off, B.gn, fun k y hy => ?_, fun j f o hj ho => ?_, B.fo⟩, hgen, hfr, ⟨set_prefix X.he st.1, st.2.1, ⟨st.2.2.1.1, by rw [setGen_size]; exact sz⟩, nw⟩, hi'⟩
  · by_cases q : i = j
    · subst q
      rw [hiB] at hj; rw [hH'] at ho
      cases hj; cases ho
      exact ho' hgen hfr
    · rw [List.getElem?_set_ne q] at ho
      exact B.ob j f o hj ho
  · by_cases q : k = g
    · subst q
      rw [hgz] at hy; cases hy
      exact hz.imp id fun hz => ⟨i, e, o', env, hiB, X.hg, hH', hz⟩
    · rw [setGen_ne q] at hy
      refine (B.bare k y hy).imp id fun ⟨j, f, o, env', h1, h2, h3, h4⟩ => ?_
      have hj : i ≠ j := fun w => by
        subst w
        rw [hHg] at h3; cases h3; cases h4
      exact ⟨j, f, o, env', h1, h2, by rw [List.getElem?_set_ne hj]; exact h3, h4⟩
  · by_cases q : i = j
    · subst q
      rw [hiB] at hj; rw [hH'] at ho
      cases hj; cases ho
      exact hG hgz
    · rw [List.getElem?_set_ne q] at ho
      exact (B.gf j f o hj ho).gens (fun y hy => setGen_ne (Ne.symm (gn_apart B.gn hiB hj q X.hg hy))) (by rw [setGen_size]; exact Nat.le_refl _)
/-- an exception that has left the generator's frame -/
theorem AskX.left {Xn : String} {msg : Option Str} {x : Nat} (X : AskX w KF fi env F ρ H s i e g) (T₀ : Sim w KF fi env m F (ρ.set i ⟨e.a, [], e.g⟩) (H.set i .gone) s.heap (s.setGen g .running).gens)
    (hl : ExFly w KF fi env m' (AskX.bF F s e) (ρ.set i ⟨e.a, [], e.g⟩) (s.setGen g .running) Xn msg H' x s₁ F.fr) (hs : ExcOk Xn) : LeftGen e.a g x s₁ ∧ Flew w KF F ρ s Xn msg (H'.set i .done) x F.fr (s₁.setGen g .finished) := by
  obtain ⟨ρ', L, h₁, t, args, ha, n, fl⟩ := hl
  obtain ⟨st, T⟩ := n.land s₁.heap fl.nt
  obtain ⟨B, hgen, hfr, stB, hi'⟩ := X.back T₀ st T (z := .finished) (o' := .done) (.inl rfl) (fun hg _ => ⟨g, env, ownA fi env, X.hg, X.fp, hg⟩) (fun hg => ⟨g, env, X.hg, hg⟩)
  obtain ⟨x1, x2, x3⟩ := n.off x (.head _)
  obtain ⟨oa, hoa⟩ := X.live _ (.head _)
  have xa : x ≠ e.a := fun q => by
    rw [q, show (AskX.bF F s e).f e.a = s.heap.get? e.a from addF_in (.head _), hoa] at x1; cases x1
  have Fx : F.f x = none := by
    have : (AskX.bF F s e).f x = F.f x := addF_out (fun q => xa (List.mem_singleton.mp q))
    rw [← this]; exact x1
  have pm := fps_set_perm (e := e) hi' rfl
  refine ⟨⟨hgen, Xn, ?_, hs.stop⟩, ρ'.set i e, L, h₁, t, args, ha, n.dict, n.tup, n.tx, n.tL, ⟨Fx, fun q => ?_⟩, fl, fun h'' nt => ?_⟩
  · obtain ⟨_, ⟨o, vs, ho, hc, _⟩, _⟩ := fl.exc n.tup n.tx n.tL
    exact ⟨o, ho, hc⟩
  · rcases List.mem_append.mp (pm.mem_iff.mp q) with q | q
    · rw [X.fp] at q
      rcases List.mem_cons.mp q with q | q
      · exact xa q
      · exact x3 q
    · exact x2 q
  · obtain ⟨st'', T''⟩ := n.land h'' nt
    obtain ⟨B'', hgen'', _, stB'', _⟩ := X.back (s₁ := { s₁ with heap := h'' }) T₀ st'' T'' (z := .finished) (o' := .done) (.inl rfl) (fun hg _ => ⟨g, env, ownA fi env, X.hg, X.fp, hg⟩) (fun hg => ⟨g, env, X.hg, hg⟩)
    exact ⟨stB'', B''⟩
end
end Mine
end
section
open PySem PySem.W PyProof.Rows PySem.W.X PySem.SeqAt
namespace Mine
/-- a generator of the call's asked for its next value -/
noncomputable def AskS (prog : Program) (w : World) (KF : Frag) (d : Nat) (H : List O) (i : Nat) (Q : Ans → List O → Prop) : Prop :=
  ∀ A F ρ s e, Room A (d + 1) F.fr → HSim w KF F ρ H s.heap s.gens → ρ[i]? = some e → (∃ g, GenAt s.heap e.a g 0) ∧
    wpU (model prog w) A (callSpecial? (.ref e.a) (Str.ofString "__next__"))
      (fun r s' => ∃ ρ' H' x t, r = some (.str x t) ∧ Step ρ s ρ' s' ∧ HSim w KF F ρ' H' s'.heap s'.gens ∧ (∃ g, GenAt s'.heap e.a g 0) ∧ Q (.txt x) H')
      (fun v s' => ∃ a, v = .ref a ∧ ((∃ ρ' H', StopAt s'.heap a ∧ Step ρ s ρ' s' ∧ HSim w KF F ρ' H' s'.heap s'.gens ∧ (∃ g, GenAt s'.heap e.a g 0) ∧ Q .nothing H') ∨
        ∃ X msg H', Flew w KF F ρ s X msg H' a F.fr s' ∧ ExcOk X ∧ Q (.err X msg) H')) s
/-- what is fixed while a generator's frame runs -/
structure GX where
  w : World
  KF : Frag
  fi : FI
  env : Env
  F : Base
  ρ : List Ent
  s : Shared
/-- what a run of a generator's frame comes to -/
inductive GAns where
  | yld (x : Str) (rest : List Stmt) (k : Kt) (y : Option Nat)
  | ret
  | exc (X : String) (msg : Option Str)
section
variable (prog : Program) (X : GX) (Q : GAns → Names → List O → Prop)
noncomputable def GYq : YP := fun v z s₁ => ∃ x u ρ' m' H' rest k y, v = .str x u ∧ (z.bare = true ∨ y.isSome = true) ∧ Slp z X.env rest k y ∧ Step X.ρ X.s ρ' s₁ ∧ Sim X.w X.KF X.fi X.env m' X.F ρ' H' s₁.heap s₁.gens ∧ Q (.yld x rest k y) m' H'
noncomputable def GRq : Result → Shared → Prop := fun r s₁ => (r = .ok (.ret .none) ∧ ∃ ρ' m' H', Step X.ρ X.s ρ' s₁ ∧ Sim X.w X.KF X.fi X.env m' X.F ρ' H' s₁.heap s₁.gens ∧ Q .ret m' H') ∨
  ∃ x Xn msg m' H', r = .error (.ref x) ∧ ExFly X.w X.KF X.fi X.env m' X.F X.ρ X.s Xn msg H' x s₁ X.F.fr ∧ ExcOk Xn ∧ Q (.exc Xn msg) m' H'
noncomputable def GO (A : Around) (c : Code) (fs : List Frame) (m : Names) (H : List O) (t : Sem Fin) : Prop :=
  ∀ ρ s, Step X.ρ X.s ρ s → Sim X.w X.KF X.fi X.env m X.F ρ H s.heap s.gens → SegU (model prog X.w) A (GYq X Q) (GRq X Q) c t fs s
end
/-- the frame, running, is the one of fi -/
structure GX.Is (X : GX) (w : World) (KF : Frag) (fi : FI) : Prop where
  hw : X.w = w
  hk : X.KF = KF
  hfi : X.fi = fi
  hfr : X.env.frame = some X.env.locals
  hint : interactive X.env = false
  hsc : X.env.scope = fi.sc
/-- statements run in what is left of a frame -/
noncomputable def GW (prog : Program) (w : World) (KF : Frag) (fi : FI) (d : Nat) (k : Kt) (m : Names) (H : List O) (rest : List Stmt) (Q : GAns → Names → List O → Prop) : Prop :=
  ∀ (X : GX) A c fs K Hd, X.Is w KF fi → Room A (d + 1) X.F.fr → CxIs X.env k c fs K Hd → GO prog X Q A.in1 c fs m H ((execs rest X.env).wrap K Hd id id)
theorem CxIs.room {A : Around} {d : Nat} {F : Base} {env : Env} (hf : env.frame = some env.locals) (hA : Room A (d + 1) F.fr) : ∀ {k : Kt} {c : Code} {fs : List Frame} {K : Flow → Sem Fin} {Hd : Value → Sem Fin}, CxIs env k c fs K Hd → Room (A.in1.over c fs) d (frOf env F)
  | .top body, c, fs, K, Hd, h => by obtain ⟨rfl, rfl, _, _⟩ := h; exact Room.ask hA hf body
  | .loop tgt I lb rest k, c, fs, K, Hd, h => by
    obtain ⟨kf, lf, p, c', fs', K', Hd', rfl, rfl, h, _⟩ := h
    exact Room.ret (CxIs.room hf hA h) rfl rfl
  | .seq rest k, c, fs, K, Hd, h => by obtain ⟨K', h, _⟩ := h; exact CxIs.room hf hA h
theorem CxIs.fok {env : Env} : ∀ {k : Kt} {c : Code} {fs : List Frame} {K : Flow → Sem Fin} {Hd : Value → Sem Fin}, CxIs env k c fs K Hd → FsOk fs
  | .top body, c, fs, K, Hd, h => by obtain ⟨rfl, rfl, _, _⟩ := h; exact .nil
  | .loop tgt I lb rest k, c, fs, K, Hd, h => by
    obtain ⟨kf, lf, p, c', fs', K', Hd', rfl, rfl, h, _⟩ := h
    exact (CxIs.fok h).ret
  | .seq rest k, c, fs, K, Hd, h => by obtain ⟨K', h, _⟩ := h; exact CxIs.fok h
section
variable {prog : Program} {X : GX} {Q : GAns → Names → List O → Prop} {A : Around} {d : Nat} {m : Names} {H : List O} {s : Shared}
/-- an exception at the frame -/
theorem CxIs.exc {Xn : String} {msg : Option Str} {x : Nat} (hf : X.env.frame = some X.env.locals) (hA : Room A (d + 1) X.F.fr) (hx : ExcOk Xn) (hq : Q (.exc Xn msg) m H) : ∀ {k : Kt} {c : Code} {fs : List Frame} {K : Flow → Sem Fin} {Hd : Value → Sem Fin} {s : Shared}, CxIs X.env k c fs K Hd →
    ExAny X.w X.KF X.fi X.env m X.F X.ρ X.s Xn msg H x s → SegU (model prog X.w) A.in1 (GYq X Q) (GRq X Q) c (Hd (.ref x)) fs s
  | .top body, c, fs, K, Hd, s, h, e => by
    have r := CxIs.room hf hA h
    obtain ⟨rfl, rfl, rfl, rfl⟩ := h
    refine segU_wrap (up (e.leave (by rw [r.fr, frOf_pos hf]) hf fun h' fl => segU_end (.error (.ref x)) (.inr ⟨x, Xn, msg, m, H, rfl, fl, hx, hq⟩)))
  | .loop tgt I lb rest k, c, fs, K, Hd, s, h, e => by
    have r := CxIs.room hf hA h
    obtain ⟨kf, lf, p, c', fs', K', Hd', rfl, rfl, h, hh⟩ := h
    obtain ⟨_, _, h3, _, _, h6⟩ := hh prog X.w A.in1 (GYq X Q) (GRq X Q) s
    refine h3 _ (e.note (by rw [r.fr, frOf_pos hf]) hf fun h' eh => segU_leaf (.error (.ref x)) ?_)
    obtain ⟨_, _, _, _, _, h6⟩ := hh prog X.w A.in1 (GYq X Q) (GRq X Q) { s with heap := h' }
    exact h6 _ (eh.back hf fun h'' eh' => CxIs.exc hf hA hx hq h (.inr (.inr eh')))
  | .seq rest k, c, fs, K, Hd, s, h, e => by obtain ⟨K', h, _⟩ := h; exact CxIs.exc hf hA hx hq h e
/-- the frame left by a return -/
theorem CxIs.retn (hq : Q .ret m H) {ρ : List Ent} (st : Step X.ρ X.s ρ s) (S : Sim X.w X.KF X.fi X.env m X.F ρ H s.heap s.gens) : ∀ {k : Kt} {c : Code} {fs : List Frame} {K : Flow → Sem Fin} {Hd : Value → Sem Fin}, CxIs X.env k c fs K Hd →
    SegU (model prog X.w) A (GYq X Q) (GRq X Q) c (K (.ret .none)) fs s
  | .top body, c, fs, K, Hd, h => by
    obtain ⟨rfl, rfl, rfl, rfl⟩ := h
    exact segU_end (.ok (.ret .none)) (.inl ⟨rfl, ρ, m, H, st, S, hq⟩)
  | .loop tgt I lb rest k, c, fs, K, Hd, h => by
    obtain ⟨kf, lf, p, c', fs', K', Hd', rfl, rfl, h, hh⟩ := h
    obtain ⟨_, h2, _, _, h5, _⟩ := hh prog X.w A (GYq X Q) (GRq X Q) s
    exact h2 _ (segU_leaf (.ok (.ret .none)) (h5 _ (CxIs.retn hq st S h)))
  | .seq rest k, c, fs, K, Hd, h => by obtain ⟨K', h, rfl⟩ := h; exact CxIs.retn hq st S h
end
end Mine
end
section
open PySem PySem.W PyProof.Rows PySem.W.X PySem.SeqAt
namespace Mine
/-- a statement that raises -/
noncomputable def SX (prog : Program) (w : World) (KF : Frag) (fi : FI) (d : Nat) (m : Names) (H : List O) (st : Stmt) (X : String) (msg : Option Str) (Q : List O → Prop) : Prop :=
  ∀ A env F ρ s, Room A d (frOf env F) → Sim w KF fi env m F ρ H s.heap s.gens → wpAny (model prog w) A (exec st env) (fun _ _ => False) (RzQ w KF fi env m F ρ s X msg Q) s
/-- an iterator among the objects asked for its next item -/
noncomputable def NextW (prog : Program) (w : World) (KF : Frag) (H : List O) (I : Nat) (Q : Option V → List O → Prop) : Prop :=
  ∀ A F ρ s, A.handled = none → HSim w KF F ρ H s.heap s.gens → wpAny (model prog w) A (pyNext (.ref I)) (fun r s' => ∃ ρ' H' o, Step ρ s ρ' s' ∧ HSim w KF F ρ' H' s'.heap s'.gens ∧
    (match o with | none => r = none | some v => ∃ u, r = some u ∧ VR ρ' s'.heap v u ∧ ∃ ob n, s'.heap.get? I = some ob ∧ ob.cls = .type n ∧ ["enumerate", "zip", "dict_itemiterator", "dict_reverseitemiterator", "odict_iterator", "itertools.zip_longest", "itertools.pairwise"].contains n = false) ∧ Q o H') (fun _ _ => False) s
/-- an iterator made -/
noncomputable def IterN (prog : Program) (w : World) (KF : Frag) (H : List O) (v : V) (Q : Nat → List O → Prop) : Prop :=
  ∀ A F ρ s u, HSim w KF F ρ H s.heap s.gens → VR ρ s.heap v u → wpAny (model prog w) A (pyIter u) (fun it s' => ∃ ρ' H' I, it = .ref I ∧ Step ρ s ρ' s' ∧ HSim w KF F ρ' H' s'.heap s'.gens ∧ Q I H') (fun _ _ => False) s
section
variable {prog : Program} {w : World} {KF : Frag} {fi : FI} {d : Nat} {k : Kt} {m : Names} {H : List O} {rest : List Stmt} {Q : GAns → Names → List O → Prop}
theorem gw_top {body : List Stmt} (h : Q .ret m H) : GW prog w KF fi d (.top body) m H [] Q := fun X A c fs K Hd is hA cx ρ s st S => by
  obtain ⟨rfl, rfl, rfl, hf, hi, hsc⟩ := is
  obtain ⟨rfl, rfl, rfl, rfl⟩ := cx
  exact segU_end (.ok (.ret .none)) (.inl ⟨rfl, ρ, m, H, st, S, h⟩)
theorem gw_seq {r : List Stmt} (h : GW prog w KF fi d k m H r Q) : GW prog w KF fi d (.seq r k) m H [] Q := fun X A c fs K Hd is hA cx ρ s st S => by
  obtain ⟨K', cx, rfl⟩ := cx
  exact h X A c fs K' Hd is hA cx ρ s st S
theorem gw_cons {s₀ : Stmt} (h : WS prog w KF fi d noE m H s₀ fun f m' H' => match f with | .next => GW prog w KF fi d k m' H' rest Q | .ret .none => Q .ret m' H' | _ => False) : GW prog w KF fi d k m H (s₀ :: rest) Q := fun X A c fs K Hd is hA cx ρ s st S => by
  have is' := is
  obtain ⟨rfl, rfl, rfl, hf, hi, hsc⟩ := is
  rw [execs_cons_wrap]
  refine segU_wrap (up (wpAny_mono (h _ X.env X.F ρ s (cx.room hf hA) S) (fun f s₁ hx => ?_) fun _ _ x => (se_no x).elim))
  obtain ⟨ρ₁, H₁, m₁, fl, st₁, S₁, rf, h₁⟩ := hx
  cases fl with
  | next => cases rf; exact h₁ X A c fs K Hd is' hA cx ρ₁ s₁ (st.trans st₁) S₁
  | ret v =>
    obtain ⟨u, rfl, r⟩ := rf
    cases v with
    | none => unfold VR at r; subst r; exact CxIs.retn h₁ (st.trans st₁) S₁ cx
    | _ => exact h₁.elim
  | _ => exact h₁.elim
theorem ExAny.raised {X : GX} {Xn : String} {msg : Option Str} {ρ : List Ent} {s s' : Shared} {Qe : List O → Prop} {v : Value} (hf : X.env.frame = some X.env.locals) (hx : ExcOk Xn) (st : Step X.ρ X.s ρ s) (h : RzQ X.w X.KF X.fi X.env m X.F ρ s Xn msg Qe v s') : ∃ x H', v = .ref x ∧ ExAny X.w X.KF X.fi X.env m X.F X.ρ X.s Xn msg H' x s' ∧ Qe H' := by
  obtain ⟨ρ', H', h₀, x, args, rfl, st', S', ha, hm, off, hq⟩ := h
  exact ⟨x, H', rfl, .inl (ExNew.of hf hx ha (st.trans st') S' hm off), hq⟩
theorem gw_raise {s₀ : Stmt} {Xn : String} {msg : Option Str} (hx : ExcOk Xn) (h : SX prog w KF fi d m H s₀ Xn msg fun H' => Q (.exc Xn msg) m H') : GW prog w KF fi d k m H (s₀ :: rest) Q := fun X A c fs K Hd is hA cx ρ s st S => by
  obtain ⟨rfl, rfl, rfl, hf, hi, hsc⟩ := is
  rw [execs_cons_wrap]
  refine segU_wrap (up (wpAny_mono (h _ X.env X.F ρ s (cx.room hf hA) S) (fun _ _ x => x.elim) fun v s₁ hr => ?_))
  obtain ⟨x, H', rfl, e, hq⟩ := ExAny.raised hf hx st hr
  exact cx.exc hf hA hx hq e
theorem gw_if {test : Expr} {body orelse : List Stmt} {pos : Pos} (h : WT prog w KF fi d noE m H test fun b H' => GW prog w KF fi d (.seq rest k) m H' (if b = true then body else orelse) Q) : GW prog w KF fi d k m H (.If test body orelse pos :: rest) Q := fun X A c fs K Hd is hA cx ρ s st S => by
  have is' := is
  obtain ⟨rfl, rfl, rfl, hf, hi, hsc⟩ := is
  rw [execs_cons_wrap, exec_If]
  refine segU_at ?_
  show SegU _ _ _ _ c (((isTrue test X.env (eval test X.env)).bind fun b => if b = true then execs body X.env else execs orelse X.env).wrap _ _ _ _) fs s
  rw [Sem.bind_eq_wrap, Sem.wrap_wrap]
  refine segU_wrap (up (wpAny_mono (h _ X.env X.F ρ s (cx.room hf hA) S) (fun b s₁ hx => ?_) fun _ _ x => (se_no x).elim))
  obtain ⟨ρ₁, H₁, b', st₁, S₁, rb, h₁⟩ := hx
  cases rb
  have := h₁ X A c fs (fun f => match f with | .next => (execs rest X.env).wrap K Hd id id | f => K f) Hd is' hA ⟨K, cx, rfl⟩ ρ₁ s₁ (st.trans st₁) S₁
  cases b
  · exact this
  · exact this
theorem gw_yield {e : Expr} {ypos pos : Pos} (hco : fi.sc.isCoroutine = false) (h : WE prog w KF fi d noE m H e fun v H' => ∃ x, v = .str x ∧ Q (.yld x rest k none) m H') : GW prog w KF fi d k m H (.Expr (.Yield (some e) ypos) pos :: rest) Q := fun X A c fs K Hd is hA cx ρ s st S => by
  obtain ⟨rfl, rfl, rfl, hf, hi, hsc⟩ := is
  rw [execs_cons_wrap, exec_Expr X.env _ pos hi rfl]
  show SegU _ _ _ _ c (.at pos fun _ => ((eval e X.env >>= fun v => (standAt ypos >>= fun _ => yieldOut X.env v)) >>= fun x =>
    dropValue (.Yield (some e) ypos) pos x).wrap _ Hd id id) fs s
  have hy : ∀ v, yieldOut X.env v = yieldValue v := fun v => by simp only [yieldOut, hsc, hco, Bool.false_eq_true, if_false]
  simp only [hy]
  refine segU_at ?_
  rw [Sem.bind_eq_wrap', Sem.bind_eq_wrap', Sem.wrap_wrap, Sem.wrap_wrap]
  refine segU_wrap (up (wpAny_mono (h _ X.env X.F ρ s (cx.room hf hA) S) (fun v s₁ hx => ?_) fun _ _ x => (se_no x).elim))
  obtain ⟨ρ₁, H₁, x', st₁, S₁, rv, x, rfl, h₁⟩ := hx
  obtain ⟨u, rfl⟩ := rv.str_eq
  refine segU_at (segU_yield cx.fok.sp (closing_plain cx.fok.gd) fun p => ?_)
  exact ⟨x, u, ρ₁, m, H₁, rest, k, none, rfl, .inl (by show (!(false || fs.any Frame.guarded)) = true; rw [cx.fok.gd]; rfl), ⟨c, fs, K, Hd, cx, fun prog w A Y R s h => h⟩, st.trans st₁, S₁, h₁⟩
theorem gw_yieldx {e : Expr} {ypos pos : Pos} {Xn : String} {msg : Option Str} (hx : ExcOk Xn) (h : WX prog w KF fi d m H e Xn msg fun H' => Q (.exc Xn msg) m H') : GW prog w KF fi d k m H (.Expr (.Yield (some e) ypos) pos :: rest) Q := fun X A c fs K Hd is hA cx ρ s st S => by
  obtain ⟨rfl, rfl, rfl, hf, hi, hsc⟩ := is
  rw [execs_cons_wrap, exec_Expr X.env _ pos hi rfl]
  show SegU _ _ _ _ c (.at pos fun _ => ((eval e X.env >>= fun v => (standAt ypos >>= fun _ => yieldOut X.env v)) >>= fun x =>
    dropValue (.Yield (some e) ypos) pos x).wrap _ Hd id id) fs s
  refine segU_at ?_
  rw [Sem.bind_eq_wrap', Sem.bind_eq_wrap', Sem.wrap_wrap, Sem.wrap_wrap]
  refine segU_wrap (up (wpAny_mono (h _ X.env X.F ρ s (cx.room hf hA) S) (fun _ _ x => x.elim) fun v s₁ hr => ?_))
  obtain ⟨x, H', rfl, e, hq⟩ := ExAny.raised hf hx st hr
  exact cx.exc hf hA hx hq e
/-- the head of a loop: the iterator asked -/
theorem gw_loop {tgt : Expr} {I : Nat} {lb : List Stmt} (h : NextW prog w KF H I fun o H' => match o with | none => GW prog w KF fi d k m H' rest Q | some v => WA prog w KF fi d noE m H' tgt v fun m' H'' => GW prog w KF fi d (.loop tgt I lb rest k) m' H'' lb Q) :
    GW prog w KF fi d (.loop tgt I lb rest k) m H [] Q := fun X A c fs K Hd is hA cx ρ s st S => by
  have is' := is
  have r := cx.room is.hfr hA
  obtain ⟨rfl, rfl, rfl, hf, hi, hsc⟩ := is
  obtain ⟨kf, lf, p, c', fs', K', Hd', rfl, rfl, cx', hh⟩ := cx
  refine (hh prog X.w A.in1 (GYq X Q) (GRq X Q) s).1 ?_
  show SegU _ _ _ _ _ ((forTurn tgt (.ref I) lb [] X.env).onRaise (fun x => do noteFrame x X.env; theTreesLotGoes x)) _ s
  rw [Sem.onRaise_eq_wrap]
  unfold forTurn
  refine segU_bw (wpU_standAt (segU_bw (wpU_onRaise (up (wpAny_mono (h _ _ ρ s r.hd S.toH) (fun o s₁ hq => ?_) fun _ _ x => x.elim)))))
  obtain ⟨ρ₁, H₁, v, st₁, T₁, hv, hq⟩ := hq
  have S₁ := S.ofH st₁.1 st₁.2.1 T₁
  cases v with
  | none =>
    subst hv
    refine segU_again rfl ?_
    show SegU _ _ _ _ _ ((execs [] X.env).onRaise _ >>= _) _ s₁
    refine segU_bind (wpU_onRaise (up (wpAny_execs_nil ?_)))
    refine segU_leaf (.ok .next) ((hh prog X.w A.in1 (GYq X Q) (GRq X Q) s₁).2.2.2.1 ?_)
    exact hq X A c' fs' K' Hd' is' hA cx' ρ₁ s₁ (st.trans st₁) S₁
  | some v =>
    obtain ⟨u, rfl, ru, ob, nn, ho, hc, hn⟩ := hv
    refine segU_bw (up (lot_plain ho hc hn ?_))
    refine segU_bw (up (wpAny_mono (hq _ X.env X.F ρ₁ s₁ u r S₁ ru) (fun _ s₂ hx => ?_) fun _ _ x => (se_no x).elim))
    obtain ⟨ρ₂, H₂, m₂, st₂, S₂, h₂⟩ := hx
    rw [Sem.bind_eq_wrap', Sem.wrap_wrap]
    refine h₂ X A _ _ _ _ is' hA ⟨kf, lf, p, c', fs', K', Hd', rfl, rfl, cx', fun prog w A Y R s => ⟨fun q => segU_again rfl q, fun v q => q, fun e q => ?_, (hh prog w A Y R s).2.2.2.1, (hh prog w A Y R s).2.2.2.2.1, (hh prog w A Y R s).2.2.2.2.2⟩⟩ ρ₂ s₂ ((st.trans st₁).trans st₂) S₂
    show SegU (model prog w) A Y R _ ((noteFrame e X.env >>= fun _ => theTreesLotGoes e) >>= fun _ => (Sem.raise e : Sem Fin)) _ s
    refine segU_bind (up (wpAny_bind (wpAny_mono q (fun _ s' q' => wpAny_theTreesLotGoes ?_) fun _ _ x => x.elim)))
    exact q'
theorem gw_for {tgt iter : Expr} {lb : List Stmt} {pos : Pos} (h : WE prog w KF fi d noE m H iter fun v H₁ => IterN prog w KF H₁ v fun I H' => GW prog w KF fi d (.loop tgt I lb rest k) m H' [] Q) (hs : ∀ env x, foldedSetIterable iter env x = pure x := by intro _ _; rfl) :
    GW prog w KF fi d k m H (.For tgt iter lb [] pos :: rest) Q := fun X A c fs K Hd is hA cx ρ s st S => by
  have is' := is
  have r := cx.room is.hfr hA
  obtain ⟨rfl, rfl, rfl, hf, hi, hsc⟩ := is
  rw [execs_cons_wrap, exec_For]
  refine segU_bw (wpU_standAt (segU_bw (up (wpAny_mono (h _ X.env X.F ρ s r S) (fun u s₁ hx => ?_) fun _ _ x => (se_no x).elim))))
  obtain ⟨ρ₁, H₁, v, st₁, S₁, ru, h₁⟩ := hx
  rw [hs X.env u]
  refine segU_bw (wpU_pure (segU_bw (wpU_standAt (segU_bw (wpU_holding (up (wpAny_mono (h₁ _ _ ρ₁ s₁ u S₁.toH ru) (fun it s₂ hx => ?_) fun _ _ x => x.elim)))))))
  obtain ⟨ρ₂, H₂, I, rfl, st₂, T₂, h₂⟩ := hx
  have S₂ := S₁.ofH st₂.1 st₂.2.1 T₂
  unfold runOwn run
  rw [Sem.onRaise_eq_wrap, Sem.wrap_wrap]
  refine segU_call fun p => ?_
  refine h₂ X A (.forLoop tgt (.ref I) lb [] X.env) _ (fun f => match f with | .next => denote table (.forLoop tgt (.ref I) lb [] X.env) | .ret v => leafOf (.ok (.ret v)) | f => .pure (.done f)) (fun e => noteFrame e X.env >>= fun _ => leafOf (.error e)) is' hA
    ⟨_, _, p, c, fs, K, Hd, rfl, rfl, cx, fun prog w A Y R s => ⟨fun q => q, fun v q => q, fun e q => segU_bind (up (wpAny_mono q (fun _ _ x => x) fun _ _ x => x.elim)), fun q => q, fun v q => q, fun e q => ?_⟩⟩ ρ₂ s₂ ((st.trans st₁).trans st₂) S₂
  show SegU (model prog w) A Y R _ (Sem.wrap _ _ _ _ ((do
      if (← field e 1) == .none then unsupported "frame.own-activation:exception-without-traceback"
      setFlight e X.env.frame : Sem Unit) >>= fun _ => (Sem.raise e : Sem Flow))) fs s
  exact segU_bw (up (wpAny_mono q (fun _ s₁ h₁ => h₁) fun _ _ x => x.elim))
end
end Mine
end
section
open PySem PySem.W PyProof.Rows PySem.W.X PySem.SeqAt
namespace Mine
section
variable {w : World} {KF : Frag} {F : Base} {ρ : List Ent} {H : List O} {h h' : Heap} {gs : Array GenState} {i : Nat} {e : Ent}
theorem HSim.slept {a : Nat} {fi : FI} {m : Names} {r : List Stmt} {k : Kt} {y : Option Nat} {n n' : Int} (S : HSim w KF F ρ H h gs) (hi : ρ[i]? = some e) (hH : H[i]? = some (.slp a fi m r k y n)) (hk : ∀ b o, b ≠ e.a → h.get? b = some o → h'.get? b = some o)
    (hg : ∀ g env, e.g = some (g, env) → GenAt h e.a g n → GenAt h' e.a g n') : HSim w KF F ρ (H.set i (.slp a fi m r k y n')) h' gs ∧ TK h h' := by
  obtain ⟨h0, g, env, h1, h2, h3, h4, h5, h6⟩ := S.ob i e _ hi hH
  have t : TK h h' := .of_ext hk h3.not_imm
  have nd : (e.a :: ownA fi env).Nodup := h2 ▸ fp_nodup1 S.nd (List.mem_of_getElem? hi)
  have ne : ∀ b ∈ ownA fi env, b ≠ e.a := fun b hb q => (List.nodup_cons.mp nd).1 (q ▸ hb)
  have g' := hg g env h1 h3
  refine ⟨S.upd hi (fun b o hb q => hk b o (fun z => hb (by rw [h2, z]; exact .head _)) q) (fun b hb => ?_) t ⟨h0, g, env, h1, h2, g', h4, h5, h6.mono h4 (List.prefix_refl _) t fun b hb o q => hk b o (ne b hb) q⟩ (show GR gs e (.slp a fi m r k y n) from S.gf i e _ hi hH) (fun o q z => by rw [hH] at q; cases q; cases y <;> exact z), t⟩
  rw [h2] at hb
  rcases List.mem_cons.mp hb with rfl | hb
  · obtain ⟨o, _, _, ho, _⟩ := g'; exact ⟨o, ho⟩
  · obtain ⟨o, ho⟩ := S.live b (fps_mem hi (by rw [h2]; exact .tail _ hb))
    exact ⟨o, hk b o (ne b hb) ho⟩
end
section
variable {prog : Program} {w : World} {A : Around} {E : Value → Shared → Prop} {s : Shared}
theorem wpAny_endsF {e : Nat} {X : String} {Q : Bool → Shared → Prop} (hT : s.TypeIs (.ref e) X) (hx : ExcOk X) (h : Q false s) : wpAny (model prog w) A (Builtin.Generator.endsTheTurnAsAValue false (.ref e)) Q E s := by
  unfold Builtin.Generator.endsTheTurnAsAValue Builtin.Generator.isStopAndMetaclass
  refine wpAny_bind (wpAny_bind (wpAny_typeOf hT (wpAny_bind (wpAny_of_eq hx.stop ?_))))
  refine wpAny_bind (wpAny_of_eq hx.ty ?_)
  exact wpAny_pure (wpAny_pure h)
end
section
variable {w : World} {KF : Frag} {fi : FI} {env : Env} {m : Names} {F : Base} {ρ ρ₀ : List Ent} {H H' : List O} {s s₀ s' : Shared} {Xn : String} {msg : Option Str} {x : Nat} {l : List Env}
/-- an exception out of a generator, at the frame that has asked it -/
theorem Flew.frame (S : Sim w KF fi env m F ρ H s.heap s.gens) (st : Step ρ₀ s₀ ρ s) (h : Flew w KF (addE F s.heap env (ownA fi env)) ρ s Xn msg H' x l s') : ExFly w KF fi env m F ρ₀ s₀ Xn msg H' x s' l := by
  obtain ⟨ρ', L, h₁, t, args, ha, hd, ht, tx, tL, ⟨f1, f2⟩, fl, land⟩ := h
  have no : x ∉ ownA fi env := fun q => by
    rw [addE_in q] at f1
    obtain ⟨o, ⟨ho, _⟩ | ⟨o, ho⟩⟩ := S.own_live x q <;> (rw [f1] at ho; cases ho)
  refine ⟨ρ', L, h₁, t, args, ha, ⟨hd, ht, tx, tL, fun b hb => ?_, fun h'' nt => ?_⟩, fl⟩
  · rw [List.mem_singleton.mp hb]
    exact ⟨by rw [← addE_out (h := s.heap) (env := env) no]; exact f1, f2, no⟩
  · obtain ⟨st', T⟩ := land h'' nt
    exact ⟨st.trans st', S.ofH st'.1 st'.2.1 T⟩
end
theorem Room.yf {A : Around} {c : Code} {fs : List Frame} {a : Nat} {kf : Result → Sem Fin} {l p} {d : Nat} {lf : List Env} (h : Room (A.over c fs) (d + 2) lf) : Room (A.over (yfC a) (.ret kf none false l c p [] :: fs)) (d + 1) lf := by
  obtain ⟨h1, h2, h3⟩ := over_ret (A := A) (c := c) (c' := yfC a) (fs := fs) (k := kf) (g := false) (l := l) (p := p) (kp := [])
  refine ⟨by rw [over_fr, Code.envs_of_weight (plainId_weight plain_yf _)]; exact h.fr, h1.trans h.hd, ?_, ?_⟩
  · have e1 : (yfC a).weight = 0 := plainId_weight plain_yf _
    have := h.dp
    rw [h2, e1]; omega
  · have e1 : (yfC a).cUnits = 1 := plainId_units plain_yf _
    have := h.un
    rw [h3, e1]; omega
/-- what follows an asking in «yield from» -/
noncomputable def YfQ (prog : Program) (w : World) (KF : Frag) (fi : FI) (d : Nat) (k : Kt) (m : Names) (rest : List Stmt) (i : Nat) (Q : GAns → Names → List O → Prop) : Ans → List O → Prop := fun a H' => match a with
  | .txt x => ∃ b fi' m' r' k' y', H'[i]? = some (.slp b fi' m' r' k' y' 0) ∧ Q (.yld x rest k (some b)) m (H'.set i (.slp b fi' m' r' k' y' 1))
  | .nothing => GW prog w KF fi d k m H' rest Q
  | .err X msg => Q (.exc X msg) m H'
section
variable {prog : Program} {w : World} {KF : Frag} {fi : FI} {d : Nat} {k : Kt} {m : Names} {H : List O} {rest : List Stmt} {Q : GAns → Names → List O → Prop}
theorem yf_run {X : GX} {A : Around} {c : Code} {fs : List Frame} {K : Flow → Sem Fin} {Hd : Value → Sem Fin} {kf : Result → Sem Fin} {lf : List Value} {p : Pos} {i : Nat} {ρ : List Ent} {s : Shared} {en : Ent} (is : X.Is w KF fi) (hA : Room A (d + 2 + 1) X.F.fr) (cx : CxIs X.env k c fs K Hd)
    (hkf : ∀ (prog : Program) (w : World) (A : Around) (Y : YP) (R : Result → Shared → Prop) (s : Shared), (SegM prog w A Y R c ((execs rest X.env).wrap K Hd id id) fs s → SegM prog w A Y R c (kf (.ok (.ret .none))) fs s) ∧ ∀ e, SegM prog w A Y R c (Hd e) fs s → SegM prog w A Y R c (kf (.error e)) fs s)
    (st : Step X.ρ X.s ρ s) (S : Sim X.w X.KF X.fi X.env m X.F ρ H s.heap s.gens) (he : ρ[i]? = some en) (h : AskS prog w KF d H i (YfQ prog w KF fi (d + 2) k m rest i Q)) :
    SegU (model prog X.w) A.in1 (GYq X Q) (GRq X Q) (yfC en.a) (denote table (yfC en.a)) (.ret kf none false lf c p [] :: fs) s := by
  have is' := is
  have r := cx.room is.hfr hA
  obtain ⟨rfl, rfl, rfl, hf, hi, hsc⟩ := is
  have ef := frOf_pos (F := X.F) hf
  obtain ⟨_, hask⟩ := h (A.in1.over (yfC en.a) (.ret kf none false lf c p [] :: fs)) _ ρ s en (show Room _ (d + 1) (addE X.F s.heap X.env (ownA X.fi X.env)).fr from r.yf) S.toH he
  have hden : denote table (yfC en.a) = Builtin.«proto.yield_from» ⟨[.ref en.a, .bool false, .none], []⟩ := by
    show (match entryFor table "proto.yield_from" with | some b => b ⟨[.ref en.a, .bool false, .none], []⟩ | none => unsupported ((withoutEnding? "proto.yield_from" "#data").getD "proto.yield_from")) = _
    rw [entry_yf]
  rw [hden]
  unfold Builtin.«proto.yield_from»
  dsimp only
  refine segU_bind (wpU_pure (segU_bind (wpU_attempt (wpU_holding ?_))))
  refine wpU_ite_false (by simp) (wpU_ite_true rfl (wpU_bind (up (wpAny_rule (wpU_bind (wpU_mono hask (fun r s₁ h₁ => ?_) fun v s₁ h₁ => ?_))))))
  · obtain ⟨ρ₁, H₁, x, t, rfl, st₁, T₁, ⟨g, g₁⟩, b, fi', m', r', k', y', hH, hq⟩ := h₁
    refine wpU_pure (M := model prog X.w) ?_
    dsimp only
    have he₁ : ρ₁[i]? = some en := pre_get st₁.1 he
    obtain ⟨hb, g', env', e1, e2, e3, _⟩ := T₁.ob i en _ he₁ hH
    subst hb
    refine segU_bind (up (wpAny_typeOf g₁.typeIs (segU_bind (up (wpAny_of_eq close_gen.lookup (segU_bind (wpU_pure (M := model prog X.w) ?_)))))))
    refine segU_bind (up (wpAny_sleptOver e3 fun h₃ k₃ g₃ => ?_))
    obtain ⟨T₃, tk₃⟩ := T₁.slept (n' := 1) he₁ hH k₃ fun g2 env2 q _ => by rw [e1] at q; cases q; simpa using g₃
    have S₃ := S.ofH st₁.1 (st₁.2.1.trans tk₃) T₃
    refine segU_yield (k := fun r => _) cx.fok.ret.sp (closing_from cx.fok.ret.gd g₃.choose_spec.choose_spec.choose_spec.1 (by
      obtain ⟨_, hc3, hd3, _⟩ := g₃.choose_spec.choose_spec.choose_spec
      unfold Obj.genNumber?
      rw [hc3, hd3]; rfl) true) fun p' => ?_
    refine ⟨x, t, ρ₁, m, _, rest, k, some en.a, rfl, .inr rfl, ⟨c, fs, K, Hd, kf, lf, p, cx, fun prog w A Y R s => ⟨fun q => ?_, hkf prog w A Y R s⟩⟩, (st.trans st₁).trans (.same tk₃ rfl (Nat.le_refl _)), S₃, hq⟩
    show SegU (model prog w) A Y R (yfC en.a) (Builtin.Generator.sleptOver (.ref en.a) false >>= _) _ s
    refine segU_bind (up (wpAny_mono q (fun _ s' q' => segU_bind (wpU_pure (M := model prog w) (segU_again (plainId_quiet plain_yf _) ?_))) fun _ _ x => x.elim))
    exact q'
  · obtain ⟨a, rfl, ⟨ρ₁, H₁, hs, st₁, T₁, _, hq⟩ | ⟨Xn, msg, H', fw, hx, hq⟩⟩ := h₁
    · dsimp only
      refine segU_bind (up (wpAny_ends hs ?_))
      simp only [if_true, Bool.false_eq_true, if_false]
      obtain ⟨o, vs, ho, hc, hd5, h5⟩ := hs
      refine segU_bind (up (wpAny_rule (segU_bind (up (wpAny_field ho hd5 h5 ?_)))))
      refine segU_leaf (.ok (.ret .none)) ((hkf prog X.w A.in1 (GYq X Q) (GRq X Q) s₁).1 ?_)
      exact hq X A c fs K Hd is' hA cx ρ₁ s₁ (st.trans st₁) (S.ofH st₁.1 st₁.2.1 T₁)
    · dsimp only
      have fl := Flew.frame S st fw
      have hT : s₁.TypeIs (.ref a) Xn := by
        obtain ⟨_, _, _, _, _, _, n, fl'⟩ := fl
        obtain ⟨_, ⟨o, vs, ho, hc, _⟩, _⟩ := fl'.exc n.tup n.tx n.tL
        exact ⟨o, ho, hc⟩
      refine segU_bind (up (wpAny_endsF hT hx ?_))
      simp only [Bool.false_eq_true, if_false]
      refine segU_leaf (.error (.ref a)) ((hkf prog X.w A.in1 (GYq X Q) (GRq X Q) s₁).2 _ ?_)
      refine cx.exc hf hA hx hq (.inr (.inl ?_))
      rw [← ef]
      exact fl
theorem gw_yf {e : Expr} {ypos pos : Pos} (h : WE prog w KF fi (d + 2) noE m H e fun v H₁ => ∃ i, v = .ref i ∧ AskS prog w KF d H₁ i (YfQ prog w KF fi (d + 2) k m rest i Q)) : GW prog w KF fi (d + 2) k m H (.Expr (.YieldFrom e ypos) pos :: rest) Q := fun X A c fs K Hd is hA cx ρ s st S => by
  have is' := is
  have r := cx.room is.hfr hA
  obtain ⟨rfl, rfl, rfl, hf, hi, hsc⟩ := is
  rw [execs_cons_wrap, exec_Expr X.env _ pos hi rfl]
  show SegU _ _ _ _ c (.at pos fun _ => ((eval e X.env >>= fun v => (standAt ypos >>= fun _ => yieldFrom X.env v)) >>= fun x =>
    dropValue (.YieldFrom e ypos) pos x).wrap _ Hd id id) fs s
  refine segU_at ?_
  rw [Sem.bind_eq_wrap', Sem.bind_eq_wrap', Sem.wrap_wrap, Sem.wrap_wrap]
  refine segU_wrap (up (wpAny_mono (h _ X.env X.F ρ s r S) (fun v s₁ hx => ?_) fun _ _ x => (se_no x).elim))
  obtain ⟨ρ₁, H₁, x', st₁, S₁, rv, i, rfl, hask⟩ := hx
  unfold VR at rv
  obtain ⟨en, he, rfl⟩ := rv
  obtain ⟨⟨g, hg⟩, _⟩ := hask (A.in1.over c fs) _ ρ₁ s₁ en (show Room _ (d + 1) (addE X.F s₁.heap X.env (ownA X.fi X.env)).fr from ⟨r.fr, r.hd, by have := r.dp; omega, by have := r.un; omega⟩) S₁.toH he
  refine segU_bw (wpU_standAt ?_)
  unfold yieldFrom
  refine segU_bw (up (wpAny_typeOf hg.typeIs ?_))
  rw [if_neg (by decide)]
  refine segU_bw (wpU_holding (up (pyIter_genAt hg ?_)))
  unfold runValue run
  rw [Sem.bind_eq_wrap', Sem.wrap_wrap]
  refine segU_call fun p => ?_
  exact yf_run is' hA cx (fun prog w A Y R s => ⟨fun q => q, fun e q => q⟩) (st.trans st₁) S₁ he hask
end
end Mine
end
section
open PySem PySem.W PyProof.Rows PySem.W.X PySem.SeqAt
namespace Mine
/-- what a run of the frame means for who has asked -/
noncomputable def GQ (Q : Ans → List O → Prop) (i a : Nat) (fi : FI) : GAns → Names → List O → Prop := fun an m' H' => match an with
  | .yld x rest k y => Q (.txt x) (H'.set i (.slp a fi m' rest k y 0))
  | .ret => Q .nothing (H'.set i .done)
  | .exc X msg => Q (.err X msg) (H'.set i .done)
section
variable {prog : Program} {w : World} {KF : Frag} {fi : FI} {env : Env} {F : Base} {ρ : List Ent} {H : List O} {s : Shared} {i : Nat} {e : Ent} {g : Nat} {m : Names} {A : Around} {d : Nat} {Q : Ans → List O → Prop}
noncomputable abbrev AskX.gx (w : World) (KF : Frag) (fi : FI) (env : Env) (F : Base) (ρ : List Ent) (s : Shared) (i : Nat) (e : Ent) (g : Nat) : GX := ⟨w, KF, fi, env, AskX.bF F s e, ρ.set i ⟨e.a, [], e.g⟩, s.setGen g .running⟩
theorem AskX.is (X : AskX w KF fi env F ρ H s i e g) : (AskX.gx w KF fi env F ρ s i e g).Is w KF fi := ⟨rfl, rfl, rfl, X.fr, X.int, X.sc⟩
theorem ask_core {z : GenState} {o : O} (X : AskX w KF fi env F ρ H s i e g) (hH : H[i]? = some o) (f : FrameAt fi env m ρ s.heap) (hA : Room A (d + 1) F.fr) (hgs : s.gens[g]? = some z)
    (hgo : GoesU (model prog w) A.in1 (GYq (AskX.gx w KF fi env F ρ s i e g) (GQ Q i e.a fi)) (GRq (AskX.gx w KF fi env F ρ s i e g) (GQ Q i e.a fi)) z (s.setGen g .running)) :
    wpU (model prog w) A (callSpecial? (.ref e.a) (Str.ofString "__next__"))
      (fun r s' => ∃ ρ' H' x t, r = some (.str x t) ∧ Step ρ s ρ' s' ∧ HSim w KF F ρ' H' s'.heap s'.gens ∧ (∃ g, GenAt s'.heap e.a g 0) ∧ Q (.txt x) H')
      (fun v s' => ∃ a, v = .ref a ∧ ((∃ ρ' H', StopAt s'.heap a ∧ Step ρ s ρ' s' ∧ HSim w KF F ρ' H' s'.heap s'.gens ∧ (∃ g, GenAt s'.heap e.a g 0) ∧ Q .nothing H') ∨
        ∃ X msg H', Flew w KF F ρ s X msg H' a F.fr s' ∧ ExcOk X ∧ Q (.err X msg) H')) s := by
  have T₀ := X.T hH f
  refine special_nextE hA.hd X.S.b.lim hA.depth X.gen hgs hgo (fun v z' s₁ hv => ?_) (fun r s₁ hr => ?_)
  · obtain ⟨x, u, ρ', m', H', rest, k, y, rfl, hz, hs, st, T, hq⟩ := hv
    obtain ⟨B, hgen, hfr, stB, _⟩ := X.back T₀ st T (z := z') (o' := .slp e.a fi m' rest k y 0) (hz.imp id fun q => by cases y with | none => cases q | some _ => rfl) (fun hg hf => ⟨rfl, g, env, X.hg, X.fp, hg, X.own, X.int, hf⟩) (fun hg => ⟨g, env, z', X.hg, hg, hs⟩)
    exact ⟨_, _, x, u, rfl, stB, B, ⟨g, hgen⟩, hq⟩
  · rcases hr with ⟨rfl, ρ', m', H', st, T, hq⟩ | ⟨x, Xn, msg, m', H', rfl, hl, hs, hq⟩
    · refine .inl ⟨rfl, fun h' a hk ha => ⟨a, rfl, .inl ?_⟩⟩
      obtain ⟨B, hgen, hfr, stB, _⟩ := X.back T₀ st T (z := .finished) (o' := .done) (.inl rfl) (fun hg _ => ⟨g, env, ownA fi env, X.hg, X.fp, hg⟩) (fun hg => ⟨g, env, X.hg, hg⟩)
      exact ⟨_, _, ha, stB.trans (Step.same (s := s₁.setGen g .finished) (s' := { s₁.setGen g .finished with heap := h' }) (.of_keep hk) rfl (Nat.le_refl _)), B.keeps hk, ⟨g, hgen.at fun o q => hk _ _ q⟩, hq⟩
    · obtain ⟨lg, fw⟩ := X.left T₀ hl hs
      exact .inr ⟨x, rfl, lg, x, rfl, .inr ⟨Xn, msg, _, fw, hs, hq⟩⟩
end
section
variable {prog : Program} {w : World} {KF : Frag} {fi : FI} {H : List O} {i : Nat} {m : Names} {d : Nat} {Q : Ans → List O → Prop}
theorem asks_fresh {body : List Stmt} (hH : H[i]? = some (.fresh fi body m)) (h : ∀ a, GW prog w KF fi d (.top body) m (H.set i .gone) body (GQ Q i a fi)) : AskS prog w KF d H i Q := fun A F ρ s e hA S he => by
  obtain ⟨g, env, h1, h2, h3, h4, h5, h6⟩ := S.ob i e _ he hH
  obtain ⟨g', env', h1', hgs⟩ := S.gf i e _ he hH
  rw [h1] at h1'; cases h1'
  have X : AskX w KF fi env F ρ H s i e g := ⟨S, he, h1, (Array.getElem?_eq_some_iff.mp hgs).1, h2, .of h3, h5, h6.ef, h6.es, h4⟩
  refine ⟨⟨g, X.gen⟩, ask_core X hH h6 hA hgs ?_⟩
  show SegU _ _ _ _ _ (.point [] fun _ => ((execs body env).onRaise (leaving env)) >>= _) [] _
  refine segU_point ?_
  rw [Sem.onRaise_eq_wrap, Sem.bind_eq_wrap', Sem.wrap_wrap]
  rw [Sem.wrap_congr (execs body env) _ _ (K' := fun f => .pure (.done (.ret (match f with | .ret v => v | _ => .none))))
    (H' := fun e => (leaving env e).wrap (fun _ => .raise e) .raise id id) (fun f => by cases f <;> rfl)
    (fun e => by rw [Sem.bind_eq_wrap, Sem.wrap_wrap]; rfl)]
  exact h e.a (AskX.gx w KF fi env F ρ s i e g) A (.func body env) [] _ _ X.is hA ⟨rfl, rfl, rfl, rfl⟩ _ _ .refl (X.start (X.T hH h6))
theorem asks_slp {a : Nat} {rest : List Stmt} {k : Kt} (hH : H[i]? = some (.slp a fi m rest k none 0)) (h : GW prog w KF fi d k m (H.set i .gone) rest (GQ Q i a fi)) : AskS prog w KF d H i Q := fun A F ρ s e hA S he => by
  obtain ⟨h0, g, env, h1, h2, h3, h4, h5, h6⟩ := S.ob i e _ he hH
  obtain ⟨g', env', z, h1', hgs, c, fs, K, Hd, cx, hgo⟩ := S.gf i e _ he hH
  rw [h1] at h1'; cases h1'
  subst h0
  have X : AskX w KF fi env F ρ H s i e g := ⟨S, he, h1, (Array.getElem?_eq_some_iff.mp hgs).1, h2, h3, h5, h6.ef, h6.es, h4⟩
  refine ⟨⟨g, X.gen⟩, ask_core X hH h6 hA hgs (hgo _ _ _ _ _ _ ?_)⟩
  exact h (AskX.gx w KF fi env F ρ s i e g) A c fs K Hd X.is hA cx _ _ .refl (X.start (X.T hH h6))
theorem asks_done (hH : H[i]? = some .done) (h : Q .nothing H) : AskS prog w KF d H i Q := fun A F ρ s e hA S he => by
  obtain ⟨g, env, r, h1, h2, h3⟩ := S.ob i e _ he hH
  obtain ⟨g', env', h1', hgs⟩ := S.gf i e _ he hH
  rw [h1] at h1'; cases h1'
  refine ⟨⟨g, h3⟩, special_nextD hA.hd h3 hgs fun h' a hk ha => ⟨a, rfl, .inl ⟨ρ, H, ha, .same (.of_keep hk) rfl (Nat.le_refl _), S.keeps hk, ⟨g, h3.at fun o q => hk _ _ q⟩, h⟩⟩⟩
/-- asleep in «yield from» the generator j -/
theorem asks_yf {a b j : Nat} {rest : List Stmt} {k : Kt} {fi' : FI} {m' : Names} {r' : List Stmt} {k' : Kt} {y' : Option Nat} (hij : i ≠ j) (hH : H[i]? = some (.slp a fi m rest k (some b) 0)) (hJ : H[j]? = some (.slp b fi' m' r' k' y' 1))
    (h : AskS prog w KF d ((H.set i .gone).set j (.slp b fi' m' r' k' y' 0)) j (YfQ prog w KF fi (d + 2) k m rest j (GQ Q i a fi))) : AskS prog w KF (d + 2) H i Q := fun A F ρ s e hA S he => by
  obtain ⟨h0, g, env, h1, h2, h3, h4, h5, h6⟩ := S.ob i e _ he hH
  obtain ⟨g', env', z, h1', hgs, c, fs, K, Hd, kf, lf, p, cx, hgo⟩ := S.gf i e _ he hH
  rw [h1] at h1'; cases h1'
  subst h0
  have X : AskX w KF fi env F ρ H s i e g := ⟨S, he, h1, (Array.getElem?_eq_some_iff.mp hgs).1, h2, h3, h5, h6.ef, h6.es, h4⟩
  have T := X.start (X.T hH h6)
  have hJ' : (H.set i .gone)[j]? = some (.slp b fi' m' r' k' y' 1) := by rw [List.getElem?_set_ne hij]; exact hJ
  obtain ⟨ej, hej, _⟩ := S.at' hJ
  have hej' : (ρ.set i ⟨e.a, [], e.g⟩)[j]? = some ej := by rw [List.getElem?_set_ne hij]; exact hej
  obtain ⟨hb, gj, envj, j1, j2, j3, _⟩ := S.ob j ej _ hej hJ
  subst hb
  have r := cx.room X.fr (F := AskX.bF F s e) hA
  refine ⟨⟨g, X.gen⟩, ask_core X hH h6 hA hgs ?_⟩
  refine (hgo _ _ _ _ _ _).1 (wpAny_sleptOver j3 fun h₃ k₃ g₃ => ?_)
  obtain ⟨T₃, tk₃⟩ := T.toH.slept (n' := 0) hej' hJ' k₃ fun g2 env2 q _ => by rw [j1] at q; cases q; simpa using g₃
  exact yf_run (X := AskX.gx w KF fi env F ρ s i e g) X.is hA cx (fun prog w A Y R s => ⟨(hgo prog w A Y R s).2.1, (hgo prog w A Y R s).2.2⟩) (.same tk₃ rfl (Nat.le_refl _)) (T.ofH (List.prefix_refl _) tk₃ T₃) hej' h
end
/-- a generator asked by a loop -/
noncomputable def AskW (prog : Program) (w : World) (KF : Frag) (d : Nat) (H : List O) (i : Nat) (Q : Ans → List O → Prop) : Prop :=
  ∀ A F ρ s e, Room A (d + 1) F.fr → HSim w KF F ρ H s.heap s.gens → ρ[i]? = some e → (∃ g, GenAt s.heap e.a g 0) ∧
    wpU (model prog w) A (pyNext (.ref e.a)) (fun r s' => ∃ ρ' H', Step ρ s ρ' s' ∧ HSim w KF F ρ' H' s'.heap s'.gens ∧ (∃ g, GenAt s'.heap e.a g 0) ∧ ((r = none ∧ Q .nothing H') ∨ ∃ x t, r = some (.str x t) ∧ Q (.txt x) H'))
      (fun x s' => ∃ a X msg H', x = .ref a ∧ Flew w KF F ρ s X msg H' a F.fr s' ∧ ExcOk X ∧ Q (.err X msg) H') s
theorem askW {prog : Program} {w : World} {KF : Frag} {d : Nat} {H : List O} {i : Nat} {Q : Ans → List O → Prop} (h : AskS prog w KF d H i Q) : AskW prog w KF d H i Q := fun A F ρ s e hA S he => by
  obtain ⟨hg, hw⟩ := h A F ρ s e hA S he
  refine ⟨hg, ?_⟩
  unfold pyNext
  refine wpU_bind (wpU_attempt (wpU_mono hw (fun r s₁ h₁ => ?_) fun v s₁ h₁ => ?_))
  · obtain ⟨ρ', H', x, t, rfl, st, T, hg, hq⟩ := h₁
    exact wpU_pure (M := model prog w) ⟨ρ', H', st, T, hg, .inr ⟨x, t, rfl, hq⟩⟩
  · obtain ⟨a, rfl, ⟨ρ', H', ⟨o, vs, ho, hc, _⟩, st, T, hg, hq⟩ | ⟨X, msg, H', fw, hx, hq⟩⟩ := h₁
    · refine up (wpAny_bind (wpAny_isInstance (T := "StopIteration") (b := true) ⟨_, ho, hc⟩ isSubtype_stop ?_))
      exact wpAny_pure ⟨ρ', H', st, T, hg, .inl ⟨rfl, hq⟩⟩
    · have fw' := fw
      obtain ⟨_, _, _, _, _, _, _, ht, tx, tL, _, fl, _⟩ := fw
      obtain ⟨_, ⟨o, vs, ho, hc, _⟩, _⟩ := fl.exc ht tx tL
      refine up (wpAny_bind (wpAny_isInstance (b := false) ⟨o, ho, hc⟩ hx.stop ?_))
      exact wpAny_throw ⟨a, X, msg, H', rfl, fw', hx, hq⟩
end Mine
end
section
open PySem PySem.W PyProof.Rows PySem.W.X PySem.SeqAt
namespace Mine
section
variable {prog : Program} {w : World} {A : Around} {E : Value → Shared → Prop} {s : Shared}
/-- a range that is used up, asked -/
theorem range_end {I : Nat} {x c : Int} {n : Int} {Q : Option Value → Shared → Prop} (hh : A.handled = none) (hit : IsRangeIter s.heap I x n c) (hn : n ≤ 0) (h : ∀ h', Keep s.heap h' → Q none { s with heap := h' }) : wpAny (model prog w) A (pyNext (.ref I)) Q E s := by
  have ty : s.TypeIs (.ref I) "range_iterator" := ⟨_, hit, rfl⟩
  unfold pyNext
  refine wpAny_bind (wpAny_attempt (wpAny_callSpecial?_slot (name := Str.ofString "__next__") ty F.slot_range_iterator_next (wpAny_call_entry F.slot_range_iterator_next ty F.entry_range_iterator_next ?_ (F.args_range_iterator_next_1 _))))
  show wpAny _ _ (field (.ref I) 0 >>= _) _ _ s
  refine wpAny_bind (wpAny_field hit rfl (x := rawInt x) rfl ?_)
  show wpAny _ _ (field (.ref I) 1 >>= _) _ _ s
  refine wpAny_bind (wpAny_field hit rfl (x := rawInt n) rfl ?_)
  show wpAny _ _ (field (.ref I) 2 >>= _) _ _ s
  refine wpAny_bind (wpAny_field hit rfl (x := rawInt c) rfl ?_)
  show wpAny _ _ (if n ≤ 0 then _ else _) _ _ s
  rw [if_pos hn]
  refine wpAny_bind (wpAny_rule (wpAny_bind ?_))
  show wpAny _ _ (newExc (.type "StopIteration") [] >>= _) _ _ _
  refine wpAny_bind ?_
  simp only [newExc, newTuple]
  refine wpAny_bind (wpAny_newObj_type ?_ (by size_fits))
  refine wpAny_bind (m := firstArgMember _ _) (wpAny_of_eq (a := Value.none) (by first | rfl | (simp only [firstArgMember]; rfl)) ?_)
  refine wpAny_newObj_type ?_ (by size_fits)
  simp only [raiseNew]
  refine wpAny_bind (wpAny_handled ?_)
  rw [show A.in1.handled = none from hh]
  refine wpAny_bind (wpAny_pure (wpAny_throw ?_))
  refine wpAny_bind (wpAny_isInstance (T := "StopIteration") (b := true) ⟨_, Heap.get?_push_size _ rfl, rfl⟩ isSubtype_stop ?_)
  exact wpAny_pure (h _ fun b o hb => Heap.get?_push_of_some _ (Heap.get?_push_of_some _ hb))
theorem tuple_end {it t : Addr} {i : Nat} {items} {Q : Option Value → Shared → Prop} (hh : A.handled = none)
    (hit : s.heap.IsTupleIter it t i) (ht : s.heap.IsTuple t items) (hx : items[i]? = none)
    (hQ : ∀ h', Heap.ExtBut it s.heap h' → (∃ q, h'.get? it = some q) → Q none { s with heap := h' }) : wpAny (model prog w) A (pyNext (.ref it)) Q E s := by
  obtain ⟨o, ho, hc, hd⟩ := id hit
  obtain ⟨ol, hol, _, nl, hdl⟩ := ht
  unfold pyNext
  refine wpAny_bind (wpAny_attempt (wpAny_callSpecial?_slot (name := Str.ofString "__next__") hit.typeIs F.slot_tuple_iterator_next
    (wpAny_call_entry F.slot_tuple_iterator_next hit.typeIs F.entry_tuple_iterator_next ?_ (F.args_tuple_iterator_next_1 _))))
  show wpAny _ _ (field (.ref it) 0 >>= _) _ _ s
  refine wpAny_bind (wpAny_field ho hd (x := .ref t) rfl ?_)
  show wpAny _ _ (if (Value.ref t == Value.none) = true then _ else _) _ _ s
  rw [if_neg (show ¬ ((Value.ref t == Value.none) = true) from Bool.false_ne_true)]
  show wpAny _ _ (field (.ref it) 1 >>= _) _ _ s
  refine wpAny_bind (wpAny_field ho hd (x := .int i 0) rfl ?_)
  show wpAny _ _ (seqItems? (.ref t) >>= _) _ _ s
  refine wpAny_bind (wpAny_seqItems hol hdl ?_)
  simp only [Int.toNat_natCast, hx]
  refine wpAny_bind (wpAny_rule (wpAny_bind (wpAny_setField ho hd (by simp) ?_)))
  show wpAny _ _ (newExc (.type "StopIteration") [] >>= _) _ _ _
  refine wpAny_bind ?_
  simp only [newExc, newTuple]
  refine wpAny_bind (wpAny_newObj_type ?_ (by size_fits))
  refine wpAny_bind (m := firstArgMember _ _) (wpAny_of_eq (a := Value.none) (by first | rfl | (simp only [firstArgMember]; rfl)) ?_)
  refine wpAny_newObj_type ?_ (by size_fits)
  simp only [raiseNew]
  refine wpAny_bind (wpAny_handled ?_)
  first | rw [show A.in1.handled = none from hh] | rw [hh]
  refine wpAny_bind (wpAny_pure (wpAny_throw ?_))
  refine wpAny_bind (wpAny_isInstance (T := "StopIteration") (b := true) ⟨_, Heap.get?_push_size _ rfl, rfl⟩ isSubtype_stop ?_)
  refine wpAny_pure (hQ _ (((Heap.SameBut.update ..).extBut.push _).push _) ⟨_, Heap.get?_push_of_some _ (Heap.get?_push_of_some _ (Heap.get?_update_self _ ho (Obj.isFreed_of_fields (Obj.data_mapFields hd _))))⟩)
end
section
variable {prog : Program} {w : World} {KF : Frag} {H : List O} {j I : Nat} {Q : Option V → List O → Prop}
theorem HSim.iterUpd {F : Base} {ρ : List Ent} {s : Shared} {e : Ent} {o o' : O} {h' : Heap} {tk : Nat} (S : HSim w KF F ρ H s.heap s.gens) (he : ρ[j]? = some e) (hj : H[j]? = some o) (hn : isY o = false) (hfp : e.fp = [e.a]) (hk : ∀ b q, b ≠ e.a → s.heap.get? b = some q → h'.get? b = some q) (hl : ∃ q, h'.get? e.a = some q) (t : TK s.heap h') (ho : OR F ρ h' e o') (hG : GR s.gens e o' := by trivial) :
    Step ρ s ρ { s with heap := h', toks := tk } ∧ HSim w KF F ρ (H.set j o') h' s.gens :=
  ⟨.same t rfl (Nat.le_refl _), S.upd he (fun b q hb hq => hk b q (fun z => hb (by rw [hfp, z]; exact .head _)) hq) (fun b hb => by rw [hfp] at hb; rw [List.mem_singleton.mp hb]; exact hl) t ho hG (fun q hq z => by rw [hj] at hq; cases hq; rw [hn] at z; cases z)⟩
theorem next_rit {lo : Int} {n : Nat} (hj : H[j]? = some (.rit I lo n)) (h0 : n = 0 → Q none H) (h1 : ∀ k, n = k + 1 → Q (some (.int lo)) (H.set j (.rit I (lo + 1) k))) : NextW prog w KF H I Q := fun A F ρ s hh S => by
  obtain ⟨e, he, ea, efp, eg, hI⟩ := S.at' hj
  subst ea
  have hI' : s.heap.get? e.a = some _ := hI
  cases n with
  | zero =>
    refine range_end hh hI (by decide) fun h' hk => ⟨ρ, H, none, .same (.of_keep hk) rfl (Nat.le_refl _), S.keeps hk, rfl, h0 rfl⟩
  | succ k =>
    refine wpAny_pyNext_range_item hI (by omega) fun h' hit' hs' => ?_
    have c₁ := sameBut_chg (s := s) (tk := s.toks + 1) (fun b o hb e => hs'.extBut b o hb e) (not_imm hI rfl rfl (by decide))
    have e2 : ((k + 1 : Nat) : Int) - 1 = k := by omega
    rw [e2] at hit'
    obtain ⟨st, T⟩ := S.iterUpd (o' := .rit e.a (lo + 1) k) (tk := s.toks + 1) he hj rfl efp (fun b o hb q => hs'.extBut b o hb q) ⟨_, hit'⟩ c₁.2.2.1 ⟨rfl, efp, eg, hit'⟩
    exact ⟨ρ, _, some (.int lo), st, T, ⟨_, rfl, by unfold VR; exact ⟨_, rfl⟩, _, _, hit', rfl, by decide⟩, h1 k rfl⟩
theorem next_tit {xs : List V} {i : Nat} (hj : H[j]? = some (.tit I xs i)) (h0 : xs.length ≤ i → Q none (H.set j .gone)) (h1 : ∀ x, xs[i]? = some x → Q (some x) (H.set j (.tit I xs (i + 1)))) : NextW prog w KF H I Q := fun A F ρ s hh S => by
  obtain ⟨e, he, ea, efp, eg, a, vs, hI, ht, hv⟩ := S.at' hj
  subst ea
  obtain ⟨o, ho, hc, hd⟩ := id hI
  by_cases q : i < xs.length
  · obtain ⟨v, hv1, hv2⟩ := hv.get (List.getElem?_eq_getElem q)
    refine wpAny_pyNext_tuple_item hI ht (x := v) (by simpa using hv1) fun h' hit' hs' => ?_
    have c₁ := sameBut_chg (s := s) (tk := s.toks) (fun b o hb e => hs'.extBut b o hb e) (not_imm ho hc hd (by decide))
    obtain ⟨o', ho', hc', hd'⟩ := id hit'
    obtain ⟨st, T⟩ := S.iterUpd (o' := .tit e.a xs (i + 1)) (tk := s.toks) he hj rfl efp (fun b o hb q => hs'.extBut b o hb q) ⟨_, ho'⟩ c₁.2.2.1 ⟨rfl, efp, eg, a, vs, hit', tk_tuple c₁.2.2.1 ht, hv.mono (List.prefix_refl _) c₁.2.2.1⟩
    exact ⟨ρ, _, some xs[i], st, T, ⟨v, rfl, hv2.mono (List.prefix_refl _) c₁.2.2.1, o', _, ho', hc', by decide⟩, h1 _ (List.getElem?_eq_getElem q)⟩
  · refine tuple_end hh hI ht (by rw [List.getElem?_toArray]; exact List.getElem?_eq_none (by rw [hv.len]; exact Nat.le_of_not_lt q)) fun h' he' hl => ?_
    have c₁ := sameBut_chg (s := s) (tk := s.toks) (fun b o hb e => he' b o hb e) (not_imm ho hc hd (by decide))
    obtain ⟨st, T⟩ := S.iterUpd (o' := .gone) (tk := s.toks) he hj rfl efp (fun b o hb q => he' b o hb q) hl c₁.2.2.1 (.inl (by rw [efp]; exact .head _)) (fun x hx => by rw [eg] at hx; cases hx)
    exact ⟨ρ, _, none, st, T, rfl, h0 (Nat.le_of_not_lt q)⟩
/-- iterators made -/
theorem HSim.iterNew {F : Base} {ρ : List Ent} {s : Shared} {ob : Obj} {o : O} (S : HSim w KF F ρ H s.heap s.gens) (hf : ob.isFreed = false) (ho : OR F (ρ ++ [⟨s.heap.objs.size, [s.heap.objs.size], none⟩]) (s.heap.push ob) ⟨s.heap.objs.size, [s.heap.objs.size], none⟩ o) (hG : GR s.gens ⟨s.heap.objs.size, [s.heap.objs.size], none⟩ o := by trivial) :
    Step ρ s (ρ ++ [⟨s.heap.objs.size, [s.heap.objs.size], none⟩]) { s with heap := s.heap.push ob } ∧ HSim w KF F (ρ ++ [⟨s.heap.objs.size, [s.heap.objs.size], none⟩]) (H ++ [o]) (s.heap.push ob) s.gens := by
  have k : Keep s.heap (s.heap.push ob) := fun _ _ e => Heap.get?_push_of_some _ e
  exact ⟨.add (s := s) (s' := { s with heap := s.heap.push ob }) (.of_keep k) rfl (Nat.le_refl _), S.alloc k (get_size _) ⟨ob, Heap.get?_push_size _ hf⟩ ho hG⟩
theorem iter_rng {a b : Int} {Q : Nat → List O → Prop} (ha : -(2 ^ 61) ≤ a ∧ a < 2 ^ 61) (hb : -(2 ^ 61) ≤ b ∧ b < 2 ^ 61) (h : ∀ I, Q I (H ++ [.rit I a (b - a).toNat])) : IterN prog w KF H (.rng a b) Q := fun A F ρ s u S r => by
  unfold VR at r
  obtain ⟨r, rfl, t, u, k, hr'⟩ := r
  obtain ⟨hsm, hn⟩ := rng_small ha hb
  refine wpAny_pyIter_range hr' hsm ?_
  rw [hn]
  obtain ⟨st, T⟩ := S.iterNew (ob := { cls := .type "range_iterator", data := .fields #[rawInt a, rawInt ((b - a).toNat : Nat), rawInt 1] }) (o := .rit s.heap.objs.size a (b - a).toNat) rfl ⟨rfl, rfl, rfl, Heap.get?_push_size _ rfl⟩
  exact ⟨_, _, _, rfl, st, T, h _⟩
theorem iter_tupN {xs : List V} {Q : Nat → List O → Prop} (h : ∀ I, Q I (H ++ [.tit I xs 0])) : IterN prog w KF H (.tup xs) Q := fun A F ρ s u S r => by
  unfold VR at r
  obtain ⟨a, vs, rfl, ht, hv⟩ := r
  refine wpAny_pyIter_tuple ht ?_
  obtain ⟨st, T⟩ := S.iterNew (ob := { cls := .type "tuple_iterator", data := .fields #[.ref a, .int 0 0] }) (o := .tit s.heap.objs.size xs 0) rfl ⟨rfl, rfl, rfl, a, vs, ⟨_, Heap.get?_push_size _ rfl, rfl, rfl⟩, ht.push _, hv.mono (List.prefix_append _ _) (.of_keep fun _ _ e => Heap.get?_push_of_some _ e)⟩
  exact ⟨_, _, _, rfl, st, T, h _⟩
end
end Mine
end
section
open PySem PySem.W PyProof.Rows PySem.W.X PySem.SeqAt
namespace Mine
section
variable {prog : Program} {w : World} {A : Around} {E : Value → Shared → Prop} {s : Shared} {env : Env}
theorem wpU_Try {body orelse : List Stmt} {h₀ : ExceptHandler} {hs : List ExceptHandler} {pos : Pos} {Q : Flow → Shared → Prop}
    (h : wpU (model prog w) A (execs body env) (fun f s₁ => match f with | .next => wpU (model prog w) A (execs orelse env) Q E s₁ | f => Q f s₁)
      (fun e s₁ => wpAny (model prog w) A (noteFrame e env) (fun _ s₂ => wpAny (model prog w) A (setFlight e none) (fun _ s₃ => wpAny (model prog w) A (handleBy e env (h₀ :: hs)) Q E s₃) E s₂) E s₁) s) :
    wpU (model prog w) A (exec (.Try body (h₀ :: hs) orelse [] pos) env) Q E s := by
  rw [arm_exec_Try]
  refine wpU_bind (wpU_standAt ?_)
  unfold tryStmt
  simp only [List.isEmpty_nil, if_true, List.isEmpty_cons, Bool.false_and, Bool.false_eq_true, if_false]
  refine wpU_bind (wpU_attempt (wpU_mono h (fun f s₁ h₁ => ?_) fun e s₁ h₁ => up ?_))
  · cases f <;> first | exact h₁ | exact wpU_pure h₁
  · exact wpAny_bind (wpAny_mono h₁ (fun _ _ h₂ => wpAny_bind h₂) fun _ _ x => x)
theorem wpU_runOwn {c : Code} {Q : Flow → Shared → Prop} (hc : codeU (model prog w) A c (fun r s' => match r with | .ok f => Q f s' | .error e => cameBackBy (model prog w) A env E e s') s) : wpU (model prog w) A (runOwn c env) Q E s := by
  unfold runOwn
  refine wpU_onRaise ?_
  unfold run
  refine wpU_callT (h := none) (codeU_mono hc fun r s' hq => ?_) (fun q => nomatch q)
  cases r with
  | ok f => exact wpU_pure (M := model prog w) hq
  | error e => exact wpU_throw (up hq)
end
noncomputable abbrev XPo := String → Option Str → Names → List O → Prop
/-- an exception at the frame -/
noncomputable def XPost (w : World) (KF : Frag) (fi : FI) (env : Env) (F : Base) (ρ : List Ent) (s : Shared) (XP : XPo) : Value → Shared → Prop := fun v s' => ∃ x Xn msg m' H', v = .ref x ∧ ExcOk Xn ∧ ExAny w KF fi env m' F ρ s Xn msg H' x s' ∧ XP Xn msg m' H'
section
variable (prog : Program) (w : World) (KF : Frag) (fi : FI) (d : Nat)
/-- statements of a frame of its own, which may raise -/
noncomputable def WSX (m : Names) (H : List O) (st : Stmt) (Q : Fl → Names → List O → Prop) (XP : XPo) : Prop :=
  ∀ A env F ρ s, env.frame = some env.locals → Room A d (frOf env F) → Sim w KF fi env m F ρ H s.heap s.gens → wpU (model prog w) A (exec st env) (StQ w KF fi env F ρ s Q) (XPost w KF fi env F ρ s XP) s
noncomputable def WBX (m : Names) (H : List O) (st : List Stmt) (Q : Fl → Names → List O → Prop) (XP : XPo) : Prop :=
  ∀ A env F ρ s, env.frame = some env.locals → Room A d (frOf env F) → Sim w KF fi env m F ρ H s.heap s.gens → wpU (model prog w) A (execs st env) (StQ w KF fi env F ρ s Q) (XPost w KF fi env F ρ s XP) s
/-- handlers, the exception landed -/
noncomputable def HX (Xn : String) (msg : Option Str) (m : Names) (H : List O) (hs : List ExceptHandler) (Q : Fl → Names → List O → Prop) : Prop :=
  ∀ A env F ρ₀ s₀ x s, env.frame = some env.locals → Room A d (frOf env F) → ExFly w KF fi env m F ρ₀ s₀ Xn msg H x s (env :: F.fr) → wpAny (model prog w) A (handleBy (.ref x) env hs) (StQ w KF fi env F ρ₀ s₀ Q) (fun _ _ => False) s
/-- a suite that gives v back, the name n holding the exception -/
noncomputable def Su (X : String) (msg : Option Str) (m : Names) (H : List O) (n : Str) (body : List Stmt) (v : V) : Prop :=
  ∀ env F ρ A a args s, Room A d (frOf env F) → ExArgs msg args → SuiteW prog w KF fi env m F ρ H A a X args n body s (fun f ρ₄ H₄ s₄ => FlR ρ₄ s₄.heap (.ret v) f ∧ H₄ = H)
end
section
variable {w : World} {KF : Frag} {fi : FI} {env : Env} {m : Names} {F : Base} {ρ₀ ρ : List Ent} {s₀ s s' : Shared} {Xn : String} {msg : Option Str} {H : List O} {x : Nat}
theorem ExnAt.step {L h₁ t args} {ρ' : List Ent} (st : Step ρ₀ s₀ ρ s) (n : ExnAt w KF fi env m F ρ s H ρ' L h₁ t x args s') : ExnAt w KF fi env m F ρ₀ s₀ H ρ' L h₁ t x args s' := ⟨n.dict, n.tup, n.tx, n.tL, n.off, fun h'' nt => let ⟨a, b⟩ := n.land h'' nt; ⟨st.trans a, b⟩⟩
theorem ExAny.step (st : Step ρ₀ s₀ ρ s) (e : ExAny w KF fi env m F ρ s Xn msg H x s') : ExAny w KF fi env m F ρ₀ s₀ Xn msg H x s' := by
  rcases e with ⟨ρ', L, h₁, t, args, ha, n, r⟩ | ⟨ρ', L, h₁, t, args, ha, n, r⟩ | ⟨ρ', L, h₁, t, args, ha, n, r⟩
  · exact .inl ⟨ρ', L, h₁, t, args, ha, n.step st, r⟩
  · exact .inr (.inl ⟨ρ', L, h₁, t, args, ha, n.step st, r⟩)
  · exact .inr (.inr ⟨ρ', L, h₁, t, args, ha, n.step st, r⟩)
theorem XPost.step {XP : XPo} {v : Value} (st : Step ρ₀ s₀ ρ s) (h : XPost w KF fi env F ρ s XP v s') : XPost w KF fi env F ρ₀ s₀ XP v s' := let ⟨x, Xn, msg, m', H', e, hx, a, q⟩ := h; ⟨x, Xn, msg, m', H', e, hx, a.step st, q⟩
end
section
variable {prog : Program} {w : World} {KF : Frag} {fi : FI} {d : Nat} {m : Names} {H : List O} {Q : Fl → Names → List O → Prop} {XP : XPo}
theorem wx_nil (h : Q .next m H) : WBX prog w KF fi d m H [] Q XP := fun A env F ρ s hf hA S => up (wpAny_execs_nil ⟨ρ, H, m, .next, .refl, S, rfl, h⟩)
theorem wx_seq {st : Stmt} {rest : List Stmt} (h : WSX prog w KF fi d m H st (fun f m' H' => match f with | .next => WBX prog w KF fi d m' H' rest Q XP | f => Q f m' H') XP) : WBX prog w KF fi d m H (st :: rest) Q XP :=
  fun A env F ρ s hf hA S => by
    rw [execs_cons]
    refine wpU_bind (wpU_mono (h A env F ρ s hf hA S) (fun f s₁ hx => ?_) fun _ _ x => x)
    obtain ⟨ρ₁, H₁, m₁, fl, st₁, S₁, rf, h₁⟩ := hx
    cases fl with
    | next => cases rf; exact wpU_mono ((show WBX prog w KF fi d m₁ H₁ rest Q XP from h₁) A env F ρ₁ s₁ hf hA S₁) (fun _ _ x => x.step st₁) fun _ _ x => x.step st₁
    | brk => cases rf; exact wpU_pure ⟨ρ₁, H₁, m₁, .brk, st₁, S₁, rfl, h₁⟩
    | cont => cases rf; exact wpU_pure ⟨ρ₁, H₁, m₁, .cont, st₁, S₁, rfl, h₁⟩
    | ret v => obtain ⟨u, rfl, r⟩ := rf; exact wpU_pure ⟨ρ₁, H₁, m₁, .ret v, st₁, S₁, ⟨u, rfl, r⟩, h₁⟩
theorem wxs_of {st : Stmt} (h : WSU prog w KF fi d noE m H st Q) : WSX prog w KF fi d m H st Q XP :=
  fun A env F ρ s hf hA S => wpU_mono (h A env F ρ s hA S) (fun _ _ x => x) fun _ _ x => (se_no x).elim
theorem wx_quiet {st : Stmt} {rest : List Stmt} (h : WS prog w KF fi d noE m H st (fun f m' H' => match f with | .next => WBX prog w KF fi d m' H' rest Q XP | f => Q f m' H')) : WBX prog w KF fi d m H (st :: rest) Q XP := wx_seq (wxs_of (wsU h))
theorem wxs_try {body orelse : List Stmt} {h₀ : ExceptHandler} {hs : List ExceptHandler} {pos : Pos} (h : WBX prog w KF fi d m H body (fun f m' H' => match f with | .next => WBX prog w KF fi d m' H' orelse Q XP | f => Q f m' H') (fun Xn msg m' H' => HX prog w KF fi d Xn msg m' H' (h₀ :: hs) Q)) : WSX prog w KF fi d m H (.Try body (h₀ :: hs) orelse [] pos) Q XP :=
  fun A env F ρ s hf hA S => by
    refine wpU_Try (wpU_mono (h A env F ρ s hf hA S) (fun f s₁ hx => ?_) fun v s₁ hx => ?_)
    · obtain ⟨ρ₁, H₁, m₁, fl, st₁, S₁, rf, h₁⟩ := hx
      cases fl with
      | next => cases rf; exact wpU_mono ((show WBX prog w KF fi d m₁ H₁ orelse Q XP from h₁) A env F ρ₁ s₁ hf hA S₁) (fun _ _ x => x.step st₁) fun _ _ x => x.step st₁
      | brk => cases rf; exact ⟨ρ₁, H₁, m₁, .brk, st₁, S₁, rfl, h₁⟩
      | cont => cases rf; exact ⟨ρ₁, H₁, m₁, .cont, st₁, S₁, rfl, h₁⟩
      | ret v => obtain ⟨u, rfl, r⟩ := rf; exact ⟨ρ₁, H₁, m₁, .ret v, st₁, S₁, ⟨u, rfl, r⟩, h₁⟩
    · obtain ⟨x, Xn, msg, m', H', rfl, hx, e, hq⟩ := hx
      refine e.landed (by rw [hA.fr, frOf_pos hf]) hf fun h' fl => wpAny_mono (hq A env F ρ s x _ hf hA fl) (fun _ _ y => y) fun _ _ y => y.elim
/-- a for loop over a generator -/
theorem wxs_ask {rN dN : Str} {rp dp fpos : Pos} {i : Nat} {body : List Stmt} {J : Nat → Names → List O → Prop} {n : Nat} (hdN : fi.sc.names.lookup dN = some .local) (vd : getL m dN = some (.ref i)) (dd : (dN == ("__debug__" : Str)) = false) (hrN : Ours fi rN) (h0 : J n m H)
    (hT : ∀ n m H, J n m H → AskW prog w KF d H i fun a H' => match a with
      | .txt x => WB prog w KF fi (d + 1) noE (setL m rN (.str x)) H' body fun f m' H'' => (match f with | .next => ∃ n', n' < n ∧ J n' m' H'' | .cont => ∃ n', n' < n ∧ J n' m' H'' | .brk => Q .next m' H'' | .ret v => Q (.ret v) m' H'')
      | .nothing => Q .next m H'
      | .err Xn msg => XP Xn msg m H') :
    WSX prog w KF fi (d + 1) m H (.For (.Name rN rp) (.Name dN dp) body [] fpos) Q XP :=
  fun A env F ρ s hf hA S => by
    have hfr : frOf env F = env :: F.fr := frOf_pos hf
    have hfr' : A.frames = some (env :: F.fr) := by rw [← hfr]; exact hA.fr
    rw [exec_For]
    refine wpU_bind (wpU_standAt (wpU_bind (up ?_)))
    obtain ⟨mv, u, hns, e, ru⟩ := S.get vd hdN
    refine wpAny_Name (wpAny_loadName_local S.kd ((S.kind dN).trans hdN) hns e ?_) dd
    unfold VR at ru
    obtain ⟨en, he, rfl⟩ := ru
    obtain ⟨⟨g, hg⟩, _⟩ := hT n m H h0 A _ ρ s en (show Room A (d + 1) (addE F s.heap env (ownA fi env)).fr from hA) S.toH he
    show wpU _ _ ((pure (.ref en.a) : Sem Value) >>= _) _ _ s
    refine wpU_bind (wpU_pure (wpU_bind (wpU_standAt (wpU_bind (wpU_holding (up (pyIter_genAt hg ?_)))))))
    refine wpU_runOwn ?_
    refine codeU_loop (M := model prog w) rfl (fun n s₁ => ∃ ρ₁ m₁ H₁, Step ρ s ρ₁ s₁ ∧ Sim w KF fi env m₁ F ρ₁ H₁ s₁.heap s₁.gens ∧ J n m₁ H₁) (fun n s₁ hI => ?_) n ⟨ρ, m, H, .refl, S, h0⟩
    obtain ⟨ρ₁, m₁, H₁, st₁, S₁, hJ⟩ := hI
    have he₁ : ρ₁[i]? = some en := pre_get st₁.1 he
    obtain ⟨_, hask⟩ := hT n m₁ H₁ hJ A _ ρ₁ s₁ en (show Room A (d + 1) (addE F s₁.heap env (ownA fi env)).fr from hA) S₁.toH he₁
    show wpU _ _ ((forTurn (.Name rN rp) (.ref en.a) body [] env).onRaise (fun x => do noteFrame x env; theTreesLotGoes x)) _ _ s₁
    refine wpU_onRaise ?_
    simp only [forTurn]
    refine wpU_bind (wpU_standAt (wpU_bind (wpU_onRaise (wpU_mono (show wpU (model prog w) A (pyNext (.ref en.a)) _ _ s₁ from hask) (fun r s₂ h₂ => ?_) fun x s₂ h₂ => ?_))))
    · obtain ⟨ρ₂, H₂, st₂, T₂, ⟨g₂, o₂, _, _, ho₂, hc₂, _⟩, hq⟩ := h₂
      have S₂ := S₁.ofH st₂.1 st₂.2.1 T₂
      rcases hq with ⟨rfl, hq⟩ | ⟨x, t, rfl, hq⟩
      · refine wpU_pure (M := model prog w) (.inr ⟨rfl, codeU_of ?_⟩)
        show wpU _ _ (do return Fin.done (← (execs [] env).onRaise (fun x => do noteFrame x env; theTreesLotGoes x))) _ _ s₂
        refine wpU_bind (wpU_onRaise (up (wpAny_execs_nil (wpU_pure ?_))))
        exact ⟨ρ₂, H₂, m₁, .next, st₁.trans st₂, S₂, rfl, hq⟩
      · dsimp only
        refine wpU_bind (up (lot_plain ho₂ hc₂ (by decide) ?_))
        refine wpU_bind (up (wpAny_mono (wa_name (prog := prog) (w := w) (KF := KF) (fi := fi) (d := d + 1) (E := noE) (m := m₁) (H := H₂) (v := .str x) (Q := fun m' H' => m' = setL m₁ rN (.str x) ∧ H' = H₂) hrN ⟨rfl, rfl⟩ A env F ρ₂ s₂ (.str x t) hA S₂ (by unfold VR; exact ⟨_, rfl⟩)) (fun _ s₃ hx => ?_) fun _ _ x => (se_no x).elim))
        obtain ⟨ρ₃, H₃, m₃, st₃, S₃, rfl, rfl⟩ := hx
        refine wpU_bind (up (wpAny_mono (hq A env F ρ₃ s₃ hA S₃) (fun f s₄ hx => ?_) fun _ _ x => (se_no x).elim))
        obtain ⟨ρ₄, H₄, m₄, fl, st₄, S₄, rf, h₄⟩ := hx
        have st := ((st₁.trans st₂).trans st₃).trans st₄
        cases fl with
        | next => cases rf; obtain ⟨n', hn, hJ'⟩ := h₄; exact wpU_pure (M := model prog w) (.inl ⟨rfl, n', hn, ρ₄, m₄, H₄, st, S₄, hJ'⟩)
        | cont => cases rf; obtain ⟨n', hn, hJ'⟩ := h₄; exact wpU_pure (M := model prog w) (.inl ⟨rfl, n', hn, ρ₄, m₄, H₄, st, S₄, hJ'⟩)
        | brk => cases rf; exact wpU_pure (M := model prog w) ⟨ρ₄, H₄, m₄, .next, st, S₄, rfl, h₄⟩
        | ret v => obtain ⟨u, rfl, r⟩ := rf; exact wpU_pure (M := model prog w) ⟨ρ₄, H₄, m₄, .ret v, st, S₄, ⟨u, rfl, r⟩, h₄⟩
    · obtain ⟨a, Y, msg, H', rfl, fw, hx, hq⟩ := h₂
      have fl : ExFly w KF fi env m₁ F ρ s Y msg H' a s₂ (env :: F.fr) := by rw [← hfr]; exact Flew.frame S₁ st₁ fw
      refine wpU_standAt (up (wpAny_bind (fl.note hfr' hf fun h₃ e₃ => wpAny_theTreesLotGoes ?_)))
      refine e₃.back hf fun h₄ e₄ => ?_
      exact ⟨a, Y, msg, m₁, H', rfl, hx, .inr (.inr e₄), hq⟩
end
end Mine
end
section
open PySem PySem.W PyProof.Rows PySem.W.X PySem.SeqAt
namespace Mine
/-- the name of a built-in class of exceptions -/
structure TName (KF : Frag) (fi : FI) (tn : Str) (T : String) : Prop where
  hT : fi.sc.names.lookup tn = some .globalImplicit
  eT : nsIn KF mainGlobals tn = some none
  bT : bootBuiltins tn = some (.type T)
  dT : (tn == ("__debug__" : Str)) = false
  nT : tn ≠ "__name__"
section
variable {prog : Program} {w : World} {KF : Frag} {fi : FI} {d : Nat} {m : Names} {H : List O} {Q : Fl → Names → List O → Prop} {Xn T : String} {msg : Option Str} {n tn : Str} {np pos : Pos} {b₀ : Stmt} {suite : List Stmt} {rest : List ExceptHandler}
theorem hx_as {v : V} (K : ExcCls Xn T true) (N : TName KF fi tn T) (hn : fi.sc.names.lookup n = some .local) (hm : getL m n = none) (hs : Su prog w KF fi d Xn msg m H n (b₀ :: suite) v) (hq : Q (.ret v) [] H) :
    HX prog w KF fi d Xn msg m H (.ExceptHandler (some (.Name tn np)) (some n) (b₀ :: suite) pos :: rest) Q := fun A env F ρ₀ s₀ x s hf hA e => by
  obtain ⟨ρ, L, h₁, t, args, ha, nn, fl⟩ := e
  have hsn : ∀ h', Fly L x (.type Xn) (.ref t) (env :: F.fr) h₁ h' → Step ρ₀ s₀ ρ { s with heap := h' } ∧ Sim w KF fi env m F ρ H h' s.gens := fun h' f' => nn.land h' f'.nt
  have S := (hsn s.heap fl).2
  have hal : x ≠ env.locals := fun q => (nn.off x (.head _)).2.2 (by rw [q]; exact loc_own fi env)
  refine handle_as (s := s) (ρ₀ := ρ₀) (s₀ := s₀) K S hn hm N.hT N.eT N.bT N.dT N.nT nn.dict fl nn.tup nn.tx nn.tL hal hsn (hs env F ρ A x args s hA ha) fun f ρ₄ H₄ s₄ s₅ hr st₅ tk₅ S₅ => ?_
  obtain ⟨⟨u, rfl, r⟩, rfl⟩ := hr
  exact ⟨ρ₄, H₄, [], .ret v, st₅, S₅, ⟨u, rfl, r.mono (List.prefix_refl _) tk₅⟩, hq⟩
theorem hx_skip (K : ExcCls Xn T false) (N : TName KF fi tn T) (h : HX prog w KF fi d Xn msg m H rest Q) : HX prog w KF fi d Xn msg m H (.ExceptHandler (some (.Name tn np)) (some n) (b₀ :: suite) pos :: rest) Q := fun A env F ρ₀ s₀ x s hf hA e => by
  have e' := e
  obtain ⟨ρ, L, h₁, t, args, ha, nn, fl⟩ := e
  have S := (nn.land s.heap fl.nt).2
  obtain ⟨mg, hg⟩ := S.b.g
  obtain ⟨mb, hmb, hb'⟩ := S.b.bi
  refine wpAny_handleBy_builtin_as K.base K.notup K.sub ?_
  refine Calls.Name_function_global S.kd ((S.kind tn).trans N.hT) (Calls.loadGlobal_builtin (S.eg ▸ hg) (mg_no S.b.k hg N.eT) (S.eb ▸ hmb) ((hb' tn N.nT).trans N.bT) ⟨rfl, ?_, ?_⟩) N.dT
  · obtain ⟨_, ⟨o, vs, ho, hc, _⟩, _⟩ := fl.exc nn.tup nn.tx nn.tL
    exact ⟨o, ho, hc⟩
  rw [if_neg (by decide)]
  exact h A env F ρ₀ s₀ x s hf hA e'
end
/-- what str(e) is -/
noncomputable def msgS : Option Str → Str
  | none => Str.empty
  | some m => m
/-- an expression of the suite's: a text -/
noncomputable def EvX (prog : Program) (w : World) (KF : Frag) (fi : FI) (m : Names) (H : List O) (X : String) (msg : Option Str) (n : Str) (e : Expr) (y : Str) : Prop :=
  ∀ (env : Env) (F : Base) (ρ : List Ent) (A : Around) (a : Nat) (args : List Value) (s : Shared) (Q : Value → Shared → Prop) (E : Value → Shared → Prop), A.units + 2 < cLine → ExArgs msg args → Sim w KF fi env m F ρ H s.heap s.gens → ExcOb s.heap a X args → (∃ mv, s.heap.Ns env.locals mv ∧ mv n = some (.ref a)) → (∀ t tk, Q (.str y t) { s with toks := tk }) → wpAny (model prog w) (A.mark (some (.ref a))) (eval e env) Q E s
section
variable {prog : Program} {w : World} {KF : Frag} {fi : FI} {d : Nat} {m : Names} {H : List O} {X nX : String} {msg : Option Str} {n sn : Str}
theorem evx_str {p3 p4 p5 : Pos} (FX : ExcStrFacts X nX) (hn : fi.sc.names.lookup n = some .local) (dn : (n == ("__debug__" : Str)) = false) (hs : fi.sc.names.lookup sn = some .globalImplicit) (eS : nsIn KF mainGlobals sn = some none) (bS : bootBuiltins sn = some (.type "str")) (dS : (sn == ("__debug__" : Str)) = false) (nS : sn ≠ "__name__") :
    EvX prog w KF fi m H X msg n (.Call (.Name sn p3) [.Name n p4] [] p5) (msgS msg) := fun env F ρ A a args s Q E hu ha S ex hns h => by
  obtain ⟨mg, hg⟩ := S.b.g
  obtain ⟨mb, hmb, hb'⟩ := S.b.bi
  obtain ⟨mv, hns, hmv⟩ := hns
  obtain ⟨t, x1, x2⟩ := ex
  refine Call_ (Calls.Name_function_global S.kd ((S.kind sn).trans hs) (Calls.loadGlobal_builtin (S.eg ▸ hg) (mg_no S.b.k hg eS) (S.eb ▸ hmb) ((hb' sn nS).trans bS) ?_) dS) (by rfl)
  show wpAny _ _ (callWith p5 (.type "str") [] (backTo p5 ([Expr.Name n p4].map fun e => (false, eval e env))) []) Q E s
  refine PySem.callWith_type plain_any (Calls.evalArgs_plain (Calls.spliced_cons ?_))
  refine wpAny_Name (wpAny_loadName_local S.kd ((S.kind n).trans hn) hns hmv ?_) dn
  refine Calls.spliced_nil ?_
  cases msg with
  | none => rw [show args = [] from ha] at x2; exact PySem.P.str_of_exc_none (A := A.mark (some (.ref a))) FX (show (A.mark (some (.ref a))).units + 2 < cLine from hu) x1 x2 (h _ _)
  | some y => obtain ⟨tk, rfl⟩ := ha; exact PySem.P.str_of_exc_one (A := A.mark (some (.ref a))) FX (show (A.mark (some (.ref a))).units + 2 < cLine from hu) x1 x2 (h _ _)
theorem evx_cat {pre y : Str} {kk : Nat} {p2 p6 : Pos} {e : Expr} (h : EvX prog w KF fi m H X msg n e y) (hz : pre.length + y.length ≤ sizeLine) : EvX prog w KF fi m H X msg n (.BinOp (.Constant (.str pre) kk p2) .Add e p6) (pre ++ y) := fun env F ρ A a args s Q E hu ha S ex hns hQ => by
  refine wpAny_BinOp (wpAny_Constant_str ?_)
  refine h env F ρ A a args { s with toks := s.toks + 1 } _ _ hu ha S ex hns fun t tk => ?_
  exact PyProof.Rows.add_str (fun t' k => hQ _ _) hz
theorem su_tup {e : Expr} {tN : Str} {p1 p2 p7 : Pos} {k : Nat} {v : V} {y : Str} (ht : fi.sc.names.lookup tN = some .local) (vt : getL m tN = some v) (dt : (tN == ("__debug__" : Str)) = false) (h : EvX prog w KF fi m H X msg n e y) (hp : ∀ env, starEach [.Name tN p1, e] env = [Expr.Name tN p1, e].map fun e => (false, eval e env)) : Su prog w KF fi d X msg m H n [.Return (some (.Tuple [.Name tN p1, e] k p2)) p7] (.tup [v, .str y]) := fun env F ρ A a args s hA ha s₃ g₃ o₃ S₃ ex hns => by
  refine wpAny_execs_cons (wpAny_Return_some (Tuple_ ?_))
  rw [hp env]
  obtain ⟨mv, u, hn, e1, ru⟩ := S₃.get vt ht
  refine Calls.spliced_cons (wpAny_Name (wpAny_loadName_local S₃.kd ((S₃.kind tN).trans ht) hn e1 ?_) dt)
  refine Calls.spliced_cons (h env F ρ A a args s₃ _ _ (by have := hA.un; omega) ha S₃ ex hns fun t tk => ?_)
  refine Calls.spliced_nil ?_
  refine wpAny_newObj_type ?_ (by show 2 ≤ sizeLine; decide)
  have kk : Keep s₃.heap (s₃.heap.push { cls := .type "tuple", data := .seq #[u, .str y t] }) := fun _ _ e => Heap.get?_push_of_some _ e
  have hg : (s₃.heap.push { cls := .type "tuple", data := .seq #[u, .str y t] }).get? s₃.heap.objs.size = some { cls := .type "tuple", data := .seq #[u, .str y t] } := Heap.get?_push_size _ rfl
  refine ⟨ρ, H, .same (.of_keep kk) rfl (Nat.le_refl _), S₃.keeps kk, ⟨_, rfl, ?_⟩, rfl⟩
  unfold VR
  exact ⟨_, [u, .str y t], rfl, ⟨_, hg, rfl, _, rfl⟩, .cons (ru.mono (List.prefix_refl _) (.of_keep kk)) (.cons (by unfold VR; exact ⟨_, rfl⟩) .nil)⟩
end
end Mine
end
section
open PySem PySem.W PyProof.Rows PySem.W.X PySem.SeqAt
namespace Mine
/-- the sort's tree run with the answers known; none: a place out of range is asked for -/
noncomputable def kasGo {α : Type} (lt : Nat → Nat → Bool) (n : Nat) : KasT α → Option α
  | .ret a => some a
  | .ask i j k => if i < n ∧ j < n then kasGo lt n (k (lt i j)) else none
theorem kasGo_congr {α : Type} {lt lt' : Nat → Nat → Bool} {n : Nat} (h : ∀ i j, i < n → j < n → lt i j = lt' i j) : ∀ t : KasT α, kasGo lt n t = kasGo lt' n t
  | .ret a => rfl
  | .ask i j k => by
    unfold kasGo
    split
    · rename_i q
      rw [h i j q.1 q.2]
      exact kasGo_congr h _
    · rfl
theorem kasGo_wp {α : Type} {cmp : Nat → Nat → (Bool → Shared → Prop) → Shared → Prop} {lt : Nat → Nat → Bool} {n : Nat} {s : Shared} (hc : ∀ i j, i < n → j < n → ∀ C : Bool → Shared → Prop, C (lt i j) s → cmp i j C s) {Q : α → Shared → Prop} : ∀ (t : KasT α) (a : α), kasGo lt n t = some a → Q a s → t.kasWp cmp Q s
  | .ret b, a, h, hq => by cases h; exact hq
  | .ask i j k, a, h, hq => by
    unfold kasGo at h
    split at h
    · rename_i q
      exact hc i j q.1 q.2 _ (kasGo_wp hc _ a h hq)
    · cases h
section
variable {prog : Program} {w : World} {A : Around} {E : Value → Shared → Prop} {s : Shared} {a : Nat} {vs : List Value} {κ : SortKind} {lt : Nat → Nat → Bool} {p : Array Nat}
/-- list.sort, the comparisons known -/
theorem sort_at {n : Nat} {P : PySem.Fin → Shared → Prop} (ho : s.heap.get? a = some (seqObj "list" vs.toArray n)) (h2 : 2 ≤ vs.length) (h64 : vs.length < 64)
    (hk : ∀ h', (∀ b o, b ≠ a → s.heap.get? b = some o → h'.get? b = some o) → ∀ Q : SortKind → Shared → Prop, Q κ { s with heap := h' } → wpAny (model prog w) A (keyKind' vs.toArray) Q (fun _ _ => False) { s with heap := h' })
    (hc : ∀ h', (∀ b o, b ≠ a → s.heap.get? b = some o → h'.get? b = some o) → ∀ i j, i < vs.length → j < vs.length → ∀ C : Bool → Shared → Prop, C (lt i j) { s with heap := h' } → kas_ask prog w A κ vs i j C { s with heap := h' })
    (hg : kasGo lt vs.length (kas_sort vs.length) = some p)
    (hP : ∀ h' c, (∀ b o, b ≠ a → s.heap.get? b = some o → h'.get? b = some o) → h'.get? a = some (seqObj "list" (List.toArray (p.toList.map fun i => vs.getD i Value.none)) c) → P (.done (.ret .none)) { s with heap := h' }) :
    wpAny (model prog w) A (Builtin.«list.sort» ⟨[.ref a], []⟩) P E s := by
  obtain ⟨e1, ho1⟩ : ∃ e1, (s.heap.update a (Obj.mapSeq fun _ => (#[] : Array Value))).get? a = some (seqObj "list" #[] e1) := ⟨_, get?_update_seq ho fun _ => #[]⟩
  have k3 : ∀ b o, b ≠ a → s.heap.get? b = some o → (((s.heap.update a (Obj.mapSeq fun _ => (#[] : Array Value))).push (seqObj "tuple" vs.toArray 0)).push (seqObj "list" #[] 0)).get? b = some o := fun b o hb e =>
    Heap.get?_push_of_some _ (Heap.get?_push_of_some _ ((Heap.get?_update_other _ _ (Ne.symm hb)).trans e))
  have a3 : (((s.heap.update a (Obj.mapSeq fun _ => (#[] : Array Value))).push (seqObj "tuple" vs.toArray 0)).push (seqObj "list" #[] 0)).get? a = some (seqObj "list" #[] e1) := Heap.get?_push_of_some _ (Heap.get?_push_of_some _ ho1)
  rw [list_sort_plain]
  refine wpAny_bind (listItems_at ho rfl ?_)
  refine wpAny_bind (listUpdate_at ho rfl ?_ (by rw [List.size_toArray, sizeLine_eq]; omega) (Nat.zero_le _))
  refine wpAny_bind (seqEpoch_at ho1 rfl ?_)
  refine wpAny_bind (wpAny_newTuple ?_ (by show vs.length ≤ _; rw [sizeLine_eq]; omega))
  refine wpAny_bind (wpAny_newList ?_ (Nat.zero_le _))
  refine wpAny_holding ?_
  show wpAny (model prog w) A _ P E { s with heap := ((s.heap.update a (Obj.mapSeq fun _ => (#[] : Array Value))).push (seqObj "tuple" vs.toArray 0)).push (seqObj "list" #[] 0) }
  dsimp only
  have hn2 : ¬ vs.toArray.size < 2 := by rw [List.size_toArray]; omega
  rw [if_neg hn2, if_neg hn2]
  generalize ((s.heap.update a (Obj.mapSeq fun _ => (#[] : Array Value))).push (seqObj "tuple" vs.toArray 0)).push (seqObj "list" #[] 0) = h₃ at k3 a3 ⊢
  refine wpAny_bind (wpAny_mono (hk h₃ k3 (fun κ' s' => κ' = κ ∧ s' = { s with heap := h₃ }) ⟨rfl, rfl⟩) (fun κ' s0 hk' => ?_) fun _ _ x => x.elim)
  obtain ⟨rfl, rfl⟩ := hk'
  have ask : (kas_sort vs.length).kasWp (kas_ask prog w A κ' vs) (fun q s' => q = p ∧ s' = { s with heap := h₃ }) { s with heap := h₃ } := kasGo_wp (fun i j hi hj C hC => hc h₃ k3 i j hi hj C hC) _ p hg ⟨rfl, rfl⟩
  refine wpAny_bind (wpAny_mono (kat_run (Q := fun st' s' => (p.size = vs.length ∧ arrOf st' = p.map (kas_item (vs.toArray.zip vs.toArray)) ∧ failedOf st' = none) ∧ s' = { s with heap := h₃ }) rfl h2 h64 (fun p' st' s' a1 a2 a3 a4 => ⟨⟨by rw [← a4.1]; exact a1, by rw [a2, a4.1], a3⟩, a4.2⟩) ask) ?_ fun _ _ e => e)
  rintro ⟨⟨⟩, st'⟩ s' ⟨⟨hps, har, hf⟩, rfl⟩
  dsimp only
  have hout := kat_snds rfl har
  rw [hout]
  obtain ⟨c2, hc2⟩ : ∃ c2, (h₃.update a (Obj.mapSeq fun _ => List.toArray (p.toList.map fun i => vs.getD i Value.none))).get? a = some (seqObj "list" (List.toArray (p.toList.map fun i => vs.getD i Value.none)) c2) := ⟨_, get?_update_seq a3 fun _ => List.toArray (p.toList.map fun i => vs.getD i Value.none)⟩
  refine wpAny_bind (seqEpoch_at a3 rfl ?_)
  refine wpAny_bind (listUpdate_at a3 rfl ?_ (Nat.zero_le _) ?_)
  · rw [hf]
    simp only [bne_self_eq_false, Bool.false_eq_true, if_false]
    exact wpAny_pure (hP _ c2 (fun b o hb e => (Heap.get?_update_other _ _ (Ne.symm hb)).trans (k3 b o hb e)) hc2)
  · rw [List.size_toArray, List.length_map, Array.length_toList, hps, sizeLine_eq]; omega
/-- sorted(list), the comparisons known -/
theorem sorted_at {l : Addr} {Q : Value → Shared → Prop} (hl : s.heap.IsList l vs.toArray) (h2 : 2 ≤ vs.length) (h64 : vs.length < 64)
    (hk : ∀ h', Keep s.heap h' → ∀ Q : SortKind → Shared → Prop, Q κ { s with heap := h' } → wpAny (model prog w) A.in1.in1 (keyKind' vs.toArray) Q (fun _ _ => False) { s with heap := h' })
    (hc : ∀ h', Keep s.heap h' → ∀ i j, i < vs.length → j < vs.length → ∀ C : Bool → Shared → Prop, C (lt i j) { s with heap := h' } → kas_ask prog w A.in1.in1 κ vs i j C { s with heap := h' })
    (hg : kasGo lt vs.length (kas_sort vs.length) = some p)
    (hQ : ∀ h' D c, Keep s.heap h' → s.heap.get? D = none → h'.get? D = some (seqObj "list" (List.toArray (p.toList.map fun i => vs.getD i Value.none)) c) → Q (.ref D) { s with heap := h' }) :
    wpAny (model prog w) A (call (.builtin "sorted") [.ref l]) Q E s := by
  refine Calls.call_function_entry kind_sorted plain_sorted entry_sorted (args_sorted1 _) ?_
  unfold Builtin.«sorted»
  refine wpAny_bind (m := checkCount "sorted" 1 1 _) (wpAny_pure ?_)
  refine wpAny_bind (collect_list hl ?_ (by rw [sizeLine_eq]; omega))
  refine wpAny_bind (wpAny_newList ?_ (by rw [sizeLine_eq]; omega))
  have hsz : ((s.heap.push (seqObj "list" #[] 0)).update s.heap.objs.size (Obj.mapSeq (· ++ vs.toArray))).objs.size = s.heap.objs.size + 1 := by
    rw [Heap.size_update, size_push']
  have hoL : (((s.heap.push (seqObj "list" #[] 0)).update s.heap.objs.size (Obj.mapSeq (· ++ vs.toArray))).push (seqObj "list" vs.toArray 0)).get? (s.heap.objs.size + 1) = some (seqObj "list" vs.toArray 0) := by
    rw [← hsz]; exact Heap.get?_push_size _ rfl
  have keep : Keep s.heap (((s.heap.push (seqObj "list" #[] 0)).update s.heap.objs.size (Obj.mapSeq (· ++ vs.toArray))).push (seqObj "list" vs.toArray 0)) := fun b o q => by
    have hlt : b < s.heap.objs.size := Heap.lt_size q
    rw [Heap.get?_push_ne _ _ _ (by rw [hsz]; exact Nat.ne_of_lt (Nat.lt_succ_of_lt hlt)), Heap.get?_update_ne _ _ _ _ (Nat.ne_of_lt hlt), Heap.get?_push_ne _ _ _ (Nat.ne_of_lt hlt)]
    exact q
  have k2 : ∀ h', (∀ b o, b ≠ s.heap.objs.size + 1 → (((s.heap.push (seqObj "list" #[] 0)).update s.heap.objs.size (Obj.mapSeq (· ++ vs.toArray))).push (seqObj "list" vs.toArray 0)).get? b = some o → h'.get? b = some o) → Keep s.heap h' := fun h' hh b o q => hh b o (Nat.ne_of_lt (Nat.lt_succ_of_lt (Heap.lt_size q))) (keep b o q)
  show wpAny _ _ _ _ _ { s with heap := ((s.heap.push (seqObj "list" #[] 0)).update s.heap.objs.size (Obj.mapSeq (· ++ vs.toArray))).push (seqObj "list" vs.toArray 0) }
  rw [hsz]
  refine wpAny_bind (wpAny_holding (wpAny_call_entry slot_list_sort ⟨_, hoL, rfl⟩ entry_list_sort ?body (args_list_sort _)))
  case body =>
    refine sort_at (s := { s with heap := ((s.heap.push (seqObj "list" #[] 0)).update s.heap.objs.size (Obj.mapSeq (· ++ vs.toArray))).push (seqObj "list" vs.toArray 0) }) hoL h2 h64 (fun h' hh => hk h' (k2 h' hh)) (fun h' hh => hc h' (k2 h' hh)) hg fun h' c hh hD => ?_
    exact ⟨_, rfl, wpAny_pure ⟨_, rfl, hQ h' _ c (k2 h' hh) (Heap.get?_none_of_le (Nat.le_succ _)) hD⟩⟩
end
end Mine
end
section
open PySem PySem.W PyProof.Rows PySem.W.X PySem.SeqAt
namespace Mine
noncomputable abbrev T3 := Int × Int × Int
noncomputable def t3 (x : T3) : V := .tup [.int x.1, .int x.2.1, .int x.2.2]
noncomputable def lt3 (x y : T3) : Bool := if x.1 = y.1 then (if x.2.1 = y.2.1 then decide (x.2.2 < y.2.2) else decide (x.2.1 < y.2.1)) else decide (x.1 < y.1)
noncomputable def atT (ts : List T3) (i : Nat) : T3 := ts.getD i (0, 0, 0)
theorem t3_rel {ρ : List Ent} {h : Heap} {x : T3} {v : Value} (r : VR ρ h (t3 x) v) : ∃ a t1 t2 t3, v = .ref a ∧ h.IsTuple a #[.int x.1 t1, .int x.2.1 t2, .int x.2.2 t3] := by
  unfold t3 at r
  obtain ⟨a, vs, rfl, ht, hv⟩ := r.tup_eq
  obtain ⟨v1, q1, rfl, r1, hv⟩ := hv.cons_eq
  obtain ⟨v2, q2, rfl, r2, hv⟩ := hv.cons_eq
  obtain ⟨v3, q3, rfl, r3, hv⟩ := hv.cons_eq
  have := hv.nil_eq
  subst this
  obtain ⟨t1, rfl⟩ := r1.int_eq
  obtain ⟨t2, rfl⟩ := r2.int_eq
  obtain ⟨t3, rfl⟩ := r3.int_eq
  exact ⟨a, t1, t2, t3, rfl, ht⟩
theorem VRs.getD {ρ : List Ent} {h : Heap} {ts : List T3} {vs : List Value} (r : VRs ρ h (ts.map t3) vs) {i : Nat} (hi : i < vs.length) : VR ρ h (t3 (atT ts i)) (vs.getD i Value.none) := by
  have hl : vs.length = ts.length := by rw [r.len, List.length_map]
  obtain ⟨x, hx, hr⟩ := r.get' (List.getElem?_eq_getElem hi)
  rw [List.getElem?_map, List.getElem?_eq_getElem (hl ▸ hi)] at hx
  cases hx
  unfold atT
  rw [List.getD_eq_getElem?_getD, List.getD_eq_getElem?_getD, List.getElem?_eq_getElem hi, List.getElem?_eq_getElem (hl ▸ hi)]
  exact hr
section
variable {prog : Program} {w : World} {A : Around} {s : Shared}
theorem lt_at {x y : T3} {u v : Value} {ρ : List Ent} {C : Bool → Shared → Prop} (ru : VR ρ s.heap (t3 x) u) (rv : VR ρ s.heap (t3 y) v) (h : C (lt3 x y) s) : wpAny (model prog w) A (keyLt' (tuples' true) u v) C (fun _ _ => False) s := by
  obtain ⟨a, a1, a2, a3, rfl, o, ho, hc, n, hd⟩ := t3_rel ru
  obtain ⟨b, b1, b2, b3, rfl, o', ho', hc', n', hd'⟩ := t3_rel rv
  refine kat_lt ho hd ho' hd' ?_
  show KatLex _ _ _ _ _ _ [(_, _), (_, _), (_, _)] 0 s
  unfold lt3 at h
  refine kat_cons (wpAny_eqBool_int ?_)
  by_cases e1 : x.1 = y.1
  · rw [if_pos e1] at h
    rw [show (x.1 == y.1) = true from beq_iff_eq.mpr e1]
    refine kat_yes (kat_cons (wpAny_eqBool_int ?_))
    by_cases e2 : x.2.1 = y.2.1
    · rw [if_pos e2] at h
      rw [show (x.2.1 == y.2.1) = true from beq_iff_eq.mpr e2]
      refine kat_yes (kat_cons (wpAny_eqBool_int ?_))
      by_cases e3 : x.2.2 = y.2.2
      · rw [show (x.2.2 == y.2.2) = true from beq_iff_eq.mpr e3]
        refine kat_yes (kat_nil ?_)
        rw [e3, decide_eq_false (Int.lt_irrefl _)] at h
        exact h
      · rw [show (x.2.2 == y.2.2) = false from beq_eq_false_iff_ne.mpr e3]
        exact kat_no (kat_one _ _ (PySem.P.lt_int h))
    · rw [if_neg e2] at h
      rw [show (x.2.1 == y.2.1) = false from beq_eq_false_iff_ne.mpr e2]
      exact kat_no (kat_one _ _ (PySem.P.lt_int h))
  · rw [if_neg e1] at h
    rw [show (x.1 == y.1) = false from beq_eq_false_iff_ne.mpr e1]
    refine kat_no ?_
    show wpAny _ _ (oneLt' true _ _) _ _ s
    exact oneLt_int h
theorem kind_at {ts : List T3} {vs : List Value} {ρ : List Ent} {Q : SortKind → Shared → Prop} (r : VRs ρ s.heap (ts.map t3) vs) (hne : 0 < vs.length) (h : Q (tuples' true) s) : wpAny (model prog w) A (keyKind' vs.toArray) Q (fun _ _ => False) s := by
  have key : ∀ (ts : List T3) (vs : List Value), VRs ρ s.heap (ts.map t3) vs → ∃ fs, KatTups s.heap vs fs ∧ fs.length = vs.length ∧ ∀ v ∈ fs, ∃ n t, v = .int n t := by
    intro ts
    induction ts with
    | nil => intro vs r; rw [r.nil_eq]; exact ⟨[], .nil, rfl, fun v hv => nomatch hv⟩
    | cons x ts ih =>
      intro vs r
      obtain ⟨v, q, rfl, rv, rq⟩ := VRs.cons_eq r
      obtain ⟨fs, h1, h2, h3⟩ := ih q rq
      obtain ⟨a, a1, a2, a3, rfl, o, ho, hc, n, hd⟩ := t3_rel rv
      refine ⟨.int x.1 a1 :: fs, .cons ho hc hd rfl h1, by rw [List.length_cons, List.length_cons, h2], fun v hv => ?_⟩
      rcases List.mem_cons.mp hv with rfl | hv
      · exact ⟨_, _, rfl⟩
      · exact h3 v hv
  obtain ⟨fs, h1, h2, h3⟩ := key ts vs r
  refine kat_kind (T := .type "int") h1 (by rw [h2]; exact hne) (fun v hv => ?_) (by decide) h
  obtain ⟨n, t, rfl⟩ := h3 v hv
  exact .now
end
section
variable {prog : Program} {w : World} {KF : Frag} {d : Nat} {E : HEP} {H : List O} {Q : V → List O → Prop}
/-- sorted(list of triples) -/
theorem sorted_t3 {l : Nat} {ts : List T3} {p : Array Nat} (hl : IsL' H l (ts.map t3)) (h2 : 2 ≤ ts.length) (h64 : ts.length < 64) (hg : kasGo (fun i j => lt3 (atT ts i) (atT ts j)) ts.length (kas_sort ts.length) = some p) (hp : ∀ i ∈ p.toList, i < ts.length)
    (h : Q (.ref H.length) (H ++ [.list (p.toList.map fun i => t3 (atT ts i))])) : CallW prog w KF d E H (.bi "sorted") [.ref l] Q := fun A F ρ s u us hA S ru r => by
  rw [ru.bi_eq]
  obtain ⟨v, q, rfl, rv, rq⟩ := r.cons_eq
  rw [rq.nil_eq]
  obtain ⟨e, he, rfl⟩ := rv.ref_eq
  obtain ⟨vs, a, b⟩ := S.list hl he
  have hlen : vs.length = ts.length := by rw [b.len, List.length_map]
  refine sorted_at (κ := tuples' true) (lt := fun i j => lt3 (atT ts i) (atT ts j)) (p := p) a (by rw [hlen]; exact h2) (by rw [hlen]; exact h64) (fun h' hk Q' hq => kind_at (s := { s with heap := h' }) (b.mono (List.prefix_refl _) (.of_keep hk)) (by rw [hlen]; omega) hq) (fun h' hk i j hi hj C hC => ?_) (by rw [hlen]; exact hg) fun h' D c hk hD0 hD => ?_
  · have b' : VRs ρ h' (ts.map t3) vs := b.mono (List.prefix_refl _) (.of_keep hk)
    exact lt_at (s := { s with heap := h' }) (b'.getD hi) (b'.getD hj) hC
  · have b' : VRs ρ h' (ts.map t3) vs := b.mono (List.prefix_refl _) (.of_keep hk)
    have rel : ∀ is : List Nat, (∀ i ∈ is, i < ts.length) → VRs ρ h' (is.map fun i => t3 (atT ts i)) (is.map fun i => vs.getD i Value.none) := by
      intro is
      induction is with
      | nil => intro _; exact .nil
      | cons i is ih => intro hi; exact .cons (b'.getD (by rw [hlen]; exact hi i (.head _))) (ih fun j hj => hi j (.tail _ hj))
    have pr := rel p.toList hp
    have px : ρ <+: ρ ++ [⟨D, [D], none⟩] := List.prefix_append _ _
    refine ⟨ρ ++ [⟨D, [D], none⟩], H ++ [.list (p.toList.map fun i => t3 (atT ts i))], .ref H.length, .add (s := s) (s' := { s with heap := h' }) (.of_keep hk) rfl (Nat.le_refl _), S.alloc (o := .list (p.toList.map fun i => t3 (atT ts i))) hk hD0 ⟨_, hD⟩ ⟨rfl, rfl, _, ⟨c, hD⟩, pr.mono px (.refl _)⟩, ?_, h⟩
    unfold VR
    exact ⟨_, by rw [← S.len, List.getElem?_concat_length], rfl⟩
end
/-- two runs of triples: those of the shorter one first, of as many the first run's -/
noncomputable def posAB (na nb i : Nat) : Nat := if na ≤ nb then i else if i < na then i + nb else i - na
noncomputable def outAB (na nb : Nat) : Array Nat := if na ≤ nb then (List.range (na + nb)).toArray else ((List.range nb).map (· + na) ++ List.range na).toArray
theorem sortAB : ∀ na nb : Fin 5, 0 < na.val → 0 < nb.val → kasGo (fun i j => decide (posAB na nb i < posAB na nb j)) (na.val + nb.val) (kas_sort (na.val + nb.val)) = some (outAB na nb) := by decide +kernel
end Mine
end
section
open PySem PySem.W PyProof.Rows PySem.W.X PySem.SeqAt
namespace Mine
section
variable {w : World} {KF : Frag} {F : Base} {ρ ρ' : List Ent} {H H' : List O} {h h' : Heap} {gs gs' : Array GenState} {fp : List Nat}
/-- objects of nobody's put into the base, and out of it -/
theorem HSim.rebase (S : HSim w KF F ρ H h gs) (hf : ∀ b ∈ fp, F.f b = none ∧ b ∉ fps ρ) : HSim w KF (addF F h fp) ρ H h gs := by
  have hF : ∀ b o, F.f b = some o → (addF F h fp).f b = some o := fun b o e => by
    rw [addF_out (fun q => by rw [(hf b q).1] at e; cases e)]; exact e
  refine ⟨fun h' k => S.bs h' (fun b o e => k b o (hF b o e)), fun b o e => ?_, S.len, fun i e o hi ho => (S.ob i e o hi ho).base hF, S.live, S.nd, fun b hb => ?_, S.gn, S.bare, S.gf, fun e he => let ⟨h1, L, o, h2, h3, h4⟩ := S.fo e he; ⟨h1, L, o, h2, hF L o h3, h4⟩⟩
  · by_cases q : b ∈ fp
    · rw [addF_in q] at e; exact ⟨o, e, .refl⟩
    · rw [addF_out q] at e; exact S.keep b o e
  · rw [addF_out (fun q => (hf b q).2 hb)]; exact S.off b hb
theorem HSim.unbase (S : HSim w KF F ρ H h gs) (hf : ∀ b ∈ fp, F.f b = none ∧ b ∉ fps ρ) (hl : ∀ b ∈ fp, ∃ o, h.get? b = some o) (p : ρ <+: ρ') {nn : Nat} (nw : New nn ρ ρ') (T : HSim w KF (addF F h fp) ρ' H' h' gs') :
    HSim w KF F ρ' H' h' gs' ∧ (∀ b ∈ fp, b ∉ fps ρ') ∧ ∀ b ∈ fp, ∀ o, h.get? b = some o → h'.get? b = some o := by
  have hF : ∀ b o, F.f b = some o → (addF F h fp).f b = some o := fun b o e => by
    rw [addF_out (fun q => by rw [(hf b q).1] at e; cases e)]; exact e
  have hoF : ∀ b, (addF F h fp).f b = none → F.f b = none := fun b q => by
    cases z : F.f b with
    | none => rfl
    | some o => rw [hF b o z] at q; cases q
  have kp : ∀ b ∈ fp, ∀ o, h.get? b = some o → h'.get? b = some o := fun b hb o e => by
    obtain ⟨o', e', u⟩ := T.keep b o (by rw [addF_in hb]; exact e)
    rw [e', u.ex (S.fo.off (hf b hb).1)]
  refine ⟨⟨S.bs, fun b o e => T.keep b o (hF b o e), T.len, fun i e o hi ho => ?_, T.live, T.nd, fun b hb => hoF b (T.off b hb), T.gn, T.bare, T.gf, S.fo⟩, fun b hb q => ?_, kp⟩
  · have y := T.ob i e o hi ho
    cases o with
    | arr xs =>
      obtain ⟨a, b, l, f⟩ := y
      refine ⟨a, b, l, ?_⟩
      by_cases q : i < ρ.length
      · have hi' : ρ[i]? = some e := by obtain ⟨t, rfl⟩ := p; rwa [List.getElem?_append_left q] at hi
        have hH : i < H.length := by rw [← S.len]; exact q
        have y' := S.ob i e H[i] hi' (List.getElem?_eq_getElem hH)
        rcases y'.own with ⟨ys, q2⟩ | q2 | q2
        · rw [q2] at y'; exact y'.2.2.2
        · rw [a] at q2; cases q2
        · rw [b] at q2; cases q2
      · exact absurd a (nw i e (Nat.not_lt.mp q) hi).1
    | _ => exact y
  · have := T.off b q
    rw [addF_in hb] at this
    obtain ⟨o, ho⟩ := hl b hb
    rw [ho] at this; cases this
end
section
variable {prog : Program} {w : World} {A : Around} {E : Value → Shared → Prop} {s : Shared}
/-- l[k], no such place -/
theorem getItem_none {l : Addr} {items : Array Value} {k : Int} {t : Tok} {Q : Value → Shared → Prop} (hA : A.handled = none) (hl : s.heap.IsList l items)
    (hout : k < -(items.size : Int) ∨ (items.size : Int) ≤ k) (hlo : -(2 ^ 62) ≤ k) (hhi : k < 2 ^ 62)
    (hE : ∀ h' tk e t, Heap.MadeExc s.heap h' e "IndexError" [.str (Str.ofString "list index out of range") t] → E (.ref e) { s with heap := h', toks := tk }) :
    wpAny (model prog w) A (getItem (.ref l) (.int k t)) Q E s := by
  by_cases h0 : 0 ≤ k
  · refine getItem_out hA hl h0 ?_ hhi hE
    rcases hout with h | h
    · have := Int.natCast_nonneg items.size; omega
    · exact h
  obtain ⟨o, ho, hc, ne, hd⟩ := id hl
  unfold getItem
  try with_reducible refine wpAny_holding ?_
  first | refine wpAny_bind (wpAny_pure ?_) | skip
  refine wpAny_bind (wpAny_sequenceKey hl.typeIs (by decide) ?_)
  refine wpAny_bind (wpAny_callSpecial?_slot (name := Str.ofString "__getitem__") hl.typeIs slot_list_getitem
    (wpAny_call_entry slot_list_getitem hl.typeIs entry_list_getitem ?_ (args_list_getitem _ _)))
  show wpAny _ _ (Builtin.List.listSubscript? (.int k t) >>= _) _ _ s
  refine wpAny_bind (wpAny_listSubscript_int (fitsIndex_both (by omega) (by omega)) ?_)
  clear hlo hhi
  cases k with
  | ofNat j => exact absurd (Int.natCast_nonneg j) h0
  | negSucc j =>
    have hidx : seqIndex? (Int.negSucc j) items.size = none := by
      rcases hout with h | h
      · exact seqIndex_below h
      · exact absurd h (by have := Int.negSucc_lt_zero j; omega)
    show wpAny _ _ ((Builtin.List.listItems (.ref l) >>= fun xs => pure ((seqIndex? (Int.negSucc j) xs.size).bind fun i => xs[i]?.map (i, ·))) >>= _) _ _ s
    refine wpAny_bind (wpAny_bind ?_)
    show wpAny _ _ (seqItems? (.ref l) >>= _) _ _ s
    refine wpAny_bind (wpAny_seqItems ho hd (wpAny_pure (wpAny_pure ?_)))
    rw [hidx]
    first
      | exact wpAny_bind (wpAny_rule (raiseWords plainExc_IndexError hA hE))
      | exact wpAny_bind (wpAny_rule (wpAny_bind (raiseWords plainExc_IndexError hA hE)))
      | exact wpAny_bind (wpAny_bind (wpAny_rule (raiseWords plainExc_IndexError hA hE)))
      | exact wpAny_rule (raiseWords plainExc_IndexError hA hE)
end
section
variable {prog : Program} {w : World} {KF : Frag} {fi : FI} {d : Nat} {m : Names} {H : List O} {X : String} {msg : Option Str} {Q : List O → Prop}
/-- a local list's row asked for at a place that it has not -/
theorem wx_none {xn yn : Str} {xp yp pos : Pos} {r : Nat} {xs : List V} {k : Int} (hx : fi.sc.names.lookup xn = some .local) (vx : getL m xn = some (.ref r)) (dx : (xn == ("__debug__" : Str)) = false) (hy : fi.sc.names.lookup yn = some .local) (vy : getL m yn = some (.int k)) (dy : (yn == ("__debug__" : Str)) = false)
    (hr : H[r]? = some (.list xs)) (hk : k < -(xs.length : Int) ∨ (xs.length : Int) ≤ k) (hz0 : -(2 ^ 62) ≤ k) (hz : k < 2 ^ 62) (h : Q H) : WX prog w KF fi d m H (.Subscript (.Name xn xp) (.Name yn yp) pos) "IndexError" (some (Str.ofString "list index out of range")) Q :=
  fun A env F ρ s hA S => by
    refine Subscript_ ?_
    obtain ⟨mv, u, hn, e, ru⟩ := S.get vx hx
    refine wpAny_Name (wpAny_loadName_local S.kd ((S.kind xn).trans hx) hn e ?_) dx
    obtain ⟨mv, v, hn, e, rv⟩ := S.get vy hy
    refine wpAny_Name (wpAny_loadName_local S.kd ((S.kind yn).trans hy) hn e ?_) dy
    obtain ⟨en, he, rfl⟩ := ru.ref_eq
    obtain ⟨t', rfl⟩ := rv.int_eq
    obtain ⟨vs, a, b⟩ := S.hs.list (.inl hr) he
    have e : subscriptTail (.Name xn xp) (.Name yn yp) (.ref en.a) (.int k t') = (do let r ← subOp (.ref en.a) (.int k t'); letTemporaryGo (.Name xn xp) (.ref en.a) r; pure r) := by
      have hs : ∀ b o i, subscripted (.Name yn yp) b o i = (match b with | true => runValue (.builtin "lifetime.subscript" ⟨[o, i], []⟩) | false => operate [o, i] (getItem o i)) := by intro b o i; cases b <;> rfl
      unfold subscriptTail subOp
      first
        | (simp only [hs, bind_assoc]; rfl)
        | simp only [hs, bind_assoc]
    rw [e]
    refine wpAny_bind (sub_of a.typeIs slot_list_getitem.lookup (getItem_none hA.hd a (by rw [List.size_toArray, b.len]; exact hk) hz0 hz fun h' tk x t hm => ?_))
    exact ⟨ρ, H, s.heap, x, _, rfl, .same (.of_keep hm.keeps) rfl (Nat.le_refl _), S.keeps hm.keeps, ⟨_, rfl⟩, hm, S.fresh fun b hb => by rw [List.mem_singleton.mp hb]; exact hm.new, h⟩
/-- an assert that fails -/
theorem sx_assert {test : Expr} {pos : Pos} (h : WT prog w KF fi d noE m H test fun b H' => b = false ∧ Q H') : SX prog w KF fi d m H (.Assert test none pos) "AssertionError" none Q := fun A env F ρ s hA S => by
  refine wpAny_Assert hA.hd (wpAny_mono (h A env F ρ s hA S) (fun b s₁ hx => ?_) fun _ _ x => (se_no x).elim)
  obtain ⟨ρ₁, H₁, b', st, S₁, rb, hb, hq⟩ := hx
  cases rb
  subst hb
  rw [if_neg Bool.false_ne_true]
  exact fun h' e hm => ⟨ρ₁, H₁, s₁.heap, e, _, rfl, st.trans (.same (.of_keep hm.keeps) rfl (Nat.le_refl _)), S₁.keeps hm.keeps, rfl, hm, S₁.fresh fun b hb => by rw [List.mem_singleton.mp hb]; exact hm.new, hq⟩
end
/-- a generator that tells the texts xs, then ends -/
noncomputable def Tels (prog : Program) (w : World) (KF : Frag) (d : Nat) (i : Nat) (Qe : List O → Prop) : List Str → List O → Prop
  | [], H => AskW prog w KF d H i fun a H' => a = .nothing ∧ Qe H'
  | x :: xs, H => AskW prog w KF d H i fun a H' => a = .txt x ∧ Tels prog w KF d i Qe xs H'
section
variable {prog : Program} {w : World} {KF : Frag} {d : Nat} {E : HEP} {H : List O}
structure TelSt (w : World) (KF : Frag) (i : Nat) (F : Base) (ρ₀ : List Ent) (s₀ : Shared) (en : Ent) (S : Nat) (s : Shared) (ρ : List Ent) (H : List O) : Prop where
  st : Step ρ₀ s₀ ρ s
  T : HSim w KF F ρ H s.heap s.gens
  he : ρ[i]? = some en
  gen : ∃ g, GenAt s.heap en.a g 0
  fS : F.f S = none
  oS : S ∉ fps ρ
  ls : ∃ acc c, s.heap.get? S = some (listO acc c)
  nS : S ≠ en.a
theorem TelSt.ask {i : Nat} {F : Base} {ρ₀ ρ : List Ent} {s₀ s : Shared} {en : Ent} {S : Nat} {A : Around} {Qa : Ans → List O → Prop} (X : TelSt w KF i F ρ₀ s₀ en S s ρ H) (hA : Room A (d + 1) F.fr) (h : AskW prog w KF d H i Qa) {P : Option Value → Shared → Prop}
    (hP : ∀ ρ' H' a s' r, Qa a H' → TelSt w KF i F ρ₀ s₀ en S s' ρ' H' → (∀ o, s.heap.get? S = some o → s'.heap.get? S = some o) → ((r = none ∧ a = .nothing) ∨ ∃ x t, r = some (.str x t) ∧ a = .txt x) → P r s')
    (hx : ∀ X msg H', ¬ Qa (.err X msg) H') : wpU (model prog w) A (pyNext (.ref en.a)) P (fun _ _ => False) s := by
  obtain ⟨acc, c, hS⟩ := X.ls
  have hf : ∀ b ∈ [S], F.f b = none ∧ b ∉ fps ρ := fun b hb => by rw [List.mem_singleton.mp hb]; exact ⟨X.fS, X.oS⟩
  have hl : ∀ b ∈ [S], ∃ o, s.heap.get? b = some o := fun b hb => by rw [List.mem_singleton.mp hb]; exact ⟨_, hS⟩
  obtain ⟨_, hw⟩ := h A (addF F s.heap [S]) ρ s en hA (X.T.rebase hf) X.he
  refine wpU_mono hw (fun r s' hr => ?_) fun x s' hr => ?_
  · obtain ⟨ρ', H', st, T, hg, hr⟩ := hr
    obtain ⟨U, oU, kU⟩ := X.T.unbase hf hl st.1 st.2.2.2 T
    have Y : TelSt w KF i F ρ₀ s₀ en S s' ρ' H' := ⟨X.st.trans st, U, pre_get st.1 X.he, hg, X.fS, oU S (.head _), ⟨acc, c, kU S (.head _) _ hS⟩, X.nS⟩
    rcases hr with ⟨rfl, q⟩ | ⟨x, t, rfl, q⟩
    · exact hP ρ' H' _ s' _ q Y (kU S (.head _)) (.inl ⟨rfl, rfl⟩)
    · exact hP ρ' H' _ s' _ q Y (kU S (.head _)) (.inr ⟨x, t, rfl, rfl⟩)
  · obtain ⟨a, X, msg, H', _, _, _, q⟩ := hr
    exact (hx _ _ _ q).elim
theorem tels_drain {i : Nat} {Qe : List O → Prop} {F : Base} {ρ₀ : List Ent} {s₀ : Shared} {en : Ent} {S : Nat} {xs : List Str} {A : Around} (hA : Room A (d + 1) F.fr) :
    DrainU prog w A en.a S xs.length (fun j v => ∃ x t, xs[j]? = some x ∧ v = .str x t) (fun j s => ∃ ρ H, TelSt w KF i F ρ₀ s₀ en S s ρ H ∧ Tels prog w KF d i Qe (xs.drop j) H) (fun s => ∃ ρ H, TelSt w KF i F ρ₀ s₀ en S s ρ H ∧ Qe H) where
  ty := fun j s ⟨ρ, H, X, _⟩ => let ⟨g, hg⟩ := X.gen; hg.typeIs
  frame := fun j s s' ⟨ρ, H, X, hT⟩ hk hS' hg ho => by
    obtain ⟨acc, c, hS⟩ := X.ls
    have tk : TK s.heap s'.heap := .of_ext (a := S) (fun b o hb e => hk b o hb e) (list_not_imm (xs := acc) ⟨_, hS, rfl, _, rfl⟩)
    have c : Chg [S] s s' := ⟨hg, ho, tk, fun b o hb e => hk b o (fun q => hb (by rw [q]; exact .head _)) e⟩
    refine ⟨ρ, H, ⟨X.st.trans (.same tk ho (by rw [hg]; exact Nat.le_refl _)), X.T.chg (fun b hb => by rw [List.mem_singleton.mp hb]; exact ⟨X.fS, X.oS⟩) c, X.he, ?_, X.fS, X.oS, hS', X.nS⟩, hT⟩
    obtain ⟨g, hg⟩ := X.gen
    exact ⟨g, hg.at fun o e => hk _ o (Ne.symm X.nS) e⟩
  item := fun j s hj ⟨ρ, H, X, hT⟩ => by
    rw [List.drop_eq_getElem_cons hj] at hT
    refine X.ask hA hT (fun ρ' H' a s' r ⟨e, hq⟩ Y hk hr => ?_) fun X msg H' ⟨q, _⟩ => nomatch q
    subst e
    rcases hr with ⟨_, q⟩ | ⟨x, t, rfl, q⟩
    · cases q
    · cases q
      exact ⟨_, rfl, ⟨_, t, List.getElem?_eq_getElem hj, rfl⟩, ⟨ρ', H', Y, hq⟩, hk⟩
  done := fun s ⟨ρ, H, X, hT⟩ => by
    rw [List.drop_length] at hT
    refine X.ask hA hT (fun ρ' H' a s' r ⟨e, hq⟩ Y hk hr => ?_) fun X msg H' ⟨q, _⟩ => nomatch q
    subst e
    rcases hr with ⟨rfl, _⟩ | ⟨x, t, rfl, q⟩
    · exact ⟨rfl, ⟨ρ', H', Y, hq⟩, hk⟩
    · cases q
  self := fun j s Q E ⟨ρ, H, X, _⟩ hQ => let ⟨g, hg⟩ := X.gen; pyIter_genAt hg hQ
/-- list(generator) -/
theorem list_tels {i : Nat} {xs : List Str} {Q : V → List O → Prop} (hz : xs.length ≤ sizeLine) (hT : Tels prog w KF d i (fun H' => Q (.ref H'.length) (H' ++ [.list (xs.map V.str)])) xs H) (hg : ∀ F ρ (s : Shared) en, HSim w KF F ρ H s.heap s.gens → ρ[i]? = some en → ∃ g, GenAt s.heap en.a g 0) : CallU prog w KF (d + 2) E H (.ty "list") [.ref i] Q := fun A F ρ s u us hA S ru r => by
  unfold VR at ru
  subst ru
  obtain ⟨v, q, rfl, rv, rq⟩ := r.cons_eq
  rw [rq.nil_eq]
  obtain ⟨en, he, rfl⟩ := rv.ref_eq
  obtain ⟨g, hgen⟩ := hg F ρ s en S he
  have hlt : en.a < s.heap.objs.size := by obtain ⟨o, _, _, e, _⟩ := hgen; exact Heap.lt_size e
  have kh : Keep s.heap (s.heap.push { cls := .type "list", data := .seq #[] }) := fun b o e => Heap.get?_push_of_some _ e
  obtain ⟨oS, fS⟩ := S.dead (get_size s.heap)
  have hA2 : Room A.in1.in1 (d + 1) F.fr := ⟨hA.fr, hA.hd, by have := hA.dp; show A.depth + _ < _; omega, by have := hA.un; show A.units + 1 + 1 + _ + _ < _; omega⟩
  refine drain_listU (tels_drain (prog := prog) (KF := KF) (d := d) (Qe := fun H' => Q (.ref H'.length) (H' ++ [.list (xs.map V.str)])) (ρ₀ := ρ) (s₀ := s) (en := en) (i := i) (S := s.heap.objs.size) (xs := xs) hA2) hlt hz ?_ ?_
  · exact ⟨ρ, H, ⟨.same (.of_keep kh) rfl (Nat.le_refl _), S.keeps kh, he, ⟨g, hgen.at fun o e => kh _ _ e⟩, fS, oS, ⟨_, _, Heap.get?_push_size _ rfl⟩, Nat.ne_of_gt hlt⟩, hT⟩
  · rintro s' acc c ⟨ρ', H', Y, hq⟩ hS it
    have T2 := Y.T.adopt (a := s.heap.objs.size) (r := []) (o := .list (xs.map V.str)) (List.nodup_cons.mpr ⟨fun q => (nomatch q), List.nodup_nil⟩) (fun b hb => by rw [List.mem_singleton.mp hb]; exact ⟨Y.oS, Y.fS, _, hS⟩) ⟨rfl, rfl, acc.toList, ⟨_, hS⟩, strs_rel (by simpa using it.1) fun j v hj => it.2 j v (by simpa using hj)⟩
    refine ⟨_, _, .ref H'.length, Y.st.trans (.add (.refl _) rfl), T2, ?_, hq⟩
    unfold VR
    exact ⟨_, by rw [← Y.T.len, List.getElem?_concat_length], rfl⟩
end
section
variable {M : Model} {A : Around} {E : Value → Shared → Prop} {s : Shared} {K : Frag} {pos : Pos} {f : Value} {first : List Value} {Q : Value → Shared → Prop}
theorem callWith_ofU {P : Heap → Prop} {args : List (Bool × Sem Value)} {keywords : List (Option Str × Sem Value)} (hplain : (args.any (·.1) || keywords.any (·.1.isNone)) = false)
    (hk : ∀ h, P h → ∃ k, (k = Keeper.frame ∨ k = Keeper.machine ∨ k = Keeper.boundFrame) ∧ Looks M h (keeperOf f) k)
    (h : wpAny M A (evalArgs f true args keywords) (fun a s₁ => P s₁.heap ∧ wpU M A (call f (first ++ a.pos) a.kw) Q E s₁) E s) : wpU M A (callWith pos f first args keywords) Q E s := by
  unfold callWith
  refine wpU_bind (wpU_holding (up (wpAny_mono h (fun a s₁ h₁ => wpU_bind (wpU_standAt ?_)) fun _ _ x => x)))
  obtain ⟨k, hk', L⟩ := hk _ h₁.1
  simp only [hplain]
  refine wpU_bind (up (L.here ?_))
  have tail : ∀ {t : Sem Value}, wpU M A t Q E s₁ → wpU M A (t >>= fun r => holding [r] point >>= fun _ => pure r) Q E s₁ :=
    fun ht => wpU_bind (wpU_mono ht (fun r s₂ hr => wpU_bind (wpU_holding (up (wpAny_point (wpU_pure hr))))) fun _ _ x => x)
  have marked (mk : Value) : wpU M A (callMarked mk f (first ++ a.pos) a.kw) Q E s₁ := by unfold callMarked; exact wpU_keep h₁.2
  rcases hk' with rfl | rfl | rfl <;> dsimp only <;> first | exact tail h₁.2 | (split <;> first | exact tail h₁.2 | exact tail (marked _))
end
section
variable {prog : Program} {w : World} {KF : Frag} {fi : FI} {d : Nat} {E : EP} {m : Names} {H : List O}
/-- a function called whose body may ask generators -/
theorem weu_call {func : Expr} {args : List Expr} {pos : Pos} {a : Nat} {Q : V → List O → Prop} (hk : keepIn KF (.ref a) = true) (h : WE prog w KF fi d E m H func fun f H₁ => f = .st a ∧ WEs prog w KF fi d E m H₁ args fun vs H₂ => CallU prog w KF d (Em E m) H₂ (.st a) vs Q)
    (hp : Plain args := by intro _; rfl) (he : ∀ env, eval (.Call func args [] pos) env = (do callWith pos (← eval func env) [] (backTo pos (starEach args env)) (backToKw pos (keywordEach [] env))) := by intro _; rfl) : WEU prog w KF fi d E m H (.Call func args [] pos) Q :=
  fun A env F ρ s hA S => by
    rw [he env]
    refine wpU_bind (up (wpAny_mono (h A env F ρ s hA S) (fun u s₁ hx => ?_) fun _ _ x => x))
    obtain ⟨ρ₁, H₁, f, st₁, S₁, ru, rfl, h₁⟩ := hx
    rw [hp env]
    unfold VR at ru; subst ru
    refine callWith_ofU (by rw [plain_any]; rfl) (keeps_K (K := KF) hk) (wpAny_mono (args_run h₁ hA S₁) (fun x s₂ hx => ?_) fun _ _ x => x.step st₁)
    obtain ⟨hkw, ρ₂, H₂, vs, st₂, S₂, rv, h₂⟩ := hx
    refine ⟨S₂.b.k, ?_⟩
    rw [hkw]
    refine wpU_mono (h₂ A _ ρ₂ s₂ (.ref a) _ (show Room A d (addE F s₂.heap env (ownA fi env)).fr from hA) S₂.toH (by unfold VR; rfl) rv) (fun v s' ⟨ρ', H', b, st, T, rv, hq⟩ => ⟨ρ', H', b, (st₁.trans st₂).trans st, S₂.ofH st.1 st.2.1 T, rv, hq⟩) fun e s' ⟨ρ', H', x, st, T, rv, hq⟩ => rv.elim
/-- a built-in class called -/
theorem weu_callT {func : Expr} {args : List Expr} {pos : Pos} {T : String} {Q : V → List O → Prop} (h : WE prog w KF fi d E m H func fun f H₁ => f = .ty T ∧ WEs prog w KF fi d E m H₁ args fun vs H₂ => CallU prog w KF d (Em E m) H₂ (.ty T) vs Q)
    (hp : Plain args := by intro _; rfl) (he : ∀ env, eval (.Call func args [] pos) env = (do callWith pos (← eval func env) [] (backTo pos (starEach args env)) (backToKw pos (keywordEach [] env))) := by intro _; rfl) : WEU prog w KF fi d E m H (.Call func args [] pos) Q :=
  fun A env F ρ s hA S => by
    rw [he env]
    refine wpU_bind (up (wpAny_mono (h A env F ρ s hA S) (fun u s₁ hx => ?_) fun _ _ x => x))
    obtain ⟨ρ₁, H₁, f, st₁, S₁, ru, rfl, h₁⟩ := hx
    rw [hp env]
    unfold VR at ru; subst ru
    refine callWith_typeU plain_any (wpAny_mono (args_run h₁ hA S₁) (fun x s₂ hx => ?_) fun _ _ x => x.step st₁)
    obtain ⟨hkw, ρ₂, H₂, vs, st₂, S₂, rv, h₂⟩ := hx
    rw [hkw]
    refine wpU_mono (h₂ A _ ρ₂ s₂ (.type T) _ (show Room A d (addE F s₂.heap env (ownA fi env)).fr from hA) S₂.toH (by unfold VR; rfl) rv) (fun v s' ⟨ρ', H', b, st, T, rv, hq⟩ => ⟨ρ', H', b, (st₁.trans st₂).trans st, S₂.ofH st.1 st.2.1 T, rv, hq⟩) fun e s' ⟨ρ', H', x, st, T, rv, hq⟩ => rv.elim
/-- a test by or -/
theorem wtu_or {a b : Expr} {pos : Pos} {Q : Bool → List O → Prop} (h : WTU prog w KF fi d E m H a fun c H₁ => if c = true then Q true H₁ else WTU prog w KF fi d E m H₁ b Q) : WTU prog w KF fi d E m H (.BoolOp .Or [a, b] pos) Q :=
  fun A env F ρ s hA S => by
    rw [arm_isTrue_BoolOp]
    show wpU _ A (do match BoolOp.Or, ← isTrue a env (eval a env) with | .And, false => pure false | .Or, true => pure true | _, _ => allTrue .Or [b] env) _ _ s
    refine wpU_bind (wpU_mono (h A env F ρ s hA S) (fun c s₁ hx => ?_) fun _ _ x => x)
    obtain ⟨ρ₁, H₁, c', st₁, S₁, rc, h₁⟩ := hx
    cases rc
    cases c
    · show wpU _ A (do match BoolOp.Or, ← isTrue b env (eval b env) with | .And, false => pure false | .Or, true => pure true | _, _ => allTrue .Or [] env) _ _ s₁
      refine wpU_bind (wpU_mono ((show WTU prog w KF fi d E m H₁ b Q from h₁) A env F ρ₁ s₁ hA S₁) (fun c s₂ hx => ?_) fun _ _ x => x.step st₁)
      obtain ⟨ρ₂, H₂, c', st₂, S₂, rc, h₂⟩ := hx
      cases rc
      cases c
      · exact wpU_pure ⟨ρ₂, H₂, _, st₁.trans st₂, S₂, rfl, h₂⟩
      · exact wpU_pure ⟨ρ₂, H₂, _, st₁.trans st₂, S₂, rfl, h₂⟩
    · exact wpU_pure ⟨ρ₁, H₁, _, st₁, S₁, rfl, h₁⟩
end
section
variable {prog : Program} {w : World} {KF : Frag} {d : Nat} {E : HEP} {H : List O} {a : Nat} {o : Obj} {fd : FuncData} {body : List Stmt} {sc : Scope} {ps : List Str} {xs : List V}
/-- a function called, its frame known; what it lets out is handled -/
theorem wu_fnX {Q : V → List O → Prop} (K : FnOk KF a o fd body sc ps) (hgen : sc.isGenerator = false) (hlen : xs.length = ps.length)
    (h : WBX prog w KF ⟨sc, true, fd.code⟩ d (initN sc ps xs) H body (KFn Q) fun _ _ _ _ => False) : CallU prog w KF (d + 1) E H (.st a) xs Q :=
  fun A F ρ s u us hA S ru r => by
    have hsc := K.hsc
    subst hsc
    unfold VR at ru
    subst ru
    obtain ⟨ho, hcd⟩ := fn_code K.toFnB S.b
    have hul : us.length = ps.length := r.len.trans hlen
    refine wpU_runValue (codeU_call (E := fun _ _ => False) hA.depth ho K.hd K.hco hgen K.hb hcd ?_)
    rw [K.hbd us hul, K.hcl]
    refine wpAny_pure (wpAny_newFunctionEnv_cells K.hk (fun x hx => ?_) fun env he s₁ X => ?_)
    · have hx1 : x.1 ∈ ps := by rw [← zip_keys hul]; exact List.mem_map.mpr ⟨x, hx, rfl⟩
      rcases K.hkd x.1 hx1 with q | q
      · exact .inl q
      · obtain ⟨c, hc⟩ := cells_has (n := s.heap.objs.size + 1) (mem_of_lookup q)
        exact .inr ⟨q, by rw [nodup_lookup (cells_nodup K.hnd) hc]; rfl⟩
    · subst he
      obtain ⟨st₁, S₁⟩ := enter_sim K.toFnB hlen S r X
      refine ⟨S₁.b.lim, codeU_func ?_⟩
      refine wpU_mono (h _ _ F ρ s₁ rfl (hA.deeper rfl) S₁) (fun f s₂ hq => ?_) (fun _ _ ⟨_, _, _, _, _, _, _, _, x⟩ => x.elim)
      obtain ⟨ρ₂, H₂, m₂, fl, st₂, S₂, rf, h₂⟩ := hq
      cases fl with
      | next => cases rf; exact ⟨ρ₂, H₂, .none, st₁.trans st₂, S₂.hs, by unfold VR; rfl, h₂⟩
      | ret v => obtain ⟨u, rfl, r⟩ := rf; exact ⟨ρ₂, H₂, v, st₁.trans st₂, S₂.hs, r, h₂⟩
      | brk => exact h₂.elim
      | cont => exact h₂.elim
end
end Mine
end
section
open PySem PySem.W PyProof.Rows PySem.W.X PySem.SeqAt
namespace Mine
local macro_rules | `(tactic| walk_at "nm") => `(tactic| fail)
local macro_rules | `(tactic| walk_at "op") => `(tactic| first
  | with_reducible refine add_ii ?_
  | with_reducible refine sub_ii ?_
  | with_reducible refine mod_ii (by decide) ?_
  | ((with_reducible refine (?_ : W2 _ _ _ _ _ _ _ (binaryOp Operator.FloorDiv) _ _ _)); refine div_ii (by decide) (PyProof.noPylong_of_log2 (by decide +kernel)) ?_)
  | with_reducible refine eq_ii ?_
  | with_reducible refine lt_ii ?_
  | with_reducible refine ge_ii ?_
  | with_reducible refine neg_i ?_
  | with_reducible refine tr_bool ?_
  | with_reducible refine range_2 ?_)
local macro_rules | `(tactic| walk_at "we") => `(tactic| first
  | with_reducible refine we_int ?_
  | with_reducible refine we_str ?_
  | ((with_reducible refine (?_ : WE _ _ _ _ _ _ _ _ (Expr.Name _ _) _)); first | refine we_loc (by rfl) (by rfl) ?_ | refine we_cell (by rfl) (by rfl) ?_ | walk_at "nm")
  | with_reducible refine wd_bin ?_
  | with_reducible refine wd_un ?_
  | ((with_reducible refine (?_ : WE _ _ _ _ _ _ _ _ (Expr.Compare _ _ _ _) _)); refine wd_cmp ?_)
  | ((with_reducible refine (?_ : WE _ _ _ _ _ _ _ _ (Expr.List _ _) _)); refine wd_list ?_)
  | ((with_reducible refine (?_ : WE _ _ _ _ _ _ _ _ (Expr.Tuple _ _ _) _)); refine wd_tup ?_)
  | ((with_reducible refine (?_ : WE _ _ _ _ _ _ _ _ (Expr.Subscript _ _ _) _)); refine wd_sub ?_)
  | ((with_reducible refine (?_ : WE _ _ _ _ _ _ _ _ (Expr.Call (Expr.Attribute _ _ _) _ _ _) _)); refine wd_meth (pl := fun _ => _) ?_)
  | ((with_reducible refine (?_ : WE _ _ _ _ _ _ _ _ (Expr.Call _ _ _ _) _)); refine wd_call ?_))
local macro_rules | `(tactic| walk_at "ws") => `(tactic| first
  | with_reducible refine wd_seq ?_
  | with_reducible refine wb_nil ?_
  | with_reducible refine wds_if ?_
  | with_reducible refine wd_ret ?_
  | ((with_reducible refine (?_ : WS _ _ _ _ _ _ _ _ (Stmt.Expr _ _) _)); refine wd_expr ?_)
  | ((with_reducible refine (?_ : WA _ _ _ _ _ _ _ _ (Expr.Name _ _) _ _)); first | refine wa_name (.inl (by rfl)) ?_ | refine wa_name (.inr ⟨by rfl, by rfl⟩) ?_)
  | with_reducible refine wda_attr ?_
  | ((with_reducible refine (?_ : WA _ _ _ _ _ _ _ _ (Expr.Tuple _ _ _) _ _)); refine wda_tup ?_)
  | ((with_reducible refine (?_ : WS _ _ _ _ _ _ _ _ (Stmt.Assign [_] _ _) _)); refine wd_assign ?_))
local macro_rules | `(tactic| walk_at "wt") => `(tactic| first
  | ((with_reducible refine (?_ : WT _ _ _ _ _ _ _ _ (Expr.Compare _ _ _ _) _)); refine wdt_cmp ?_)
  | with_reducible refine wdt_and ?_
  | with_reducible refine wt_and1 ?_
  | with_reducible refine wdt_or ?_
  | with_reducible refine wt_or1 ?_)
local macro_rules | `(tactic| walk_at "w") => `(tactic| first
  | walk_at "we"
  | walk_at "ws"
  | walk_at "wt"
  | walk_at "op"
  | with_reducible refine wds_cons ?_
  | with_reducible refine wes_nil ?_
  | ((with_reducible refine (?_ : Callee _ _ ∧ _)); refine ⟨by first | exact trivial | (show keepIn _ _ = true; kernel_rfl), ?_⟩))
section
/-- the top's objects but the table that grows -/
noncomputable def KK (P : Params) : Frag := (K P).filter fun x => x.1 != 248
end
section
set_option pp.maxSteps 2500
theorem cls_differ (w : World) : ClsOk (KK w.params) 313 312 where
  cl := ⟨"Differ", "Differ", [.type "object"], [], [], none, none, none, none, some (.str "Differ" 602), some (.str "Differ" 610), some (.bool true), by kernel_rfl⟩
  ns := by kernel_rfl
  ga := by kernel_rfl
  gh := by kernel_rfl
  sa := by kernel_rfl
noncomputable def dFs : List (Str × V) := [("charjunk", .none), ("linejunk", .none)]
theorem fn_init (w : World) : FnB (KK w.params) 268 (o268 w.params) (fdOf (o268 w.params)) (fBody (stIn 7 1)) (fScope (stIn 7 1)) ["self", "linejunk", "charjunk"] where
  hsc := by rfl
  hK := by kernel_rfl
  hd := by rfl
  hb := by rfl
  hg := by rfl
  hbl := by rfl
  hcl := by rfl
  hcd := ⟨267, o267 w.params, _, _, by rfl, by kernel_rfl, by rfl, by rfl⟩
  hps := by decide
  hnd := by decide
  hkd := by decide
  hco := by rfl
  hk := by rfl
  hnf := by decide
theorem tl_linejunk : typeLookup (.type "object") "linejunk" = pure none := by rw [typeLookup_type, builtinLookup_eq_fast]; kernel_rfl
theorem tl_charjunk : typeLookup (.type "object") "charjunk" = pure none := by rw [typeLookup_type, builtinLookup_eq_fast]; kernel_rfl
theorem tl_dump : typeLookup (.type "object") "_dump" = pure none := by rw [typeLookup_type, builtinLookup_eq_fast]; kernel_rfl
theorem defs_init (w : World) (s : Shared) (us : List Value) (B : Bs w (KK w.params) s.heap) (hu : us.length = 1) : BindsTo s (fdOf (o268 w.params)) ⟨us, []⟩ ((["self", "linejunk", "charjunk"] : List Str).zip (us ++ [.none, .none])) := by
  match us, hu with
  | [u], _ => exact BindsTo.of_defaults (T := 261) (o := o261 w.params) (n := 0) (items := #[.none, .none]) (by rfl) (B.k _ _ (by kernel_rfl)) (by rfl) (by rfl) (by rfl)
theorem fn_dump (w : World) : FnOk (KK w.params) 282 (o282 w.params) (fdOf (o282 w.params)) (fBody (stIn 7 3)) (fScope (stIn 7 3)) ["self", "tag", "x", "lo", "hi"] where
  hsc := by rfl
  hK := by kernel_rfl
  hd := by rfl
  hb := by rfl
  hg := by rfl
  hbl := by rfl
  hcl := by rfl
  hcd := ⟨281, o281 w.params, _, _, by rfl, by kernel_rfl, by rfl, by rfl⟩
  hbd := fun us hu => by obtain ⟨a0, a1, a2, a3, a4, rfl⟩ := args5 hu; rfl
  hps := by decide
  hnd := by decide
  hkd := by decide
  hco := by rfl
  hk := by rfl
  hnf := by decide
theorem fn_plain (w : World) : FnOk (KK w.params) 289 (o289 w.params) (fdOf (o289 w.params)) (fBody (stIn 7 4)) (fScope (stIn 7 4)) ["self", "a", "alo", "ahi", "b", "blo", "bhi"] where
  hsc := by rfl
  hK := by kernel_rfl
  hd := by rfl
  hb := by rfl
  hg := by rfl
  hbl := by rfl
  hcl := by rfl
  hcd := ⟨288, o288 w.params, _, _, by rfl, by kernel_rfl, by rfl, by rfl⟩
  hbd := fun us hu => by obtain ⟨a0, a1, a2, a3, a4, a5, a6, rfl⟩ := args7 hu; rfl
  hps := by decide
  hnd := by decide
  hkd := by decide
  hco := by rfl
  hk := by rfl
  hnf := by decide
theorem fn_told (w : World) : FnOk (KK w.params) 324 (o324 w.params) (fdOf (o324 w.params)) (fBody (stAt 9)) (fScope (stAt 9)) ["reader"] where
  hsc := by rfl
  hK := by kernel_rfl
  hd := by rfl
  hb := by rfl
  hg := by rfl
  hbl := by rfl
  hcl := by rfl
  hcd := ⟨323, o323 w.params, _, _, by rfl, by kernel_rfl, by rfl, by rfl⟩
  hbd := fun us hu => by obtain ⟨a0, rfl⟩ := args1 hu; rfl
  hps := by decide
  hnd := by decide
  hkd := by decide
  hco := by rfl
  hk := by rfl
  hnf := by decide
theorem fn_due (w : World) : FnOk (KK w.params) 329 (o329 w.params) (fdOf (o329 w.params)) (fBody (stAt 10)) (fScope (stAt 10)) ["lists", "alo", "ahi", "blo", "bhi"] where
  hsc := by rfl
  hK := by kernel_rfl
  hd := by rfl
  hb := by rfl
  hg := by rfl
  hbl := by rfl
  hcl := by rfl
  hcd := ⟨328, o328 w.params, _, _, by rfl, by kernel_rfl, by rfl, by rfl⟩
  hbd := fun us hu => by obtain ⟨a0, a1, a2, a3, a4, rfl⟩ := args5 hu; rfl
  hps := by decide
  hnd := by decide
  hkd := by decide
  hco := by rfl
  hk := by rfl
  hnf := by decide
theorem fn_law (w : World) : FnOk (KK w.params) 336 (o336 w.params) (fdOf (o336 w.params)) (fBody (stAt 11)) (fScope (stAt 11)) ["script"] where
  hsc := by rfl
  hK := by kernel_rfl
  hd := by rfl
  hb := by rfl
  hg := by rfl
  hbl := by rfl
  hcl := by rfl
  hcd := ⟨335, o335 w.params, _, _, by rfl, by kernel_rfl, by rfl, by rfl⟩
  hbd := fun us hu => by obtain ⟨a0, rfl⟩ := args1 hu; rfl
  hps := by decide
  hnd := by decide
  hkd := by decide
  hco := by rfl
  hk := by rfl
  hnf := by decide
theorem meth_dump {w : World} {H : List O} {i : Nat} (hl : H[i]? = some (.inst 313 dFs)) : MethIs pP w (KK w.params) H (.ref i) "_dump" (.st 282) :=
  meth_inst (of := o282 w.params) (cls_differ w) (by kernel_rfl) (by kernel_rfl) (by rfl) tl_dump hl (by rfl)
theorem tl_plain : typeLookup (.type "object") "_plain_replace" = pure none := by rw [typeLookup_type, builtinLookup_eq_fast]; kernel_rfl
theorem meth_plain {w : World} {H : List O} {i : Nat} (hl : H[i]? = some (.inst 313 dFs)) : MethIs pP w (KK w.params) H (.ref i) "_plain_replace" (.st 289) :=
  meth_inst (of := o289 w.params) (cls_differ w) (by kernel_rfl) (by kernel_rfl) (by rfl) tl_plain hl (by rfl)
theorem c_dump (w : World) : Callee (KK w.params) (.st 282) := by show keepIn _ _ = true; kernel_rfl
theorem c_plain (w : World) : Callee (KK w.params) (.st 289) := by show keepIn _ _ = true; kernel_rfl
theorem c_differ (w : World) : Callee (KK w.params) (.st 313) := by show keepIn _ _ = true; kernel_rfl
theorem c_due (w : World) : Callee (KK w.params) (.st 329) := by show keepIn _ _ = true; kernel_rfl
theorem g_range (w : World) : nsIn (KK w.params) mainGlobals "range" = some none := by kernel_rfl
theorem b_range : bootBuiltins "range" = some (.type "range") := by kernel_rfl
theorem g_str (w : World) : nsIn (KK w.params) mainGlobals "str" = some none := by kernel_rfl
theorem b_str : bootBuiltins "str" = some (.type "str") := by kernel_rfl
theorem g_index (w : World) : nsIn (KK w.params) mainGlobals "IndexError" = some none := by kernel_rfl
theorem b_index : bootBuiltins "IndexError" = some (.type "IndexError") := by kernel_rfl
theorem g_assertion (w : World) : nsIn (KK w.params) mainGlobals "AssertionError" = some none := by kernel_rfl
theorem b_assertion : bootBuiltins "AssertionError" = some (.type "AssertionError") := by kernel_rfl
theorem g_list (w : World) : nsIn (KK w.params) mainGlobals "list" = some none := by kernel_rfl
theorem b_list : bootBuiltins "list" = some (.type "list") := by kernel_rfl
theorem g_len (w : World) : nsIn (KK w.params) mainGlobals "len" = some none := by kernel_rfl
theorem b_len : bootBuiltins "len" = some (.builtin "len") := by kernel_rfl
theorem g_sorted (w : World) : nsIn (KK w.params) mainGlobals "sorted" = some none := by kernel_rfl
theorem b_sorted : bootBuiltins "sorted" = some (.builtin "sorted") := by kernel_rfl
theorem g_differ (w : World) : nsIn (KK w.params) mainGlobals "Differ" = some (some (.ref 313)) := by kernel_rfl
theorem g_told (w : World) : nsIn (KK w.params) mainGlobals "_law_told" = some (some (.ref 324)) := by kernel_rfl
theorem g_due (w : World) : nsIn (KK w.params) mainGlobals "_law_due" = some (some (.ref 329)) := by kernel_rfl


local macro_rules | `(tactic| walk_at "nm") => `(tactic| first | refine we_biT (by rfl) (g_range _) b_range ?_ | refine we_biF (by rfl) (g_len _) b_len ?_)
theorem init_ok {w : World} {E : HEP} {H : List O} {d i : Nat} {Q : V → List O → Prop} (hl : H[i]? = some (.inst 313 [])) (h : Q .none (H.set i (.inst 313 dFs))) : CallW pP w (KK w.params) (d + 1) E H (.st 268) [.ref i] Q := by
  refine call_fnD (ds := [.none, .none]) (dv := [.none, .none]) (fn_init w) (by rfl) (by rfl) (fun ρ h => .cons (by unfold VR; rfl) (.cons (by unfold VR; rfl) .nil)) (fun s us B hu => defs_init w s us B hu) ?_
  have e : initN (fScope (stIn 7 1)) ["self", "linejunk", "charjunk"] ([.ref i] ++ [.none, .none]) = [nv "self" (.ref i), nv "linejunk" .none, nv "charjunk" .none] := by rfl
  rw [e]
  refine wd_seq ?_
  repeat (walk_at "w")
  refine set_inst (cls_differ w) (by kernel_rfl) tl_linejunk hl (by decide) ?_
  repeat (walk_at "w")
  have hi : i < H.length := (List.getElem?_eq_some_iff.mp hl).1
  refine set_inst (cls_differ w) (by kernel_rfl) tl_charjunk (List.getElem?_set_self hi) (by decide) ?_
  repeat (walk_at "w")
  rw [List.set_set]
  exact h
theorem differ_ok {w : World} {E : HEP} {H : List O} {d : Nat} {Q : V → List O → Prop} (h : Q (.ref H.length) (H ++ [.inst 313 dFs])) : CallW pP w (KK w.params) (d + 2) E H (.st 313) [] Q := by
  refine new_inst (oI := o268 w.params) (cls_differ w) (by kernel_rfl : nsIn (KK w.params) 312 "__init__" = some (some (.ref 268))) (by kernel_rfl) (by rfl) ?_
  refine init_ok (List.getElem?_concat_length ..) ⟨rfl, ?_⟩
  rw [List.set_append_right _ _ (Nat.le_refl _), Nat.sub_self]
  exact h
end
section
set_option pp.maxSteps 2500


local macro_rules | `(tactic| walk_at "nm") => `(tactic| first | refine we_biT (by rfl) (g_range _) b_range ?_ | refine we_biF (by rfl) (g_len _) b_len ?_)
noncomputable def lstR (R : List Str) : O := .list (R.map V.str)
noncomputable abbrev dFi (w : World) : FI := ⟨fScope (stIn 7 3), true, (fdOf (o282 w.params)).code⟩
noncomputable abbrev dNm (sf l : Nat) (tag : Str) (lo hi : Int) (iv : Option V) : Names := [nv "self" (.ref sf), nv "tag" (.str tag), nv "x" (.ref l), nv "lo" (.int lo), nv "hi" (.int hi), ("i", iv)]
/-- the row at a place, counted from behind below nought -/
noncomputable def pyAt (R : List Str) (p : Int) : Option Str := if 0 ≤ p then R[p.toNat]? else if -(R.length : Int) ≤ p then R[(p + R.length).toNat]? else none
theorem cat0 (x : Str) : Str.empty ++ x = x := by
  obtain ⟨c⟩ := x
  show Str.mk (#[] ++ c) = _
  rw [Array.empty_append]
theorem exc_index : ExcOk "IndexError" := ⟨by rw [isSubtype_type]; kernel_rfl, by decide, by rfl⟩
noncomputable def nrit : O → Prop
  | .rit _ _ _ => False
  | _ => True
/-- nothing but the object at p sleeps in «yield from» -/
noncomputable def NYp (p : Nat) (H : List O) : Prop := ∀ (k : Nat) (x : O), k ≠ p → H[k]? = some x → isY x = false
theorem NYp.set {p j : Nat} {H : List O} {o : O} (h : NYp p H) (ho : isY o = false) : NYp p (H.set j o) := fun k x hk hx => by
  rw [List.getElem?_set] at hx
  split at hx
  · split at hx
    · cases hx; exact ho
    · cases hx
  · exact h k x hk hx
theorem NYp.own {p : Nat} {H : List O} {o : O} (h : NYp p H) : NYp p (H.set p o) := fun k x hk hx => by
  rw [List.getElem?_set_ne (Ne.symm hk)] at hx
  exact h k x hk hx
theorem NYp.app {p : Nat} {H L : List O} (h : NYp p H) (hL : ∀ o ∈ L, isY o = false) : NYp p (H ++ L) := fun k x hk hx => by
  by_cases c : k < H.length
  · rw [List.getElem?_append_left c] at hx
    exact h k x hk hx
  · rw [List.getElem?_append_right (Nat.le_of_not_lt c)] at hx
    exact hL x (List.mem_of_getElem? hx)
theorem NYp.one {p : Nat} {H : List O} {o : O} (h : NYp p H) (ho : isY o = false) : NYp p (H ++ [o]) := h.app fun x hx => by rw [List.mem_singleton.mp hx]; exact ho
/-- what else stands, stands -/
noncomputable def Mv (i : Nat) (H H' : List O) : Prop := (∀ (k : Nat) (x : O), k ≠ i → H[k]? = some x → nrit x → H'[k]? = some x) ∧ ∀ p, NYp p H → NYp p H'
noncomputable def forT : Stmt → Expr
  | .For t _ _ _ _ => t
  | _ => .Name "" default
noncomputable def forB : Stmt → List Stmt
  | .For _ _ b _ _ => b
  | _ => []
noncomputable def dFor : Stmt := (fBody (stIn 7 3)).getD 1 (.Pass default)
/-- where a dump sleeps: at the head of its loop -/
noncomputable abbrev dK (I : Nat) : Kt := .loop (forT dFor) I (forB dFor) [] (.top (fBody (stIn 7 3)))
/-- a dump asleep -/
noncomputable def DO (w : World) (sf l : Nat) (tag : Str) (lo : Int) (n : Nat) (y : Int) (H : List O) (o : O) : Prop :=
  ∃ (a : Nat) (lo₀ hi : Int) (iv : Option V) (I j : Nat), H[j]? = some (.rit I lo n) ∧ o = .slp a (dFi w) (dNm sf l tag lo₀ hi iv) [] (dK I) none y
/-- a dump's state: places lo .. lo + n - 1 still to be told -/
noncomputable def DS (w : World) (sf l : Nat) (tag : Str) (lo : Int) (n : Nat) (H : List O) (i : Nat) : Prop :=
  (∃ hi, n = (hi - lo).toNat ∧ -1000 ≤ hi ∧ hi ≤ 1000 ∧ H[i]? = some (.fresh (dFi w) (fBody (stIn 7 3)) (dNm sf l tag lo hi none))) ∨ ∃ o, H[i]? = some o ∧ DO w sf l tag lo n 0 H o
noncomputable def sp : Str := ⟨#[32]⟩
section
variable {w : World} {H : List O} {d i j I sf l n : Nat} {lo lo₀ hi : Int} {tag : Str} {R : List Str} {iv : Option V}
theorem get_py {E : HEP} {y : Str} {Q : V → List O → Prop} (hl : H[l]? = some (lstR R)) (hR : R.length ≤ 1000) (hlo : -1000 ≤ lo ∧ lo ≤ 1000) (c : pyAt R lo = some y) (h : Q (.str y) H) : W2 pP w (KK w.params) d E VR H subOp (.ref l) (.int lo) Q := by
  by_cases c0 : 0 ≤ lo
  · exact get_li (xs := R.map V.str) (.inl hl) c0 (by omega) (x := .str y) (by unfold pyAt at c; rw [if_pos c0] at c; rw [List.getElem?_map, c]; rfl) h
  · unfold pyAt at c
    rw [if_neg c0] at c
    split at c
    · rename_i c1
      obtain ⟨t, rfl⟩ : ∃ t : Nat, lo = -(t : Nat) := ⟨(-lo).toNat, by omega⟩
      rw [show (-(t : Int) + R.length).toNat = R.length - t by omega] at c
      exact get_ln (xs := R.map V.str) (k := t) (x := .str y) (.inl hl) (by omega) (by rw [List.length_map]; omega) (by rw [List.length_map]; exact Nat.le_trans hR (by decide)) (by rw [List.length_map, List.getElem?_map, c]; rfl) h
    · cases c
theorem dump_head {Q : GAns → Names → List O → Prop} (hx : H[l]? = some (lstR R)) (hj : H[j]? = some (.rit I lo n)) (hR : R.length ≤ 1000) (hr : ∀ x ∈ R, x.length ≤ 1000) (ht : tag.length ≤ 1000) (hlo : -1000 ≤ lo ∧ lo ≤ 1000)
    (q0 : n = 0 → Q .ret (dNm sf l tag lo₀ hi iv) H)
    (qt : ∀ k' x, n = k' + 1 → pyAt R lo = some x → Q (.yld (tag ++ sp ++ x) [] (dK I) none) (dNm sf l tag lo₀ hi (some (.int lo))) (H.set j (.rit I (lo + 1) k')))
    (qe : ∀ k', n = k' + 1 → pyAt R lo = none → Q (.exc "IndexError" (some (Str.ofString "list index out of range"))) (dNm sf l tag lo₀ hi (some (.int lo))) (H.set j (.rit I (lo + 1) k'))) :
    GW pP w (KK w.params) (dFi w) d (dK I) (dNm sf l tag lo₀ hi iv) H [] Q := by
  have hlj : j ≠ l := fun q => by subst q; rw [hx] at hj; cases hj
  refine gw_loop (next_rit hj (fun h => gw_top (q0 h)) fun k' hn => ?_)
  dsimp only
  refine wa_name (.inl (by rfl)) ?_
  have hx' : (H.set j (.rit I (lo + 1) k'))[l]? = some (lstR R) := by rw [List.getElem?_set_ne hlj]; exact hx
  have em : setL (dNm sf l tag lo₀ hi iv) "i" (.int lo) = dNm sf l tag lo₀ hi (some (.int lo)) := by rfl
  rw [em]
  have z1 : tag.length ≤ sizeLine := Nat.le_trans ht (by decide)
  have l1 : (Str.ofString " ").length = 1 := by rfl
  have z2 : (Str.empty ++ tag).length ≤ sizeLine := by rw [cat0]; exact z1
  have z3 : (Str.empty ++ tag ++ (Str.ofString " ")).length ≤ sizeLine := by
    rw [cat0, strLen_append, l1]
    exact Nat.le_trans (Nat.add_le_add_right ht 1) (by decide)
  cases c : pyAt R lo with
  | some y =>
    have hry : y.length ≤ 1000 := by
      unfold pyAt at c
      split at c
      · exact hr _ (List.mem_of_getElem? c)
      · split at c
        · exact hr _ (List.mem_of_getElem? c)
        · cases c
    have z4 : (Str.empty ++ tag ++ (Str.ofString " ") ++ y).length ≤ sizeLine := by
      rw [cat0, strLen_append, strLen_append, l1]
      exact Nat.le_trans (Nat.add_le_add (Nat.add_le_add_right ht 1) hry) (by decide)
    refine gw_yield (by rfl) ?_
    refine we_joined (wj_cons (we_fvals ?_))
    repeat (walk_at "w")
    refine ⟨_, rfl, z1, _, rfl, z2, wj_cons ?_⟩
    repeat (walk_at "w")
    refine ⟨_, rfl, z3, wj_cons (we_fvals ?_)⟩
    repeat (walk_at "w")
    refine get_py hx' hR hlo c ?_
    refine ⟨_, rfl, Nat.le_trans hry (by decide), _, rfl, z4, wj_nil z4 ⟨_, rfl, ?_⟩⟩
    rw [cat0]; exact qt k' y hn c
  | none =>
    refine gw_yieldx (msg := some (Str.ofString "list index out of range")) exc_index ?_
    refine wx_joined (wjx_loc (by rfl) (by rfl) (by rfl) z1 z2 (wjx_str z3 (.inl (wx_fvals (wx_none (xs := R.map V.str) (by rfl) (by rfl) (by rfl) (by rfl) (by rfl) (by rfl) hx' ?_ (by omega) (by omega) (qe k' hn c))))))
    rw [List.length_map]
    unfold pyAt at c
    split at c
    · right
      have := List.getElem?_eq_none_iff.mp c
      omega
    · split at c
      · have := List.getElem?_eq_none_iff.mp c
        omega
      · left; omega
/-- a dump asked -/
theorem dump_ask {Qa : Ans → List O → Prop} (hs : DS w sf l tag lo n H i) (hx : H[l]? = some (lstR R)) (hR : R.length ≤ 1000) (hr : ∀ x ∈ R, x.length ≤ 1000) (ht : tag.length ≤ 1000) (hlo : -1000 ≤ lo ∧ lo ≤ 1000)
    (q0 : n = 0 → ∀ H', Mv i H H' → H'[i]? = some .done → Qa .nothing H')
    (qt : ∀ k' x, n = k' + 1 → pyAt R lo = some x → ∀ H' o, Mv i H H' → H'[i]? = some o → DO w sf l tag (lo + 1) k' 0 H' o → Qa (.txt (tag ++ sp ++ x)) H')
    (qe : ∀ k', n = k' + 1 → pyAt R lo = none → ∀ H', Mv i H H' → H'[i]? = some .done → Qa (.err "IndexError" (some (Str.ofString "list index out of range"))) H') : AskS pP w (KK w.params) (d + 1) H i Qa := by
  rcases hs with ⟨hi, hn, h1, h2, hf⟩ | ⟨o, ho, a, lo₀, hi, iv, I, j, hj, rfl⟩
  · have hlt : i < H.length := (List.getElem?_eq_some_iff.mp hf).1
    have hil : i ≠ l := fun q => by subst q; rw [hx] at hf; cases hf
    refine asks_fresh hf fun a => ?_
    refine gw_cons ?_
    repeat (walk_at "w")
    refine gw_for ?_
    repeat (walk_at "w")
    refine iter_rng (by omega) (by omega) fun I => ?_
    have hlen : (H.set i .gone).length = H.length := List.length_set
    have hj : (H.set i .gone ++ [O.rit I lo (hi - lo).toNat])[H.length]? = some (.rit I lo n) := by rw [List.getElem?_append_right (by rw [hlen]; exact Nat.le_refl _), hlen, Nat.sub_self, hn]; rfl
    have gi : ∀ (o : O) (x : O), (((H.set i .gone ++ [O.rit I lo (hi - lo).toNat]).set H.length x).set i o)[i]? = some o := fun o x => List.getElem?_set_self (by rw [List.length_set, List.length_append, hlen]; exact Nat.lt_add_right _ hlt)
    have mv : ∀ (o x : O), isY o = false → isY x = false → Mv i H (((H.set i .gone ++ [O.rit I lo (hi - lo).toNat]).set H.length x).set i o) := fun o x yo yx => ⟨fun k y hk hy _ => by
      have hk' : k < H.length := (List.getElem?_eq_some_iff.mp hy).1
      rw [List.getElem?_set_ne (Ne.symm hk), List.getElem?_set_ne (Nat.ne_of_gt hk'), List.getElem?_append_left (by rw [hlen]; exact hk'), List.getElem?_set_ne (Ne.symm hk)]
      exact hy, fun p hp => (((hp.set rfl).one rfl).set yx).set yo⟩
    have self : ∀ x, (H.set i .gone ++ [O.rit I lo (hi - lo).toNat])[H.length]? = some x → (H.set i .gone ++ [O.rit I lo (hi - lo).toNat]).set H.length x = H.set i .gone ++ [O.rit I lo (hi - lo).toNat] := fun x hx => by
      refine List.ext_getElem? fun k => ?_
      rw [List.getElem?_set]
      split
      · rename_i q; subst q; rw [if_pos (List.getElem?_eq_some_iff.mp hx).1, hx]
      · rfl
    refine dump_head (j := H.length) (R := R) (n := n) ?_ hj hR hr ht hlo (fun h => ?_) (fun k' x hk hx => ?_) fun k' hk hx => ?_
    · rw [List.getElem?_append_left (by rw [hlen]; exact (List.getElem?_eq_some_iff.mp hx).1), List.getElem?_set_ne hil]; exact hx
    · have g1 := gi .done (.rit I lo n)
      rw [self _ hj] at g1
      have m1 := mv .done (.rit I lo n) rfl rfl
      rw [self _ hj] at m1
      exact q0 h _ m1 g1
    · refine qt k' x hk hx _ _ (mv _ _ rfl rfl) (gi _ _) ⟨_, _, _, _, I, H.length, ?_, rfl⟩
      rw [List.getElem?_set_ne (Nat.ne_of_lt hlt), List.getElem?_set_self (by rw [List.length_append, hlen]; exact Nat.lt_succ_self _)]
    · exact qe k' hk hx _ (mv _ _ rfl rfl) (gi _ _)
  · have hlt : i < H.length := (List.getElem?_eq_some_iff.mp ho).1
    have hij : i ≠ j := fun q => by subst q; rw [ho] at hj; cases hj
    have hil : i ≠ l := fun q => by subst q; rw [hx] at ho; cases ho
    have hjl : j < H.length := (List.getElem?_eq_some_iff.mp hj).1
    have hj' : (H.set i .gone)[j]? = some (.rit I lo n) := by rw [List.getElem?_set_ne hij]; exact hj
    refine asks_slp ho ?_
    have mv : ∀ (o x : O), isY o = false → isY x = false → Mv i H (((H.set i .gone).set j x).set i o) := fun o x yo yx => ⟨fun k y hk hy ny => by
      have hkj : j ≠ k := fun q => by subst q; rw [hj] at hy; cases hy; exact ny
      rw [List.getElem?_set_ne (Ne.symm hk), List.getElem?_set_ne hkj, List.getElem?_set_ne (Ne.symm hk)]; exact hy, fun p hp => ((hp.set rfl).set yx).set yo⟩
    have gi : ∀ (o x : O), (((H.set i .gone).set j x).set i o)[i]? = some o := fun o x => List.getElem?_set_self (by rw [List.length_set, List.length_set]; exact hlt)
    refine dump_head (j := j) (R := R) (n := n) (by rw [List.getElem?_set_ne hil]; exact hx) hj' hR hr ht hlo (fun h => ?_) (fun k' x hk hx => ?_) fun k' hk hx => ?_
    · exact q0 h _ ⟨fun k y hk hy ny => by rw [List.getElem?_set_ne (Ne.symm hk), List.getElem?_set_ne (Ne.symm hk)]; exact hy, fun p hp => (hp.set rfl).set rfl⟩ (List.getElem?_set_self (by rw [List.length_set]; exact hlt))
    · refine qt k' x hk hx _ _ (mv _ _ rfl rfl) (gi _ _) ⟨_, _, _, _, I, j, ?_, rfl⟩
      rw [List.getElem?_set_ne hij, List.getElem?_set_self (by rw [List.length_set]; exact hjl)]
    · exact qe k' hk hx _ (mv _ _ rfl rfl) (gi _ _)
end
end
section
set_option pp.maxSteps 2500


local macro_rules | `(tactic| walk_at "nm") => `(tactic| first | refine we_biT (by rfl) (g_range _) b_range ?_ | refine we_biF (by rfl) (g_len _) b_len ?_)
noncomputable abbrev pFi (w : World) : FI := ⟨fScope (stIn 7 4), true, (fdOf (o289 w.params)).code⟩
noncomputable abbrev pNm (sf la : Nat) (alo ahi : Int) (lb : Nat) (blo bhi : Int) (f s g : Option V) : Names := [nv "self" (.ref sf), nv "a" (.ref la), nv "alo" (.int alo), nv "ahi" (.int ahi), nv "b" (.ref lb), nv "blo" (.int blo), nv "bhi" (.int bhi), ("first", f), ("second", s), ("g", g)]
theorem exc_assert : ExcOk "AssertionError" := ⟨by rw [isSubtype_type]; kernel_rfl, by decide, by rfl⟩
noncomputable def tagS (sd : Bool) : Str := if sd = true then "+" else "-"
noncomputable def rowOf (A B : List Str) (x : Bool × Int) : Option Str := (pyAt (if x.1 = true then B else A) x.2).map fun y => tagS x.1 ++ sp ++ y
/-- what stands below n₀ stands, but i -/
noncomputable def Agr (i n₀ : Nat) (H H' : List O) : Prop := (∀ (k : Nat) (x : O), k ≠ i → k < n₀ → H[k]? = some x → nrit x → H'[k]? = some x) ∧ (NYp i H → NYp i H')
theorem Agr.refl {i n₀ : Nat} {H : List O} : Agr i n₀ H H := ⟨fun _ _ _ _ h _ => h, id⟩
theorem Agr.trans {i n₀ : Nat} {H H' H'' : List O} (a : Agr i n₀ H H') (b : Agr i n₀ H' H'') : Agr i n₀ H H'' := ⟨fun k x hi hk hx nx => b.1 k x hi hk (a.1 k x hi hk hx nx) nx, fun h => b.2 (a.2 h)⟩
theorem Agr.set {i n₀ j : Nat} {H : List O} {o : O} (h : n₀ ≤ j) (ho : isY o = false := by rfl) : Agr i n₀ H (H.set j o) := ⟨fun k x _ hk hx _ => by rw [List.getElem?_set_ne (by omega)]; exact hx, fun h => h.set ho⟩
theorem Agr.own {i n₀ : Nat} {H : List O} {o : O} : Agr i n₀ H (H.set i o) := ⟨fun k x hi _ hx _ => by rw [List.getElem?_set_ne (Ne.symm hi)]; exact hx, fun h => h.own⟩
theorem Agr.app {i n₀ : Nat} {H : List O} {o : O} (ho : isY o = false := by rfl) : Agr i n₀ H (H ++ [o]) := ⟨fun k x _ hk hx _ => by rw [List.getElem?_append_left (List.getElem?_eq_some_iff.mp hx).1]; exact hx, fun h => h.one ho⟩
theorem Mv.agr {i n₀ j : Nat} {H H' : List O} (h : Mv j H H') (hj : n₀ ≤ j) : Agr i n₀ H H' := ⟨fun k x _ hk hx nx => h.1 k x (by omega) hx nx, h.2 i⟩
noncomputable def pFor : Stmt := (fBody (stIn 7 4)).getD 2 (.Pass default)
/-- where _plain_replace sleeps: in its loop -/
noncomputable abbrev pK (I : Nat) : Kt := .loop (forT pFor) I (forB pFor) [] (.top (fBody (stIn 7 4)))
/-- a generator of the pair's: its index, its side, its places -/
structure PG where
  ix : Nat
  sd : Bool
  lo : Int
  n : Nat
noncomputable def PG.pl (x : PG) : List (Bool × Int) := (List.range x.n).map fun t => (x.sd, x.lo + (t : Nat))
theorem pl_succ {i : Nat} {sd : Bool} {lo : Int} {n : Nat} : PG.pl ⟨i, sd, lo, n + 1⟩ = (sd, lo) :: PG.pl ⟨i, sd, lo + 1, n⟩ := by
  unfold PG.pl
  rw [List.range_succ_eq_map, List.map_cons, List.map_map]
  refine congr (congrArg _ (by simp)) (List.map_congr_left fun t _ => ?_)
  show (sd, lo + ((t + 1 : Nat) : Int)) = (sd, lo + 1 + (t : Int))
  congr 1; omega
noncomputable def pls (G : List PG) : List (Bool × Int) := G.flatMap PG.pl
section
variable (w : World) (sf la lb n₀ : Nat) (alo ahi blo bhi : Int) (f s : Option V)
noncomputable def lOf (x : PG) : Nat := if x.sd = true then lb else la
/-- the generator x's state -/
noncomputable def PGS (x : PG) (H : List O) : Prop := DS w sf (lOf la lb x) (tagS x.sd) x.lo x.n H x.ix ∧ n₀ ≤ x.ix ∧ -1000 ≤ x.lo ∧ x.lo + x.n ≤ 1000
/-- what the pair's loop has still to do -/
structure PLp (jt I : Nat) (G : List PG) (H : List O) : Prop where
  tj : ∃ xs c, H[jt]? = some (.tit I xs c) ∧ xs.drop c = G.map fun x => V.ref x.ix
  jn : n₀ ≤ jt
  fr : ∀ x ∈ G, PGS w sf la lb n₀ x H ∧ ∃ fi body m, H[x.ix]? = some (.fresh fi body m)
  nd : (G.map (·.ix)).Nodup
/-- _plain_replace asleep at i, rows at the places L to come -/
noncomputable def PSt (i : Nat) (L : List (Bool × Int)) (H : List O) : Prop :=
  ∃ (a I jt b : Nat) (gv : Option V) (x : PG) (G : List PG) (o : O), H[i]? = some (.slp a (pFi w) (pNm sf la alo ahi lb blo bhi f s gv) [] (pK I) (some b) 0) ∧
    PLp w sf la lb n₀ jt I G H ∧ L = x.pl ++ pls G ∧ i ≠ x.ix ∧ n₀ ≤ x.ix ∧ -1000 ≤ x.lo ∧ x.lo + x.n ≤ 1000 ∧ (x.ix ∉ G.map (·.ix)) ∧ H[x.ix]? = some o ∧ DO w sf (lOf la lb x) (tagS x.sd) x.lo x.n 1 H o ∧ ∃ fi m r k y, o = .slp b fi m r k y 1
/-- what telling the places L does -/
noncomputable def Good (A B : List Str) (i : Nat) (H₀ : List O) (Q : Ans → List O → Prop) : List (Bool × Int) → Prop
  | [] => ∀ H', Agr i n₀ H₀ H' → H'[i]? = some .done → Q .nothing H'
  | x :: L => match rowOf A B x with
    | none => ∀ H', Agr i n₀ H₀ H' → H'[i]? = some .done → Q (.err "IndexError" (some (Str.ofString "list index out of range"))) H'
    | some y => ∀ H', Agr i n₀ H₀ H' → PSt w sf la lb n₀ alo ahi blo bhi f s i L H' → Q (.txt y) H'
end
section
variable {w : World} {sf la lb n₀ : Nat} {alo ahi blo bhi : Int} {f s gv : Option V} {H H₀ : List O} {i jt I a d : Nat} {A B : List Str} {Q : Ans → List O → Prop} {G : List PG}
theorem tagS_len {sd : Bool} : (tagS sd).length ≤ 1000 := by cases sd <;> decide
structure Lsts (A B : List Str) (la lb i n₀ : Nat) (H : List O) : Prop where
  a : H[la]? = some (lstR A)
  b : H[lb]? = some (lstR B)
  na : la ≠ i ∧ la < n₀
  nb : lb ≠ i ∧ lb < n₀
  A : A.length ≤ 1000 ∧ ∀ x ∈ A, x.length ≤ 1000
  B : B.length ≤ 1000 ∧ ∀ x ∈ B, x.length ≤ 1000
theorem Lsts.agr {H' : List O} (l : Lsts A B la lb i n₀ H) (h : Agr i n₀ H H') : Lsts A B la lb i n₀ H' := ⟨h.1 _ _ l.na.1 l.na.2 l.a trivial, h.1 _ _ l.nb.1 l.nb.2 l.b trivial, l.na, l.nb, l.A, l.B⟩
theorem PLp.mv {H' : List O} (p : PLp w sf la lb n₀ jt I G H) {k : Nat} (h : Mv k H H') (hk : ∀ xs c, H[k]? ≠ some (.tit I xs c)) (hG : k ∉ G.map (·.ix)) : PLp w sf la lb n₀ jt I G H' := by
  obtain ⟨xs, c, h1, h2⟩ := p.tj
  refine ⟨⟨xs, c, h.1 jt _ (fun q => hk xs c (q ▸ h1)) h1 trivial, h2⟩, p.jn, fun x hx => ?_, p.nd⟩
  obtain ⟨⟨h3, h4, h5⟩, fi, body, m, h6⟩ := p.fr x hx
  have hne : x.ix ≠ k := fun q => hG (q ▸ List.mem_map.mpr ⟨x, hx, rfl⟩)
  refine ⟨⟨?_, h4, h5⟩, fi, body, m, h.1 _ _ hne h6 trivial⟩
  rcases h3 with ⟨hi, e1, e2, e3, e4⟩ | ⟨o, ho, a, lo₀, hi, iv, I', j, hj, rfl⟩
  · exact .inl ⟨hi, e1, e2, e3, h.1 _ _ hne e4 trivial⟩
  · rw [ho] at h6; cases h6
theorem PLp.set {k : Nat} {o : O} (p : PLp w sf la lb n₀ jt I G H) (hk : k ≠ jt) (hG : k ∉ G.map (·.ix)) : PLp w sf la lb n₀ jt I G (H.set k o) := by
  obtain ⟨xs, c, h1, h2⟩ := p.tj
  refine ⟨⟨xs, c, by rw [List.getElem?_set_ne hk]; exact h1, h2⟩, p.jn, fun x hx => ?_, p.nd⟩
  obtain ⟨⟨h3, h4, h5⟩, fi, body, m, h6⟩ := p.fr x hx
  have hne : k ≠ x.ix := fun q => hG (q ▸ List.mem_map.mpr ⟨x, hx, rfl⟩)
  refine ⟨⟨?_, h4, h5⟩, fi, body, m, by rw [List.getElem?_set_ne hne]; exact h6⟩
  rcases h3 with ⟨hi, e1, e2, e3, e4⟩ | ⟨o, ho, a, lo₀, hi, iv, I', j, hj, rfl⟩
  · exact .inl ⟨hi, e1, e2, e3, by rw [List.getElem?_set_ne hne]; exact e4⟩
  · rw [ho] at h6; cases h6
/-- the generator x asked by the pair's frame -/
theorem plain_cur {x : PG} (hL : Lsts A B la lb i n₀ H₀) (ag : Agr i n₀ H₀ H) (hi : H[i]? = some .gone) (p : PLp w sf la lb n₀ jt I G H) (hx : PGS w sf la lb n₀ x H) (hxi : x.ix ≠ i) (hxt : x.ix ≠ jt) (hxG : x.ix ∉ G.map (·.ix))
    (hg : Good w sf la lb n₀ alo ahi blo bhi f s A B i H₀ Q (x.pl ++ pls G))
    (ih : ∀ H', Agr i n₀ H₀ H' → H'[i]? = some .gone → PLp w sf la lb n₀ jt I G H' → Good w sf la lb n₀ alo ahi blo bhi f s A B i H₀ Q (pls G) → GW pP w (KK w.params) (pFi w) (d + 3) (pK I) (pNm sf la alo ahi lb blo bhi f s gv) H' [] (GQ Q i a (pFi w))) :
    AskS pP w (KK w.params) (d + 1) H x.ix (YfQ pP w (KK w.params) (pFi w) (d + 1 + 2) (pK I) (pNm sf la alo ahi lb blo bhi f s gv) [] x.ix (GQ Q i a (pFi w))) := by
  obtain ⟨ix, sd, lo, n⟩ := x
  obtain ⟨hs, hxn, h1, h2⟩ := hx
  dsimp only at hs hxn h1 h2 hxi hxt hxG
  have lH := hL.agr ag
  have hl : H[lOf la lb ⟨ix, sd, lo, n⟩]? = some (lstR (if sd = true then B else A)) := by
    unfold lOf; cases sd
    · exact lH.a
    · exact lH.b
  have hR : (if sd = true then B else A).length ≤ 1000 ∧ ∀ y ∈ (if sd = true then B else A), y.length ≤ 1000 := by
    cases sd
    · exact hL.A
    · exact hL.B
  have hk : ∀ xs c, H[ix]? ≠ some (.tit I xs c) := fun xs c q => by
    rcases hs with ⟨_, _, _, _, q2⟩ | ⟨o, q2, _, _, _, _, _, _, _, rfl⟩ <;> (rw [q] at q2; cases q2)
  have gone : ∀ H', Mv ix H H' → H'[i]? = some .gone := fun H' m => m.1 i _ (Ne.symm hxi) hi trivial
  have lt : ∀ {H' : List O} {o : O} {k : Nat}, H'[k]? = some o → k < H'.length := fun h => (List.getElem?_eq_some_iff.mp h).1
  refine dump_ask (R := if sd = true then B else A) hs hl hR.1 hR.2 tagS_len ⟨h1, by omega⟩ (fun h0 H' m hd => ?_) (fun k x hn hp H' o m ho hD => ?_) fun k hn hp H' m hd => ?_
  · subst h0
    exact ih H' (ag.trans (m.agr hxn)) (gone H' m) (p.mv m hk hxG) hg
  · subst hn
    rw [pl_succ] at hg
    have hrow : rowOf A B (sd, lo) = some (tagS sd ++ sp ++ x) := by unfold rowOf; rw [hp]; rfl
    unfold Good at hg
    rw [List.cons_append] at hg
    dsimp only at hg
    rw [hrow] at hg
    obtain ⟨b, lo₀, hi', iv, I', j, hj, rfl⟩ := hD
    refine ⟨b, _, _, _, _, _, ho, ?_⟩
    have pm := p.mv m hk hxG
    have g₁ : ∀ (o o' : O), ((H'.set ix o).set i o')[i]? = some o' := fun o o' => List.getElem?_set_self (by rw [List.length_set]; exact lt (gone H' m))
    have hixG : ix ∉ G.map (·.ix) := hxG
    have hiG : i ∉ G.map (·.ix) := fun q => by
      obtain ⟨y, hy, e⟩ := List.mem_map.mp q
      obtain ⟨_, _, _, _, h6⟩ := pm.fr y hy
      rw [e, gone H' m] at h6; cases h6
    have hij : i ≠ jt := fun q => by
      obtain ⟨xs, c, h1, _⟩ := pm.tj
      rw [← q, gone H' m] at h1; cases h1
    refine hg _ ((ag.trans (m.agr hxn)).trans ((Agr.set hxn).trans Agr.own)) ⟨a, I, jt, b, gv, ⟨ix, sd, lo + 1, k⟩, G, _, g₁ _ _, (pm.set hxt hixG).set hij hiG, rfl, Ne.symm hxi, hxn, by dsimp only; omega, by dsimp only; omega, hixG, ?_, ⟨b, lo₀, hi', iv, I', j, ?_, rfl⟩, ⟨_, _, _, _, _, rfl⟩⟩
    · exact (List.getElem?_set_ne (Ne.symm hxi)).trans (List.getElem?_set_self (lt ho))
    · have hij' : i ≠ j := fun q => by rw [← q, gone H' m] at hj; cases hj
      have hxj : ix ≠ j := fun q => by rw [← q, ho] at hj; cases hj
      rw [List.getElem?_set_ne hij', List.getElem?_set_ne hxj]; exact hj
  · subst hn
    rw [pl_succ] at hg
    have hrow : rowOf A B (sd, lo) = none := by unfold rowOf; rw [hp]; rfl
    unfold Good at hg
    rw [List.cons_append] at hg
    dsimp only at hg
    rw [hrow] at hg
    exact hg _ ((ag.trans (m.agr hxn)).trans Agr.own) (List.getElem?_set_self (lt (gone H' m)))
/-- the pair's loop at its head -/
theorem plain_head : ∀ (G : List PG) (gv : Option V) (H : List O), Lsts A B la lb i n₀ H₀ → Agr i n₀ H₀ H → H[i]? = some .gone → PLp w sf la lb n₀ jt I G H → Good w sf la lb n₀ alo ahi blo bhi f s A B i H₀ Q (pls G) →
    GW pP w (KK w.params) (pFi w) (d + 3) (pK I) (pNm sf la alo ahi lb blo bhi f s gv) H [] (GQ Q i a (pFi w)) := by
  intro G
  induction G with
  | nil =>
    intro gv H hL ag hi p hg
    obtain ⟨xs, c, hj, hxs⟩ := p.tj
    have hij : i ≠ jt := fun q => by rw [← q, hi] at hj; cases hj
    refine gw_loop (next_tit hj (fun _ => gw_top ?_) fun x hx => ?_)
    · refine hg _ (ag.trans ((Agr.set p.jn).trans Agr.own)) (List.getElem?_set_self (by rw [List.length_set]; exact (List.getElem?_eq_some_iff.mp hi).1))
    · have : xs.drop c = [] := hxs
      rw [List.drop_eq_nil_iff] at this
      rw [List.getElem?_eq_none this] at hx; cases hx
  | cons x G ihG =>
    intro gv H hL ag hi p hg
    obtain ⟨xs, c, hj, hxs⟩ := p.tj
    have hij : i ≠ jt := fun q => by rw [← q, hi] at hj; cases hj
    have hcl : c < xs.length := Nat.lt_of_not_le fun q => by rw [List.drop_eq_nil_of_le q] at hxs; cases hxs
    have hxc : xs[c]? = some (.ref x.ix) := by
      have : (xs.drop c)[0]? = some (.ref x.ix) := by rw [hxs]; rfl
      rw [List.getElem?_drop] at this; exact this
    have hxs' : xs.drop (c + 1) = G.map fun x => V.ref x.ix := by
      rw [← List.drop_drop, hxs]; rfl
    refine gw_loop (next_tit hj (fun h => absurd hcl (Nat.not_lt.mpr h)) fun v hv => ?_)
    rw [hxc] at hv; cases hv
    dsimp only
    refine wa_name (.inl (by rfl)) ?_
    have em : setL (pNm sf la alo ahi lb blo bhi f s gv) "g" (.ref x.ix) = pNm sf la alo ahi lb blo bhi f s (some (.ref x.ix)) := by rfl
    rw [em]
    obtain ⟨hx, fi', body', m', hfr⟩ := p.fr x (.head _)
    have hxt : x.ix ≠ jt := fun q => by rw [q, hj] at hfr; cases hfr
    have hxi : x.ix ≠ i := fun q => by rw [q, hi] at hfr; cases hfr
    have hnd := List.nodup_cons.mp (show (x.ix :: G.map (·.ix)).Nodup from p.nd)
    have htG : jt ∉ G.map (·.ix) := fun q => by
      obtain ⟨y, hy, e⟩ := List.mem_map.mp q
      obtain ⟨_, _, _, _, h6⟩ := p.fr y (.tail _ hy)
      rw [e, hj] at h6; cases h6
    have hset : ∀ k, k ≠ jt → (H.set jt (.tit I xs (c + 1)))[k]? = H[k]? := fun k hk => List.getElem?_set_ne (Ne.symm hk)
    have move : ∀ y : PG, y.ix ≠ jt → PGS w sf la lb n₀ y H → (∃ fi body m, H[y.ix]? = some (.fresh fi body m)) → PGS w sf la lb n₀ y (H.set jt (.tit I xs (c + 1))) := fun y hy ⟨h3, h4, h5⟩ ⟨fi, body, m, h6⟩ => by
      refine ⟨?_, h4, h5⟩
      rcases h3 with ⟨hi, e1, e2, e3, e4⟩ | ⟨o, ho, a, lo₀, hi, iv, I', j, hj, rfl⟩
      · exact .inl ⟨hi, e1, e2, e3, by rw [hset _ hy]; exact e4⟩
      · rw [ho] at h6; cases h6
    have p' : PLp w sf la lb n₀ jt I G (H.set jt (.tit I xs (c + 1))) := by
      refine ⟨⟨xs, c + 1, List.getElem?_set_self (List.getElem?_eq_some_iff.mp hj).1, hxs'⟩, p.jn, fun y hy => ?_, hnd.2⟩
      obtain ⟨h3, h4⟩ := p.fr y (.tail _ hy)
      have hyt : y.ix ≠ jt := fun q => htG (q ▸ List.mem_map.mpr ⟨y, hy, rfl⟩)
      refine ⟨move y hyt h3 h4, ?_⟩
      obtain ⟨fi, body, m, h6⟩ := h4
      exact ⟨fi, body, m, by rw [hset _ hyt]; exact h6⟩
    refine gw_yf ?_
    refine we_loc (by rfl) (by rfl) ?_
    refine ⟨x.ix, rfl, ?_⟩
    exact plain_cur hL (ag.trans (Agr.set p.jn)) (by rw [hset _ hij]; exact hi) p' (move x hxt hx ⟨fi', body', m', hfr⟩) hxi hxt hnd.1 hg fun H' ag' hi' q' g' => ihG _ H' hL ag' hi' q' g'
end
end
section
set_option pp.maxSteps 2500


local macro_rules | `(tactic| walk_at "nm") => `(tactic| first | refine we_biT (by rfl) (g_range _) b_range ?_ | refine we_biF (by rfl) (g_len _) b_len ?_)
theorem keep1 {H : List O} {k : Nat} {o x : O} (h : H[k]? = some o) : (H ++ [x])[k]? = some o := by rw [List.getElem?_append_left (List.getElem?_eq_some_iff.mp h).1]; exact h
/-- the rows at the places from lo to hi -/
noncomputable def plc (sd : Bool) (lo hi : Int) : List (Bool × Int) := PG.pl ⟨0, sd, lo, (hi - lo).toNat⟩
/-- in which order the places are told -/
noncomputable def plAB (alo ahi blo bhi : Int) : List (Bool × Int) := if bhi - blo < ahi - alo then plc true blo bhi ++ plc false alo ahi else plc false alo ahi ++ plc true blo bhi
section
variable {w : World} {sf la lb n₀ : Nat} {alo ahi blo bhi : Int} {f s : Option V} {H H₀ : List O} {i d : Nat} {A B : List Str} {Q : Ans → List O → Prop}
theorem plain_slp {L : List (Bool × Int)} (hL : Lsts A B la lb i n₀ H₀) (ag : Agr i n₀ H₀ H) (h : PSt w sf la lb n₀ alo ahi blo bhi f s i L H) (hg : Good w sf la lb n₀ alo ahi blo bhi f s A B i H₀ Q L) : AskS pP w (KK w.params) (d + 3) H i Q := by
  obtain ⟨a, I, jt, b, gv, x, G, o, hi, p, rfl, hix, hxn, h1, h2, hxG, ho, hD, fi', m', r', k', y', rfl⟩ := h
  have hiG : i ∉ G.map (·.ix) := fun q => by
    obtain ⟨y, hy, e⟩ := List.mem_map.mp q
    obtain ⟨_, _, _, _, h6⟩ := p.fr y hy
    rw [e, hi] at h6; cases h6
  have hij : i ≠ jt := fun q => by
    obtain ⟨xs, c, h1, _⟩ := p.tj
    rw [← q, hi] at h1; cases h1
  have hxj : x.ix ≠ jt := fun q => by
    obtain ⟨xs, c, h1, _⟩ := p.tj
    rw [← q, ho] at h1; cases h1
  have hlt : i < H.length := (List.getElem?_eq_some_iff.mp hi).1
  have hxl : x.ix < H.length := (List.getElem?_eq_some_iff.mp ho).1
  obtain ⟨a', lo₀, hi', iv, I', j, hj, e⟩ := hD
  cases e
  have hij' : i ≠ j := fun q => by rw [← q, hi] at hj; cases hj
  have hxj' : x.ix ≠ j := fun q => by rw [← q, ho] at hj; cases hj
  refine asks_yf hix hi ho ?_
  refine plain_cur (a := a) hL (ag.trans (Agr.own.trans (Agr.set hxn))) ?_ ((p.set hij hiG).set hxj hxG) ⟨.inr ⟨_, List.getElem?_set_self (by rw [List.length_set]; exact hxl), _, lo₀, hi', iv, I', j, ?_, rfl⟩, hxn, h1, h2⟩ (Ne.symm hix) hxj hxG hg fun H' ag' hi' p' g' => plain_head _ _ _ hL ag' hi' p' g'
  · rw [List.getElem?_set_ne (Ne.symm hix)]; exact List.getElem?_set_self hlt
  · rw [List.getElem?_set_ne hxj', List.getElem?_set_ne hij']; exact hj
theorem pls_two {x y : PG} : pls [x, y] = x.pl ++ y.pl := by unfold pls; simp
theorem plain_fresh (hL : Lsts A B la lb i n₀ H) (hs : H[sf]? = some (.inst 313 dFs)) (hsi : sf ≠ i) (hn : n₀ = H.length) (hi : H[i]? = some (.fresh (pFi w) (fBody (stIn 7 4)) (pNm sf la alo ahi lb blo bhi none none none))) (ba : -1000 ≤ alo ∧ ahi ≤ 1000) (bb : -1000 ≤ blo ∧ bhi ≤ 1000)
    (hbad : ¬ (alo < ahi ∧ blo < bhi) → ∀ H', Agr i n₀ H H' → H'[i]? = some .done → Q (.err "AssertionError" none) H')
    (hg : alo < ahi ∧ blo < bhi → ∀ f s, Good w sf la lb n₀ alo ahi blo bhi f s A B i H Q (plAB alo ahi blo bhi)) : AskS pP w (KK w.params) (d + 3) H i Q := by
  have hlt : i < H.length := (List.getElem?_eq_some_iff.mp hi).1
  have hsl : (H.set i .gone)[sf]? = some (.inst 313 dFs) := by rw [List.getElem?_set_ne (Ne.symm hsi)]; exact hs
  have hlen : (H.set i .gone).length = H.length := List.length_set
  refine asks_fresh hi fun a => ?_
  by_cases c : alo < ahi ∧ blo < bhi
  · have hgo := hg c
    refine gw_cons ?_
    refine ws_assert ?_
    repeat (walk_at "w")
    unfold KAnd
    rw [if_pos (decide_eq_true c.1)]
    repeat (walk_at "w")
    refine ⟨decide_eq_true c.2, ?_⟩
    dsimp only
    refine gw_if ?_
    repeat (walk_at "w")
    have big : ∀ (I : Nat) (x y : PG) (m₁ m₂ : Names) (gv : Option V), x.ix = H.length → y.ix = H.length + 1 → pls [x, y] = plAB alo ahi blo bhi → -1000 ≤ x.lo → x.lo + x.n ≤ 1000 → -1000 ≤ y.lo → y.lo + y.n ≤ 1000 →
        (∃ hi, x.n = (hi - x.lo).toNat ∧ -1000 ≤ hi ∧ hi ≤ 1000 ∧ m₁ = dNm sf (lOf la lb x) (tagS x.sd) x.lo hi none) → (∃ hi, y.n = (hi - y.lo).toNat ∧ -1000 ≤ hi ∧ hi ≤ 1000 ∧ m₂ = dNm sf (lOf la lb y) (tagS y.sd) y.lo hi none) →
        GW pP w (KK w.params) (pFi w) (d + 3) (pK I) (pNm sf la alo ahi lb blo bhi (some (.ref H.length)) (some (.ref (H.length + 1))) gv) (H.set i .gone ++ [.fresh (dFi w) (fBody (stIn 7 3)) m₁] ++ [.fresh (dFi w) (fBody (stIn 7 3)) m₂] ++ [.tit I [.ref H.length, .ref (H.length + 1)] 0]) [] (GQ Q i a (pFi w)) := by
      rintro I ⟨ix, sx, lx, nx⟩ ⟨iy, sy, ly, ny⟩ m₁ m₂ gv e1 e2 epl b1 b2 b3 b4 ⟨h1, k1, k2, k3, rfl⟩ ⟨h2, k4, k5, k6, rfl⟩
      dsimp only at e1 e2 b1 b2 b3 b4 k1 k4
      subst e1 e2
      have g0 : ∀ (o₁ o₂ o₃ : O), (H.set i .gone ++ [o₁] ++ [o₂] ++ [o₃])[H.length]? = some o₁ := fun o₁ o₂ o₃ => by rw [List.append_assoc, List.append_assoc, List.getElem?_append_right (by rw [hlen]; exact Nat.le_refl _), hlen, Nat.sub_self]; rfl
      have g1 : ∀ (o₁ o₂ o₃ : O), (H.set i .gone ++ [o₁] ++ [o₂] ++ [o₃])[H.length + 1]? = some o₂ := fun o₁ o₂ o₃ => by rw [List.append_assoc, List.append_assoc, List.getElem?_append_right (by rw [hlen]; omega), hlen, Nat.add_sub_cancel_left]; rfl
      have g2 : ∀ (o₁ o₂ o₃ : O), (H.set i .gone ++ [o₁] ++ [o₂] ++ [o₃])[H.length + 2]? = some o₃ := fun o₁ o₂ o₃ => by rw [List.append_assoc, List.append_assoc, List.getElem?_append_right (by rw [hlen]; omega), hlen, Nat.add_sub_cancel_left]; rfl
      refine plain_head (jt := H.length + 2) [⟨H.length, sx, lx, nx⟩, ⟨H.length + 1, sy, ly, ny⟩] gv _ hL (Agr.own.trans ((Agr.app).trans ((Agr.app).trans (Agr.app)))) ?_ ⟨⟨_, 0, g2 _ _ _, rfl⟩, by omega, fun x hx => ?_, ?_⟩ ?_
      · rw [List.append_assoc, List.append_assoc, List.getElem?_append_left (by rw [hlen]; exact hlt)]; exact List.getElem?_set_self hlt
      · rcases List.mem_cons.mp hx with rfl | hx
        · exact ⟨⟨.inl ⟨h1, k1, k2, k3, g0 _ _ _⟩, by dsimp only; omega, b1, b2⟩, _, _, _, g0 _ _ _⟩
        · rw [List.mem_singleton.mp hx]
          exact ⟨⟨.inl ⟨h2, k4, k5, k6, g1 _ _ _⟩, by dsimp only; omega, b3, b4⟩, _, _, _, g1 _ _ _⟩
      · show [H.length, H.length + 1].Nodup
        simp
      · rw [epl]; exact hgo _ _
    by_cases c2 : bhi - blo < ahi - alo
    · rw [decide_eq_true c2]
      refine gw_cons ?_
      repeat (walk_at "w")
      refine ⟨_, meth_dump hsl, c_dump _, ?_⟩
      repeat (walk_at "w")
      refine call_gen (fn_dump _) (by rfl) (by rfl) ?_
      repeat (walk_at "w")
      refine gw_cons ?_
      repeat (walk_at "w")
      refine ⟨_, meth_dump (keep1 hsl), c_dump _, ?_⟩
      repeat (walk_at "w")
      refine call_gen (fn_dump _) (by rfl) (by rfl) ?_
      repeat (walk_at "w")
      refine gw_seq ?_
      refine gw_for ?_
      repeat (walk_at "w")
      unfold KE2 KTu
      refine ⟨by show 2 ≤ sizeLine; decide, ?_⟩
      refine iter_tupN fun I => ?_
      rw [List.length_append, List.length_singleton, hlen]
      refine big I ⟨H.length, true, blo, (bhi - blo).toNat⟩ ⟨H.length + 1, false, alo, (ahi - alo).toNat⟩ _ _ _ rfl rfl ?_ (by dsimp only; omega) (by dsimp only; omega) (by dsimp only; omega) (by dsimp only; omega) ⟨bhi, rfl, by omega, by omega, rfl⟩ ⟨ahi, rfl, by omega, by omega, rfl⟩
      rw [pls_two]; unfold plAB; rw [if_pos c2]; rfl
    · rw [decide_eq_false c2]
      refine gw_cons ?_
      repeat (walk_at "w")
      refine ⟨_, meth_dump hsl, c_dump _, ?_⟩
      repeat (walk_at "w")
      refine call_gen (fn_dump _) (by rfl) (by rfl) ?_
      repeat (walk_at "w")
      refine gw_cons ?_
      repeat (walk_at "w")
      refine ⟨_, meth_dump (keep1 hsl), c_dump _, ?_⟩
      repeat (walk_at "w")
      refine call_gen (fn_dump _) (by rfl) (by rfl) ?_
      repeat (walk_at "w")
      refine gw_seq ?_
      refine gw_for ?_
      repeat (walk_at "w")
      unfold KE2 KTu
      refine ⟨by show 2 ≤ sizeLine; decide, ?_⟩
      refine iter_tupN fun I => ?_
      rw [List.length_append, List.length_singleton, hlen]
      refine big I ⟨H.length, false, alo, (ahi - alo).toNat⟩ ⟨H.length + 1, true, blo, (bhi - blo).toNat⟩ _ _ _ rfl rfl ?_ (by dsimp only; omega) (by dsimp only; omega) (by dsimp only; omega) (by dsimp only; omega) ⟨ahi, rfl, by omega, by omega, rfl⟩ ⟨bhi, rfl, by omega, by omega, rfl⟩
      rw [pls_two]; unfold plAB; rw [if_neg c2]; rfl
  · refine gw_raise (msg := none) exc_assert (sx_assert ?_)
    have hq : GQ Q i a (pFi w) (.exc "AssertionError" none) (pNm sf la alo ahi lb blo bhi none none none) (H.set i .gone) := hbad c _ (Agr.own.trans Agr.own) (List.getElem?_set_self (by rw [hlen]; exact hlt))
    repeat (walk_at "w")
    unfold KAnd
    by_cases c1 : alo < ahi
    · rw [if_pos (decide_eq_true c1)]
      repeat (walk_at "w")
      exact ⟨decide_eq_false fun c2 => c ⟨c1, c2⟩, hq⟩
    · rw [if_neg (fun q => c1 (of_decide_eq_true q))]
      exact ⟨rfl, hq⟩
end
end
section
set_option pp.maxSteps 2500


local macro_rules | `(tactic| walk_at "nm") => `(tactic| first | refine we_biT (by rfl) (g_range _) b_range ?_ | refine we_biF (by rfl) (g_len _) b_len ?_)
theorem cls_assert : ExcCls "AssertionError" "AssertionError" true := ⟨by rw [isSubtype_type]; kernel_rfl, by rw [isSubtype_type]; kernel_rfl, by rw [isSubtype_type]; kernel_rfl⟩
theorem cls_index_assert : ExcCls "IndexError" "AssertionError" false := ⟨by rw [isSubtype_type]; kernel_rfl, by rw [isSubtype_type]; kernel_rfl, by rw [isSubtype_type]; kernel_rfl⟩
noncomputable def eIx : Str := Str.ofString "list index out of range"
/-- what is told of the places L -/
noncomputable def tellAll (A B : List Str) : List (Bool × Int) → List Str × Str
  | [] => ([], Str.empty)
  | x :: L => match rowOf A B x with
    | none => ([], eIx)
    | some y => (y :: (tellAll A B L).1, (tellAll A B L).2)
theorem tell_nil {A B : List Str} : tellAll A B [] = ([], Str.empty) := rfl
theorem tell_none {A B : List Str} {x : Bool × Int} {L : List (Bool × Int)} (h : rowOf A B x = none) : tellAll A B (x :: L) = ([], eIx) := by show (match rowOf A B x with | none => _ | some y => _) = _; rw [h]
theorem tell_some {A B : List Str} {x : Bool × Int} {L : List (Bool × Int)} {y : Str} (h : rowOf A B x = some y) : tellAll A B (x :: L) = (y :: (tellAll A B L).1, (tellAll A B L).2) := by show (match rowOf A B x with | none => _ | some y => _) = _; rw [h]
theorem Agr.mono {i n n' : Nat} {H H' : List O} (h : Agr i n H H') (hn : n' ≤ n) : Agr i n' H H' := ⟨fun k x hi hk hx nx => h.1 k x hi (Nat.lt_of_lt_of_le hk hn) hx nx, h.2⟩
section
variable {w : World} {sf la lb n₀ : Nat} {alo ahi blo bhi : Int} {f s : Option V} {H H₀ : List O} {i l d : Nat} {A B : List Str}
theorem PSt.set {L : List (Bool × Int)} {xs : List V} {o : O} (h : PSt w sf la lb n₀ alo ahi blo bhi f s i L H) (hl : H[l]? = some (.list xs)) : PSt w sf la lb n₀ alo ahi blo bhi f s i L (H.set l o) := by
  obtain ⟨a, I, jt, b, gv, x, G, o', hi, p, hL, hix, hxn, h1, h2, hxG, ho, hD, fi', m', r', k', y', rfl⟩ := h
  have hli : l ≠ i := fun q => by rw [q, hi] at hl; cases hl
  have hlj : l ≠ jt := fun q => by
    obtain ⟨xs', c, h1, _⟩ := p.tj
    rw [← q, hl] at h1; cases h1
  have hlx : l ≠ x.ix := fun q => by rw [q, ho] at hl; cases hl
  have hlG : l ∉ G.map (·.ix) := fun q => by
    obtain ⟨y, hy, e⟩ := List.mem_map.mp q
    obtain ⟨_, _, _, _, h6⟩ := p.fr y hy
    rw [e, hl] at h6; cases h6
  obtain ⟨a', lo₀, hi', iv, I', j, hj, e⟩ := hD
  have hlj' : l ≠ j := fun q => by rw [← q, hl] at hj; cases hj
  exact ⟨a, I, jt, b, gv, x, G, _, by rw [List.getElem?_set_ne hli]; exact hi, p.set hlj hlG, hL, hix, hxn, h1, h2, hxG, by rw [List.getElem?_set_ne hlx]; exact ho, ⟨a', lo₀, hi', iv, I', j, by rw [List.getElem?_set_ne hlj']; exact hj, e⟩, fi', m', r', k', y', rfl⟩
noncomputable abbrev tNm (i l : Nat) (rv : Option V) : Names := [nv "reader" (.ref i), nv "told" (.ref l), ("row", rv), nn "error"]
theorem good_of {Q : Ans → List O → Prop} {H₀ : List O} {L : List (Bool × Int)} (h0 : L = [] → ∀ H', Agr i n₀ H₀ H' → H'[i]? = some .done → Q .nothing H')
    (h1 : ∀ x r, L = x :: r → rowOf A B x = none → ∀ H', Agr i n₀ H₀ H' → H'[i]? = some .done → Q (.err "IndexError" (some (Str.ofString "list index out of range"))) H')
    (h2 : ∀ x r y, L = x :: r → rowOf A B x = some y → ∀ H', Agr i n₀ H₀ H' → PSt w sf la lb n₀ alo ahi blo bhi f s i r H' → Q (.txt y) H') : Good w sf la lb n₀ alo ahi blo bhi f s A B i H₀ Q L := by
  cases L with
  | nil => exact h0 rfl
  | cons x r =>
    unfold Good
    dsimp only
    cases q : rowOf A B x with
    | none => exact h1 x r rfl q
    | some y => exact h2 x r y rfl q
noncomputable abbrev Told (w : World) (sf la lb : Nat) (alo ahi blo bhi : Int) (i : Nat) (A B : List Str) (H : List O) (n : Nat) (H' : List O) : Prop :=
  (n = (plAB alo ahi blo bhi).length + 1 ∧ H' = H ++ [.list []]) ∨
    ∃ (rs : List Str) (L : List (Bool × Int)) (f s : Option V), n = L.length ∧ (alo < ahi ∧ blo < bhi) ∧ H'[H.length]? = some (.list (rs.map V.str)) ∧ rs.length + L.length ≤ 1000 ∧ PSt w sf la lb (H.length + 1) alo ahi blo bhi f s i L H' ∧ (rs ++ (tellAll A B L).1, (tellAll A B L).2) = tellAll A B (plAB alo ahi blo bhi)
theorem told_turn {Qa : Ans → List O → Prop} {H' : List O} {n : Nat} (hL : Lsts A B la lb i H.length H) (hs : H[sf]? = some (.inst 313 dFs)) (hi : H[i]? = some (.fresh (pFi w) (fBody (stIn 7 4)) (pNm sf la alo ahi lb blo bhi none none none))) (ba : -1000 ≤ alo ∧ ahi ≤ 1000) (bb : -1000 ≤ blo ∧ bhi ≤ 1000)
    (hlen : (plAB alo ahi blo bhi).length ≤ 1000) (ag : Agr i H.length H H') (hJ : Told w sf la lb alo ahi blo bhi i A B H n H')
    (qt : ∀ rs r y f s H'', r.length < n → Agr i H.length H H'' → alo < ahi ∧ blo < bhi → H''[H.length]? = some (.list (rs.map V.str)) → rs.length + 1 + r.length ≤ 1000 → PSt w sf la lb (H.length + 1) alo ahi blo bhi f s i r H'' → (rs ++ y :: (tellAll A B r).1, (tellAll A B r).2) = tellAll A B (plAB alo ahi blo bhi) → Qa (.txt y) H'')
    (q0 : ∀ H'', Agr i H.length H H'' → H''[i]? = some .done → alo < ahi ∧ blo < bhi → H''[H.length]? = some (.list ((tellAll A B (plAB alo ahi blo bhi)).1.map V.str)) → (tellAll A B (plAB alo ahi blo bhi)).2 = Str.empty → Qa .nothing H'')
    (qe : ∀ H'', Agr i H.length H H'' → H''[i]? = some .done → alo < ahi ∧ blo < bhi → H''[H.length]? = some (.list ((tellAll A B (plAB alo ahi blo bhi)).1.map V.str)) → (tellAll A B (plAB alo ahi blo bhi)).2 = eIx → Qa (.err "IndexError" (some (Str.ofString "list index out of range"))) H'')
    (qa : ∀ H'', Agr i H.length H H'' → H''[i]? = some .done → ¬ (alo < ahi ∧ blo < bhi) → H''[H.length]? = some (.list []) → Qa (.err "AssertionError" none) H'') : AskS pP w (KK w.params) (d + 3) H' i Qa := by
  have hil : i ≠ H.length := Nat.ne_of_lt (List.getElem?_eq_some_iff.mp hi).1
  have mono : ∀ {H₁ H₂ : List O}, Agr i (H.length + 1) H₁ H₂ → Agr i H.length H₁ H₂ := fun a => a.mono (Nat.le_succ _)
  have key : ∀ (rs : List Str) (L : List (Bool × Int)) (f s : Option V) (H₁ : List O), Agr i H.length H H₁ → H₁[H.length]? = some (.list (rs.map V.str)) → rs.length + L.length ≤ 1000 → (rs ++ (tellAll A B L).1, (tellAll A B L).2) = tellAll A B (plAB alo ahi blo bhi) → alo < ahi ∧ blo < bhi → L.length ≤ n → Good w sf la lb (H.length + 1) alo ahi blo bhi f s A B i H₁ Qa L := by
    intro rs L f s H₁ a₁ hl₁ hz he hc hn
    have hlk : ∀ {H₂ : List O}, Agr i (H.length + 1) H₁ H₂ → H₂[H.length]? = some (.list (rs.map V.str)) := fun a => a.1 _ _ (Ne.symm hil) (Nat.lt_succ_self _) hl₁ trivial
    refine good_of (fun e H₂ a hd => ?_) (fun x r e hr H₂ a hd => ?_) fun x r y e hr H₂ a hp => ?_
    · subst e
      rw [tell_nil, List.append_nil] at he
      refine q0 _ (a₁.trans (mono a)) hd hc ?_ ?_
      · rw [← he]; exact hlk a
      · rw [← he]
    · subst e
      rw [tell_none hr, List.append_nil] at he
      refine qe _ (a₁.trans (mono a)) hd hc ?_ ?_
      · rw [← he]; exact hlk a
      · rw [← he]
    · subst e
      rw [tell_some hr] at he
      rw [List.length_cons] at hz hn
      exact qt rs r y f s _ (by omega) (a₁.trans (mono a)) hc (hlk a) (by omega) hp he
  have hLn : ∀ {H₁ : List O}, Agr i H.length H H₁ → Lsts A B la lb i (H.length + 1) H₁ := fun a => let l := hL.agr a; ⟨l.a, l.b, ⟨l.na.1, Nat.lt_succ_of_lt l.na.2⟩, ⟨l.nb.1, Nat.lt_succ_of_lt l.nb.2⟩, l.A, l.B⟩
  rcases hJ with ⟨rfl, rfl⟩ | ⟨rs, L, f, s, rfl, hc, hl, hz, hp, he⟩
  · refine plain_fresh (n₀ := H.length + 1) (hLn ag) (keep1 hs) (fun q => by subst q; rw [hs] at hi; cases hi) (by rw [List.length_append]; rfl) (keep1 hi) ba bb (fun hc H₂ a hd => ?_) fun hc f s => ?_
    · exact qa _ (ag.trans (mono a)) hd hc (a.1 _ _ (Ne.symm hil) (Nat.lt_succ_self _) List.getElem?_concat_length trivial)
    · exact key [] _ f s _ ag List.getElem?_concat_length (by rw [List.length_nil, Nat.zero_add]; exact hlen) rfl hc (Nat.le_succ _)
  · exact plain_slp (hLn ag) .refl hp (key rs L f s _ ag hl hz he hc (Nat.le_refl _))
theorem told_ok {E : HEP} {Q : V → List O → Prop} (hL : Lsts A B la lb i H.length H) (hs : H[sf]? = some (.inst 313 dFs)) (hi : H[i]? = some (.fresh (pFi w) (fBody (stIn 7 4)) (pNm sf la alo ahi lb blo bhi none none none))) (ba : -1000 ≤ alo ∧ ahi ≤ 1000) (bb : -1000 ≤ blo ∧ bhi ≤ 1000)
    (hlen : (plAB alo ahi blo bhi).length ≤ 1000)
    (h : ∀ H' p, p = (if alo < ahi ∧ blo < bhi then tellAll A B (plAB alo ahi blo bhi) else ([], Str.ofString "refused")) → Agr i H.length H H' → H'[i]? = some .done → H'[H.length]? = some (.list (p.1.map V.str)) → Q (.tup [.ref H.length, .str p.2]) H') :
    CallU pP w (KK w.params) (d + 5) E H (.st 324) [.ref i] Q := by
  refine wu_fnX (fn_told w) (by rfl) (by rfl) ?_
  have e : initN (fScope (stAt 9)) ["reader"] [.ref i] = [nv "reader" (.ref i), nn "told", nn "row", nn "error"] := by rfl
  rw [e]
  have hil : i ≠ H.length := Nat.ne_of_lt (List.getElem?_eq_some_iff.mp hi).1
  refine wx_quiet ?_
  repeat (walk_at "w")
  refine ⟨by show 0 ≤ sizeLine; decide, ?_⟩
  repeat (walk_at "w")
  refine wx_seq (wxs_try ?_)
  refine wx_seq ?_
  have ea : Agr i H.length H (H ++ [O.list []]) := Agr.app
  refine wxs_ask (d := d + 3) (i := i) (n := (plAB alo ahi blo bhi).length + 1) (J := fun n m H' => Agr i H.length H H' ∧ (∃ rv, m = tNm i H.length rv) ∧ Told w sf la lb alo ahi blo bhi i A B H n H') (by rfl) (by rfl) (by rfl) (.inl (by rfl)) ⟨ea, ⟨_, rfl⟩, .inl ⟨rfl, rfl⟩⟩ ?_
  rintro n m H' ⟨ag, ⟨rv, rfl⟩, hJ⟩
  refine askW (told_turn hL hs hi ba bb hlen ag hJ (fun rs r y f s H'' hn a hc hl hz hp he => ?_) (fun H'' a hd hc hl he => ?_) (fun H'' a hd hc hl he => ?_) fun H'' a hd hc hl => ?_)
  · dsimp only
    repeat (walk_at "w")
    refine ⟨_, meth_append hl, trivial, ?_⟩
    repeat (walk_at "w")
    refine app_l hl (by rw [List.length_map]; exact Nat.le_trans (by omega) (show 1000 ≤ sizeLine by decide)) ?_
    repeat (walk_at "w")
    refine ⟨r.length, hn, a.trans (Agr.set (Nat.le_refl _)), ⟨_, rfl⟩, .inr ⟨rs ++ [y], r, f, s, rfl, hc, ?_, ?_, hp.set hl, ?_⟩⟩
    · rw [List.getElem?_set_self (List.getElem?_eq_some_iff.mp hl).1, List.map_append]; rfl
    · rw [List.length_append]; exact hz
    · rw [List.append_assoc]; exact he
  · dsimp only
    refine wx_nil ?_
    dsimp only
    refine wx_nil ?_
    dsimp only
    refine wx_quiet ?_
    repeat (walk_at "w")
    refine ⟨by show 2 ≤ sizeLine; decide, ?_⟩
    have := h H'' _ (if_pos hc).symm a hd hl
    rw [he] at this
    exact this
  · dsimp only
    refine hx_skip cls_index_assert ⟨by rfl, g_assertion _, b_assertion, by rfl, by decide⟩ ?_
    refine hx_as (v := .tup [.ref H.length, .str (msgS (some (Str.ofString "list index out of range")))]) cls_index ⟨by rfl, g_index _, b_index, by rfl, by decide⟩ (by rfl) (by rfl) (su_tup (v := .ref H.length) (by rfl) (by rfl) (by rfl) (evx_str PySem.F.excStr_IndexError (by rfl) (by rfl) (by rfl) (g_str _) b_str (by rfl) (by decide)) (fun _ => rfl)) ?_
    have := h H'' _ (if_pos hc).symm a hd hl
    rw [he] at this
    exact this
  · dsimp only
    refine hx_as (v := .tup [.ref H.length, .str (Str.ofString "refused" ++ msgS none)]) cls_assert ⟨by rfl, g_assertion _, b_assertion, by rfl, by decide⟩ (by rfl) (by rfl) (su_tup (v := .ref H.length) (by rfl) (by rfl) (by rfl) (evx_cat (evx_str PySem.F.excStr_AssertionError (by rfl) (by rfl) (by rfl) (g_str _) b_str (by rfl) (by decide)) (by decide)) (fun _ => rfl)) ?_
    exact h H'' _ (if_neg hc).symm a hd hl
end
end
section
set_option pp.maxSteps 2500


local macro_rules | `(tactic| walk_at "nm") => `(tactic| first | refine we_biT (by rfl) (g_range _) b_range ?_ | refine we_biF (by rfl) (g_len _) b_len ?_ | refine we_biF (by rfl) (g_sorted _) b_sorted ?_)
theorem at_map {f : Nat → T3} {n i : Nat} {rest : List T3} (h : i < n) : atT ((List.range n).map f ++ rest) i = f i := by
  unfold atT
  rw [List.getD_eq_getElem?_getD, List.getElem?_append_left (by rw [List.length_map, List.length_range]; exact h), List.getElem?_map, List.getElem?_range h]
  rfl
theorem at_map2 {f g : Nat → T3} {n m i : Nat} (h : n ≤ i) (h2 : i < n + m) : atT ((List.range n).map f ++ (List.range m).map g) i = g (i - n) := by
  unfold atT
  rw [List.getD_eq_getElem?_getD, List.getElem?_append_right (by rw [List.length_map, List.length_range]; exact h), List.length_map, List.length_range, List.getElem?_map, List.getElem?_range (by omega)]
  rfl
noncomputable def tsAB (na nb : Nat) (alo blo : Int) : List T3 := (List.range na).map (fun t => ((na : Int), (0 : Int), alo + (t : Nat))) ++ (List.range nb).map (fun t => ((nb : Int), (1 : Int), blo + (t : Nat)))
theorem ts_lt {na nb : Nat} {alo blo : Int} {i j : Nat} (hi : i < na + nb) (hj : j < na + nb) : lt3 (atT (tsAB na nb alo blo) i) (atT (tsAB na nb alo blo) j) = decide (posAB na nb i < posAB na nb j) := by
  unfold tsAB
  by_cases ci : i < na
  · rw [at_map ci]
    by_cases cj : j < na
    · rw [at_map cj]
      unfold lt3 posAB
      dsimp only
      rw [if_pos rfl, if_pos rfl, if_pos ci, if_pos cj]
      refine decide_eq_decide.mpr ?_
      split <;> omega
    · rw [at_map2 (Nat.le_of_not_lt cj) hj]
      unfold lt3 posAB
      dsimp only
      rw [if_pos ci, if_neg cj, if_neg (by decide : ¬ (0 : Int) = 1)]
      split <;> refine decide_eq_decide.mpr ?_ <;> split <;> omega
  · rw [at_map2 (Nat.le_of_not_lt ci) hi]
    by_cases cj : j < na
    · rw [at_map cj]
      unfold lt3 posAB
      dsimp only
      rw [if_neg ci, if_pos cj, if_neg (by decide : ¬ (1 : Int) = 0)]
      split <;> refine decide_eq_decide.mpr ?_ <;> split <;> omega
    · rw [at_map2 (Nat.le_of_not_lt cj) hj]
      unfold lt3 posAB
      dsimp only
      rw [if_pos rfl, if_pos rfl, if_neg ci, if_neg cj]
      refine decide_eq_decide.mpr ?_
      split <;> omega
theorem ts_sort {na nb : Nat} {alo blo : Int} (h1 : 0 < na) (h2 : 0 < nb) (h3 : na < 5) (h4 : nb < 5) : kasGo (fun i j => lt3 (atT (tsAB na nb alo blo) i) (atT (tsAB na nb alo blo) j)) (na + nb) (kas_sort (na + nb)) = some (outAB na nb) :=
  (kasGo_congr (fun i j hi hj => ts_lt hi hj) _).trans (sortAB ⟨na, h3⟩ ⟨nb, h4⟩ h1 h2)
/-- a place as the law writes it -/
noncomputable def plV (na nb : Nat) (x : Bool × Int) : V := t3 (if x.1 = true then nb else na, if x.1 = true then 1 else 0, x.2)
theorem ts_out {alo ahi blo bhi : Int} {na nb : Nat} (hna : ahi - alo = na) (hnb : bhi - blo = nb) : ((outAB na nb).toList.map fun i => t3 (atT (tsAB na nb alo blo) i)) = (plAB alo ahi blo bhi).map (plV na nb) := by
  have e1 : (plc false alo ahi).map (plV na nb) = (List.range na).map fun i => t3 (atT (tsAB na nb alo blo) i) := by
    unfold plc PG.pl
    dsimp only
    rw [List.map_map, hna, Int.toNat_natCast]
    refine List.map_congr_left fun t ht => ?_
    unfold tsAB
    rw [at_map (List.mem_range.mp ht)]
    rfl
  have e2 : (plc true blo bhi).map (plV na nb) = ((List.range nb).map (· + na)).map fun i => t3 (atT (tsAB na nb alo blo) i) := by
    unfold plc PG.pl
    dsimp only
    rw [List.map_map, List.map_map, hnb, Int.toNat_natCast]
    refine List.map_congr_left fun t ht => ?_
    have := List.mem_range.mp ht
    unfold tsAB
    dsimp only [Function.comp]
    rw [at_map2 (Nat.le_add_left _ _) (by omega), Nat.add_sub_cancel]
    rfl
  unfold plAB outAB
  by_cases c : na ≤ nb
  · rw [if_pos c, if_neg (by omega), List.map_append, e1, e2, ← List.map_append]
    congr 1
    rw [List.toList_toArray, List.range_add]
    congr 1
    refine List.map_congr_left fun t _ => Nat.add_comm _ _
  · rw [if_neg c, if_pos (by omega), List.toList_toArray, List.map_append, List.map_append, e1, e2]
theorem out_lt {na nb : Nat} : ∀ i ∈ (outAB na nb).toList, i < na + nb := by
  intro i hi
  unfold outAB at hi
  split at hi
  · exact List.mem_range.mp (by simpa using hi)
  · rw [List.toList_toArray] at hi
    rcases List.mem_append.mp hi with hi | hi
    · obtain ⟨t, ht, rfl⟩ := List.mem_map.mp hi
      have := List.mem_range.mp ht
      show t + na < _
      omega
    · have := List.mem_range.mp hi
      omega
theorem py_none {R : List Str} {p : Int} (h : p < -(R.length : Int) ∨ (R.length : Int) ≤ p) : pyAt R p = none := by
  unfold pyAt
  rcases h with h | h
  · rw [if_neg (by omega), if_neg (by omega)]
  · rw [if_pos (by omega)]
    exact List.getElem?_eq_none (by omega)
theorem py_some {R : List Str} {p : Int} (h1 : -(R.length : Int) ≤ p) (h2 : p < R.length) : ∃ y, pyAt R p = some y ∧ (R ++ R)[(p + R.length).toNat]? = some y := by
  unfold pyAt
  by_cases c : 0 ≤ p
  · rw [if_pos c]
    have hl : p.toNat < R.length := by omega
    refine ⟨R[p.toNat], List.getElem?_eq_getElem hl, ?_⟩
    rw [List.getElem?_append_right (by omega), show (p + R.length).toNat - R.length = p.toNat by omega]
    exact List.getElem?_eq_getElem hl
  · rw [if_neg c, if_pos h1]
    have hl : (p + R.length).toNat < R.length := by omega
    refine ⟨R[(p + R.length).toNat], List.getElem?_eq_getElem hl, ?_⟩
    rw [List.getElem?_append_left hl]
    exact List.getElem?_eq_getElem hl
end
section
set_option pp.maxSteps 2500


local macro_rules | `(tactic| walk_at "nm") => `(tactic| first | refine we_biT (by rfl) (g_range _) b_range ?_ | refine we_biF (by rfl) (g_len _) b_len ?_ | refine we_biF (by rfl) (g_sorted _) b_sorted ?_)
/-- what stands, stands -/
noncomputable def Kp (H H' : List O) : Prop := (∀ (k : Nat) (x : O), H[k]? = some x → H'[k]? = some x) ∧ ∀ p, NYp p H → NYp p H'
theorem Kp.app {H : List O} {o : O} (ho : isY o = false := by rfl) : Kp H (H ++ [o]) := ⟨fun k x h => by rw [List.getElem?_append_left (List.getElem?_eq_some_iff.mp h).1]; exact h, fun p h => h.one ho⟩
theorem Kp.trans {H H' H'' : List O} (a : Kp H H') (b : Kp H' H'') : Kp H H'' := ⟨fun k x h => b.1 k x (a.1 k x h), fun p h => b.2 p (a.2 p h)⟩
theorem Kp.set {H H' : List O} {i : Nat} {o : O} (a : Kp H H') (hi : H.length ≤ i) (ho : isY o = false := by rfl) : Kp H (H'.set i o) := ⟨fun k x h => by
  rw [List.getElem?_set_ne (by have := (List.getElem?_eq_some_iff.mp h).1; omega)]; exact a.1 k x h, fun p h => (a.2 p h).set ho⟩
noncomputable abbrev uNm (ls : Nat) (alo ahi blo bhi : Int) (ps du : Option V) (sz sd pl rw : Option V) : Names := [nv "lists" (.ref ls), nv "alo" (.int alo), nv "ahi" (.int ahi), nv "blo" (.int blo), nv "bhi" (.int bhi), ("place", pl), ("places", ps), ("due", du), ("size", sz), ("side", sd), ("rows", rw)]
theorem plAB_len {alo ahi blo bhi : Int} (ha : ahi - alo ≤ 4) (hb : bhi - blo ≤ 4) : (plAB alo ahi blo bhi).length ≤ 8 := by
  unfold plAB plc PG.pl
  split <;> (simp only [List.length_append, List.length_map, List.length_range]; omega)
theorem plAB_bd {alo ahi blo bhi : Int} (ba : -1000 ≤ alo ∧ ahi ≤ 1000) (bb : -1000 ≤ blo ∧ bhi ≤ 1000) : ∀ x ∈ plAB alo ahi blo bhi, -1000 ≤ x.2 ∧ x.2 ≤ 1000 := by
  intro x hx
  have key : ∀ sd lo hi, -1000 ≤ lo → hi ≤ 1000 → x ∈ plc sd lo hi → -1000 ≤ x.2 ∧ x.2 ≤ 1000 := fun sd lo hi h1 h2 hx => by
    unfold plc PG.pl at hx
    obtain ⟨t, ht, rfl⟩ := List.mem_map.mp hx
    have := List.mem_range.mp ht
    dsimp only at this ⊢
    omega
  unfold plAB at hx
  split at hx
  · rcases List.mem_append.mp hx with hx | hx
    · exact key _ _ _ bb.1 bb.2 hx
    · exact key _ _ _ ba.1 ba.2 hx
  · rcases List.mem_append.mp hx with hx | hx
    · exact key _ _ _ ba.1 ba.2 hx
    · exact key _ _ _ bb.1 bb.2 hx
noncomputable def tV (c s : Int) : V → V
  | .int t => t3 (c, s, t)
  | v => v
theorem comp_t3 {lo hi : Int} {n : Nat} (c s : Int) (h : hi - lo = n) : (((List.range (hi - lo).toNat).map fun i => V.int (lo + (i : Nat))).filter fun _ => true).map (tV c s) = ((List.range n).map fun t => (c, s, lo + ((t : Nat) : Int))).map t3 := by
  rw [show (List.filter (fun _ => true) ((List.range (hi - lo).toNat).map fun i => V.int (lo + (i : Nat)))) = (List.range (hi - lo).toNat).map fun i => V.int (lo + (i : Nat)) from List.filter_eq_self.mpr fun _ _ => rfl, List.map_map, List.map_map, h, Int.toNat_natCast]
  rfl
section
variable {w : World} {E : HEP} {H : List O} {d ls la lb : Nat} {alo ahi blo bhi : Int} {A B : List Str} {Q : V → List O → Prop}
theorem due_ok (hl : H[ls]? = some (.list [.ref la, .ref lb])) (ha : H[la]? = some (lstR A)) (hb : H[lb]? = some (lstR B)) (hA : A.length ≤ 1000 ∧ ∀ x ∈ A, x.length ≤ 1000) (hB : B.length ≤ 1000 ∧ ∀ x ∈ B, x.length ≤ 1000)
    (ba : -1000 ≤ alo ∧ ahi ≤ 1000) (bb : -1000 ≤ blo ∧ bhi ≤ 1000) (wa : ahi - alo ≤ 4) (wb : bhi - blo ≤ 4)
    (h : ∀ H' l p, p = (if alo < ahi ∧ blo < bhi then tellAll A B (plAB alo ahi blo bhi) else ([], Str.ofString "refused")) → Kp H H' → H'[l]? = some (.list (p.1.map V.str)) → Q (.tup [.ref l, .str p.2]) H') :
    CallW pP w (KK w.params) (d + 1) E H (.st 329) [.ref ls, .int alo, .int ahi, .int blo, .int bhi] Q := by
  refine call_fn (fn_due w) (by rfl) (by rfl) ?_
  have e : initN (fScope (stAt 10)) ["lists", "alo", "ahi", "blo", "bhi"] [.ref ls, .int alo, .int ahi, .int blo, .int bhi] = uNm ls alo ahi blo bhi none none none none none none := by rfl
  rw [e]
  have bad : ¬ (alo < ahi ∧ blo < bhi) → KFn Q (.ret (.tup [.ref H.length, .str (Str.ofString "refused")])) [] (H ++ [.list []]) := fun c => h _ _ _ (if_neg c).symm (Kp.app) List.getElem?_concat_length
  refine wd_seq ?_
  repeat (walk_at "w")
  unfold KOr
  by_cases c1 : alo < ahi
  case neg =>
    rw [if_pos (decide_eq_true (show alo ≥ ahi by omega))]
    refine ksi_p rfl ?_
    repeat (walk_at "w")
    refine ⟨by show 0 ≤ sizeLine; decide, ?_⟩
    repeat (walk_at "w")
    refine ⟨by show 2 ≤ sizeLine; decide, ?_⟩
    exact bad fun c => c1 c.1
  rw [if_neg (fun q => by have := of_decide_eq_true q; omega)]
  repeat (walk_at "w")
  by_cases c2 : blo < bhi
  case neg =>
    refine ksi_p (decide_eq_true (show blo ≥ bhi by omega)) ?_
    repeat (walk_at "w")
    refine ⟨by show 0 ≤ sizeLine; decide, ?_⟩
    repeat (walk_at "w")
    refine ⟨by show 2 ≤ sizeLine; decide, ?_⟩
    exact bad fun c => c2 c.2
  refine ksi_n (fun q => by have := of_decide_eq_true q; omega) ?_
  obtain ⟨na, hna⟩ := Int.eq_ofNat_of_zero_le (show 0 ≤ ahi - alo by omega)
  obtain ⟨nb, hnb⟩ := Int.eq_ofNat_of_zero_le (show 0 ≤ bhi - blo by omega)
  have cc : alo < ahi ∧ blo < bhi := ⟨c1, c2⟩
  have hgo : ∀ H' l p, p = tellAll A B (plAB alo ahi blo bhi) → Kp H H' → H'[l]? = some (.list (p.1.map V.str)) → Q (.tup [.ref l, .str p.2]) H' := fun H' l p e => h H' l p (e.trans (if_pos cc).symm)
  clear h bad
  refine wb_nil ?_
  refine wd_seq ?_
  refine ws_comp ⟨by decide, by decide, by rfl, by dsimp only; decide⟩ (.inl (by rfl)) ?_ (fun env he => by unfold swapsWith Env.blockKind Env.kindOf; rw [he]; rfl)
  repeat (walk_at "w")
  refine comp_pure (fun _ => true) (tV na 0) (iw_range (by omega) (by omega)) trivial (by rw [List.length_map, List.length_range]; exact Nat.le_trans (show (ahi - alo).toNat ≤ 4 by omega) (by decide)) ?_ ?_
  · intro x hx
    obtain ⟨t, ht, rfl⟩ := List.mem_map.mp hx
    refine wa_name (.inl (by rfl)) ⟨rfl, rfl, rfl, fun _ => ?_⟩
    repeat (walk_at "w")
    refine ⟨by show 3 ≤ sizeLine; decide, ?_⟩
    rw [hna]
    exact ⟨rfl, rfl⟩
  rw [comp_t3 _ _ hna]
  repeat (walk_at "w")
  refine we_comp ⟨by decide, by decide, by rfl, by dsimp only; decide⟩ ?_
  repeat (walk_at "w")
  refine comp_pure (fun _ => true) (tV nb 1) (iw_range (by omega) (by omega)) trivial (by rw [List.length_map, List.length_range]; exact Nat.le_trans (show (bhi - blo).toNat ≤ 4 by omega) (by decide)) ?_ ?_
  · intro x hx
    obtain ⟨t, ht, rfl⟩ := List.mem_map.mp hx
    refine wa_name (.inl (by rfl)) ⟨rfl, rfl, rfl, fun _ => ?_⟩
    repeat (walk_at "w")
    refine ⟨by show 3 ≤ sizeLine; decide, ?_⟩
    rw [hnb]
    exact ⟨rfl, rfl⟩
  rw [comp_t3 _ _ hnb]
  repeat (walk_at "w")
  refine add_ll (l := H.length) (xs := ((List.range na).map fun t => ((na : Int), (0 : Int), alo + (t : Nat))).map t3) (ys := ((List.range nb).map fun t => ((nb : Int), (1 : Int), blo + (t : Nat))).map t3) (keep1 List.getElem?_concat_length) (List.getElem?_concat_length) (by simp only [List.length_map, List.length_range]; exact Nat.le_trans (show na + nb ≤ 8 by omega) (by decide)) ?_
  rw [← List.map_append, show (List.range na).map (fun t => ((na : Int), (0 : Int), alo + (t : Nat))) ++ (List.range nb).map (fun t => ((nb : Int), (1 : Int), blo + (t : Nat))) = tsAB na nb alo blo from rfl]
  repeat (walk_at "w")
  refine ⟨by show 0 ≤ sizeLine; decide, ?_⟩
  repeat (walk_at "w")
  refine wd_for ?_
  repeat (walk_at "w")
  refine sorted_t3 (ts := tsAB na nb alo blo) (p := outAB na nb) (.inl (keep1 List.getElem?_concat_length)) ?_ ?_ ?_ ?_ ?_
  · unfold tsAB; rw [List.length_append, List.length_map, List.length_map, List.length_range, List.length_range]; omega
  · unfold tsAB; rw [List.length_append, List.length_map, List.length_map, List.length_range, List.length_range]; omega
  · have e5 : (tsAB na nb alo blo).length = na + nb := by unfold tsAB; rw [List.length_append, List.length_map, List.length_map, List.length_range, List.length_range]
    rw [e5]; exact ts_sort (by omega) (by omega) (by omega) (by omega)
  · have e5 : (tsAB na nb alo blo).length = na + nb := by unfold tsAB; rw [List.length_append, List.length_map, List.length_map, List.length_range, List.length_range]
    rw [e5]; exact out_lt
  rw [ts_out hna hnb]
  have k3 : Kp H (H ++ [O.list (((List.range na).map fun t => ((na : Int), (0 : Int), alo + (t : Nat))).map t3)] ++ [O.list (((List.range nb).map fun t => ((nb : Int), (1 : Int), blo + (t : Nat))).map t3)] ++ [O.list ((tsAB na nb alo blo).map t3)]) := (Kp.app).trans ((Kp.app).trans (Kp.app))
  generalize hH3 : H ++ [O.list (((List.range na).map fun t => ((na : Int), (0 : Int), alo + (t : Nat))).map t3)] ++ [O.list (((List.range nb).map fun t => ((nb : Int), (1 : Int), blo + (t : Nat))).map t3)] ++ [O.list ((tsAB na nb alo blo).map t3)] = H3 at k3 ⊢
  clear hH3
  have hlen8 := plAB_len wa wb
  have hbd := plAB_bd ba bb
  have e8 : (H3 ++ [O.list []]).length = H3.length + 1 := by rw [List.length_append]; rfl
  have es : (H3 ++ [O.list []] ++ [O.list ((plAB alo ahi blo bhi).map (plV na nb))])[H3.length + 1]? = some (.list ((plAB alo ahi blo bhi).map (plV na nb))) := by rw [← e8]; exact List.getElem?_concat_length
  refine ⟨(plAB alo ahi blo bhi).map (plV na nb), _, iw_list (.inl (by rw [e8]; exact es)), fun k m H' => ∃ (rs : List Str) (ps sz sd pl rw : Option V), m = uNm ls alo ahi blo bhi ps (some (.ref H3.length)) sz sd pl rw ∧ Kp H3 H' ∧ H'[H3.length]? = some (.list (rs.map V.str)) ∧ H'[H3.length + 1]? = some (.list ((plAB alo ahi blo bhi).map (plV na nb))) ∧ rs.length ≤ k ∧ k ≤ 8 ∧ (rs ++ (tellAll A B ((plAB alo ahi blo bhi).drop k)).1, (tellAll A B ((plAB alo ahi blo bhi).drop k)).2) = tellAll A B (plAB alo ahi blo bhi), ⟨[], _, _, _, _, _, rfl, (Kp.app).trans (Kp.app), keep1 List.getElem?_concat_length, es, Nat.le_refl _, by omega, rfl⟩, ?_, ?_, ?_⟩
  · rintro k m H' ⟨rs, ps, sz, sd, pl, rw, rfl, kp, hd, hs, _⟩
    rw [e8]; exact .inl hs
  · rintro k x m H' hx ⟨rs, ps, sz, sd, pl, rw, rfl, kp, hd, hs, hrs, hk8, he⟩
    rw [List.getElem?_map] at hx
    obtain ⟨⟨sb, p⟩, hy, rfl⟩ := Option.map_eq_some_iff.mp hx
    have hkl : k < (plAB alo ahi blo bhi).length := (List.getElem?_eq_some_iff.mp hy).1
    have hdr : (plAB alo ahi blo bhi).drop k = (sb, p) :: (plAB alo ahi blo bhi).drop (k + 1) := by
      rw [List.drop_eq_getElem_cons hkl]
      congr 1
      rw [List.getElem?_eq_getElem hkl] at hy
      exact Option.some.inj hy
    rw [hdr] at he
    obtain ⟨p1, p2⟩ := hbd _ (List.mem_of_getElem? hy)
    dsimp only at p1 p2
    obtain ⟨R, hR, li, hli, hlr⟩ : ∃ R, R = (if sb = true then B else A) ∧ ∃ li, li = (if sb = true then lb else la) ∧ H[li]? = some (lstR R) := ⟨_, rfl, _, rfl, by cases sb <;> first | exact ha | exact hb⟩
    have hRz : R.length ≤ 1000 ∧ ∀ x ∈ R, x.length ≤ 1000 := by rw [hR]; cases sb <;> first | exact hA | exact hB
    have hrow : rowOf A B (sb, p) = (pyAt R p).map fun y => tagS sb ++ sp ++ y := by unfold rowOf; rw [hR]
    rw [show plV na nb (sb, p) = .tup [.int (if sb = true then nb else na), .int (if sb = true then 1 else 0), .int p] from rfl]
    walk_at "w"
    refine unp_tup (by rfl) ?_
    refine wa_name (.inl (by rfl)) ?_
    refine wa_name (.inl (by rfl)) ?_
    refine wa_name (.inl (by rfl)) ?_
    refine wd_seq ?_
    repeat (walk_at "w")
    have hg : (if sb = true then (1 : Int) else 0) = ((if sb = true then 1 else 0 : Nat) : Int) := by cases sb <;> rfl
    rw [hg]
    refine get_li (xs := [.ref la, .ref lb]) (.inl ((k3.trans kp).1 _ _ hl)) (Int.natCast_nonneg _) (by cases sb <;> decide) (x := .ref li) (by rw [hli]; cases sb <;> rfl) ?_
    repeat (walk_at "w")
    refine len_l (xs := R.map V.str) (.inl ((k3.trans kp).1 _ _ hlr)) (by rw [List.length_map]; exact Nat.le_trans hRz.1 (by decide)) ?_
    rw [List.length_map]
    repeat (walk_at "w")
    unfold KOr
    have fin : rowOf A B (sb, p) = none → KFn Q (.ret (.tup [.ref H3.length, .str (Str.ofString "list index out of range")])) [] H' := fun hn => by
      rw [tell_none hn, List.append_nil] at he
      have := hgo H' H3.length _ he (k3.trans kp) (by exact hd)
      exact this
    by_cases d1 : p < -(R.length : Int)
    · rw [if_pos (decide_eq_true d1)]
      refine ksi_p rfl ?_
      repeat (walk_at "w")
      refine ⟨by show 2 ≤ sizeLine; decide, ?_⟩
      exact fin (by rw [hrow, py_none (.inl d1)]; rfl)
    rw [if_neg (fun q => d1 (of_decide_eq_true q))]
    repeat (walk_at "w")
    refine len_l (xs := R.map V.str) (.inl ((k3.trans kp).1 _ _ hlr)) (by rw [List.length_map]; exact Nat.le_trans hRz.1 (by decide)) ?_
    rw [List.length_map]
    repeat (walk_at "w")
    by_cases d2 : p ≥ (R.length : Int)
    · refine ksi_p (decide_eq_true d2) ?_
      repeat (walk_at "w")
      refine ⟨by show 2 ≤ sizeLine; decide, ?_⟩
      exact fin (by rw [hrow, py_none (.inr d2)]; rfl)
    refine ksi_n (fun q => d2 (of_decide_eq_true q)) ?_
    obtain ⟨y, hy1, hy2⟩ := py_some (R := R) (p := p) (by omega) (by omega)
    have hyl : y.length ≤ 1000 := by
      rcases List.mem_append.mp (List.mem_of_getElem? hy2) with q | q
      · exact hRz.2 _ q
      · exact hRz.2 _ q
    have hro : rowOf A B (sb, p) = some (tagS sb ++ sp ++ y) := by rw [hrow, hy1]; rfl
    rw [tell_some hro] at he
    refine wb_nil ?_
    repeat (walk_at "w")
    refine ⟨_, meth_append hd, trivial, ?_⟩
    repeat (walk_at "w")
    refine ⟨by show 2 ≤ sizeLine; decide, ?_⟩
    repeat (walk_at "w")
    have hll := (k3.trans kp).1 _ _ hlr
    have hlR : (R.map V.str).length = R.length := List.length_map _
    refine get_li (xs := [.str (Str.ofString "- "), .str (Str.ofString "+ ")]) (i := ((if sb = true then 1 else 0 : Nat) : Int)) (.inl List.getElem?_concat_length) (Int.natCast_nonneg _) (by cases sb <;> decide) (x := .str (tagS sb ++ sp)) (by cases sb <;> rfl) ?_
    repeat (walk_at "w")
    refine add_ll (l := li) (r := li) (xs := R.map V.str) (ys := R.map V.str) (keep1 hll) (keep1 hll) (by rw [hlR]; exact Nat.le_trans (show R.length + R.length ≤ 2000 by omega) (by decide)) ?_
    repeat (walk_at "w")
    refine len_l (xs := R.map V.str) (.inl (keep1 (keep1 hll))) (by rw [hlR]; exact Nat.le_trans hRz.1 (by decide)) ?_
    rw [hlR]
    repeat (walk_at "w")
    refine get_li (xs := R.map V.str ++ R.map V.str) (x := .str y) (.inl List.getElem?_concat_length) (by omega) (by omega) (by rw [← List.map_append, List.getElem?_map, hy2]; rfl) ?_
    repeat (walk_at "w")
    refine add_ss (Nat.le_trans (show (tagS sb ++ sp).length + y.length ≤ 1002 by (have : (tagS sb ++ sp).length = 2 := by cases sb <;> rfl); omega) (by decide)) ?_
    repeat (walk_at "w")
    refine app_l (xs := rs.map V.str) (keep1 (keep1 hd)) (by rw [List.length_map]; exact Nat.le_trans (show rs.length ≤ 8 by omega) (by decide)) ?_
    repeat (walk_at "w")
    refine ⟨rs ++ [tagS sb ++ sp ++ y], _, _, _, _, _, rfl, (kp.trans ((Kp.app).trans (Kp.app))).set (Nat.le_refl _), ?_, ?_, ?_, ?_, ?_⟩
    · rw [List.getElem?_set_self (List.getElem?_eq_some_iff.mp (keep1 (keep1 hd))).1, List.map_append]; rfl
    · rw [List.getElem?_set_ne (Nat.ne_of_lt (Nat.lt_succ_self _))]; exact keep1 (keep1 hs)
    · rw [List.length_append]; exact Nat.succ_le_succ hrs
    · omega
    · rw [List.append_assoc]; exact he
  · rintro m H' ⟨rs, ps, sz, sd, pl, rw, rfl, kp, hd, hs, hrs, hk8, he⟩
    rw [List.length_map, List.drop_length, tell_nil, List.append_nil] at he
    have := hgo H' H3.length _ he (k3.trans kp) hd
    repeat (walk_at "w")
    refine ⟨by show 2 ≤ sizeLine; decide, ?_⟩
    exact this
end
end
section
set_option pp.maxSteps 2500


local macro_rules | `(tactic| walk_at "nm") => `(tactic| first | refine we_glob (by rfl) (g_differ _) ?_ | refine we_biT (by rfl) (g_list _) b_list ?_ | refine we_biF (by rfl) (g_len _) b_len ?_ | refine we_glob (by rfl) (g_due _) ?_ | refine we_glob (by rfl) (g_told _) ?_)
local macro_rules | `(tactic| walk_at "w") => `(tactic| ((with_reducible refine (?_ : Callee _ _ ∧ _)); refine ⟨by first | exact c_differ _ | exact c_plain _ | exact c_due _ | exact c_told _, ?_⟩))
noncomputable abbrev fi7 (w : World) : FI := ⟨fScope (stAt 11), true, (fdOf (o336 w.params)).code⟩
noncomputable abbrev nm7 (ls bf ak xv av bv df cv dv rv : Option V) : Names := [nv "script" (.ref 0), ("lists", ls), ("before", bf), ("asked", ak), ("x", xv), ("alo", av), ("blo", bv), ("differ", df), ("ahi", cv), ("bhi", dv), ("reader", rv)]
/-- nothing sleeps in «yield from» -/
noncomputable def NY (H : List O) : Prop := ∀ (k : Nat) (x : O), H[k]? = some x → isY x = false
theorem NY.p {H : List O} (h : NY H) (p : Nat) : NYp p H := fun k x _ hx => h k x hx
theorem NY.of {H : List O} {p : Nat} {x : O} (h : NYp p H) (hx : H[p]? = some x) (ho : isY x = false) : NY H := fun k y hy => by
  by_cases q : k = p
  · subst q; rw [hx] at hy; cases hy; exact ho
  · exact h k y q hy
theorem NY.one {H : List O} {o : O} (h : NY H) (ho : isY o = false) : NY (H ++ [o]) := fun k x hx => by
  by_cases c : k < H.length
  · rw [List.getElem?_append_left c] at hx; exact h k x hx
  · rw [List.getElem?_append_right (Nat.le_of_not_lt c)] at hx
    rw [List.mem_singleton.mp (List.mem_of_getElem? hx)]; exact ho
theorem NY.kp {H H' : List O} (h : NY H) (k : Kp H H') : NY H' := fun j x hx => k.2 (j + 1) (h.p _) j x (by omega) hx
/-- a question -/
noncomputable abbrev Ask := Int × Int × Int × Int
noncomputable def t4 (x : Ask) : V := .tup [.int x.1, .int x.2.1, .int x.2.2.1, .int x.2.2.2]
noncomputable def AskOk (x : Ask) : Prop := -100 ≤ x.1 ∧ x.1 ≤ 100 ∧ x.2.1 ≤ x.1 + 4 ∧ x.1 - 1 ≤ x.2.1 ∧ -100 ≤ x.2.2.1 ∧ x.2.2.1 ≤ 100 ∧ x.2.2.2 ≤ x.2.2.1 + 4 ∧ x.2.2.1 - 1 ≤ x.2.2.2
/-- what the loop over the questions has at hand -/
structure L7 (A B : List Str) (ls la lb bs ca cb ak df : Nat) (as : List Ask) (H : List O) : Prop where
  ls : H[ls]? = some (.list [.ref la, .ref lb])
  la : H[la]? = some (lstR A)
  lb : H[lb]? = some (lstR B)
  bs : H[bs]? = some (.list [.ref ca, .ref cb])
  ca : H[ca]? = some (lstR A)
  cb : H[cb]? = some (lstR B)
  ak : H[ak]? = some (.list (as.map t4))
  df : H[df]? = some (.inst 313 dFs)
  ny : NY H
theorem L7.kp {A B : List Str} {ls la lb bs ca cb ak df : Nat} {as : List Ask} {H H' : List O} (h : L7 A B ls la lb bs ca cb ak df as H) (k : ∀ (j : Nat) (x : O), nrit x → (∀ fi b m, x ≠ .fresh fi b m) → H[j]? = some x → H'[j]? = some x) (ny : NY H') : L7 A B ls la lb bs ca cb ak df as H' :=
  ⟨k _ _ trivial (fun _ _ _ q => nomatch q) h.ls, k _ _ trivial (fun _ _ _ q => nomatch q) h.la, k _ _ trivial (fun _ _ _ q => nomatch q) h.lb, k _ _ trivial (fun _ _ _ q => nomatch q) h.bs, k _ _ trivial (fun _ _ _ q => nomatch q) h.ca, k _ _ trivial (fun _ _ _ q => nomatch q) h.cb, k _ _ trivial (fun _ _ _ q => nomatch q) h.ak, k _ _ trivial (fun _ _ _ q => nomatch q) h.df, ny⟩
noncomputable def Rws (A : List Str) : Prop := A.length ≤ 1000 ∧ ∀ x ∈ A, x.length ≤ 1000
section
variable {w : World} {A B : List Str} {ls la lb bs ca cb ak df : Nat} {as : List Ask} {H : List O} {d : Nat} {Q : Fl → Names → List O → Prop} {xv av bv cv dv rv : Option V}
/-- the test of a turn -/
theorem cmp7 {E : EP} {H : List O} {i : Nat} {alo ahi blo bhi : Int} {Qb : Bool → List O → Prop} (h : L7 A B ls la lb bs ca cb ak df as H) (hA : Rws A) (hB : Rws B) (ho : AskOk (alo, ahi, blo, bhi)) (hi : H[i]? = some (.fresh (pFi w) (fBody (stIn 7 4)) (pNm df la alo ahi lb blo bhi none none none))) (hb : ∀ H', L7 A B ls la lb bs ca cb ak df as H' → H'[i]? = some .done → Qb false H') {p1 p2 p3 p4 p5 p6 p7 p8 p9 p10 p11 : Pos} :
    WTU pP w (KK w.params) (fi7 w) (d + 5) E (nm7 (some (.ref ls)) (some (.ref bs)) (some (.ref ak)) xv (some (.int alo)) (some (.int blo)) (some (.ref df)) (some (.int ahi)) (some (.int bhi)) (some (.ref i))) H
      (.Compare (.Call (.Name "_law_told" p1) [.Name "reader" p2] [] p3) [.NotEq] [.Call (.Name "_law_due" p4) [.Name "lists" p5, .Name "alo" p6, .Name "ahi" p7, .Name "blo" p8, .Name "bhi" p9] [] p10] p11) Qb := by
  refine wtu_cmp ?_
  refine weu_call (a := 324) (by show keepIn _ _ = true; kernel_rfl) ?_
  repeat (walk_at "w")
  refine ⟨rfl, ?_⟩
  repeat (walk_at "w")
  have hil : i < H.length := (List.getElem?_eq_some_iff.mp hi).1
  have nei : ∀ {k : Nat} {o : O}, H[k]? = some o → (∀ fi b m, o ≠ .fresh fi b m) → k ≠ i := fun hk hn q => by subst q; rw [hi] at hk; exact hn _ _ _ (Option.some.inj hk).symm
  have hlt : ∀ {k : Nat} {o : O}, H[k]? = some o → k < H.length := fun hk => (List.getElem?_eq_some_iff.mp hk).1
  obtain ⟨o1, o2, o3, o4, o5, o6, o7, o8⟩ := ho
  dsimp only at o1 o2 o3 o4 o5 o6 o7 o8
  refine told_ok (A := A) (B := B) ⟨h.la, h.lb, ⟨nei h.la (fun _ _ _ q => nomatch q), hlt h.la⟩, ⟨nei h.lb (fun _ _ _ q => nomatch q), hlt h.lb⟩, hA, hB⟩ h.df hi ⟨by omega, by omega⟩ ⟨by omega, by omega⟩ (Nat.le_trans (plAB_len (by omega) (by omega)) (by decide)) fun H' p hp ag hd hl => ?_
  have ny' : NY H' := NY.of (ag.2 (h.ny.p i)) hd rfl
  have k1 : ∀ (j : Nat) (x : O), nrit x → (∀ fi b m, x ≠ .fresh fi b m) → H[j]? = some x → H'[j]? = some x := fun j x nr nf hx => ag.1 j x (nei hx nf) (hlt hx) hx nr
  have h' := h.kp k1 ny'
  repeat (walk_at "w")
  refine due_ok h'.ls h'.la h'.lb hA hB ⟨by omega, by omega⟩ ⟨by omega, by omega⟩ (by omega) (by omega) fun H'' l p' hp' kp hl' => ?_
  rw [← hp] at hp'
  subst hp'
  repeat (walk_at "w")
  have eq2 : EqV w (KK w.params) H'' 2 (.tup [.ref H.length, .str p'.2]) (.tup [.ref l, .str p'.2]) true := by
    have := eqv_tupP (w := w) (KF := KK w.params) (H := H'') (k := 1) (xs := [.ref H.length, .str p'.2]) (ys := [.ref l, .str p'.2]) (e := fun x y => match x, y with | .ref _, .ref _ => true | .str a, .str b => a == b | _, _ => false) fun j x y hx hy => by
      rcases j with _ | _ | j
      · cases hx; cases hy
        have := eqv_strs (w := w) (KF := KK w.params) (kp.1 _ _ hl) hl'
        rw [decide_eq_true rfl] at this
        exact this
      · cases hx; cases hy; exact eqv_str
      · cases hx
    have e : allB [.ref H.length, .str p'.2] [.ref l, .str p'.2] (fun x y => match x, y with | .ref _, .ref _ => true | .str a, .str b => a == b | _, _ => false) = true := by
      unfold allB atB
      show ((2 == 2) && ((true) && ((p'.2 == p'.2) && true))) = true
      rw [show (p'.2 == p'.2) = true from beq_self_eq_true _]; rfl
    rw [e] at this
    exact this
  refine ne_of_eqv (by decide) eq2 ?_
  repeat (walk_at "w")
  exact hb _ (h'.kp (fun j x _ _ hx => kp.1 j x hx) (ny'.kp kp)) (kp.1 _ _ hd)
theorem done_gen {F : Base} {ρ : List Ent} {s : Shared} {en : Ent} {i : Nat} (S : HSim w (KK w.params) F ρ H s.heap s.gens) (he : ρ[i]? = some en) (hi : H[i]? = some .done) : ∃ g, GenAt s.heap en.a g 0 := by
  obtain ⟨g, _, _, _, _, h⟩ := S.ob i en _ he hi
  exact ⟨g, h⟩
/-- a turn of the loop over the questions -/
theorem turn7 {alo ahi blo bhi : Int} (h : L7 A B ls la lb bs ca cb ak df as H) (hA : Rws A) (hB : Rws B) (ho : AskOk (alo, ahi, blo, bhi))
    (hQ : ∀ H' rv, L7 A B ls la lb bs ca cb ak df as H' → Q .next (nm7 (some (.ref ls)) (some (.ref bs)) (some (.ref ak)) xv (some (.int alo)) (some (.int blo)) (some (.ref df)) (some (.int ahi)) (some (.int bhi)) rv) H') :
    WBU pP w (KK w.params) (fi7 w) (d + 5) (fun _ _ _ => False) (nm7 (some (.ref ls)) (some (.ref bs)) (some (.ref ak)) xv (some (.int alo)) (some (.int blo)) (some (.ref df)) (some (.int ahi)) (some (.int bhi)) rv) H (match (fBody (stAt 11)).getD 6 (.Pass default) with | .For _ _ b _ _ => b | _ => []) Q := by
  refine wu_quiet ?_
  repeat (walk_at "w")
  refine ⟨_, meth_plain h.df, c_plain _, ?_⟩
  repeat (walk_at "w")
  refine get_li (xs := [.ref la, .ref lb]) (.inl h.ls) (by decide) (by decide) rfl ?_
  repeat (walk_at "w")
  refine get_li (xs := [.ref la, .ref lb]) (.inl h.ls) (by decide) (by decide) rfl ?_
  repeat (walk_at "w")
  refine call_gen (fn_plain w) (by rfl) (by rfl) ?_
  repeat (walk_at "w")
  have h1 : L7 A B ls la lb bs ca cb ak df as (H ++ [.fresh (pFi w) (fBody (stIn 7 4)) (pNm df la alo ahi lb blo bhi none none none)]) := h.kp (fun j x _ _ hx => keep1 hx) (h.ny.one rfl)
  refine wu_seq ?_
  refine wu_if ?_
  refine wtu_or ?_
  refine cmp7 (i := H.length) h1 hA hB ho List.getElem?_concat_length fun H' h' hd => ?_
  rw [if_neg Bool.false_ne_true]
  refine wtu_cmp ?_
  refine weu_callT (T := "list") ?_
  repeat (walk_at "w")
  refine ⟨rfl, ?_⟩
  repeat (walk_at "w")
  refine list_tels (d := d + 3) (xs := []) (Nat.zero_le _) (askW (asks_done hd ⟨rfl, ?_⟩)) fun F ρ s en S he => done_gen S he hd
  repeat (walk_at "w")
  refine ⟨by show 0 ≤ sizeLine; decide, ?_⟩
  repeat (walk_at "w")
  refine ne_of_eqv (by decide) (eqv_strs (xs := []) (ys := []) (keep1 List.getElem?_concat_length) List.getElem?_concat_length) ?_
  repeat (walk_at "w")
  refine wu_nil ?_
  refine wu_nil ?_
  exact hQ _ _ ((h'.kp (fun j x _ _ hx => keep1 hx) (h'.ny.one rfl)).kp (fun j x _ _ hx => keep1 hx) ((h'.ny.one rfl).one rfl))
end
end
section
set_option pp.maxSteps 2500


local macro_rules | `(tactic| walk_at "nm") => `(tactic| first | refine we_glob (by rfl) (g_differ _) ?_ | refine we_biT (by rfl) (g_list _) b_list ?_ | refine we_biF (by rfl) (g_len _) b_len ?_ | refine we_glob (by rfl) (g_due _) ?_ | refine we_glob (by rfl) (g_told _) ?_)
local macro_rules | `(tactic| walk_at "w") => `(tactic| ((with_reducible refine (?_ : Callee _ _ ∧ _)); refine ⟨by first | exact c_differ _ | exact c_plain _ | exact c_due _ | exact c_told _, ?_⟩))
noncomputable def RA : List Str := ["- a", "+ b", "  c", "? d", ""]
noncomputable def RB : List Str := ["+ e", "f", "- g"]
noncomputable def q0 : List Ask := [(1, 3, 0, 2), (-2, 1, 1, 2), (0, 2, 1, 1)]
noncomputable def askOf (x : Int) : Ask := (x.fmod 11 - 6, x.fmod 11 - 6 + (x.fdiv 11).fmod 6 - 1, (x.fdiv 66).fmod 9 - 4, (x.fdiv 66).fmod 9 - 4 + (x.fdiv 594).fmod 6 - 1)
theorem askOf_ok (x : Int) : AskOk (askOf x) := by
  have a1 := Int.fmod_nonneg_of_pos x (b := 11) (by decide)
  have a2 := Int.fmod_lt_of_pos x (b := 11) (by decide)
  have b1 := Int.fmod_nonneg_of_pos (x.fdiv 11) (b := 6) (by decide)
  have b2 := Int.fmod_lt_of_pos (x.fdiv 11) (b := 6) (by decide)
  have c1 := Int.fmod_nonneg_of_pos (x.fdiv 66) (b := 9) (by decide)
  have c2 := Int.fmod_lt_of_pos (x.fdiv 66) (b := 9) (by decide)
  have d1 := Int.fmod_nonneg_of_pos (x.fdiv 594) (b := 6) (by decide)
  have d2 := Int.fmod_lt_of_pos (x.fdiv 594) (b := 6) (by decide)
  unfold AskOk askOf
  dsimp only
  omega
theorem q0_ok : ∀ a ∈ q0, AskOk a := by
  intro a ha
  rcases List.mem_cons.mp ha with rfl | ha
  · unfold AskOk; decide
  rcases List.mem_cons.mp ha with rfl | ha
  · unfold AskOk; decide
  rw [List.mem_singleton.mp ha]
  unfold AskOk; decide
section
variable {w : World} {A B : List Str} {ls la lb : Nat} {H : List O} {d : Nat} {Q : V → List O → Prop} {ns : List Int}
theorem rest7 (h0 : H[0]? = some (.arr (ns.map V.int))) (hn : ns.length ≤ 63) (hls : H[ls]? = some (.list [.ref la, .ref lb])) (hla : H[la]? = some (lstR A)) (hlb : H[lb]? = some (lstR B)) (ny : NY H) (hA : Rws A) (hB : Rws B) (hQ : ∀ H' : List O, NY H' → Q (.bool true) H') :
    WBU pP w (KK w.params) (fi7 w) (d + 5) (fun _ _ _ => False) (nm7 (some (.ref ls)) none none none none none none none none none) H ((fBody (stAt 11)).drop 2) (KFn Q) := by
  refine wu_quiet ?_
  repeat (walk_at "w")
  refine get_li (xs := [.ref la, .ref lb]) (.inl hls) (by decide) (by decide) rfl ?_
  repeat (walk_at "w")
  refine list_l (.inl hla) (by rw [List.length_map]; exact Nat.le_trans hA.1 (by decide)) ?_
  repeat (walk_at "w")
  refine get_li (xs := [.ref la, .ref lb]) (.inl (keep1 hls)) (by decide) (by decide) rfl ?_
  repeat (walk_at "w")
  refine list_l (.inl (keep1 hlb)) (by rw [List.length_map]; exact Nat.le_trans hB.1 (by decide)) ?_
  repeat (walk_at "w")
  refine ⟨by show 2 ≤ sizeLine; decide, ?_⟩
  repeat (walk_at "w")
  refine wu_quiet ?_
  repeat (walk_at "w")
  refine ⟨by show 4 ≤ sizeLine; decide, ?_⟩
  repeat (walk_at "w")
  refine ⟨by show 4 ≤ sizeLine; decide, ?_⟩
  repeat (walk_at "w")
  refine ⟨by show 4 ≤ sizeLine; decide, ?_⟩
  repeat (walk_at "w")
  refine ⟨by show 3 ≤ sizeLine; decide, ?_⟩
  repeat (walk_at "w")
  have hP : ∃ P : List O, P = H ++ [O.list (A.map V.str)] ++ [O.list (B.map V.str)] ++ [O.list [V.ref H.length, V.ref (H ++ [O.list (A.map V.str)]).length]] := ⟨_, rfl⟩
  have hbs : ∃ bs, bs = (H ++ [O.list (A.map V.str)] ++ [O.list (B.map V.str)]).length := ⟨_, rfl⟩
  obtain ⟨P, hP⟩ := hP
  obtain ⟨bs, hbs⟩ := hbs
  have p0 : P[0]? = some (.arr (ns.map V.int)) := by rw [hP]; exact keep1 (keep1 (keep1 h0))
  have pl : P[ls]? = some (.list [.ref la, .ref lb]) := by rw [hP]; exact keep1 (keep1 (keep1 hls))
  have pa : P[la]? = some (lstR A) := by rw [hP]; exact keep1 (keep1 (keep1 hla))
  have pb : P[lb]? = some (lstR B) := by rw [hP]; exact keep1 (keep1 (keep1 hlb))
  have pc : P[H.length]? = some (lstR A) := by rw [hP]; exact keep1 (keep1 List.getElem?_concat_length)
  have pd : P[(H ++ [O.list (A.map V.str)]).length]? = some (lstR B) := by rw [hP]; exact keep1 List.getElem?_concat_length
  have pe : P[bs]? = some (.list [.ref H.length, .ref (H ++ [O.list (A.map V.str)]).length]) := by rw [hP, hbs]; exact List.getElem?_concat_length
  have pn : NY P := by rw [hP]; exact ((ny.one rfl).one rfl).one rfl
  rw [← hP, ← hbs]
  generalize hcb : (H ++ [O.list (A.map V.str)]).length = cb at pd pe
  generalize H.length = ca at pc pe
  clear hP hbs hcb h0 hls hla hlb ny
  refine wu_quiet ?_
  refine wd_for ?_
  repeat (walk_at "w")
  have hset : ∀ x y : O, (P ++ [x]).set P.length y = P ++ [y] := fun x y => by rw [List.set_append_right _ _ (Nat.le_refl _), Nat.sub_self]; rfl
  refine ⟨_, _, iw_list (.inr (keep1 p0)), fun k m H' => ∃ (as : List Ask) (xv av bv : Option V), m = nm7 (some (.ref ls)) (some (.ref bs)) (some (.ref P.length)) xv av bv none none none none ∧ H' = P ++ [.list (as.map t4)] ∧ as.length ≤ 3 + k ∧ k ≤ 63 ∧ ∀ a ∈ as, AskOk a, ⟨q0, _, _, _, rfl, rfl, Nat.le_refl _, Nat.zero_le _, q0_ok⟩, ?_, ?_, ?_⟩
  · rintro k m H' ⟨as, xv, av, bv, rfl, rfl, _⟩
    exact .inr (keep1 p0)
  · rintro k x m H' hx ⟨as, xv, av, bv, rfl, rfl, has, hk, hok⟩
    rw [List.getElem?_map] at hx
    obtain ⟨n, hn', rfl⟩ := Option.map_eq_some_iff.mp hx
    have hi : k < ns.length := (List.getElem?_eq_some_iff.mp hn').1
    refine wa_name (.inl (by rfl)) ?_
    refine wd_seq ?_
    refine ws_swap (xs := ["alo", "blo"]) (fun x hx => ?_) ?_ (fun env he => by unfold swappedStores Env.blockKind Env.kindOf; rw [he]; rfl)
    · rcases List.mem_cons.mp hx with rfl | hx
      · exact .inl (by rfl)
      · rw [List.mem_singleton.mp hx]; exact .inl (by rfl)
    repeat (walk_at "w")
    refine ⟨by show 2 ≤ sizeLine; decide, ?_⟩
    refine unp_tup rfl ?_
    refine ⟨rfl, ?_⟩
    repeat (walk_at "w")
    refine ⟨_, meth_append List.getElem?_concat_length, trivial, ?_⟩
    repeat (walk_at "w")
    refine ⟨by show 4 ≤ sizeLine; decide, ?_⟩
    repeat (walk_at "w")
    refine app_l (xs := as.map t4) List.getElem?_concat_length (by rw [List.length_map]; exact Nat.le_trans (show as.length ≤ 66 by omega) (by decide)) ?_
    repeat (walk_at "w")
    refine ⟨as ++ [askOf n], _, _, _, rfl, ?_, ?_, by omega, fun a ha => ?_⟩
    · rw [hset, List.map_append]; rfl
    · rw [List.length_append]; show as.length + 1 ≤ _; omega
    · rcases List.mem_append.mp ha with ha | ha
      · exact hok a ha
      · rw [List.mem_singleton.mp ha]; exact askOf_ok n
  · rintro m H' ⟨as, xv, av, bv, rfl, rfl, has, hk, hok⟩
    refine wu_quiet ?_
    repeat (walk_at "w")
    refine differ_ok (d := d + 3) ?_
    repeat (walk_at "w")
    have L : L7 A B ls la lb bs ca cb P.length (P ++ [O.list (as.map t4)]).length as (P ++ [O.list (as.map t4)] ++ [.inst 313 dFs]) :=
      ⟨keep1 (keep1 pl), keep1 (keep1 pa), keep1 (keep1 pb), keep1 (keep1 pe), keep1 (keep1 pc), keep1 (keep1 pd), keep1 List.getElem?_concat_length, List.getElem?_concat_length, (pn.one rfl).one rfl⟩
    generalize (P ++ [O.list (as.map t4)]).length = df at L ⊢
    generalize P ++ [O.list (as.map t4)] ++ [.inst 313 dFs] = H1 at L ⊢
    generalize P.length = ak at L ⊢
    refine wu_seq ?_
    refine wu_for ?_
    repeat (walk_at "w")
    refine ⟨_, _, iw_list (.inl L.ak), fun k m H' => ∃ (xv av bv cv dv rv : Option V), m = nm7 (some (.ref ls)) (some (.ref bs)) (some (.ref ak)) xv av bv (some (.ref df)) cv dv rv ∧ L7 A B ls la lb bs ca cb ak df as H', ⟨_, _, _, _, _, _, rfl, L⟩, ?_, ?_, ?_⟩
    · rintro k m H' ⟨xv, av, bv, cv, dv, rv, rfl, L⟩
      exact .inl L.ak
    · rintro k x m H' hx ⟨xv, av, bv, cv, dv, rv, rfl, L⟩
      rw [List.getElem?_map] at hx
      obtain ⟨⟨alo, ahi, blo, bhi⟩, hy, rfl⟩ := Option.map_eq_some_iff.mp hx
      rw [show t4 (alo, ahi, blo, bhi) = .tup [.int alo, .int ahi, .int blo, .int bhi] from rfl]
      walk_at "w"
      refine unp_tup (by rfl) ?_
      refine wa_name (.inl (by rfl)) ?_
      refine wa_name (.inl (by rfl)) ?_
      refine wa_name (.inl (by rfl)) ?_
      refine wa_name (.inl (by rfl)) ?_
      exact turn7 L hA hB (hok _ (List.mem_of_getElem? hy)) fun H'' rv L' => ⟨_, _, _, _, _, _, rfl, L'⟩
    · rintro m H' ⟨xv, av, bv, cv, dv, rv, rfl, L⟩
      refine wu_quiet ?_
      repeat (walk_at "w")
      have eqL : EqV w (KK w.params) H' 2 (.ref ls) (.ref bs) true := by
        have := eqv_listP (w := w) (KF := KK w.params) (H := H') (k := 1) (e := fun _ _ => true) L.ls L.bs fun j x y hx hy => by
          have ha := eqv_strs (w := w) (KF := KK w.params) L.la L.ca
          have hb := eqv_strs (w := w) (KF := KK w.params) L.lb L.cb
          rw [decide_eq_true rfl] at ha hb
          rcases j with _ | _ | j
          · cases hx; cases hy; exact ha
          · cases hx; cases hy; exact hb
          · cases hx
        exact this
      refine eq_of_eqv (by decide) eqL ?_
      exact hQ _ L.ny
theorem law_ok {E : HEP} {Q : V → List O → Prop} (hn : ns.length ≤ 63) (hQ : ∀ H' : List O, NY H' → Q (.bool true) H') : CallU pP w (KK w.params) (d + 6) E [.arr (ns.map V.int)] (.st 336) [.ref 0] Q := by
  refine wu_fn (fn_law w) (by rfl) (by rfl) ?_
  have e : initN (fScope (stAt 11)) ["script"] [.ref 0] = nm7 none none none none none none none none none none := by rfl
  rw [e]
  have nA : Rws RA := ⟨by decide, by unfold RA; decide⟩
  have nB : Rws RB := ⟨by decide, by unfold RB; decide⟩
  have ny3 : NY [.arr (ns.map V.int), lstR RA, lstR RB, .list [.ref 1, .ref 2]] := fun k x hx => by
    match k, hx with
    | 0, hx => cases hx; rfl
    | 1, hx => cases hx; rfl
    | 2, hx => cases hx; rfl
    | 3, hx => cases hx; rfl
    | k + 4, hx => cases hx
  refine wu_quiet ?_
  repeat (walk_at "w")
  refine ⟨by show 5 ≤ sizeLine; decide, ?_⟩
  repeat (walk_at "w")
  refine ⟨by show 3 ≤ sizeLine; decide, ?_⟩
  repeat (walk_at "w")
  refine ⟨by show 2 ≤ sizeLine; decide, ?_⟩
  repeat (walk_at "w")
  refine wu_seq ?_
  refine wu_if ?_
  refine wtU ?_
  repeat (walk_at "w")
  refine len_l (.inr rfl) (by rw [List.length_map]; exact Nat.le_trans hn (by decide)) ?_
  rw [List.length_map]
  repeat (walk_at "w")
  split
  · refine wu_quiet ?_
    repeat (walk_at "w")
    refine get_li (xs := [.ref 1, .ref 2]) (.inl rfl) (by decide) (by decide) rfl ?_
    repeat (walk_at "w")
    refine get_li (xs := [.ref 1, .ref 2]) (.inl rfl) (by decide) (by decide) rfl ?_
    repeat (walk_at "w")
    refine ⟨by show 2 ≤ sizeLine; decide, ?_⟩
    repeat (walk_at "w")
    refine wu_nil ?_
    exact rest7 (A := RB) (B := RA) (ls := 4) (la := 2) (lb := 1) rfl hn rfl rfl rfl (ny3.one (o := .list [.ref 2, .ref 1]) rfl) nB nA hQ
  · refine wu_nil ?_
    exact rest7 (A := RA) (B := RB) (ls := 3) (la := 1) (lb := 2) rfl hn rfl rfl rfl ny3 nA nB hQ
end
end
section
theorem ints_rel {ρ : List Ent} {h : Heap} : ∀ {vs : List Value} {ns : List Int}, IntsAre vs ns → VRs ρ h (ns.map V.int) vs
  | _, _, .nil => .nil
  | _, _, .cons n t r => .cons (by unfold VR; exact ⟨_, rfl⟩) (ints_rel r)
theorem kk_lookup {P : Params} {a : Nat} {o : Obj} (h : (KK P).lookup a = some o) : (K P).lookup a = some o := by
  have : ∀ l : List (Nat × Obj), (l.filter fun x => x.1 != 248).lookup a = some o → l.lookup a = some o := by
    intro l
    induction l with
    | nil => intro h; cases h
    | cons p l ih =>
      intro h
      obtain ⟨b, q⟩ := p
      rw [List.filter_cons] at h
      by_cases hb : b = 248
      · rw [if_neg (by simpa using hb)] at h
        have h1 := ih h
        rw [List.lookup_cons]
        cases e : (a == b) with
        | false => exact h1
        | true =>
          exfalso
          have ha : a = 248 := (by simpa using e : a = b).trans hb
          obtain ⟨l₁, l₂, hl, _⟩ := List.lookup_eq_some_iff.mp h
          have : (a, o) ∈ l.filter fun x => x.1 != 248 := by rw [hl]; simp
          have := (List.mem_filter.mp this).2
          rw [ha] at this
          simp at this
      · rw [if_pos (by simpa using hb), List.lookup_cons] at h
        rw [List.lookup_cons]
        cases e : (a == b) with
        | true => rw [e] at h; exact h
        | false => rw [e] at h; exact ih h
  exact this _ h
theorem keep_exact {f : Nat → Option Obj} {h : Heap} (k : KeepG ⟨f, []⟩ h) {b : Nat} {o : Obj} (e : f b = some o) : h.get? b = some o := by
  obtain ⟨o', e', u⟩ := k b o e
  rw [e', u.ex (fun q => nomatch q)]
theorem law_main (w : World) (s : Shared) (l : Addr) (vs : List Value) (ns : List Int) (mg mb : Str → Option Value) (hg : s.gens = #[]) (X : Frag.In (K w.params) s.heap) (G : s.heap.Ns mainGlobals mg) (lim : s.heap.NoLimit) (hb : s.heap.Ns builtinsNs mb) (hbi : ∀ x : Str, x ≠ "__name__" → mb x = bootBuiltins x) (dig : ∃ mc, s.heap.Ns cStatics mc ∧ mc "sys.int_max_str_digits" = none)
    (hl : s.heap.IsList l vs.toArray) (hi : IntsAre vs ns) (hn : ns.length ≤ 63)
    {Q : Value → Shared → Prop} {E : Value → Shared → Prop} (hQ : ∀ s', OldK s.heap s'.heap → s'.os = s.os → AllBare s'.gens → Q (.bool true) s') : wpU (model pP w) callerA (call (.ref 336) [.ref l]) Q E s := by
  have S : HSim w (KK w.params) ⟨fun b => s.heap.get? b, []⟩ [⟨l, [], none⟩] [.arr (ns.map V.int)] s.heap s.gens := by
    have ho : OR ⟨fun b => s.heap.get? b, []⟩ [⟨l, [], none⟩] s.heap ⟨l, [], none⟩ (.arr (ns.map V.int)) := by
      obtain ⟨o, ho, r⟩ := id hl
      exact ⟨rfl, rfl, ⟨vs, hl, ints_rel hi⟩, by show (s.heap.get? l).isSome = true; rw [ho]; rfl⟩
    refine ⟨fun h' k => ?_, fun b o e => ⟨o, e, .refl⟩, rfl, fun i e o hi' ho' => ?_, fun b hb' => ?_, ?_, fun b hb' => ?_, ?_, fun x z hx => ?_, fun i e o hi' ho' => ?_, fun e he => nomatch he⟩
    · have k : Keep s.heap h' := fun b o e => keep_exact k e
      exact ⟨fun a o e => k a o (X a o (kk_lookup e)), ⟨mg, G.keeps k⟩, lim.keeps k, ⟨mb, hb.keeps k, hbi⟩, let ⟨mc, a, b⟩ := dig; ⟨mc, a.keeps k, b⟩⟩
    · rcases i with _ | i
      · cases hi'; cases ho'; exact ho
      · simp at hi'
    · simp [fps] at hb'
    · simp [fps]
    · simp [fps] at hb'
    · simp
    · rw [hg] at hx; simp at hx
    · rcases i with _ | i
      · cases hi'; cases ho'; trivial
      · simp at hi'
  have hA : Room callerA (0 + 6) [] := ⟨rfl, rfl, by decide +kernel, by decide +kernel⟩
  refine wpU_mono (law_ok (w := w) (E := fun _ _ => False) (d := 0) (Q := fun v H' => v = .bool true ∧ NY H') hn (fun _ ny => ⟨rfl, ny⟩) callerA _ _ s (.ref 336) [.ref l] hA S (by unfold VR; rfl) (.cons (by unfold VR; exact ⟨_, rfl, rfl⟩) .nil)) (fun v s' ⟨ρ', H', b, st, T, rv, hb'⟩ => ?_) (fun _ _ ⟨_, _, _, _, _, x, _⟩ => x.elim)
  obtain ⟨hb', ny⟩ := hb'
  subst hb'
  unfold VR at rv
  subst rv
  exact hQ s' (OldK.of_keep fun b o e => keep_exact T.keep e) st.2.2.1.1 fun z hz => let ⟨k, hk⟩ := Array.getElem?_of_mem hz; (T.bare k z hk).elim id fun ⟨i, _, o, _, _, _, h3, h4⟩ => by rw [ny i o h3] at h4; cases h4
end
end Mine
end
theorem PySem.Challenge.cw_dm0045_07_holds : PySem.Challenge.rw_dm0045_07.Holds := by
  w_on
  refine holds_law (by kernel_rfl) fun said => ?_
  refine Mine.holds_U (q := Mine.q) (loose := Mine.loose) (Xt := fun s => xlAt Mine.q [] s && recOk [] s) (XP := XL Mine.q []) (Yf := Hook.obs Mine.Hk) (Ya := Hook.val Mine.Hk) (YP := Hook.says Mine.Hk) (N := 6000) Mine.left (Hook.of Mine.Hk) (Hook.keeps Mine.Hk) (fun s e => xl_of s (Bool.and_eq_true_iff.mp e).1) XL.keeps (by rfl) (by rfl) (by rfl) (fun s e => recFacts_of (Bool.and_eq_true_iff.mp e).2) (by rfl) (by first | assumption | decide +kernel) (by decide +kernel) ⟨rfl, rfl, rfl, rfl, rfl, by decide +kernel⟩ ?hw ?hc
  case hw => w_witness2
  intro w s₀ s₁ mg mb G Y fa o pm cd doc dV kV ho hd hcd hD hmg hg args vals as hpre hlay hrd hwl hlo
  have KX := kIn_of Y
  clear ho hd hcd hD Y
  refine Ground.open G ?_
  intro T B D TE TW
  wrow_args hpre hlay hrd hwl hlo
  x_fa T KX hmg
  clear hmg
  rename_i ns _ _ _ _ _ _ _ l vs _ hL _ _ _ hI _ hn _
  refine Mine.law_main w s₁ l vs ns mg mb hg KX T.g T.nolimit T.b T.builtins T.nodigits hL hI (by omega) ?_
  intro s' h1 h2 h3
  exact ⟨.inl ⟨_, _, [], rfl, fun _ => rfl, ReadsW.bool true, by wrow_post, fun _ => ⟨List.nodup_nil, fun _ hm => (nomatch hm)⟩⟩, h1, h2, h3⟩

