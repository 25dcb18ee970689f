import PyProof.Rows.All
import Wide.All
import OpenK.AllK
import Wide.FinOn
import KE.KxPercentT
import KE.IntText
import KE.KIntText
import PyProof.Conv_int
import Lean
import PySem.Challenge.RW_pd0092_01
set_option compiler.extract_closed false
set_option compiler.reuse false
set_option genInjectivity false
set_option genSizeOf false
section
open PySem PySem.W PySem.W.X PyProof.Rows
set_option maxRecDepth 100000
namespace Mine

noncomputable abbrev frozO (es : Array (Int × Value)) (ep : Nat) (t : SetTable) : Obj := ⟨.type "frozenset", none, .set es ep t, ⟨[]⟩⟩
/-- a frozenset of texts, its order the world's -/
noncomputable def SetFacts (prog : Program) (w : World) (S : Str → Bool) (es : Array (Int × Value)) (t : SetTable) : Prop :=
  ElemsOf (strKind prog w) es.toList ∧ (∀ k, S k = true ↔ ∃ e ∈ es.toList, (strKind prog w).is k e.2 = true) ∧ t.fits es.size = true ∧ es.size < scanBound
noncomputable def SetAt (prog : Program) (w : World) (h : Heap) (a : Addr) (S : Str → Bool) (n : Nat) : Prop := ∃ es ep t, h.get? a = some (frozO es ep t) ∧ SetFacts prog w S es t ∧ es.size = n

section
variable {prog : Program} {w : World} {A : Around} {E : Value → Shared → Prop} {s : Shared}

theorem set_store {h : Heap} {a : Addr} {es : Array (Int × Value)} {ep : Nat} {t : SetTable} (ho : h.get? a = some (frozO es ep t)) (es' : Array (Int × Value)) (t' : SetTable) :
    (h.update a (Obj.putSet es' t')).get? a = some (frozO es' (ep + 1) t') := by
  have := Heap.get?_update_self (Obj.putSet es' t') ho rfl
  exact this

theorem set_tail {g : Bool → Sem Unit} (hg : ∀ (b : Bool) (s₁ : Shared) (Q' : Unit → Shared → Prop), Q' () s₁ → wpAny (model prog w) A (g b) Q' E s₁)
    {a : Addr} {es : Array (Int × Value)} {ep : Nat} {t : SetTable} (ho : s.heap.get? a = some (frozO es ep t))
    {es1 : Array (Int × Value)} {t2 : SetTable} {S' : Str → Bool} (F : SetFacts prog w S' es1 t2) {wd : Bool} {R : Option Bool → Shared → Prop}
    (h : ∀ h', Heap.SameBut a s.heap h' → SetAt prog w h' a S' es1.size → R (some true) { s with heap := h' }) :
    wpAny (model prog w) A (do
        storeSet a es1 t2
        if (!wd && t2.tooFull) = true then do
            g (relayAll t2 es1 (SetTable.grown es1.size)).2.2
            storeSet a (relayAll t2 es1 (SetTable.grown es1.size)).1 (relayAll t2 es1 (SetTable.grown es1.size)).2.1
            pure (some true)
          else pure (some true)) R E s := by
  have F' := F
  obtain ⟨hel, hmem, hf, hb⟩ := F'
  refine wpAny_bind (wpAny_storeSet_of ho rfl ?_ (fits_of_scanBound hb))
  have h1 := set_store ho es1 t2
  have s1 := Heap.SameBut.update s.heap a (Obj.putSet es1 t2)
  split
  · have hp := relayAll_perm t2 es1 (SetTable.grown es1.size)
    have hfr := relayAll_fits t2 es1 (SetTable.grown es1.size)
    generalize relayAll t2 es1 (SetTable.grown es1.size) = r at hp hfr ⊢
    have hsz : r.1.size = es1.size := by rw [← Array.length_toList, hp.length_eq, Array.length_toList]
    refine wpAny_bind (hg _ _ _ ?_)
    refine wpAny_bind (wpAny_storeSet_of h1 rfl ?_ (fits_of_scanBound (by rw [hsz]; exact hb)))
    refine wpAny_pure (h _ (s1.trans (Heap.SameBut.update _ a _)) ⟨_, _, _, set_store h1 _ _, ⟨hel.perm hp, fun k => (hmem k).trans ⟨?_, ?_⟩, hfr, by rw [hsz]; exact hb⟩, hsz⟩)
    · rintro ⟨e, he, q⟩; exact ⟨e, hp.mem_iff.mpr he, q⟩
    · rintro ⟨e, he, q⟩; exact ⟨e, hp.mem_iff.mp he, q⟩
  · exact wpAny_pure (h _ s1 ⟨_, _, _, h1, F, rfl⟩)

theorem set_add {a : Addr} {S : Str → Bool} {n : Nat} {k : Str} {tk : Tok} {Q : Bool → Shared → Prop} (hS : SetAt prog w s.heap a S n) (hk : S k = false) (hn : n + 1 < scanBound)
    (h : ∀ h', Heap.SameBut a s.heap h' → SetAt prog w h' a (fun k' => S k' || decide (k' = k)) (n + 1) → Q true { s with heap := h', toks := s.toks + 1 }) :
    wpAny (model prog w) A (setAdd a (.str k tk)) Q E s := by
  obtain ⟨es, ep, t, ho, ⟨hel, hmem, hf, hb⟩, hn'⟩ := hS
  unfold setAdd
  refine wpAny_holding (wpAny_bind ((strKind prog w).pyHash (k := k) (strKind_is _ _ _ _) ?_))
  have ho : ({ s with toks := s.toks + 1 } : Shared).heap.get? a = some (frozO es ep t) := ho
  unfold setAddHashed setAddHashedIn
  refine wpAny_holding (wpAny_bind (wpAny_setState_of ho rfl hf ?_))
  dsimp only
  rw [byScan_of (x := .str k tk) rfl hb hel]
  simp only [↓reduceIte]
  unfold setAddByScan
  refine wpAny_bind (wpAny_bind (wpAny_rule (wpAny_bind (wpAny_setScan_of (strKind_is _ _ k tk) ho rfl hf hel ?_))))
  have none : es.toList.findIdx? (fun e => (strKind prog w).is k e.2) = none := by
    rw [List.findIdx?_eq_none_iff]
    intro e he
    cases q : (strKind prog w).is k e.2 with
    | false => rfl
    | true => have := (hmem k).mpr ⟨e, he, q⟩; rw [hk] at this; cases this
  rw [none]
  dsimp only
  have hgw : ∀ (b : Bool) (s₁ : Shared) (Q' : Unit → Shared → Prop), Q' () s₁ → wpAny (model prog w) A (match b with | true => rule "set.scan.the-table-gave-way" | false => pure ()) Q' E s₁ :=
    fun b s₁ Q' hq => by cases b <;> first | exact wpAny_pure hq | exact wpAny_rule hq
  have hp := layNew_perm t es ((strKind prog w).hash k) (.str k tk)
  have hft := layNew_fits t es ((strKind prog w).hash k) (.str k tk)
  generalize layNew t es ((strKind prog w).hash k) (.str k tk) = L at hp hft ⊢
  rw [Array.toList_push] at hp
  have hsz : L.1.size = n + 1 := by rw [← Array.length_toList, hp.length_eq, List.length_append, Array.length_toList, hn']; rfl
  have F : SetFacts prog w (fun k' => S k' || decide (k' = k)) L.1 L.2.1 :=
    ⟨(hel.push (strKind_is _ _ k tk) rfl).perm hp, mem_push_iff (strKind_is _ _ k tk) hmem hp, hft, by rw [hsz]; exact hn⟩
  refine wpAny_bind (hgw _ _ _ ?_)
  have fin : ∀ h', Heap.SameBut a s.heap h' → SetAt prog w h' a (fun k' => S k' || decide (k' = k)) L.1.size → Q true { s with heap := h', toks := s.toks + 1 } := fun h' q z => h h' q (by rw [hsz] at z; exact z)
  split
  · rw [hashByValue_scannable 8 (x := .str k tk) rfl]
    refine wpAny_bind (wpAny_pure ?_)
    refine set_tail hgw ho (t2 := if plainKind (.str k tk) = true then L.2.1 else { L.2.1 with plain := false }) (F := ?_) fun h' q z => wpAny_pure (fin h' q z)
    exact ⟨F.1, F.2.1, SetTable.fits_plain_off F.2.2.1, F.2.2.2⟩
  · refine wpAny_bind (wpAny_pure ?_)
    simp only [↓reduceIte]
    exact set_tail hgw ho F fun h' q z => wpAny_pure (fin h' q z)

theorem set_has {a : Addr} {S : Str → Bool} {n : Nat} {k : Str} {tk : Tok} {Q : Bool → Shared → Prop} (hS : SetAt prog w s.heap a S n)
    (h : Q (S k) { s with toks := s.toks + 1 }) : wpAny (model prog w) A (setContains a (.str k tk)) Q E s := by
  obtain ⟨es, ep, t, ho, ⟨hel, hmem, hf, hb⟩, hn'⟩ := hS
  unfold setContains
  refine wpAny_holding (wpAny_bind ((strKind prog w).pyHash (k := k) (strKind_is _ _ _ _) ?_))
  have ho : ({ s with toks := s.toks + 1 } : Shared).heap.get? a = some (frozO es ep t) := ho
  unfold setFind setFindIn
  refine wpAny_bind (wpAny_bind (wpAny_setState_of ho rfl hf ?_))
  dsimp only
  rw [byScan_of (x := .str k tk) rfl hb hel]
  simp only [↓reduceIte]
  refine wpAny_bind (wpAny_rule (wpAny_bind (wpAny_setScan_of (strKind_is _ _ k tk) ho rfl hf hel ?_)))
  cases q : es.toList.findIdx? (fun e => (strKind prog w).is k e.2) with
  | none =>
    have : S k = false := by
      cases z : S k with
      | false => rfl
      | true =>
        obtain ⟨e, he, x⟩ := (hmem k).mp z
        have := List.findIdx?_eq_none_iff.mp q e he
        rw [x] at this; cases this
    rw [this] at h
    exact wpAny_pure (wpAny_pure h)
  | some j =>
    obtain ⟨hj, hpj, _⟩ := List.findIdx?_eq_some_iff_getElem.mp q
    have : S k = true := (hmem k).mpr ⟨_, List.getElem_mem hj, hpj⟩
    rw [this] at h
    exact wpAny_pure (wpAny_pure h)
end
end Mine
end
section
set_option maxRecDepth 100000
set_option genInjectivity false
set_option genSizeOf false
set_option compiler.extract_closed false
set_option compiler.reuse false
set_option Elab.async false
namespace Mine
open Lean Meta Elab Tactic
/-- names and constants in short (names.py) -/
def nq (s : String) : Name := s.toName
def cq (s : String) : Lean.Expr := .const s.toName []
def c0 (s : String) : Lean.Expr := .const s.toName [.zero]
def c1 (s : String) : Lean.Expr := .const s.toName [.succ .zero]
def c2 (s : String) : Lean.Expr := .const s.toName [.zero, .zero]
def c3 (s : String) : Lean.Expr := .const s.toName [.zero, .zero, .zero]
def ar (a : Array Lean.Expr) (i : Nat) : Lean.Expr := a[i]!
def ag (e : Lean.Expr) (i : Nat) : Lean.Expr := e.getAppArgs[i]!
/-- recursion by fuel -/
def fixQ {α β : Type} (d : α → β) (F : (α → β) → α → β) (fuel : Nat) (a : α) : β := match fuel with
  | 0 => d a
  | n + 1 => F (fixQ d F n) a
/-- helpers that are not made anew at each use -/
def findQ {α β : Type} (l : List α) (f : α → MetaM (Option β)) : MetaM (Option β) := do match l with
  | [] => return none
  | a :: r =>
    let x ← f a
    if x.isSome then return x
    findQ r f
def mapQ {α β : Type} (l : List α) (f : α → MetaM (Option β)) : MetaM (List β) := do match l with
  | [] => return []
  | a :: r => match ← f a with
    | some b => return b :: (← mapQ r f)
    | none => mapQ r f
def foldQ {α σ : Type} (l : List α) (s : σ) (f : σ → α → MetaM σ) : MetaM σ := do match l with
  | [] => return s
  | a :: r => foldQ r (← f s a) f
def pickQ {α β : Type} (l : List α) (f : α → Option β) : Option β := match l with
  | [] => none
  | a :: r => match f a with
    | some b => some b
    | none => pickQ r f
def keepQ {α β : Type} (l : List α) (f : α → Option β) : List β := match l with
  | [] => []
  | a :: r => match f a with
    | some b => b :: keepQ r f
    | none => keepQ r f
def optL {α : Type} (l : List (Option α)) : List α := keepQ l id
/-- the context's letters, the oldest first -/
def declsQ : MetaM (List LocalDecl) := do return keepQ (optL (← getLCtx).decls.toList) fun d => if d.isImplementationDetail then none else some d
/-- what is known of a term that a proof speaks of: the depth at which it was first met, the depth of its deepest letter, its number, whether it is met at several depths -/
structure Met where
  first : Nat := 0
  dep : Nat := 0
  idx : Nat := 0
  twice : Bool := false
  e : Lean.Expr := .bvar 0
abbrev MetMap := Std.HashMap Lean.Expr Met
def MetMap.get (m : MetMap) (e : Lean.Expr) : Option Met := m[e]?
def MetMap.put (m : MetMap) (e : Lean.Expr) (x : Met) : MetMap := m.insert e x
structure Sq where
  next : Nat := 0
  lets : Nat := 0
  met : MetMap := {}
  rep : MetMap := {}
  all : Array (Lean.Expr × Nat) := #[]
abbrev SqM := StateRefT Sq MetaM
def fuelQ : Nat := 100000
/-- is the type one of proofs -/
def proofDom (dom : Lean.Expr) (tys : Array Lean.Expr) : MetaM (Option Bool) := do
  let b := dom.getForallBody
  let k := dom.getNumHeadForalls
  let endSort (t : Lean.Expr) : Option Bool := match t.getForallBody with
    | .sort l => some (l.isEquiv .zero)
    | _ => none
  match b.getAppFn with
  | .const n ls => match (← getEnv).find? n with
    | some c => return endSort (c.type.instantiateLevelParams c.levelParams ls)
    | none => return none
  | .bvar i => if i < k then return none else
    match tys[tys.size - 1 - (i - k)]? with
    | some t => return endSort t
    | none => return none
  | .fvar x => match (← getLCtx).find? x with
    | some d => return endSort d.type
    | none => return none
  | .sort _ => return some false
  | .forallE .. => return none
  | _ => return none
/-- which of the arguments are proofs -/
def kindsQ (ty : Lean.Expr) (tys : Array Lean.Expr) (l : List Lean.Expr) : MetaM (List (Lean.Expr × Bool)) := do match l with
  | [] => return []
  | a :: r => match ty with
    | .forallE _ d b _ | .lam _ d b _ =>
      let k ← match ← proofDom d tys with
        | some k => pure k
        | none => isProof a
      return (a, k) :: (← kindsQ b (tys.push d) r)
    | _ => return (a, ← isProof a) :: (← kindsQ ty tys r)
def kinds (f : Lean.Expr) (args : Array Lean.Expr) : MetaM (List (Lean.Expr × Bool)) := do
  let ty ← match f with
    | .const n ls => pure (match (← getEnv).find? n with | some c => c.type.instantiateLevelParams c.levelParams ls | none => f)
    | .fvar x => x.getType
    | .lam .. => pure f
    | _ => inferType f
  kindsQ ty #[] args.toList
def freshQ : SqM FVarId := do
  let s ← get
  set { s with next := s.next + 1 }
  return ⟨.num `sq s.next⟩
def depQ (x : FVarId) : Nat := match x.name with
  | .num `sq i => i + 1
  | _ => 0
def spineV (go : Lean.Expr → SqM Nat) (e : Lean.Expr) : SqM Nat := do match e with
  | .app f a => return max (← spineV go f) (← go a)
  | f => go f
def eachQ {α : Type} (l : List α) (f : α → SqM Lean.Expr) : SqM (List Lean.Expr) := do match l with
  | [] => return []
  | a :: r => return (← f a) :: (← eachQ r f)
/-- first look -/
def visitQ : Nat → Lean.Expr → Nat → SqM Nat := fixQ (fun _ _ => return 0) fun go e d => do
    unless e.hasFVar do return 0
    if let .fvar x := e then return depQ x
    if let some m := (← get).met.get e then
      if m.first != d && !m.twice then modify fun s => { s with met := s.met.put e { m with twice := true } }
      return m.dep
    let dep ← (match e with
      | .app .. => spineV (go · d) e
      | .lam _ t b _ | .forallE _ t b _ => return max (← go t d) (← go b d)
      | .letE _ t v b _ => return max (max (← go t d) (← go v d)) (← go b d)
      | .mdata _ b | .proj _ _ b => go b d
      | _ => return 0)
    modify fun s => { s with met := s.met.put e { first := d, dep := dep, idx := s.met.size } }
    return dep
def withQ {α : Type} (x : FVarId) (n : Name) (t : Lean.Expr) (bi : BinderInfo) (k : SqM α) : SqM α := do
  let l ← getLCtx
  withTheReader Meta.Context (fun c => { c with lctx := l.mkLocalDecl x n t bi }) k
def collectQ : Nat → Lean.Expr → Nat → SqM Unit := fixQ (fun _ _ => return ()) fun go e d => do match e with
    | .lam n t b bi =>
      discard <| visitQ fuelQ t d
      let x ← freshQ
      withQ x n t bi (go (b.instantiate1 (mkFVar x)) (depQ x))
    | .mdata _ b => go b d
    | .letE n t v b _ =>
      discard <| visitQ fuelQ t d
      if ← isProp t then go v d else discard <| visitQ fuelQ v d
      let x ← freshQ
      let l ← getLCtx
      withTheReader Meta.Context (fun c => { c with lctx := l.mkLetDecl x n t v }) (go (b.instantiate1 (mkFVar x)) (depQ x))
    | .app .. =>
      let f := e.getAppFn
      let args := e.getAppArgs
      let ks ← kinds f args
      discard <| eachQ ((f, f.isLambda) :: ks) fun (a, k) => do
        if k then go a d else discard <| visitQ fuelQ a d
        return a
    | _ => discard <| visitQ fuelQ e d
def repQ : Nat → Lean.Expr → SqM Lean.Expr := fixQ (fun e => return e) fun go e => do
    unless e.hasFVar do return e
    if e.isFVar then return e
    if let some r := (← get).rep.get e then return r.e
    let r ← (match e with
      | .app f a => return .app (← go f) (← go a)
      | .lam n t b bi => return .lam n (← go t) (← go b) bi
      | .forallE n t b bi => return .forallE n (← go t) (← go b) bi
      | .letE n t v b nd => return .letE n (← go t) (← go v) (← go b) nd
      | .mdata m b => return .mdata m (← go b)
      | .proj s i b => return .proj s i (← go b)
      | _ => return e)
    modify fun s => { s with rep := s.rep.put e { e := r } }
    return r
def groupOf (k : Nat) : SqM (List Lean.Expr) := do return ((← get).all.filter (·.2 == k)).toList.map (·.1)
/-- the terms whose deepest letter is this one become letters -/
def groupQ (l : List Lean.Expr) (ys : Array Lean.Expr) (k : Array Lean.Expr → SqM Lean.Expr) : SqM Lean.Expr := do match l with
  | [] => k ys
  | e :: l =>
    let v ← repQ fuelQ e
    if v.isFVar then groupQ l ys k else
    let t ← inferType v
    let y : FVarId := ⟨.num `sqo (← get).lets⟩
    modify fun s => { s with rep := s.rep.put e { e := mkFVar y }, lets := s.lets + 1 }
    let c ← getLCtx
    withTheReader Meta.Context (fun r => { r with lctx := c.mkLetDecl y `o t v }) (groupQ l (ys.push (mkFVar y)) k)
def buildQ : Nat → Lean.Expr → Nat → SqM Lean.Expr := fixQ (fun e _ => return e) fun go e d => do match e with
    | .lam n t b bi =>
      let t' ← repQ fuelQ t
      let x ← freshQ
      withQ x n t' bi (groupQ (← groupOf (depQ x)) #[mkFVar x] fun ys => do
        mkLambdaFVars ys (← go (b.instantiate1 (mkFVar x)) (depQ x)) (usedLetOnly := false))
    | .mdata _ b => go b d
    | .letE n t v b _ =>
      let t' ← repQ fuelQ t
      let v' ← if ← isProp t then go v d else repQ fuelQ v
      let x ← freshQ
      let l ← getLCtx
      withTheReader Meta.Context (fun c => { c with lctx := l.mkLetDecl x n t' v' }) (groupQ (← groupOf (depQ x)) #[mkFVar x] fun ys => do
        mkLambdaFVars ys (← go (b.instantiate1 (mkFVar x)) (depQ x)) (usedLetOnly := false))
    | .app .. =>
      let f := e.getAppFn
      let args := e.getAppArgs
      let ks ← kinds f args
      let l ← eachQ ((f, f.isLambda) :: ks) fun (a, k) => if k then go a d else repQ fuelQ a
      match l with
      | f' :: as => return mkAppN f' as.toArray
      | [] => return e
    | _ => repQ fuelQ e
/-- the proof anew -/
def squeezeQ (e : Lean.Expr) : SqM Lean.Expr := do
  collectQ fuelQ e 0
  let ms := (← get).met.toArray.filter fun (e, m) => m.twice && !e.hasLooseBVars && 3 ≤ e.approxDepth
  let ms := ms.qsort fun a b => a.2.idx < b.2.idx
  modify fun s => { s with next := 0, all := ms.map fun (e, m) => (e, m.dep) }
  groupQ (← groupOf 0) #[] fun ys => do mkLambdaFVars ys (← buildQ fuelQ e 0) (usedLetOnly := false)
/-- the goal is noted .. -/
def sqIn : TacticM Unit := do
  let g ← getMainGoal
  let d ← mkFreshExprMVar (some (cq "True")) (userName := `sqD)
  d.mvarId!.assign (mkMVar g)
/-- .. and its proof made anew -/
def sqOut : TacticM Unit := do
  let some d := (← getMCtx).findUserName? `sqD | throwError "sqOut"
  let some (.mvar a) := (← getMCtx).getExprAssignmentCore? d | throwError "sqOut"
  a.withContext do
    let e ← instantiateMVars (mkMVar a)
    let (r, _) ← (squeezeQ e).run {}
    a.assign r
end Mine
end
section
set_option Elab.async false
/-! linear facts by reflection: small proofs where omega's are large -/
namespace Mine
inductive Tm where
  | num (n : Int)
  | atom (i : Nat)
  | add (a b : Tm)
  | sub (a b : Tm)
  | mul (k : Int) (a : Tm)
  | mulr (a : Tm) (k : Int)
noncomputable def Tm.eval (xs : List Int) : Tm → Int
  | .num n => n
  | .atom i => xs.getD i 0
  | .add a b => a.eval xs + b.eval xs
  | .sub a b => a.eval xs - b.eval xs
  | .mul k a => k * a.eval xs
  | .mulr a k => a.eval xs * k
noncomputable def vadd : List Int → List Int → List Int
  | [], l => l
  | a :: l, [] => a :: l
  | a :: l, b :: m => (a + b) :: vadd l m
noncomputable def vmul (k : Int) (l : List Int) : List Int := l.map (k * ·)
noncomputable def unit1 : Nat → List Int
  | 0 => [1]
  | n + 1 => 0 :: unit1 n
noncomputable def dot : List Int → List Int → Int
  | a :: l, x :: m => a * x + dot l m
  | _, _ => 0
theorem dot_nil (l : List Int) : dot l [] = 0 := by cases l <;> rfl
theorem add4 (a b c d : Int) : a + b + (c + d) = a + c + (b + d) := by rw [Int.add_assoc, Int.add_left_comm b, ← Int.add_assoc]
theorem dot_vadd : ∀ a b xs, dot (vadd a b) xs = dot a xs + dot b xs
  | [], b, xs => (Int.zero_add _).symm
  | a :: l, [], xs => (Int.add_zero _).symm
  | a :: l, b :: m, [] => rfl
  | a :: l, b :: m, x :: xs => by
    show (a + b) * x + dot (vadd l m) xs = (a * x + dot l xs) + (b * x + dot m xs)
    rw [dot_vadd l m xs, Int.add_mul]; exact add4 ..
theorem dot_vmul (k : Int) : ∀ a xs, dot (vmul k a) xs = k * dot a xs
  | [], xs => by show (0 : Int) = k * 0; rw [Int.mul_zero]
  | a :: l, [] => by show (0 : Int) = k * 0; rw [Int.mul_zero]
  | a :: l, x :: xs => by
    show (k * a) * x + dot (vmul k l) xs = k * (a * x + dot l xs)
    rw [dot_vmul k l xs, Int.mul_add, Int.mul_assoc]
theorem dot_unit : ∀ i xs, dot (unit1 i) xs = xs.getD i 0
  | 0, [] => rfl
  | 0, x :: xs => (Int.add_zero _).trans (Int.one_mul x)
  | i + 1, [] => rfl
  | i + 1, x :: xs => by show 0 * x + dot (unit1 i) xs = xs.getD i 0; rw [dot_unit i xs, Int.zero_mul, Int.zero_add]
noncomputable def Tm.lin : Tm → List Int × Int
  | .num n => ([], n)
  | .atom i => (unit1 i, 0)
  | .add a b => (vadd a.lin.1 b.lin.1, a.lin.2 + b.lin.2)
  | .sub a b => (vadd a.lin.1 (vmul (-1) b.lin.1), a.lin.2 - b.lin.2)
  | .mul k a => (vmul k a.lin.1, k * a.lin.2)
  | .mulr a k => (vmul k a.lin.1, k * a.lin.2)
theorem eval_lin (xs : List Int) : ∀ t : Tm, t.eval xs = dot t.lin.1 xs + t.lin.2
  | .num n => (Int.zero_add n).symm
  | .atom i => by show xs.getD i 0 = dot (unit1 i) xs + 0; rw [dot_unit, Int.add_zero]
  | .add a b => by
    show a.eval xs + b.eval xs = dot (vadd a.lin.1 b.lin.1) xs + (a.lin.2 + b.lin.2)
    rw [dot_vadd, eval_lin xs a, eval_lin xs b]; exact add4 ..
  | .sub a b => by
    show a.eval xs - b.eval xs = dot (vadd a.lin.1 (vmul (-1) b.lin.1)) xs + (a.lin.2 - b.lin.2)
    rw [dot_vadd, dot_vmul, eval_lin xs a, eval_lin xs b, Int.neg_mul, Int.one_mul, Int.sub_eq_add_neg, Int.neg_add, Int.sub_eq_add_neg]; exact add4 ..
  | .mul k a => by
    show k * a.eval xs = dot (vmul k a.lin.1) xs + k * a.lin.2
    rw [dot_vmul, eval_lin xs a, Int.mul_add]
  | .mulr a k => by
    show a.eval xs * k = dot (vmul k a.lin.1) xs + k * a.lin.2
    rw [dot_vmul, eval_lin xs a, Int.mul_comm, Int.mul_add]
/-- each pair: the first is at most the second -/
noncomputable def Holds (xs : List Int) : List (Tm × Tm) → Prop
  | [] => True
  | f :: r => f.1.eval xs ≤ f.2.eval xs ∧ Holds xs r
theorem hold_cons (xs : List Int) (x y : Tm) (r : List (Tm × Tm)) (h : x.eval xs ≤ y.eval xs) (hr : Holds xs r) : Holds xs ((x, y) :: r) := ⟨h, hr⟩
noncomputable def comb : List Nat → List (Tm × Tm) → List Int × Int
  | k :: ks, f :: r => (vadd (vmul k (vadd f.2.lin.1 (vmul (-1) f.1.lin.1))) (comb ks r).1, k * (f.2.lin.2 - f.1.lin.2) + (comb ks r).2)
  | _, _ => ([], 0)
theorem comb_pos (xs : List Int) : ∀ ks fs, Holds xs fs → 0 ≤ dot (comb ks fs).1 xs + (comb ks fs).2
  | [], [], _ => Int.le_refl _
  | [], _ :: _, _ => Int.le_refl _
  | _ :: _, [], _ => Int.le_refl _
  | k :: ks, f :: r, h => by
    have ih := comb_pos xs ks r h.2
    have h1 := h.1
    rw [eval_lin xs f.1, eval_lin xs f.2] at h1
    show 0 ≤ dot (vadd (vmul k (vadd f.2.lin.1 (vmul (-1) f.1.lin.1))) (comb ks r).1) xs + (k * (f.2.lin.2 - f.1.lin.2) + (comb ks r).2)
    rw [dot_vadd, dot_vmul, dot_vadd, dot_vmul]
    have e : (k : Int) * (dot f.2.lin.1 xs + -1 * dot f.1.lin.1 xs) + (dot (comb ks r).1 xs + (k * (f.2.lin.2 - f.1.lin.2) + (comb ks r).2)) = (k : Int) * ((dot f.2.lin.1 xs + f.2.lin.2) - (dot f.1.lin.1 xs + f.1.lin.2)) + (dot (comb ks r).1 xs + (comb ks r).2) := by
      rw [Int.add_left_comm (dot _ _) ((k : Int) * _), ← Int.add_assoc, ← Int.mul_add, Int.neg_mul, Int.one_mul, Int.sub_eq_add_neg, Int.sub_eq_add_neg, Int.neg_add, add4]
    rw [Int.add_assoc, e]
    exact Int.add_nonneg (Int.mul_nonneg (Int.natCast_nonneg k) (Int.sub_nonneg_of_le h1)) ih
theorem dot_zero : ∀ l xs : List Int, l.all (fun x => x == 0) = true → dot l xs = 0
  | [], _, _ => rfl
  | _ :: _, [], _ => rfl
  | a :: l, x :: xs, h => by
    rw [List.all_cons, Bool.and_eq_true] at h
    have : a = 0 := by simpa using h.1
    show a * x + dot l xs = 0
    rw [dot_zero l xs h.2, this, Int.zero_mul]; rfl
noncomputable def farkasOk (ks : List Nat) (fs : List (Tm × Tm)) : Bool := (comb ks fs).1.all (fun x => x == 0) && decide ((comb ks fs).2 < 0)
theorem farkas (xs : List Int) (fs : List (Tm × Tm)) (ks : List Nat) (h : Holds xs fs) (e : farkasOk ks fs = true) : False := by
  run_tac sqIn
  obtain ⟨e1, e2⟩ := Bool.and_eq_true_iff.mp e
  have := comb_pos xs ks fs h
  rw [dot_zero _ _ e1, Int.zero_add] at this
  exact Int.not_le.mpr (of_decide_eq_true e2) this
  run_tac sqOut
theorem q_sub (a b : Nat) : (b ≤ a ∧ ((a - b : Nat) : Int) = a - b) ∨ (a < b ∧ a - b ≤ 0) :=
  (Nat.lt_or_ge a b).elim (fun h => .inr ⟨h, Nat.le_of_eq (Nat.sub_eq_zero_of_le (Nat.le_of_lt h))⟩) (fun h => .inl ⟨h, Int.ofNat_sub h⟩)
theorem q_toNat (x : Int) : (0 ≤ x ∧ (x.toNat : Int) = x) ∨ (x ≤ -1 ∧ x.toNat ≤ 0) :=
  (Int.lt_or_le x 0).elim (fun h => .inr ⟨Int.le_sub_one_of_lt h, Nat.le_of_eq (Int.toNat_of_nonpos (Int.le_of_lt h))⟩) (fun h => .inl ⟨h, Int.toNat_of_nonneg h⟩)
theorem q_min (a b : Nat) : (a ≤ b ∧ min a b = a) ∨ (b < a ∧ min a b = b) :=
  (Nat.lt_or_ge b a).elim (fun h => .inr ⟨h, Nat.min_eq_right (Nat.le_of_lt h)⟩) (fun h => .inl ⟨h, Nat.min_eq_left h⟩)
theorem q_div (a k : Nat) (h : Nat.blt 0 k = true) : k * (a / k) ≤ a ∧ a < k * (a / k) + k :=
  ⟨Nat.mul_div_le a k, Nat.lt_mul_div_succ a (Nat.le_of_ble_eq_true h)⟩
theorem q_mod (a k : Nat) (h : Nat.blt 0 k = true) : a % k + k * (a / k) = a ∧ a % k < k :=
  ⟨Nat.mod_add_div a k, Nat.mod_lt a (Nat.le_of_ble_eq_true h)⟩
theorem q_imod (a k : Int) (h : decide (0 < k) = true) : a % k + k * (a / k) = a ∧ 0 ≤ a % k ∧ a % k < k :=
  have h := of_decide_eq_true h
  ⟨Int.emod_add_mul_ediv a k, Int.emod_nonneg a (Int.ne_of_gt h), Int.emod_lt_of_pos a h⟩
theorem q_idiv (a k : Int) (h : decide (0 < k) = true) : k * (a / k) ≤ a ∧ a < k * (a / k) + k := by
  exact ⟨Int.mul_ediv_self_le (Int.ne_of_gt (of_decide_eq_true h)), Int.lt_mul_ediv_self_add (of_decide_eq_true h)⟩
theorem q_fdiv (a k : Int) (h : decide (0 < k) = true) : k * (a.fdiv k) ≤ a ∧ a < k * (a.fdiv k) + k := by
  rw [Int.fdiv_eq_ediv_of_nonneg a (Int.le_of_lt (of_decide_eq_true h))]; exact q_idiv a k h
theorem q_fmod (a k : Int) (h : decide (0 < k) = true) : a.fmod k + k * (a.fdiv k) = a ∧ 0 ≤ a.fmod k ∧ a.fmod k < k := by
  rw [Int.fdiv_eq_ediv_of_nonneg a (Int.le_of_lt (of_decide_eq_true h)), Int.fmod_eq_emod_of_nonneg a (Int.le_of_lt (of_decide_eq_true h))]; exact q_imod a k h
theorem n_nle {x y : Nat} (h : ¬ x ≤ y) : y < x := Nat.lt_of_not_le h
theorem n_nlt {x y : Nat} (h : ¬ x < y) : y ≤ x := Nat.le_of_not_lt h
theorem i_nle {x y : Int} (h : ¬ x ≤ y) : y < x := Int.not_le.mp h
theorem i_nlt {x y : Int} (h : ¬ x < y) : y ≤ x := Int.not_lt.mp h
theorem q_nle {x y : Nat} (h : x ≤ y) : (x : Int) ≤ y := Int.ofNat_le.mpr h
end Mine
end
section
set_option maxRecDepth 100000
set_option genInjectivity false
set_option genSizeOf false
set_option Elab.async false
set_option compiler.extract_closed false
set_option compiler.reuse false
namespace Mine
open Lean Meta Elab Tactic
def arithQ (t : Lean.Expr) : Bool := match t.getAppFn with
  | .const n _ => n == (nq "LE.le") || n == (nq "LT.lt") || n == (nq "GE.ge") || n == (nq "GT.gt") || n == (nq "And") || n == (nq "Or") || n == (nq "Not") || n == (nq "Iff") || ((n == (nq "Eq") || n == (nq "Ne")) && t.getAppNumArgs == 3 && ((ag t 0).isConstOf (nq "Nat") || (ag t 0).isConstOf (nq "Int")))
  | _ => false
structure Fk where
  atoms : Array Lean.Expr := #[]
/-- a term, its coefficients and its number -/
structure Pt where
  t : Lean.Expr
  c : List (Nat × Int)
  k : Int
def addC (a b : List (Nat × Int)) (m : Int) : List (Nat × Int) := b.foldl (fun a (i, x) => if a.any (·.1 == i) then (a.map fun (j, y) => if j == i then (j, y + m * x) else (j, y)) else (i, m * x) :: a) a
def intE (n : Int) : Lean.Expr := if n < 0 then mkApp (cq "Int.negSucc") (mkRawNatLit (n.natAbs - 1)) else mkApp (cq "Int.ofNat") (mkRawNatLit n.toNat)
def Pt.num (n : Int) : Pt := ⟨mkApp (cq "Mine.Tm.num") (intE n), [], n⟩
def Pt.plus (a b : Pt) : Pt := if a.c.isEmpty && b.c.isEmpty then .num (a.k + b.k) else ⟨mkApp2 (cq "Mine.Tm.add") a.t b.t, addC a.c b.c 1, a.k + b.k⟩
def Pt.minus (a b : Pt) : Pt := ⟨mkApp2 (cq "Mine.Tm.sub") a.t b.t, addC a.c b.c (-1), a.k - b.k⟩
def castE (e : Lean.Expr) : Lean.Expr := mkApp3 (c0 "Nat.cast") (cq "Int") (cq "instNatCastInt") e
abbrev FkM := StateRefT Fk MetaM
def atomQ (e : Lean.Expr) : FkM Pt := do
  let as := (← get).atoms
  let i := (as.findIdx? (· == e)).getD as.size
  if i == as.size then modify fun s => { s with atoms := s.atoms.push e }
  return ⟨mkApp (cq "Mine.Tm.atom") (mkRawNatLit i), [(i, 1)], 0⟩
def litQ (fuel : Nat) (e : Lean.Expr) : Option Int := match fuel with
  | 0 => none
  | fuel + 1 => match e.nat?, e.int? with
    | some n, _ => some n
    | _, some n => some n
    | _, _ => match e with
      | .lit (.natVal n) => some n
      | _ => if e.isAppOfArity (nq "HPow.hPow") 6 then
          match litQ fuel e.appFn!.appArg!, litQ fuel e.appArg! with
          | some a, some b => if b.toNat ≤ 64 then some (a ^ b.toNat) else none
          | _, _ => none
        else none
def Pt.mulL (n : Int) (a : Pt) (right : Bool) : Pt := ⟨if right then mkApp2 (cq "Mine.Tm.mulr") a.t (intE n) else mkApp2 (cq "Mine.Tm.mul") (intE n) a.t, addC [] a.c n, n * a.k⟩
def parseP : Nat → Bool × Lean.Expr → FkM Pt := fixQ (fun (nat, e) => atomQ (if nat then castE e else e)) fun go (nat, e) => do
    if let some n := litQ 5 e then return .num n
    if e.getAppNumArgs == 6 then
      let (a, b) := (e.appFn!.appArg!, e.appArg!)
      let op := e.getAppFn.constName?
      if op == some (nq "HAdd.hAdd") then return (← go (nat, a)).plus (← go (nat, b))
      if !nat && op == some (nq "HSub.hSub") then return (← go (nat, a)).minus (← go (nat, b))
      if op == some (nq "HMul.hMul") then
        if let some n := litQ 5 a then return (← go (nat, b)).mulL n false
        if let some n := litQ 5 b then return (← go (nat, a)).mulL n true
    if !nat && e.isAppOfArity (nq "Nat.cast") 3 then return ← go (true, e.appArg!)
    atomQ (if nat then castE e else e)
def parseQ (nat : Bool) (fuel : Nat) (e : Lean.Expr) : FkM Pt := parseP fuel (nat, e)
def leE (nat : Bool) (lt : Bool) (x y : Lean.Expr) : Lean.Expr :=
  let T := mkConst (if nat then (nq "Nat") else (nq "Int"))
  if lt then mkApp4 (c0 "LT.lt") T (mkConst (if nat then (nq "instLTNat") else (nq "Int.instLTInt"))) x y else mkApp4 (c0 "LE.le") T (mkConst (if nat then (nq "instLENat") else (nq "Int.instLEInt"))) x y
/-- what a fact says: at most, with its proof -/
def factQ : Nat → Lean.Expr → Lean.Expr → FkM (List (Pt × Pt × Lean.Expr)) := fixQ (fun _ _ => return []) fun go t h => do
    let t := t.consumeMData
    let a := t.getAppArgs
    if t.isAppOfArity (nq "And") 2 then
      return (← go (ar a 0) (mkApp3 (cq "And.left") (ar a 0) (ar a 1) h)) ++ (← go (ar a 1) (mkApp3 (cq "And.right") (ar a 0) (ar a 1) h))
    let f := t.getAppFn.constName?.getD `no
    if f == (nq "Not") && a.size == 1 then
      let u := (ar a 0).consumeMData
      let b := u.getAppArgs
      if b.size != 4 then return []
      let nat := (ar b 0).isConstOf (nq "Nat")
      unless nat || (ar b 0).isConstOf (nq "Int") do return []
      let (x, y) := ((ar b 2), (ar b 3))
      if u.isAppOf (nq "LE.le") then return ← go (leE nat true y x) (mkApp3 (mkConst (if nat then (nq "Mine.n_nle") else (nq "Mine.i_nle"))) x y h)
      if u.isAppOf (nq "LT.lt") then return ← go (leE nat false y x) (mkApp3 (mkConst (if nat then (nq "Mine.n_nlt") else (nq "Mine.i_nlt"))) x y h)
      return []
    if a.size < 3 then return []
    let nat := (ar a 0).isConstOf (nq "Nat")
    unless nat || (ar a 0).isConstOf (nq "Int") do return []
    let up (h x y : Lean.Expr) : Lean.Expr := if nat then mkApp3 (cq "Mine.q_nle") x y h else h
    if a.size == 3 && f == (nq "Eq") then
      let (x, y) := (← parseQ nat 200 (ar a 1), ← parseQ nat 200 (ar a 2))
      let lem := mkConst (if nat then (nq "Nat.le_of_eq") else (nq "Int.le_of_eq"))
      return [(x, y, up (mkApp3 lem (ar a 1) (ar a 2) h) (ar a 1) (ar a 2)), (y, x, up (mkApp3 lem (ar a 2) (ar a 1) (mkApp4 (c1 "Eq.symm") (ar a 0) (ar a 1) (ar a 2) h)) (ar a 2) (ar a 1))]
    if a.size == 4 then
      let (x, y) := if f == (nq "GE.ge") || f == (nq "GT.gt") then ((ar a 3), (ar a 2)) else ((ar a 2), (ar a 3))
      if f == (nq "LE.le") || f == (nq "GE.ge") then return [(← parseQ nat 200 x, ← parseQ nat 200 y, up h x y)]
      if f == (nq "LT.lt") || f == (nq "GT.gt") then
        return [((← parseQ nat 200 x).plus (.num 1), ← parseQ nat 200 y, if nat then up h (mkApp (cq "Nat.succ") x) y else h)]
    return []
/-- what is known of a letter: a fact, or one of two -/
def knownQ (e : Lean.Expr) : Option Lean.Expr :=
  let nat := e.isAppOfArity (nq "Nat.cast") 3
  let u := if nat then e.appArg! else e
  let a := u.getAppArgs
  let f := u.getAppFn.constName?.getD `no
  if a.size == 0 then none else
  let (x, y) := (a[a.size - 2]!, a[a.size - 1]!)
  if nat && f == (nq "Int.toNat") then some (mkApp (cq "Mine.q_toNat") y) else
  if nat && f == (nq "HSub.hSub") then some (mkApp2 (cq "Mine.q_sub") x y) else
  if nat && f == (nq "Min.min") then some (mkApp2 (cq "Mine.q_min") x y) else
  if (litQ 5 y).isNone || a.size < 2 then none else
  let lem := if f == (nq "HDiv.hDiv") then (if nat then (nq "Mine.q_div") else (nq "Mine.q_idiv")) else if f == (nq "HMod.hMod") then (if nat then (nq "Mine.q_mod") else (nq "Mine.q_imod")) else if f == (nq "Int.fdiv") then (nq "Mine.q_fdiv") else if f == (nq "Int.fmod") then (nq "Mine.q_fmod") else `no
  if lem == `no then none else
  some (mkApp3 (mkConst lem) x y (mkApp2 (c1 "Eq.refl") (cq "Bool") (cq "Bool.true")))
/-- one of two: the two, and the proof -/
def orQ (h : Lean.Expr) : MetaM (Option (Lean.Expr × Lean.Expr × Lean.Expr)) := do
  let t ← instantiateMVars (← inferType h)
  if t.isAppOfArity (nq "Or") 2 then return some (t.appFn!.appArg!, t.appArg!, h)
  let e := (if t.isAppOfArity (nq "Not") 1 then t.appArg! else t).consumeMData
  if t.isAppOfArity (nq "Ne") 3 || (t.isAppOfArity (nq "Not") 1 && e.isAppOfArity (nq "Eq") 3) then
    let a := e.getAppArgs
    let nat := (ar a 0).isConstOf (nq "Nat")
    unless nat || (ar a 0).isConstOf (nq "Int") do return none
    return some (leE nat true (ar a 1) (ar a 2), leE nat true (ar a 2) (ar a 1), mkApp3 (mkConst (if nat then (nq "Nat.lt_or_gt_of_ne") else (nq "Int.lt_or_gt_of_ne"))) (ar a 1) (ar a 2) h)
  return none
/-- rows: coefficients, number, factors -/
abbrev RowQ := List (Nat × Int) × Int × List (Nat × Int)
def coefQ (l : List (Nat × Int)) (i : Nat) : Int := ((l.find? (·.1 == i)).map (·.2)).getD 0
def cleanQ (l : List (Nat × Int)) : List (Nat × Int) := l.filter (·.2 != 0)
def elimQ (rows : List RowQ) : Nat → Option (List (Nat × Int))
  | 0 => none
  | fuel + 1 =>
    match rows.find? fun (c, k, _) => k < 0 && c.isEmpty with
    | some r => some r.2.2
    | none =>
      let part (v : Nat) := (rows.filter fun r => coefQ r.1 v > 0, rows.filter fun r => coefQ r.1 v < 0)
      let cost (v : Nat) : Nat := let (p, n) := part v; p.length * n.length
      let vs := (rows.flatMap fun r => r.1.map (·.1)).eraseDups
      match vs with
      | [] => none
      | v0 :: r =>
        let v := r.foldl (fun v w => if cost w < cost v then w else v) v0
        let (pos, neg) := part v
        let rest := rows.filter fun r => coefQ r.1 v == 0
        if pos.length * neg.length > 150 then none else
        let new := pos.flatMap fun p => neg.map fun q =>
          let (a, b) := (coefQ p.1 v, - coefQ q.1 v)
          (cleanQ (addC (addC [] p.1 b) q.1 a), p.2.1 * b + q.2.1 * a, addC (addC [] p.2.2 b) q.2.2 a)
        elimQ (rest ++ new) fuel
def listE' (T : Lean.Expr) (l : List Lean.Expr) : Lean.Expr := l.foldr (mkApp3 (c0 "List.cons") T) (mkApp (c0 "List.nil") T)
/-- the facts of the proofs, and those of the letters in them -/
def gatherQ (fuel : Nat) (hyps : List Lean.Expr) (n : Nat) : FkM (Array ((Pt × Pt × Lean.Expr) × Lean.Expr)) := do match fuel with
  | 0 => return #[]
  | fuel + 1 =>
    let mut out := #[]
    for h in hyps do
      for f in ← factQ 8 (← instantiateMVars (← inferType h)) h do out := out.push (f, h)
    let as := (← get).atoms
    if n == as.size then return out
    return out ++ (← gatherQ fuel ((as.toList.drop n).filterMap knownQ) as.size)
/-- False by linear facts; else the ways to part the matter -/
def farkasQ : Nat → List Lean.Expr → MetaM (Option Lean.Expr × List Lean.Expr) := fixQ (fun _ => return (none, [])) fun go hyps => do
  let (fs, s) ← (do
    let mut out ← gatherQ 4 hyps 0
    for (e, i) in (← get).atoms.toList.zipIdx do
      if e.isAppOfArity (nq "Nat.cast") 3 then
        out := out.push ((.num 0, ⟨mkApp (cq "Mine.Tm.atom") (mkRawNatLit i), [(i, 1)], 0⟩, mkApp (cq "Int.natCast_nonneg") e.appArg!), e)
    return out : FkM _).run {}
  let rows : List RowQ := fs.toList.zipIdx.map fun (((x, y, _), _), i) => (cleanQ (addC (addC [] y.c 1) x.c (-1)), y.k - x.k, [(i, 1)])
  let some ks := elimQ rows 60 | return (none, s.atoms.toList.filterMap knownQ)
  let ks := ks.filter (·.2 != 0)
  let used := fs.toList.zipIdx.filter fun (_, i) => ks.any (·.1 == i)
  let mine := (used.map (·.1.2)).eraseDups.filter fun h => !h.isAppOfArity (nq "Nat.cast") 3
  if mine.length < (fs.toList.map (·.2)).eraseDups.length then
    let r ← go mine
    if r.1.isSome then return r
  let pT := mkApp2 (c2 "Prod") (cq "Mine.Tm") (cq "Mine.Tm")
  let xs := listE' (cq "Int") s.atoms.toList
  let pair (x y : Pt) : Lean.Expr := mkApp4 (c2 "Prod.mk") (cq "Mine.Tm") (cq "Mine.Tm") x.t y.t
  let ksE := listE' (cq "Nat") (used.map fun (_, i) => mkRawNatLit (coefQ ks i).toNat)
  let (p, f) := used.foldr (fun (((x, y, h), _), _) (p, f) => (mkAppN (cq "Mine.hold_cons") #[xs, x.t, y.t, f, h, p], mkApp3 (c0 "List.cons") pT (pair x y) f)) (cq "True.intro", mkApp (c0 "List.nil") pT)
  return (some (mkAppN (cq "Mine.farkas") #[xs, f, ksE, p, mkApp2 (c1 "Eq.refl") (cq "Bool") (cq "Bool.true")]), [])
def sideQ (go : List Lean.Expr → MetaM (Option Lean.Expr)) (hyps : List Lean.Expr) (P : Lean.Expr) : MetaM (Option (Lean.Expr × Bool)) := withLocalDeclD `h P fun x => do
  let some r ← go (x :: hyps) | return none
  return some (← mkLambdaFVars #[x] r, (collectFVars {} r).fvarSet.contains x.fvarId!)
/-- by both ways; none: the first is not closed -/
def elimOr (goL goR : List Lean.Expr → MetaM (Option Lean.Expr)) (hyps : List Lean.Expr) (P Q pf : Lean.Expr) : MetaM (Option (Option Lean.Expr)) := do
  let some (l, a) ← sideQ goL hyps P | return none
  if !a then return some (some l.bindingBody!)
  let some (r, b) ← sideQ goR hyps Q | return some none
  return some (some (if !b then r.bindingBody! else mkAppN (cq "Or.elim") #[P, Q, cq "False", pf, l, r]))
/-- False by cases, not deeper than that -/
def casesQ : Nat → Nat × List Lean.Expr × List Lean.Expr × List Lean.Expr → MetaM (Option Lean.Expr) := fixQ (fun _ => return none) fun go (deep, hyps, ors, used) => do
  let (r, more) ← farkasQ 5 hyps
  if r.isSome || deep == 0 then return r
  let all ← mapQ ((ors ++ more).eraseDups) fun h => do
    if used.contains h then return none
    match ← orQ h with
    | some x => return some (h, x)
    | none => return none
  let on (h : Lean.Expr) (deep : Nat) (l : List Lean.Expr) : MetaM (Option Lean.Expr) := go (deep, l, keepQ all fun x => if x.1 == h then none else some x.1, h :: used)
  -- the ways of which one is none
  let once (l : List Lean.Expr) : MetaM (Option Lean.Expr) := do return (← farkasQ 5 l).1
  if let some r ← findQ all fun (h, P, Q, pf) => elimOr once (on h deep) hyps P Q pf then return r
  if let some r ← findQ all fun (h, P, Q, pf) => elimOr once (on h deep) hyps Q P (mkApp3 (cq "Or.symm") P Q pf) then return r
  return (← findQ all fun (h, P, Q, pf) => elimOr (on h (deep - 1)) (on h (deep - 1)) hyps P Q pf).join
/-- the facts that share a letter with S, k times over -/
def nearQ (ds : List (Lean.Expr × Array FVarId)) (S : Array FVarId) (k : Nat) : List Lean.Expr :=
  let l := keepQ ds fun d => if (pickQ d.2.toList fun x => if S.contains x then some () else none).isSome then some d else none
  match k with
  | k + 2 => nearQ ds (l.foldl (fun a d => a ++ d.2) S) (k + 1)
  | _ => keepQ l fun d => some d.1
def nearL (ds : List (Lean.Expr × Array FVarId)) (last : Lean.Expr × Array FVarId) (k : Nat) : List Lean.Expr :=
  let l := nearQ ds last.2 k
  if l.contains last.1 then l else l ++ [last.1]
def arithHyps : MetaM (List (Lean.Expr × Array FVarId)) := do
  mapQ (← declsQ) fun d => do
    let t ← instantiateMVars d.type
    return if arithQ t then some (d.toExpr, (collectFVars {} t).fvarIds) else none
/-- what linear facts may show -/
def goalQ (p : Lean.Expr) : Bool :=
  let p := p.consumeMData
  let p := if p.isAppOfArity (nq "Not") 1 then p.appArg!.consumeMData else p
  p.isConstOf (nq "False") || (arithQ p && !p.isAppOf (nq "Or") && !p.isAppOf (nq "Iff") && !p.isAppOf (nq "And") && !p.isAppOf (nq "Not"))
/-- by linear facts alone, if they do -/
def fkTry (p : Lean.Expr) : MetaM (Option Lean.Expr) := do
  unless goalQ p do return none
  let saved ← saveState
  try
    let m ← mkFreshExprSyntheticOpaqueMVar p.consumeMData
    let some g ← m.mvarId!.falseOrByContra | return some (← instantiateMVars m)
    g.withContext do
      let ds ← arithHyps
      let some last := ds.getLast? | throwError "no facts"
      let r ← findQ [1, 2, 4] fun k => do
        let l := nearL ds last k
        findQ [0, 1, 2, 3] fun deep => casesQ 12 (deep, l, l, [])
      let some h := r | throwError "not by linear facts"
      g.assign h
      return some (← instantiateMVars m)
  catch _ => saved.restore; return none
def fk : TacticM Unit := do
  let g ← getMainGoal
  match ← g.withContext do fkTry (← instantiateMVars (← g.getType)) with
  | some h => g.assign h; replaceMainGoal []
  | none => throwError "fk"
end Mine
end
section
set_option maxRecDepth 100000
set_option genInjectivity false
set_option genSizeOf false
set_option Elab.async false
set_option compiler.extract_closed false
set_option compiler.reuse false
namespace Mine
open Lean Meta Elab Tactic
/-- omega with the facts that share a letter with the goal, k times over -/
def omFew (g : MVarId) (k : Nat) : MetaM Unit := do
  let some g ← g.falseOrByContra | return
  g.withContext do
    let ds ← arithHyps
    let some last := ds.getLast? | throwError "omFew"
    let hyps := nearL ds last k
    let m ← mkFreshExprSyntheticOpaqueMVar (← g.getType)
    Omega.omega hyps m.mvarId!
    let (pf, _) ← (squeezeQ (← instantiateMVars m)).run {}
    g.assign (← mkAuxTheorem (cq "False") pf (zetaDelta := true))
/-- the proof of p by few facts, if that does -/
def omTry : Lean.Expr → MetaM (Option Lean.Expr) := fixQ (fun _ => return none) (fun go p => do
  if p.isAppOfArity (nq "And") 2 then
    let (a, b) := (p.appFn!.appArg!, p.appArg!)
    let some x ← go a | return none
    let some y ← go b | return none
    return some (mkApp4 (cq "And.intro") a b x y)
  if let some h ← fkTry p then return some h
  let saved ← saveState
  findQ [1, 2] fun k => do
    try
      let m ← mkFreshExprSyntheticOpaqueMVar p
      omFew m.mvarId! k
      return some (← instantiateMVars m)
    catch _ => saved.restore; return none) 5
def om : TacticM Unit := do
  let g ← getMainGoal
  match ← g.withContext do omTry (← instantiateMVars (← g.getType)) with
  | some h => g.assign h; replaceMainGoal []
  | none => Omega.omegaTactic {}
end Mine
end
section
open PySem PySem.W PySem.W.X PyProof.Rows
set_option maxRecDepth 100000
set_option Elab.async false
namespace Mine
open Lean Meta Elab Tactic PySem PySem.W PySem.W.X

/-- written texts as lists of their signs -/
def plainStrs (e : Lean.Expr) : Lean.Expr := e.replace fun x => match XFast.isAtom x with
  | some s =>
    let nat := mkConst ``Nat
    let ns := s.toList.foldr (fun c r => mkApp3 (mkConst ``List.cons [0]) nat (mkRawNatLit c.toNat) r) (mkApp (mkConst ``List.nil [0]) nat)
    some (mkApp (mkConst ``Str.mk) (mkApp2 (mkConst ``Array.mk [0]) nat ns))
  | none => none

/-- the sample runs: the states at the three cuts -/
def walkTo (p : Program) (w : World) (stop : Thread → Bool) : Nat → Nat → Shared → Thread → Option (Nat × Shared × Thread)
  | 0, _, _, _ => none
  | f + 1, k, s, t => if stop t then some (k, s, t) else match stepK (denote table) p w s t with
    | .go s' t' => walkTo p w stop f (k + 1) s' t'
    | .halt _ _ => none
def atLoop (t : Thread) : Bool := match t.code with
  | .builtin id _ => id == "set.update.loop"
  | _ => false
/-- where the text's signs are all taken -/
def atTurn (k : Nat) (s : Shared) : Bool := match s.heap.objs[16]? with
  | some o => match o.data with
    | .fields vs => match vs.toList with
      | [_, PySem.Value.int n _] => n == (k : Int)
      | _ => false
    | _ => false
  | none => false
structure Cut where
  n : Nat
  s : Shared
  t : Thread
def turnsTo (p : Program) (w : World) : Nat → Nat → Shared → Thread → Option (Nat × Shared × Thread)
  | 0, _, _, _ => none
  | f + 1, k, s, t => match t.cur, atLoop t && atTurn 22 s with
    | .pure (.again _), true => match stepK (denote table) p w s t with
      | .go s' t' => some (k + 1, s', t')
      | .halt _ _ => none
    | _, _ => match stepK (denote table) p w s t with
      | .go s' t' => turnsTo p w f (k + 1) s' t'
      | .halt _ _ => none
def cuts (k : Int) : Option (Shared × Cut × Cut × Cut) := do
  let p := PySem.Challenge.pw_pd0092_01
  let w := aWorld k
  let s0 ← fencedOpening table p w 4000
  let (n1, s1, t1) ← walkTo p w atLoop 4000 0 s0 (topStub p)
  let (n2, s2, t2) ← turnsTo p w 4000 0 s1 t1
  let (n3, s3, t3) ← walkTo p w through 4000 0 s2 t2
  return (s0, ⟨n1, s1, t1⟩, ⟨n2, s2, t2⟩, ⟨n3, s3, t3⟩)

def putDef (n : Name) (ty val : Lean.Expr) : MetaM Unit := addDecl (.defnDecl { name := n, levelParams := [], type := ty, value := val, hints := .abbrev, safety := .safe })
def obName (st : String) (a : Nat) : Name := (`Mine).str (st ++ toString a)
/-- the text's tree in small pieces, each a constant of its own -/
def pieces (st : String) (a : Nat) (e : Lean.Expr) : MetaM Lean.Expr := do
  let ns := [``PySem.Stmt, ``PySem.Expr, ``PySem.Scope, ``PySem.Arguments, ``PySem.FuncBody]
  let k ← IO.mkRef 0
  Core.transform e (post := fun x => do
    unless x.isApp && !x.hasFVar && !x.hasLooseBVars do return .done x
    let ty? : Option Lean.Expr := match x.getAppFn with
      | .const (.str p _) _ => if ns.contains p then some (mkConst p) else
        if x.isAppOfArity ``List.cons 3 then (match x.getAppArgs[0]! with
          | .const p _ => if ns.contains p then some (mkApp (mkConst ``List [0]) (mkConst p)) else none
          | _ => none) else none
      | _ => none
    let some ty := ty? | return .done x
    if x.sizeWithoutSharing < 25 then return .done x
    let i ← k.get
    k.set (i + 1)
    let n := (`Mine).str (st ++ "ast" ++ toString a ++ "_" ++ toString i)
    addDecl (.defnDecl { name := n, levelParams := [], type := ty, value := x, hints := .abbrev, safety := .safe })
    return .done (mkConst n))
/-- an object as a function of the world's parameters, its text in constants of its own -/
def layOb (st : String) (a : Nat) (o o' : Obj) : MetaM Unit := do
  let PT := mkConst ``Params
  let v ← withLocalDeclD `P PT fun P => do
    let e := plainStrs (objE P o)
    unless e == plainStrs (objE P o') do throwError "an object is the world's: {a}"
    let e ← pieces st a e
    mkLambdaFVars #[P] e
  putDef (obName st a) (← mkArrow PT (mkConst ``Obj)) v
def heapE (l : List Lean.Expr) (life : Lean.Expr) : Lean.Expr :=
  mkApp2 (mkConst ``Heap.mk) (mkApp2 (mkConst ``Array.mk [0]) (mkConst ``Obj) (listE (mkConst ``Obj) l)) life
/-- the objects that the top leaves, as constants -/
def layAll : MetaM Unit := do
  let (some (s0, A, B, C), some (s0', A', B', C')) := (cuts 1, cuts 2) | throwError "the top"
  unless A.n == A'.n && C.n == C'.n do throwError "the steps"
  let PT := mkConst ``Params
  let OT := mkConst ``Obj
  let n := C.s.heap.objs.size
  for a in [0:n] do
    unless a == 15 || a == 16 do layOb "ob" a C.s.heap.objs[a]! C'.s.heap.objs[a]!
  -- the earlier states' objects, where they differ
  let names (st : String) (s s' : Shared) : MetaM (List Name) := do
    let mut out := #[]
    for a in [0:s.heap.objs.size] do
      if a == 15 || a == 16 then
        if st == "oa" && a == 16 then layOb st a s.heap.objs[a]! s'.heap.objs[a]!
        out := out.push .anonymous
        continue
      let e ← withLocalDeclD `P PT fun P => do mkLambdaFVars #[P] (plainStrs (objE P s.heap.objs[a]!))
      let e2 ← withLocalDeclD `P PT fun P => do mkLambdaFVars #[P] (plainStrs (objE P C.s.heap.objs[a]!))
      if e == e2 then out := out.push (obName "ob" a)
      else
        layOb st a s.heap.objs[a]! s'.heap.objs[a]!
        out := out.push (obName st a)
    return out.toList
  let l0 ← names "oo" s0 s0'
  let lA ← names "oa" A.s A'.s
  for a in [0:17] do
    unless a == 15 || a == 16 do
      let eA ← withLocalDeclD `P PT fun P => do mkLambdaFVars #[P] (plainStrs (objE P A.s.heap.objs[a]!))
      let eB ← withLocalDeclD `P PT fun P => do mkLambdaFVars #[P] (plainStrs (objE P B.s.heap.objs[a]!))
      unless eA == eB do throwError "the loop turns an object"
  unless toExpr A.s.heap.life == toExpr B.s.heap.life do throwError "life"
  let life := toExpr C.s.heap.life
  let H0 ← withLocalDeclD `P PT fun P => do mkLambdaFVars #[P] (heapE (l0.map fun n => mkApp (mkConst n) P) (toExpr s0.heap.life))
  putDef `Mine.H0 (← mkArrow PT (mkConst ``Heap)) H0
  let two (nm : Name) (l : List Name) (life : Lean.Expr) : MetaM Unit := do
    let v ← withLocalDeclD `P PT fun P => withLocalDeclD `x OT fun x => withLocalDeclD `y OT fun y => do
      mkLambdaFVars #[P, x, y] (heapE (l.zipIdx.map fun (n, a) => if a == 15 then x else if a == 16 then y else mkApp (mkConst n) P) life)
    putDef nm (← mkArrow PT (← mkArrow OT (← mkArrow OT (mkConst ``Heap)))) v
  two `Mine.HA lA (toExpr A.s.heap.life)
  two `Mine.HC ((List.range n).map (obName "ob")) life
  logInfo m!"steps {A.n} {B.n} {C.n}; toks {s0.toks} {A.s.toks} {B.s.toks} {C.s.toks}; objects {l0.length} {lA.length} {n}; differ {(l0 ++ lA).eraseDups.filter fun x => !("ob".isPrefixOf x.toString)}"
  logInfo m!"{toExpr s0.drawn} {toExpr A.s.drawn} {toExpr C.s.drawn} {s0.gens.size} {A.s.gens.size} {C.s.gens.size}"
/-- what the calls see: all that is reached, but the code table at 40, the set and what it was made with -/
def kAddrs : MetaM (List Nat) := do
  let p := PySem.Challenge.pw_pd0092_01
  let some (h, h') ← twoRuns p | throwError "the top"
  return ((xFragOf (mkConst ``Nat) (some "law") h h').map (·.1)).filter fun a => a != 40 && a != 15 && a != 16
def fragTac : TacticM Unit := do
  layAll
  let pr := mkApp2 (mkConst ``Prod [0, 0]) (mkConst ``Nat) (mkConst ``Obj)
  let as ← kAddrs
  let v ← withLocalDeclD `P (mkConst ``Params) fun P => do
    mkLambdaFVars #[P] (listE pr (as.map fun a => mkApp4 (mkConst ``Prod.mk [0, 0]) (mkConst ``Nat) (mkConst ``Obj) (mkRawNatLit a) (mkApp (mkConst (obName "ob" a)) P)))
  let g ← getMainGoal
  g.assign v
  replaceMainGoal []
noncomputable def K : Params → Frag := by run_tac fragTac
end Mine
end
section
open PySem PySem.W PySem.W.X PyProof.Rows
set_option maxRecDepth 100000
set_option Elab.async false
namespace Mine
open Lean Meta Elab Tactic PySem PySem.W PySem.W.X
noncomputable abbrev PH := PySem.Challenge.pw_pd0092_01

noncomputable def goI (tb : String → Option Builtin) (p : Program) (w : World) : Nat → Shared → Thread → Option (Shared × Thread)
  | 0, s, t => some (s, t)
  | n + 1, s, t => match t.loud with
    | true => none
    | false => match stepK (denote tb) p w s t with
      | .go s' t' => goI tb p w n s' t'
      | .halt _ _ => none
theorem goI_comes {p : Program} {w : World} : ∀ {n : Nat} {s s' : Shared} {t t' : Thread}, goI table p w n s t = some (s', t') → Comes (model p w) s t s' t'
  | 0, s, s', t, t', h => by
    obtain ⟨rfl, rfl⟩ : s = s' ∧ t = t' := by simpa [goI] using h
    exact .refl _ _
  | n + 1, s, s', t, t', h => by
    unfold goI at h
    cases hl : t.loud with
    | true => rw [hl] at h; cases h
    | false =>
      rw [hl] at h
      cases hs : stepK (denote table) p w s t with
      | halt o s₂ => rw [hs] at h; cases h
      | go s₂ t₂ =>
        rw [hs] at h
        exact .step ((Model.step_quiet (model p w) hl).trans hs) (goI_comes h)

noncomputable def hexS : Str := ⟨⟨[48, 49, 50, 51, 52, 53, 54, 55, 56, 57, 97, 98, 99, 100, 101, 102, 65, 66, 67, 68, 69, 70]⟩⟩
noncomputable abbrev loopCH : Code := .builtin "set.update.loop" ⟨[.ref 15, .ref 16], []⟩
noncomputable abbrev iterS (d : Option Addr) (sl : Array (Option Value)) (i : Int) : Obj := ⟨.type "str_ascii_iterator", d, .fields ⟨[.str hexS 192, .int i 0]⟩, sl⟩
noncomputable abbrev iterE (d : Option Addr) (sl : Array (Option Value)) : Obj := ⟨.type "str_ascii_iterator", d, .fields ⟨[.none, .int 22 0]⟩, sl⟩
noncomputable abbrev set0 (Q : Params) : Obj := frozO ⟨[]⟩ 0 (.fresh 0 0 (!Q.followText "set-order"))
noncomputable abbrev stA (w : World) (os : OsState) : Shared := ⟨HA w.params (set0 w.params) (iterS none ⟨[]⟩ 0), ⟨[]⟩, {}, 196, os⟩

/-- the text without written strings, by one word for each string -/
def layTwin (c n e : Name) : MetaM Unit := do
  let d ← getConstInfoDefn c
  let ds ← Fast.twinsIn d.value
  let at_ : Std.HashMap Lean.Expr Nat := ds.zipIdx.foldl (fun m (d, i) => m.insert d.1 i) {}
  let tys ← ds.toList.mapM fun d => inferType d.1
  let G ← Fast.withLocals tys #[] fun xs => mkLambdaFVars xs (Fast.putIn at_ (fun i => xs[i]!) d.value)
  let rest (k : Nat) : Lean.Expr := (tys.drop k).foldr (fun t r => .forallE `x t r .default) d.type
  let mut pf := mkApp2 (mkConst ``Eq.refl [1]) (rest 0) G
  let mut f := G
  let mut g := G
  for ((x, y, h), i) in ds.zipIdx do
    pf := mkAppN (mkConst ``congr [1, 1]) #[tys[i]!, rest (i + 1), f, g, x, y, pf, h]
    f := mkApp f x
    g := mkApp g y
  addDecl (.defnDecl { name := n, levelParams := [], type := d.type, value := Fast.putIn at_ (fun i => ds[i]!.2.1) d.value, hints := d.hints, safety := .safe })
  addDecl (.thmDecl { name := e, levelParams := [], type := ← mkEq (mkConst c) (mkConst n), value := pf })
/-- the kept objects want no quicker words -/
def noTwins : MetaM Unit := do
  let (c, n, e) := (``PySem.Challenge.pw_pd0092_01, `Mine.twPH, `Mine.tePH)
  unless (← getEnv).contains e do layTwin c n e
  Fast.primed.modify (·.insert c (some (n, e)))
  for i in List.range 115 do
    for st in ["ob", "oa", "oo"] do Fast.primed.modify (·.insert ((`Mine).str (st ++ toString i)) none)
  for n in ["HA", "HC", "H0", "thrA"] do Fast.primed.modify (·.insert ((`Mine).str n) none)
def rowName : String := "special-get-raises"
def withRow (w : Lean.Expr) (b : Bool) : Lean.Expr := mkApp3 (mkConst ``World.withFollow) w (mkStrLit rowName) (mkConst (if b then ``Bool.true else ``Bool.false))
def kq (e : Lean.Expr) : MetaM Lean.Expr := do
  let some (e', _) ← Fast.quick e | throwError "no twin"
  XRun.kw e'
/-- the thread behind n steps -/
def threadTac (e : Lean.Expr → Lean.Expr → MetaM Lean.Expr) : TacticM Unit := do
  noTwins
  let v ← withLocalDeclD `w (mkConst ``World) fun w => withLocalDeclD `os (mkConst ``OsState) fun os => do
    let W := withRow w false
    let r ← kq (← e W os)
    unless r.isAppOfArity ``Option.some 2 do throwError "no state"
    let r2 ← XRun.kw r.appArg!
    unless r2.isAppOfArity ``Prod.mk 4 do throwError "no pair"
    let t ← XRun.kw r2.appArg!
    mkLambdaFVars #[w, os] (t.replace fun x => if x == W then some w else none)
  (← getMainGoal).assign v
  replaceMainGoal []
def stubE : MetaM Lean.Expr := mkAppM ``topStub #[mkConst `Mine.PH]
def goE (n : Nat) (w s t : Lean.Expr) : Lean.Expr := mkAppN (mkConst `Mine.goI) #[mkConst ``treeTable, mkConst ``PySem.Challenge.pw_pd0092_01, w, mkRawNatLit n, s, t]
def st0 (w os : Lean.Expr) : Lean.Expr :=
  let gens := mkApp2 (mkConst ``Array.mk [0]) (mkConst ``GenState) (listE (mkConst ``GenState) [])
  mkAppN (mkConst ``Shared.mk) #[mkApp (mkConst `Mine.H0) (mkApp (mkConst ``World.params) w), gens, toExpr ({} : Drawn), mkRawNatLit 181, os]
noncomputable def thrA : World → OsState → Thread := by run_tac threadTac fun w os => do return goE 74 w (st0 w os) (← stubE)
def eqTac : TacticM Unit := do
  noTwins
  let g ← getMainGoal
  let T ← instantiateMVars (← g.getType)
  let .forallE n d b bi := T | throwError "no forall"
  let e ← byKernelQuick (.lam n d b bi) [rowName]
  g.assign e
  replaceMainGoal []
theorem runA : ∀ w : World, (fun os => goI treeTable PH w 74 ⟨H0 w.params, ⟨[]⟩, {}, 181, os⟩ (topStub PH)) = fun os => some (stA w os, thrA w os) := by run_tac eqTac
end Mine
end
section
open PySem PySem.W PySem.W.X PyProof.Rows
set_option maxRecDepth 100000
set_option Elab.async false
namespace Mine
open Sem (wp)

theorem wp_of_all {α : Type} {M : Model} {t : Sem α} {Q : α → Shared → Prop} {E : Value → Shared → Prop} {s : Shared} (h : ∀ A, wpAny M A t Q E s) (Γ : Ctx) (p : Pos) :
    wp M Γ t (fun a _ s' => Q a s') (fun e _ s' => E e s') p s :=
  h ⟨Γ.handled, frameCount Γ.below + Γ.code.weight, none, none, Γ.units⟩ Γ p ⟨rfl, Nat.le_refl _, fun _ e => (nomatch e), fun _ e => (nomatch e), Nat.le_refl _⟩

noncomputable def texts : List Str := hexS.cps.toList.map fun c => ⟨⟨[c]⟩⟩
noncomputable def upTo (i : Nat) (k : Str) : Bool := decide (k ∈ texts.take i)
theorem texts_nodup : texts.Nodup := by decide
theorem text_at (i : Nat) (h : i < 22) : ∃ c, hexS.cps[i]? = some c ∧ texts[i]? = some ⟨⟨[c]⟩⟩ := by
  run_tac sqIn
  have : i < hexS.cps.size := h
  refine ⟨hexS.cps[i], by simp [this], ?_⟩
  unfold texts
  rw [List.getElem?_map]
  have : hexS.cps.toList[i]? = some hexS.cps[i] := by simp
  rw [this]; rfl
  run_tac sqOut
theorem upTo_succ {i : Nat} {x : Str} (h : texts[i]? = some x) (k : Str) : (upTo i k || decide (k = x)) = upTo (i + 1) k := by
  run_tac sqIn
  unfold upTo
  rw [List.take_add_one, h]
  simp
  run_tac sqOut
theorem upTo_new {i : Nat} {x : Str} (h : texts[i]? = some x) : upTo i x = false := by
  run_tac sqIn
  unfold upTo
  rw [decide_eq_false_iff_not]
  intro hm
  obtain ⟨j, hj, e⟩ := List.getElem_of_mem hm
  obtain ⟨hi, e2⟩ := List.getElem?_eq_some_iff.mp h
  rw [List.length_take] at hj
  rw [List.getElem_take] at e
  have := (List.getElem_inj texts_nodup (h₀ := by omega) (h₁ := hi)).mp (e.trans e2.symm)
  omega
  run_tac sqOut
section
variable {w : World} {g : Array GenState} {d : Drawn} {os : OsState}
structure AtTurn (w : World) (i : Nat) (h : Heap) : Prop where
  size : h.objs.size = 17
  keep : ∀ b, b ≠ 15 → b ≠ 16 → h.get? b = (HA w.params (set0 w.params) (iterS none ⟨[]⟩ 0)).get? b
  set : SetAt PH w h 15 (upTo i) i
  it : h.IsStrIter 16 "str_ascii_iterator" hexS 192 i

theorem turn0 : AtTurn w 0 (HA w.params (set0 w.params) (iterS none ⟨[]⟩ 0)) where
  size := by kernel_rfl
  keep := fun _ _ _ => rfl
  set := by
    have e : (HA w.params (set0 w.params) (iterS none ⟨[]⟩ 0)).get? 15 = some (set0 w.params) := by kernel_rfl
    have f : (SetTable.fresh 0 0 (!w.params.followText "set-order")).fits 0 = true := by kernel_rfl
    have F : SetFacts PH w (upTo 0) (⟨[]⟩ : Array (Int × Value)) (SetTable.fresh 0 0 (!w.params.followText "set-order")) := by
      refine ⟨fun e he => (nomatch he), fun k => ⟨fun q => ?_, fun ⟨e, he, _⟩ => (nomatch he)⟩, f, by decide⟩
      unfold upTo at q
      rw [List.take_zero] at q
      simp at q
    exact Exists.intro (⟨[]⟩ : Array (Int × Value)) (Exists.intro 0 (Exists.intro (SetTable.fresh 0 0 (!w.params.followText "set-order")) ⟨e, F, rfl⟩))
  it := by
    have e : (HA w.params (set0 w.params) (iterS none ⟨[]⟩ 0)).get? 16 = some (iterS none ⟨[]⟩ 0) := by kernel_rfl
    exact ⟨_, e, rfl, rfl⟩

theorem denote_builtin {id : String} {b : Builtin} {args : Args} (he : entryFor table id = some b) : denote table (.builtin id args) = b args := by
  run_tac sqIn
  show (match entryFor table id with | some b => b args | none => _) = _
  rw [he]
  run_tac sqOut
theorem turn {m : Sem Fin} (hm : denote table loopCH = m) {A : Around} {i : Nat} {h : Heap} {t : Nat} (hi : i < 22) (T : AtTurn w i h) :
    wpAny (model PH w) A m (fun fin s' => fin = .again loopCH ∧ ∃ h', s' = ⟨h', g, d, t + 2, os⟩ ∧ AtTurn w (i + 1) h') (fun _ _ => False) ⟨h, g, d, t, os⟩ := by
  run_tac sqIn
  subst hm
  rw [denote_builtin PyProof.Rows.F.entry_set_update_loop]
  obtain ⟨c, hc, hx⟩ := text_at i hi
  show wpAny _ _ (pyNext (.ref 16) >>= _) _ _ _
  refine wpAny_bind (wpAny_pyNext_ascii_item T.it hc fun h1 it1 s1 => ?_)
  have S1 : SetAt PH w h1 15 (upTo i) i := by
    obtain ⟨es, ep, t, ho, r⟩ := T.set
    exact ⟨es, ep, t, (s1.2 15 (by decide)).trans ho, r⟩
  show wpAny _ _ (holding [.str ⟨⟨[c]⟩⟩ t] (setAdd 15 (.str ⟨⟨[c]⟩⟩ t)) >>= _) _ _ _
  refine wpAny_bind (wpAny_holding (set_add S1 (upTo_new hx) (by show i + 1 < 4096; omega) fun h2 s2 S2 => ?_))
  refine wpAny_pure ⟨rfl, h2, rfl, ⟨s2.1.trans (s1.1.trans T.size), fun b n15 n16 => (s2.2 b n15).trans ((s1.2 b n16).trans (T.keep b n15 n16)), ?_, ?_⟩⟩
  · have : (fun k' => upTo i k' || decide (k' = ⟨⟨[c]⟩⟩)) = upTo (i + 1) := funext (upTo_succ hx)
    rw [this] at S2; exact S2
  · obtain ⟨o, ho, r⟩ := it1
    exact ⟨o, (s2.2 16 (by decide)).trans ho, r⟩
  run_tac sqOut
theorem turn' {m : Sem Fin} (hm : denote table loopCH = m) {Γ : Ctx} {p : Pos} {i : Nat} {h : Heap} {t : Nat} (hi : i < 22) (T : AtTurn w i h) :
    wp (model PH w) Γ m (fun fin _ s' => fin = .again loopCH ∧ ∃ h', s' = ⟨h', g, d, t + 2, os⟩ ∧ AtTurn w (i + 1) h') (fun _ _ _ => False) p ⟨h, g, d, t, os⟩ :=
  wp_of_all (fun A => turn (A := A) hm hi T) Γ p
theorem den_model {p : Program} {w : World} {c : Code} {m : Sem Fin} (h : denote table c = m) : (model p w).den c = m := h
theorem again_at {M : Model} {c : Code} {m : Sem Fin} (hm : M.den c = m) (s : Shared) (p : Pos) (st : List Frame) (hq : c.quiet = true) : M.step s ⟨.pure (.again c), c, p, st⟩ = .go s ⟨m, c, p, st⟩ := by
  rw [← hm]; exact step_again M s c p st c hq
theorem turns {m : Sem Fin} (hm : denote table loopCH = m) {st : List Frame} : ∀ (k i : Nat) (h : Heap) (p : Pos) (t : Nat), i + k = 22 → AtTurn w i h →
    ∃ h' p', AtTurn w 22 h' ∧ Comes (model PH w) ⟨h, g, d, t, os⟩ ⟨m, loopCH, p, st⟩ ⟨h', g, d, t + 2 * k, os⟩ ⟨m, loopCH, p', st⟩
  | 0, i, h, p, t, e, T => by
    obtain rfl : i = 22 := e
    exact ⟨h, p, T, .refl _ _⟩
  | k + 1, i, h, p, t, e, T => by
    have hi : i < 22 := by omega
    obtain ⟨s', p', leaf, C, hl⟩ := wp_comes (Ctx.fits_of loopCH st) m _ _ p _ (turn' hm (g := g) (d := d) (os := os) (t := t) (Γ := Ctx.of loopCH st) (p := p) hi T)
    rcases hl with ⟨a, rfl, rfl, h1, rfl, T1⟩ | ⟨e, _, q⟩
    · obtain ⟨h', p'', T', C'⟩ := turns hm (st := st) k (i + 1) h1 p' (t + 2) (by omega) T1
      have st1 := again_at (M := model PH w) (c := loopCH) (den_model hm) ⟨h1, g, d, t + 2, os⟩ p' st (plainId_quiet PyProof.Rows.F.plain_set_update_loop _)
      refine ⟨h', p'', T', C.trans (.step st1 ?_)⟩
      rw [show t + 2 * (k + 1) = t + 2 + 2 * k by omega]; exact C'
    · exact q.elim
end
end Mine
end
section
open PySem PySem.W PySem.W.X PyProof.Rows
set_option maxRecDepth 100000
set_option Elab.async false
set_option linter.unusedVariables false
namespace Mine
open Lean Meta Elab Tactic PySem PySem.W PySem.W.X

noncomputable abbrev mods : List Str := importedModules PH.main.body
noncomputable abbrev qP : Program := view PH [0, 1, 3, 4, 5, 6, 7, 9, 10, 12, 13, 14, 15, 16, 17, 18, 19]
noncomputable abbrev looseP : List Str := ["hexdigits", "HEXDIGIT_CHARS"]
noncomputable abbrev lvP : List (Str × WData) := [("hexdigits", .str hexS)]
noncomputable abbrev XtP (s : Shared) : Bool := xlAt qP lvP s
noncomputable abbrev stC (w : World) (os : OsState) (es : Array (Int × PySem.Value)) (ep : Nat) (t : SetTable) (d : Option Addr) (sl : Array (Option PySem.Value)) : Shared := ⟨HC w.params (frozO es ep t) (iterE d sl), ⟨[]⟩, {}, 365, os⟩
noncomputable abbrev stB (w : World) (os : OsState) (es : Array (Int × PySem.Value)) (ep : Nat) (t : SetTable) (d : Option Addr) (sl : Array (Option PySem.Value)) : Shared := ⟨HA w.params (frozO es ep t) (iterS d sl 22), ⟨[]⟩, {}, 240, os⟩
def eqTac' : TacticM Unit := do
  noTwins
  let g ← getMainGoal
  let T ← instantiateMVars (← g.getType)
  let .forallE n d b bi := T | throwError "no forall"
  let e ← byKernelQuick (.lam n d b bi) []
  g.assign e
  replaceMainGoal []
theorem thrA_eq : ∀ w : World, (fun os => thrA w os) = fun os => (⟨denote treeTable loopCH, loopCH, (thrA w os).pos, (thrA w os).stack⟩ : Thread) := by run_tac eqTac'
theorem H0_eq : ∀ w : World, boot_heap w.params = H0 w.params := by run_tac eqTac'
theorem runC : ∀ w : World, (fun os es ep t d sl pos => (goI treeTable PH w 618 (stB w os es ep t d sl) ⟨denote treeTable loopCH, loopCH, pos, (thrA w os).stack⟩).map fun x => (x.1, through x.2)) =
    fun os es ep t d sl pos => some (stC w os es ep t d sl, true) := by run_tac eqTac

/-- the looks at the state behind the top, part by part -/
def lookGo : Nat → Lean.Expr → Lean.Expr → MetaM Lean.Expr
  | 0, _, _ => throwError "fuel"
  | fuel + 1, l, r => lambdaTelescope l fun xs a => do
    let b := r.beta xs
    let open_ (e : Lean.Expr) : MetaM Lean.Expr := do
      let e := e.headBeta
      if e.isAppOfArity ``Prod.mk 4 then return e
      if e.isAppOf ``openSeen || e.isAppOf ``openGood then return (← unfoldDefinition? e).getD e else return e
    let (a, b) := (← open_ a, ← open_ b)
    if a.isAppOfArity ``Prod.mk 4 && b.isAppOfArity ``Prod.mk 4 then
      let part (e : Lean.Expr) (i : Nat) := mkLambdaFVars xs e.getAppArgs[i]!
      let x ← lookGo fuel (← part a 2) (← part b 2)
      let y ← lookGo fuel (← part a 3) (← part b 3)
      let pf ← mkAppM ``looks_pair #[mkAppN x xs, mkAppN y xs]
      let ty ← mkForallFVars xs (← mkEq (l.beta xs) (r.beta xs))
      return mkConst (← mkAuxLemma [] ty (← mkLambdaFVars xs pf) (cache := false))
    else
      let w := xs[0]!
      let rest := xs.extract 1 xs.size
      let Pr ← mkLambdaFVars #[w] (← mkEq (← mkLambdaFVars rest a) (← mkLambdaFVars rest b))
      let e ← byKernelQuick Pr []
      let mut pf := mkApp e w
      for x in rest do pf ← mkAppM ``congrFun #[pf, x]
      let ty ← mkForallFVars xs (← mkEq (l.beta xs) (r.beta xs))
      return mkConst (← mkAuxLemma [] ty (← mkLambdaFVars xs pf) (cache := false))
def lookTac : TacticM Unit := do
  noTwins
  let g ← getMainGoal
  let T ← instantiateMVars (← g.getType)
  let pf ← forallTelescope T fun xs b => do
    let some (_, l, r) := b.eq? | throwError "no equation"
    lookGo 20 (← mkLambdaFVars xs l) (← mkLambdaFVars xs r)
  g.assign pf
  replaceMainGoal []
theorem looks : ∀ (w : World) (os : OsState) (es : Array (Int × PySem.Value)) (ep : Nat) (t : SetTable) (d : Option Addr) (sl : Array (Option PySem.Value)),
    ((staticsOk mods (H0 w.params) (stC w os es ep t d sl).heap, namesBound PH (stC w os es ep t d sl).heap, gensDone (stC w os es ep t d sl), laidKept (H0 w.params) (stC w os es ep t d sl).heap),
      openSeen qP looseP mods XtP true (stC w os es ep t d sl)) = ((true, true, true, true), openGood qP looseP) := by run_tac lookTac
end Mine
end
section
open PySem PySem.W PySem.W.X PyProof.Rows
set_option maxRecDepth 100000
set_option Elab.async false
set_option linter.unusedVariables false
namespace Mine

theorem heap_ext {h H : Heap} (sz : h.objs.size = H.objs.size) (lf : h.life = H.life) (g : ∀ b, b < H.objs.size → h.get? b = H.get? b) (hf : ∀ b, b < H.objs.size → (H.get? b).isSome = true) : h = H := by
  run_tac sqIn
  have get : ∀ (x : Heap) b o, x.get? b = some o → x.objs[b]? = some o := by
    intro x b o e
    unfold Heap.get? at e
    split at e
    · cases e
    · exact e
  obtain ⟨ho, hl⟩ := h
  obtain ⟨Ho, Hl⟩ := H
  obtain rfl : hl = Hl := lf
  congr 1
  refine Array.ext sz fun i h1 h2 => ?_
  have := hf i h2
  obtain ⟨o, e⟩ := Option.isSome_iff_exists.mp this
  have e1 := get _ _ _ e
  have e2 := get _ _ _ ((g i h2).trans e)
  simp only [Array.getElem?_eq_getElem h1, Array.getElem?_eq_getElem h2] at e1 e2
  exact Option.some.inj (e2.trans e1.symm)
  run_tac sqOut
theorem step_life' {M : Model} {s s' : Shared} {t t' : Thread} (h : M.step s t = .go s' t') : s'.heap.life = s.heap.life := by
  run_tac sqIn
  cases hl : t.loud with
  | true => rw [Model.step_loud _ hl] at h; cases h
  | false =>
    rw [Model.step_quiet _ hl] at h
    have e := stepK_forget M.den M.prog M.w s t
    rw [h] at e
    cases hs : step M.den M.prog M.w s t with
    | halt o s₂ => rw [hs] at e; cases e
    | go s₂ t₂ =>
      rw [hs] at e
      have z := step_life M.den M.prog M.w s s₂ t t₂ hs
      simp only [Step.forget, Step.go.injEq] at e
      have := congrArg Shared.heap e.1
      exact (congrArg Heap.life this).trans z
  run_tac sqOut
theorem comes_life {M : Model} {s s' : Shared} {t t' : Thread} (h : Comes M s t s' t') : s'.heap.life = s.heap.life := by
  run_tac sqIn
  obtain ⟨n, hn⟩ := h
  induction n generalizing s t with
  | zero =>
    have e : Run.running s t = .running s' t' := hn
    injection e with e1 e2
    rw [e1]
  | succ n ih =>
    rw [runN_succ] at hn
    cases hs : M.step s t with
    | go s₂ t₂ => simp only [hs] at hn; exact (ih hn).trans (step_life' hs)
    | halt o s₂ => simp only [hs] at hn; cases hn
  run_tac sqOut
theorem getA (Q : Params) (x y x' y' : Obj) : ∀ b, b < 17 → b ≠ 15 → b ≠ 16 → (HA Q x y).get? b = (HA Q x' y').get? b ∧ ((HA Q x y).get? b).isSome = true
  | 0, _, _, _ => ⟨by kernel_rfl, by kernel_rfl⟩
  | 1, _, _, _ => ⟨by kernel_rfl, by kernel_rfl⟩
  | 2, _, _, _ => ⟨by kernel_rfl, by kernel_rfl⟩
  | 3, _, _, _ => ⟨by kernel_rfl, by kernel_rfl⟩
  | 4, _, _, _ => ⟨by kernel_rfl, by kernel_rfl⟩
  | 5, _, _, _ => ⟨by kernel_rfl, by kernel_rfl⟩
  | 6, _, _, _ => ⟨by kernel_rfl, by kernel_rfl⟩
  | 7, _, _, _ => ⟨by kernel_rfl, by kernel_rfl⟩
  | 8, _, _, _ => ⟨by kernel_rfl, by kernel_rfl⟩
  | 9, _, _, _ => ⟨by kernel_rfl, by kernel_rfl⟩
  | 10, _, _, _ => ⟨by kernel_rfl, by kernel_rfl⟩
  | 11, _, _, _ => ⟨by kernel_rfl, by kernel_rfl⟩
  | 12, _, _, _ => ⟨by kernel_rfl, by kernel_rfl⟩
  | 13, _, _, _ => ⟨by kernel_rfl, by kernel_rfl⟩
  | 14, _, _, _ => ⟨by kernel_rfl, by kernel_rfl⟩
  | 15, _, n, _ => absurd rfl n
  | 16, _, _, n => absurd rfl n
  | b + 17, h, _, _ => absurd h (Nat.not_lt.mpr (Nat.le_add_left 17 b))
theorem getA15 (Q : Params) (es : Array (Int × Value)) (ep : Nat) (t : SetTable) (y : Obj) : (HA Q (frozO es ep t) y).get? 15 = some (frozO es ep t) := by kernel_rfl
theorem getA16 (Q : Params) (x : Obj) (d : Option Addr) (sl : Array (Option Value)) (i : Int) : (HA Q x (iterS d sl i)).get? 16 = some (iterS d sl i) := by kernel_rfl
theorem sizeA (Q : Params) (x y : Obj) : (HA Q x y).objs.size = 17 := by kernel_rfl
theorem lifeA (Q : Params) (x y x' y' : Obj) : (HA Q x y).life = (HA Q x' y').life := by kernel_rfl

theorem is_HA {w : World} {h : Heap} (T : AtTurn w 22 h) (lf : h.life = (HA w.params (set0 w.params) (iterS none ⟨[]⟩ 0)).life) :
    ∃ es ep t d sl, h = HA w.params (frozO es ep t) (iterS d sl 22) ∧ SetFacts PH w (upTo 22) es t ∧ es.size = 22 := by
  run_tac sqIn
  obtain ⟨es, ep, t, ho, F, hn⟩ := T.set
  obtain ⟨⟨c, d, dt, sl⟩, hi, hc, hd⟩ := T.it
  dsimp only at hc hd
  subst hc hd
  refine ⟨es, ep, t, d, sl, heap_ext (T.size.trans (sizeA _ _ _).symm) (lf.trans (lifeA _ _ _ _ _)) (fun b hb => ?_) (fun b hb => ?_), F, hn⟩
  · rw [sizeA] at hb
    by_cases h15 : b = 15
    · subst h15; rw [getA15]; exact ho
    by_cases h16 : b = 16
    · subst h16; rw [getA16]; exact hi
    rw [T.keep b h15 h16]; exact (getA w.params _ _ _ _ b hb h15 h16).1
  · rw [sizeA] at hb
    by_cases h15 : b = 15
    · subst h15; rw [getA15]; rfl
    by_cases h16 : b = 16
    · subst h16; rw [getA16]; rfl
    exact (getA w.params _ _ (set0 w.params) (iterS none ⟨[]⟩ 0) b hb h15 h16).2
  run_tac sqOut
theorem goI_comes' {p : Program} {w : World} {n : Nat} {s s' : Shared} {t t' : Thread} (h : goI treeTable p w n s t = some (s', t')) : Comes (model p w) s t s' t' := by
  run_tac sqIn
  rw [← table_eq_tree] at h; exact goI_comes h
  run_tac sqOut
theorem all_run (w : World) (os : OsState) : ∃ es ep t d sl thr, Comes (model PH w) ⟨H0 w.params, ⟨[]⟩, {}, 181, os⟩ (topStub PH) (stC w os es ep t d sl) thr ∧ through thr = true ∧ SetFacts PH w (upTo 22) es t ∧ es.size = 22 := by
  run_tac sqIn
  have a := goI_comes' (congrFun (runA w) os)
  have e := congrFun (thrA_eq w) os
  rw [← table_eq_tree] at e
  generalize hm : denote table loopCH = m at e
  obtain ⟨h', p', T, b⟩ := turns hm (g := ⟨[]⟩) (d := {}) (os := os) (st := (thrA w os).stack) 22 0 _ (thrA w os).pos 196 rfl turn0
  have a' := comes_life b
  obtain ⟨es, ep, t, d, sl, rfl, F, hn⟩ := is_HA T a'
  obtain ⟨⟨s', t'⟩, c, c'⟩ := Option.map_eq_some_iff.mp (congrFun (congrFun (congrFun (congrFun (congrFun (congrFun (congrFun (runC w) os) es) ep) t) d) sl) p')
  obtain ⟨rfl, ht⟩ : s' = _ ∧ through t' = true := by simpa only [Prod.mk.injEq] using c'
  have c2 := goI_comes' c
  rw [← table_eq_tree, hm] at c2
  rw [e] at a
  exact ⟨es, ep, t, d, sl, t', a.trans (b.trans c2), ht, F, hn⟩
  run_tac sqOut
theorem sched_of {p : Program} {w : World} {s s' : Shared} {t thr : Thread} (hz : s.asleep) (h : Comes (model p w) s t s' thr) (ht : through thr = true) (hg : s'.gens = ⟨[]⟩) :
    ∃ n thr', schedN (denote table) p w n (.single s t) = .running (.single s' thr') ∧ through thr' = true := by
  run_tac sqIn
  obtain ⟨cur, c, pos, st⟩ := thr
  unfold through at ht
  obtain ⟨h1, h2⟩ := Bool.and_eq_true_iff.mp ht
  obtain rfl : st = [] := List.isEmpty_iff.mp h1
  obtain ⟨f, rfl⟩ : ∃ f, cur = .pure (.done f) := by
    revert h2
    cases cur with
    | pure x => cases x with
      | done f => exact fun _ => ⟨f, rfl⟩
      | again => intro q; cases q
    | _ => intro q; cases q
  obtain ⟨n, hn⟩ := h
  have hn' : runNI (denote table) p w n s t = .running s' ⟨.pure (.done f), c, pos, []⟩ := hn
  have hlast : runNI (denote table) p w (n + 1) s t = .halted (.done f) s' := by
    have := runN_snoc (M := model p w) hn
    rw [show (.pure (.done f) : Sem Fin) = leafOf (.ok f) from rfl, step_leaf_nil] at this
    have hl : leftWithCleanup s'.gens = false := by rw [hg]; unfold leftWithCleanup; simp
    simp only [outcomeOf, finish, hl, Bool.false_eq_true, if_false] at this
    exact this
  obtain ⟨s'', hr, hf, hc⟩ := runNI_real (denote table) p w hlast rfl
  obtain ⟨σ, tau, hrun, hσ, htau⟩ := runNI_running_real hn'
  have hne : ∀ k s₂, runN (denote table) p w k s t ≠ .halted (.unsupported "lifetime:generator-with-cleanup-left-suspended") s₂ := by
    intro k s₂ hk
    have a := runN_mono (denote table) p w (n + 1) k s t _ s'' hr
    have b := runN_mono (denote table) p w k (n + 1) s t _ s₂ hk
    rw [Nat.add_comm, b] at a
    injection a with a1 _
    cases a1
  have e1 : σ = s' := by
    obtain ⟨a1, a2, a3, a4, a5⟩ := σ
    obtain ⟨b1, b2, b3, b4, b5⟩ := s'
    simp only [Shared.forget, Shared.mk.injEq] at hσ
    dsimp only at hg
    subst hg
    obtain ⟨rfl, q, rfl, rfl, rfl⟩ := hσ
    have : a2 = ⟨[]⟩ := by
      have := congrArg Array.size q
      simp at this
      first | exact this | exact Array.eq_empty_of_size_eq_zero this
    rw [this]
  obtain ⟨u1, u2, u3, u4⟩ := tau
  simp only [Thread.forget, Thread.mk.injEq, forgetAll] at htau
  obtain ⟨rfl, q2, q3, q⟩ := htau
  obtain rfl : u4 = [] := by cases u4 with | nil => rfl | cons x xs => simp at q
  rw [e1] at hrun
  refine ⟨n, ⟨.pure (.done f), u2, u3, []⟩, (schedN_eq_runN (denote table) p w s t hz ⟨hc, hne⟩ n).trans ?_, rfl⟩
  rw [hrun]; rfl
  run_tac sqOut
end Mine
end
section
open PySem PySem.W PySem.W.X PyProof.Rows
set_option maxRecDepth 100000
set_option Elab.async false
set_option linter.unusedVariables false
namespace Mine

theorem keptC (Q : Params) (x y : Obj) : ∀ b, b < 11 → b ≠ mainNs → (H0 Q).get? b = (HC Q x y).get? b
  | 0, _, _ => by kernel_rfl
  | 1, _, _ => by kernel_rfl
  | 2, _, _ => by kernel_rfl
  | 3, _, n => absurd rfl n
  | 4, _, _ => by kernel_rfl
  | 5, _, _ => by kernel_rfl
  | 6, _, _ => by kernel_rfl
  | 7, _, _ => by kernel_rfl
  | 8, _, _ => by kernel_rfl
  | 9, _, _ => by kernel_rfl
  | 10, _, _ => by kernel_rfl
  | b + 11, h, _ => absurd h (Nat.not_lt.mpr (Nat.le_add_left 11 b))
theorem size0 (Q : Params) : (H0 Q).objs.size = 11 := by kernel_rfl
theorem setC (Q : Params) (es : Array (Int × Value)) (ep : Nat) (t : SetTable) (y : Obj) : (HC Q (frozO es ep t) y).get? 15 = some (frozO es ep t) := by kernel_rfl
theorem fragC (Q : Params) (x y : Obj) : ((K Q).map (·.1)).map (HC Q x y).get? = (K Q).map fun p => some p.2 := by kernel_rfl
theorem main_eq : opening PH = plainProg PH.main.scope.names := by kernel_rfl
theorem fence_eq (s : Shared) : fenceModules? PH s = some s := by kernel_rfl
theorem lifeC (Q : Params) (x y : Obj) : (HC Q x y).life = (H0 Q).life := by kernel_rfl

/-- what the calls may lean on -/
theorem tabC (Q : Params) (x y : Obj) : (HC Q x y).get? 40 = some (tableObj ⟨[]⟩) := by kernel_rfl
noncomputable def Known (w : World) (h : Heap) : Prop := (K w.params).In h ∧ SetAt PH w h 15 (upTo 22) 22 ∧ h.get? 40 = some (tableObj ⟨[]⟩)
theorem Known.keeps (w : World) (h h' : Heap) (x : Known w h) (k : ∀ b o, h.get? b = some o → h'.get? b = some o) : Known w h' :=
  ⟨Frag.In.keeps x.1 k, let ⟨es, ep, t, ho, r⟩ := x.2.1; ⟨es, ep, t, k _ _ ho, r⟩, k _ _ x.2.2⟩
noncomputable abbrev XPq := XL qP lvP
theorem beh (w : World) : (∃ s, AfterRun (opening PH) w s) ∧ ∀ s, AfterRun (opening PH) w s → ∃ s₀, fenceModules? PH s = some s₀ ∧ s₀.gens = #[] ∧ ∃ s₁, TopRan PH w s₀ s₁ ∧ s₁.asleep ∧ s₁.gens = #[] ∧ s₁.heap.isNs mainGlobals = true ∧
    Ground qP looseP [] XPq w s₁ (s₁.heap.nsMap mainGlobals) (s₁.heap.nsMap builtinsNs) s₁.heap ∧ Known w s₁.heap := by
  run_tac sqIn
  have h0 := boot_open (p := PH) (N := 600) main_eq rfl fence_eq w
  rw [← table_eq_tree] at h0
  obtain ⟨⟨hh, gg, dd, tt, os⟩, h2, e⟩ := Option.map_eq_some_iff.mp h0
  obtain ⟨s, h4, h5⟩ := Option.bind_eq_some_iff.mp h2
  have A := AfterImport.of_importEnds h4
  refine ⟨⟨s, A⟩, fun s' hs' => ?_⟩
  obtain rfl : s' = s := AfterImport.unique hs' A
  have z := Shared.asleep_of_life (fence_lifeW h5) A.life
  simp only [Prod.mk.injEq] at e
  obtain ⟨e1, e2, e3, e4⟩ := e
  rw [H0_eq w] at e1
  subst e1 e2 e3 e4
  obtain ⟨es, ep, t, d, sl, thr, C, ht, F, hn⟩ := all_run w os
  have L := looks w os es ep t d sl
  obtain ⟨L1, L2⟩ := Prod.mk.inj L
  simp only [Prod.mk.injEq] at L1
  obtain ⟨hs, hnb, hgd, hlk⟩ := L1
  have z' : (⟨H0 w.params, ⟨[]⟩, {}, 181, os⟩ : Shared).asleep := z
  obtain ⟨n, thr', hr, ht'⟩ := sched_of z' C ht rfl
  obtain ⟨G, g0, g1, g2, g3, g4, g5⟩ := ground_of_open (w := w) (XP := XPq) (fun s e => xl_of s e) (by decide +kernel) L2
  refine ⟨⟨H0 w.params, ⟨[]⟩, {}, 181, os⟩, h5, rfl, stC w os es ep t d sl, ⟨⟨n, thr', hr, ht'⟩, lifeC _ _ _, rfl, fun b o hb hn => ?_,
      g2, statics_of_ok hs, g3, g4, g5, gens_of_done hgd, names_of_bound hnb, laid_of_kept hlk⟩, Shared.asleep_of_life (lifeC _ _ _) z', rfl, g1, G, Frag.in_of rfl (fragC _ _ _), ⟨es, ep, t, setC _ _ _ _ _, F, hn⟩, tabC _ _ _⟩
  have hb' : b < 11 := by have := Heap.lt_size hb; rw [size0] at this; exact this
  have q := keptC w.params (frozO es ep t) (iterE d sl) b hb' (fun q => hn (.inl q))
  exact q.symm.trans hb
  run_tac sqOut
theorem open_by {r : RowW} {run : Value → List Value → Sem Value} {tree : List Value → Sem Fin} {q : Program} {loose defs kps : List Str} {XP : (Str → Option Value) → Heap → Prop} {YP : World → Heap → Prop}
    (beh : ∀ w, (∃ s, AfterRun (opening r.prog) w s) ∧ ∀ s, AfterRun (opening r.prog) w s → ∃ s₀, fenceModules? r.prog s = some s₀ ∧ s₀.gens = #[] ∧ ∃ s₁, TopRan r.prog w s₀ s₁ ∧ s₁.asleep ∧ s₁.gens = #[] ∧ s₁.heap.isNs mainGlobals = true ∧
      Ground q loose [] XP w s₁ (s₁.heap.nsMap mainGlobals) (s₁.heap.nsMap builtinsNs) s₁.heap ∧ YP w s₁.heap)
    (hXk : ∀ mg h h', XP mg h → (∀ b o, h.get? b = some o → h'.get? b = some o) → XP mg h') (hYk : ∀ w h h', YP w h → (∀ b o, h.get? b = some o → h'.get? b = some o) → YP w h')
    (hR : r.records = []) (ok : (opensWell r.prog && (frees r && r.within.isEmpty)) = true) (hb : r.prog.bare) (hw : r.promised)
    (ht : ∀ vs (w : World) (s : Shared) mg f (Q : Fin → Shared → Prop) (E : Value → Shared → Prop), s.heap.Ns mainGlobals mg → mg r.name = some f → wpAny (model r.prog w) callerA (run f vs) (fun v s' => Q (.done (.ret v)) s') E s → wpAny (model r.prog w) callerA (tree vs) Q E s)
    (pin : ∀ w s, s.heap.isNs mainGlobals = true → Ground q loose [] XP w s (s.heap.nsMap mainGlobals) (s.heap.nsMap builtinsNs) s.heap → ∀ n ∈ defs, isTheDefsW r.prog s.heap n)
    (call : ∀ (w : World) (s₀ s₁ : Shared) (mg mb : Str → Option Value), Ground q loose r.records XP w s₀ mg mb s₁.heap → YP w s₁.heap → ∀ (args : List WData) (vs : List Value) (as : List Addr),
      r.claim.pre args = true → WData.layableAll args = true → Laid r.records w s₀ s₁ args vs as → sysModules < s₀.heap.objs.size → ∃ f, mg r.name = some f ∧
        wpAny (model r.prog w) callerA (run f vs) (fun v s' => GoodWG r.claim (classAt s₀.heap) (ExcName.means s₀.heap) args s₁ (.ok (.ret v)) s')
          (fun e s' => GoodWG r.claim (classAt s₀.heap) (ExcName.means s₀.heap) args s₁ (.error e) s') s₁) : r.claim.HoldsOpenBy (fun vs => ⟨tree vs, .builtin "claim.caller" {}, default, []⟩) defs kps false := by
  run_tac sqIn
  obtain ⟨o1, k5⟩ := Bool.and_eq_true_iff.mp ok
  obtain ⟨k5, k6⟩ := Bool.and_eq_true_iff.mp k5
  obtain ⟨hsame, hu, ha, hap, hm⟩ := frees_parts k5
  refine ⟨⟨hb, o1, by show r.makers.map _ = []; rw [hm]; rfl⟩, hw.witness, fun w => ⟨(beh w).1, fun s' hs' => ?_⟩⟩
  obtain ⟨s₀, hf, hg0, s, hT, hz, hgens, hg, G0, y⟩ := (beh w).2 s' hs'
  have RF : RecFacts r.records s.heap := recFacts_nil hR
  refine ⟨s₀, hf, hg0, s, hT, pin w s hg G0, RF.1, RF.2.1, ?_⟩
  have G : Ground q loose r.records XP w s _ _ s.heap := RF.ground G0
  refine ClaimW.callFrom_of_specG (c := r.claim) hz hgens fun args hpre hlay ord hord => ?_
  obtain ⟨⟨vs, s₁⟩, hlaid⟩ := Option.isSome_iff_exists.mp (layAllW_isSome (P := w.params) (ord := ord) G.has args r.args s (pre_splitW hpre).1)
  have keeps := layAllW_keeps _ _ _ hlaid
  have hal := layAllW_rest _ _ _ hlaid
  obtain ⟨as, hrd, hin, hold⟩ := reads_layAllW hord _ _ _ hlaid hlay s₁.heap (fun _ _ e => e)
  have L : Laid r.records w s s₁ args vs as := ⟨⟨ord, hord, hlaid⟩, hrd, hin, hold, keeps, hal.1.trans hgens, hal.2.2.1⟩
  have G₁ := G.keeps hXk keeps
  obtain ⟨f, hf, h⟩ := call w s s₁ _ _ G₁ (hYk _ _ _ y keeps) args vs as hpre hlay L G.low
  have hi := ident_freeW hu ha hap
  have hwi : r.claim.within = [] := List.isEmpty_iff.mp k6
  exact ⟨vs, s₁, hlaid, ht vs w s₁ _ f _ _ G₁.T.g hf (wpAny_mono h (fun v s' g => ⟨_, rfl, have z := g.laid (c := r.claim) hsame hwi hi L; ⟨z.1, z.2.1, z.2.2, fun q => nomatch q⟩⟩) fun e s' g => have z := g.laid (c := r.claim) hsame hwi hi L; ⟨z.1, z.2.1, z.2.2, fun q => nomatch q⟩)⟩
  run_tac sqOut
end Mine
end
section
open PySem PySem.W PySem.W.X PyProof.Rows
set_option maxRecDepth 100000
namespace Mine

noncomputable abbrev codeO (k1 : Tok) (v0 v2 v3 v4 v5 v6 v8 v9 v10 v11 v12 v13 v14 v15 v16 v17 v18 : Value) : Obj := ⟨.type "code", none, .fields ⟨[v0, (.str ⟨⟨[115, 117, 102, 102, 105, 120, 101, 100, 95, 101, 114, 114, 46, 60, 108, 111, 99, 97, 108, 115, 62, 46, 99, 111, 111, 114, 100, 95, 114, 101, 112, 114]⟩⟩ k1), v2, v3, v4, v5, v6, (.int 19 0), v8, v9, v10, v11, v12, v13, v14, v15, v16, v17, v18]⟩, ⟨[]⟩⟩
noncomputable def CodeAt (h : Heap) (c : Addr) : Prop := ∃ k1 v0 v2 v3 v4 v5 v6 v8 v9 v10 v11 v12 v13 v14 v15 v16 v17 v18, h.get? c = some (codeO k1 v0 v2 v3 v4 v5 v6 v8 v9 v10 v11 v12 v13 v14 v15 v16 v17 v18)
/-- the table of codes behind the first error -/
noncomputable abbrev tabOf (c : Addr) : Array Value := ⟨[.int 18 0, .int 4 0, .ref c]⟩
/-- the table of codes: empty, or with the one inner def's code, that no one changes -/
noncomputable def TabOk (h₀ h : Heap) (vs : Array Value) (news : List (Addr × Obj)) : Prop :=
  vs = ⟨[]⟩ ∨ ∃ c, vs = tabOf c ∧ CodeAt h c ∧ (∀ p ∈ news, p.1 ≠ c) ∧ (h₀.get? 40 = some (tableObj (tabOf c)) ∨ h₀.get? c = none)
/-- the heap h against an elder one h₀: all that stood stands, but the one code table at 40, which may have grown; news are the objects made since (or kept apart from h₀) -/
structure Hp (h₀ h : Heap) (vs : Array Value) (news : List (Addr × Obj)) : Prop where
  size : h₀.objs.size ≤ h.objs.size
  tab0 : ∃ ps more, h₀.get? 40 = some (tableObj ps) ∧ vs = ps ++ more
  keep : ∀ b o, h₀.get? b = some o → b ≠ 40 → h.get? b = some o
  tab : h.get? 40 = some (tableObj vs)
  nw : ∀ p ∈ news, h.get? p.1 = some p.2 ∧ h₀.get? p.1 = none
  ord : (news.map (·.1)).Pairwise (· ≠ ·)
  code : TabOk h₀ h vs news

theorem Hp.first {h : Heap} (e : h.get? 40 = some (tableObj ⟨[]⟩)) : Hp h h ⟨[]⟩ [] :=
  ⟨Nat.le_refl _, ⟨⟨[]⟩, #[], e, by simp⟩, fun _ _ e _ => e, e, fun _ hp => (nomatch hp), List.Pairwise.nil, .inl rfl⟩
theorem tab_inj {a b : Array Value} (e : tableObj a = tableObj b) : a = b := by injection e with _ _ h3; injection h3
theorem tabOf_inj {a b : Addr} (e : tabOf a = tabOf b) : a = b := by
  run_tac sqIn
  have := congrArg (fun x : Array Value => x.toList) e
  injection this with _ this
  injection this with _ this
  injection this with this
  injection this
  run_tac sqOut
theorem clash {h : Heap} {a : Addr} {o : Obj} (e : h.get? a = some o) (n : h.get? a = none) : False := by rw [e] at n; cases n

section
variable {h₀ h h' : Heap} {vs vs' : Array Value} {news news' : List (Addr × Obj)}
theorem Hp.here (D : Hp h₀ h vs news) : Hp h h vs [] :=
  ⟨Nat.le_refl _, ⟨vs, #[], D.tab, by simp⟩, fun _ _ e _ => e, D.tab, fun _ hp => (nomatch hp), List.Pairwise.nil, by
    rcases D.code with e | ⟨c, e, hc, _⟩
    · exact .inl e
    · exact .inr ⟨c, e, hc, fun _ hp => (nomatch hp), .inl (e ▸ D.tab)⟩⟩
theorem Hp.low (D : Hp h₀ h vs news) : 40 < h₀.objs.size := by
  run_tac sqIn
  obtain ⟨ps, _, e, _⟩ := D.tab0
  exact Heap.lt_size e
  run_tac sqOut
theorem Hp.ne40 (D : Hp h₀ h vs news) {a : Addr} (n : h₀.get? a = none) : a ≠ 40 := by
  run_tac sqIn
  rintro rfl
  obtain ⟨ps, _, e, _⟩ := D.tab0
  exact clash e n
  run_tac sqOut
theorem Hp.at (D : Hp h₀ h vs news) (i : Nat) (a : Addr) (o : Obj) (hi : news[i]? = some (a, o)) : h.get? a = some o := (D.nw _ (List.mem_of_getElem? hi)).1
theorem Hp.oldN (D : Hp h₀ h vs news) (a : Addr) (o : Obj) (e : h₀.get? a = some o) (q : Nat.beq a 40 = false) : h.get? a = some o :=
  D.keep a o e (Nat.ne_of_beq_eq_false q)
theorem Hp.oldC (D : Hp h₀ h vs news) (a : Addr) (o : Obj) (e : h₀.get? a = some o) (q : hasCls o = true) : h.get? a = some o := by
  run_tac sqIn
  refine D.keep a o e ?_
  rintro rfl
  obtain ⟨ps, _, e', _⟩ := D.tab0
  rw [e] at e'
  cases e'
  cases q
  run_tac sqOut
theorem Hp.ne_old (D : Hp h₀ h vs news) (i : Nat) (a : Addr) (o : Obj) (hi : news[i]? = some (a, o)) (b : Addr) (ob : Obj) (e : h₀.get? b = some ob) : a ≠ b := by
  run_tac sqIn
  rintro rfl
  exact clash e (D.nw _ (List.mem_of_getElem? hi)).2
  run_tac sqOut
theorem Hp.ne (D : Hp h₀ h vs news) (i j : Nat) (a b : Addr) (oa ob : Obj) (hi : news[i]? = some (a, oa)) (hj : news[j]? = some (b, ob)) (ij : Nat.blt i j = true) : a ≠ b := by
  run_tac sqIn
  have lt : i < j := Nat.le_of_ble_eq_true ij
  obtain ⟨li, ei⟩ := List.getElem?_eq_some_iff.mp hi
  obtain ⟨lj, ej⟩ := List.getElem?_eq_some_iff.mp hj
  have q := (List.pairwise_iff_getElem.mp D.ord) i j (by rw [List.length_map]; exact li) (by rw [List.length_map]; exact lj) lt
  rw [List.getElem_map, List.getElem_map, ei, ej] at q
  exact q
  run_tac sqOut
theorem Hp.alloc (D : Hp h₀ h vs news) {o : Obj} (hf : o.isFreed = false) : Hp h₀ (h.push o) vs ((h.objs.size, o) :: news) := by
  run_tac sqIn
  refine ⟨by rw [Heap.size_push]; exact Nat.le_succ_of_le D.size, D.tab0, fun b o' e q => Heap.get?_push_of_some _ (D.keep b o' e q), Heap.get?_push_of_some _ D.tab, fun p hp => ?_, ?_, ?_⟩
  · rcases List.mem_cons.mp hp with rfl | hp
    · refine ⟨Heap.get?_push_size _ hf, ?_⟩
      cases q : h₀.get? h.objs.size with
      | none => rfl
      | some o' => exact absurd (Heap.lt_size q) (Nat.not_lt.mpr D.size)
    · exact ⟨Heap.get?_push_of_some _ (D.nw p hp).1, (D.nw p hp).2⟩
  · refine List.Pairwise.cons (fun b hb => ?_) D.ord
    obtain ⟨⟨b', ob⟩, hp, rfl⟩ := List.mem_map.mp hb
    exact Nat.ne_of_gt (Heap.lt_size (D.nw _ hp).1)
  · rcases D.code with e | ⟨c, e, ⟨k1, v0, v2, v3, v4, v5, v6, v8, v9, v10, v11, v12, v13, v14, v15, v16, v17, v18, hc⟩, hn, hz⟩
    · exact .inl e
    · refine .inr ⟨c, e, ⟨k1, v0, v2, v3, v4, v5, v6, v8, v9, v10, v11, v12, v13, v14, v15, v16, v17, v18, Heap.get?_push_of_some _ hc⟩, fun p hp => ?_, hz⟩
      rcases List.mem_cons.mp hp with rfl | hp
      · exact Nat.ne_of_gt (Heap.lt_size hc)
      · exact hn p hp
  run_tac sqOut
theorem Hp.change (D : Hp h₀ h vs news) {i : Nat} {a : Addr} {o o' : Obj} (hi : news[i]? = some (a, o)) (hs : Heap.SameBut a h h') (ge : h'.get? a = some o') : Hp h₀ h' vs (news.set i (a, o')) := by
  run_tac sqIn
  have sp := pairwise_split hi
  have z := D.nw (a, o) (List.mem_of_getElem? hi)
  have ord' := D.ord
  rw [sp, List.map_append, List.map_cons] at ord'
  have p1 : ∀ p ∈ news.take i, p.1 ≠ a := fun p hp => (List.pairwise_append.mp ord').2.2 p.1 (List.mem_map_of_mem hp) a (.head _)
  have p2 : ∀ p ∈ news.drop (i + 1), p.1 ≠ a := fun p hp => ((List.pairwise_cons.mp (List.pairwise_append.mp ord').2.1).1 p.1 (List.mem_map_of_mem hp)).symm
  have e : news.set i (a, o') = news.take i ++ (a, o') :: news.drop (i + 1) := by
    obtain ⟨hl, _⟩ := List.getElem?_eq_some_iff.mp hi
    exact List.set_eq_take_append_cons_drop.trans (if_pos hl)
  have ne : ∀ b o', h₀.get? b = some o' → b ≠ a := fun b o' e' z' => by subst z'; exact clash e' z.2
  have n40 : (40 : Addr) ≠ a := (D.ne40 z.2).symm
  refine ⟨by rw [hs.1]; exact D.size, D.tab0, fun b o' e' q => (hs.2 b (ne b o' e')).trans (D.keep b o' e' q), (hs.2 40 n40).trans D.tab, fun p hp => ?_, ?_, ?_⟩
  · rw [e] at hp
    rcases List.mem_append.mp hp with hp | hp
    · have y := D.nw p (by rw [sp]; exact List.mem_append.mpr (.inl hp))
      exact ⟨(hs.2 _ (p1 p hp)).trans y.1, y.2⟩
    · rcases List.mem_cons.mp hp with rfl | hp
      · exact ⟨ge, z.2⟩
      · have y := D.nw p (by rw [sp]; exact List.mem_append.mpr (.inr (.tail _ hp)))
        exact ⟨(hs.2 _ (p2 p hp)).trans y.1, y.2⟩
  · rw [e, List.map_append, List.map_cons]; exact ord'
  · rcases D.code with q | ⟨c, q, ⟨k1, v0, v2, v3, v4, v5, v6, v8, v9, v10, v11, v12, v13, v14, v15, v16, v17, v18, hc⟩, hn, hz⟩
    · exact .inl q
    · have nc : c ≠ a := (hn (a, o) (List.mem_of_getElem? hi)).symm
      refine .inr ⟨c, q, ⟨k1, v0, v2, v3, v4, v5, v6, v8, v9, v10, v11, v12, v13, v14, v15, v16, v17, v18, (hs.2 c nc).trans hc⟩, fun p hp => ?_, hz⟩
      rw [e] at hp
      rcases List.mem_append.mp hp with hp | hp
      · exact hn p (by rw [sp]; exact List.mem_append.mpr (.inl hp))
      · rcases List.mem_cons.mp hp with rfl | hp
        · exact nc.symm
        · exact hn p (by rw [sp]; exact List.mem_append.mpr (.inr (.tail _ hp)))
  run_tac sqOut
theorem Hp.update (D : Hp h₀ h vs news) {i : Nat} {a : Addr} {o : Obj} {f : Obj → Obj} (hi : news[i]? = some (a, o)) (hf : (f o).isFreed = false) : Hp h₀ (h.update a f) vs (news.set i (a, f o)) :=
  D.change hi (Heap.SameBut.update ..) (Heap.get?_update_self _ (D.at i a o hi) hf)
theorem Hp.regrow (D : Hp h₀ h ⟨[]⟩ news) {f : Obj → Obj} {i : Nat} {c : Addr} {k1 : Tok} {v0 v2 v3 v4 v5 v6 v8 v9 v10 v11 v12 v13 v14 v15 v16 v17 v18 : Value} (hi : news[i]? = some (c, codeO k1 v0 v2 v3 v4 v5 v6 v8 v9 v10 v11 v12 v13 v14 v15 v16 v17 v18)) (hn : f (tableObj ⟨[]⟩) = tableObj (tabOf c)) : Hp h₀ (h.update 40 f) (tabOf c) (news.eraseIdx i) := by
  run_tac sqIn
  have hs : Heap.SameBut 40 h (h.update 40 f) := Heap.SameBut.update ..
  have hf : (f (tableObj ⟨[]⟩)).isFreed = false := by rw [hn]; rfl
  have ge : (h.update 40 f).get? 40 = some (tableObj (tabOf c)) := by
    rw [Heap.get?_update_self _ D.tab hf, hn]
  have z := D.nw _ (List.mem_of_getElem? hi)
  have sub : (news.eraseIdx i).Sublist news := List.eraseIdx_sublist ..
  refine ⟨by rw [hs.1]; exact D.size, ?_, fun b o e q => (hs.2 b q).trans (D.keep b o e q), ge, fun p hp => ?_, List.Pairwise.sublist (sub.map _) D.ord, .inr ⟨c, rfl, ⟨k1, v0, v2, v3, v4, v5, v6, v8, v9, v10, v11, v12, v13, v14, v15, v16, v17, v18, (hs.2 c (D.ne40 z.2)).trans z.1⟩, fun p hp => ?_, .inr z.2⟩⟩
  · obtain ⟨ps, m, e, r⟩ := D.tab0
    have : ps = ⟨[]⟩ := by
      have := congrArg Array.toList r
      rw [Array.toList_append] at this
      exact Array.toList_inj.mp (List.append_eq_nil_iff.mp this.symm).1
    subst this
    exact ⟨⟨[]⟩, tabOf c, e, by simp⟩
  · have y := D.nw p (sub.subset hp)
    exact ⟨(hs.2 _ (D.ne40 y.2)).trans y.1, y.2⟩
  · have sp := pairwise_split hi
    have ord' := D.ord
    rw [sp, List.map_append, List.map_cons] at ord'
    have e : news.eraseIdx i = news.take i ++ news.drop (i + 1) := List.eraseIdx_eq_take_drop_succ ..
    rw [e] at hp
    rcases List.mem_append.mp hp with hp | hp
    · exact (List.pairwise_append.mp ord').2.2 p.1 (List.mem_map_of_mem hp) c (.head _)
    · exact ((List.pairwise_cons.mp (List.pairwise_append.mp ord').2.1).1 p.1 (List.mem_map_of_mem hp)).symm
  run_tac sqOut
theorem Hp.tabs (D : Hp h₀ h vs news) (D' : Hp h h' vs' news') : ∃ ps more, h₀.get? 40 = some (tableObj ps) ∧ vs' = ps ++ more := by
  run_tac sqIn
  obtain ⟨ps, m, e, r⟩ := D.tab0
  obtain ⟨ps', m', e', r'⟩ := D'.tab0
  rw [D.tab] at e'
  have : vs = ps' := by have := Option.some.inj e'; injection this with _ _ h3; injection h3
  subst this
  exact ⟨ps, m ++ m', e, by rw [r', r, Array.append_assoc]⟩
  run_tac sqOut
theorem Hp.trans (D : Hp h₀ h vs news) (D' : Hp h h' vs' news') : Hp h₀ h' vs' (news' ++ news) := by
  run_tac sqIn
  refine ⟨Nat.le_trans D.size D'.size, D.tabs D', fun b o e q => D'.keep b o (D.keep b o e q) q, D'.tab, fun p hp => ?_, ?_, ?_⟩
  · rcases List.mem_append.mp hp with hp | hp
    · refine ⟨(D'.nw p hp).1, ?_⟩
      cases q : h₀.get? p.1 with
      | none => rfl
      | some o => exact (clash (D.keep _ _ q (D'.ne40 (D'.nw p hp).2)) (D'.nw p hp).2).elim
    · exact ⟨D'.keep _ _ (D.nw p hp).1 (D.ne40 (D.nw p hp).2), (D.nw p hp).2⟩
  · rw [List.map_append]
    refine List.pairwise_append.mpr ⟨D'.ord, D.ord, fun x hx y hy => ?_⟩
    obtain ⟨p, hp, rfl⟩ := List.mem_map.mp hx
    obtain ⟨q, hq, rfl⟩ := List.mem_map.mp hy
    intro e
    exact clash (D.nw q hq).1 (e ▸ (D'.nw p hp).2)
  · rcases D'.code with e | ⟨c, e, hc, hn, hz⟩
    · exact .inl e
    · have hz' : vs = tabOf c ∨ h.get? c = none := hz.imp (fun q => tab_inj (Option.some.inj (D.tab.symm.trans q))) id
      refine .inr ⟨c, e, hc, fun p hp => ?_, ?_⟩
      · rcases List.mem_append.mp hp with hp | hp
        · exact hn p hp
        · rcases hz' with q | q
          · rcases D.code with x | ⟨c', x, _, y, _⟩
            · rw [q] at x; cases x
            · exact tabOf_inj (q.symm.trans x) ▸ y p hp
          · intro x
            exact clash (D.nw p hp).1 (x ▸ q)
      · rcases hz' with q | q
        · rcases D.code with x | ⟨c', x, _, _, y⟩
          · rw [q] at x; cases x
          · rw [tabOf_inj (q.symm.trans x)]; exact y
        · right
          cases x : h₀.get? c with
          | none => rfl
          | some o => exact (clash (D.keep _ _ x (D'.ne40 q)) q).elim
  run_tac sqOut
theorem Hp.less (D : Hp h₀ h vs news) (hs : news'.Sublist news) : Hp h₀ h vs news' :=
  ⟨D.size, D.tab0, D.keep, D.tab, fun p hp => D.nw p (hs.subset hp), List.Pairwise.sublist (hs.map _) D.ord, D.code.imp id fun ⟨c, e, hc, hn, hz⟩ => ⟨c, e, hc, fun p hp => hn p (hs.subset hp), hz⟩⟩
theorem Hp.inFrag (D : Hp h₀ h vs news) {F : Frag} (X : F.In h₀) (hF : F.lookup 40 = none) : F.In h := fun a o e => D.keep a o (X a o e) (by rintro rfl; rw [hF] at e; cases e)

/-- the heap without an object -/
noncomputable def gone (h : Heap) (f : Addr) : Heap := h.update f fun o => ⟨o.cls, o.dict, .freed, o.slots⟩
theorem gone_at (h : Heap) (f : Addr) : (gone h f).get? f = none := by
  run_tac sqIn
  unfold gone Heap.update Heap.get?
  cases h
  simp only [Array.getElem?_modify, if_true]
  cases q : (_ : Array Obj)[f]? <;> rfl
  run_tac sqOut
theorem gone_ne {h : Heap} {f b : Addr} (n : b ≠ f) : (gone h f).get? b = h.get? b := Heap.get?_update_other _ _ n.symm
theorem gone_size (h : Heap) (f : Addr) : (gone h f).objs.size = h.objs.size := Heap.size_after_update ..
theorem gone_in {h : Heap} {F : Frag} {f : Addr} (X : F.In h) (n : F.lookup f = none) : F.In (gone h f) := fun a o e => by
  rw [gone_ne (by rintro rfl; rw [n] at e; cases e)]
  exact X a o e
/-- the callee's view: what the caller holds at f is the callee's to change -/
theorem Hp.apart (D : Hp h₀ h vs news) {f : Addr} {o : Obj} (e : h₀.get? f = some o) (n : f ≠ 40) (he : h.get? f = some o) (fresh : ∀ p ∈ news, p.1 ≠ f) (nc : o.cls ≠ .type "code") : Hp (gone h₀ f) h vs (news ++ [(f, o)]) := by
  run_tac sqIn
  refine ⟨by rw [gone_size]; exact D.size, ?_, fun b o' q hb => ?_, D.tab, fun p hp => ?_, ?_, ?_⟩
  · obtain ⟨ps, m, q, r⟩ := D.tab0
    exact ⟨ps, m, by rw [gone_ne n.symm]; exact q, r⟩
  · by_cases hbf : b = f
    · subst hbf; exact (clash q (gone_at _ _)).elim
    · rw [gone_ne hbf] at q; exact D.keep b o' q hb
  · rcases List.mem_append.mp hp with hp | hp
    · exact ⟨(D.nw p hp).1, by rw [gone_ne (fresh p hp)]; exact (D.nw p hp).2⟩
    · obtain rfl := List.mem_singleton.mp hp
      exact ⟨he, gone_at _ _⟩
  · rw [List.map_append]
    refine List.pairwise_append.mpr ⟨D.ord, List.pairwise_singleton _ _, fun x hx y hy => ?_⟩
    obtain ⟨p, hp, rfl⟩ := List.mem_map.mp hx
    obtain ⟨q, hq, rfl⟩ := List.mem_map.mp hy
    obtain rfl := List.mem_singleton.mp hq
    exact fresh p hp
  · rcases D.code with q | ⟨c, q, ⟨k1, v0, v2, v3, v4, v5, v6, v8, v9, v10, v11, v12, v13, v14, v15, v16, v17, v18, hc⟩, hn, hz⟩
    · exact .inl q
    · have cf : c ≠ f := by
        rintro rfl
        rw [he] at hc
        exact nc (congrArg Obj.cls (Option.some.inj hc))
      refine .inr ⟨c, q, ⟨k1, v0, v2, v3, v4, v5, v6, v8, v9, v10, v11, v12, v13, v14, v15, v16, v17, v18, hc⟩, fun p hp => ?_, ?_⟩
      · rcases List.mem_append.mp hp with hp | hp
        · exact hn p hp
        · obtain rfl := List.mem_singleton.mp hp
          exact cf.symm
      · rw [gone_ne n.symm, gone_ne cf]; exact hz
  run_tac sqOut
/-- and back -/
theorem Hp.joined (D : Hp h₀ h vs news) {i : Nat} {f : Addr} {o o' : Obj} (hi : news[i]? = some (f, o)) (D' : Hp (gone h f) h' vs' (news' ++ [(f, o')])) : Hp h₀ h' vs' (news' ++ news.set i (f, o')) := by
  run_tac sqIn
  have z := D.nw (f, o) (List.mem_of_getElem? hi)
  have n40 := D.ne40 z.2
  -- the heap with the new object in its place
  have D1 : Hp h₀ (h.update f fun _ => o') vs (news.set i (f, o')) := by
    have hf : o'.isFreed = false := (Heap.get?_some_iff.mp (D'.nw (f, o') (List.mem_append.mpr (.inr (.head _)))).1).2
    exact D.update hi hf
  have hf' : o'.isFreed = false := (Heap.get?_some_iff.mp (D'.nw (f, o') (List.mem_append.mpr (.inr (.head _)))).1).2
  refine D1.trans ⟨?_, ?_, fun b o'' q hb => ?_, D'.tab, fun p hp => ⟨(D'.nw p (List.mem_append.mpr (.inl hp))).1, ?_⟩, ?_, ?_⟩
  · have := D'.size; rw [gone_size] at this; rw [Heap.size_after_update]; exact this
  · obtain ⟨ps, m, q, r⟩ := D'.tab0
    rw [gone_ne n40.symm] at q
    exact ⟨ps, m, by rw [Heap.get?_update_other _ _ n40]; exact q, r⟩
  · by_cases hbf : b = f
    · subst hbf
      rw [Heap.get?_update_self _ z.1 hf'] at q
      cases q
      exact (D'.nw (b, o') (List.mem_append.mpr (.inr (.head _)))).1
    · rw [Heap.get?_update_other _ _ (fun e => hbf e.symm)] at q
      exact D'.keep b o'' (by rw [gone_ne hbf]; exact q) hb
  · have nf : p.1 ≠ f := by
      have ord := D'.ord
      rw [List.map_append] at ord
      exact (List.pairwise_append.mp ord).2.2 p.1 (List.mem_map_of_mem hp) f (.head _)
    have := (D'.nw p (List.mem_append.mpr (.inl hp))).2
    rw [gone_ne nf] at this
    rw [Heap.get?_update_other _ _ nf.symm]
    exact this
  · have ord := D'.ord
    rw [List.map_append] at ord
    exact (List.pairwise_append.mp ord).1
  · rcases D'.code with q | ⟨c, q, hc, hn, hz⟩
    · exact .inl q
    · have cf : f ≠ c := hn (f, o') (List.mem_append.mpr (.inr (.head _)))
      refine .inr ⟨c, q, hc, fun p hp => hn p (List.mem_append.mpr (.inl hp)), ?_⟩
      rw [gone_ne n40.symm, gone_ne cf.symm] at hz
      rw [Heap.get?_update_other _ _ n40, Heap.get?_update_other _ _ cf]
      exact hz
  run_tac sqOut
end

section
variable (α : Type) (prog : Program) (w : World) (A : Around) (c₀ : Code) (Q : α → Shared → Prop) (E : Value → Shared → Prop)
theorem h_alloc (h₀ : Heap) (vs : Array Value) (news : List (Addr × Obj)) (h : Heap) (g : Array GenState) (d : Drawn) (t : Nat) (os : OsState) (o : Obj) (k : Addr → Sem α) (D : Hp h₀ h vs news) (o' : Obj) (ho : o = o') (hf : o.isFreed = false)
    (x : ∀ a h', Hp h₀ h' vs ((a, o') :: news) → wpOwn (model prog w) A c₀ (k a) Q E ⟨h', g, d, t, os⟩) : wpOwn (model prog w) A c₀ (.alloc o k) Q E ⟨h, g, d, t, os⟩ := by
  run_tac sqIn
  subst ho
  exact wpOwn_bind (m := alloc o) (f := k) (wpOwn_of_wpAny (wpAny_alloc (x _ _ (D.alloc hf))))
  run_tac sqOut
theorem h_update (h₀ : Heap) (vs : Array Value) (news : List (Addr × Obj)) (h : Heap) (g : Array GenState) (d : Drawn) (t : Nat) (os : OsState) (a : Addr) (q : Option Value) (f : Obj → Obj) (k : Unit → Sem α) (o : Obj) (D : Hp h₀ h vs news) (i : Nat) (hi : news[i]? = some (a, o))
    (o' : Obj) (ho : f o = o') (hf : o'.isFreed = false) (x : ∀ h', Hp h₀ h' vs (news.set i (a, o')) → wpOwn (model prog w) A c₀ (k ()) Q E ⟨h', g, d, t, os⟩) : wpOwn (model prog w) A c₀ (.update a q f k) Q E ⟨h, g, d, t, os⟩ := by
  run_tac sqIn
  subst ho
  exact wpOwn_bind (m := updatePart a q f) (f := k) (wpOwn_of_wpAny (wpAny_updatePart (D.at i a o hi) (x _ (D.update hi hf))))
  run_tac sqOut
theorem h_regrow (h₀ : Heap) (news : List (Addr × Obj)) (h : Heap) (g : Array GenState) (d : Drawn) (t : Nat) (os : OsState) (q : Option Value) (f : Obj → Obj) (k : Unit → Sem α) (D : Hp h₀ h ⟨[]⟩ news) (i : Nat) (c : Addr) (k1 : Tok) (v0 v2 v3 v4 v5 v6 v8 v9 v10 v11 v12 v13 v14 v15 v16 v17 v18 : Value) (hi : news[i]? = some (c, codeO k1 v0 v2 v3 v4 v5 v6 v8 v9 v10 v11 v12 v13 v14 v15 v16 v17 v18))
    (hn : f (tableObj ⟨[]⟩) = tableObj (tabOf c)) (x : ∀ h', Hp h₀ h' (tabOf c) (news.eraseIdx i) → wpOwn (model prog w) A c₀ (k ()) Q E ⟨h', g, d, t, os⟩) : wpOwn (model prog w) A c₀ (.update 40 q f k) Q E ⟨h, g, d, t, os⟩ :=
  wpOwn_bind (m := updatePart 40 q f) (f := k) (wpOwn_of_wpAny (wpAny_updatePart D.tab (x _ (D.regrow hi hn))))
end
theorem loop_ind {M : Model} {A : Around} {c : Code} {Q : PySem.Fin → Shared → Prop} {E : Value → Shared → Prop} {g : Array GenState} {d : Drawn} {os : OsState} (I : Nat → Heap → Nat → Prop)
    (turn : ∀ n h t, (∀ m h' t', m < n → I m h' t' → wpOwn M A c (denote table c) Q E ⟨h', g, d, t', os⟩) → I n h t → wpOwn M A c (denote table c) Q E ⟨h, g, d, t, os⟩) (n : Nat) {h : Heap} {t : Nat} (h0 : I n h t) :
    wpOwn M A c (denote table c) Q E ⟨h, g, d, t, os⟩ := by
  run_tac sqIn
  induction n using Nat.strongRecOn generalizing h t with
  | ind n ih => exact turn n h t (fun m h' t' hm hi => ih m hm hi) h0
  run_tac sqOut
theorem push_mk (l : List Value) (v : Value) : Array.push ⟨l⟩ v = ⟨l ++ [v]⟩ := by simp
noncomputable abbrev ent (hs : Int) (s : List Nat) (tk : Tok) (v : Value) : DictEntry := ⟨hs, .str ⟨⟨s⟩⟩ tk, v⟩
noncomputable abbrev frameO (es : List DictEntry) (n : Nat) : Obj := ⟨.type "frame", none, .dict ⟨es⟩ n, ⟨[]⟩⟩
noncomputable abbrev listO (vs : List Value) (n : Nat) : Obj := ⟨.type "list", none, .seq ⟨vs⟩ n, ⟨[]⟩⟩
end Mine
end
section
open PySem PySem.W PySem.W.X PyProof.Rows
set_option maxRecDepth 100000
set_option Elab.async false
set_option linter.unusedVariables false
namespace Mine
/-! a walk's stretch, reckoned at once: one word a step -/
noncomputable abbrev P := PySem.Challenge.pw_pd0092_01

structure Old (h₀ : Heap) where
  a : Addr
  o : Obj
  he : h₀.get? a = some o
  ne : a ≠ 40
inductive Op (h₀ : Heap) where
  | s
  | l (i : Nat)
  | t
  | o (x : Old h₀)
  | u (i : Nat)
  | p (n : Nat)
inductive Kt where
  | base
  | ret (c : Code) (hd : Option Value) (k : Result → Sem Fin) (κ : Kt)
structure SV where
  w : World
  h₀ : Heap
  A₀ : Around
  R₀ : Result → Shared → Prop
  M₀ : Kt → Code → Sem Fin → Shared → Prop
  L₀ : Kt → Code → List (Code × Pos) → Prop
  vs : Array Value
  g : Array GenState
  d : Drawn
  os : OsState
noncomputable def AllEq : List (Addr × Addr) → Prop
  | [] => True
  | p :: l => p.1 = p.2 ∧ AllEq l
noncomputable def dups : List Addr → List (Addr × Addr)
  | [] => []
  | a :: l => (a, a) :: dups l
theorem allEq_dups : ∀ l : List Addr, AllEq (dups l)
  | [] => trivial
  | _ :: l => ⟨rfl, allEq_dups l⟩
noncomputable def nthN : List (Addr × Obj) → Nat → Option (Addr × Obj)
  | [], _ => none
  | p :: l, i => match i with
    | 0 => some p
    | n + 1 => nthN l n
theorem nthN_eq : ∀ (l : List (Addr × Obj)) (i : Nat), nthN l i = l[i]?
  | [], _ => by simp [nthN]
  | p :: l, 0 => rfl
  | p :: l, n + 1 => by rw [List.getElem?_cons_succ]; exact nthN_eq l n
noncomputable def arK (A₀ : Around) : Kt → Around
  | .base => A₀
  | .ret c hd _ κ => ((arK A₀ κ).under c).mark hd
noncomputable def endK (w : World) (A₀ : Around) (R₀ : Result → Shared → Prop) : Kt → Result → Shared → Prop
  | .base => R₀
  | .ret c _ k κ => postR P w (arK A₀ κ) c (postC P w (arK A₀ κ) (endK w A₀ R₀ κ)) (postE (endK w A₀ R₀ κ)) k
noncomputable def MeansOf (w : World) (A₀ : Around) (R₀ : Result → Shared → Prop) (κ : Kt) (c : Code) (tree : Sem Fin) (s : Shared) : Prop :=
  wpOwn (model P w) (arK A₀ κ) c tree (postC P w (arK A₀ κ) (endK w A₀ R₀ κ)) (postE (endK w A₀ R₀ κ)) s
noncomputable def LiesOf (A₀ : Around) (κ : Kt) (c : Code) (st : List (Code × Pos)) : Prop := Lies ((arK A₀ κ).under c) st
noncomputable def Means (V : SV) (κ : Kt) (c : Code) (tree : Sem Fin) (s : Shared) : Prop := MeansOf V.w V.A₀ V.R₀ κ c tree s
noncomputable abbrev Rs := List (Addr × Obj) → Nat → List (Addr × Addr) → Prop → Prop
noncomputable abbrev STy := Kt → Code → Sem Fin → Rs
noncomputable def leafS (V : SV) (X : Shared → Prop) : Rs := fun news t obl ls => AllEq obl ∧ (ls → ∀ h, Hp V.h₀ h V.vs news → X ⟨h, V.g, V.d, t, V.os⟩)
noncomputable def nayS : Rs := fun _ _ _ _ => False
noncomputable def retS (V : SV) (ih : STy) (r : Result) : Kt → Rs
  | .base => leafS V (V.R₀ r)
  | .ret c _ k κ => ih κ c (k r)
noncomputable def stepS (V : SV) (ih : STy) (op : Op V.h₀) (κ : Kt) (c : Code) (m : Sem Fin) : Rs := match m with
  | .pure fin => match fin with
    | .done f => retS V ih (.ok f) κ
    | .again c' => match c'.quiet with
      | true => ih κ c' (denote table c')
      | false => nayS
  | .raise e => retS V ih (.error e) κ
  | .fresh k => fun news t obl ls => ih κ c (k t) news (t + 1) obl ls
  | .handled own k => match own with
    | false => ih κ c (k (arK V.A₀ κ).handled)
    | true => nayS
  | .call c' hd _ _ k => match okMark hd with
    | true => ih (.ret c hd k κ) c' (denote table c')
    | false => nayS
  | .load a _ k => match op with
    | .l i => fun news t obl ls => match nthN news i with
      | some p => ih κ c (k p.2) news t ((a, p.1) :: obl) ls
      | none => False
    | .t => fun news t obl ls => ih κ c (k (tableObj V.vs)) news t ((a, 40) :: obl) ls
    | .o x => fun news t obl ls => ih κ c (k x.o) news t ((a, x.a) :: obl) ls
    | .s => nayS
    | .u _ => nayS
    | .p _ => nayS
  | .loadIfAlive a k => match op with
    | .l i => fun news t obl ls => match nthN news i with
      | some p => ih κ c (k (some p.2)) news t ((a, p.1) :: obl) ls
      | none => False
    | .t => fun news t obl ls => ih κ c (k (some (tableObj V.vs))) news t ((a, 40) :: obl) ls
    | .o x => fun news t obl ls => ih κ c (k (some x.o)) news t ((a, x.a) :: obl) ls
    | .s => nayS
    | .u _ => nayS
    | .p _ => nayS
  | .alloc o k => fun news t obl ls => match o.isFreed with
    | false => ∀ a, ih κ c (k a) ((a, o) :: news) t obl ls
    | true => False
  | .update a _ f k => match op with
    | .u i => fun news t obl ls => match nthN news i with
      | some p => match (f p.2).isFreed with
        | false => ih κ c (k ()) (news.set i (p.1, f p.2)) t ((a, p.1) :: obl) ls
        | true => False
      | none => False
    | .s => nayS
    | .l _ => nayS
    | .t => nayS
    | .o _ => nayS
    | .p _ => nayS
  | .stack k => fun news t obl ls => ∀ (p : Pos) (below : List (Code × Pos)), ih κ c (k ((c, p) :: below)) news t obl (V.L₀ κ c ((c, p) :: below) ∧ ls)
  | _ => nayS
/-- n notes off -/
noncomputable def peel (g : Setting) : Nat → Sem Fin → Sem Fin
  | 0, m => m
  | n + 1, m => match m with
    | .rule _ k => peel g n (k ())
    | .at _ k => peel g n (k ())
    | .point _ k => peel g n (k ())
    | .ask k => peel g n (k g)
    | m => m
noncomputable def simS (V : SV) : List (Op V.h₀) → STy
  | [] => fun κ c m => leafS V (V.M₀ κ c m)
  | op :: ops => fun κ c m => match op with
    | .p n => simS V ops κ c (peel ⟨P, V.w.params⟩ n m)
    | op => stepS V (simS V ops) op κ c (skim ⟨P, V.w.params⟩ 400 m)

section
variable {V : SV}
theorem step_obl {ih : STy} (IH : ∀ κ c m news t obl ls, ih κ c m news t obl ls → AllEq obl) (op : Op V.h₀) (κ : Kt) (c : Code) (m : Sem Fin) (news : List (Addr × Obj)) (t : Nat) (obl : List (Addr × Addr)) (ls : Prop)
    (H : stepS V ih op κ c m news t obl ls) : AllEq obl := by
  run_tac sqIn
  have ret : ∀ r, retS V ih r κ news t obl ls → AllEq obl := by
    intro r H
    cases κ with
    | base => exact H.1
    | ret => exact IH _ _ _ _ _ _ _ H
  cases m with
  | pure fin =>
    cases fin with
    | done f => exact ret _ H
    | again c' =>
      cases q : c'.quiet with
      | true => (delta stepS at H; dsimp only at H; simp only [q] at H); exact IH _ _ _ _ _ _ _ H
      | false => (delta stepS at H; dsimp only at H; simp only [q] at H); exact H.elim
  | raise e => exact ret _ H
  | fresh k => exact IH _ _ _ _ _ _ _ H
  | handled own k => cases own <;> first | exact IH _ _ _ _ _ _ _ H | exact H.elim
  | call c' hd g l k =>
    cases q : okMark hd with
    | true => (delta stepS at H; dsimp only at H; simp only [q] at H); exact IH _ _ _ _ _ _ _ H
    | false => (delta stepS at H; dsimp only at H; simp only [q] at H); exact H.elim
  | load a q k =>
    cases op with
    | l i => (delta stepS at H; dsimp only at H); split at H <;> first | exact (IH _ _ _ _ _ _ _ H).2 | exact H.elim
    | t => exact (IH _ _ _ _ _ _ _ H).2
    | o x => exact (IH _ _ _ _ _ _ _ H).2
    | s => exact H.elim
    | u => exact H.elim
    | p => exact H.elim
  | loadIfAlive a k =>
    cases op with
    | l i => (delta stepS at H; dsimp only at H); split at H <;> first | exact (IH _ _ _ _ _ _ _ H).2 | exact H.elim
    | t => exact (IH _ _ _ _ _ _ _ H).2
    | o x => exact (IH _ _ _ _ _ _ _ H).2
    | s => exact H.elim
    | u => exact H.elim
    | p => exact H.elim
  | alloc o k => (delta stepS at H; dsimp only at H); split at H <;> first | exact IH _ _ _ _ _ _ _ (H 0) | exact H.elim
  | update a q f k =>
    cases op with
    | u i =>
      (delta stepS at H; dsimp only at H)
      split at H
      · split at H <;> first | exact (IH _ _ _ _ _ _ _ H).2 | exact H.elim
      · exact H.elim
    | _ => exact H.elim
  | stack k => exact IH _ _ _ _ _ _ _ (H default [])
  | _ => exact H.elim
  run_tac sqOut
theorem sim_obl : ∀ (ops : List (Op V.h₀)) κ c m news t obl ls, simS V ops κ c m news t obl ls → AllEq obl
  | [] => fun _ _ _ _ _ _ _ H => H.1
  | op :: ops => fun κ c m news t obl ls H => by
    cases op with
    | p n => exact sim_obl ops κ c _ news t obl ls H
    | s => exact step_obl (sim_obl ops) .s κ c (skim ⟨P, V.w.params⟩ 400 m) news t obl ls H
    | l i => exact step_obl (sim_obl ops) (.l i) κ c (skim ⟨P, V.w.params⟩ 400 m) news t obl ls H
    | t => exact step_obl (sim_obl ops) .t κ c (skim ⟨P, V.w.params⟩ 400 m) news t obl ls H
    | o x => exact step_obl (sim_obl ops) (.o x) κ c (skim ⟨P, V.w.params⟩ 400 m) news t obl ls H
    | u i => exact step_obl (sim_obl ops) (.u i) κ c (skim ⟨P, V.w.params⟩ 400 m) news t obl ls H
theorem peel_sound {κ : Kt} {c : Code} {s : Shared} : ∀ (n : Nat) (m : Sem Fin), Means V κ c (peel ⟨P, V.w.params⟩ n m) s → Means V κ c m s
  | 0, _, h => h
  | n + 1, m, h => by
    cases m with
    | rule tag k => exact y_skim _ _ _ _ _ _ _ _ _ 1 (peel_sound n (k ()) h)
    | «at» q k => exact y_skim _ _ _ _ _ _ _ _ _ 1 (peel_sound n (k ()) h)
    | point l k => exact y_skim _ _ _ _ _ _ _ _ _ 1 (peel_sound n (k ()) h)
    | ask k => exact y_skim _ _ _ _ _ _ _ _ _ 1 (peel_sound n (k ⟨P, V.w.params⟩) h)
    | _ => exact h

theorem step_sound' (hL : ∀ κ c st, Lies ((arK V.A₀ κ).under c) st → V.L₀ κ c st) {ih : STy} (IO : ∀ κ c m news t obl ls, ih κ c m news t obl ls → AllEq obl)
    (IH : ∀ κ c m news t obl ls h, ih κ c m news t obl ls → ls → Hp V.h₀ h V.vs news → Means V κ c m ⟨h, V.g, V.d, t, V.os⟩) (op : Op V.h₀) (κ : Kt) (c : Code) (m : Sem Fin) (news : List (Addr × Obj)) (t : Nat) (obl : List (Addr × Addr)) (ls : Prop) (h : Heap)
    (H : stepS V ih op κ c m news t obl ls) (L : ls) (D : Hp V.h₀ h V.vs news) : Means V κ c m ⟨h, V.g, V.d, t, V.os⟩ := by
  run_tac sqIn
  have ret : ∀ r, retS V ih r κ news t obl ls → endK V.w V.A₀ V.R₀ κ r ⟨h, V.g, V.d, t, V.os⟩ := by
    intro r H
    cases κ with
    | base => exact H.2 L h D
    | ret => exact IH _ _ _ _ _ _ _ h H L D
  cases m with
  | pure fin =>
    cases fin with
    | done f => exact y_pure _ _ _ _ _ _ _ _ _ (y_done _ _ _ _ _ _ (ret _ H))
    | again c' =>
      cases q : c'.quiet with
      | true =>
        (delta stepS at H; dsimp only at H; simp only [q] at H)
        exact y_pure _ _ _ _ _ _ _ _ _ (y_again _ _ _ _ _ _ q (y_code _ _ _ _ _ _ (IH _ _ _ _ _ _ _ h H L D)))
      | false => (delta stepS at H; dsimp only at H; simp only [q] at H); exact H.elim
  | raise e => exact y_raise _ _ _ _ _ _ _ _ _ (y_err _ _ _ (ret _ H))
  | fresh k => exact y_fresh _ _ _ _ _ _ _ _ _ _ _ _ _ (IH _ _ _ _ _ _ _ h H L D)
  | handled own k =>
    cases own with
    | false => exact y_handled _ _ _ _ _ _ _ _ _ (IH _ _ _ _ _ _ _ h H L D)
    | true => exact H.elim
  | call c' hd g l k =>
    cases q : okMark hd with
    | true =>
      (delta stepS at H; dsimp only at H; simp only [q] at H)
      have hnb : hd ≠ some byPass := by
        rintro rfl
        simp [okMark] at q
      exact y_call _ _ _ _ _ _ _ _ _ _ _ _ _ hnb (y_code _ _ _ _ _ _ (IH _ _ _ _ _ _ _ h H L D))
    | false => (delta stepS at H; dsimp only at H; simp only [q] at H); exact H.elim
  | load a q k =>
    cases op with
    | l i =>
      (delta stepS at H; dsimp only at H)
      split at H
      · rename_i p e
        have ea : a = p.1 := (IO _ _ _ _ _ _ _ H).1
        rw [nthN_eq] at e
        exact y_load _ _ _ _ _ _ _ _ _ _ _ _ _ _ _ _ (by rw [ea]; exact D.at i p.1 p.2 e) (IH _ _ _ _ _ _ _ h H L D)
      · exact H.elim
    | t =>
      have ea : a = 40 := (IO _ _ _ _ _ _ _ H).1
      exact y_load _ _ _ _ _ _ _ _ _ _ _ _ _ _ _ _ (by rw [ea]; exact D.tab) (IH _ _ _ _ _ _ _ h H L D)
    | o x =>
      have ea : a = x.a := (IO _ _ _ _ _ _ _ H).1
      exact y_load _ _ _ _ _ _ _ _ _ _ _ _ _ _ _ _ (by rw [ea]; exact D.keep _ _ x.he x.ne) (IH _ _ _ _ _ _ _ h H L D)
    | s => exact H.elim
    | u => exact H.elim
    | p => exact H.elim
  | loadIfAlive a k =>
    cases op with
    | l i =>
      (delta stepS at H; dsimp only at H)
      split at H
      · rename_i p e
        have ea : a = p.1 := (IO _ _ _ _ _ _ _ H).1
        rw [nthN_eq] at e
        exact y_alive _ _ _ _ _ _ _ _ _ _ _ _ _ _ _ (by rw [ea]; exact D.at i p.1 p.2 e) (IH _ _ _ _ _ _ _ h H L D)
      · exact H.elim
    | t =>
      have ea : a = 40 := (IO _ _ _ _ _ _ _ H).1
      exact y_alive _ _ _ _ _ _ _ _ _ _ _ _ _ _ _ (by rw [ea]; exact D.tab) (IH _ _ _ _ _ _ _ h H L D)
    | o x =>
      have ea : a = x.a := (IO _ _ _ _ _ _ _ H).1
      exact y_alive _ _ _ _ _ _ _ _ _ _ _ _ _ _ _ (by rw [ea]; exact D.keep _ _ x.he x.ne) (IH _ _ _ _ _ _ _ h H L D)
    | s => exact H.elim
    | u => exact H.elim
    | p => exact H.elim
  | alloc o k =>
    (delta stepS at H; dsimp only at H)
    split at H
    · rename_i hf
      exact h_alloc _ _ _ _ _ _ _ V.h₀ V.vs news h _ _ _ _ o k D o rfl hf fun a h' D' => IH _ _ _ _ _ _ _ h' (H a) L D'
    · exact H.elim
  | update a q f k =>
    cases op with
    | u i =>
      (delta stepS at H; dsimp only at H)
      split at H
      · rename_i p e
        split at H
        · rename_i hf
          have ea : a = p.1 := (IO _ _ _ _ _ _ _ H).1
          rw [nthN_eq] at e
          subst ea
          exact h_update _ _ _ _ _ _ _ V.h₀ V.vs news h _ _ _ _ p.1 q f k p.2 D i e (f p.2) rfl hf fun h' D' => IH _ _ _ _ _ _ _ h' H L D'
        · exact H.elim
      · exact H.elim
    | _ => exact H.elim
  | stack k => exact y_stack _ _ _ _ _ _ _ _ _ fun p below l => IH _ _ _ _ _ _ _ h (H p below) ⟨hL _ _ _ l, L⟩ D
  | _ => exact H.elim
  run_tac sqOut
theorem sim_sound' (hM : ∀ κ c m s, V.M₀ κ c m s → Means V κ c m s) (hL : ∀ κ c st, Lies ((arK V.A₀ κ).under c) st → V.L₀ κ c st) : ∀ (ops : List (Op V.h₀)) κ c m news t obl ls h, simS V ops κ c m news t obl ls → ls → Hp V.h₀ h V.vs news → Means V κ c m ⟨h, V.g, V.d, t, V.os⟩
  | [] => fun _ _ _ _ _ _ _ h H L D => hM _ _ _ _ (H.2 L h D)
  | op :: ops => fun κ c m news t obl ls h H L D => by
    cases op with
    | p n => exact peel_sound n m (sim_sound' hM hL ops κ c _ news t obl ls h H L D)
    | s => exact y_skim _ _ _ _ _ _ _ _ m 400 (step_sound' hL (sim_obl ops) (sim_sound' hM hL ops) .s κ c (skim ⟨P, V.w.params⟩ 400 m) news t obl ls h H L D)
    | l i => exact y_skim _ _ _ _ _ _ _ _ m 400 (step_sound' hL (sim_obl ops) (sim_sound' hM hL ops) (.l i) κ c (skim ⟨P, V.w.params⟩ 400 m) news t obl ls h H L D)
    | t => exact y_skim _ _ _ _ _ _ _ _ m 400 (step_sound' hL (sim_obl ops) (sim_sound' hM hL ops) .t κ c (skim ⟨P, V.w.params⟩ 400 m) news t obl ls h H L D)
    | o x => exact y_skim _ _ _ _ _ _ _ _ m 400 (step_sound' hL (sim_obl ops) (sim_sound' hM hL ops) (.o x) κ c (skim ⟨P, V.w.params⟩ 400 m) news t obl ls h H L D)
    | u i => exact y_skim _ _ _ _ _ _ _ _ m 400 (step_sound' hL (sim_obl ops) (sim_sound' hM hL ops) (.u i) κ c (skim ⟨P, V.w.params⟩ 400 m) news t obl ls h H L D)
end
theorem sim_use (w : World) (h₀ : Heap) (A₀ : Around) (R₀ : Result → Shared → Prop) (vs : Array Value) (g : Array GenState) (d : Drawn) (os : OsState) (ops : List (Op h₀)) (κ : Kt) (c : Code) (m : Sem Fin) (news : List (Addr × Obj)) (t : Nat) (h : Heap)
    (H : simS ⟨w, h₀, A₀, R₀, MeansOf w A₀ R₀, LiesOf A₀, vs, g, d, os⟩ ops κ c m news t [] True) (D : Hp h₀ h vs news) : MeansOf w A₀ R₀ κ c m ⟨h, g, d, t, os⟩ :=
  sim_sound' (V := ⟨w, h₀, A₀, R₀, MeansOf w A₀ R₀, LiesOf A₀, vs, g, d, os⟩) (fun _ _ _ _ x => x) (fun _ _ _ x => x) ops κ c m news t [] True h H trivial D
/-- a stretch's end -/
theorem leaf_of (V : SV) (X : Shared → Prop) (news : List (Addr × Obj)) (t : Nat) (ls : Prop) (as : List Addr) (x : ls → ∀ h, Hp V.h₀ h V.vs news → X ⟨h, V.g, V.d, t, V.os⟩) : leafS V X news t (dups as) ls := ⟨allEq_dups as, x⟩
open Lean Meta Elab Tactic in
def twinTac (proof : Bool) : TacticM Unit := do
  XFast.primed.modify (·.insert `PySem.Challenge.pw_pd0092_01 none)
  let some (S', h) ← XFast.quick (mkConst ``simS) | throwError "no twin"
  logInfo m!"{S'}"
  (← getMainGoal).assign (if proof then h else S')
  replaceMainGoal []
/-- the same by quicker words -/
noncomputable def simQ : (V : SV) → List (Op V.h₀) → STy := by run_tac twinTac false
theorem simQ_eq : simS = simQ := by run_tac twinTac true
theorem sim_turn (w : World) (h₀ : Heap) (A₀ : Around) (R₀ : Result → Shared → Prop) (vs : Array Value) (g : Array GenState) (d : Drawn) (os : OsState) (ops : List (Op h₀)) (κ : Kt) (c : Code) (m : Sem Fin) (news : List (Addr × Obj)) (t : Nat) (h : Heap)
    (H : simQ ⟨w, h₀, A₀, R₀, MeansOf w A₀ R₀, LiesOf A₀, vs, g, d, os⟩ ops κ c m news t [] True) (D : Hp h₀ h vs news) : MeansOf w A₀ R₀ κ c m ⟨h, g, d, t, os⟩ := by
  run_tac sqIn
  rw [← simQ_eq] at H
  exact sim_use w h₀ A₀ R₀ vs g d os ops κ c m news t h H D
  run_tac sqOut
end Mine
end
section
open PySem PySem.W PySem.W.X PyProof.Rows
set_option maxRecDepth 100000
set_option genInjectivity false
set_option genSizeOf false
set_option compiler.extract_closed false
set_option compiler.reuse false
namespace Mine
theorem Hp.oldNe {h₀ h : Heap} {vs : Array Value} {news : List (Addr × Obj)} (D : Hp h₀ h vs news) (a : Addr) (o : Obj) (e : h₀.get? a = some o) (q : hasCls o = true) : a ≠ 40 := by
  run_tac sqIn
  rintro rfl
  obtain ⟨ps, _, e', _⟩ := D.tab0
  rw [e] at e'
  cases e'
  cases q
  run_tac sqOut
open Lean Meta Elab Tactic PySem PySem.W PySem.W.X

structure Cfg where
  /-- the text's defs at whose call the walk halts -/
  refs : List Nat := []
  /-- contracts: the def's address, or the built-in's name -/
  auto : List (String × Name) := []
  /-- the built-ins at whose code the walk halts -/
  ids : List String := []
  loops : Bool := true
  fuel : Nat := 5000
  /-- functions that the walk does not look into where it is stuck -/
  opaques : List Name := [(nq "PySem.Builtin.divisionGoesByPylong")]
  /-- equations for what the walk may wait for: premises by the context or omega -/
  lems : List Name := [`Mine.pylong]
  split : Bool := false
  /-- a stretch's most steps; nought: every step by itself -/
  most : Nat := 60
  /-- the kernel looks at each motive at once -/
  doubt : Bool := false

def opaqueNow : List Name := [(nq "GetElem?.getElem?"), (nq "Array.size"), (nq "List.length"), (nq "PySem.Str.length"), (nq "Nat.decLt"), (nq "Nat.decLe"), (nq "Nat.decEq"), (nq "instDecidableEqNat"), (nq "Nat.ble"), (nq "Nat.beq"), (nq "Nat.blt"), (nq "PySem.W.X.ltQ"), (nq "PySem.W.X.leQ"), (nq "PySem.W.X.eqQ"), (nq "PySem.W.X.bitsQ"), (nq "Int.toNat"), (nq "Int.instDecidableEq"), (nq "Int.decLt"), (nq "Int.decLe"), (nq "HAdd.hAdd"), (nq "HSub.hSub"), (nq "HMul.hMul"), (nq "HDiv.hDiv"), (nq "HMod.hMod"), (nq "Int.fdiv"), (nq "Int.fmod"), (nq "HPow.hPow"), (nq "PySem.World.params"), (nq "PySem.Params.followText"), (nq "PySem.Params.strHash")]

structure Bs where
  prog : Lean.Expr
  w : Lean.Expr
  h0 : Lean.Expr
  olds : List (Lean.Expr × Lean.Expr × Lean.Expr)
  k : Option (Lean.Expr × Lean.Expr)
  setting : Lean.Expr
def Bs.model (b : Bs) : Lean.Expr := mkApp2 (cq "PySem.model") b.prog b.w
structure Go where
  al : Lean.Expr
  A : Lean.Expr
  c : Lean.Expr
  Q : Lean.Expr
  E : Lean.Expr
  tree : Lean.Expr
  h : Lean.Expr
  g : Lean.Expr
  d : Lean.Expr
  t : Lean.Expr
  os : Lean.Expr
  D : Lean.Expr
  vs : Lean.Expr
  news : List (Lean.Expr × Lean.Expr)
  lies : List (Lean.Expr × Lean.Expr × Lean.Expr)
def Go.shared (s : Go) : Lean.Expr := mkApp5 (cq "PySem.Shared.mk") s.h s.g s.d s.t s.os
def Go.with (s : Go) (h t : Lean.Expr) : Lean.Expr := mkApp5 (cq "PySem.Shared.mk") h s.g s.d t s.os

def pairsOf (fuel : Nat) (e : Lean.Expr) : MetaM (Option (List (Lean.Expr × Lean.Expr))) := match fuel with
  | 0 => return none
  | n + 1 => do
    let e ← if e.isAppOfArity (nq "List.nil") 1 || e.isAppOfArity (nq "List.cons") 3 then pure e else whnfD e
    if e.isAppOfArity (nq "List.nil") 1 then return some [] else
    if e.isAppOfArity (nq "List.cons") 3 then
      let a := e.getAppArgs
      let x ← if (ar a 1).isAppOfArity (nq "Prod.mk") 4 then pure (ar a 1) else whnfD (ar a 1)
      if x.isAppOfArity (nq "Prod.mk") 4 then
        let p := x.getAppArgs
        let some r ← pairsOf n (ar a 2) | return none
        return some (((ar p 2), (ar p 3)) :: r)
      else return none
    else return none

/-- the goal's parts, and what the context says of its heap -/
def readGo (g : MVarId) : MetaM (Option (Lean.Expr × Lean.Expr × Lean.Expr × Go)) := g.withContext do
  let T := (← instantiateMVars (← g.getType)).consumeMData
  unless T.isAppOfArity (nq "PySem.wpOwn") 8 do return none
  let a := T.getAppArgs
  let M := (ar a 1)
  unless M.isAppOfArity (nq "PySem.model") 2 do return none
  let S := (ar a 7)
  unless S.isAppOfArity (nq "PySem.Shared.mk") 5 do return none
  let s := S.getAppArgs
  let h := (ar s 0)
  let ds ← declsQ
  let some (D, mt) := pickQ ds.reverse fun d => if d.type.isAppOfArity (nq "Mine.Hp") 4 && d.type.getAppArgs[1]! == h then some (d.toExpr, d.type) else none | return none
  let lies := keepQ ds fun d => if d.type.isAppOfArity (nq "PySem.W.X.Lies") 2 then some (d.type.appArg!, d.toExpr, d.type.appFn!.appArg!) else none
  let ma := (← instantiateMVars mt).getAppArgs
  let some news ← pairsOf 5000 (ar ma 3) | return none
  return some ((ar ma 0), (ag M 0), (ag M 1), { al := (ar a 0), A := (ar a 2), c := (ar a 3), Q := (ar a 5), E := (ar a 6), tree := (ar a 4), h, g := (ar s 1), d := (ar s 2), t := (ar s 3), os := (ar s 4), D, vs := (ar ma 2), news, lies })

def oldsOf (h0 : Lean.Expr) : MetaM (List (Lean.Expr × Lean.Expr × Lean.Expr)) := do
  mapQ (← declsQ) fun d => do
    let some (_, l, r) := (← instantiateMVars d.type).eq? | return none
    unless l.isAppOfArity (nq "PySem.Heap.get?") 2 && r.isAppOfArity (nq "Option.some") 2 && l.appFn!.appArg! == h0 do return none
    return some (l.appArg!, ← whnfR r.appArg!, d.toExpr)
def baseOf (g : MVarId) (h0 prog w : Lean.Expr) : MetaM Bs := g.withContext do
  let k ← findQ (← declsQ).reverse fun d => do
    let t ← instantiateMVars d.type
    return if t.isAppOfArity (nq "PySem.W.Frag.In") 2 && t.appArg! == h0 then some (t.appFn!.appArg!, d.toExpr) else none
  return { prog, w, h0, olds := ← oldsOf h0, k, setting := mkApp2 (cq "PySem.Setting.mk") prog (mkApp (cq "PySem.World.params") w) }

def isStop (cf : Cfg) (c : Lean.Expr) : Bool := Id.run do
  match c.getAppFn.constName? with
  | some ``Code.forLoop | some ``Code.whileLoop | some ``Code.compLoop => return cf.loops
  | some ``Code.call =>
    let f := (ag c 0)
    if f.isAppOfArity (nq "PySem.Value.ref") 1 then
      match XRun.litOf f.appArg! with
      | some n => return cf.refs.contains n || (cf.auto.lookup (toString n)).isSome
      | none => return (cf.auto.lookup "new").isSome
    return false
  | some ``Code.builtin => return (match XRun.litStr (ag c 0) with | some s => cf.ids.contains s || (cf.auto.lookup s).isSome | none => false)
  | some ``Code.compStart => return (cf.auto.lookup "compStart").isSome
  | _ => return false

/-- whnf that does not look into the functions named -/
def shyWhnf (ops : List Name) (e : Lean.Expr) : MetaM Lean.Expr :=
  withReader (fun ctx => { ctx with canUnfold? := some fun _ info => return !ops.contains info.name }) (withOptions (smartUnfolding.set · false) (withTransparency .all (whnf e)))

/-- the items of a list, where all are in sight -/
def wholeList (fuel : Nat) (e : Lean.Expr) (f : Lean.Expr → MetaM Lean.Expr) : MetaM (Option Lean.Expr) := do
  match fuel with
  | 0 => return none
  | fuel + 1 =>
    let e ← XRun.kw e
    if e.isAppOfArity (nq "List.nil") 1 then return some e
    if e.isAppOfArity (nq "List.cons") 3 then
      let a := e.getAppArgs
      let some r ← wholeList fuel (ar a 2) f | return none
      return some (mkApp3 e.getAppFn (ar a 0) (← f (ar a 1)) r)
    return none
def nArr (e : Lean.Expr) (f : Lean.Expr → MetaM Lean.Expr) : MetaM Lean.Expr := do
  let e' ← XRun.kw e
  if e'.isAppOfArity (nq "Array.mk") 2 then
    if let some l ← wholeList 10000 e'.appArg! f then return mkApp2 e'.getAppFn e'.getAppArgs[0]! l
  return e.headBeta

/-- a list of signs as a string -/
def signsOf (fuel : Nat) (l : Lean.Expr) (out : String) : MetaM (Option String) := do match fuel with
  | 0 => return none
  | fuel + 1 =>
    if l.isAppOf (nq "List.nil") then return some out
    unless l.isAppOfArity (nq "List.cons") 3 do return none
    let some n := XRun.litOf (← XRun.kw (ag l 1)) | return none
    signsOf fuel (← XRun.kw l.appArg!) (out.push (Char.ofNat n))
/-- a written string, glued together out of parts -/
def strOf : Nat → Lean.Expr → MetaM (Option String) := fixQ (fun _ => return none) fun go e => do
    if let some s := XRun.litStr e then return some s
    let two (b : Lean.Expr) : MetaM (Option String) := do
      let a := b.getAppArgs
      if a.size < 2 then return none
      let part (y : Lean.Expr) : MetaM (Option String) := do
        match y with
        | .proj ``String _ x => go x
        | _ => if y.isAppOfArity (nq "String.toByteArray") 1 then go y.appArg! else return none
      let (some s1, some s2) := (← part a[a.size - 2]!, ← part a[a.size - 1]!) | return none
      return some (s1 ++ s2)
    if e.isAppOf (nq "String.ofByteArray") then
      let b := (ag e 0)
      if b.isAppOf (nq "HAppend.hAppend") || b.isAppOf (nq "ByteArray.append") || b.isAppOf (nq "Append.append") then return ← two b
      let b' ← shyWhnf [(nq "HAppend.hAppend"), (nq "ByteArray.append"), (nq "Append.append"), (nq "String.toByteArray")] b
      if b'.isAppOf (nq "HAppend.hAppend") || b'.isAppOf (nq "ByteArray.append") || b'.isAppOf (nq "Append.append") then return ← two b'
      return none
    if e.isAppOf (nq "HAppend.hAppend") || e.isAppOf (nq "String.append") || e.isAppOf (nq "Append.append") then
      let a := e.getAppArgs
      let (some s1, some s2) := (← go a[a.size - 2]!, ← go a[a.size - 1]!) | return none
      return some (s1 ++ s2)
    if e.isAppOf (nq "ToString.toString") then return ← go e.appArg!
    if e.isAppOfArity (nq "PySem.Str.toString") 1 then
      let x ← XRun.kw e.appArg!
      unless x.isAppOfArity (nq "PySem.Str.mk") 1 do return none
      let y ← XRun.kw x.appArg!
      unless y.isAppOfArity (nq "Array.mk") 2 do return none
      return ← signsOf 200 (← XRun.kw y.appArg!) ""
    let e' ← shyWhnf [(nq "String.append"), (nq "HAppend.hAppend"), (nq "Append.append"), (nq "ToString.toString")] e
    if e' == e then return none
    go e'
/-- a written string as one -/
def nString (id : Lean.Expr) : MetaM Lean.Expr := do
  match ← strOf 50 id with
  | some s => return mkStrLit s
  | none => XRun.kw id
/-- a value with its parts in sight -/
def nVal (v : Lean.Expr) : MetaM Lean.Expr := do
  let v ← XRun.kw v
  match v.getAppFn.constName? with
  | some ``Value.type | some ``Value.builtin => return mkApp v.appFn! (← nString v.appArg!)
  | some ``Value.ref => return mkApp v.appFn! (← XRun.addrOf v.appArg!)
  | some ``Value.str =>
    let s ← XRun.kw v.appFn!.appArg!
    let s ← if s.isAppOfArity (nq "PySem.Str.mk") 1 then do pure (mkApp s.appFn! (← nArr s.appArg! XRun.kw)) else pure s
    return mkApp2 v.appFn!.appFn! s v.appArg!
  | some ``Value.bool => return mkApp v.appFn! (← XRun.kw v.appArg!)
  | _ => return v
def nEntry (e : Lean.Expr) : MetaM Lean.Expr := do
  let e ← XRun.kw e
  unless e.isAppOfArity (nq "PySem.DictEntry.mk") 3 do return e
  let a := e.getAppArgs
  return mkApp3 e.getAppFn (ar a 0) (← nVal (ar a 1)) (← nVal (ar a 2))
def nNat (e : Lean.Expr) : MetaM Lean.Expr := do
  let v ← XRun.kw e
  match v with
  | .lit _ => return v
  | _ => return e
/-- a def's object made by a call, as the constant that stands for it -/
def nFunc (o : Lean.Expr) : MetaM Lean.Expr := do
  unless o.isAppOfArity (nq "PySem.Obj.mk") 4 && (← getEnv).contains `Mine.coordFn do return o
  let dt := (ag o 2)
  unless dt.isAppOfArity (nq "PySem.Data.func") 1 && (ag o 0).isAppOfArity (nq "PySem.Value.type") 1 do return o
  let c ← XRun.kw (mkApp (cq "PySem.FuncData.code") dt.appArg!)
  unless c.isAppOfArity (nq "PySem.Value.ref") 1 do return o
  let o' := mkApp (mkConst `Mine.coordFn) c.appArg!
  match Kernel.isDefEq (← getEnv) (← getLCtx) o o' with
  | .ok true => return o'
  | _ => return o
def nObj (e : Lean.Expr) : MetaM Lean.Expr := do
  let e ← XRun.kw e
  unless e.isAppOfArity (nq "PySem.Obj.mk") 4 do return e
  let a := e.getAppArgs
  let dt ← XRun.kw (ar a 2)
  let x := dt.getAppArgs
  let dt ← match dt.getAppFn.constName? with
    | some ``PySem.Data.dict => pure (mkApp2 dt.getAppFn (← nArr (ar x 0) nEntry) (← nNat (ar x 1)))
    | some ``PySem.Data.seq => pure (mkApp2 dt.getAppFn (← nArr (ar x 0) nVal) (← nNat (ar x 1)))
    | some ``PySem.Data.fields => pure (mkApp dt.getAppFn (← nArr (ar x 0) nVal))
    | _ => pure dt
  let o := mkApp4 (cq "PySem.Obj.mk") (← nVal (ar a 0)) (← XRun.kw (ar a 1)) dt (← nArr (ar a 3) XRun.kw)
  if dt.isAppOf (nq "PySem.Data.func") then nFunc o else return o

/-- an object behind a change, and why it is that one: an item pushed onto a list that is not in sight -/
def nObjP (e : Lean.Expr) : MetaM (Lean.Expr × Lean.Expr) := do
  let o ← nObj e
  let rfl' := XRun.rflAt (cq "PySem.Obj") o
  unless o.isAppOfArity (nq "PySem.Obj.mk") 4 do return (o, rfl')
  let a := o.getAppArgs
  unless (ar a 2).isAppOfArity (nq "PySem.Data.seq") 2 do return (o, rfl')
  let d := (ar a 2).getAppArgs
  unless (ar d 0).isAppOfArity (nq "Array.push") 3 do return (o, rfl')
  let y := (ar d 0).getAppArgs
  let arr ← XRun.kw (ar y 1)
  unless arr.isAppOfArity (nq "Array.mk") 2 do return (o, rfl')
  let v ← nVal (ar y 2)
  let F (x : Lean.Expr) := mkApp4 o.getAppFn (ar a 0) (ar a 1) (mkApp2 (ar a 2).getAppFn x (ar d 1)) (ar a 3)
  let lam ← withLocalDeclD `x (mkApp (c0 "Array") (cq "PySem.Value")) fun x => mkLambdaFVars #[x] (F x)
  let pm := mkApp2 (mkConst `Mine.push_mk) arr.appArg! v
  let some (_, _, r) := (← inferType pm).eq? | return (o, rfl')
  let o' := F r
  return (o', ← mkExpectedTypeHint (← mkCongrArg lam pm) (← mkEq e o'))

/-- a code with its head parts in sight -/
def nCode (c : Lean.Expr) : MetaM Lean.Expr := do
  let c ← XRun.kw c
  if c.isAppOfArity (nq "PySem.Code.call") 2 then
    let a := c.getAppArgs
    let args ← XRun.kw (ar a 1)
    let args ← if args.isAppOfArity (nq "PySem.Args.mk") 2 then do
        let y := args.getAppArgs
        pure (mkApp2 args.getAppFn (← XRun.nList (ar y 0) nVal) (← XRun.nList (ar y 1) XRun.kw))
      else pure args
    return mkApp2 c.getAppFn (← nVal (ar a 0)) args
  if c.isAppOfArity (nq "PySem.Code.builtin") 2 then
    let a := c.getAppArgs
    let args ← XRun.kw (ar a 1)
    let args ← if args.isAppOfArity (nq "PySem.Args.mk") 2 then do
        let y := args.getAppArgs
        pure (mkApp2 args.getAppFn (← XRun.nList (ar y 0) nVal) (← XRun.nList (ar y 1) XRun.kw))
      else pure args
    let id ← nString (ar a 0)
    return mkApp2 c.getAppFn id args
  return c

/-- the tree's words as they were, where evaluation has opened them -/
def foldStep (e : Lean.Expr) : Option Lean.Expr := Id.run do
  let .proj ``PProd 0 r := e.getAppFn | return none
  let r := r.headBeta
  unless r.isAppOf (nq "PySem.Sem.rec") do return none
  let ra := r.getAppArgs
  if ra.size < 10 then return none
  let .lam _ _ b _ := (ar ra 2) | return none
  unless b.isAppOfArity (nq "PProd.mk") 4 do return none
  let y := (ag b 2)
  let some f := y.getAppFn.constName? | return none
  let g := if f == (nq "PySem.Sem.bind._f") then some (nq "PySem.Sem.bind") else if f == (nq "PySem.Sem.keep._f") then some (nq "PySem.Sem.keep") else if f == (nq "PySem.Sem.tryCatch._f") then some (nq "PySem.Sem.tryCatch") else if f == (nq "PySem.Sem.onRaise._f") then some (nq "PySem.Sem.onRaise") else none
  let some g := g | return none
  let ya := y.getAppArgs
  if ya.size < 2 then return none
  let ps := ya.extract 0 (ya.size - 2)
  if ps.any (·.hasLooseBVar 0) then return none
  let ps := ps.map (·.lowerLooseBVars 1 1)
  return some (mkAppN (mkAppN (mkConst g) (ps.push ra[ra.size - 1]!)) e.getAppArgs)
def foldSem (e : Lean.Expr) : MetaM Lean.Expr := Core.transform e (pre := fun x => do
  match foldStep x with
  | some y => return .visit y
  | none => return .continue)
structure Done where
  go : List MVarId := []
  out : List (MVarId × String) := []

def idxFrom (l : List (Lean.Expr × Lean.Expr)) (a : Lean.Expr) (i : Nat) : Option (Nat × Lean.Expr) := match l with
  | [] => none
  | (x, o) :: r => if x == a then some (i, o) else idxFrom r a (i + 1)
def idxOf (s : Go) (a : Lean.Expr) : Option (Nat × Lean.Expr) := idxFrom s.news a 0
def tt : Lean.Expr := XRun.rflAt (cq "Bool") (cq "Bool.true")
def ff : Lean.Expr := XRun.rflAt (cq "Bool") (cq "Bool.false")
def findOld (b : Bs) (a : Lean.Expr) : MetaM (Option (Lean.Expr × Lean.Expr)) := do
  if let some r := pickQ b.olds fun (x, o, e) => if x == a then some (o, e) else none then return some r
  match XRun.litOf a, b.k with
  | some n, some (K, X) =>
    let some (od, th) ← XRun.kObj K n | return none
    return some (mkApp (mkConst od) (mkApp (cq "PySem.World.params") b.w), mkApp3 (mkConst th) b.w b.h0 X)
  | _, _ => return none
def find (b : Bs) (s : Go) (a : Lean.Expr) : MetaM (Option (Lean.Expr × Lean.Expr)) := do
  let com := #[b.h0, s.h, s.vs, XRun.newsE s.news, s.D]
  if let some (i, o) := idxOf s a then
    return some (o, mkAppN (cq "Mine.Hp.at") (com ++ #[mkRawNatLit i, a, o, XRun.atProof a o]))
  if XRun.litOf a == some 40 then
    return some (mkApp (cq "PySem.W.X.tableObj") s.vs, mkAppN (cq "Mine.Hp.tab") com)
  let some (o, e) ← findOld b a | return none
  match XRun.litOf a with
  | some _ => return some (o, mkAppN (cq "Mine.Hp.oldN") (com ++ #[a, o, e, ff]))
  | none => return some (o, mkAppN (cq "Mine.Hp.oldC") (com ++ #[a, o, e, tt]))
def neProof (b : Bs) (s : Go) (x y : Lean.Expr) : MetaM (Option Lean.Expr) := do
  let com := #[b.h0, s.h, s.vs, XRun.newsE s.news, s.D]
  match idxOf s x, idxOf s y with
  | some (i, oi), some (j, oj) =>
    if i < j then return some (mkAppN (cq "Mine.Hp.ne") (com ++ #[mkRawNatLit i, mkRawNatLit j, x, y, oi, oj, XRun.atProof x oi, XRun.atProof y oj, tt]))
    else if j < i then return some (← mkAppM (nq "Ne.symm") #[mkAppN (cq "Mine.Hp.ne") (com ++ #[mkRawNatLit j, mkRawNatLit i, y, x, oj, oi, XRun.atProof y oj, XRun.atProof x oi, tt])])
    else return none
  | some (i, oi), none =>
    let some (o, e) ← findOld b y | return none
    return some (mkAppN (cq "Mine.Hp.ne_old") (com ++ #[mkRawNatLit i, x, oi, XRun.atProof x oi, y, o, e]))
  | none, some (j, oj) =>
    let some (o, e) ← findOld b x | return none
    return some (← mkAppM (nq "Ne.symm") #[mkAppN (cq "Mine.Hp.ne_old") (com ++ #[mkRawNatLit j, y, oj, XRun.atProof y oj, x, o, e])])
  | none, none =>
    let (some (o, e), some (o', e')) := (← findOld b x, ← findOld b y) | return none
    return some (mkAppN (cq "PySem.W.X.ne_objs") #[b.h0, x, y, o, o', e, e', tt])

/-- a tactic given by its text -/
def runTac (g : MVarId) (s : String) : MetaM Bool := do
  let saved ← saveState
  try
    match Parser.runParserCategory (← getEnv) `tactic s with
    | .ok stx =>
      let gs ← (Tactic.run g (evalTactic stx)).run'
      if gs.isEmpty then return true
      saved.restore
      return false
    | .error _ => return false
  catch _ => saved.restore; return false
def byTac (p : Lean.Expr) (s : String) : MetaM (Option Lean.Expr) := do
  let m ← mkFreshExprSyntheticOpaqueMVar p
  if ← runTac m.mvarId! s then return some (← instantiateMVars m) else return none
def tacOmega (p : Lean.Expr) : MetaM (Option Lean.Expr) :=
  byTac p "first | run_tac Mine.om | (simp only [PySem.cLine, PySem.recursionLimit, PySem.claimMargin] at *; run_tac Mine.om)"
theorem room_lt {v n k L : Nat} (h : v ≤ n) (e : Nat.blt (n + k) L = true) : v + k < L := Nat.lt_of_le_of_lt (Nat.add_le_add_right h k) (Nat.le_of_ble_eq_true e)
theorem room_le {v n k L : Nat} (h : v ≤ n) (e : Nat.ble (n + k) L = true) : v + k ≤ L := Nat.le_trans (Nat.add_le_add_right h k) (Nat.le_of_ble_eq_true e)
/-- v + k against a line, by a bound on v in the context -/
def roomBy (v : Lean.Expr) (k : Nat) (line : Lean.Expr) (lt : Bool) : MetaM (Option Lean.Expr) := do
  findQ (← declsQ) fun d => do
    unless d.type.isAppOfArity (nq "LE.le") 4 && d.type.getAppArgs[2]! == v do return none
    let n := d.type.appArg!
    let kE := mkRawNatLit k
    let t ← XRun.kw (mkApp2 (mkConst (if lt then (nq "Nat.blt") else (nq "Nat.ble"))) (mkApp2 (cq "Nat.add") n kE) line)
    return if t.isConstOf (nq "Bool.true") then some (mkAppN (mkConst (if lt then (nq "Mine.room_lt") else (nq "Mine.room_le"))) #[v, n, kE, line, d.toExpr, XRun.rflAt (cq "Bool") (cq "Bool.true")]) else none
theorem len_cond {α : Type} (b : Bool) (x y : List α) : (condFn (List α) b x y).length = if b = true then x.length else y.length := by cases b <;> rfl
theorem cells_len (f : Addr) (b : Bool) (acts : List (Code × Pos)) : (XFast.xw10967294825066124259 f b acts).length = 2 := by
  run_tac sqIn
  unfold XFast.xw10967294825066124259
  split <;> rfl
  run_tac sqOut
/-- a bound on texts' lengths -/
def strFacts (p : Lean.Expr) : MetaM (Option Lean.Expr) :=
  byTac p "first | (simp only [PySem.Str.length, PySem.Str.cps_append, PySem.Str.empty, Array.size_append, List.size_toArray, List.length_append, List.length_cons, List.length_nil, PySem.sizeLine_eq]; run_tac Mine.om) | (simp only [Mine.len_cond, Mine.cells_len, List.size_toArray, List.length_append, List.length_cons, List.length_nil, List.length_replicate, PySem.sizeLine_eq]; (repeat' split) <;> run_tac Mine.om) | fail"
/-- a proposition by the context or by omega -/
def byFacts (p : Lean.Expr) : MetaM (Option Lean.Expr) := do
  if let some h := pickQ (← declsQ) fun d => if d.type == p then some d.toExpr else none then return some h
  if (p.find? fun y => y.isConstOf (nq "Array.size") || y.isConstOf (nq "List.length")).isSome then
    if let some h ← byTac p "(simp only [List.size_toArray, List.length_append, List.length_cons, List.length_nil, List.length_map, PySem.sizeLine]; first | done | run_tac Mine.om)" then return some h
  if arithQ p || p.isAppOf (nq "Not") then
    if let some h ← omTry p then return some h
  let m ← mkFreshExprSyntheticOpaqueMVar p
  try
    let (r, _) ← ((XRun.byOmega p).run { elaborator := .anonymous } |>.run { goals := [m.mvarId!] }).run'
    return r
  catch _ => return none

/-- the same, with simp ahead -/
def byFacts' (p : Lean.Expr) : MetaM (Option Lean.Expr) := do
  if let some h ← byFacts p then return some h
  byTac p "first | (simp; done) | (simp; run_tac Mine.om) | (simp [*]; done) | (simp [*]; run_tac Mine.om)"

def flatNat : Nat → Lean.Expr → Nat → MetaM (Lean.Expr × Nat) := fixQ (fun e k => return (e, k)) fun go e k => do
    let e ← whnfCore e
    if e.isAppOfArity (nq "HAdd.hAdd") 6 || e.isAppOfArity (nq "Nat.add") 2 then
      let b ← XRun.kw e.appArg!
      match XRun.litOf b with
      | some j => go e.appFn!.appArg! (k + j)
      | none => return (e, k)
    else if e.isAppOfArity (nq "Nat.succ") 1 then go e.appArg! (k + 1)
    else if e.isFVar then return (e, k)
    else match XRun.litOf e with
      | some j => return (mkRawNatLit 0, k + j)
      | none =>
        let e' ← whnfD e
        if e' == e then return (e, k) else go e' k
/-- n < line, n a term over the walk's surroundings -/
def roomProof (f : Name) (A' : Lean.Expr) (line : Name) : MetaM (Option Lean.Expr) := do
  let n := mkApp (mkConst f) A'
  let (v, k) ← flatNat 200 n 0
  let sum ← mkAppM (nq "HAdd.hAdd") #[v, mkNatLit k]
  let lt ← mkAppM (nq "LT.lt") #[sum, mkConst line]
  if let some h ← roomBy v k (mkConst line) true then return some (← mkExpectedTypeHint h (← mkAppM (nq "LT.lt") #[n, mkConst line]))
  let some h ← tacOmega lt | return none
  return some (← mkExpectedTypeHint h (← mkAppM (nq "LT.lt") #[n, mkConst line]))

/-- what m waits for, within e -/
def within1 (e m : Lean.Expr) (inner : List ((Lean.Expr → Lean.Expr) × Lean.Expr)) : List ((Lean.Expr → Lean.Expr) × Lean.Expr) :=
  keepQ inner (fun (c, s) => some (fun x => let v := c x; e.replace fun y => if y == m then some v else none, s)) ++ [(id, e)]
/-- the things that a stuck term waits for, the innermost first -/
def waits (wh : Lean.Expr → MetaM Lean.Expr) : Nat → Lean.Expr → MetaM (List ((Lean.Expr → Lean.Expr) × Lean.Expr)) := fixQ (fun _ => return []) fun go e => do
    match e.getAppFn with
    | .const n _ =>
      if let some (.recInfo r) := (← getEnv).find? n then
        let args := e.getAppArgs
        let i := r.getMajorIdx
        if h : i < args.size then
          let m := args[i]
          if m.hasLooseBVars then return [(id, e)]
          let m' ← wh m
          let inner ← go m'
          if inner.isEmpty then return [(id, e)]
          -- a type that hangs on the major premise: what lies within cannot be taken apart
          let ty ← Core.betaReduce (← inferType e)
          let tied := !ty.getAppFn.isConstOf (nq "PProd") && (ty.find? fun y => y == m).isSome
          if tied then return [(id, e)]
          return within1 e m inner
        else return [(id, e)]
      else return [(id, e)]
    | .proj _ _ b =>
      if b.isConst then return [(id, e)]
      let b' ← wh b
      if b'.getAppFn.isFVar || b'.getAppFn.isProj then return [(id, e)]
      let inner ← go b'
      return within1 e b inner
    | _ => return [(id, e)]

/-- a stuck tree and what it waits for; what the kernel can tell is told -/
def shyLoop (ops : List Name) (setting : Lean.Expr) : Nat → Lean.Expr → MetaM (Lean.Expr × List ((Lean.Expr → Lean.Expr) × Lean.Expr)) := fixQ (fun e => return (e, [])) fun go e => do
    let t ← shyWhnf ops e
    if ← XRun.isCtor t then return (t, [])
    let l ← waits (shyWhnf ops) 100 t
    let some (ctx, s) := l.head? | return (t, [])
    let v ← XRun.kw s
    if ← XRun.isCtor v then go (ctx v) else return (t, l)

/-- an if whose way is known -/
def tidyIte (e : Lean.Expr) : Lean.Expr := e.replace fun y =>
  if y.isAppOfArity (nq "ite") 5 then
    let a := y.getAppArgs
    if (ar a 2).isAppOfArity (nq "Decidable.isFalse") 2 then some (ar a 4) else if (ar a 2).isAppOfArity (nq "Decidable.isTrue") 2 then some (ar a 3) else none
  else none
def sound (e : Lean.Expr) : MetaM Bool := do
  match Kernel.check (← getEnv) (← getLCtx) (← instantiateMVars e) with
  | .ok _ => return true
  | .error _ => return false

def eqFacts : MetaM (List (Lean.Expr × Lean.Expr × Lean.Expr)) := do
  mapQ (← declsQ) fun d => do
    let some (_, l, r) := (← instantiateMVars d.type).eq? | return none
    return some (l, r, d.toExpr)

/-- what the walk has left behind -/
def stale (b : Bs) (x : Go) (g : MVarId) : MetaM MVarId := g.withContext do
  let mut g := g
  if x.D.isFVar then g ← g.tryClear x.D.fvarId!
  if x.h.isFVar && x.h != b.h0 then g ← g.tryClear x.h.fvarId!
  return g


/-- a stretch of steps that nothing must be decided for, as one word -/
structure SS where
  lctx : LocalContext
  bind : Array Lean.Expr
  fr : List (Lean.Expr × Lean.Expr × Lean.Expr × Lean.Expr)
  c : Lean.Expr
  Ac : Lean.Expr
  tree : Lean.Expr
  t : Lean.Expr
  news : List (Lean.Expr × Lean.Expr)
  ops : Array Lean.Expr
  as : List Lean.Expr
  ls : Lean.Expr
  lies : List (Lean.Expr × Lean.Expr × Lean.Expr)
  ended : Option Lean.Expr
  cur : Lean.Expr
def quickOf (tr : Lean.Expr) : MetaM Lean.Expr := do
  if tr.isAppOfArity (nq "PySem.denote") 2 then
    if let some (t', _) ← XFast.quick tr then return t'
  return tr
abbrev Fr := Lean.Expr × Lean.Expr × Lean.Expr × Lean.Expr
def ktOf (l : List Fr) : Lean.Expr := match l with
  | [] => mkConst (nq "Mine.Kt.base")
  | (c, hd, k, _) :: r => mkApp4 (cq "Mine.Kt.ret") c hd k (ktOf r)
/-- past the notes ahead -/
def peelQ (b : Bs) (fuel n : Nat) (tr : Lean.Expr) : MetaM (Nat × Lean.Expr) := do match fuel with
  | 0 => return (n, tr)
  | fuel + 1 =>
    let e ← XRun.kw tr
    let ea := e.getAppArgs
    match e.getAppFn.constName? with
    | some ``Sem.rule | some ``Sem.at | some ``Sem.point => peelQ b fuel (n + 1) (mkApp (ar ea 2) (cq "Unit.unit")).headBeta
    | some ``Sem.ask => peelQ b fuel (n + 1) (mkApp (ar ea 1) b.setting).headBeta
    | _ => return (n, tr)
/-- what a return makes -/
def backQ (op0 : Lean.Expr) (s : SS) (r : Lean.Expr) : SS := match s.fr with
  | (c1, _, k1, Aa) :: rest => { s with tree := (mkApp k1 r).headBeta, fr := rest, c := c1, Ac := Aa, ops := s.ops.push op0 }
  | [] => { s with ended := some r, ops := s.ops.push op0 }
def armQ (b : Bs) (cf : Cfg) (x : Go) (A0 : Lean.Expr) (s : SS) (v : Lean.Expr) : MetaM (Option SS) := do
  let op0 := mkApp (cq "Mine.Op.s") b.h0
  let a := v.getAppArgs
  let go (tree : Lean.Expr) : Option SS := some { s with tree, ops := s.ops.push op0 }
  match v.getAppFn.constName? with
  | some ``Sem.pure =>
    let f ← XRun.kw (ar a 1)
    if f.isAppOfArity (nq "PySem.Fin.done") 1 then
      let f ← XRun.kw f.appArg!
      let f ← if f.isAppOfArity (nq "PySem.Flow.ret") 1 then pure (mkApp f.appFn! (← nVal f.appArg!)) else pure f
      return some (backQ op0 s (mkApp3 (c2 "Except.ok") (cq "PySem.Value") (cq "PySem.Flow") f))
    unless f.isAppOfArity (nq "PySem.Fin.again") 1 do return none
    let c' ← nCode f.appArg!
    let qt ← XRun.kw (mkApp (cq "PySem.Code.quiet") c')
    if !qt.isConstOf (nq "Bool.true") || isStop cf c' then return none
    return some { s with c := c', tree := mkApp2 (cq "PySem.denote") (cq "PySem.table") c', ops := s.ops.push op0 }
  | some ``Sem.raise => return some (backQ op0 s (mkApp3 (c2 "Except.error") (cq "PySem.Value") (cq "PySem.Flow") (← nVal (ar a 1))))
  | some ``Sem.fresh => return some { s with tree := (mkApp (ar a 1) s.t).headBeta, t := mkNatAdd s.t (mkNatLit 1), ops := s.ops.push op0 }
  | some ``Sem.handled =>
    unless (ar a 1).isConstOf (nq "Bool.false") do return none
    return go (mkApp (ar a 2) (← XRun.kw (mkApp (cq "PySem.Around.handled") s.Ac))).headBeta
  | some ``Sem.stack =>
    let cp := mkApp2 (c2 "Prod") (cq "PySem.Code") (cq "PySem.Pos")
    let (p, below) := (← mkFreshFVarId, ← mkFreshFVarId)
    let st := mkApp3 (c0 "List.cons") cp (mkApp4 (c2 "Prod.mk") (cq "PySem.Code") (cq "PySem.Pos") s.c (mkFVar p)) (mkFVar below)
    let ls := mkApp2 (cq "And") (mkApp4 (cq "Mine.LiesOf") A0 (ktOf s.fr) s.c st) s.ls
    return some { s with
      lctx := (s.lctx.mkLocalDecl p `pS (cq "PySem.Pos")).mkLocalDecl below `belowS (mkApp (c0 "List") cp)
      bind := s.bind ++ #[mkFVar p, mkFVar below]
      tree := (mkApp (ar a 1) st).headBeta
      ls
      lies := (mkApp2 (cq "PySem.Around.under") s.Ac s.c, st, ls) :: s.lies
      ops := s.ops.push op0 }
  | some ``Sem.call =>
    let c' ← nCode (ar a 1)
    if isStop cf c' then return none
    let hd ← XRun.kw (ar a 2)
    unless (← XRun.kw (mkApp (cq "PySem.W.X.okMark") hd)).isConstOf (nq "Bool.true") do return none
    return some { s with
      fr := (s.c, hd, ← foldSem (ar a 5), s.Ac) :: s.fr
      Ac := mkApp2 (cq "PySem.Around.mark") (mkApp2 (cq "PySem.Around.under") s.Ac s.c) hd
      c := c'
      tree := mkApp2 (cq "PySem.denote") (cq "PySem.table") c'
      ops := s.ops.push op0 }
  | some ``Sem.load | some ``Sem.loadIfAlive =>
    let ad ← XRun.addrOf (ar a 1)
    let alive := v.getAppFn.constName? == some (nq "PySem.Sem.loadIfAlive")
    let give (o op : Lean.Expr) : Option SS := some { s with
      tree := (mkApp (if alive then (ar a 2) else (ar a 3)) (if alive then mkApp2 (c0 "Option.some") (cq "PySem.Obj") o else o)).headBeta
      ops := s.ops.push op
      as := ad :: s.as }
    if let some (i, o) := idxFrom s.news ad 0 then return give o (mkApp2 (cq "Mine.Op.l") b.h0 (mkRawNatLit i))
    if XRun.litOf ad == some 40 then return give (mkApp (cq "PySem.W.X.tableObj") x.vs) (mkApp (cq "Mine.Op.t") b.h0)
    let some (o, e) ← findOld b ad | return none
    let ne := match XRun.litOf ad with
      | some _ => mkApp3 (cq "Nat.ne_of_beq_eq_false") ad (mkRawNatLit 40) ff
      | none => mkAppN (cq "Mine.Hp.oldNe") #[b.h0, x.h, x.vs, XRun.newsE x.news, x.D, ad, o, e, tt]
    return give o (mkApp2 (cq "Mine.Op.o") b.h0 (mkAppN (cq "Mine.Old.mk") #[b.h0, ad, o, e, ne]))
  | some ``Sem.alloc =>
    let o ← nObj (ar a 1)
    let f ← mkFreshFVarId
    return some { s with
      lctx := s.lctx.mkLocalDecl f (Name.mkSimple s!"a{s.news.length}") (cq "Nat")
      bind := s.bind.push (mkFVar f)
      news := (mkFVar f, o) :: s.news
      tree := (mkApp (ar a 2) (mkFVar f)).headBeta
      ops := s.ops.push op0 }
  | some ``Sem.update =>
    let ad ← XRun.addrOf (ar a 1)
    let some (i, o) := idxFrom s.news ad 0 | return none
    let o' ← nObj (mkApp (ar a 3) o)
    if o'.isAppOfArity (nq "PySem.Obj.mk") 4 && o'.getAppArgs[2]!.isAppOfArity (nq "PySem.Data.seq") 2 && o'.getAppArgs[2]!.getAppArgs[0]!.isAppOfArity (nq "Array.push") 3 then return none
    return some { s with
      news := s.news.set i (ad, o')
      tree := (mkApp (ar a 4) (cq "Unit.unit")).headBeta
      ops := s.ops.push (mkApp2 (cq "Mine.Op.u") b.h0 (mkRawNatLit i))
      as := ad :: s.as }
  | _ => return none
/-- a stretch's turn -/
def turnQ (b : Bs) (cf : Cfg) (x : Go) (A0 : Lean.Expr) (insts : LocalInstances) (s : SS) : MetaM (SS × Bool) := withLCtx s.lctx insts do
  let v ← XRun.kw (mkApp4 (cq "PySem.W.X.skim") x.al b.setting (mkRawNatLit 400) s.cur)
  unless ← XRun.isCtor v do
    let (n, tr) ← peelQ b 40 0 s.cur
    if n == 0 then return (s, true)
    return ({ s with tree := ← foldSem tr, ops := s.ops.push (mkApp2 (cq "Mine.Op.p") b.h0 (mkRawNatLit n)) }, true)
  let some s ← armQ b cf x A0 s v | return (s, true)
  if s.ended.isSome then return (s, true)
  withLCtx s.lctx insts do
    let cur ← quickOf (← foldSem s.tree)
    return ({ s with tree := cur, cur }, false)
def turnsQ (b : Bs) (cf : Cfg) (x : Go) (A0 : Lean.Expr) (insts : LocalInstances) (fuel : Nat) (s : SS) : MetaM SS := do match fuel with
  | 0 => return s
  | fuel + 1 =>
    let (s, stop) ← turnQ b cf x A0 insts s
    if stop then return s else turnsQ b cf x A0 insts fuel s
/-- the frames below -/
def framesQ (fuel : Nat) (A R : Lean.Expr) : List Fr × Lean.Expr × Lean.Expr := match fuel with
  | 0 => ([], A, R)
  | fuel + 1 =>
    if !(R.isAppOfArity (nq "PySem.W.X.postR") 8 && A.isAppOfArity (nq "PySem.Around.mark") 2) then ([], A, R) else
    let y := R.getAppArgs
    let un := A.appFn!.appArg!
    if !(un.isAppOfArity (nq "PySem.Around.under") 2 && (ar y 0).isConstOf (nq "PySem.Fin") && (ar y 5).isAppOfArity (nq "PySem.W.X.postC") 4) then ([], A, R) else
    if !(un.appFn!.appArg! == (ar y 3) && un.appArg! == (ar y 4)) then ([], A, R) else
    let (l, A0, R0) := framesQ fuel (ar y 3) ((ar y 5).appArg!)
    (((ar y 4), A.appArg!, (ar y 7), (ar y 3)) :: l, A0, R0)
def rightQ (j : Nat) (pf : Lean.Expr) : MetaM Lean.Expr := do match j with
  | 0 => mkAppM (nq "And.left") #[pf]
  | j + 1 => rightQ j (← mkAppM (nq "And.right") #[pf])
def stretch (b : Bs) (cf : Cfg) (g : MVarId) (x : Go) : MetaM (Option (MVarId × Nat)) := g.withContext do
  unless x.al.isConstOf (nq "PySem.Fin") do return none
  unless x.Q.isAppOfArity (nq "PySem.W.X.postC") 4 && x.E.isAppOfArity (nq "PySem.W.X.postE") 1 do return none
  let insts ← getLocalInstances
  let (fr0, A0, R0) := framesQ 60 x.A (x.Q.getAppArgs[3]!)
  let start := ktOf fr0
  let opT := mkApp (cq "Mine.Op") b.h0
  let cur0 ← quickOf x.tree
  let ⟨lctx, bind, fr, c, Ac, tree, t, news, ops, as, ls, lies, ended, _⟩ ← turnsQ b cf x A0 insts cf.most ⟨← getLCtx, #[], fr0, x.c, x.A, x.tree, x.t, x.news, #[], [], cq "True", [], none, cur0⟩
  if ops.isEmpty then return none
  -- the leaf
  let V := mkAppN (cq "Mine.SV.mk") #[b.w, b.h0, A0, R0, mkApp3 (cq "Mine.MeansOf") b.w A0 R0, mkApp (cq "Mine.LiesOf") A0, x.vs, x.g, x.d, x.os]
  let newsE := XRun.newsE news
  let aT := mkConst (nq "Nat")
  let asE := listE' aT as
  let X := match ended with
    | some r => mkApp R0 r
    | none => mkAppN (cq "Mine.MeansOf") #[b.w, A0, R0, ktOf fr, c, tree]
  -- the goal's A, Q, E as the driver writes them
  let rec postOf (l : List (Lean.Expr × Lean.Expr × Lean.Expr × Lean.Expr)) (Au : Lean.Expr) : Lean.Expr × Lean.Expr := match l with
    | [] => (mkApp4 (cq "PySem.W.X.postC") b.prog b.w Au R0, mkApp (cq "PySem.W.X.postE") R0)
    | (c1, _, k1, Aa) :: rest =>
      let (Q1, E1) := postOf rest Aa
      let R1 := mkAppN (cq "PySem.W.X.postR") #[cq "PySem.Fin", b.prog, b.w, Aa, c1, Q1, E1, k1]
      (mkApp4 (cq "PySem.W.X.postC") b.prog b.w Au R1, mkApp (cq "PySem.W.X.postE") R1)
  let (T, G0) ← withLCtx lctx insts do
    withLocalDeclD `lies ls fun l => withLocalDeclD `hh (cq "PySem.Heap") fun h => do
      withLocalDeclD `DD (mkApp4 (cq "Mine.Hp") b.h0 h x.vs newsE) fun d => do
        let S := mkApp5 (cq "PySem.Shared.mk") h x.g x.d t x.os
        let G := match ended with
          | some r => (mkApp2 R0 r S).headBeta
          | none =>
            let (Q, E) := postOf fr Ac
            mkAppN (cq "PySem.wpOwn") #[cq "PySem.Fin", b.model, Ac, c, tree, Q, E, S]
        pure (← mkForallFVars (bind ++ #[l, h, d]) G, G)
  let _ := G0
  let m ← mkFreshExprSyntheticOpaqueMVar T
  let H ← withLCtx lctx insts do mkLambdaFVars bind (mkAppN (cq "Mine.leaf_of") #[V, X, newsE, t, ls, asE, mkAppN m bind])
  let opsE := listE' opT ops.toList
  g.assign (mkAppN (cq "Mine.sim_turn") #[b.w, b.h0, A0, R0, x.vs, x.g, x.d, x.os, opsE, start, x.c, x.tree, XRun.newsE x.news, x.t, x.h, H, x.D])
  let (fs, g1) ← m.mvarId!.introNP (bind.size + 3)
  let g1 ← g1.withContext do
    if lies.isEmpty then g1.tryClear fs[bind.size]! else do
      -- the surroundings' facts, each by itself
      let l := mkFVar fs[bind.size]!
      let ys := keepQ (fs.toList.take bind.size) fun y => some (mkFVar y)
      foldQ (lies.zipIdx) g1 fun g1 ((Au, st, _), j) => do
        let pf ← rightQ j l
        let T := (mkApp2 (cq "PySem.W.X.Lies") Au st).replaceFVars bind ys.toArray
        return (← (← g1.assert `lS T (← mkExpectedTypeHint pf T)).intro1P).2
  return some (← stale b x g1, ops.size)

def goWp (b : Bs) (x : Go) (tree S : Lean.Expr) : Lean.Expr := mkAppN (cq "PySem.wpOwn") #[x.al, b.model, x.A, x.c, tree, x.Q, x.E, S]
def goPre (b : Bs) (x : Go) : Array Lean.Expr := #[x.al, b.prog, b.w, x.A, x.c, x.Q, x.E]
def stepAt (g : MVarId) (lem : Name) (args : Array Lean.Expr) (ty : Lean.Expr) : MetaM MVarId := do
  let m ← mkFreshExprSyntheticOpaqueMVar ty
  g.assign (mkAppN (mkConst lem) (args.push m))
  return m.mvarId!
def goFin (b : Bs) (S : Lean.Expr) (g : MVarId) (R r : Lean.Expr) : MetaM Done := do
  if R.isAppOfArity (nq "PySem.W.X.postR") 8 then
    let y := R.getAppArgs
    let tree := (mkApp (ar y 7) r).headBeta
    let m ← mkFreshExprSyntheticOpaqueMVar (mkAppN (cq "PySem.wpOwn") #[(ar y 0), b.model, (ar y 3), (ar y 4), tree, (ar y 5), (ar y 6), S])
    g.assign (mkAppN (cq "PySem.W.X.y_ret") #[(ar y 0), b.prog, b.w, (ar y 3), (ar y 4), (ar y 5), (ar y 6), S, (ar y 7), r, m])
    return { go := [m.mvarId!] }
  return { out := [(g, "end")] }
def goCode (b : Bs) (cf : Cfg) (S : Lean.Expr) (g : MVarId) (A' c R : Lean.Expr) : MetaM Done := do
  let Q2 := mkApp4 (cq "PySem.W.X.postC") b.prog b.w A' R
  let E2 := mkApp (cq "PySem.W.X.postE") R
  let tree := mkApp2 (cq "PySem.denote") (cq "PySem.table") c
  let m ← mkFreshExprSyntheticOpaqueMVar (mkAppN (cq "PySem.wpOwn") #[cq "PySem.Fin", b.model, A', c, tree, Q2, E2, S])
  g.assign (mkAppN (cq "PySem.W.X.y_code") #[b.prog, b.w, A', R, S, c, m])
  if isStop cf c then return { out := [(m.mvarId!, "stop")] } else return { go := [m.mvarId!] }
structure SE where
  b : Bs
  cf : Cfg
  g : MVarId
  x : Go
  facts : List (Lean.Expr × Lean.Expr × Lean.Expr)
def soundIf (cf : Cfg) (e : Lean.Expr) : MetaM Bool := do if cf.doubt then sound e else return true
/-- what decides s, if anything does -/
def settle (E : SE) (ctx : Lean.Expr → Lean.Expr) (s : Lean.Expr) : MetaM (Option Done) := do
  let ⟨b, cf, g, x, facts⟩ := E
  let S := x.shared
  let wp := goWp b x
  let pre := goPre b x
  let _ := (b, cf, facts, pre)
  let sTy ← inferType s
  let sT ← whnfD sTy
  let lam ← withLocalDeclD `d sTy fun d => do mkLambdaFVars #[d] (← foldSem (ctx d))
  let ctx := fun (z : Lean.Expr) => lam.beta #[z]
  unless ← soundIf cf lam do
    return none
  let num (r e : Lean.Expr) : MetaM (Option Done) := do
    return some { go := [← stepAt g (nq "PySem.W.X.y_num") (pre ++ #[S, sTy, s, r, e, lam]) (wp (ctx r) S)] }
  let yes (p hp : Lean.Expr) : MetaM (Option Done) := do
    return some { go := [← stepAt g (nq "PySem.W.X.y_true") (pre ++ #[S, p, s, hp, lam]) (wp (ctx (mkApp2 (cq "Decidable.isTrue") p hp)) S)] }
  let no (p hp : Lean.Expr) : MetaM (Option Done) := do
    return some { go := [← stepAt g (nq "PySem.W.X.y_false") (pre ++ #[S, p, s, hp, lam]) (wp (ctx (mkApp2 (cq "Decidable.isFalse") p hp)) S)] }
  let cmp := match s.getAppFn with
    | .proj _ _ (.const on _) => if on == (nq "PySem.W.X.oLt") then some (nq "Int.decLt") else if on == (nq "PySem.W.X.oLe") then some (nq "Int.decLe") else if on == (nq "PySem.W.X.oEq") then some (nq "Int.instDecidableEq") else none
    | .const on _ => if on == (nq "PySem.W.X.ltQ") then some (nq "Int.decLt") else if on == (nq "PySem.W.X.leQ") then some (nq "Int.decLe") else if on == (nq "PySem.W.X.eqQ") then some (nq "Int.instDecidableEq") else none
    | _ => none
  if let some cn := cmp then
    if s.getAppNumArgs == 2 then
      let sa := s.getAppArgs
      if (← XRun.literal (ar sa 0)) && (← XRun.literal (ar sa 1)) then
        let p := sT.appArg!
        let inst := mkApp2 (mkConst cn) (ar sa 0) (ar sa 1)
        match ← XRun.decideNow p inst with
        | some true =>
          return ← yes p (mkApp3 (cq "of_decide_eq_true") p inst tt)
        | some false =>
          return ← no p (mkApp3 (cq "of_decide_eq_false") p inst ff)
        | none => pure ()
  let eq? ← findQ facts fun (l, r, e) => do
    if l == s || (l.getAppFn == s.getAppFn && l.getAppNumArgs == s.getAppNumArgs && !l.isFVar && (← isDefEq l s)) then return some (r, e) else return none
  let eq? ← if eq?.isSome then pure eq? else findQ cf.lems fun n => do
    let saved ← saveState
    let th ← mkConstWithFreshMVarLevels n
    let (ms, _, ty) ← forallMetaTelescope (← inferType th)
    if let some (_, l, r) := ty.eq? then
      if l.getAppFn == s.getAppFn && (← isDefEq l s) then
        let ok ← foldQ ms.toList true fun ok m => do
          if !ok || (← m.mvarId!.isAssigned) then return ok
          let mt ← instantiateMVars (← inferType m)
          unless ← isProp mt do return false
          match ← byFacts' mt with
          | some h => m.mvarId!.assign h; return true
          | none => return false
        if ok then return some (← instantiateMVars r, ← instantiateMVars (mkAppN th ms))
    saved.restore
    return none
  if let some (r, e) := eq? then return ← num r (← mkExpectedTypeHint e (← mkEq s r))
  if sT.isAppOfArity (nq "Decidable") 1 then
    let p := sT.appArg!
    if let .proj _ _ (.const on _) := s.getAppFn then
      if on == (nq "PySem.W.X.oAd") then
        let sa := s.getAppArgs
        let (u, v) := (← XRun.addrOf (ar sa 0), ← XRun.addrOf (ar sa 1))
        if u == v then return ← yes p (XRun.rflAt (cq "Nat") u)
        let some ne ← neProof b x u v | return none
        return ← no p ne
    let np := mkApp (cq "Not") p
    if (p.find? fun y => y.isConstOf (nq "PySem.Str.length") || y.isConstOf (nq "PySem.W.X.condFn")).isSome then
      if let some hp ← strFacts p then return ← yes p hp
      if let some hn ← strFacts np then return ← no p hn
    if let some hp ← byFacts p then return ← yes p hp
    if let some hn ← byFacts np then return ← no p hn
    return none
  if let .proj _ _ (.const on _) := s.getAppFn then
    if on == (nq "PySem.W.X.oEnvs") || on == (nq "PySem.W.X.oRoom") || on == (nq "PySem.W.X.oNear") || on == (nq "PySem.W.X.oOver") || on == (nq "PySem.W.X.oWarm") then
      let sa := s.getAppArgs
      let some (l, A') := pickQ x.lies fun (e, l, A') => if e == (ar sa 0) then some (l, A') else none | return none
      if on == (nq "PySem.W.X.oEnvs") then
        let fr ← XRun.kw (mkApp (cq "PySem.Around.frames") A')
        unless fr.isAppOfArity (nq "Option.some") 2 do return none
        let es ← XRun.nList fr.appArg! pure
        let lT ← inferType es
        let hE := mkApp2 (c1 "Eq.refl") (mkApp (c0 "Option") lT) (mkApp2 (c0 "Option.some") lT es)
        return ← num es (mkAppN (cq "PySem.W.X.Lies.envs") #[A', (ar sa 0), l, es, hE])
      let h? ← if on == (nq "PySem.W.X.oRoom") then do
          match ← roomProof (nq "PySem.Around.units") A' (nq "PySem.cLine") with
          | some h => pure (some (← mkAppM (nq "PySem.W.X.Lies.room") #[l, h]))
          | none => pure none
        else do
          match ← roomProof (nq "PySem.Around.depth") A' (nq "PySem.recursionLimit") with
          | some h => pure (some (← mkAppM (if on == (nq "PySem.W.X.oNear") then (nq "PySem.W.X.Lies.near'") else if on == (nq "PySem.W.X.oOver") then (nq "PySem.W.X.Lies.over") else (nq "PySem.W.X.Lies.warm")) #[l, h, (ar sa 1)]))
          | none => pure none
      let some h := h? | return none
      return some { go := [← stepAt g (nq "PySem.W.X.y_bool") (pre ++ #[S, s, cq "Bool.false", h, lam]) (wp (ctx (cq "Bool.false")) S)] }
  if sT.isConstOf (nq "Bool") && (s.find? fun y => y.isConstOf (nq "PySem.Params.followText") || (match y with | .proj ``Params _ _ => true | _ => false)).isSome then
    let (tT, tF) := (← XRun.kw (mkApp4 (cq "PySem.W.X.skim") x.al b.setting (mkRawNatLit 400) (ctx (cq "Bool.true"))), ← XRun.kw (mkApp4 (cq "PySem.W.X.skim") x.al b.setting (mkRawNatLit 400) (ctx (cq "Bool.false"))))
    if tT == tF then
      let tT ← foldSem tT
      let semTy := mkApp (cq "PySem.Sem") x.al
      let r := mkApp2 (c1 "Eq.refl") semTy tT
      return some { go := [← stepAt g (nq "PySem.W.X.y_same") (pre ++ #[S, s, lam, mkRawNatLit 400, tT, r, r]) (wp tT S)] }
    let eqP (v : Name) := mkApp3 (c1 "Eq") (cq "Bool") s (mkConst v)
    let t := ctx s
    let (m1, m2) := (← mkFreshExprSyntheticOpaqueMVar (← mkArrow (eqP (nq "Bool.true")) (wp t S)), ← mkFreshExprSyntheticOpaqueMVar (← mkArrow (eqP (nq "Bool.false")) (wp t S)))
    g.assign (mkAppN (cq "PySem.W.X.y_row") (pre ++ #[S, t, s, m1, m2]))
    let go (m : Lean.Expr) (v : Name) : MetaM MVarId := do
      let (h1, g1) ← m.mvarId!.intro1P
      g1.withContext do stepAt g1 (nq "PySem.W.X.y_bool") (pre ++ #[S, s, mkConst v, mkFVar h1, lam]) (wp (ctx (mkConst v)) S)
    return some { go := [← go m1 (nq "Bool.true"), ← go m2 (nq "Bool.false")] }
  return none
def parts (E : SE) (ctx : Lean.Expr → Lean.Expr) (s : Lean.Expr) : MetaM (Option Done) := do
  let ⟨b, cf, g, x, facts⟩ := E
  let S := x.shared
  let wp := goWp b x
  let pre := goPre b x
  let _ := (b, cf, facts, pre)
  let sT ← whnfD (← inferType s)
  unless sT.isAppOfArity (nq "Decidable") 1 do return none
  let p := sT.appArg!
  let lam ← withLocalDeclD `d (← inferType s) fun d => do mkLambdaFVars #[d] (← foldSem (ctx d))
  let ctx := fun (z : Lean.Expr) => lam.beta #[z]
  unless ← soundIf cf lam do return none
  let t := ctx s
  let (m1, m2) := (← mkFreshExprSyntheticOpaqueMVar (← mkArrow p (wp t S)), ← mkFreshExprSyntheticOpaqueMVar (← mkArrow (mkApp (cq "Not") p) (wp t S)))
  g.assign (mkAppN (cq "PySem.W.X.y_by") (pre ++ #[S, t, p, s, m1, m2]))
  let (h1, g1) ← m1.mvarId!.intro1P
  let g1 ← g1.withContext do stepAt g1 (nq "PySem.W.X.y_true") (pre ++ #[S, p, s, mkFVar h1, lam]) (wp (ctx (mkApp2 (cq "Decidable.isTrue") p (mkFVar h1))) S)
  let (h2, g2) ← m2.mvarId!.intro1P
  let g2 ← g2.withContext do stepAt g2 (nq "PySem.W.X.y_false") (pre ++ #[S, p, s, mkFVar h2, lam]) (wp (ctx (mkApp2 (cq "Decidable.isFalse") p (mkFVar h2))) S)
  return some { go := [g1, g2] }
/-- a fact of the context used within what is waited for -/
def within (E : SE) (ctx : Lean.Expr → Lean.Expr) (s0 : Lean.Expr) : MetaM (Option Done) := do
  let ⟨b, cf, g, x, facts⟩ := E
  let S := x.shared
  let wp := goWp b x
  let pre := goPre b x
  let _ := (b, cf, facts, pre)
  let s := tidyIte s0
  findQ facts fun (l, r, e) => do
    if l.isFVar || r.hasFVar || (s.find? fun y => y == l).isNone then return none
    let put (e z : Lean.Expr) : Lean.Expr := e.replace fun y => if y == l then some z else none
    let lam ← withLocalDeclD `d (← inferType l) fun d => mkLambdaFVars #[d] (put s d)
    unless ← soundIf cf lam do return none
    let s' := put s r
    let sT ← inferType s
    if sT == (← inferType s') then
      let e' ← mkExpectedTypeHint (← mkCongrArg lam e) (← mkEq s s')
      let lam2 ← withLocalDeclD `d sT fun d => do mkLambdaFVars #[d] (← foldSem (ctx d))
      unless ← soundIf cf lam2 do return none
      return some { go := [← stepAt g (nq "PySem.W.X.y_num") (pre ++ #[S, sT, s, s', e', lam2]) (wp (lam2.beta #[s']) S)] }
    -- the type turns too: in the whole tree
    let t := ctx s
    let lam2 ← withLocalDeclD `d (← inferType l) fun d => mkLambdaFVars #[d] (put t d)
    unless ← soundIf cf lam2 do return none
    return some { go := [← stepAt g (nq "PySem.W.X.y_num") (pre ++ #[S, ← inferType l, l, r, e, lam2]) (wp (put t r) S)] }
def stepOne (b : Bs) (cf : Cfg) (g : MVarId) (x : Go) : MetaM Done := g.withContext do
  let M := b.model
  let S := x.shared
  let wp := goWp b x
  let pre := goPre b x
  let Au := mkApp2 (cq "PySem.Around.under") x.A x.c
  if x.tree.isAppOfArity (nq "PySem.denote") 2 then
    if let some (t', h) ← XFast.quick x.tree then
      return { go := [← stepAt g (nq "PySem.W.X.y_eq") (pre ++ #[S, x.tree, t', h]) (wp t' S)] }
  XRun.evMap.set {}
  let t1r ← XRun.ev x.tree
  let t1 ← foldSem t1r
  let note := match t1.getAppFn.constName? with | some ``Sem.rule | some ``Sem.at | some ``Sem.point | some ``Sem.ask => true | _ => false
  let sk := mkApp4 (cq "PySem.W.X.skim") x.al b.setting (mkRawNatLit 400) t1
  let t2r ← if note then XRun.kw sk else pure t1r
  let t2 ← foldSem t2r
  let g ← if note then stepAt g (nq "PySem.W.X.y_skim") (pre ++ #[S, t1, mkRawNatLit 400]) (wp t2 S) else pure g
  let t2r ← if note && !(← XRun.isCtor t2r) then XRun.ev t2r else pure t2r
  let t2 ← foldSem t2r
  let a := t2.getAppArgs
  let stP := #[x.h, x.g, x.d, x.t, x.os]
  let fin := goFin b S
  let code := goCode b cf S
  match t2.getAppFn.constName? with
  | some ``Sem.pure =>
    unless x.Q.isAppOfArity (nq "PySem.W.X.postC") 4 do return { out := [(g, "pure")] }
    let y := x.Q.getAppArgs
    let (A', R) := ((ar y 2), (ar y 3))
    let v := (ar a 1)
    let f ← XRun.kw v
    if f.isAppOfArity (nq "PySem.Fin.done") 1 then
      let f ← XRun.kw f.appArg!
      let f ← if f.isAppOfArity (nq "PySem.Flow.ret") 1 then pure (mkApp f.appFn! (← nVal f.appArg!)) else pure f
      let r := mkApp3 (c2 "Except.ok") (cq "PySem.Value") (cq "PySem.Flow") f
      let m ← mkFreshExprSyntheticOpaqueMVar (mkApp2 R r S)
      g.assign (mkAppN (cq "PySem.W.X.y_pure") (pre ++ #[S, v, mkAppN (cq "PySem.W.X.y_done") #[b.prog, b.w, A', R, S, f, m]]))
      fin m.mvarId! R r
    else if f.isAppOfArity (nq "PySem.Fin.again") 1 then
      let c ← nCode f.appArg!
      unless (← XRun.kw (mkApp (cq "PySem.Code.quiet") c)).isConstOf (nq "Bool.true") do return { out := [(g, "quiet")] }
      let m ← mkFreshExprSyntheticOpaqueMVar (mkAppN (cq "PySem.codeAny") #[M, A', c, R, S])
      g.assign (mkAppN (cq "PySem.W.X.y_pure") (pre ++ #[S, v, mkAppN (cq "PySem.W.X.y_again") #[b.prog, b.w, A', R, S, c, tt, m]]))
      code m.mvarId! A' c R
    else return { out := [(g, "an end that is stuck")] }
  | some ``Sem.raise =>
    unless x.E.isAppOfArity (nq "PySem.W.X.postE") 1 do return { out := [(g, "raise")] }
    let R := x.E.appArg!
    let e ← nVal (ar a 1)
    let r := mkApp3 (c2 "Except.error") (cq "PySem.Value") (cq "PySem.Flow") e
    let m ← mkFreshExprSyntheticOpaqueMVar (mkApp2 R r S)
    g.assign (mkAppN (cq "PySem.W.X.y_raise") (pre ++ #[S, e, mkAppN (cq "PySem.W.X.y_err") #[R, S, e, m]]))
    fin m.mvarId! R r
  | some ``Sem.load =>
    let ad ← XRun.addrOf (ar a 1)
    let some (o, ho) ← find b x ad | return { out := [(g, s!"load: no fact names {← ppExpr ad}")] }
    let tree := (mkApp (ar a 3) o).headBeta
    return { go := [← stepAt g (nq "PySem.W.X.y_load") (pre ++ stP ++ #[ad, (ar a 2), (ar a 3), o, ho]) (wp tree S)] }
  | some ``Sem.loadIfAlive =>
    let ad ← XRun.addrOf (ar a 1)
    let some (o, ho) ← find b x ad | return { out := [(g, s!"load: no fact names {← ppExpr ad}")] }
    let tree := (mkApp (ar a 2) (mkApp2 (c0 "Option.some") (cq "PySem.Obj") o)).headBeta
    return { go := [← stepAt g (nq "PySem.W.X.y_alive") (pre ++ stP ++ #[ad, (ar a 2), o, ho]) (wp tree S)] }
  | some ``Sem.fresh =>
    let tree := (mkApp (ar a 1) x.t).headBeta
    return { go := [← stepAt g (nq "PySem.W.X.y_fresh") (pre ++ stP ++ #[(ar a 1)]) (wp tree (x.with x.h (mkNatAdd x.t (mkNatLit 1))))] }
  | some ``Sem.handled =>
    unless (ar a 1).isConstOf (nq "Bool.false") do return { out := [(g, "handled")] }
    let hd ← XRun.kw (mkApp (cq "PySem.Around.handled") x.A)
    let tree := (mkApp (ar a 2) hd).headBeta
    return { go := [← stepAt g (nq "PySem.W.X.y_handled") (pre ++ #[S, (ar a 2)]) (wp tree S)] }
  | some ``Sem.stack =>
    let cp := mkApp2 (c2 "Prod") (cq "PySem.Code") (cq "PySem.Pos")
    let stOf (p below : Lean.Expr) := mkApp3 (c0 "List.cons") cp (mkApp4 (c2 "Prod.mk") (cq "PySem.Code") (cq "PySem.Pos") x.c p) below
    let ty ← withLocalDeclD `pS (cq "PySem.Pos") fun p => withLocalDeclD `belowS (mkApp (c0 "List") cp) fun below => do
      withLocalDeclD `lS (mkApp2 (cq "PySem.W.X.Lies") Au (stOf p below)) fun l => mkForallFVars #[p, below, l] (wp (mkApp (ar a 1) (stOf p below)).headBeta S)
    let g' ← stepAt g (nq "PySem.W.X.y_stack") (pre ++ #[S, (ar a 1)]) ty
    let (_, g2) ← g'.introNP 3
    return { go := [g2] }
  | some ``Sem.alloc =>
    let o ← nObj (ar a 1)
    let nE := XRun.newsE x.news
    let ty ← withLocalDeclD (Name.mkSimple s!"a{x.news.length}") (cq "Nat") fun ad => withLocalDeclD `hh (cq "PySem.Heap") fun h => do
      let D := mkApp4 (cq "Mine.Hp") b.h0 h x.vs (XRun.newsE ((ad, o) :: x.news))
      withLocalDeclD `DD D fun d => mkForallFVars #[ad, h, d] (wp (mkApp (ar a 2) ad).headBeta (x.with h x.t))
    let g' ← stepAt g (nq "Mine.h_alloc") (pre ++ #[b.h0, x.vs, nE] ++ stP ++ #[(ar a 1), (ar a 2), x.D, o, XRun.rflAt (cq "PySem.Obj") o, ff]) ty
    let (_, g2) ← g'.introNP 3
    return { go := [← stale b x g2] }
  | some ``Sem.update =>
    let ad ← XRun.addrOf (ar a 1)
    let nE := XRun.newsE x.news
    let tree := (mkApp (ar a 4) (cq "Unit.unit")).headBeta
    let some (i, o) := idxOf x ad | do
      unless XRun.litOf ad == some 40 do return { out := [(g, "update: not the call's own")] }
      let o := (mkApp (ar a 3) (mkApp (cq "PySem.W.X.tableObj") x.vs)).headBeta
      let some (l, h) ← XRun.settleTable o | return { out := [(g, "the table's growth")] }
      unless l.length == 3 do return { out := [(g, "the table's growth: another")] }
      let cA := (← nVal l[2]!).appArg!
      let some (i, oc) := idxOf x cA | return { out := [(g, "the table's growth: no code")] }
      let (ms, _, _) ← forallMetaTelescope (← inferType (mkConst `Mine.codeO))
      unless ← isDefEq (mkAppN (mkConst `Mine.codeO) ms) oc do return { out := [(g, "the table's growth: another code")] }
      let ms ← ms.mapM fun m => (instantiateMVars m : MetaM Lean.Expr)
      let vs' := mkApp (mkConst `Mine.tabOf) cA
      let goalTy ← mkEq o (mkApp (cq "PySem.W.X.tableObj") vs')
      let pf ← match h with
        | some h => mkExpectedTypeHint h goalTy
        | none => mkExpectedTypeHint (XRun.rflAt (cq "PySem.Obj") (mkApp (cq "PySem.W.X.tableObj") vs')) goalTy
      let ty ← withLocalDeclD `hh (cq "PySem.Heap") fun h => do
        withLocalDeclD `DD (mkApp4 (cq "Mine.Hp") b.h0 h vs' (XRun.newsE (x.news.eraseIdx i))) fun d => mkForallFVars #[h, d] (wp tree (x.with h x.t))
      let g' ← stepAt g (nq "Mine.h_regrow") (pre ++ #[b.h0, nE] ++ stP ++ #[(ar a 2), (ar a 3), (ar a 4), x.D, mkRawNatLit i, cA] ++ ms ++ #[XRun.atProof cA oc, pf]) ty
      let (_, g2) ← g'.introNP 2
      return { go := [← stale b x g2] }
    let (o', ho') ← nObjP (mkApp (ar a 3) o)
    let news := x.news.set i (ad, o')
    let ty ← withLocalDeclD `hh (cq "PySem.Heap") fun h => do
      withLocalDeclD `DD (mkApp4 (cq "Mine.Hp") b.h0 h x.vs (XRun.newsE news)) fun d => mkForallFVars #[h, d] (wp tree (x.with h x.t))
    let g' ← stepAt g (nq "Mine.h_update") (pre ++ #[b.h0, x.vs, nE] ++ stP ++ #[ad, (ar a 2), (ar a 3), (ar a 4), o, x.D, mkRawNatLit i, XRun.atProof ad o, o', ho', ff]) ty
    let (_, g2) ← g'.introNP 2
    return { go := [← stale b x g2] }
  | some ``Sem.call =>
    let c ← nCode (ar a 1)
    let hd ← XRun.kw (ar a 2)
    let nb := mkApp2 (c0 "Option.some") (cq "PySem.Value") (cq "PySem.byPass")
    let ne ← mkFreshExprSyntheticOpaqueMVar (← mkAppM (nq "Ne") #[hd, nb])
    unless ← runTac ne.mvarId! "first | (intro h; cases h) | simp [PySem.byPass] | decide" do return { out := [(g, "call: its mark")] }
    let A' := mkApp2 (cq "PySem.Around.mark") Au hd
    let R := mkAppN (cq "PySem.W.X.postR") #[x.al, b.prog, b.w, x.A, x.c, x.Q, x.E, (ar a 5)]
    let m ← mkFreshExprSyntheticOpaqueMVar (mkAppN (cq "PySem.codeAny") #[M, A', c, R, S])
    g.assign (mkAppN (cq "PySem.W.X.y_call") (pre ++ #[S, c, hd, (ar a 3), (ar a 4), (ar a 5), ne, m]))
    code m.mvarId! A' c R
  | some ``Sem.unsupported => return { out := [(g, s!"unsupported {(XRun.litStr t2.appArg!).getD "?"}")] }
  | _ =>
    -- stuck: past the notes, whatever comes
    let sk0 := if note then mkApp4 (cq "PySem.W.X.skim") x.al b.setting (mkRawNatLit 400) x.tree else x.tree
    let ops := opaqueNow ++ cf.opaques ++ keepQ cf.opaques fun n => some (XFast.stemOf n).1
    let facts ← eqFacts
    let E : SE := ⟨b, cf, g, x, facts⟩
    -- as the kernel sees it
    let pathK ← waits XRun.kw 100 t2r
    if let some (ctx, s) := pathK.head? then
      let isInt := match s.getAppFn with
        | .proj _ _ (.const on _) => [(nq "PySem.W.X.oLt"), (nq "PySem.W.X.oLe"), (nq "PySem.W.X.oEq")].contains on
        | _ => false
      let known := isInt || match s.getAppFn with
        | .proj _ _ (.const on _) => [(nq "PySem.W.X.oAd"), (nq "PySem.W.X.oEnvs"), (nq "PySem.W.X.oRoom"), (nq "PySem.W.X.oNear"), (nq "PySem.W.X.oOver"), (nq "PySem.W.X.oWarm")].contains on
        | _ => (s.find? fun y => y.isConstOf (nq "PySem.Params.followText") || (match y with | .proj ``Params _ _ => true | _ => false)).isSome
      if known then
        if let some d ← settle E ctx s then return d
        if let some d ← within E ctx s then return d
        if isInt then
          let lam ← withLocalDeclD `d (← inferType s) fun d => mkLambdaFVars #[d] (ctx d)
          if ← soundIf cf lam then
            if cf.split then if let some d ← parts E ctx s then return d
            unless cf.split do return { out := [(g, s!"decide {← ppExpr (← whnfD (← inferType s)).appArg!}")] }
    -- once more, the functions named left whole
    let (t3, path) ← shyLoop ops b.setting 2000 sk0
    if path.isEmpty then
      if ← XRun.isCtor t3 then
        let m ← mkFreshExprSyntheticOpaqueMVar (wp t3 S)
        g.assign m
        return { go := [m.mvarId!] }
      return { out := [(g, "stuck")] }
    if let some d ← findQ path fun (ctx, s) => settle E ctx s then return d
    if let some (ctx, s) := path.head? then
      -- a decision within
      let sub? := s.find? fun y => !y.hasLooseBVars && (y.isAppOfArity (nq "PySem.W.X.ltQ") 2 || y.isAppOfArity (nq "PySem.W.X.leQ") 2 || y.isAppOfArity (nq "PySem.W.X.eqQ") 2 || (match y.getAppFn with | .proj _ _ (.const on _) => y.getAppNumArgs == 2 && [(nq "PySem.W.X.oLt"), (nq "PySem.W.X.oLe"), (nq "PySem.W.X.oEq")].contains on | _ => false))
      if let some sub := sub? then
        let t := ctx s
        if let some d ← settle E (fun z => t.replace fun y => if y == sub then some z else none) sub then return d
      if let some d ← within E ctx s then return d
    if cf.split then
      if let some d ← findQ path fun (ctx, s) => parts E ctx s then return d
    return { out := [(g, "stuck at " ++ toString (← ppExpr (path.headD (id, x.tree)).2))] }

/-- the claims about runs, opened -/
def openRuns (e : Lean.Expr) : MetaM Lean.Expr := do
  let e := (← whnfR e).consumeMData
  if e.isAppOf `Mine.Runs || e.isAppOf `Mine.RunsB then
    let some (.defnInfo d) := (← getEnv).find? e.getAppFn.constName! | return e
    return (d.value.beta e.getAppArgs)
  return e
/-- an end that goes on: into the tree behind it -/
def intoTree (g : MVarId) : MetaM MVarId := g.withContext do
  let T := (← openRuns (← instantiateMVars (← g.getType))).consumeMData
  if T.isAppOfArity (nq "PySem.W.X.postR") 10 then
    let y := T.getAppArgs
    let tree := (mkApp (ar y 7) (ar y 8)).headBeta
    let M := mkApp2 (cq "PySem.model") (ar y 1) (ar y 2)
    let m ← mkFreshExprSyntheticOpaqueMVar (mkAppN (cq "PySem.wpOwn") #[(ar y 0), M, (ar y 3), (ar y 4), tree, (ar y 5), (ar y 6), (ar y 9)])
    g.assign (mkAppN (cq "PySem.W.X.y_ret") #[(ar y 0), (ar y 1), (ar y 2), (ar y 3), (ar y 4), (ar y 5), (ar y 6), (ar y 9), (ar y 7), (ar y 8), m])
    return m.mvarId!
  let m ← mkFreshExprSyntheticOpaqueMVar T
  g.assign m
  return m.mvarId!

/-- a bound on the walk's surroundings: n ≤ k -/
def roomLe (g : MVarId) : MetaM Bool := g.withContext do
  let T := (← instantiateMVars (← g.getType)).consumeMData
  unless T.isAppOfArity (nq "LE.le") 4 do return false
  let a := T.getAppArgs
  unless (← whnfR (ar a 0)).isConstOf (nq "Nat") do return false
  let (v, k) ← flatNat 200 (ar a 2) 0
  let sum ← mkAppM (nq "HAdd.hAdd") #[v, mkNatLit k]
  let le ← mkAppM (nq "LE.le") #[sum, (ar a 3)]
  if let some h ← roomBy v k (ar a 3) false then
    g.assign (← mkExpectedTypeHint h T)
    return true
  let some h ← tacOmega le | return false
  g.assign (← mkExpectedTypeHint h T)
  return true

/-- the goal in short -/
def freshCtx (g : MVarId) : MetaM MVarId := g.withContext do
  let lctx ← instantiateLCtxMVars (← getLCtx)
  let m ← mkFreshExprMVarAt lctx (← getLocalInstances) (← instantiateMVars (← g.getType)) .syntheticOpaque
  g.assign m
  return m.mvarId!

/-- a premise by a fact of the context -/
def byDecl (ok : Lean.Expr → Bool) (m : MVarId) (mt : Lean.Expr) : MetaM Bool := do
  return (← findQ (← declsQ).reverse fun d => do
    unless ok d.type && (← isDefEq mt d.type) do return none
    m.assign d.toExpr
    return some ()).isSome
inductive Use where
  | done
  | left
  | last
  | later
/-- a premise of a contract -/
def premise (n : Name) (b : Bs) (x : Go) (pass : Nat) (m : MVarId) : MetaM Use := do
  if ← m.isAssigned then return .done
  let mt ← instantiateMVars (← m.getType)
  unless ← isProp mt do return if pass == 2 then .left else .later
  if mt.isAppOf `Mine.FEnv then
    if ← runTac m "first | assumption | exact ⟨rfl, rfl, rfl, rfl⟩ | fail" then return .done
  let heapy (t : Lean.Expr) : Bool := t.isAppOfArity (nq "Mine.Hp") 4 || t.isAppOfArity (nq "PySem.W.Frag.In") 2
  let eq := mt.eq?
  let isGet (l r : Lean.Expr) : Bool := l.isAppOfArity (nq "PySem.Heap.get?") 2 && r.isAppOfArity (nq "Option.some") 2
  let isAt (l r : Lean.Expr) : Bool := l.isAppOf (nq "GetElem?.getElem?") && r.isAppOfArity (nq "Option.some") 2
  if pass == 1 then
    let first := heapy mt || (match eq with | some (_, l, r) => isGet l r || isAt l r | none => false)
    unless first do return .later
  if heapy mt then return if ← byDecl heapy m mt then .done else .left
  if let some (_, l, r) := eq then
    if isGet l r then
      if ← byDecl (fun t => match t.eq? with | some (_, l', _) => l'.isAppOfArity (nq "PySem.Heap.get?") 2 | none => false) m mt then return .done
      let some (o, ho) ← find b x (← XRun.addrOf l.appArg!) | throwError "use: {n}: an object that no fact names"
      unless ← isDefEq r.appArg! o do throwError "use: {n}: another object"
      m.assign (← mkExpectedTypeHint ho mt)
      return .done
    if isAt l r && r.appArg!.isAppOfArity (nq "Prod.mk") 4 then
      let y := r.appArg!.getAppArgs
      if let some (i, p) := idxOf x (ar y 2) then
        unless (← isDefEq (ar y 3) p) && (← isDefEq l.appArg! (mkRawNatLit i)) do throwError "use: {n}: another object or place"
        m.assign (← mkExpectedTypeHint (XRun.atProof (ar y 2) p) (← instantiateMVars mt))
        return .done
  if mt.isAppOfArity (nq "LE.le") 4 then
    if ← roomLe m then return .done
  if mt.isForall then return .last
  if mt.hasExprMVar then return if ← runTac m "first | assumption | solve_by_elim | constructor" then .done else .left
  match ← byFacts' mt with
  | some h => m.assign h; return .done
  | none => return .left
/-- a call by what is known of it; the rest of the walk is the first goal left -/
def useAt (n : Name) (g : MVarId) : MetaM (List MVarId) := g.withContext do
  let T ← openRuns (← instantiateMVars (← g.getType))
  let th ← match (← getLCtx).findFromUserName? n with
    | some d => pure d.toExpr
    | none => mkConstWithFreshMVarLevels n
  let (ms, _, ty) ← forallMetaTelescope (← instantiateMVars (← inferType th))
  unless ← isDefEq (← openRuns ty) T do throwError "use: the contract {n} does not fit"
  let some (h0, prog, w, x) ← readGo g | throwError "use: the goal"
  let b ← baseOf g h0 prog w
  let l := keepQ ms.toList fun m => some m.mvarId!
  let pass (k : Nat) (s : List MVarId × Option MVarId) : MetaM (List MVarId × Option MVarId) := foldQ l s fun (left, last) m => do
    match ← premise n b x k m with
    | .left => return (m :: left, last)
    | .last => return (left, some m)
    | _ => return (left, last)
  let (left, last) ← pass 2 (← pass 1 ([], none))
  g.assign (mkAppN th ms)
  let still ← mapQ left.reverse fun m => do return if ← m.isAssigned then none else some m
  let some l := last | return still
  let (_, l) ← l.introNP (← l.getType >>= instantiateMVars).getForallBinderNames.length
  let l ← freshCtx (← intoTree l)
  let l ← l.withContext do
    let some (h0', _, _, y) ← readGo l | return l
    unless y.D.isFVar do return l
    l.replaceLocalDeclDefEq y.D.fvarId! (mkApp4 (cq "Mine.Hp") h0' y.h y.vs (XRun.newsE y.news))
  return (← stale b x l) :: still
def use (n : Name) : TacticM Unit := do
  let g ← getMainGoal
  let rest := (← getGoals).tail!
  let l ← useAt n g
  setGoals (l ++ rest)

/-- the contracts for a code -/
def keyOf (c : Lean.Expr) : Option String :=
  if c.isAppOfArity (nq "PySem.Code.call") 2 then (match XRun.litOf (ag c 0).appArg! with | some n => some (toString n) | none => some "new") else if c.isAppOfArity (nq "PySem.Code.builtin") 2 then XRun.litStr (ag c 0) else if c.isAppOf (nq "PySem.Code.compStart") then some "compStart" else none
structure Todo where
  more : List MVarId := []
  out : List MVarId := []
/-- a halt: by a contract, if one fits -/
def haltQ (cf : Cfg) (s : Todo) (g' : MVarId) : MetaM Todo := do
  let c := (← instantiateMVars (← g'.getType)).consumeMData.getAppArgs[3]!
  let key := keyOf c
  let r ← findQ (keepQ cf.auto fun (k, cn) => if key == some k then some cn else none) fun cn => do
    let saved ← saveState
    try return some (← useAt cn g')
    catch _ => saved.restore; return none
  match r with
  | some [] => return s
  | some (l :: r) =>
    let lt := (← instantiateMVars (← l.getType)).consumeMData
    if lt.isAppOfArity (nq "PySem.wpOwn") 8 && (ag lt 4).isAppOfArity (nq "PySem.denote") 2 && isStop cf (ag lt 3) then return { s with out := s.out ++ l :: r }
    return { more := s.more ++ [l], out := s.out ++ r }
  | none =>
    if (c.isAppOfArity (nq "PySem.Code.builtin") 2 || c.isAppOf (nq "PySem.Code.compStart")) && !(match key with | some k => cf.ids.contains k | none => false) then return { s with more := s.more ++ [g'] }
    return { s with out := s.out ++ [g'] }
/-- the walk -/
def walkQ (b : Bs) (cf : Cfg) : Nat → List MVarId → List MVarId → MetaM (List MVarId) := fixQ (fun l out => return out ++ l) fun go todo out => do match todo with
  | [] => return out
  | g :: todo =>
    let some (_, _, _, x) ← readGo g | go todo (out ++ [g])
    if cf.most > 0 && !x.tree.isAppOfArity (nq "PySem.denote") 2 then
      if let some (g', _) ← stretch b cf g x then
        if (← readGo g').isSome then return ← go (g' :: todo) out
        let T := (← instantiateMVars (← g'.getType)).consumeMData
        return ← if T.isAppOfArity (nq "PySem.W.X.postR") 10 then do go ((← intoTree g') :: todo) out else go todo (out ++ [g'])
    let d ← stepOne b cf g x
    let s ← foldQ d.out ({} : Todo) fun s (g', why) => do if why == "stop" then haltQ cf s g' else return { s with out := s.out ++ [g'] }
    go (d.go ++ s.more ++ todo) (out ++ s.out)
def driveM (cf : Cfg) (g0 : MVarId) : MetaM (List MVarId) := do
  let g0 ← freshCtx (← intoTree g0)
  let some (h0, prog, w, _) ← readGo g0 | throwError "drive: the goal"
  let b ← baseOf g0 h0 prog w
  walkQ b cf cf.fuel [g0] []
def drive (cf : Cfg) : TacticM Unit := do
  let g0 ← getMainGoal
  let rest := (← getGoals).tail!
  setGoals ((← driveM cf g0) ++ rest)
/-- a False of the context closes the goal -/
def noWay (n : Name) : TacticM Unit := do
  let g ← getMainGoal
  g.withContext do
    let d ← getLocalDeclFromUserName n
    g.assign (mkApp2 (mkConst (nq "False.elim") [.zero]) (← g.getType) d.toExpr)
  replaceMainGoal []
end Mine
end
section
set_option maxRecDepth 100000
set_option genInjectivity false
set_option genSizeOf false
set_option compiler.extract_closed false
set_option compiler.reuse false
set_option Elab.async false
namespace Mine
open Lean Meta Elab Tactic PySem PySem.W PySem.W.X
structure Ls where
  pairs : Array (Lean.Expr × Lean.Expr) := #[]
  met : MetMap := {}
def letterOf (a : Lean.Expr) : StateRefT Ls MetaM Lean.Expr := do
  match (← get).pairs.find? (·.1 == a) with
  | some (_, y) => return y
  | none =>
    let y := mkFVar (← mkFreshFVarId)
    modify fun s => { s with pairs := s.pairs.push (a, y) }
    return y
abbrev LsM := StateRefT Ls MetaM
/-- an application, some of its arguments otherwise -/
def spineQ (go : Lean.Expr → LsM Lean.Expr) (other : Nat → Lean.Expr → LsM (Option Lean.Expr)) (e : Lean.Expr) : LsM Lean.Expr := do match e with
  | .app f a =>
    let f' ← spineQ go other f
    let a' ← other f.getAppNumArgs a
    return mkApp f' (← match a' with | some x => pure x | none => go a)
  | f => go f
/-- sizes, tokens, hashes and sums in an object, as letters -/
def loosen (sums keys : Bool) : Nat → Lean.Expr → LsM Lean.Expr := fixQ (fun e => return e) fun go e => do
    unless e.hasFVar do return e
    if let some m := (← get).met.get e then return m.e
    let r ← (match e with
      | .app .. => do
        let n := e.getAppFn.constName?.getD `no
        let k := e.getAppNumArgs
        let num := n == (nq "PySem.Value.int")
        let two := k == 2 && (num || n == (nq "PySem.Value.str") || n == (nq "PySem.Data.dict") || n == (nq "PySem.Data.seq"))
        let ent := k == 3 && n == (nq "PySem.DictEntry.mk")
        if !two && !ent then spineQ go (fun _ _ => return none) e else
        spineQ go (fun i a => do
          if keys && ent && i == 1 && a.isAppOfArity (nq "PySem.Value.str") 2 && a.appArg!.isFVar then return some (mkApp a.appFn! (← letterOf a.appArg!))
          if !e.hasLooseBVars && a.hasFVar && !a.isFVar && ((two && (i == 1 || (sums && num && a.isAppOf (nq "HAdd.hAdd")))) || (ent && i == 0)) then return some (← letterOf a)
          return none) e
      | .lam n t b bi => return .lam n (← go t) (← go b) bi
      | .forallE n t b bi => return .forallE n (← go t) (← go b) bi
      | .letE n t v b nd => return .letE n (← go t) (← go v) (← go b) nd
      | .mdata m b => return .mdata m (← go b)
      | .proj s i b => return .proj s i (← go b)
      | _ => return e)
    modify fun s => { s with met := s.met.put e { e := r } }
    return r
/-- the news without some -/
def subQ (pT nl : Lean.Expr) (drop : List Nat) (i : Nat) (l : List (Lean.Expr × Lean.Expr)) : MetaM (Lean.Expr × Lean.Expr × Lean.Expr) := do match l with
  | [] => return (← mkAppOptM (nq "List.Sublist.refl") #[pT, nl], nl, nl)
  | (u, o) :: r =>
    let (pf, l, l0) ← subQ pT nl drop (i + 1) r
    let y := mkApp4 (c2 "Prod.mk") (cq "Nat") (cq "PySem.Obj") u o
    let cons := mkApp2 (c0 "List.cons") pT y
    if drop.contains i then return (mkAppN (c0 "List.Sublist.cons") #[pT, l, l0, y, pf], l, mkApp cons l0)
    return (mkAppN (c0 "List.Sublist.cons_cons") #[pT, l, l0, y, pf], mkApp cons l, mkApp cons l0)
def lessQ (drop : List Nat) (x : Go) (g : MVarId) : MetaM (Lean.Expr × Lean.Expr) := g.withContext do
  let hD ← instantiateMVars (← inferType x.D)
  if drop.isEmpty then return (x.D, hD)
  let a := hD.getAppArgs
  let pT := (ar a 3).appFn!.appFn!.appArg!
  let (pf, l, _) ← subQ pT (mkApp (c0 "List.nil") pT) drop 0 x.news
  return (mkAppN (cq "Mine.Hp.less") #[(ar a 0), (ar a 1), (ar a 2), (ar a 3), l, x.D, pf], mkAppN hD.getAppFn #[(ar a 0), (ar a 1), (ar a 2), l])
/-- the letters that the types of letters speak of, too -/
def needQ (own : List FVarId) (fuel : Nat) (need : List FVarId) : MetaM (List FVarId) := do match fuel with
  | 0 => return need
  | fuel + 1 =>
    let more ← mapQ need fun f => do return some (keepQ (collectFVars {} (← instantiateMVars (← f.getType))).fvarIds.toList fun f' => if own.contains f' && !need.contains f' then some f' else none)
    needQ own fuel (need ++ more.flatten.eraseDups)
def addLetters (l : List (Lean.Expr × Lean.Expr)) (c : LocalContext) : MetaM LocalContext := foldQ l c fun c (a, y) => do return c.mkLocalDecl y.fvarId! `k (← inferType a)
def exprsOf (l : List FVarId) : Array Lean.Expr := (keepQ l fun f => some (mkFVar f)).toArray
/-- two goals of one walk become one -/
def joinM (sums keys : Bool) (drop drop2 : List Nat) (g1 g2 : MVarId) : MetaM MVarId := do
  let some (_, _, _, x1) ← readGo g1 | throwError "joinQ: the first goal"
  let some (_, _, _, x2) ← readGo g2 | throwError "joinQ: the second goal"
  let l2 := (← g2.getDecl).lctx
  g1.withContext do
    let own := keepQ (← declsQ) fun d => if l2.contains d.fvarId then none else some d
    let ids := keepQ own fun d => some d.fvarId
    let (D1, hD) ← lessQ drop x1 g1
    let T ← mkArrow hD (← instantiateMVars (← g1.getType)).consumeMData
    -- sizes and tokens
    let (T, ls) ← (loosen sums keys 10000 T).run {}
    let t := x1.t
    let lctx0 ← getLCtx
    let insts ← getLocalInstances
    let flat := t.isFVar || t.isRawNatLit
    let yt := mkFVar (← mkFreshFVarId)
    let pairs := ls.pairs.toList ++ if flat then [] else [(t, yt)]
    let lctx ← addLetters pairs lctx0
    let T := if flat then T else T.replace fun z => if z == t then some yt else none
    -- the letters
    let need ← needQ ids 3 (keepQ (collectFVars {} T).fvarIds.toList fun f => if ids.contains f then some f else none)
    let Ls := exprsOf (keepQ ids fun f => if need.contains f then some f else none) ++ (keepQ pairs fun p => some p.2).toArray
    let T0 ← withLCtx lctx insts (mkForallFVars Ls T)
    g2.withContext do
      let (D2, hD2) ← lessQ drop2 x2 g2
      let T2 ← mkArrow hD2 (← instantiateMVars (← g2.getType)).consumeMData
      let (ms, _, T') ← forallMetaBoundedTelescope T0 Ls.size
      unless ← withReducible (isDefEq T' T2) do throwError "joinQ: {T'.bindingDomain!}\nand\n{hD2}"
      let ms := (← mapQ ms.toList fun m => do return some (← instantiateMVars m)).toArray
      let ds2 ← mapQ (← declsQ) fun d => do return some (← instantiateMVars d.type, d.toExpr)
      -- the facts that both have
      let facts ← mapQ own fun d => do
        if mkFVar d.fvarId == x1.D || need.contains d.fvarId then return none
        let t ← instantiateMVars d.type
        unless ← withLCtx lctx0 insts (isProp t) do return none
        let t := t.replace fun z => if z.isFVar then none else pickQ pairs fun (a, y) => if a == z then some y else none
        if (pickQ (collectFVars {} t).fvarIds.toList fun f => if ids.contains f && !need.contains f then some () else none).isSome then return none
        let t2 := t.replaceFVars Ls ms
        return pickQ ds2 fun (u, p) => if u == t2 then some (d.toExpr, t, p) else none
      let T := facts.foldr (fun (_, t, _) r => Lean.mkForall `hj .default t r) T
      let J ← withLCtx lctx insts do mkForallFVars Ls T
      let lc := ids.foldr (fun f l => l.erase f) lctx0
      let j ← withLCtx lc insts (mkFreshExprSyntheticOpaqueMVar J)
      g1.assign (mkApp (mkAppN (mkAppN j (exprsOf (keepQ ids fun f => if need.contains f then some f else none) ++ (keepQ pairs fun p => some p.1).toArray)) (keepQ facts fun f => some f.1).toArray) D1)
      g2.assign (mkApp (mkAppN (mkAppN j ms) (keepQ facts fun f => some f.2.2).toArray) D2)
      let (_, g) ← j.mvarId!.introNP (Ls.size + facts.length)
      let (_, g) ← g.intro `DD
      return g
def joinQ (sums : Bool := false) (drop : List Nat := []) (drop2 : List Nat := drop) (keys : Bool := true) : TacticM Unit := do
  let g1 :: g2 :: rest ← getGoals | throwError "joinQ: two goals"
  setGoals ((← joinM sums keys drop drop2 g1 g2) :: rest)
end Mine
end
section
open PySem PySem.W PySem.W.X PyProof.Rows
set_option maxRecDepth 100000
set_option maxHeartbeats 4000000
set_option Elab.async false
set_option linter.unusedVariables false
namespace Mine
noncomputable abbrev At (dp un : Nat) (fr : List Env) (gd : List Code) : Around := ⟨none, dp, some fr, some gd, un⟩
@[irreducible] noncomputable def Runs (w : World) (dp un : Nat) (fr : List Env) (gd : List Code) (f : Nat) (args : List Value) (R : Result → Shared → Prop) (s : Shared) : Prop :=
  wpOwn (model P w) (At dp un fr gd) (.call (.ref f) ⟨args, []⟩) (denote table (.call (.ref f) ⟨args, []⟩)) (postC P w (At dp un fr gd) R) (postE R) s

theorem bits_eq (v : Int) : bitsQ v = Builtin.Int.intBits v := by rw [bitsQ_eq]
theorem rec_decide {p : Prop} (d : Decidable p) (i : Decidable p) : (Decidable.rec (motive := fun _ => Bool) (fun _ => false) (fun _ => true) d : Bool) = @decide p i := by
  run_tac sqIn
  cases d with
  | isTrue h => exact (decide_eq_true h).symm
  | isFalse h => exact (decide_eq_false h).symm
  run_tac sqOut
theorem pylong (x y : Int) (h1 : -18446744073709551616 < y) (h2 : y < 18446744073709551616) : XFast.xw7071017458820068454 x y = false := by
  run_tac sqIn
  rw [← XFast.xe7071017458820068454]
  have : (if y == 0 then 0 else y.natAbs.log2 / 30 + 1) ≤ 300 := by
    split
    · (run_tac om)
    · rename_i hy
      have hy : y ≠ 0 := by simpa using hy
      have : y.natAbs.log2 < 64 := (Nat.log2_lt (by (run_tac om))).mpr (by (run_tac om))
      (run_tac om)
  unfold Builtin.divisionGoesByPylong
  simp only [Bool.and_eq_false_iff, decide_eq_false_iff_not]
  left
  (run_tac om)
  run_tac sqOut
section
variable {w : World} {h : Heap} {vs : Array Value} {g : Array GenState} {d : Drawn} {t : Nat} {os : OsState} {dp un : Nat} {fr : List Env} {gd : List Code} {R : Result → Shared → Prop}

theorem K40 : (K w.params).lookup 40 = none := by kernel_rfl

theorem high_bit (X : (K w.params).In h) (D : Hp h h vs []) (hdp : dp ≤ 600) (hun : un ≤ 5000)
    (v : Int) (tv : Tok) (hR : ∀ b tk h' t', b = (Builtin.Int.intBits v : Int) - 1 → Hp h h' vs [] → R (.ok (.ret (.int b tk))) ⟨h', g, d, t', os⟩) :
    Runs w dp un fr gd 66 [.int v tv] R ⟨h, g, d, t, os⟩ := by
  run_tac sqIn
  run_tac drive {}
  exact hR _ _ _ _ (by rw [bits_eq]) (Hp.less (by assumption) (List.nil_sublist _))
  run_tac sqOut
noncomputable def singleBit (v : Int) : Bool := if v = 0 then false else decide (Builtin.bitAnd v (v - 1) = 0)
theorem single_bit (X : (K w.params).In h) (D : Hp h h vs []) (hdp : dp ≤ 600) (hun : un ≤ 5000)
    (v : Int) (tv : Tok) (hR : ∀ b h' t' , b = singleBit v → Hp h h' vs [] → R (.ok (.ret (.bool b))) ⟨h', g, d, t', os⟩) :
    Runs w dp un fr gd 59 [.int v tv] R ⟨h, g, d, t, os⟩ := by
  run_tac sqIn
  run_tac drive { split := true}
  · rw [show false = singleBit v by unfold singleBit; rw [if_pos (by assumption)]]
    exact hR _ _ _ rfl (Hp.less (by assumption) (List.nil_sublist _))
  · rw [rec_decide _ inferInstance, ← XFast.xe4806658248164788318, show decide (Builtin.bitAnd v (v - 1) = 0) = singleBit v by unfold singleBit; rw [if_neg (by assumption)]]
    exact hR _ _ _ rfl (Hp.less (by assumption) (List.nil_sublist _))
  run_tac sqOut
noncomputable def isScalar (v : Int) : Bool := decide ((0 ≤ v ∧ v ≤ 55295) ∨ (57344 ≤ v ∧ v ≤ 1114111))
theorem scalar (X : (K w.params).In h) (D : Hp h h vs []) (hdp : dp ≤ 600) (hun : un ≤ 5000)
    (v : Int) (tv : Tok) (hR : ∀ b h' t' , b = isScalar v → Hp h h' vs [] → R (.ok (.ret (.bool b))) ⟨h', g, d, t', os⟩) :
    Runs w dp un fr gd 52 [.int v tv] R ⟨h, g, d, t, os⟩ := by
  run_tac sqIn
  run_tac drive { split := true}
  all_goals (first | rw [rec_decide _ inferInstance] | skip)
  · rw [show true = isScalar v by unfold isScalar; symm; rw [decide_eq_true_eq]; (run_tac om)]
    exact hR _ _ _ rfl (Hp.less (by assumption) (List.nil_sublist _))
  · rw [show decide (v ≤ 1114111) = isScalar v by unfold isScalar; rw [decide_eq_decide]; (run_tac om)]
    exact hR _ _ _ rfl (Hp.less (by assumption) (List.nil_sublist _))
  · rw [show false = isScalar v by unfold isScalar; symm; rw [decide_eq_false_iff_not]; (run_tac om)]
    exact hR _ _ _ rfl (Hp.less (by assumption) (List.nil_sublist _))
  · rw [show false = isScalar v by unfold isScalar; symm; rw [decide_eq_false_iff_not]; (run_tac om)]
    exact hR _ _ _ rfl (Hp.less (by assumption) (List.nil_sublist _))
  run_tac sqOut
variable {h₀ : Heap} {news : List (Addr × Obj)}
theorem high_bit' (X : (K w.params).In h₀) (D : Hp h₀ h vs news) (hdp : dp ≤ 600) (hun : un ≤ 5000)
    (v : Int) (tv : Tok) (hR : ∀ b tk h' t', b = (Builtin.Int.intBits v : Int) - 1 → Hp h₀ h' vs news → R (.ok (.ret (.int b tk))) ⟨h', g, d, t', os⟩) :
    Runs w dp un fr gd 66 [.int v tv] R ⟨h, g, d, t, os⟩ := high_bit (D.inFrag X K40) D.here hdp hun v tv fun b tk h' t' e D' => hR b tk h' t' e (D.trans D')
theorem high_bit_pos (X : (K w.params).In h₀) (D : Hp h₀ h vs news) (hdp : dp ≤ 600) (hun : un ≤ 5000)
    (v : Int) (tv : Tok) (hv : 0 < v) (hR : ∀ (k : Nat) tk h' t', k = Nat.log2 v.toNat → (2 : Int) ^ k ≤ v → v < 2 ^ (k + 1) → Hp h₀ h' vs news → R (.ok (.ret (.int (k : Int) tk))) ⟨h', g, d, t', os⟩) :
    Runs w dp un fr gd 66 [.int v tv] R ⟨h, g, d, t, os⟩ := by
  run_tac sqIn
  refine high_bit' X D hdp hun v tv fun b tk h' t' e D' => ?_
  obtain ⟨m, rfl⟩ := Int.eq_ofNat_of_zero_le (Int.le_of_lt hv)
  have hm : m ≠ 0 := by (run_tac om)
  have e2 : b = ((Nat.log2 m : Nat) : Int) := by
    rw [e]; unfold Builtin.Int.intBits
    have : ((m : Int) == 0) = false := by simp; exact hm
    rw [this]; simp
  subst e2
  have p1 := Nat.log2_self_le hm
  have p2 := Nat.lt_log2_self (n := m)
  exact hR _ _ _ _ (by simp) (by exact_mod_cast p1) (by exact_mod_cast p2) D'
  run_tac sqOut
theorem single_bit' (X : (K w.params).In h₀) (D : Hp h₀ h vs news) (hdp : dp ≤ 600) (hun : un ≤ 5000)
    (v : Int) (tv : Tok) (hR : ∀ b h' t', b = singleBit v → Hp h₀ h' vs news → R (.ok (.ret (.bool b))) ⟨h', g, d, t', os⟩) :
    Runs w dp un fr gd 59 [.int v tv] R ⟨h, g, d, t, os⟩ := single_bit (D.inFrag X K40) D.here hdp hun v tv fun b h' t' e D' => hR b h' t' e (D.trans D')
theorem scalar' (X : (K w.params).In h₀) (D : Hp h₀ h vs news) (hdp : dp ≤ 600) (hun : un ≤ 5000)
    (v : Int) (tv : Tok) (hR : ∀ b h' t', b = isScalar v → Hp h₀ h' vs news → R (.ok (.ret (.bool b))) ⟨h', g, d, t', os⟩) :
    Runs w dp un fr gd 52 [.int v tv] R ⟨h, g, d, t, os⟩ := scalar (D.inFrag X K40) D.here hdp hun v tv fun b h' t' e D' => hR b h' t' e (D.trans D')
end
end Mine
end
section
open PySem PySem.W PySem.W.X PyProof.Rows
set_option maxRecDepth 100000
set_option maxHeartbeats 4000000
set_option Elab.async false
set_option linter.unusedVariables false
namespace Mine
section
variable {w : World} {h h₀ : Heap} {vs : Array Value} {g : Array GenState} {d : Drawn} {t : Nat} {os : OsState} {R : Result → Shared → Prop} {A : Around} {news : List (Addr × Obj)}
@[irreducible] noncomputable def RunsB (w : World) (A : Around) (id : String) (args : List Value) (R : Result → Shared → Prop) (s : Shared) : Prop :=
  wpOwn (model P w) A (.builtin id ⟨args, []⟩) (denote table (.builtin id ⟨args, []⟩)) (postC P w A R) (postE R) s
theorem of_builtin {id : String} {b : Builtin} {args : List Value} {s : Shared} (he : entryFor table id = some b)
    (x : wpAny (model P w) (A.under (.builtin id ⟨args, []⟩)) (b ⟨args, []⟩) (postC P w A R) (postE R) s) : RunsB w A id args R s := by
  run_tac sqIn
  have e : denote table (.builtin id ⟨args, []⟩) = b ⟨args, []⟩ := by
    show (match entryFor table id with | some b => b ⟨args, []⟩ | none => _) = _
    rw [he]
  unfold RunsB
  rw [e]
  exact wpOwn_of_wpAny x
  run_tac sqOut
theorem of_meets {id : String} {b : Builtin} {args : List Value} {s : Shared} {S : PySem.Spec} (he : entryFor table id = some b) (hp : plainId id = true) (hm : Meets (b ⟨args, []⟩) S) (x : S A R s) : RunsB w A id args R s := by
  run_tac sqIn
  refine of_builtin he ?_
  rw [Around.under_plainId hp]
  refine wpAny_mono (hm P w A R s x) (fun fin s' h => ?_) (fun _ _ h => h)
  cases fin <;> exact h
  run_tac sqOut
theorem of_gives {id : String} {b : Builtin} {args : List Value} {s : Shared} {m : Made} (he : entryFor table id = some b) (hp : plainId id = true) (hm : Gives (b ⟨args, []⟩) m) (x : m.post (fun v s' => R (.ok (.ret v)) s') s) : RunsB w A id args R s := by
  run_tac sqIn
  refine of_builtin he ?_
  rw [Around.under_plainId hp]
  refine wpAny_mono (hm P w A R s x) (fun fin s' h => ?_) (fun _ _ h => h)
  cases fin <;> exact h
  run_tac sqOut
theorem joined_one (v : Value) (k : Nat) (a : Array Value) : List.foldl (fun x1 x2 => x1 ++ x2) a (List.replicate k (⟨[v]⟩ : Array Value)) = a ++ ⟨List.replicate k v⟩ := by
  run_tac sqIn
  induction k generalizing a with
  | zero => simp
  | succ k ih =>
    rw [List.replicate_succ, List.foldl_cons, ih, List.replicate_succ]
    apply Array.ext'
    simp only [Array.toList_append, List.append_assoc, List.singleton_append]
  run_tac sqOut
theorem list_mul {l : Addr} {e : Nat} {v : Value} {x : Int} {tk : Tok} (D : Hp h₀ h vs news) (hl : h.get? l = some (listO [v] e)) (h0 : 0 ≤ x) (hn : x ≤ 100)
    (hR : ∀ rm h', Hp h₀ h' vs ((rm, listO (List.replicate x.toNat v) 0) :: news) → R (.ok (.ret (.ref rm))) ⟨h', g, d, t, os⟩) :
    RunsB w A "list.__mul__" [.ref l, .int x tk] R ⟨h, g, d, t, os⟩ := by
  run_tac sqIn
  have hz : (⟨[v]⟩ : Array Value).size = 1 := rfl
  have hm := AutoListH.list___mul___list_int_3 l ⟨[v]⟩ e x tk (by simp [Builtin.List.listFitsIndex]; (run_tac om)) (by rw [hz]; (run_tac om)) (by rw [hz]; simp [Builtin.List.listTooLong, sizeLine]; (run_tac om))
  refine of_meets F.entry_list_mul (by decide +kernel) hm ⟨hl, ?_⟩
  rw [if_neg (by simp), joined_one, show (#[] : Array Value) ++ ⟨List.replicate x.toNat v⟩ = ⟨List.replicate x.toNat v⟩ by apply Array.ext'; simp only [Array.toList_append, List.nil_append]]
  have := hR h.objs.size _ (D.alloc (o := listO (List.replicate x.toNat v) 0) rfl)
  exact this
  run_tac sqOut
end
end Mine
end
section
open PySem PySem.W PySem.W.X PyProof.Rows
set_option maxRecDepth 100000
set_option maxHeartbeats 4000000
set_option Elab.async false
set_option linter.unusedVariables false
namespace Mine
section
variable {w : World} {h h₀ : Heap} {vs : Array Value} {g : Array GenState} {d : Drawn} {t : Nat} {os : OsState} {dp un : Nat} {fr : List Env} {gd : List Code} {R : Result → Shared → Prop} {news : List (Addr × Obj)}
theorem pow2 (X : (K w.params).In h₀) (D : Hp h₀ h vs news) (hdp : dp ≤ 700) (hun : un ≤ 7000) {t1 t2 : Tok} {x : Int} (h0 : 0 ≤ x) (h1 : x < 64)
    (hR : ∀ k tk h' t', k = 2 ^ x.toNat → Hp h₀ h' vs news → R (.ok (.ret (.int k tk))) ⟨h', g, d, t', os⟩) : RunsB w (At dp un fr gd) "int.__pow__" [.int 2 t1, .int x t2] R ⟨h, g, d, t, os⟩ := by
  run_tac sqIn
  have hb2 : bitsQ 2 = 2 := by rw [bits_eq]; decide
  have X' := D.inFrag X K40
  have D' := D.here
  run_tac drive { split := true }
  · have q : x = 0 := by assumption
    have e : (1 : Int) = 2 ^ x.toNat := by rw [q]; rfl
    exact hR _ _ _ _ e (D.trans DD)
  · exact hR _ _ _ _ rfl (D.trans DD)
  run_tac sqOut
noncomputable abbrev enumO (it : Addr) (tup : Value) (b : Bool) (n : Int) : Obj := ⟨.type "enumerate", none, .fields ⟨[tup, .bool b, .ref it, .int n 0, .none, .none]⟩, ⟨[]⟩⟩
variable {A : Around}
noncomputable abbrev iterL (l : Addr) (i : Int) : Obj := ⟨.type "list_iterator", none, .fields ⟨[.ref l, .int i 0]⟩, ⟨[]⟩⟩
theorem enum_new {l : Addr} {items : List Value} {e : Nat} (D : Hp h₀ h vs news) (hl : h.get? l = some (listO items e))
    (hR : ∀ ei en h', Hp h₀ h' vs ((en, enumO ei .none false 0) :: (ei, iterL l 0) :: news) → R (.ok (.ret (.ref en))) ⟨h', g, d, t, os⟩) :
    RunsB w A "enumerate.__new__" [.type "enumerate", .ref l] R ⟨h, g, d, t, os⟩ :=
  of_meets F.entry_enumerate_new (by decide +kernel) (meets_enumerate_newL l ⟨items⟩ e none ⟨[]⟩) ⟨hl, hR h.objs.size _ _ ((D.alloc (o := iterL l 0) rfl).alloc (o := enumO h.objs.size .none false 0) rfl)⟩
theorem str_item {x : Str} {tx ti : Tok} {i : Int} {c : Nat} (D : Hp h₀ h vs news) (h0 : 0 ≤ i) (h1 : i < 1000) (hx : x.cps[i.toNat]? = some c)
    (hR : ∀ tc h' t', Hp h₀ h' vs news → R (.ok (.ret (.str ⟨⟨[c]⟩⟩ tc))) ⟨h', g, d, t', os⟩) : RunsB w A "str.__getitem__" [.str x tx, .int i ti] R ⟨h, g, d, t, os⟩ := by
  run_tac sqIn
  refine of_gives F.entry_str_getitem (by decide +kernel) (gives_str_getitem x i tx ti c ?_ ?_) ⟨?_, hR _ _ _ D⟩
  · simp; (run_tac om)
  · obtain ⟨n, rfl⟩ := Int.eq_ofNat_of_zero_le h0
    have hl : n < x.length := by
      have := (Array.getElem?_eq_some_iff.mp hx).1
      show n < x.cps.size
      simpa using this
    have : seqIndex? (n : Int) x.length = some n := by
      unfold seqIndex?
      simp; (run_tac om)
    rw [this]; simpa using hx
  · show 1 ≤ sizeLine; decide
  run_tac sqOut
/-- a list's items are these signs -/
inductive Chars : List Value → List Nat → Prop
  | nil : Chars [] []
  | cons {l : List Value} {cs : List Nat} (c : Nat) (tk : Tok) : Chars l cs → Chars (.str ⟨⟨[c]⟩⟩ tk :: l) (c :: cs)
theorem Chars.append {l l' : List Value} {cs cs' : List Nat} (a : Chars l cs) (b : Chars l' cs') : Chars (l ++ l') (cs ++ cs') := by
  run_tac sqIn
  induction a with
  | nil => exact b
  | cons c tk _ ih => exact .cons c tk ih
  run_tac sqOut
theorem Chars.one (c : Nat) (tk : Tok) : Chars [.str ⟨⟨[c]⟩⟩ tk] [c] := .cons c tk .nil
theorem Chars.length {l : List Value} {cs : List Nat} (a : Chars l cs) : l.length = cs.length := by
  run_tac sqIn
  induction a with
  | nil => rfl
  | cons c tk _ ih => simp [ih]
  run_tac sqOut
theorem Chars.pairs {l : List Value} {cs : List Nat} (a : Chars l cs) : ∃ ps : List (Str × Tok), l = strValues ps ∧ ps.map (·.1) = cs.map fun c => ⟨⟨[c]⟩⟩ := by
  run_tac sqIn
  induction a with
  | nil => exact ⟨[], rfl, rfl⟩
  | cons c tk _ ih =>
    obtain ⟨ps, e1, e2⟩ := ih
    exact ⟨(⟨⟨[c]⟩⟩, tk) :: ps, by rw [e1]; rfl, by rw [List.map_cons, List.map_cons, e2]⟩
  run_tac sqOut
theorem glued_chars (cs : List Nat) : Builtin.Str.glued ⟨⟨[]⟩⟩ (cs.map fun c => (⟨⟨[c]⟩⟩ : Str)) = ⟨⟨cs⟩⟩ := by
  run_tac sqIn
  have key : ∀ (l : List Nat) (a : Array Nat), (l.map fun c => (⟨⟨[c]⟩⟩ : Str)).foldl (fun acc p => acc ++ (⟨[]⟩ : Array Nat) ++ p.cps) a = a ++ ⟨l⟩ := by
    intro l
    induction l with
    | nil => intro a; apply Array.ext'; simp
    | cons c l ih => intro a; rw [List.map_cons, List.foldl_cons, ih]; apply Array.ext'; simp
  unfold Builtin.Str.glued
  cases cs with
  | nil => rfl
  | cons c cs =>
    show (⟨((cs.map fun c => (⟨⟨[c]⟩⟩ : Str))).foldl (fun acc p => acc ++ (⟨[]⟩ : Array Nat) ++ p.cps) ⟨[c]⟩⟩ : Str) = _
    rw [key]
    congr 1
    apply Array.ext'; simp
  run_tac sqOut
theorem join_sum (cs : List Nat) (a : Nat) : (cs.map fun c => (⟨⟨[c]⟩⟩ : Str)).foldl (fun n p => n + p.length + (⟨⟨[]⟩⟩ : Str).length) a = a + cs.length := by
  run_tac sqIn
  induction cs generalizing a with
  | nil => simp
  | cons c cs ih => rw [List.map_cons, List.foldl_cons, ih]; show a + 1 + 0 + cs.length = _; simp; (run_tac om)
  run_tac sqOut
theorem join_chars {l : Addr} {out : List Value} {cs : List Nat} {e : Nat} {st : Tok} (D : Hp h₀ h vs news) (hl : h.get? l = some (listO out e)) (hc : Chars out cs) (hn : cs.length ≤ 100)
    (hR : ∀ tj h' t', Hp h₀ h' vs news → R (.ok (.ret (.str ⟨⟨cs⟩⟩ tj))) ⟨h', g, d, t', os⟩) : RunsB w A "str.join" [.str ⟨⟨[]⟩⟩ st, .ref l] R ⟨h, g, d, t, os⟩ := by
  run_tac sqIn
  obtain ⟨ps, rfl, e2⟩ := hc.pairs
  have hsz : Builtin.Str.tooLong ((ps.map (·.1)).toArray.foldl (fun n p => n + p.length + (⟨⟨[]⟩⟩ : Str).length) 0) = false := by
    rw [e2, List.foldl_toArray, join_sum]
    simp [Builtin.Str.tooLong, sizeLine]; (run_tac om)
  refine of_meets F.entry_str_join (by decide +kernel) (meets_str_join_list ⟨⟨[]⟩⟩ st l ps hsz) ⟨⟨_, hl, rfl, e, rfl⟩, ?_⟩
  have big : cs.length ≤ sizeLine := by simp [sizeLine]; (run_tac om)
  cases ps with
  | nil =>
    obtain rfl : cs = [] := by cases cs with | nil => rfl | cons c cs => simp at e2
    exact ⟨by show 0 ≤ _; (run_tac om), hR _ _ _ D⟩
  | cons p ps =>
    cases ps with
    | nil =>
      obtain ⟨c, rfl⟩ : ∃ c, cs = [c] := by
        cases cs with
        | nil => simp at e2
        | cons c cs => cases cs with | nil => exact ⟨c, rfl⟩ | cons c' cs => simp at e2
      obtain ⟨x, tk⟩ := p
      have : x = ⟨⟨[c]⟩⟩ := by simpa using e2
      subst this
      exact hR _ _ _ D
    | cons q ps =>
      show _ ∧ _
      rw [e2, glued_chars]
      exact ⟨big, hR _ _ _ D⟩
  run_tac sqOut
end
end Mine
end
section
open PySem PySem.W PySem.W.X PyProof.Rows
set_option maxRecDepth 100000
set_option maxHeartbeats 4000000
set_option Elab.async false
set_option linter.unusedVariables false
namespace Mine
section
variable {w : World} {h : Heap} {vs : Array Value} {g : Array GenState} {d : Drawn} {t : Nat} {os : OsState} {dp un : Nat} {fr : List Env} {gd : List Code} {R : Result → Shared → Prop}

/-- the highest bit first -/
noncomputable def topBits : Nat → List Nat
  | 0 => []
  | n + 1 => Nat.log2 (n + 1) :: topBits (n + 1 - 2 ^ Nat.log2 (n + 1))
termination_by n => n
decreasing_by have := Nat.two_pow_pos (Nat.log2 (n + 1)); (run_tac om)
theorem topBits_pos {n : Nat} (h : 0 < n) : topBits n = Nat.log2 n :: topBits (n - 2 ^ Nat.log2 n) := by
  run_tac sqIn
  obtain ⟨m, rfl⟩ : ∃ m, n = m + 1 := ⟨n - 1, by (run_tac om)⟩
  rw [topBits]
  run_tac sqOut
theorem topBits_zero : topBits 0 = [] := by rw [topBits]

/-- a list's items are these numbers -/
inductive Nums : List Value → List Nat → Prop
  | nil : Nums [] []
  | cons {l : List Value} {ns : List Nat} (n : Nat) (t : Tok) : Nums l ns → Nums (.int (n : Int) t :: l) (n :: ns)
theorem Nums.append {l l' : List Value} {ns ns' : List Nat} (a : Nums l ns) (b : Nums l' ns') : Nums (l ++ l') (ns ++ ns') := by
  run_tac sqIn
  induction a with
  | nil => exact b
  | cons n t _ ih => exact .cons n t ih
  run_tac sqOut
theorem Nums.one (n : Nat) (t : Tok) : Nums [.int (n : Int) t] [n] := .cons n t .nil
theorem Nums.length {l : List Value} {ns : List Nat} (a : Nums l ns) : l.length = ns.length := by
  run_tac sqIn
  induction a with
  | nil => rfl
  | cons n t _ ih => simp [ih]
  run_tac sqOut
theorem last_item (ini : List Value) (v : Value) (i : Nat) (hi : i = ini.length) : ({ toList := ini ++ [v] } : Array Value)[i]? = some v := by
  run_tac sqIn
  subst hi; simp
  run_tac sqOut
theorem pow_lt_of {k b m : Nat} (h1 : (2 : Int) ^ k ≤ m) (h2 : m < 2 ^ b) : k < b := by
  run_tac sqIn
  have : (2 : Int) ^ k < 2 ^ b := by
    have : (m : Int) < 2 ^ b := by exact_mod_cast h2
    (run_tac om)
  exact (Nat.pow_lt_pow_iff_right (a := 2) (by decide)).mp (by exact_mod_cast this)
  run_tac sqOut
theorem rest_lt {k m : Nat} (h1 : (2 : Int) ^ k ≤ m) (h2 : (m : Int) < 2 ^ (k + 1)) : m - 2 ^ k < 2 ^ k := by
  run_tac sqIn
  have a : 2 ^ k ≤ m := by exact_mod_cast h1
  have b : m < 2 ^ (k + 1) := by exact_mod_cast h2
  rw [Nat.pow_succ] at b
  (run_tac om)
  run_tac sqOut
theorem rest_is {k m : Nat} (h1 : (2 : Int) ^ k ≤ m) : (m : Int) - 2 ^ (k : Int).toNat = ((m - 2 ^ k : Nat) : Int) := by
  run_tac sqIn
  have a : 2 ^ k ≤ m := by exact_mod_cast h1
  rw [Int.toNat_natCast, Int.ofNat_sub a]; simp
  run_tac sqOut
theorem rest_is0 {k m : Nat} (h0 : (k : Int) = 0) (h1 : (2 : Int) ^ k ≤ m) : (m : Int) - 1 = ((m - 2 ^ k : Nat) : Int) := by
  run_tac sqIn
  obtain rfl : k = 0 := by (run_tac om)
  have := rest_is h1
  simpa using this
  run_tac sqOut
theorem rest_less {k m : Nat} (h : 0 < m) : m - 2 ^ k < m := by have := Nat.two_pow_pos k; (run_tac om)

theorem taken (X : (K w.params).In h) (D : Hp h h vs []) (hdp : dp ≤ 500) (hun : un ≤ 4000)
    (n : Nat) (tv : Tok) (h1 : n < 4194304) (hR : ∀ l items e h' t' , Nums items (topBits n) → Hp h h' vs [(l, listO items e)] → R (.ok (.ret (.ref l))) ⟨h', g, d, t', os⟩) :
    Runs w dp un fr gd 80 [.int (n : Int) tv] R ⟨h, g, d, t, os⟩ := by
  run_tac sqIn
  have hb2 : bitsQ 2 = 2 := by rw [bits_eq]; decide
  run_tac drive { refs := [66] }
  refine loop_ind (fun m h' t' =>
    (m = n ∧ ∃ (hs1 hs2 hs3 : Int) (t1 t2 t3 e1 e2 : Nat), Hp h h' vs [(a1, listO [] e1), (a0, frameO [ent hs1 [110, 117, 109, 98, 101, 114] t1 (.int n tv), ent hs2 [98, 105, 116, 115] t2 (.ref a1), ent hs3 [114, 101, 115, 116] t3 (.int n tv)] e2)])
    ∨ ∃ (z : Int) (tr : Tok) (ini : List Value) (b : Nat) (tb : Tok) (top : Value) (hs1 hs2 hs3 hs4 : Int) (t1 t2 t3 t4 e1 e2 : Nat) (got : List Nat),
    Hp h h' vs [(a1, listO (ini ++ [.int b tb]) e1), (a0, frameO [ent hs1 [110, 117, 109, 98, 101, 114] t1 (.int n tv), ent hs2 [98, 105, 116, 115] t2 (.ref a1), ent hs3 [114, 101, 115, 116] t3 (.int z tr), ent hs4 [116, 111, 112] t4 top] e2)]
    ∧ z = (m : Int) ∧ m < 2 ^ b ∧ ini.length + b ≤ 21 ∧ Nums (ini ++ [.int b tb]) got ∧ got ++ topBits m = topBits n) ?_ n (.inl ⟨rfl, _, _, _, _, _, _, _, _, DD⟩)
  rintro m h2 t2 ih (⟨rfl, hs1, hs2, hs3, t1, t2, t3, e1, e2, D2⟩ | ⟨z, tr, ini, b, tb, top, hs1, hs2, hs3, hs4, t1, t2, t3, t4, e1, e2, got, D2, rfl, hm, hb, hN, hg⟩)
  · by_cases hn : 0 < m
    · run_tac drive { auto := [("66", `Mine.high_bit_pos)] }
      rename_i k tk t5 hk hk1 hk2
      have hk22 : k ≤ 21 := by have := pow_lt_of (b := 22) hk1 h1; (run_tac om)
      have hT : [k] ++ topBits (m - 2 ^ k) = topBits m := by rw [topBits_pos hn, hk]; simp
      run_tac drive { split := true }
      · exact ih _ _ _ (rest_less (k := k) hn) (.inr ⟨_, _, [], k, tk, _, _, _, _, _, _, _, _, _, _, _, [k], DD, rest_is0 (by assumption) hk1, rest_lt hk1 hk2, by simp; (run_tac om), .one k tk, hT⟩)
      · exact ih _ _ _ (rest_less (k := k) hn) (.inr ⟨_, _, [], k, tk, _, _, _, _, _, _, _, _, _, _, _, [k], DD, rest_is hk1, rest_lt hk1 hk2, by simp; (run_tac om), .one k tk, hT⟩)
    · obtain rfl : m = 0 := by (run_tac om)
      run_tac drive {}
      exact hR _ _ _ _ _ (by rw [topBits_zero]; exact .nil) (Hp.less (by assumption) (.cons_cons _ (List.nil_sublist _)))
  · by_cases hr : 0 < m
    · run_tac drive { auto := [("66", `Mine.high_bit_pos)], lems := [`Mine.pylong, `Mine.last_item] }
      rename_i k tk t5 hk hk1 hk2
      have hkb : k < b := pow_lt_of hk1 hm
      have hT : got ++ [k] ++ topBits (m - 2 ^ k) = topBits n := by rw [← hg, topBits_pos hr, hk]; simp
      run_tac drive { split := true, lems := [`Mine.pylong, `Mine.last_item] }
      · exact ih _ _ _ (rest_less (k := k) hr) (.inr ⟨_, _, ini ++ [.int b tb], k, tk, _, _, _, _, _, _, _, _, _, _, _, got ++ [k], DD, rest_is0 (by assumption) hk1, rest_lt hk1 hk2, by simp; (run_tac om), hN.append (.one k tk), hT⟩)
      · exact ih _ _ _ (rest_less (k := k) hr) (.inr ⟨_, _, ini ++ [.int b tb], k, tk, _, _, _, _, _, _, _, _, _, _, _, got ++ [k], DD, rest_is hk1, rest_lt hk1 hk2, by simp; (run_tac om), hN.append (.one k tk), hT⟩)
    · obtain rfl : m = 0 := by (run_tac om)
      run_tac drive {}
      rw [topBits_zero, List.append_nil] at hg
      exact hR _ _ _ _ _ (hg ▸ hN) (Hp.less (by assumption) (.cons_cons _ (List.nil_sublist _)))
  run_tac sqOut
variable {h₀ : Heap} {news : List (Addr × Obj)}
theorem taken' (X : (K w.params).In h₀) (D : Hp h₀ h vs news) (hdp : dp ≤ 500) (hun : un ≤ 4000)
    (n : Nat) (tv : Tok) (h1 : n < 4194304) (hR : ∀ l items e h' t' , Nums items (topBits n) → Hp h₀ h' vs ((l, listO items e) :: news) → R (.ok (.ret (.ref l))) ⟨h', g, d, t', os⟩) :
    Runs w dp un fr gd 80 [.int (n : Int) tv] R ⟨h, g, d, t, os⟩ := taken (D.inFrag X K40) D.here hdp hun n tv h1 fun l items e h' t' a D' => hR l items e h' t' a (D.trans D')
end
end Mine
end
section
open PySem PySem.W PySem.W.X PyProof.Rows
set_option maxRecDepth 100000
set_option maxHeartbeats 4000000
set_option Elab.async false
set_option linter.unusedVariables false
namespace Mine
section
variable {w : World} {h h₀ : Heap} {vs : Array Value} {g : Array GenState} {d : Drawn} {t : Nat} {os : OsState} {dp un : Nat} {fr : List Env} {gd : List Code} {R : Result → Shared → Prop} {A : Around} {news : List (Addr × Obj)}

noncomputable abbrev sliceO (lo hi : Value) : Obj := ⟨.type "slice", none, .fields ⟨[lo, hi, .none]⟩, ⟨[]⟩⟩
theorem isList_of {h : Heap} {l : Addr} {items : List Value} {e : Nat} (hl : h.get? l = some (listO items e)) : h.IsList l ⟨items⟩ := ⟨_, hl, rfl, e, rfl⟩
theorem list_slice {l sl : Addr} {items : List Value} {e : Nat} {vl vu : Value} {lo hi : Option Int} (D : Hp h₀ h vs news) (hl : h.get? l = some (listO items e)) (hs : h.get? sl = some (sliceO vl vu)) (pl : IsPart vl lo) (pu : IsPart vu hi)
    (hsz : items.length ≤ sizeLine) (hR : ∀ r h', Hp h₀ h' vs ((r, listO (slicePick ⟨items⟩ lo hi none).toList 0) :: news) → R (.ok (.ret (.ref r))) ⟨h', g, d, t, os⟩) :
    RunsB w A "list.__getitem__" [.ref l, .ref sl] R ⟨h, g, d, t, os⟩ := by
  run_tac sqIn
  refine of_builtin entry_list_getitem ?_
  have hTs : (⟨h, g, d, t, os⟩ : Shared).TypeIs (.ref sl) "slice" := ⟨_, hs, rfl⟩
  have hz : (slicePick ⟨items⟩ lo hi none).size ≤ sizeLine := Nat.le_trans (slicePick_size_le ⟨items⟩ lo hi none) hsz
  show wpAny _ _ (Builtin.List.listSubscript? (.ref sl) >>= _) _ _ _
  refine wpAny_bind ?_
  unfold Builtin.List.listSubscript?
  refine wpAny_bind (wpAny_specialOf hTs slice_no_index ?_)
  simp only [Option.isNone_none, if_true]
  refine wpAny_pure ?_
  show wpAny _ _ (typeOf (.ref sl) >>= _) _ _ _
  refine wpAny_bind (wpAny_typeOf hTs ?_)
  rw [if_neg (by decide)]
  rw [listSliceParts_eq]
  refine wpAny_bind (wpAny_bind (wpAny_field hs rfl (x := .none) rfl (wpAny_bind (wpAny_listPart .none ?_))))
  rw [if_neg (by decide)]
  refine wpAny_bind (wpAny_field hs rfl (x := vl) rfl (wpAny_bind (wpAny_listPart pl ?_)))
  refine wpAny_bind (wpAny_field hs rfl (x := vu) rfl (wpAny_bind (wpAny_listPart pu (wpAny_pure ?_))))
  refine wpAny_bind (m := Builtin.List.listItems (.ref l)) ?_
  unfold Builtin.List.listItems
  refine wpAny_bind (wpAny_seqItems hl rfl (wpAny_pure ?_))
  refine wpAny_bind (wpAny_of_eq (sliceIndices_raw lo hi none items.length (by simp)) ?_)
  refine wpAny_bind (wpAny_newObj_type (wpAny_pure ?_) hz)
  exact hR _ _ (D.alloc (o := listO (slicePick ⟨items⟩ lo hi none).toList 0) rfl)
  run_tac sqOut
theorem pick_upto (items : List Value) (k : Nat) : (slicePick ⟨items⟩ none (some (k : Int)) none).toList = items.take k := by
  run_tac sqIn
  by_cases hk : k ≤ items.length
  · have e : sliceBounds none (some (k : Int)) none items.length = (((0 : Nat) : Int), (k : Int), 1) := by
      simp only [sliceBounds, Option.getD_none]
      have h2 : ¬ ((k : Int) < 0) := by (run_tac om)
      simp only [h2, if_false, show (1 : Int) > 0 by decide, if_true]
      congr 2; (run_tac om)
    rw [kmk_pick_nat ⟨items⟩ e]; simp
  · have e : sliceBounds none (some (k : Int)) none items.length = (((0 : Nat) : Int), ((items.length : Nat) : Int), 1) := by
      simp only [sliceBounds, Option.getD_none]
      have h2 : ¬ ((k : Int) < 0) := by (run_tac om)
      simp only [h2, if_false, show (1 : Int) > 0 by decide, if_true]
      congr 2; (run_tac om)
    rw [kmk_pick_nat ⟨items⟩ e]; simp; rw [List.take_of_length_le (by (run_tac om))]
  run_tac sqOut
theorem pick_from (items : List Value) (k : Nat) : (slicePick ⟨items⟩ (some (k : Int)) none none).toList = items.drop k := by
  run_tac sqIn
  by_cases hk : k ≤ items.length
  · have e : sliceBounds (some (k : Int)) none none items.length = ((k : Int), ((items.length : Nat) : Int), 1) := by
      simp only [sliceBounds, Option.getD_none]
      have h2 : ¬ ((k : Int) < 0) := by (run_tac om)
      simp only [h2, if_false, show (1 : Int) > 0 by decide, if_true]
      congr 1; (run_tac om)
    rw [kmk_pick_nat ⟨items⟩ e]; simp; rw [List.take_of_length_le (by simp)]
  · have e : sliceBounds (some (k : Int)) none none items.length = (((items.length : Nat) : Int), ((items.length : Nat) : Int), 1) := by
      simp only [sliceBounds, Option.getD_none]
      have h2 : ¬ ((k : Int) < 0) := by (run_tac om)
      simp only [h2, if_false, show (1 : Int) > 0 by decide, if_true]
      congr 1; (run_tac om)
    rw [kmk_pick_nat ⟨items⟩ e]; simp; (run_tac om)
  run_tac sqOut
theorem list_upto {l sl : Addr} {items : List Value} {e : Nat} {k : Int} {tk : Tok} (D : Hp h₀ h vs news) (hl : h.get? l = some (listO items e)) (hs : h.get? sl = some (sliceO .none (.int k tk))) (hk : 0 ≤ k)
    (hsz : items.length ≤ sizeLine) (hR : ∀ ru h', Hp h₀ h' vs ((ru, listO (items.take k.toNat) 0) :: news) → R (.ok (.ret (.ref ru))) ⟨h', g, d, t, os⟩) :
    RunsB w A "list.__getitem__" [.ref l, .ref sl] R ⟨h, g, d, t, os⟩ := by
  run_tac sqIn
  obtain ⟨n, rfl⟩ := Int.eq_ofNat_of_zero_le hk
  refine list_slice D hl hs .none (.int _ _) hsz ?_
  rw [pick_upto]; exact hR
  run_tac sqOut
theorem list_from {l sl : Addr} {items : List Value} {e : Nat} {k : Int} {tk : Tok} (D : Hp h₀ h vs news) (hl : h.get? l = some (listO items e)) (hs : h.get? sl = some (sliceO (.int k tk) .none)) (hk : 0 ≤ k)
    (hsz : items.length ≤ sizeLine) (hR : ∀ rf h', Hp h₀ h' vs ((rf, listO (items.drop k.toNat) 0) :: news) → R (.ok (.ret (.ref rf))) ⟨h', g, d, t, os⟩) :
    RunsB w A "list.__getitem__" [.ref l, .ref sl] R ⟨h, g, d, t, os⟩ := by
  run_tac sqIn
  obtain ⟨n, rfl⟩ := Int.eq_ofNat_of_zero_le hk
  refine list_slice D hl hs (.int _ _) .none hsz ?_
  rw [pick_from]; exact hR
  run_tac sqOut
end
end Mine
end
section
open PySem PySem.W PySem.W.X PyProof.Rows
open PySem.Builtin.Str
set_option maxRecDepth 100000
set_option maxHeartbeats 4000000
set_option Elab.async false
set_option linter.unusedVariables false
namespace Mine
theorem clip1 (a n : Nat) : max (0 : Int) (min (a : Int) (n : Int)) = max (0 : Int) (min ((min a n : Nat) : Int) (n : Int)) := by
  run_tac sqIn
  rcases Nat.le_total a n with h | h
  · rw [Nat.min_eq_left h]
  · rw [Nat.min_eq_right h, Int.min_eq_right (Int.ofNat_le.mpr h), Int.min_self]
  run_tac sqOut
theorem not_neg (a : Nat) : ¬ ((a : Int) < 0) := Int.not_lt.mpr (Int.natCast_nonneg a)
theorem clip_same (a b n : Nat) : strSliceIndices (some (a : Int)) (some (b : Int)) 1 n = strSliceIndices (some ((min a n : Nat) : Int)) (some ((min b n : Nat) : Int)) 1 n := by
  run_tac sqIn
  have h1 := not_neg a
  have h2 := not_neg b
  have h3 := not_neg (min a n)
  have h4 := not_neg (min b n)
  have e1 := clip1 a n
  have e2 := clip1 b n
  simp only [strSliceIndices, h1, h2, h3, h4, if_false, e1, e2, show ((1 : Int) > 0) = True from by simp, if_true]
  run_tac sqOut
theorem picked_is (l : List Nat) (a b : Nat) (hab : a ≤ b) :
    (strSliceIndices (some (a : Int)) (some (b : Int)) 1 l.length).filterMap ((⟨l⟩ : Array Nat)[·]?) = (l.drop a).take (b - a) ∧
    ((strSliceIndices (some (a : Int)) (some (b : Int)) 1 l.length).length = l.length → (l.drop a).take (b - a) = l) := by
  run_tac sqIn
  rw [clip_same]
  have hab' : min a l.length ≤ min b l.length := by (run_tac om)
  have hb' : min b l.length ≤ l.length := by (run_tac om)
  have h1 := StrLaws.sliced_plain (⟨⟨l⟩⟩ : Str) (a := min a l.length) (b := min b l.length) hab' hb'
  have h2 := StrLaws.strSliceIndices_plain (len := l.length) hab' hb'
  have e : (l.drop (min a l.length)).take (min b l.length - min a l.length) = (l.drop a).take (b - a) := by
    by_cases ha : a ≤ l.length
    · rw [Nat.min_eq_left ha]
      by_cases hb : b ≤ l.length
      · rw [Nat.min_eq_left hb]
      · rw [Nat.min_eq_right (by (run_tac om)), List.take_of_length_le (by simp), List.take_of_length_le (by simp; (run_tac om))]
    · rw [Nat.min_eq_right (by (run_tac om)), Nat.min_eq_right (by (run_tac om)), List.drop_eq_nil_of_le (by (run_tac om)), List.drop_eq_nil_of_le (by (run_tac om))]; simp
  refine ⟨h1.trans e, fun hl => ?_⟩
  rw [h2] at hl
  simp at hl
  rw [← e]
  have z : min a l.length = 0 := by
    by_cases q : l.length = 0
    · (run_tac om)
    · (run_tac om)
  rw [z, List.drop_zero, List.take_of_length_le (by (run_tac om))]
  run_tac sqOut
section
variable {w : World} {h h₀ : Heap} {vs : Array Value} {g : Array GenState} {d : Drawn} {t : Nat} {os : OsState} {R : Result → Shared → Prop} {A : Around} {news : List (Addr × Obj)}
theorem str_slice {l : List Nat} {tx tb : Tok} {sl : Addr} {a b : Nat} (lo : Option (Int × Tok)) (D : Hp h₀ h vs news) (hs : h.get? sl = some (sliceO (partValue lo) (.int b tb)))
    (hlo : strSliceIndices (lo.map (·.1)) (some (b : Int)) 1 l.length = strSliceIndices (some (a : Int)) (some (b : Int)) 1 l.length) (hab : a ≤ b) (hsz : l.length ≤ 1000)
    (hR : ∀ ts h' t', Hp h₀ h' vs news → R (.ok (.ret (.str ⟨⟨(l.drop a).take (b - a)⟩⟩ ts))) ⟨h', g, d, t', os⟩) : RunsB w A "str.__getitem__" [.str ⟨⟨l⟩⟩ tx, .ref sl] R ⟨h, g, d, t, os⟩ := by
  run_tac sqIn
  refine of_meets F.entry_str_getitem (by decide +kernel) (meets_str_getitem_slice ⟨⟨l⟩⟩ tx sl lo (some (b, tb)) none rfl) ⟨⟨_, hs, rfl, rfl⟩, ?_⟩
  obtain ⟨p1, p2⟩ := picked_is l a b hab
  have e : slicePicked (⟨⟨l⟩⟩ : Str) lo (some ((b : Int), tb)) none = strSliceIndices (some (a : Int)) (some (b : Int)) 1 l.length := hlo
  unfold sliceMade
  rw [e]
  split
  · rename_i q
    simp only [Bool.and_eq_true, beq_iff_eq] at q
    have := p2 q.2
    have hr := hR tx h t D
    rw [this] at hr
    exact hr
  · refine ⟨?_, ?_⟩
    · show (List.toArray _).size ≤ _
      rw [List.size_toArray]
      have : ((l.drop a).take (b - a)).length ≤ 1000 := by simp; (run_tac om)
      have e2 : (List.filterMap (fun x => (⟨⟨l⟩⟩ : Str).cps[x]?) (strSliceIndices (some (a : Int)) (some (b : Int)) 1 l.length)) = (l.drop a).take (b - a) := p1
      rw [e2, sizeLine_eq]; (run_tac om)
    · have e2 : (List.filterMap (fun x => (⟨⟨l⟩⟩ : Str).cps[x]?) (strSliceIndices (some (a : Int)) (some (b : Int)) 1 l.length)) = (l.drop a).take (b - a) := p1
      have hr := hR t h (t + 1) D
      rw [← e2] at hr
      exact hr
  run_tac sqOut
theorem str_upto {l : List Nat} {tx tb : Tok} {sl : Addr} {k : Int} (D : Hp h₀ h vs news) (hs : h.get? sl = some (sliceO .none (.int k tb))) (hk : 0 ≤ k) (hsz : l.length ≤ 1000)
    (hR : ∀ ts h' t', Hp h₀ h' vs news → R (.ok (.ret (.str ⟨⟨l.take k.toNat⟩⟩ ts))) ⟨h', g, d, t', os⟩) : RunsB w A "str.__getitem__" [.str ⟨⟨l⟩⟩ tx, .ref sl] R ⟨h, g, d, t, os⟩ := by
  run_tac sqIn
  obtain ⟨b, rfl⟩ := Int.eq_ofNat_of_zero_le hk
  refine str_slice (a := 0) none D hs ?_ (Nat.zero_le _) hsz (by simpa using hR)
  have z : max (0 : Int) (min 0 (l.length : Int)) = 0 := by (run_tac om)
  simp [strSliceIndices, z]
  run_tac sqOut
theorem str_part {l : List Nat} {tx ta tb : Tok} {sl : Addr} {j k : Int} (D : Hp h₀ h vs news) (hs : h.get? sl = some (sliceO (.int j ta) (.int k tb))) (hj : 0 ≤ j) (hk : j ≤ k) (hsz : l.length ≤ 1000)
    (hR : ∀ ts h' t', Hp h₀ h' vs news → R (.ok (.ret (.str ⟨⟨(l.drop j.toNat).take (k.toNat - j.toNat)⟩⟩ ts))) ⟨h', g, d, t', os⟩) : RunsB w A "str.__getitem__" [.str ⟨⟨l⟩⟩ tx, .ref sl] R ⟨h, g, d, t, os⟩ := by
  run_tac sqIn
  obtain ⟨a, rfl⟩ := Int.eq_ofNat_of_zero_le hj
  obtain ⟨b, rfl⟩ := Int.eq_ofNat_of_zero_le (by (run_tac om) : 0 ≤ k)
  exact str_slice (a := a) (some (a, ta)) D hs rfl (by (run_tac om)) hsz (by simpa using hR)
  run_tac sqOut
end
end Mine
end
section
open PySem PySem.W PySem.W.X PyProof.Rows
open PySem.Builtin.Str
set_option maxRecDepth 100000
set_option maxHeartbeats 4000000
set_option Elab.async false
set_option linter.unusedVariables false
namespace Mine
/-- where a sign stands -/
noncomputable def posFrom (c : Nat) : Nat → List Nat → List Nat
  | _, [] => []
  | i, a :: l => if a = c then i :: posFrom c (i + 1) l else posFrom c (i + 1) l
theorem drop_step (l : List Nat) {hi i : Nat} (h : i < hi) (hl : hi ≤ l.length) : ∃ a, l[i]? = some a ∧ (l.take hi).drop i = a :: (l.take hi).drop (i + 1) := by
  run_tac sqIn
  have hi' : i < (l.take hi).length := by simp; (run_tac om)
  refine ⟨(l.take hi)[i], ?_, List.drop_eq_getElem_cons hi'⟩
  rw [List.getElem_take]
  exact List.getElem?_eq_getElem (by (run_tac om))
  run_tac sqOut
theorem occ_run (l : List Nat) (c hi limit : Nat) (hl : hi ≤ l.length) (hlim : hi < limit) : ∀ (n i : Nat) (st : Array Nat) (free : Nat), hi + 1 = i + n → st.size ≤ i → free ≤ i →
    (forIn (m := Id) (List.range' i n) (st, free) (StrLaws.occBody ⟨⟨l⟩⟩ ⟨⟨[c]⟩⟩ hi limit)).run.fst.toList = st.toList ++ posFrom c i ((l.take hi).drop i) := by
  run_tac sqIn
  intro n
  induction n with
  | zero =>
    intro i st free e h1 h2
    rw [List.drop_eq_nil_of_le (by simp; (run_tac om))]
    simp [posFrom, List.range']
  | succ n ih =>
    intro i st free e h1 h2
    rw [List.range'_succ, List.forIn_cons]
    by_cases q : i < hi
    · obtain ⟨a, ha, hd⟩ := drop_step l q hl
      have key := StrLaws.subAt_one ⟨⟨l⟩⟩ c i
      rw [hd]
      unfold StrLaws.occBody
      have len1 : (⟨⟨[c]⟩⟩ : Str).length = 1 := rfl
      by_cases qa : a = c
      · have k := key.mpr (by rw [← qa]; exact ha)
        rw [if_pos ⟨⟨⟨by show st.size < limit; (run_tac om), h2⟩, by rw [len1]; (run_tac om)⟩, k.2⟩]
        show (forIn (m := Id) (List.range' (i + 1) n) (st.push i, i + 1) (StrLaws.occBody ⟨⟨l⟩⟩ ⟨⟨[c]⟩⟩ hi limit)).run.fst.toList = _
        rw [ih (i + 1) (st.push i) (i + 1) (by (run_tac om)) (by simp; (run_tac om)) (Nat.le_refl _), posFrom, if_pos qa, Array.toList_push]
        simp
      · rw [if_neg (fun h => qa ?_)]
        · show (forIn (m := Id) (List.range' (i + 1) n) (st, free) (StrLaws.occBody ⟨⟨l⟩⟩ ⟨⟨[c]⟩⟩ hi limit)).run.fst.toList = _
          rw [ih (i + 1) st free (by (run_tac om)) (by (run_tac om)) (by (run_tac om)), posFrom, if_neg qa]
        · have := key.mp ⟨by have : (⟨#[c]⟩ : Str).length = 1 := rfl
                             rw [this]; show i + 1 ≤ l.length; (run_tac om), h.2⟩
          have t : l[i]? = some c := this
          rw [ha] at t
          exact Option.some.inj t
    · have : n = 0 := by (run_tac om)
      subst this
      rw [List.drop_eq_nil_of_le (by simp; (run_tac om))]
      unfold StrLaws.occBody
      have len1 : (⟨⟨[c]⟩⟩ : Str).length = 1 := rfl
      rw [if_neg (fun h => by have := h.1.2; rw [len1] at this; (run_tac om))]
      simp [posFrom, List.range']
  run_tac sqOut
theorem occ1 (l : List Nat) (c hi limit : Nat) (hl : hi ≤ l.length) (hlim : hi < limit) : occurrences ⟨⟨l⟩⟩ ⟨⟨[c]⟩⟩ 0 hi limit = posFrom c 0 (l.take hi) := by
  run_tac sqIn
  rw [StrLaws.occ_eq]
  have := occ_run l c hi limit hl hlim (hi + 1) 0 #[] 0 (by (run_tac om)) (Nat.zero_le _) (Nat.le_refl _)
  simpa using this
  run_tac sqOut
theorem last_run (l : List Nat) (c hi : Nat) (hl : hi ≤ l.length) : ∀ (n i : Nat) (st : Option Nat), hi + 1 = i + n →
    (forIn (m := Id) (List.range' i n) st (fun i r => if (i + (⟨⟨[c]⟩⟩ : Str).length ≤ hi ∧ subAt ⟨⟨l⟩⟩ ⟨⟨[c]⟩⟩ i = true) then pure (ForInStep.yield (some i)) else pure (ForInStep.yield r))).run = (posFrom c i ((l.take hi).drop i)).getLast?.or st := by
  run_tac sqIn
  intro n
  induction n with
  | zero =>
    intro i st e
    rw [List.drop_eq_nil_of_le (by simp; (run_tac om))]
    simp [posFrom, List.range']
  | succ n ih =>
    intro i st e
    rw [List.range'_succ, List.forIn_cons]
    have len1 : (⟨⟨[c]⟩⟩ : Str).length = 1 := rfl
    by_cases q : i < hi
    · obtain ⟨a, ha, hd⟩ := drop_step l q hl
      have key := StrLaws.subAt_one ⟨⟨l⟩⟩ c i
      rw [hd]
      by_cases qa : a = c
      · have k := key.mpr (by rw [← qa]; exact ha)
        rw [if_pos ⟨by rw [len1]; (run_tac om), k.2⟩]
        refine (ih (i + 1) (some i) (by (run_tac om))).trans ?_
        rw [posFrom, if_pos qa]
        generalize posFrom c (i + 1) _ = m
        cases m with
        | nil => rfl
        | cons b m => rw [List.getLast?_cons_cons, List.getLast?_cons]; rfl
      · rw [if_neg (fun h => qa ?_)]
        · refine (ih (i + 1) st (by (run_tac om))).trans ?_
          rw [posFrom, if_neg qa]
        · have := key.mp ⟨by have : (⟨#[c]⟩ : Str).length = 1 := rfl
                             rw [this]; show i + 1 ≤ l.length; (run_tac om), h.2⟩
          have t : l[i]? = some c := this
          rw [ha] at t
          exact Option.some.inj t
    · have : n = 0 := by (run_tac om)
      subst this
      rw [List.drop_eq_nil_of_le (by simp; (run_tac om))]
      rw [if_neg (fun h => by have := h.1; rw [len1] at this; (run_tac om))]
      simp [posFrom, List.range']
  run_tac sqOut
theorem last1 (l : List Nat) (c hi : Nat) (hl : hi ≤ l.length) : lastOccurrence ⟨⟨l⟩⟩ ⟨⟨[c]⟩⟩ 0 hi = (posFrom c 0 (l.take hi)).getLast? := by
  run_tac sqIn
  have := last_run l c hi hl (hi + 1) 0 none (by (run_tac om))
  unfold lastOccurrence
  simp only [List.drop_zero, Option.or_none] at this
  rw [← this]
  simp
  run_tac sqOut
end Mine
end
section
open PySem PySem.W PySem.W.X PyProof.Rows
open PySem.Builtin.Str
set_option maxRecDepth 100000
set_option maxHeartbeats 4000000
set_option Elab.async false
set_option linter.unusedVariables false
namespace Mine
/-- the column of the place behind a text: the signs behind its last line end -/
noncomputable def tailOf (l : List Nat) : List Nat := l.drop (match (posFrom 10 0 l).getLast? with | some i => i + 1 | none => 0)
theorem posFrom_len (c : Nat) : ∀ (l : List Nat) (i : Nat), (posFrom c i l).length ≤ l.length
  | [], _ => Nat.le_refl _
  | a :: l, i => by
    have := posFrom_len c l (i + 1)
    rw [posFrom]
    split <;> simp <;> (run_tac om)
theorem parts_last (x : Str) (w : Nat) : ∀ (cuts : List Nat) (a : Nat), ∃ r, StrLaws.partsFrom x w a cuts = r ++ [strSub x (match cuts.getLast? with | some i => i + w | none => a) x.length] ∧ r.length = cuts.length
  | [], a => ⟨[], rfl, rfl⟩
  | c :: q, a => by
    obtain ⟨r, e, n⟩ := parts_last x w q (c + w)
    refine ⟨strSub x a c :: r, ?_, by simp [n]⟩
    show strSub x a c :: StrLaws.partsFrom x w (c + w) q = _
    rw [e]
    cases q with
    | nil => rfl
    | cons b q => rw [List.getLast?_cons_cons, List.getLast?_cons]; rfl
theorem strsFrom_append : ∀ (l r : List Str) (t : Nat), strsFrom t (l ++ r) = strsFrom t l ++ strsFrom (t + l.length) r
  | [], r, t => rfl
  | x :: l, r, t => by
    rw [List.cons_append, strsFrom, strsFrom_append l r (t + 1), strsFrom, List.length_cons, List.cons_append]
    congr 3
    (run_tac om)
section
variable {w : World} {h h₀ : Heap} {vs : Array Value} {g : Array GenState} {d : Drawn} {t : Nat} {os : OsState} {R : Result → Shared → Prop} {A : Around} {news : List (Addr × Obj)}
theorem str_lines {l : List Nat} {tx tc : Tok} (D : Hp h₀ h vs news) (hsz : l.length ≤ 1000)
    (hR : ∀ rm items tl h' t', items.length = (posFrom 10 0 l).length → Hp h₀ h' vs ((rm, listO (items ++ [.str ⟨⟨tailOf l⟩⟩ tl]) 0) :: news) → R (.ok (.ret (.ref rm))) ⟨h', g, d, t', os⟩) : RunsB w A "str.split" [.str ⟨⟨l⟩⟩ tx, .str ⟨⟨[10]⟩⟩ tc] R ⟨h, g, d, t, os⟩ := by
  run_tac sqIn
  have hn : (⟨⟨l⟩⟩ : Str).length = l.length := rfl
  have ho : occurrences ⟨⟨l⟩⟩ ⟨⟨[10]⟩⟩ 0 (⟨⟨l⟩⟩ : Str).length ((⟨⟨l⟩⟩ : Str).length + 1) = posFrom 10 0 l := by
    rw [hn, occ1 l 10 _ _ (Nat.le_refl _) (Nat.lt_succ_self _), List.take_length]
  have same : posFrom 10 0 l = [] → R (.ok (.ret (.ref h.objs.size))) ⟨h.push (listO [.str ⟨⟨l⟩⟩ tx] 0), g, d, t, os⟩ := by
    intro q
    have e : tailOf l = l := by unfold tailOf; rw [q]; rfl
    have := hR h.objs.size [] tx _ t (by rw [q]; rfl) (D.alloc (o := listO ([] ++ [.str ⟨⟨tailOf l⟩⟩ tx]) 0) rfl)
    rw [e] at this
    exact this
  cases h1 : (decide ((⟨⟨l⟩⟩ : Str).length < (⟨⟨[10]⟩⟩ : Str).length) || decide (strKind (⟨⟨l⟩⟩ : Str) < strKind ⟨⟨[10]⟩⟩))
  · cases hf : (occurrences (⟨⟨l⟩⟩ : Str) ⟨⟨[10]⟩⟩ 0 (⟨⟨l⟩⟩ : Str).length ((⟨⟨l⟩⟩ : Str).length + 1)).isEmpty
    · have hb := StrLaws.partsBetween_eq (⟨⟨l⟩⟩ : Str) (posFrom 10 0 l) 1
      obtain ⟨r, e, n⟩ := parts_last (⟨⟨l⟩⟩ : Str) 1 (posFrom 10 0 l) 0
      have hpl := posFrom_len 10 l 0
      refine of_meets F.entry_str_split (by decide +kernel) (meets_str_split_sep _ _ tx tc h1 rfl hf (by rw [hn, sizeLine_eq]; (run_tac om)) ?_) ?_
      · rw [ho]
        show (partsBetween (⟨⟨l⟩⟩ : Str) (posFrom 10 0 l) 1).length ≤ _
        rw [hb, e, sizeLine_eq]; simp [n]; (run_tac om)
      · rw [ho]
        show R _ ⟨h.push (listO (strsFrom t (partsBetween (⟨⟨l⟩⟩ : Str) (posFrom 10 0 l) 1)) 0), g, d, t + (partsBetween (⟨⟨l⟩⟩ : Str) (posFrom 10 0 l) 1).length, os⟩
        have ht : strSub (⟨⟨l⟩⟩ : Str) (match (posFrom 10 0 l).getLast? with | some i => i + 1 | none => 0) (⟨⟨l⟩⟩ : Str).length = ⟨⟨tailOf l⟩⟩ := by
          unfold tailOf
          generalize (match (posFrom 10 0 l).getLast? with | some i => i + 1 | none => 0) = k
          unfold strSub
          congr 1
          apply Array.ext'
          rw [hn]
          simp only [Array.toList_extract, List.extract_eq_take_drop]
          exact List.take_of_length_le (by simp)
        rw [hb, e, strsFrom_append, ht]
        exact hR h.objs.size _ (t + r.length) _ _ (by rw [strsFrom_length, n]) (D.alloc (o := listO _ 0) rfl)
    · refine of_meets F.entry_str_split (by decide +kernel) (meets_str_split_not_found _ _ tx tc h1 rfl hf) ?_
      rw [ho] at hf
      exact same (by simpa using hf)
  · refine of_meets F.entry_str_split (by decide +kernel) (meets_str_split_cannot_occur _ _ tx tc h1) ?_
    refine same ?_
    have hk : strKind (⟨⟨[10]⟩⟩ : Str) = 1 := by decide +kernel
    have hk2 : 1 ≤ Builtin.Str.strKind (⟨⟨l⟩⟩ : Str) := by
      unfold Builtin.Str.strKind
      repeat' split
      all_goals (run_tac om)
    have : l.length < 1 := by
      rw [hk] at h1
      simp only [Bool.or_eq_true, decide_eq_true_eq] at h1
      rcases h1 with q | q
      · exact q
      · (run_tac om)
    have : l = [] := List.eq_nil_of_length_eq_zero (by (run_tac om))
    rw [this]; rfl
  run_tac sqOut
end
end Mine
end
section
open PySem PySem.W PySem.W.X PyProof.Rows
open PySem.Builtin.Str
set_option maxRecDepth 100000
set_option maxHeartbeats 4000000
set_option Elab.async false
set_option linter.unusedVariables false
namespace Mine
/-- a number's figures -/
noncomputable def decI (x : Int) : List Nat := ((toString x : String) : Str).cps.toList
theorem decI_len : ∀ n : Fin 1000, (decI ((n : Nat) : Int)).length ≤ 3 := by decide +kernel
section
variable {w : World} {h h₀ : Heap} {vs : Array Value} {g : Array GenState} {d : Drawn} {t : Nat} {os : OsState} {R : Result → Shared → Prop} {A : Around} {news : List (Addr × Obj)}
theorem int_repr {x : Int} {tx : Tok} (D : Hp h₀ h vs news) (h0 : 0 ≤ x) (h1 : x < 1000)
    (hR : ∀ ds tr h' t', ds = decI x → ds.length ≤ 3 → Hp h₀ h' vs news → R (.ok (.ret (.str ⟨⟨ds⟩⟩ tr))) ⟨h', g, d, t', os⟩) : RunsB w A "int.__repr__" [.int x tx] R ⟨h, g, d, t, os⟩ := by
  run_tac sqIn
  obtain ⟨n, rfl⟩ := Int.eq_ofNat_of_zero_le h0
  have hn : n < 1000 := by (run_tac om)
  have hl : (decI (n : Int)).length ≤ 3 := decI_len ⟨n, hn⟩
  have hb : ((n : Int)).natAbs.log2 < 1920 := by
    show n.log2 < 1920
    by_cases hz : n = 0
    · subst hz; decide
    · have : n.log2 < 10 := (Nat.log2_lt hz).mpr (by (run_tac om))
      (run_tac om)
  refine of_gives F.entry_int_repr (by decide +kernel) (gives_int_repr (n : Int) tx hb) ⟨?_, hR (decI n) t h _ rfl hl D⟩
  rw [sizeLine_eq]
  show ((toString (n : Int) : String) : Str).cps.size ≤ _
  have : (decI (n : Int)).length = ((toString (n : Int) : String) : Str).cps.size := by unfold decI; simp
  (run_tac om)
  run_tac sqOut
end
end Mine
end
section
open PySem PySem.W PySem.W.X PyProof.Rows
open PySem.Builtin.Str
set_option maxRecDepth 100000
set_option maxHeartbeats 4000000
set_option Elab.async false
set_option linter.unusedVariables false
namespace Mine
theorem line_meets (x y : Int) (tf tx ty : Tok) (b : Addr) (hx : 0 ≤ x) (hx1 : x < 10 ^ 10) (hy : 0 ≤ y) (hy1 : y < 10 ^ 10) :
    Meets (Builtin.«str.__mod__» ⟨[.str ⟨⟨[108, 105, 110, 101, 32, 37, 100, 44, 32, 99, 111, 108, 117, 109, 110, 32, 37, 100]⟩⟩ tf, .ref b], []⟩) (fun _ R s => IsTup s.heap b ⟨[.int x tx, .int y ty]⟩ ∧
      ∀ t' k, R (.ok (.ret (.str (((⟨#[108, 105, 110, 101, 32]⟩ : Str) ++ Str.ofString (toString x)) ++ (⟨#[44, 32, 99, 111, 108, 117, 109, 110, 32]⟩ : Str) ++ Str.ofString (toString y)) t'))) { s with toks := k }) := by
  run_tac sqIn
  kpt_run
  run_tac sqOut
/-- what names a place in a text -/
noncomputable def lineText (x y : Int) : List Nat := [108, 105, 110, 101, 32] ++ decI x ++ [44, 32, 99, 111, 108, 117, 109, 110, 32] ++ decI y
theorem lineText_is (x y : Int) : ((⟨#[108, 105, 110, 101, 32]⟩ : Str) ++ Str.ofString (toString x)) ++ (⟨#[44, 32, 99, 111, 108, 117, 109, 110, 32]⟩ : Str) ++ Str.ofString (toString y) = ⟨⟨lineText x y⟩⟩ := by
  run_tac sqIn
  apply Str.ext'
  apply Array.toList_inj.mp
  simp only [Str.cps_append, Array.toList_append, lineText, decI]
  run_tac sqOut
section
variable {w : World} {h h₀ : Heap} {vs : Array Value} {g : Array GenState} {d : Drawn} {t : Nat} {os : OsState} {R : Result → Shared → Prop} {A : Around} {news : List (Addr × Obj)}
theorem str_line {x y : Int} {tf tx ty : Tok} {b : Addr} {o : Nat} (D : Hp h₀ h vs news) (hb : h.get? b = some ⟨.type "tuple", none, .seq ⟨[.int x tx, .int y ty]⟩ o, ⟨[]⟩⟩) (h0 : 0 ≤ x) (h1 : x < 1000) (h2 : 0 ≤ y) (h3 : y < 1000)
    (hR : ∀ tr h' t', Hp h₀ h' vs news → R (.ok (.ret (.str ⟨⟨lineText x y⟩⟩ tr))) ⟨h', g, d, t', os⟩) :
    RunsB w A "str.__mod__" [.str ⟨⟨[108, 105, 110, 101, 32, 37, 100, 44, 32, 99, 111, 108, 117, 109, 110, 32, 37, 100]⟩⟩ tf, .ref b] R ⟨h, g, d, t, os⟩ := by
  run_tac sqIn
  refine of_meets F.entry_str_mod (by decide +kernel) (line_meets x y tf tx ty b h0 (by (run_tac om)) h2 (by (run_tac om))) ⟨⟨_, hb, rfl, _, rfl⟩, fun t' k => ?_⟩
  rw [lineText_is]
  exact hR t' h k D
  run_tac sqOut
end
end Mine
end
section
open PySem PySem.W PySem.W.X PyProof.Rows
open PySem.Builtin.Str
set_option maxRecDepth 100000
set_option maxHeartbeats 4000000
set_option Elab.async false
set_option linter.unusedVariables false
namespace Mine
/-- how a place in a text is named -/
noncomputable def whereOf (T : List Nat) (p : Nat) : List Nat :=
  if T.length ≤ p then [101, 110, 100, 32, 111, 102, 32, 100, 111, 99, 117, 109, 101, 110, 116]
  else lineText (((posFrom 10 0 (T.take p)).length + 1 : Nat) : Int) (((tailOf (T.take p)).length + 1 : Nat) : Int)
noncomputable abbrev tupO (vs : List Value) (n : Nat) : Obj := ⟨.type "tuple", none, .seq ⟨vs⟩ n, ⟨[]⟩⟩
section
variable {w : World} {h h₀ : Heap} {vs : Array Value} {g : Array GenState} {d : Drawn} {t : Nat} {os : OsState} {R : Result → Shared → Prop} {A : Around} {news : List (Addr × Obj)}
theorem tup_item {l : Addr} {items : List Value} {e : Nat} {i : Int} {ti : Tok} {v : Value} (D : Hp h₀ h vs news) (hl : h.get? l = some (tupO items e)) {n : Nat} (hi : i = (n : Int)) (hx : items[n]? = some v) (h1 : n < 1000)
    (hR : ∀ h' t', Hp h₀ h' vs news → R (.ok (.ret v)) ⟨h', g, d, t', os⟩) : RunsB w A "tuple.__getitem__" [.ref l, .int i ti] R ⟨h, g, d, t, os⟩ := by
  run_tac sqIn
  subst hi
  have hn : n < items.length := (List.getElem?_eq_some_iff.mp hx).1
  have hs : seqIndex? (n : Int) (⟨items⟩ : Array Value).size = some n := by
    have z : (⟨items⟩ : Array Value).size = items.length := rfl
    unfold seqIndex?
    rw [z]
    have h2 : ¬ ((n : Int) < 0) := by (run_tac om)
    simp; (run_tac om)
  exact of_meets F.entry_tuple_getitem (by decide +kernel) (PySem.MeetsSeq.tuple_getitem_at l ⟨items⟩ e n ti n v (by (run_tac om)) (by (run_tac om)) hs (by simpa using hx)) ⟨hl, hR _ _ D⟩
  run_tac sqOut
theorem int_format {x : Int} {tx tu : Tok} (D : Hp h₀ h vs news) (h0 : 0 ≤ x) (h1 : x < 1000)
    (hR : ∀ ds tr h' t', ds = decI x → ds.length ≤ 3 → Hp h₀ h' vs news → R (.ok (.ret (.str ⟨⟨ds⟩⟩ tr))) ⟨h', g, d, t', os⟩) : RunsB w A "int.__format__" [.int x tx, .str ⟨⟨[]⟩⟩ tu] R ⟨h, g, d, t, os⟩ := by
  run_tac sqIn
  obtain ⟨n, rfl⟩ := Int.eq_ofNat_of_zero_le h0
  have hn : n < 1000 := by (run_tac om)
  have hl : (decI (n : Int)).length ≤ 3 := decI_len ⟨n, hn⟩
  have hb : ((n : Int)).natAbs.log2 < 1920 := by
    show n.log2 < 1920
    by_cases hz : n = 0
    · subst hz; decide
    · have : n.log2 < 10 := (Nat.log2_lt hz).mpr (by (run_tac om))
      (run_tac om)
  refine of_gives F.entry_int_format (by decide +kernel) (gives_int_format_empty (n : Int) tx tu hb) ⟨?_, hR (decI n) t h _ rfl hl D⟩
  rw [sizeLine_eq]
  show ((toString (n : Int) : String) : Str).cps.size ≤ _
  have : (decI (n : Int)).length = ((toString (n : Int) : String) : Str).cps.size := by unfold decI; simp
  (run_tac om)
  run_tac sqOut
theorem gives_count_upto (x y : Str) (k : Nat) (t u v v' : Tok) : Gives (Builtin.«str.count» ⟨[.str x t, .str y u, .int 0 v, .int (k : Int) v'], []⟩) (.int (occurrences x y 0 (min k x.length) (x.length + 1)).length) := by
  run_tac sqIn
  have e : (max 0 (if (k : Int) < 0 then (k : Int) + x.length else k)).toNat = k := by
    rw [if_neg (by (run_tac om))]; (run_tac om)
  show Gives (retInt (occurrences x y 0 (min ((max 0 (if (k : Int) < 0 then (k : Int) + x.length else k)).toNat) x.length) (x.length + 1)).length) _
  rw [e]
  exact .of_eq rfl
  run_tac sqOut
theorem gives_rindex_upto (x y : Str) (k : Nat) (t u v v' : Tok) (i : Nat) (h : lastOccurrence x y 0 (min k x.length) = some i) : Gives (Builtin.«str.rindex» ⟨[.str x t, .str y u, .int 0 v, .int (k : Int) v'], []⟩) (.int i) := by
  run_tac sqIn
  have e : (max 0 (if (k : Int) < 0 then (k : Int) + x.length else k)).toNat = k := by
    rw [if_neg (by (run_tac om))]; (run_tac om)
  show Gives (match lastOccurrence x y 0 (min ((max 0 (if (k : Int) < 0 then (k : Int) + x.length else k)).toNat) x.length) with | some i => retInt i | none => (do rule "str.rindex.not-found"; raiseError "ValueError" "substring not found")) _
  rw [e, h]
  exact .of_eq rfl
  run_tac sqOut
theorem str_count_upto {T : List Nat} {k : Int} {tx tc t0 tk : Tok} (D : Hp h₀ h vs news) (h0 : 0 ≤ k) (h1 : k ≤ T.length)
    (hR : ∀ n tn h' t', n = ((posFrom 10 0 (T.take k.toNat)).length : Int) → Hp h₀ h' vs news → R (.ok (.ret (.int n tn))) ⟨h', g, d, t', os⟩) : RunsB w A "str.count" [.str ⟨⟨T⟩⟩ tx, .str ⟨⟨[10]⟩⟩ tc, .int 0 t0, .int k tk] R ⟨h, g, d, t, os⟩ := by
  run_tac sqIn
  obtain ⟨k, rfl⟩ := Int.eq_ofNat_of_zero_le h0
  have hk : k ≤ T.length := by (run_tac om)
  have e : min k (⟨⟨T⟩⟩ : Str).length = k := Nat.min_eq_left hk
  refine of_gives F.entry_str_count (by decide +kernel) (gives_count_upto ⟨⟨T⟩⟩ ⟨⟨[10]⟩⟩ k tx tc t0 tk) (hR _ _ _ _ ?_ D)
  rw [e, occ1 T 10 k _ hk (by show k < T.length + 1; (run_tac om))]
  rfl
  run_tac sqOut
theorem posFrom_last (T : List Nat) (k : Nat) (hl : (posFrom 10 0 (T.take k)).length ≠ 0) : ∃ i, (posFrom 10 0 (T.take k)).getLast? = some i ∧ (tailOf (T.take k)).length + i + 1 = (T.take k).length := by
  run_tac sqIn
  have key : ∀ (l : List Nat) (i : Nat), ∀ j ∈ posFrom 10 i l, j < i + l.length := by
    intro l
    induction l with
    | nil => intro i j hj; cases hj
    | cons a l ih =>
      intro i j hj
      rw [posFrom] at hj
      split at hj
      · rcases List.mem_cons.mp hj with rfl | hj
        · simp
        · have := ih _ _ hj; simp; (run_tac om)
      · have := ih _ _ hj; simp; (run_tac om)
  cases q : (posFrom 10 0 (T.take k)).getLast? with
  | none => rw [List.getLast?_eq_none_iff] at q; rw [q] at hl; exact absurd rfl hl
  | some i =>
    refine ⟨i, rfl, ?_⟩
    have := key _ _ _ (List.mem_of_getLast? q)
    unfold tailOf
    rw [q]
    simp at this ⊢
    (run_tac om)
  run_tac sqOut
theorem str_rindex_upto {T : List Nat} {k : Int} {tx tc t0 tk : Tok} (D : Hp h₀ h vs news) (h0 : 0 ≤ k) (h1 : k ≤ T.length) (hn : (posFrom 10 0 (T.take k.toNat)).length ≠ 0)
    (hR : ∀ n tn h' t', k - n = ((tailOf (T.take k.toNat)).length + 1 : Nat) → 0 ≤ n → Hp h₀ h' vs news → R (.ok (.ret (.int n tn))) ⟨h', g, d, t', os⟩) : RunsB w A "str.rindex" [.str ⟨⟨T⟩⟩ tx, .str ⟨⟨[10]⟩⟩ tc, .int 0 t0, .int k tk] R ⟨h, g, d, t, os⟩ := by
  run_tac sqIn
  obtain ⟨k, rfl⟩ := Int.eq_ofNat_of_zero_le h0
  have hk : k ≤ T.length := by (run_tac om)
  have e : min k (⟨⟨T⟩⟩ : Str).length = k := Nat.min_eq_left hk
  obtain ⟨i, hi, hl⟩ := posFrom_last T k hn
  refine of_gives F.entry_str_rindex (by decide +kernel) (gives_rindex_upto ⟨⟨T⟩⟩ ⟨⟨[10]⟩⟩ k tx tc t0 tk i (by rw [e, last1 T 10 k hk]; exact hi)) (hR _ _ _ _ ?_ (by (run_tac om)) D)
  have : (T.take k).length = k := by simp; (run_tac om)
  show (k : Int) - i = (((tailOf (T.take k)).length + 1 : Nat) : Int)
  (run_tac om)
  run_tac sqOut
end
end Mine
end
section
open PySem PySem.W PySem.W.X PyProof.Rows
set_option maxRecDepth 100000
set_option maxHeartbeats 4000000
set_option Elab.async false
set_option linter.unusedVariables false
namespace Mine
section
variable {w : World} {h h₀ : Heap} {vs : Array Value} {g : Array GenState} {d : Drawn} {t : Nat} {os : OsState} {dp un : Nat} {fr : List Env} {gd : List Code} {R : Result → Shared → Prop} {A : Around} {news : List (Addr × Obj)}

theorem get_mid (pre : List Value) (v : Value) (rest : List Value) (i : Nat) (hi : i = pre.length) : ({ toList := pre ++ v :: rest } : Array Value)[i]? = some v := by
  subst hi; simp
theorem get_end (pre : List Value) (i : Nat) (hi : pre.length ≤ i) : ({ toList := pre } : Array Value)[i]? = none := by
  simp; (run_tac om)
theorem Nums.cons_inv {l : List Value} {n : Nat} {ns : List Nat} (a : Nums l (n :: ns)) : ∃ t r, l = .int (n : Int) t :: r ∧ Nums r ns := by
  run_tac sqIn
  cases a with
  | cons n t a => exact ⟨t, _, rfl, a⟩
  run_tac sqOut
theorem Nums.nil_inv {l : List Value} (a : Nums l []) : l = [] := by cases a; rfl

theorem rec_size {n m : Nat} (x : Decidable (n = m)) (h : n = m) : (Decidable.rec (motive := fun _ => Bool) (fun _ => false) (fun _ => true) x : Bool) = true := by rw [rec_decide x inferInstance]; simpa using h

theorem eq_loop (X : (K w.params).In h) (hdp : dp ≤ 800) (hun : un ≤ 8000) {a b : Addr} {ea eb : Nat} (ns : List Nat) : ∀ (hc : Heap) (ms : List Nat) (ra rb pre pre' : List Value) (i : Int) (t : Nat), Hp h hc vs [] → Nums ra ns → Nums rb ms → ns.length = ms.length → i = pre.length → i = pre'.length →
    h.get? a = some (listO (pre ++ ra) ea) → h.get? b = some (listO (pre' ++ rb) eb) → (∀ x h' t', x = decide (ns = ms) → Hp h h' vs [] → R (.ok (.ret (.bool x))) ⟨h', g, d, t', os⟩) →
    RunsB w (At dp un fr gd) "list.__eq__.loop" [.ref a, .ref b, .int i 0, .int 2 0] R ⟨hc, g, d, t, os⟩ := by
  run_tac sqIn
  induction ns with
  | nil =>
    intro hc ms ra rb pre pre' i t D na nb hn hi hi' ha hb hR
    obtain rfl := na.nil_inv
    obtain rfl : ms = [] := List.length_eq_zero_iff.mp hn.symm
    obtain rfl := nb.nil_inv
    rw [List.append_nil] at ha hb
    run_tac drive { lems := [`Mine.pylong, `Mine.get_mid, `Mine.get_end] }
    exact hR _ _ _ (by rw [rec_size _ (by simp; (run_tac om))]; simp) (by assumption)
  | cons n ns ih =>
    intro hc ms ra rb pre pre' i t D na nb hn hi hi' ha hb hR
    obtain ⟨m, ms, rfl⟩ : ∃ m ms', ms = m :: ms' := by cases ms with | nil => simp at hn | cons m ms => exact ⟨m, ms, rfl⟩
    obtain ⟨ta, ra, rfl, na'⟩ := na.cons_inv
    obtain ⟨tb, rb, rfl, nb'⟩ := nb.cons_inv
    clear na nb
    have hn' : ns.length = ms.length := by simpa using hn
    have ha' : h.get? a = some (listO ((pre ++ [Value.int (↑n) ta]) ++ ra) ea) := by rw [ha]; simp
    have hb' : h.get? b = some (listO ((pre' ++ [Value.int (↑m) tb]) ++ rb) eb) := by rw [hb]; simp
    run_tac drive { split := true, ids := ["list.__eq__.loop"], lems := [`Mine.pylong, `Mine.get_mid, `Mine.get_end] }
    · run_tac use `ih
      exact hR _ _ _ (by simp_all; (run_tac om)) (by assumption)
    · run_tac use `ih
      exact hR _ _ _ (by simp_all; (run_tac om)) (by assumption)
    · exact hR _ _ _ (by simp; intro q; (run_tac om)) (by assumption)
  run_tac sqOut
theorem ne_loop (X : (K w.params).In h) (hdp : dp ≤ 800) (hun : un ≤ 8000) {a b : Addr} {ea eb : Nat} (ns : List Nat) : ∀ (hc : Heap) (ms : List Nat) (ra rb pre pre' : List Value) (i : Int) (t : Nat), Hp h hc vs [] → Nums ra ns → Nums rb ms → ns.length = ms.length → i = pre.length → i = pre'.length →
    h.get? a = some (listO (pre ++ ra) ea) → h.get? b = some (listO (pre' ++ rb) eb) → (∀ x h' t', x = decide (ns ≠ ms) → Hp h h' vs [] → R (.ok (.ret (.bool x))) ⟨h', g, d, t', os⟩) →
    RunsB w (At dp un fr gd) "list.__eq__.loop" [.ref a, .ref b, .int i 0, .int 3 0] R ⟨hc, g, d, t, os⟩ := by
  run_tac sqIn
  induction ns with
  | nil =>
    intro hc ms ra rb pre pre' i t D na nb hn hi hi' ha hb hR
    obtain rfl := na.nil_inv
    obtain rfl : ms = [] := List.length_eq_zero_iff.mp hn.symm
    obtain rfl := nb.nil_inv
    rw [List.append_nil] at ha hb
    run_tac drive { lems := [`Mine.pylong, `Mine.get_mid, `Mine.get_end] }
    exact hR _ _ _ (by rw [show (({ toList := pre } : Array Value).size == ({ toList := pre' } : Array Value).size) = true by simp; (run_tac om)]; simp) (by assumption)
  | cons n ns ih =>
    intro hc ms ra rb pre pre' i t D na nb hn hi hi' ha hb hR
    obtain ⟨m, ms, rfl⟩ : ∃ m ms', ms = m :: ms' := by cases ms with | nil => simp at hn | cons m ms => exact ⟨m, ms, rfl⟩
    obtain ⟨ta, ra, rfl, na'⟩ := na.cons_inv
    obtain ⟨tb, rb, rfl, nb'⟩ := nb.cons_inv
    clear na nb
    have hn' : ns.length = ms.length := by simpa using hn
    have ha' : h.get? a = some (listO ((pre ++ [Value.int (↑n) ta]) ++ ra) ea) := by rw [ha]; simp
    have hb' : h.get? b = some (listO ((pre' ++ [Value.int (↑m) tb]) ++ rb) eb) := by rw [hb]; simp
    run_tac drive { split := true, ids := ["list.__eq__.loop"], lems := [`Mine.pylong, `Mine.get_mid, `Mine.get_end] }
    · run_tac use `ih
      exact hR _ _ _ (by simp_all; (run_tac om)) (by assumption)
    · run_tac use `ih
      exact hR _ _ _ (by simp_all; (run_tac om)) (by assumption)
    · exact hR _ _ _ (by simp; left; (run_tac om)) (by assumption)
  run_tac sqOut
theorem list_eq (X : (K w.params).In h₀) (D : Hp h₀ h vs news) (hdp : dp ≤ 700) (hun : un ≤ 7000) {a b : Addr} {ea eb : Nat} {la lb : List Value} {ns ms : List Nat} (ha : h.get? a = some (listO la ea)) (hb : h.get? b = some (listO lb eb)) (na : Nums la ns) (nb : Nums lb ms)
    (hR : ∀ x h' t', x = decide (ns = ms) → Hp h₀ h' vs news → R (.ok (.ret (.bool x))) ⟨h', g, d, t', os⟩) : RunsB w (At dp un fr gd) "list.__eq__" [.ref a, .ref b] R ⟨h, g, d, t, os⟩ := by
  run_tac sqIn
  have l1 := na.length
  have l2 := nb.length
  have X' := D.inFrag X K40
  have D' := D.here
  by_cases hl : la.length = lb.length
  · run_tac drive { ids := ["list.__eq__.loop"] }
    have := eq_loop (w := w) (R := R) (g := g) (d := d) (os := os) (dp := dp) (un := un) (fr := fr) (gd := gd) (vs := vs) X' (by (run_tac om)) (by (run_tac om)) ns _ ms la lb [] [] 0 t DD na nb (by (run_tac om)) rfl rfl ha hb fun x h' t' e D2 => hR x h' t' e (D.trans D2)
    run_tac use `this
  · run_tac drive { ids := ["list.__eq__.loop"] }
    exact hR _ _ _ (by symm; rw [decide_eq_false_iff_not]; rintro rfl; (run_tac om)) (D.trans DD)
  run_tac sqOut
theorem list_ne (X : (K w.params).In h₀) (D : Hp h₀ h vs news) (hdp : dp ≤ 700) (hun : un ≤ 7000) {a b : Addr} {ea eb : Nat} {la lb : List Value} {ns ms : List Nat} (ha : h.get? a = some (listO la ea)) (hb : h.get? b = some (listO lb eb)) (na : Nums la ns) (nb : Nums lb ms)
    (hR : ∀ x h' t', x = decide (ns ≠ ms) → Hp h₀ h' vs news → R (.ok (.ret (.bool x))) ⟨h', g, d, t', os⟩) : RunsB w (At dp un fr gd) "list.__ne__" [.ref a, .ref b] R ⟨h, g, d, t, os⟩ := by
  run_tac sqIn
  have l1 := na.length
  have l2 := nb.length
  have X' := D.inFrag X K40
  have D' := D.here
  by_cases hl : la.length = lb.length
  · run_tac drive { ids := ["list.__eq__.loop"] }
    have := ne_loop (w := w) (R := R) (g := g) (d := d) (os := os) (dp := dp) (un := un) (fr := fr) (gd := gd) (vs := vs) X' (by (run_tac om)) (by (run_tac om)) ns _ ms la lb [] [] 0 t DD na nb (by (run_tac om)) rfl rfl ha hb fun x h' t' e D2 => hR x h' t' e (D.trans D2)
    run_tac use `this
  · run_tac drive { ids := ["list.__eq__.loop"] }
    exact hR _ _ _ (by symm; rw [decide_eq_true_eq]; rintro rfl; (run_tac om)) (D.trans DD)
  run_tac sqOut
end
end Mine
end
section
open PySem PySem.W PySem.W.X PyProof.Rows
set_option maxRecDepth 100000
set_option maxHeartbeats 4000000
set_option Elab.async false
set_option linter.unusedVariables false
namespace Mine
section
variable {w : World} {h h₀ : Heap} {vs : Array Value} {g : Array GenState} {d : Drawn} {t : Nat} {os : OsState} {dp un : Nat} {fr : List Env} {gd : List Code} {R : Result → Shared → Prop} {A : Around} {news : List (Addr × Obj)}

noncomputable abbrev iterO (l : Addr) (i : Int) : Obj := ⟨.type "list_iterator", none, .fields ⟨[.ref l, .int i 0]⟩, ⟨[]⟩⟩
theorem all_loop (X : (K w.params).In h₀) (hdp : dp ≤ 700) (hun : un ≤ 7000) {l it : Addr} {e : Nat} (rest : List Bool) : ∀ (h : Heap) (pre : List Bool) (i : Int) (t : Nat), i = pre.length → h₀.get? l = some (listO ((pre ++ rest).map Value.bool) e) → Hp h₀ h vs [(it, iterO l i)] →
    (∀ x h' t', x = rest.all id → Hp h₀ h' vs [] → R (.ok (.ret (.bool x))) ⟨h', g, d, t', os⟩) → RunsB w (At dp un fr gd) "all.loop" [.ref it] R ⟨h, g, d, t, os⟩ := by
  run_tac sqIn
  induction rest with
  | nil =>
    intro h pre i t hi hl D hR
    rw [List.append_nil] at hl
    run_tac drive { lems := [`Mine.pylong, `Mine.get_mid, `Mine.get_end] }
    exact hR _ _ _ rfl (Hp.less (by assumption) (List.nil_sublist _))
  | cons b rest ih =>
    intro h pre i t hi hl D hR
    have hl' : h₀.get? l = some (listO (pre.map Value.bool ++ Value.bool b :: rest.map Value.bool) e) := by rw [hl]; simp
    have hl2 : h₀.get? l = some (listO (((pre ++ [b]) ++ rest).map Value.bool) e) := by rw [hl]; simp
    clear hl
    cases b with
    | false =>
      clear hl2
      run_tac drive { lems := [`Mine.pylong, `Mine.get_mid, `Mine.get_end] }
      exact hR _ _ _ (by simp) (Hp.less (by assumption) (List.nil_sublist _))
    | true =>
      run_tac drive { ids := ["all.loop"], lems := [`Mine.pylong, `Mine.get_mid, `Mine.get_end] }
      clear hl'
      run_tac use `ih
      · exact hR _ _ _ (by simp_all) (by assumption)
  run_tac sqOut
theorem all_list (X : (K w.params).In h₀) (D : Hp h₀ h vs news) (hdp : dp ≤ 650) (hun : un ≤ 6000) {l : Addr} {e : Nat} {bl : List Bool} (hl : h.get? l = some (listO (bl.map Value.bool) e))
    (hR : ∀ x h' t', x = bl.all id → Hp h₀ h' vs news → R (.ok (.ret (.bool x))) ⟨h', g, d, t', os⟩) : RunsB w (At dp un fr gd) "all" [.ref l] R ⟨h, g, d, t, os⟩ := by
  run_tac sqIn
  have X' := D.inFrag X K40
  have D' := D.here
  have hA := fun it h1 t1 D1 => all_loop (w := w) (R := R) (g := g) (d := d) (os := os) (dp := dp) (un := un) (fr := fr) (gd := gd) (vs := vs) (it := it) X' (by (run_tac om)) (by (run_tac om)) bl h1 [] 0 t1 rfl hl D1 fun x h' t' ex D2 => hR x h' t' ex (D.trans D2)
  run_tac drive { ids := ["all.loop"] }
  run_tac use `hA
  run_tac sqOut
end
end Mine
end
section
open PySem PySem.W PySem.W.X PyProof.Rows
set_option maxRecDepth 100000
set_option maxHeartbeats 4000000
set_option Elab.async false
set_option linter.unusedVariables false
namespace Mine
section
variable {w : World} {h h₀ : Heap} {vs : Array Value} {g : Array GenState} {d : Drawn} {t : Nat} {os : OsState} {dp un : Nat} {fr : List Env} {gd : List Code} {R : Result → Shared → Prop} {A : Around} {news : List (Addr × Obj)}

/-- a comprehension's start: the iterator's own iterator is itself -/
theorem comp_start {elt tg it : Expr} {ifs : List Expr} {sc : Scope} {pos : Pos} {acc : Value} {env : Env} {i l : Addr} {k : Int} (X : (K w.params).In h₀) (D : Hp h₀ h vs news) (hdp : dp ≤ 800) (hun : un ≤ 8000) (hi : h.get? i = some (iterO l k))
    (hR : ∀ h' t', Hp h₀ h' vs news → wpOwn (model P w) (At dp un fr gd) (.compLoop (.ListComp elt [⟨tg, it, ifs, 0⟩] sc pos) 0 (.ref i) acc env) (denote table (.compLoop (.ListComp elt [⟨tg, it, ifs, 0⟩] sc pos) 0 (.ref i) acc env)) (postC P w (At dp un fr gd) R) (postE R) ⟨h', g, d, t', os⟩) :
    wpOwn (model P w) (At dp un fr gd) (.compStart (.ListComp elt [⟨tg, it, ifs, 0⟩] sc pos) 0 (.ref i) acc env) (denote table (.compStart (.ListComp elt [⟨tg, it, ifs, 0⟩] sc pos) 0 (.ref i) acc env)) (postC P w (At dp un fr gd) R) (postE R) ⟨h, g, d, t, os⟩ := by
  run_tac sqIn
  have X' := D.inFrag X K40
  have D' := D.here
  have hR' := fun h' t' (DD : Hp h h' vs []) => hR h' t' (D.trans DD)
  run_tac drive {}
  · run_tac use `hR'
  · run_tac use `hR'
  run_tac sqOut
theorem Nums.take {l : List Value} {ns : List Nat} (a : Nums l ns) (k : Nat) : Nums (l.take k) (ns.take k) := by
  run_tac sqIn
  induction a generalizing k with
  | nil => simp; exact .nil
  | cons n t _ ih =>
    cases k with
    | zero => simp; exact .nil
    | succ k => simp; exact .cons n t (ih k)
  run_tac sqOut
theorem Nums.drop {l : List Value} {ns : List Nat} (a : Nums l ns) (k : Nat) : Nums (l.drop k) (ns.drop k) := by
  run_tac sqIn
  induction a generalizing k with
  | nil => simp; exact .nil
  | cons n t a ih =>
    cases k with
    | zero => simp; exact .cons n t a
    | succ k => simp; exact ih k
  run_tac sqOut
noncomputable def allowedOf (bs : List Nat) : Bool := if bs.take 1 = [20] then (bs.drop 1).all (fun n => decide (n < 16)) else decide (bs.take 4 ≠ [15, 14, 12, 11]) && bs.all (fun n => decide (n < 20))
theorem cast_lt16 (n : Nat) (x : Decidable ((n : Int) < 16)) : (Decidable.rec (motive := fun _ => Bool) (fun _ => false) (fun _ => true) x : Bool) = decide (n < 16) := by
  rw [rec_decide x inferInstance, decide_eq_decide]; (run_tac om)
theorem cast_lt20 (n : Nat) (x : Decidable ((n : Int) < 20)) : (Decidable.rec (motive := fun _ => Bool) (fun _ => false) (fun _ => true) x : Bool) = decide (n < 20) := by
  rw [rec_decide x inferInstance, decide_eq_decide]; (run_tac om)
theorem bools_push (np : List Nat) (n k : Nat) : (np.map (fun n => decide (n < k))).map Value.bool ++ [Value.bool (decide (n < k))] = ((np ++ [n]).map (fun n => decide (n < k))).map Value.bool := by simp
theorem allowed (X : (K w.params).In h) (D : Hp h h vs []) (hdp : dp ≤ 500) (hun : un ≤ 4000)
    (l : Addr) (items : List Value) (e : Nat) (bs : List Nat) (hl : h.get? l = some (listO items e)) (hN : Nums items bs) (hsz : bs.length ≤ 32)
    (hR : ∀ b h' t' , b = allowedOf bs → Hp h h' vs [] → R (.ok (.ret (.bool b))) ⟨h', g, d, t', os⟩) :
    Runs w dp un fr gd 85 [.ref l] R ⟨h, g, d, t, os⟩ := by
  run_tac sqIn
  have hlen := hN.length
  have n1 := hN.take 1
  have n4 := hN.take 4
  have n20 := fun t => Nums.one 20 t
  have nx := fun t1 t2 t3 t4 => Nums.cons 15 t1 (Nums.cons 14 t2 (Nums.cons 12 t3 (Nums.cons 11 t4 .nil)))
  run_tac drive { split := true, lems := [`Mine.pylong, `Mine.get_mid, `Mine.get_end], auto := [("compStart", `Mine.comp_start), ("list.__getitem__", `Mine.list_upto), ("list.__getitem__", `Mine.list_from), ("list.__eq__", `Mine.list_eq), ("list.__ne__", `Mine.list_ne)] }
  · rename_i hbs D1
    have hd1 : (items.drop (Int.toNat 1)).length ≤ 32 := by simp; (run_tac om)
    refine loop_ind (fun m h' t' => ∃ (pre rest : List Value) (np nr : List Nat) (ev : List DictEntry) (e1 e2 t0 : Nat) (hs0 : Int), items.drop (Int.toNat 1) = pre ++ rest ∧ bs.drop 1 = np ++ nr ∧ Nums pre np ∧ Nums rest nr ∧ m = rest.length ∧
      Hp h h' vs [(a8, ⟨.type "dict", none, .dict ⟨ev⟩ e2, ⟨[]⟩⟩), (a7, listO ((np.map (fun n => decide (n < 16))).map Value.bool) e1), (a6, iterO rf pre.length), (rf, listO (items.drop (Int.toNat 1)) 0), (a0, frameO [ent hs0 [98, 105, 116, 115] t0 (.ref l)] 1)] ∧ (ev = [] ∨ ∃ hs tk v, ev = [ent hs [112, 108, 97, 99, 101] tk v])) ?_ (items.drop (Int.toNat 1)).length
      ⟨[], items.drop (Int.toNat 1), [], bs.drop 1, [], 0, 0, _, _, rfl, rfl, .nil, hN.drop 1, rfl, D1.less (.cons_cons _ (.cons_cons _ (.cons_cons _ (.cons_cons _ (.cons _ (.cons _ (.cons _ (.cons _ (.cons_cons _ .slnil))))))))), .inl rfl⟩
    rintro m h2 t2 ih ⟨pre, rest, np, nr, ev, e1, e2, t0, hs0, hd, hdb, hp, hr, rfl, D2, hev⟩
    have hlp := hp.length
    cases hr with
    | nil =>
      rw [List.append_nil] at hd hdb
      rw [hd] at D2
      have hA : ∀ x, x = (List.map (fun n => decide (n < 16)) np).all id → x = allowedOf bs := by
        rintro x rfl; unfold allowedOf; rw [if_pos hbs, hdb]; simp [List.all_map, Function.comp_def]
      rcases hev with rfl | ⟨hs, tk, v, rfl⟩
      · run_tac drive { auto := [("all", `Mine.all_list)], lems := [`Mine.pylong, `Mine.get_mid, `Mine.get_end] }
        exact hR _ _ _ (hA _ (by assumption)) (Hp.less (by assumption) (List.nil_sublist _))
      · run_tac drive { auto := [("all", `Mine.all_list)], lems := [`Mine.pylong, `Mine.get_mid, `Mine.get_end] }
        exact hR _ _ _ (hA _ (by assumption)) (Hp.less (by assumption) (List.nil_sublist _))
    | cons n tn hr =>
      rename_i rest nr
      rw [hd] at D2
      have hz : np.length < 32 := by have : (pre ++ Value.int (↑n) tn :: rest).length ≤ 32 := hd ▸ hd1; simp at this; (run_tac om)
      have hd' : items.drop (Int.toNat 1) = (pre ++ [Value.int (↑n) tn]) ++ rest := by rw [hd]; simp
      have hdb' : bs.drop 1 = (np ++ [n]) ++ nr := by rw [hdb]; simp
      rcases hev with rfl | ⟨hs, tk, v, rfl⟩
      all_goals
        run_tac drive { ids := ["int.__lt__"], lems := [`Mine.pylong, `Mine.get_mid, `Mine.get_end] }
      run_tac joinQ
      run_tac drive { lems := [`Mine.pylong, `Mine.get_mid, `Mine.get_end] }
      rw [cast_lt16 n, bools_push, ← hd] at DD
      exact ih _ _ _ (by simp) ⟨_, _, _, _, _, _, _, _, _, hd', hdb', hp.append (.one n tn), hr, rfl, by simpa using DD, .inr ⟨_, _, _, rfl⟩⟩
  · exact hR _ _ _ (by symm; unfold allowedOf; simp_all) (Hp.less (by assumption) (List.nil_sublist _))
  · rename_i D1
    have h1 : ¬ bs.take 1 = [20] := by simp_all
    have h4 : bs.take 4 ≠ [15, 14, 12, 11] := by simp_all
    refine loop_ind (fun m h' t' => ∃ (pre rest : List Value) (np nr : List Nat) (ev : List DictEntry) (e1 e2 t0 : Nat) (hs0 : Int), items = pre ++ rest ∧ bs = np ++ nr ∧ Nums pre np ∧ Nums rest nr ∧ m = rest.length ∧
      Hp h h' vs [(a9, ⟨.type "dict", none, .dict ⟨ev⟩ e2, ⟨[]⟩⟩), (a8, listO ((np.map (fun n => decide (n < 20))).map Value.bool) e1), (a7, iterO l pre.length), (a0, frameO [ent hs0 [98, 105, 116, 115] t0 (.ref l)] 1)] ∧ (ev = [] ∨ ∃ hs tk v, ev = [ent hs [112, 108, 97, 99, 101] tk v])) ?_ items.length
      ⟨[], items, [], bs, [], 0, 0, _, _, rfl, rfl, .nil, hN, rfl, D1.less (.cons_cons _ (.cons_cons _ (.cons_cons _ (.cons _ (.cons _ (.cons _ (.cons _ (.cons _ (.cons _ (.cons_cons _ .slnil)))))))))), .inl rfl⟩
    rintro m h2 t2 ih ⟨pre, rest, np, nr, ev, e1, e2, t0, hs0, hd, hdb, hp, hr, rfl, D2, hev⟩
    have hlp := hp.length
    have hl2 := hd ▸ hl
    cases hr with
    | nil =>
      rw [List.append_nil] at hd hdb hl2
      clear hl
      have hA : ∀ x, x = (List.map (fun n => decide (n < 20)) np).all id → x = allowedOf bs := by
        rintro x rfl; unfold allowedOf; rw [if_neg h1, decide_eq_true h4, hdb]; simp [List.all_map, Function.comp_def]
      rcases hev with rfl | ⟨hs, tk, v, rfl⟩
      · run_tac drive { auto := [("all", `Mine.all_list)], lems := [`Mine.pylong, `Mine.get_mid, `Mine.get_end] }
        exact hR _ _ _ (hA _ (by assumption)) (Hp.less (by assumption) (List.nil_sublist _))
      · run_tac drive { auto := [("all", `Mine.all_list)], lems := [`Mine.pylong, `Mine.get_mid, `Mine.get_end] }
        exact hR _ _ _ (hA _ (by assumption)) (Hp.less (by assumption) (List.nil_sublist _))
    | cons n tn hr =>
      rename_i rest nr
      have hz : np.length < 32 := by have : (pre ++ Value.int (↑n) tn :: rest).length ≤ 32 := by rw [← hd]; (run_tac om)
                                     simp at this; (run_tac om)
      have hd' : items = (pre ++ [Value.int (↑n) tn]) ++ rest := by rw [hd]; simp
      have hdb' : bs = (np ++ [n]) ++ nr := by rw [hdb]; simp
      clear hl
      rcases hev with rfl | ⟨hs, tk, v, rfl⟩
      all_goals
        run_tac drive { ids := ["int.__lt__"], lems := [`Mine.pylong, `Mine.get_mid, `Mine.get_end] }
      run_tac joinQ
      run_tac drive { lems := [`Mine.pylong, `Mine.get_mid, `Mine.get_end] }
      rw [cast_lt20 n, bools_push] at DD
      exact ih _ _ _ (by simp) ⟨_, _, _, _, _, _, _, _, _, hd', hdb', hp.append (.one n tn), hr, rfl, by simpa using DD, .inr ⟨_, _, _, rfl⟩⟩
  run_tac sqOut
variable {h₀ : Heap} {news : List (Addr × Obj)}
theorem allowed' (X : (K w.params).In h₀) (D : Hp h₀ h vs news) (hdp : dp ≤ 500) (hun : un ≤ 4000)
    (l : Addr) (items : List Value) (e : Nat) (bs : List Nat) (hl : h.get? l = some (listO items e)) (hN : Nums items bs) (hsz : bs.length ≤ 32)
    (hR : ∀ b h' t' , b = allowedOf bs → Hp h₀ h' vs news → R (.ok (.ret (.bool b))) ⟨h', g, d, t', os⟩) :
    Runs w dp un fr gd 85 [.ref l] R ⟨h, g, d, t, os⟩ := allowed (D.inFrag X K40) D.here hdp hun l items e bs hl hN hsz fun b h' t' e D' => hR b h' t' e (D.trans D')
end
end Mine
end
section
open PySem PySem.W PySem.W.X PyProof.Rows
set_option maxRecDepth 100000
set_option maxHeartbeats 4000000
set_option Elab.async false
set_option linter.unusedVariables false
namespace Mine
/-- the places' worth, figure by figure -/
noncomputable def worthAt (wd : Nat) (bs : List Nat) (i : Nat) : Nat := ((bs.filter fun p => wd - 1 - p / 4 == i).map fun p => 2 ^ (p % 4)).sum
noncomputable def worthOf (wd : Nat) (bs : List Nat) : List Nat := (List.range wd).map (worthAt wd bs)
theorem worthOf_length (wd : Nat) (bs : List Nat) : (worthOf wd bs).length = wd := by simp [worthOf]
theorem worthOf_nil (wd : Nat) : worthOf wd [] = List.replicate wd 0 := by
  run_tac sqIn
  unfold worthOf
  apply List.ext_getElem <;> simp [worthAt]
  run_tac sqOut
theorem Nums.replicate (n : Nat) (tk : Tok) : ∀ k : Nat, Nums (List.replicate k (.int (n : Int) tk)) (List.replicate k n)
  | 0 => .nil
  | k + 1 => .cons n tk (Nums.replicate n tk k)
theorem Nums.split {l : List Value} {ns : List Nat} (a : Nums l ns) (k : Nat) (hk : k < ns.length) :
    ∃ l1 l2 tk, l = l1 ++ .int (ns[k] : Int) tk :: l2 ∧ l1.length = k ∧ ∀ m t', Nums (l1 ++ .int (m : Int) t' :: l2) (ns.set k m) := by
  run_tac sqIn
  induction a generalizing k with
  | nil => simp at hk
  | cons n t a ih =>
    cases k with
    | zero => exact ⟨[], _, t, rfl, rfl, fun m t' => .cons m t' a⟩
    | succ k =>
      obtain ⟨l1, l2, tk, e, hl, H⟩ := ih k (by simpa using hk)
      refine ⟨_ :: l1, l2, tk, by rw [e]; simp, by simp [hl], fun m t' => .cons n t (H m t')⟩
  run_tac sqOut
theorem worthOf_snoc (wd : Nat) (bs : List Nat) (p : Nat) (hk : wd - 1 - p / 4 < (worthOf wd bs).length) :
    worthOf wd (bs ++ [p]) = (worthOf wd bs).set (wd - 1 - p / 4) ((worthOf wd bs)[wd - 1 - p / 4] + 2 ^ (p % 4)) := by
  run_tac sqIn
  apply List.ext_getElem
  · simp [worthOf]
  · intro i h1 h2
    rw [List.getElem_set]
    simp only [worthOf, List.getElem_map, List.getElem_range, worthAt, List.filter_append, List.map_append, List.sum_append]
    split
    · rename_i e; subst e; simp
    · rename_i e
      have : (wd - 1 - p / 4 == i) = false := by simpa using e
      simp [this]
  run_tac sqOut
theorem set_mid (l1 l2 : List Value) (v v' : Value) : ({ toList := l1 ++ v :: l2 } : Array Value).setIfInBounds l1.length v' = ⟨l1 ++ v' :: l2⟩ := by
  run_tac sqIn
  apply Array.ext'
  simp
  run_tac sqOut
noncomputable abbrev cellO (v : Value) : Obj := ⟨.type "cell", none, .cell (some v), ⟨[]⟩⟩
noncomputable def hexTab : List Nat := [48, 49, 50, 51, 52, 53, 54, 55, 56, 57, 97, 98, 99, 100, 101, 102, 48, 49, 50, 51, 52, 53, 54, 55, 56, 57, 65, 66, 67, 68, 69, 70]
noncomputable def hexAt (y : Int) (i n : Nat) : Nat := hexTab.getD (n + 16 * ((y + i) % 2).toNat) 0
noncomputable def figsFrom (y : Int) : Nat → List Nat → List Nat
  | _, [] => []
  | k, n :: r => hexAt y k n :: figsFrom y (k + 1) r
theorem figsFrom_snoc (y : Int) (n : Nat) : ∀ (l : List Nat) (k : Nat), figsFrom y k (l ++ [n]) = figsFrom y k l ++ [hexAt y (k + l.length) n]
  | [], k => by simp [figsFrom]
  | m :: l, k => by rw [List.cons_append, figsFrom, figsFrom_snoc y n l (k + 1), figsFrom, List.length_cons, show k + 1 + l.length = k + (l.length + 1) by (run_tac om)]; rfl
theorem figsFrom_length (y : Int) : ∀ (l : List Nat) (k : Nat), (figsFrom y k l).length = l.length
  | [], _ => rfl
  | m :: l, k => by rw [figsFrom, List.length_cons, figsFrom_length y l (k + 1), List.length_cons]
theorem hexTab_at (y : Int) (k n : Nat) (hn : n < 16) : (⟨⟨[48, 49, 50, 51, 52, 53, 54, 55, 56, 57, 97, 98, 99, 100, 101, 102, 48, 49, 50, 51, 52, 53, 54, 55, 56, 57, 65, 66, 67, 68, 69, 70]⟩⟩ : Str).cps[((n : Int) + 16 * (y + k).fmod 2).toNat]? = some (hexAt y k n) := by
  run_tac sqIn
  have e : ((n : Int) + 16 * (y + k).fmod 2).toNat = n + 16 * ((y + k) % 2).toNat := by
    rw [Int.fmod_eq_emod_of_nonneg _ (by decide)]; (run_tac om)
  rw [e]
  have hl : n + 16 * ((y + k) % 2).toNat < hexTab.length := by show _ < 32; (run_tac om)
  show (⟨hexTab⟩ : Array Nat)[n + 16 * ((y + k) % 2).toNat]? = _
  unfold hexAt
  rw [List.getElem?_toArray, List.getD_eq_getElem?_getD, List.getElem?_eq_getElem hl]; rfl
  run_tac sqOut
section
variable {w : World} {h h₀ : Heap} {vs : Array Value} {g : Array GenState} {d : Drawn} {t : Nat} {os : OsState} {dp un : Nat} {fr : List Env} {gd : List Code} {R : Result → Shared → Prop} {news : List (Addr × Obj)}
theorem comp_startE {elt tg it : Expr} {ifs : List Expr} {sc : Scope} {pos : Pos} {acc : Value} {env : Env} {i l : Addr} {tup : Value} {b : Bool} {k : Int} (X : (K w.params).In h₀) (D : Hp h₀ h vs news) (hdp : dp ≤ 800) (hun : un ≤ 8000) (hi : h.get? i = some (enumO l tup b k))
    (hR : ∀ h' t', Hp h₀ h' vs news → wpOwn (model P w) (At dp un fr gd) (.compLoop (.ListComp elt [⟨tg, it, ifs, 0⟩] sc pos) 0 (.ref i) acc env) (denote table (.compLoop (.ListComp elt [⟨tg, it, ifs, 0⟩] sc pos) 0 (.ref i) acc env)) (postC P w (At dp un fr gd) R) (postE R) ⟨h', g, d, t', os⟩) :
    wpOwn (model P w) (At dp un fr gd) (.compStart (.ListComp elt [⟨tg, it, ifs, 0⟩] sc pos) 0 (.ref i) acc env) (denote table (.compStart (.ListComp elt [⟨tg, it, ifs, 0⟩] sc pos) 0 (.ref i) acc env)) (postC P w (At dp un fr gd) R) (postE R) ⟨h, g, d, t, os⟩ := by
  run_tac sqIn
  have X' := D.inFrag X K40
  have D' := D.here
  have hR' := fun h' t' (DD : Hp h h' vs []) => hR h' t' (D.trans DD)
  run_tac drive { doubt := true }
  · run_tac use `hR'
  · run_tac use `hR'
  run_tac sqOut
end
section
variable {w : World} {h : Heap} {vs : Array Value} {g : Array GenState} {d : Drawn} {t : Nat} {os : OsState} {dp un : Nat} {fr : List Env} {gd : List Code} {R : Result → Shared → Prop}
theorem figures (X : (K w.params).In h) (D : Hp h h vs []) (hdp : dp ≤ 500) (hun : un ≤ 4000)
    (l : Addr) (items : List Value) (e : Nat) (wd : Nat) (y : Int) (tw ty : Tok) (hl : h.get? l = some (listO items e)) (hw : wd ≤ 8) (h1 : 1 ≤ wd) (hy : 0 ≤ y)
    (bs : List Nat) (hN : Nums items bs) (hb : ∀ p ∈ bs, p < 4 * wd) (h16 : ∀ n ∈ worthOf wd bs, n < 16) (hR : ∀ tf h' t', Hp h h' vs [] → R (.ok (.ret (.str ⟨⟨figsFrom y 0 (worthOf wd bs)⟩⟩ tf))) ⟨h', g, d, t', os⟩) :
    Runs w dp un fr gd 90 [.ref l, .int wd tw, .int y ty] R ⟨h, g, d, t, os⟩ := by
  run_tac sqIn
  run_tac drive { doubt := true, auto := [("list.__mul__", `Mine.list_mul)] }
  refine loop_ind (fun m h' t' => ∃ (pre rest W : List Value) (np nr ws : List Nat) (ev : List DictEntry) (e1 e2 t0 t1 t2 : Nat) (hs0 hs1 hs2 : Int), items = pre ++ rest ∧ bs = np ++ nr ∧ Nums pre np ∧ Nums rest nr ∧ Nums W ws ∧ ws = worthOf wd np ∧ m = rest.length ∧
    Hp h h' vs [(a4, iterO l pre.length), (rm, listO W e1), (a1, cellO (.int y ty)), (a0, frameO ([ent hs0 [98, 105, 116, 115] t0 (.ref l), ent hs1 [119, 105, 100, 116, 104] t1 (.int wd tw), ent hs2 [119, 111, 114, 116, 104] t2 (.ref rm)] ++ ev) e2)] ∧ (ev = [] ∨ ∃ hs tk v, ev = [ent hs [112, 108, 97, 99, 101] tk v])) ?_ items.length
    ⟨[], items, _, [], bs, _, [], _, _, _, _, _, _, _, _, rfl, rfl, .nil, hN, Nums.replicate 0 _ wd, (worthOf_nil wd).symm, rfl, by simpa using DD.less (.cons_cons _ (.cons_cons _ (.cons _ (.cons_cons _ (.cons_cons _ .slnil))))), .inl rfl⟩
  rintro m h2 t2 ih ⟨pre, rest, W, np, nr, ws, ev, e1, e2, t0, t1, t2', hs0, hs1, hs2, hd, hdb, hp, hr, hW, hws, rfl, D2, hev⟩
  have hlp := hp.length
  have hl2 := hd ▸ hl
  cases hr with
  | nil =>
    rw [List.append_nil] at hd hdb hl2
    clear hl ih
    have hwl : ws.length = wd := by rw [hws, worthOf_length]
    have h16 : ∀ n ∈ ws, n < 16 := by rw [hws, ← hdb]; exact h16
    run_tac drive { doubt := true, auto := [("enumerate.__new__", `Mine.enum_new), ("compStart", `Mine.comp_startE)], lems := [`Mine.pylong, `Mine.get_mid, `Mine.get_end] }
    rename_i D3
    refine loop_ind (fun m h' t' => ∃ (out V1 V2 : List Value) (cs n1 n2 : List Nat) (ev1 : List DictEntry) (last : Value) (f1 f2 : Nat), W = V1 ++ V2 ∧ ws = n1 ++ n2 ∧ Nums V1 n1 ∧ Nums V2 n2 ∧ Chars out cs ∧ cs = figsFrom y 0 n1 ∧ m = V2.length ∧
      Hp h h' vs [(a9, ⟨.type "dict", none, .dict ⟨ev1⟩ f1, ⟨[]⟩⟩), (a8, listO out f2), (en, ⟨.type "enumerate", none, .fields ⟨[.none, .bool false, .ref ei, .int V1.length 0, .none, last]⟩, ⟨[]⟩⟩), (ei, iterL rm V1.length), (rm, listO W e1), (a1, cellO (.int y ty)), (a0, frameO ([ent hs0 [98, 105, 116, 115] t0 (.ref l), ent hs1 [119, 105, 100, 116, 104] t1 (.int wd tw), ent hs2 [119, 111, 114, 116, 104] t2' (.ref rm)] ++ ev) e2)] ∧ (ev1 = [] ∨ ∃ g1 g2 k1 k2 v1 v2, ev1 = [ent g1 [97, 116] k1 v1, ent g2 [111, 110, 101] k2 v2])) ?_ W.length
      ⟨[], [], W, [], [], ws, [], .none, 0, 0, rfl, rfl, .nil, hW, .nil, rfl, rfl, D3.less (.cons_cons _ (.cons_cons _ (.cons_cons _ (.cons_cons _ (.cons _ (.cons _ (.cons _ (.cons_cons _ (.cons_cons _ (.cons_cons _ .slnil)))))))))), .inl rfl⟩
    rintro m h3 t3 ih ⟨out, V1, V2, cs, n1, n2, ev1, last, f1, f2, hW1, hw1, hV1, hV2, hout, hcs, rfl, D4, hev1⟩
    have hl1 := hV1.length
    cases hV2 with
    | nil =>
      rw [List.append_nil] at hW1 hw1
      rw [hW1] at D4
      have hcl : cs.length ≤ 100 := by rw [hcs, figsFrom_length, ← hw1]; (run_tac om)
      have hfin : figsFrom y 0 (worthOf wd bs) = cs := by rw [hcs, ← hw1, hws, hdb]
      rw [hfin] at hR
      rcases hev1 with rfl | ⟨g1, g2, k1, k2, v1, v2, rfl⟩
      all_goals
        run_tac drive { doubt := true, auto := [("str.join", `Mine.join_chars)], lems := [`Mine.pylong, `Mine.get_mid, `Mine.get_end] }
        exact hR _ _ _ (Hp.less (by assumption) (List.nil_sublist _))
    | cons n tn hV2 =>
      rename_i V2 n2
      rw [hW1] at D4
      have hn : n < 16 := h16 n (by rw [hw1]; simp)
      have hf0 : 0 ≤ (y + (V1.length : Int)).fmod 2 := by rw [Int.fmod_eq_emod_of_nonneg _ (by decide)]; (run_tac om)
      have hf1 : (y + (V1.length : Int)).fmod 2 < 2 := by rw [Int.fmod_eq_emod_of_nonneg _ (by decide)]; (run_tac om)
      have hx := hexTab_at y V1.length n hn
      generalize hc : hexAt y V1.length n = c at hx
      have hv8 : V1.length ≤ 8 := by have := congrArg List.length hw1; simp at this; (run_tac om)
      have ho8 : out.length ≤ 8 := by have := hout.length; rw [hcs, figsFrom_length] at this; (run_tac om)
      have hW1' : W = (V1 ++ [Value.int (↑n) tn]) ++ V2 := by rw [hW1]; simp
      have hw1' : ws = (n1 ++ [n]) ++ n2 := by rw [hw1]; simp
      have hcs' : cs ++ [c] = figsFrom y 0 (n1 ++ [n]) := by rw [figsFrom_snoc, ← hcs, ← hc, hl1]; simp
      rcases hev1 with rfl | ⟨g1, g2, k1, k2, v1, v2, rfl⟩
      all_goals
        run_tac drive { doubt := true, ids := ["int.__add__"], lems := [`Mine.pylong, `Mine.get_mid, `Mine.get_end] }
      run_tac joinQ
      run_tac drive { doubt := true, split := true, auto := [("str.__getitem__", `Mine.str_item)], lems := [`Mine.pylong, `Mine.get_mid, `Mine.get_end] }
      rw [← hW1] at DD
      have D5 := DD.less (.cons _ (.cons _ (.cons _ (.cons _ (List.Sublist.refl _)))))
      exact ih _ _ _ (by simp) ⟨_, _, _, _, _, _, _, _, _, _, hW1', hw1', hV1.append (.one n tn), hV2, hout.append (.one c _), hcs', rfl, by simpa using D5, .inr ⟨_, _, _, _, _, _, rfl⟩⟩
  | cons p tp hr =>
    rename_i rest nr
    have hpb : p < 4 * wd := hb p (by rw [hdb]; simp)
    have hwl : ws.length = wd := by rw [hws, worthOf_length]
    have hk : wd - 1 - p / 4 < ws.length := by (run_tac om)
    obtain ⟨l1, l2, tk, rfl, hl1, H⟩ := hW.split _ hk
    have hkI : (wd : Int) - 1 - (p : Int).fdiv 4 = ((l1.length : Nat) : Int) := by rw [Int.fdiv_eq_ediv_of_nonneg _ (by decide)]; (run_tac om)
    clear hl
    have hd' : items = (pre ++ [Value.int (↑p) tp]) ++ rest := by rw [hd]; simp
    have hdb' : bs = (np ++ [p]) ++ nr := by rw [hdb]; simp
    have hsm : ∀ v', ({ toList := l1 ++ Value.int (↑ws[wd - 1 - p / 4]) tk :: l2 } : Array Value).setIfInBounds l1.length v' = ⟨l1 ++ v' :: l2⟩ := fun v' => set_mid l1 l2 _ v'
    have hnew : ws.set (wd - 1 - p / 4) (ws[wd - 1 - p / 4] + 2 ^ (p % 4)) = worthOf wd (np ++ [p]) := by subst hws; exact (worthOf_snoc wd np p hk).symm
    rcases hev with rfl | ⟨hs, tk', v, rfl⟩
    all_goals
      run_tac drive { doubt := true, ids := ["int.__sub__"], lems := [`Mine.pylong, `Mine.get_mid, `Mine.get_end] }
    run_tac joinQ
    run_tac drive { doubt := true, auto := [("int.__pow__", `Mine.pow2)], lems := [`Mine.pylong, `Mine.get_mid, `Mine.get_end] }
    have hkk : k = 2 ^ ((p : Int).fmod 4).toNat := by assumption
    have hkv : (↑ws[wd - 1 - p / 4] + k : Int) = ((ws[wd - 1 - p / 4] + 2 ^ (p % 4) : Nat) : Int) := by
      rw [hkk, Int.fmod_eq_emod_of_nonneg _ (by decide), show ((p : Int) % 4) = ((p % 4 : Nat) : Int) by (run_tac om), Int.toNat_natCast]; simp
    rw [hsm, hkv] at DD
    exact ih _ _ _ (by simp) ⟨_, _, _, _, _, _, _, _, _, _, _, _, _, _, _, hd', hdb', hp.append (.one p tp), hr, H _ _, hnew, rfl, by simpa using DD, .inr ⟨_, _, _, rfl⟩⟩
  run_tac sqOut
variable {h₀ : Heap} {news : List (Addr × Obj)}
theorem figures' (X : (K w.params).In h₀) (D : Hp h₀ h vs news) (hdp : dp ≤ 500) (hun : un ≤ 4000)
    (l : Addr) (items : List Value) (e : Nat) (wd : Nat) (y : Int) (tw ty : Tok) (hl : h.get? l = some (listO items e)) (hw : wd ≤ 8) (h1 : 1 ≤ wd) (hy : 0 ≤ y)
    (bs : List Nat) (hN : Nums items bs) (hb : ∀ p ∈ bs, p < 4 * wd) (h16 : ∀ n ∈ worthOf wd bs, n < 16) (hR : ∀ tf h' t', Hp h₀ h' vs news → R (.ok (.ret (.str ⟨⟨figsFrom y 0 (worthOf wd bs)⟩⟩ tf))) ⟨h', g, d, t', os⟩) :
    Runs w dp un fr gd 90 [.ref l, .int wd tw, .int y ty] R ⟨h, g, d, t, os⟩ :=
  figures (D.inFrag X K40) D.here hdp hun l items e wd y tw ty hl hw h1 hy bs hN hb h16 fun tf h' t' D' => hR tf h' t' (D.trans D')
end
end Mine
end
section
open PySem PySem.W PySem.W.X PyProof.Rows
set_option maxRecDepth 100000
set_option maxHeartbeats 4000000
set_option Elab.async false
set_option linter.unusedVariables false
namespace Mine
section
variable {w : World} {h : Heap} {vs : Array Value} {g : Array GenState} {d : Drawn} {t : Nat} {os : OsState} {dp un : Nat} {fr : List Env} {gd : List Code} {R : Result → Shared → Prop}
theorem where_ (X : (K w.params).In h) (D : Hp h h vs []) (hdp : dp ≤ 500) (hun : un ≤ 4000)
    (T : List Nat) (x : Int) (tT tp : Tok) (hT : T.length ≤ 100) (hx : 0 ≤ x)
    (hR : ∀ tr h' t' , Hp h h' vs [] → R (.ok (.ret (.str ⟨⟨whereOf T x.toNat⟩⟩ tr))) ⟨h', g, d, t', os⟩) :
    Runs w dp un fr gd 104 [.str ⟨⟨T⟩⟩ tT, .int x tp] R ⟨h, g, d, t, os⟩ := by
  run_tac sqIn
  obtain ⟨p, rfl⟩ := Int.eq_ofNat_of_zero_le hx
  have e1 : (⟨⟨T⟩⟩ : Str).length ≤ 100 := hT
  have e3 : (⟨⟨T⟩⟩ : Str).length = T.length := rfl
  by_cases hp : p < T.length
  · have e2 : p < (⟨⟨T⟩⟩ : Str).length := hp
    run_tac drive { split := false, ids := ["len"], auto := [("str.__getitem__", `Mine.str_upto)] }
    run_tac drive { split := false, ids := ["len"], auto := [("str.__getitem__", `Mine.str_upto), ("str.split", `Mine.str_lines)] }
    rename_i hi
    have e4 : (⟨items ++ [.str ⟨⟨tailOf (List.take (p : Int).toNat T)⟩⟩ tl]⟩ : Array Value).size = items.length + 1 := by simp
    have e5 := posFrom_len 10 (List.take (p : Int).toNat T) 0
    have e6 : (List.take (p : Int).toNat T).length = p := by simp; (run_tac om)
    have e7 : (tailOf (List.take (p : Int).toNat T)).length ≤ p := by unfold tailOf; simp; (run_tac om)
    have e8 : (⟨⟨tailOf (List.take (p : Int).toNat T)⟩⟩ : Str).length = (tailOf (List.take (p : Int).toNat T)).length := rfl
    run_tac drive { split := false, ids := [], lems := [`Mine.pylong, `Mine.last_item], auto := [("str.__mod__", `Mine.str_line)] }
    have ew : whereOf T (p : Int).toNat = lineText (((⟨items ++ [.str ⟨⟨tailOf (List.take (p : Int).toNat T)⟩⟩ tl]⟩ : Array Value).size : Nat) : Int) (((⟨⟨tailOf (List.take (p : Int).toNat T)⟩⟩ : Str).length : Nat) + 1 : Int) := by
      unfold whereOf
      rw [if_neg (by simp; (run_tac om)), e4, hi]
      rfl
    rw [← ew]
    exact hR _ _ _ (Hp.less (by assumption) (List.nil_sublist _))
  · have e2 : (⟨⟨T⟩⟩ : Str).length ≤ p := by (run_tac om)
    run_tac drive {}
    have ew : whereOf T (p : Int).toNat = [101, 110, 100, 32, 111, 102, 32, 100, 111, 99, 117, 109, 101, 110, 116] := by
      unfold whereOf
      rw [if_pos (by simp; (run_tac om))]
    rw [ew] at hR
    exact hR _ _ _ (Hp.less (by assumption) (List.nil_sublist _))
  run_tac sqOut
variable {h₀ : Heap} {news : List (Addr × Obj)}
theorem where' (X : (K w.params).In h₀) (D : Hp h₀ h vs news) (hdp : dp ≤ 500) (hun : un ≤ 4000)
    (T : List Nat) (x : Int) (tT tp : Tok) (hT : T.length ≤ 100) (hx : 0 ≤ x)
    (hR : ∀ tr h' t' , Hp h₀ h' vs news → R (.ok (.ret (.str ⟨⟨whereOf T x.toNat⟩⟩ tr))) ⟨h', g, d, t', os⟩) :
    Runs w dp un fr gd 104 [.str ⟨⟨T⟩⟩ tT, .int x tp] R ⟨h, g, d, t, os⟩ :=
  where_ (D.inFrag X K40) D.here hdp hun T x tT tp hT hx fun tr h' t' q => hR tr h' t' (D.trans q)
end
end Mine
end
section
open PySem PySem.W PySem.W.X PyProof.Rows
set_option maxRecDepth 100000
set_option maxHeartbeats 4000000
set_option Elab.async false
set_option linter.unusedVariables false
namespace Mine
section
variable {w : World} {h : Heap} {vs : Array Value} {g : Array GenState} {d : Drawn} {t : Nat} {os : OsState} {dp un : Nat} {fr : List Env} {gd : List Code} {R : Result → Shared → Prop}
noncomputable def numberOf (y : Int) : Int :=
  if y % 5 = 4 then y / 5 % 4194304 else (if y % 5 = 0 then 0 else if y % 5 = 1 then 53248 else if y % 5 = 2 then 1110016 else 61440) + y / 5 * 341 % 8192
theorem tup4 {h₀ : Heap} {A : Around} {news : List (Addr × Obj)} {l : Addr} {c0 c1 c2 c3 : Int} {t0 t1 t2 t3 ti : Tok} {e n : Nat} {i : Int} (D : Hp h₀ h vs news) (hl : h.get? l = some (tupO [.int c0 t0, .int c1 t1, .int c2 t2, .int c3 t3] e)) (hi : i = (n : Int)) (hn : n < 4)
    (hR : ∀ c tc h' t', c = (if n = 0 then c0 else if n = 1 then c1 else if n = 2 then c2 else c3) → Hp h₀ h' vs news → R (.ok (.ret (.int c tc))) ⟨h', g, d, t', os⟩) : RunsB w A "tuple.__getitem__" [.ref l, .int i ti] R ⟨h, g, d, t, os⟩ := by
  run_tac sqIn
  match n, hn with
  | 0, _ => exact tup_item D hl hi rfl (by decide) fun h' t' => hR _ _ h' t' rfl
  | 1, _ => exact tup_item D hl hi rfl (by decide) fun h' t' => hR _ _ h' t' rfl
  | 2, _ => exact tup_item D hl hi rfl (by decide) fun h' t' => hR _ _ h' t' rfl
  | 3, _ => exact tup_item D hl hi rfl (by decide) fun h' t' => hR _ _ h' t' rfl
  run_tac sqOut
theorem mul_341 {h₀ : Heap} {news : List (Addr × Obj)} (X : (K w.params).In h₀) (D : Hp h₀ h vs news) (hdp : dp ≤ 700) (hun : un ≤ 7000) {z : Int} {t1 t2 : Tok}
    (hR : ∀ tk h' t', Hp h₀ h' vs news → R (.ok (.ret (.int (z * 341) tk))) ⟨h', g, d, t', os⟩) : RunsB w (At dp un fr gd) "int.__mul__" [.int z t1, .int 341 t2] R ⟨h, g, d, t, os⟩ := by
  run_tac sqIn
  have hb : ¬ shortFactorBits < bitsQ 341 := by rw [bits_eq]; decide
  have X' := D.inFrag X K40
  have D' := D.here
  run_tac drive { doubt := true, split := true }
  all_goals exact hR _ _ _ (D.trans (by assumption))
  run_tac sqOut
theorem number (X : (K w.params).In h) (D : Hp h h vs []) (hdp : dp ≤ 600) (hun : un ≤ 5000)
    (y : Int) (tv : Tok) (h0 : 0 ≤ y) (hR : ∀ n tk h' t' , n = numberOf y → Hp h h' vs [] → R (.ok (.ret (.int n tk))) ⟨h', g, d, t', os⟩) :
    Runs w dp un fr gd 73 [.int y tv] R ⟨h, g, d, t, os⟩ := by
  run_tac sqIn
  have e5 : y.fmod 5 = y % 5 := Int.fmod_eq_emod_of_nonneg _ (by decide)
  have d5 : y.fdiv 5 = y / 5 := Int.fdiv_eq_ediv_of_nonneg _ (by decide)
  have m1 : ∀ z : Int, z.fmod 4194304 = z % 4194304 := fun z => Int.fmod_eq_emod_of_nonneg _ (by decide)
  have m2 : ∀ z : Int, z.fmod 8192 = z % 8192 := fun z => Int.fmod_eq_emod_of_nonneg _ (by decide)
  by_cases h4 : y.fmod 5 = ((4 : Nat) : Int)
  · run_tac drive { doubt := true }
    refine hR _ _ _ _ ?_ (Hp.less (by assumption) (List.nil_sublist _))
    rw [d5, m1]
    unfold numberOf
    rw [if_pos (by (run_tac om))]
  · obtain ⟨n, hn⟩ := Int.eq_ofNat_of_zero_le (show 0 ≤ y.fmod 5 by (run_tac om))
    have hn4 : n < 4 := by (run_tac om)
    have hn5 : ¬ ((n : Int) = 4) := by (run_tac om)
    run_tac drive { doubt := true, auto := [("tuple.__getitem__", `Mine.tup4), ("int.__mul__", `Mine.mul_341)] }
    refine hR _ _ _ _ ?_ (Hp.less (by assumption) (List.nil_sublist _))
    rename _ = ite _ _ _ => hc
    have hy5 : y % 5 = (n : Int) := by (run_tac om)
    have hne : ¬ y % 5 = 4 := by (run_tac om)
    rw [d5, m2, hc]
    unfold numberOf
    rw [if_neg hne, hy5]
    have : n = 0 ∨ n = 1 ∨ n = 2 ∨ n = 3 := by (run_tac om)
    rcases this with rfl | rfl | rfl | rfl <;> rfl
  run_tac sqOut
variable {h₀ : Heap} {news : List (Addr × Obj)}
theorem number' (X : (K w.params).In h₀) (D : Hp h₀ h vs news) (hdp : dp ≤ 600) (hun : un ≤ 5000)
    (y : Int) (tv : Tok) (h0 : 0 ≤ y) (hR : ∀ n tk h' t', n = numberOf y → Hp h₀ h' vs news → R (.ok (.ret (.int n tk))) ⟨h', g, d, t', os⟩) :
    Runs w dp un fr gd 73 [.int y tv] R ⟨h, g, d, t, os⟩ := number (D.inFrag X K40) D.here hdp hun y tv h0 fun n tk h' t' e D' => hR n tk h' t' e (D.trans D')
end
end Mine
end
section
open PySem PySem.W PySem.W.X PyProof.Rows
set_option maxRecDepth 100000
set_option maxHeartbeats 40000000
set_option Elab.async false
set_option linter.unusedVariables false
namespace Mine
open Lean Meta Elab Tactic in
def deepKw : Nat → Lean.Expr → (Lean.Expr → Bool) → MetaM Lean.Expr
  | 0, e, _ => return e
  | fuel + 1, e, bad => do
    unless bad e do return e
    let e ← XRun.kw e
    unless e.isApp do return e
    if e.isAppOfArity ``Str.mk 1 then return mkApp e.getAppFn (← nArr e.appArg! XRun.kw)
    let as ← e.getAppArgs.mapM fun a => deepKw fuel a bad
    return mkAppN e.getAppFn as
open Lean Meta Elab Tactic in
/-- the object of the def that suffixed_err makes, read off its own walk -/
def grabTac (goal : Lean.Expr) : TacticM Unit := do
  let main ← getMainGoal
  let m ← mkFreshExprSyntheticOpaqueMVar goal
  let (_, g) ← m.mvarId!.intros
  setGoals [g]
  drive { split := true, auto := [("new", `Mine.nought)] }
  let g ← getMainGoal
  let v ← g.withContext do
    let mut res := none
    for d in ← getLCtx do
      if d.type.isAppOfArity ``Hp 4 then
        let some l ← pairsOf 1000 (← instantiateMVars d.type).appArg! | continue
        for (_, o) in l do
          if o.isAppOfArity ``Obj.mk 4 && o.getAppArgs[2]!.isAppOfArity ``PySem.Data.func 1 && o.getAppArgs[0]!.isAppOfArity ``Value.type 1 then res := some o
    let some o := res | throwError "no def"
    let c ← XRun.kw (mkApp (mkConst ``PySem.FuncData.code) o.getAppArgs[2]!.appArg!)
    let x := c.appArg!
    let bad (e : Lean.Expr) : Bool := (e.find? fun y => y.isFVar && y != x).isSome
    let o ← deepKw 40 o bad
    if bad o then throwError "the def's object hangs on more: {o}"
    let o ← pieces "coord" 0 o
    mkLambdaFVars #[x] o
  main.assign v
  setGoals []
noncomputable abbrev CoordGoal : Prop := ∀ (w : World) (h : Heap) (g : Array GenState) (d : Drawn) (t : Nat) (os : OsState) (dp un : Nat) (fr : List Env) (gd : List Code) (R : Result → Shared → Prop) (X : (K w.params).In h) (D : Hp h h ⟨[]⟩ [])
  (hdp : dp ≤ 500) (hun : un ≤ 4000) (T msg : List Nat) (x : Int) (tT tp tm : Tok) (hm : msg.length ≤ 100), Runs w dp un fr gd 45 [.str ⟨⟨T⟩⟩ tT, .int x tp, .str ⟨⟨msg⟩⟩ tm] R ⟨h, g, d, t, os⟩
open Lean Meta Elab Tactic in
noncomputable def coordFn : Addr → Obj := by run_tac (do grabTac (← (do return ((← getConstInfo ``CoordGoal).value! : Lean.Expr) : MetaM Lean.Expr)))
end Mine
end
section
open PySem PySem.W PySem.W.X PyProof.Rows
set_option maxRecDepth 100000
set_option maxHeartbeats 40000000
set_option Elab.async false
set_option linter.unusedVariables false
namespace Mine
theorem lineText_cat (x y : Int) : (⟨(Str.empty ++ (⟨⟨[108, 105, 110, 101, 32]⟩⟩ : Str) ++ ⟨⟨decI x⟩⟩ ++ ⟨⟨[44, 32, 99, 111, 108, 117, 109, 110, 32]⟩⟩).cps ++ (⟨⟨decI y⟩⟩ : Str).cps⟩ : Str) = ⟨⟨lineText x y⟩⟩ := by
  run_tac sqIn
  apply Str.ext'
  apply Array.toList_inj.mp
  simp only [Str.cps_append, Array.toList_append, lineText, Str.empty]
  simp
  run_tac sqOut
theorem tail_none {l : List Nat} (h : (posFrom 10 0 l).length = 0) : tailOf l = l := by
  run_tac sqIn
  unfold tailOf
  rw [List.length_eq_zero_iff.mp h]
  rfl
  run_tac sqOut
section
variable {w : World} {h h₀ : Heap} {vs : Array Value} {g : Array GenState} {d : Drawn} {t : Nat} {os : OsState} {dp un : Nat} {fr : List Env} {gd : List Code} {R : Result → Shared → Prop} {news : List (Addr × Obj)}
theorem coord {f c : Addr} (X : (K w.params).In h₀) (D : Hp h₀ h (tabOf c) news) (hdp : dp ≤ 550) (hun : un ≤ 4500) (hf : h.get? f = some (coordFn c))
    {T : List Nat} {x : Int} {tT tp : Tok} (hT : T.length ≤ 100) (hx : 0 ≤ x)
    (hR : ∀ zs tr h' t', zs = whereOf T x.toNat → zs.length ≤ 30 → Hp h₀ h' (tabOf c) news → R (.ok (.ret (.str ⟨⟨zs⟩⟩ tr))) ⟨h', g, d, t', os⟩) :
    Runs w dp un fr gd f [.str ⟨⟨T⟩⟩ tT, .int x tp] R ⟨h, g, d, t, os⟩ := by
  run_tac sqIn
  obtain ⟨p, rfl⟩ := Int.eq_ofNat_of_zero_le hx
  have X' := D.inFrag X K40
  have D' := D.here
  have hc : CodeAt h c := by
    rcases D.code with q | ⟨c', q, hc, _⟩
    · cases q
    · exact tabOf_inj q ▸ hc
  obtain ⟨k1, v0, v2, v3, v4, v5, v6, v8, v9, v10, v11, v12, v13, v14, v15, v16, v17, v18, hc⟩ := hc
  by_cases hp : p < T.length
  · have e5 : (posFrom 10 0 (T.take (p : Int).toNat)).length ≤ T.length := Nat.le_trans (posFrom_len 10 (T.take (p : Int).toNat) 0) (by simp; (run_tac om))
    have e6 : (tailOf (T.take (p : Int).toNat)).length ≤ p := by unfold tailOf; simp; (run_tac om)
    have ew : whereOf T (p : Int).toNat = lineText (((posFrom 10 0 (T.take (p : Int).toNat)).length : Nat) + 1) ((tailOf (T.take (p : Int).toNat)).length + 1) := by
      unfold whereOf
      rw [if_neg (by simp; (run_tac om))]
      rfl
    generalize hpf : (posFrom 10 0 (T.take (p : Int).toNat)).length = k at e5 ew
    generalize hpt : (tailOf (T.take (p : Int).toNat)).length = k' at e6 ew
    run_tac drive { split := true, auto := [("str.count", `Mine.str_count_upto), ("int.__format__", `Mine.int_format), ("str.rindex", `Mine.str_rindex_upto)] }
    · rename ds = decI _ => hd2
      rename _ = ((List.length (posFrom _ _ _) : Nat) : Int) => hn
      rw [hpf] at hn
      have hk : k' = p := by
        have : tailOf (T.take (p : Int).toNat) = T.take (p : Int).toNat := tail_none (by rw [hpf]; (run_tac om))
        rw [← hpt, this]; simp; (run_tac om)
      subst hd2
      rename _ = decI _ => hd1
      subst hd1
      rw [lineText_cat]
      have e : lineText (n + 1) ((p : Int) + 1) = whereOf T (p : Int).toNat := by rw [ew, hn, hk]
      exact hR _ _ _ _ e (by simp only [lineText, List.length_append, List.length_cons, List.length_nil]; (run_tac om)) (D.trans (Hp.less (by assumption) (List.nil_sublist _)))
    · rename ds = decI _ => hd2
      rename _ = ((List.length (posFrom _ _ _) : Nat) : Int) => hn
      rename (p : Int) - _ = _ => hc1
      rw [hpf] at hn
      rw [hpt] at hc1
      subst hd2
      rename _ = decI _ => hd1
      subst hd1
      rw [lineText_cat]
      have e : lineText _ _ = whereOf T (p : Int).toNat := (congr (congrArg lineText (congrArg (· + 1) hn)) hc1).trans ew.symm
      exact hR _ _ _ _ e (by simp only [lineText, List.length_append, List.length_cons, List.length_nil]; (run_tac om)) (D.trans (Hp.less (by assumption) (List.nil_sublist _)))
  · have ew : whereOf T (p : Int).toNat = [101, 110, 100, 32, 111, 102, 32, 100, 111, 99, 117, 109, 101, 110, 116] := by
      unfold whereOf
      rw [if_pos (by simp; (run_tac om))]
    run_tac drive { split := true }
    exact hR _ _ _ _ ew.symm (by decide) (D.trans (Hp.less (by assumption) (List.nil_sublist _)))
  run_tac sqOut
end
end Mine
end
section
open PySem PySem.W PySem.W.X PyProof.Rows
set_option maxRecDepth 100000
set_option maxHeartbeats 40000000
set_option Elab.async false
set_option linter.unusedVariables false
namespace Mine
/-- an error's text -/
noncomputable def errText (msg T : List Nat) (p : Nat) : List Nat := msg ++ [32, 40, 97, 116, 32] ++ whereOf T p ++ [41]
theorem errText_cat (msg zs : List Nat) : (⟨(Str.empty ++ (⟨⟨msg⟩⟩ : Str) ++ ⟨⟨[32, 40, 97, 116, 32]⟩⟩ ++ ⟨⟨zs⟩⟩).cps ++ (⟨⟨[41]⟩⟩ : Str).cps⟩ : Str) = ⟨⟨msg ++ [32, 40, 97, 116, 32] ++ zs ++ [41]⟩⟩ := by
  run_tac sqIn
  apply Str.ext'
  apply Array.toList_inj.mp
  simp only [Str.cps_append, Array.toList_append, Str.empty]
  simp
  run_tac sqOut
noncomputable abbrev excO (a : Addr) : Obj := ⟨.ref 28, none, .fields ⟨[.ref a, .none, .none, .none, .bool false, .none]⟩, ⟨[]⟩⟩
section
variable {w : World} {h h₀ : Heap} {vs : Array Value} {g : Array GenState} {d : Drawn} {t : Nat} {os : OsState} {dp un : Nat} {fr : List Env} {gd : List Code} {R : Result → Shared → Prop} {news : List (Addr × Obj)}
theorem err_ (X : (K w.params).In h) (D : Hp h h vs []) (hdp : dp ≤ 500) (hun : un ≤ 4000)
    (T msg : List Nat) (x : Int) (tT tp tm : Tok) (hT : T.length ≤ 100) (hm : msg.length ≤ 100) (hx : 0 ≤ x)
    (hR : ∀ e a tr vs' h' t', Hp h h' vs' [(a, tupO [.str ⟨⟨errText msg T x.toNat⟩⟩ tr] 0), (e, excO a)] → R (.ok (.ret (.ref e))) ⟨h', g, d, t', os⟩) :
    Runs w dp un fr gd 45 [.str ⟨⟨T⟩⟩ tT, .int x tp, .str ⟨⟨msg⟩⟩ tm] R ⟨h, g, d, t, os⟩ := by
  run_tac sqIn
  have TG := D.code
  obtain rfl | ⟨c, rfl, _⟩ := TG
  all_goals
    run_tac drive { split := true, auto := [("new", `Mine.errText_cat)] }
  run_tac joinQ
  rotate_left
  run_tac joinQ
  run_tac joinQ false [] [1, 2, 3, 4, 5]
  run_tac use `Mine.coord
  run_tac drive { split := true }
  all_goals
    rename _ = whereOf _ _ => hz
    subst hz
    rw [errText_cat] at DD
    exact hR _ _ _ _ _ _ (Hp.less DD (.cons_cons _ (.cons_cons _ (List.nil_sublist _))))
  run_tac sqOut
end
end Mine
end
section
open PySem PySem.W PySem.W.X PyProof.Rows
set_option maxRecDepth 100000
namespace Mine
section
variable {w : World} {h h₀ : Heap} {vs : Array Value} {g : Array GenState} {d : Drawn} {t : Nat} {os : OsState} {dp un : Nat} {fr : List Env} {gd : List Code} {R : Result → Shared → Prop} {news : List (Addr × Obj)}
theorem err' (X : (K w.params).In h₀) (D : Hp h₀ h vs news) (hdp : dp ≤ 500) (hun : un ≤ 4000)
    (T msg : List Nat) (x : Int) (tT tp tm : Tok) (hT : T.length ≤ 100) (hm : msg.length ≤ 100) (hx : 0 ≤ x)
    (hR : ∀ e a tr vs' h' t', Hp h₀ h' vs' ((a, tupO [.str ⟨⟨errText msg T x.toNat⟩⟩ tr] 0) :: (e, excO a) :: news) → R (.ok (.ret (.ref e))) ⟨h', g, d, t', os⟩) :
    Runs w dp un fr gd 45 [.str ⟨⟨T⟩⟩ tT, .int x tp, .str ⟨⟨msg⟩⟩ tm] R ⟨h, g, d, t, os⟩ :=
  err_ (D.inFrag X K40) D.here hdp hun T msg x tT tp tm hT hm hx fun e a tr vs' h' t' D' => hR e a tr vs' h' t' (D.trans D')
end
end Mine
end
section
open PySem PySem.W PySem.W.X PyProof.Rows
open PySem.Builtin.Str
set_option maxRecDepth 100000
set_option maxHeartbeats 4000000
set_option Elab.async false
set_option linter.unusedVariables false
namespace Mine
noncomputable abbrev strIt (ty : String) (l : List Nat) (tx : Tok) (i : Nat) : Obj := ⟨.type ty, none, .fields ⟨[.str ⟨⟨l⟩⟩ tx, .int (i : Int) 0]⟩, ⟨[]⟩⟩
theorem entry_super : entryFor table "frozenset.issuperset" = some Builtin.«frozenset.issuperset» := entryFor_of_tree (by kernel_rfl)
theorem entry_super_loop : entryFor table "frozenset.issuperset.loop" = some Builtin.«frozenset.issuperset.loop» := entryFor_of_tree (by kernel_rfl)
theorem den_builtin {id : String} {b : Builtin} {args : Args} (he : entryFor table id = some b) : denote table (.builtin id args) = b args := by
  run_tac sqIn
  show (match entryFor table id with | some b => b args | none => _) = _
  rw [he]
  run_tac sqOut
theorem Hp.set {w : World} {h₀ h : Heap} {vs : Array Value} {news : List (Addr × Obj)} (D : Hp h₀ h vs news) {a : Addr} {S : Str → Bool} {n : Nat} (x : SetAt P w h₀ a S n) (ha : a ≠ 40) : SetAt P w h a S n :=
  let ⟨es, ep, t, ho, r⟩ := x; ⟨es, ep, t, D.keep _ _ ho ha, r⟩
section
variable {w : World} {h h₀ : Heap} {vs : Array Value} {g : Array GenState} {d : Drawn} {t : Nat} {os : OsState} {dp un : Nat} {fr : List Env} {gd : List Code} {R : Result → Shared → Prop} {news : List (Addr × Obj)} {A : Around}
theorem again_builtin {id : String} {args : List Value} {s : Shared} (hq : (Code.builtin id ⟨args, []⟩).quiet = true) (x : RunsB w A id args R s) : postC P w A R (.again (.builtin id ⟨args, []⟩)) s := by
  run_tac sqIn
  unfold RunsB at x
  exact y_again _ _ _ _ _ _ hq (y_code _ _ _ _ _ _ x)
  run_tac sqOut
theorem next_ascii {it : Addr} {l : List Nat} {tx : Tok} {i : Nat} {c : Nat} {co : Code} {k : Option Value → Sem PySem.Fin} (X : (K w.params).In h₀) (D : Hp h₀ h vs [(it, strIt "str_ascii_iterator" l tx i)]) (hc : l[i]? = some c) (hdp : dp ≤ 700) (hun : un ≤ 7000)
    (hR : ∀ tk h' t', Hp h₀ h' vs [(it, strIt "str_ascii_iterator" l tx (i + 1))] → wpOwn (model P w) (At dp un fr gd) co (k (some (.str ⟨⟨[c]⟩⟩ tk))) (postC P w (At dp un fr gd) R) (postE R) ⟨h', g, d, t', os⟩) :
    wpOwn (model P w) (At dp un fr gd) co (pyNext (.ref it) >>= k) (postC P w (At dp un fr gd) R) (postE R) ⟨h, g, d, t, os⟩ := by
  run_tac sqIn
  have hx : (⟨⟨l⟩⟩ : Str).cps[((i : Nat) : Int).toNat]? = some c := by simpa using hc
  run_tac drive { lems := [`Mine.pylong] }
  exact hR _ _ _ DD
  run_tac sqOut
theorem stop_ascii {it : Addr} {l : List Nat} {tx : Tok} {i : Nat} {co : Code} {k : Option Value → Sem PySem.Fin} (X : (K w.params).In h₀) (D : Hp h₀ h vs [(it, strIt "str_ascii_iterator" l tx i)]) (hc : l.length ≤ i) (hdp : dp ≤ 700) (hun : un ≤ 7000)
    (hR : ∀ h' t', Hp h₀ h' vs [] → wpOwn (model P w) (At dp un fr gd) co (k none) (postC P w (At dp un fr gd) R) (postE R) ⟨h', g, d, t', os⟩) :
    wpOwn (model P w) (At dp un fr gd) co (pyNext (.ref it) >>= k) (postC P w (At dp un fr gd) R) (postE R) ⟨h, g, d, t, os⟩ := by
  run_tac sqIn
  have hx : (⟨⟨l⟩⟩ : Str).cps[((i : Nat) : Int).toNat]? = none := by simpa using hc
  run_tac drive { lems := [`Mine.pylong] }
  exact hR _ _ (Hp.less (by assumption) (List.nil_sublist _))
  run_tac sqOut
theorem super_loop_ascii {S : Str → Bool} {n : Nat} (X : (K w.params).In h₀) (HS : SetAt P w h₀ 15 S n) (hdp : dp ≤ 600) (hun : un ≤ 6000) {it : Addr} {l : List Nat} {tx : Tok} : ∀ (j i : Nat) (h : Heap) (t : Nat), i + j = l.length → Hp h₀ h vs [(it, strIt "str_ascii_iterator" l tx i)] →
    (∀ b h' t', b = (l.drop i).all (fun c => S ⟨⟨[c]⟩⟩) → Hp h₀ h' vs [] → R (.ok (.ret (.bool b))) ⟨h', g, d, t', os⟩) → RunsB w (At dp un fr gd) "frozenset.issuperset.loop" [.ref 15, .ref it] R ⟨h, g, d, t, os⟩
  | 0, i, h, t, e, D, hR => by
    unfold RunsB
    rw [den_builtin entry_super_loop]
    refine stop_ascii X D (by (run_tac om)) (by (run_tac om)) (by (run_tac om)) fun h' t' D' => ?_
    refine y_pure _ _ _ _ _ _ _ _ _ (y_done _ _ _ _ _ _ (hR _ _ _ ?_ D'))
    rw [List.drop_eq_nil_of_le (by (run_tac om))]; rfl
  | j + 1, i, h, t, e, D, hR => by
    have hi : i < l.length := by (run_tac om)
    unfold RunsB
    rw [den_builtin entry_super_loop]
    refine next_ascii X D (List.getElem?_eq_getElem hi) (by (run_tac om)) (by (run_tac om)) fun tk h' t' D' => ?_
    refine wpOwn_of_wpAny ?_
    show wpAny _ _ (holding [.str ⟨⟨[l[i]]⟩⟩ tk] (setContains 15 (.str ⟨⟨[l[i]]⟩⟩ tk)) >>= _) _ _ _
    refine wpAny_bind (wpAny_holding (set_has (D'.set HS (by decide)) ?_))
    have hd : l.drop i = l[i] :: l.drop (i + 1) := List.drop_eq_getElem_cons hi
    cases hs : S ⟨⟨[l[i]]⟩⟩ with
    | true =>
      refine wpAny_pure ?_
      refine again_builtin (by kernel_rfl) (super_loop_ascii X HS hdp hun j (i + 1) h' _ (by (run_tac om)) D' fun b h2 t2 hb D2 => hR b h2 t2 ?_ D2)
      rw [hb, hd, List.all_cons, hs]; rfl
    | false =>
      refine wpAny_pure (y_done _ _ _ _ _ _ (hR false h' _ ?_ (Hp.less D' (List.nil_sublist _))))
      rw [hd, List.all_cons, hs]; rfl

theorem next_wide {it : Addr} {l : List Nat} {tx : Tok} {i : Nat} {c : Nat} {co : Code} {k : Option Value → Sem PySem.Fin} (X : (K w.params).In h₀) (D : Hp h₀ h vs [(it, strIt "str_iterator" l tx i)]) (hc : l[i]? = some c) (hdp : dp ≤ 700) (hun : un ≤ 7000)
    (hR : ∀ tk h' t', Hp h₀ h' vs [(it, strIt "str_iterator" l tx (i + 1))] → wpOwn (model P w) (At dp un fr gd) co (k (some (.str ⟨⟨[c]⟩⟩ tk))) (postC P w (At dp un fr gd) R) (postE R) ⟨h', g, d, t', os⟩) :
    wpOwn (model P w) (At dp un fr gd) co (pyNext (.ref it) >>= k) (postC P w (At dp un fr gd) R) (postE R) ⟨h, g, d, t, os⟩ := by
  run_tac sqIn
  have hx : (⟨⟨l⟩⟩ : Str).cps[((i : Nat) : Int).toNat]? = some c := by simpa using hc
  run_tac drive { lems := [`Mine.pylong] }
  exact hR _ _ _ DD
  run_tac sqOut
theorem stop_wide {it : Addr} {l : List Nat} {tx : Tok} {i : Nat} {co : Code} {k : Option Value → Sem PySem.Fin} (X : (K w.params).In h₀) (D : Hp h₀ h vs [(it, strIt "str_iterator" l tx i)]) (hc : l.length ≤ i) (hdp : dp ≤ 700) (hun : un ≤ 7000)
    (hR : ∀ h' t', Hp h₀ h' vs [] → wpOwn (model P w) (At dp un fr gd) co (k none) (postC P w (At dp un fr gd) R) (postE R) ⟨h', g, d, t', os⟩) :
    wpOwn (model P w) (At dp un fr gd) co (pyNext (.ref it) >>= k) (postC P w (At dp un fr gd) R) (postE R) ⟨h, g, d, t, os⟩ := by
  run_tac sqIn
  have hx : (⟨⟨l⟩⟩ : Str).cps[((i : Nat) : Int).toNat]? = none := by simpa using hc
  run_tac drive { lems := [`Mine.pylong] }
  exact hR _ _ (Hp.less (by assumption) (List.nil_sublist _))
  run_tac sqOut
theorem super_loop_wide {S : Str → Bool} {n : Nat} (X : (K w.params).In h₀) (HS : SetAt P w h₀ 15 S n) (hdp : dp ≤ 600) (hun : un ≤ 6000) {it : Addr} {l : List Nat} {tx : Tok} : ∀ (j i : Nat) (h : Heap) (t : Nat), i + j = l.length → Hp h₀ h vs [(it, strIt "str_iterator" l tx i)] →
    (∀ b h' t', b = (l.drop i).all (fun c => S ⟨⟨[c]⟩⟩) → Hp h₀ h' vs [] → R (.ok (.ret (.bool b))) ⟨h', g, d, t', os⟩) → RunsB w (At dp un fr gd) "frozenset.issuperset.loop" [.ref 15, .ref it] R ⟨h, g, d, t, os⟩
  | 0, i, h, t, e, D, hR => by
    unfold RunsB
    rw [den_builtin entry_super_loop]
    refine stop_wide X D (by (run_tac om)) (by (run_tac om)) (by (run_tac om)) fun h' t' D' => ?_
    refine y_pure _ _ _ _ _ _ _ _ _ (y_done _ _ _ _ _ _ (hR _ _ _ ?_ D'))
    rw [List.drop_eq_nil_of_le (by (run_tac om))]; rfl
  | j + 1, i, h, t, e, D, hR => by
    have hi : i < l.length := by (run_tac om)
    unfold RunsB
    rw [den_builtin entry_super_loop]
    refine next_wide X D (List.getElem?_eq_getElem hi) (by (run_tac om)) (by (run_tac om)) fun tk h' t' D' => ?_
    refine wpOwn_of_wpAny ?_
    show wpAny _ _ (holding [.str ⟨⟨[l[i]]⟩⟩ tk] (setContains 15 (.str ⟨⟨[l[i]]⟩⟩ tk)) >>= _) _ _ _
    refine wpAny_bind (wpAny_holding (set_has (D'.set HS (by decide)) ?_))
    have hd : l.drop i = l[i] :: l.drop (i + 1) := List.drop_eq_getElem_cons hi
    cases hs : S ⟨⟨[l[i]]⟩⟩ with
    | true =>
      refine wpAny_pure ?_
      refine again_builtin (by kernel_rfl) (super_loop_wide X HS hdp hun j (i + 1) h' _ (by (run_tac om)) D' fun b h2 t2 hb D2 => hR b h2 t2 ?_ D2)
      rw [hb, hd, List.all_cons, hs]; rfl
    | false =>
      refine wpAny_pure (y_done _ _ _ _ _ _ (hR false h' _ ?_ (Hp.less D' (List.nil_sublist _))))
      rw [hd, List.all_cons, hs]; rfl

theorem super_ {S : Str → Bool} {n : Nat} (X : (K w.params).In h₀) (HS : SetAt P w h₀ 15 S n) (D : Hp h₀ h vs news) (hdp : dp ≤ 550) (hun : un ≤ 5500) {l : List Nat} {tx : Tok}
    (hR : ∀ b h' t', b = l.all (fun c => S ⟨⟨[c]⟩⟩) → Hp h₀ h' vs news → R (.ok (.ret (.bool b))) ⟨h', g, d, t', os⟩) : RunsB w (At dp un fr gd) "frozenset.issuperset" [.ref 15, .str ⟨⟨l⟩⟩ tx] R ⟨h, g, d, t, os⟩ := by
  run_tac sqIn
  have X' := D.inFrag X K40
  have HS' := D.set HS (by decide)
  have s1 : isSubtype (.type "str") (.type "set") = pure false := by rw [isSubtype_type]; kernel_rfl
  have s2 : isSubtype (.type "str") (.type "frozenset") = pure false := by rw [isSubtype_type]; kernel_rfl
  refine of_builtin entry_super ?_
  unfold Builtin.«frozenset.issuperset»
  refine wpAny_bind ?_
  show wpAny _ _ (pure ((15 : Addr), Value.str ⟨⟨l⟩⟩ tx)) _ _ _
  refine wpAny_pure ?_
  dsimp only
  refine wpAny_bind ?_
  unfold Builtin.Frozenset.isAnySet
  refine wpAny_bind (wpAny_isInstance (T := "str") (b := false) (typeIs_str _ _ _) s1 ?_)
  refine wpAny_isInstance (T := "str") (b := false) (typeIs_str _ _ _) s2 ?_
  show wpAny _ _ (pyIter (.str ⟨⟨l⟩⟩ tx) >>= _) _ _ _
  refine wpAny_bind ?_
  cases ha : (⟨⟨l⟩⟩ : Str).cps.all (· < 128)
  · refine wpAny_pyIter_wide ha (wpAny_pure (again_builtin (by kernel_rfl) ?_))
    exact super_loop_wide X' HS' (by (run_tac om)) (by (run_tac om)) l.length 0 _ t (by (run_tac om)) (D.here.alloc (o := strIt "str_iterator" l tx 0) rfl) fun b h2 t2 hb D2 => hR b h2 t2 hb (D.trans D2)
  · refine wpAny_pyIter_ascii ha (wpAny_pure (again_builtin (by kernel_rfl) ?_))
    exact super_loop_ascii X' HS' (by (run_tac om)) (by (run_tac om)) l.length 0 _ t (by (run_tac om)) (D.here.alloc (o := strIt "str_ascii_iterator" l tx 0) rfl) fun b h2 t2 hb D2 => hR b h2 t2 hb (D.trans D2)
  run_tac sqOut
end
end Mine
end
section
open PySem PySem.W PySem.W.X PyProof.Rows PySem.NumText
set_option maxRecDepth 100000
set_option maxHeartbeats 4000000
set_option Elab.async false
set_option linter.unusedVariables false
namespace Mine
noncomputable def hexCodes : List Nat := [48, 49, 50, 51, 52, 53, 54, 55, 56, 57, 97, 98, 99, 100, 101, 102, 65, 66, 67, 68, 69, 70]
noncomputable def isHex (c : Nat) : Bool := hexCodes.contains c
noncomputable def hexDig (c : Nat) : Nat := (digit? c).getD 0
noncomputable def hexVal (l : List Nat) : Nat := l.foldl (fun a c => a * 16 + hexDig c) 0
theorem hex_facts : ∀ c ∈ hexCodes, digit? c = some (hexDig c) ∧ hexDig c < 16 ∧ blank c = false ∧ c ≠ 45 ∧ c ≠ 43 ∧ c ≠ 95 ∧ c ≠ 120 ∧ c ≠ 88 ∧ c ≠ 0 ∧ c < 128 := by decide
theorem isHex_mem {c : Nat} (h : isHex c = true) : c ∈ hexCodes := by simpa [isHex] using h
theorem digits16 : ∀ (l : List Nat) (p : Array Nat × Bool), l.all isHex = true → l.foldlM (NumText.step 16) p = some (l.foldl (fun q c => (q.1.push (hexDig c), true)) p)
  | [], p, _ => rfl
  | c :: l, p, h => by
    rw [List.all_cons, Bool.and_eq_true] at h
    obtain ⟨h1, h2, h3, h4, h5, h6, _⟩ := hex_facts c (isHex_mem h.1)
    rw [List.foldlM_cons]
    have e : NumText.step 16 p c = some (p.1.push (hexDig c), true) := by
      unfold NumText.step
      rw [if_neg (by simpa using h6), h1]
      exact if_pos h2
    rw [e]
    exact digits16 l _ h.2
theorem pushes : ∀ (l : List Nat) (p : Array Nat × Bool), (l.foldl (fun q c => (q.1.push (hexDig c), true)) p) = (p.1 ++ (l.map hexDig).toArray, p.2 || !l.isEmpty)
  | [], p => by simp
  | c :: l, p => by
    rw [List.foldl_cons, pushes l]
    simp
theorem read16 {l : List Nat} (hl : l ≠ []) (h : l.all isHex = true) : (int_private% "readNumeral") 0 16 l = (int_private% "Numeral.value") ((hexVal l : Nat) : Int) := by
  run_tac sqIn
  obtain ⟨c, r, rfl⟩ : ∃ c r, l = c :: r := by cases l with | nil => exact absurd rfl hl | cons c r => exact ⟨c, r, rfl⟩
  have hall := h
  rw [List.all_cons, Bool.and_eq_true] at h
  obtain ⟨h1, h2, h3, h4, h5, h6, _⟩ := hex_facts c (isHex_mem h.1)
  have d1 : (c :: r).dropWhile blank = c :: r := by rw [List.dropWhile_cons, h3]; rfl
  have d2 : sign (c :: r) = (false, c :: r) := by
    unfold sign
    split
    · rename_i e; injection e with e _; exact absurd e h4
    · rename_i e; injection e with e _; exact absurd e h5
    · rfl
  have d3 : based 16 (c :: r) = (16, false, c :: r) := by
    unfold based
    split
    · rename_i p hp
      have hne : p ≠ 16 := by
        rintro rfl
        unfold prefix? at hp
        split at hp
        · rename_i b _ e
          have hb : isHex b = true := by
            rw [e] at hall
            simp only [List.all_cons, Bool.and_eq_true] at hall
            exact hall.2.1
          obtain ⟨_, _, _, _, _, _, g1, g2, _⟩ := hex_facts b (isHex_mem hb)
          rw [if_neg (by simp [g1, g2])] at hp
          repeat' split at hp
          all_goals cases hp
        · cases hp
      rw [if_neg (by simp; (run_tac om))]
    · rfl
  have d4 : (((c :: r).reverse.dropWhile blank).reverse) = c :: r := by
    have hr : ∀ x ∈ (c :: r).reverse, blank x = false := fun x hx => by
      have := List.all_eq_true.mp hall x (List.mem_reverse.mp hx)
      exact (hex_facts x (isHex_mem this)).2.2.1
    cases q : (c :: r).reverse with
    | nil => simp at q
    | cons a m =>
      rw [List.dropWhile_cons, hr a (by rw [q]; exact .head _)]
      simp only [Bool.false_eq_true, if_false]
      rw [← q, List.reverse_reverse]
  have d5 : digits? 16 (c :: r) = some (((c :: r).map hexDig).toArray) := by
    unfold digits?
    rw [digits16 _ _ hall, pushes]
    simp
  rw [readNumeral_eq, d1, d2]
  dsimp only
  rw [d3]
  dsimp only
  rw [d4, d5]
  unfold judge
  simp only [Bool.false_and, Bool.and_false, Bool.false_eq_true, if_false, bne_self_eq_false, show ((16 : Nat) == 10) = false from rfl]
  congr 1
  simp only [hexVal]
  rw [List.foldl_toArray, List.foldl_map]
  run_tac sqOut
theorem seen16 : ∀ {l : List Nat}, l.all isHex = true → l.takeWhile (· != 0) = l
  | [], _ => rfl
  | c :: l, h => by
    rw [List.all_cons, Bool.and_eq_true] at h
    have h0 := (hex_facts c (isHex_mem h.1)).2.2.2.2.2.2.2.2.1
    rw [List.takeWhile_cons, if_pos (by simpa using h0), seen16 h.2]
theorem text16 {M : Model} {A : Around} {E : Value → Shared → Prop} {s : Shared} {Q : Value → Shared → Prop} {v : Value} {text : List Nat} {n : Int}
    (hs : (text.takeWhile (· != 0)).length ≤ 640) (hr : (int_private% "readNumeral") 0 16 (text.takeWhile (· != 0)) = (int_private% "Numeral.value") n)
    (ha : ((text.takeWhile (· != 0)).length == text.length) = true) (h : Q (.int n s.toks) { s with toks := s.toks + 1 }) :
    wpAny M A ((int_private% "intFromText") v text 16) Q E s := by
  run_tac sqIn
  obtain ⟨hp, g, d, tk, os⟩ := s
  repeat (any_goals (first | assumption | (with_reducible refine wpAny_ite_true (decide_eq_true hs) ?_) | (with_reducible refine wpAny_ite_true (decide_eq_true ha) ?_) | wp_step))
  all_goals (try rw [hr])
  all_goals (try dsimp only)
  repeat (any_goals (first | assumption | (with_reducible refine wpAny_ite_true (decide_eq_true hs) ?_) | (with_reducible refine wpAny_ite_true (decide_eq_true ha) ?_) | wp_step))
  run_tac sqOut
theorem gives_hex {l : List Nat} {u u' : Tok} (hl : l ≠ []) (hn : l.length ≤ 640) (h : l.all isHex = true) : Gives (Builtin.«int.__new__» ⟨[.type "int", .str ⟨⟨l⟩⟩ u, .int 16 u'], []⟩) (.int ((hexVal l : Nat) : Int)) :=
  .of_wp fun M A E s Q hQ => by
    obtain ⟨hp, g, d, tk, os⟩ := s
    have f1 := F.conv_sub_int
    have f2 := F.madeHere_int
    have f6 : typeOf (.str ⟨⟨l⟩⟩ u) = pure (.type "str") := rfl
    have ha : (⟨⟨l⟩⟩ : Str).cps.all (· < 128) = true := by
      simp only [List.all_toArray, List.all_eq_true] at h ⊢
      intro x hx
      have := (hex_facts x (isHex_mem (h x hx))).2.2.2.2.2.2.2.2.2
      simpa using this
    have e : numTextOf ⟨⟨l⟩⟩ = l := by unfold numTextOf; rw [ha]; rfl
    have hk := KIN.Hid.mk (And.intro (show ((numTextOf ⟨⟨l⟩⟩).takeWhile (· != 0)).length ≤ 640 by rw [e, seen16 h]; exact hn) (And.intro
      (show (int_private% "readNumeral") 0 16 ((numTextOf ⟨⟨l⟩⟩).takeWhile (· != 0)) = (int_private% "Numeral.value") ((hexVal l : Nat) : Int) by rw [e, seen16 h]; exact read16 hl h)
      (show (((numTextOf ⟨⟨l⟩⟩).takeWhile (· != 0)).length == (numTextOf ⟨⟨l⟩⟩).length) = true by rw [e, seen16 h]; simp)))
    clear hl hn h ha e
    repeat (any_goals (first
      | assumption
      | ((with_reducible show wpAny _ _ ((int_private% "intFromText") _ _ _) _ _ _); refine text16 hk.out.1 hk.out.2.1 hk.out.2.2 ?_)
      | wp_step))
    exact ⟨_, rfl, hQ⟩
section
variable {w : World} {h h₀ : Heap} {vs : Array Value} {g : Array GenState} {d : Drawn} {t : Nat} {os : OsState} {R : Result → Shared → Prop} {A : Around} {news : List (Addr × Obj)}
theorem int_hex {l : List Nat} {u u' : Tok} {k : Nat} {m : Int} (D : Hp h₀ h vs news) (hl : 1 ≤ l.length) (hn : l.length ≤ 100) (hx : l.all isHex = true) (hk : hexVal l = k) (hm : ((k : Nat) : Int) = m)
    (hR : ∀ tn h' t', Hp h₀ h' vs news → R (.ok (.ret (.int m tn))) ⟨h', g, d, t', os⟩) : RunsB w A "int.__new__" [.type "int", .str ⟨⟨l⟩⟩ u, .int 16 u'] R ⟨h, g, d, t, os⟩ := by
  run_tac sqIn
  subst hk
  subst hm
  exact of_gives F.entry_int_new (by decide +kernel) (gives_hex (by rintro rfl; simp at hl) (by (run_tac om)) hx) (hR _ _ _ D)
  run_tac sqOut
theorem chr_ {x : Int} {tx : Tok} {k : Nat} (D : Hp h₀ h vs news) (hk : ((k : Nat) : Int) = x) (h1 : x ≤ 1114111)
    (hR : ∀ tn h' t', Hp h₀ h' vs news → R (.ok (.ret (.str ⟨⟨[k]⟩⟩ tn))) ⟨h', g, d, t', os⟩) : RunsB w A "chr" [.int x tx] R ⟨h, g, d, t, os⟩ := by
  run_tac sqIn
  subst hk
  exact of_gives F.entry_chr (by decide +kernel) (gives_chr (k : Int) tx (by simp; (run_tac om))) ⟨by show 1 ≤ sizeLine; decide, hR _ _ _ D⟩
  run_tac sqOut
theorem ord_ {c : Nat} {tx : Tok} (D : Hp h₀ h vs news)
    (hR : ∀ n tn h' t', n = (c : Int) → Hp h₀ h' vs news → R (.ok (.ret (.int n tn))) ⟨h', g, d, t', os⟩) : RunsB w A "ord" [.str ⟨⟨[c]⟩⟩ tx] R ⟨h, g, d, t, os⟩ :=
  of_gives F.entry_ord (by decide +kernel) (gives_ord c tx) (hR _ _ _ _ rfl D)
end
end Mine
end
section
open PySem PySem.W PySem.W.X PyProof.Rows
set_option maxRecDepth 100000
set_option maxHeartbeats 40000000
set_option Elab.async false
set_option linter.unusedVariables false
namespace Mine
noncomputable def hexTexts : List Str := hexCodes.map fun c => ⟨⟨[c]⟩⟩
noncomputable def hexSet (k : Str) : Bool := decide (k ∈ hexTexts)
theorem hexSet_is (c : Nat) : hexSet ⟨⟨[c]⟩⟩ = isHex c := by
  run_tac sqIn
  unfold hexSet isHex hexTexts
  rw [Bool.eq_iff_iff]
  simp
  run_tac sqOut
noncomputable abbrev HexAt (w : World) (h : Heap) : Prop := SetAt P w h 15 hexSet 22
noncomputable def msgHex : List Nat := [73, 110, 118, 97, 108, 105, 100, 32, 104, 101, 120, 32, 118, 97, 108, 117, 101]
noncomputable def msgEsc : List Nat := [69, 115, 99, 97, 112, 101, 100, 32, 99, 104, 97, 114, 97, 99, 116, 101, 114, 32, 105, 115, 32, 110, 111, 116, 32, 97, 32, 85, 110, 105, 99, 111, 100, 101, 32, 115, 99, 97, 108, 97, 114, 32, 118, 97, 108, 117, 101]
section
variable {w : World} {h h₀ : Heap} {vs : Array Value} {g : Array GenState} {d : Drawn} {t : Nat} {os : OsState} {dp un : Nat} {fr : List Env} {gd : List Code} {R : Result → Shared → Prop} {news : List (Addr × Obj)}
theorem hex_super (X : (K w.params).In h₀) (HS : HexAt w h₀) (D : Hp h₀ h vs news) (hdp : dp ≤ 550) (hun : un ≤ 5500) {l : List Nat} {tx : Tok}
    (hR : ∀ b h' t', b = l.all isHex → Hp h₀ h' vs news → R (.ok (.ret (.bool b))) ⟨h', g, d, t', os⟩) : RunsB w (At dp un fr gd) "frozenset.issuperset" [.ref 15, .str ⟨⟨l⟩⟩ tx] R ⟨h, g, d, t, os⟩ :=
  super_ X HS D hdp hun fun b h' t' e => hR b h' t' (by rw [e]; simp only [hexSet_is])
theorem str_cut {l r : List Nat} {tx ta tb : Tok} {sl : Addr} {j k : Int} {A : Around} (D : Hp h₀ h vs news) (hs : h.get? sl = some (sliceO (.int j ta) (.int k tb))) (hr : (l.drop j.toNat).take (k.toNat - j.toNat) = r) (hj : 0 ≤ j) (hk : j ≤ k) (hsz : l.length ≤ 100)
    (hR : ∀ ts h' t', Hp h₀ h' vs news → R (.ok (.ret (.str ⟨⟨r⟩⟩ ts))) ⟨h', g, d, t', os⟩) : RunsB w A "str.__getitem__" [.str ⟨⟨l⟩⟩ tx, .ref sl] R ⟨h, g, d, t, os⟩ :=
  str_part D hs hj hk (by (run_tac om)) (by rw [hr]; exact hR)
theorem scalar_is (X : (K w.params).In h₀) (D : Hp h₀ h vs news) (hdp : dp ≤ 600) (hun : un ≤ 5000)
    (v : Int) (tv : Tok) {b : Bool} (hb : isScalar v = b) (hR : ∀ h' t', Hp h₀ h' vs news → R (.ok (.ret (.bool b))) ⟨h', g, d, t', os⟩) :
    Runs w dp un fr gd 52 [.int v tv] R ⟨h, g, d, t, os⟩ := scalar' X D hdp hun v tv fun b' h' t' e => by rw [e, hb]; exact hR h' t'
theorem super_is (X : (K w.params).In h₀) (HS : HexAt w h₀) (D : Hp h₀ h vs news) (hdp : dp ≤ 550) (hun : un ≤ 5500) {l : List Nat} {tx : Tok} {b : Bool} (hb : l.all isHex = b)
    (hR : ∀ h' t', Hp h₀ h' vs news → R (.ok (.ret (.bool b))) ⟨h', g, d, t', os⟩) : RunsB w (At dp un fr gd) "frozenset.issuperset" [.ref 15, .str ⟨⟨l⟩⟩ tx] R ⟨h, g, d, t, os⟩ :=
  hex_super X HS D hdp hun fun b' h' t' e => by rw [e, hb]; exact hR h' t'
theorem parse_ok (X : (K w.params).In h) (HS : HexAt w h) (D : Hp h h vs []) (hdp : dp ≤ 450) (hun : un ≤ 3500)
    (T : List Nat) (x c : Int) (tT tx tc : Tok) (hT : T.length ≤ 100) (hx : 0 ≤ x) (hc : 1 ≤ c) {l : List Nat} (hl : (T.drop x.toNat).take ((x + c).toNat - x.toNat) = l)
    (hlen : (l.length : Int) = c) (hall : l.all isHex = true) {k : Nat} {m : Int} (hk : hexVal l = k) (hm : ((k : Nat) : Int) = m) (hsc : isScalar m = true)
    (hR : ∀ a ti tc h' t', Hp h h' vs [(a, tupO [.int (x + c) ti, .str ⟨⟨[k]⟩⟩ tc] 0)] → R (.ok (.ret (.ref a))) ⟨h', g, d, t', os⟩) :
    Runs w dp un fr gd 38 [.str ⟨⟨T⟩⟩ tT, .int x tx, .int c tc] R ⟨h, g, d, t, os⟩ := by
  run_tac sqIn
  obtain ⟨es, ep, st, h15, _⟩ := id HS
  have h15' : h.get? (nat_lit 15) = some (frozO es ep st) := h15
  clear h15
  have h100 : l.length ≤ 100 := by rw [← hl]; simp; (run_tac om)
  have h0 : 0 ≤ m := by (run_tac om)
  have h1 : m ≤ 1114111 := by unfold isScalar at hsc; rw [decide_eq_true_eq] at hsc; (run_tac om)
  run_tac drive { auto := [("str.__getitem__", `Mine.str_cut), ("frozenset.issuperset", `Mine.super_is), ("int.__new__", `Mine.int_hex), ("52", `Mine.scalar_is), ("chr", `Mine.chr_)] }
  exact hR _ _ _ _ _ (Hp.less (by assumption) (.cons_cons _ (List.nil_sublist _)))
  run_tac sqOut
variable {h₀ : Heap} {news : List (Addr × Obj)}
theorem parse_ok' (X : (K w.params).In h₀) (HS : HexAt w h₀) (D : Hp h₀ h vs news) (hdp : dp ≤ 450) (hun : un ≤ 3500)
    (T : List Nat) (x c : Int) (tT tx tc : Tok) (hT : T.length ≤ 100) (hx : 0 ≤ x) (hc : 1 ≤ c) {l : List Nat} (hl : (T.drop x.toNat).take ((x + c).toNat - x.toNat) = l)
    (hlen : (l.length : Int) = c) (hall : l.all isHex = true) {k : Nat} {m : Int} (hk : hexVal l = k) (hm : ((k : Nat) : Int) = m) (hsc : isScalar m = true)
    (hR : ∀ a ti tc h' t', Hp h₀ h' vs ((a, tupO [.int (x + c) ti, .str ⟨⟨[k]⟩⟩ tc] 0) :: news) → R (.ok (.ret (.ref a))) ⟨h', g, d, t', os⟩) :
    Runs w dp un fr gd 38 [.str ⟨⟨T⟩⟩ tT, .int x tx, .int c tc] R ⟨h, g, d, t, os⟩ :=
  parse_ok (D.inFrag X K40) (D.set HS (by decide)) D.here hdp hun T x c tT tx tc hT hx hc hl hlen hall hk hm hsc fun a ti tc h' t' D' => hR a ti tc h' t' (D.trans D')
end
end Mine
end
section
open PySem PySem.W PySem.W.X PyProof.Rows
set_option maxRecDepth 100000
set_option maxHeartbeats 40000000
set_option Elab.async false
set_option linter.unusedVariables false
namespace Mine
noncomputable abbrev frameX (es : Array DictEntry) (n : Nat) (s : Array (Option Value)) : Obj := ⟨.type "frame", none, .dict es n, s⟩
noncomputable abbrev traceO (ta : Array Value) : Obj := ⟨.type "traceback", none, .fields ta, ⟨[]⟩⟩
noncomputable abbrev excT (a T : Addr) : Obj := ⟨.ref 28, none, .fields ⟨[.ref a, .ref T, .none, .none, .bool false, .none]⟩, ⟨[]⟩⟩
structure FEnv (e : Env) (f : Addr) : Prop where
  frame : e.frame = some f
  kind : e.scope.kind = .function
  gen : e.scope.isGenerator = false
  cor : e.scope.isCoroutine = false
theorem opt_cases {α : Type} (x : Option α) : x = none ∨ ∃ v, x = some v := by cases x <;> simp
theorem tb3 (v0 v1 v2 v3 v4 x : Value) (L : List Value) : ((⟨[v0, v1, v2, v3, v4] ++ L⟩ : Array Value).setIfInBounds 3 x)[3]? = some x := by
  run_tac sqIn
  rw [Array.getElem?_setIfInBounds_self]
  simp
  run_tac sqOut
theorem gd3 (a b c d : Option Value) (r : List (Option Value)) (X : Array (Option Value)) : ((⟨a :: b :: c :: d :: r⟩ : Array (Option Value)) ++ X).getD 3 none = d := by
  run_tac sqIn
  rw [Array.getD_eq_getD_getElem?, Array.getElem?_append_left (by simp)]
  simp
  run_tac sqOut
theorem tbs (v0 v1 v2 v3 v4 x : Value) (L : List Value) : 3 < ((⟨[v0, v1, v2, v3, v4] ++ L⟩ : Array Value).setIfInBounds 3 x).size := by
  run_tac sqIn
  rw [Array.size_setIfInBounds]
  simp
  run_tac sqOut
section
variable {w : World} {h h₀ : Heap} {vs : Array Value} {g : Array GenState} {d : Drawn} {t : Nat} {os : OsState} {dp un : Nat} {gd : List Code} {R : Result → Shared → Prop}
theorem parse_esc (X : (K w.params).In h₀) (HS : HexAt w h₀) {f0 f1 f2 : Addr} {d0 d1 d2 : Array DictEntry} {n0 n1 n2 : Nat} {s1 s2 : Array (Option Value)} {eQ eR eL : Env} (F0 : FEnv eQ f0) (F1 : FEnv eR f1) (F2 : FEnv eL f2)
    (D : Hp h₀ h vs [(f0, frameX d0 n0 ⟨[]⟩), (f1, frameX d1 n1 s1), (f2, frameX d2 n2 s2)]) (hdp : dp ≤ 450) (hun : un ≤ 3500)
    (T : List Nat) (x c : Int) (tT tx tc : Tok) (hT : T.length ≤ 100) (hx : 0 ≤ x) (hc : 1 ≤ c) {l : List Nat} (hl : (T.drop x.toNat).take ((x + c).toNat - x.toNat) = l)
    (hlen : (l.length : Int) = c) (hall : l.all isHex = true) {k : Nat} {m : Int} (hk : hexVal l = k) (hm : ((k : Nat) : Int) = m) (hsc : isScalar m = false)
    (hR : ∀ e a T' tr ta vs' h' t' s0' s1' s2' v0, s0'.getD 3 none = some v0 → ta[3]? = some Value.none → 3 < ta.size → Hp h₀ h' vs' [(T', traceO ta), (a, tupO [.str ⟨⟨errText msgEsc T (x + c).toNat⟩⟩ tr] 0), (e, excT a T'), (f0, frameX d0 n0 s0'), (f1, frameX d1 n1 s1'), (f2, frameX d2 n2 s2')] → R (.error (.ref e)) ⟨h', g, d, t', os⟩) :
    Runs w dp un [eQ, eR, eL] gd 38 [.str ⟨⟨T⟩⟩ tT, .int x tx, .int c tc] R ⟨h, g, d, t, os⟩ := by
  run_tac sqIn
  obtain ⟨⟨k0, nm0, ig0, ic0, mo0⟩, lo0, gl0, ce0, qu0, fu0, co0, fra0, bu0⟩ := eQ
  obtain ⟨⟨k1, nm1, ig1, ic1, mo1⟩, lo1, gl1, ce1, qu1, fu1, co1, fra1, bu1⟩ := eR
  obtain ⟨⟨k2, nm2, ig2, ic2, mo2⟩, lo2, gl2, ce2, qu2, fu2, co2, fra2, bu2⟩ := eL
  obtain ⟨h1, h2, h3, h4⟩ := F0
  dsimp only at h1 h2 h3 h4
  subst h1 h2 h3 h4
  obtain ⟨h1, h2, h3, h4⟩ := F1
  dsimp only at h1 h2 h3 h4
  subst h1 h2 h3 h4
  obtain ⟨h1, h2, h3, h4⟩ := F2
  dsimp only at h1 h2 h3 h4
  subst h1 h2 h3 h4
  obtain ⟨es, ep, st, h15, _⟩ := id HS
  have h15' : h₀.get? (nat_lit 15) = some (frozO es ep st) := h15
  clear h15
  have h100 : l.length ≤ 100 := by rw [← hl]; simp; (run_tac om)
  have h0 : 0 ≤ m := by (run_tac om)
  have a1 : (frameX d1 n1 s1).slots.getD 3 none = none ∨ ∃ v, (frameX d1 n1 s1).slots.getD 3 none = some v := opt_cases _
  have a2 : (frameX d2 n2 s2).slots.getD 3 none = none ∨ ∃ v, (frameX d2 n2 s2).slots.getD 3 none = some v := opt_cases _
  run_tac drive { auto := [("str.__getitem__", `Mine.str_cut), ("frozenset.issuperset", `Mine.super_is), ("int.__new__", `Mine.int_hex), ("52", `Mine.scalar_is), ("45", `Mine.err')], opaques := [``Builtin.divisionGoesByPylong, ``Array.getD] }
  obtain hs | ⟨v, hs⟩ := a1
  · run_tac drive { opaques := [``Builtin.divisionGoesByPylong, ``Array.getD] }
    obtain hs2 | ⟨v, hs2⟩ := a2
    · run_tac drive { opaques := [``Builtin.divisionGoesByPylong, ``Array.getD] }
      exact hR _ _ _ _ _ _ _ _ _ _ _ _ (gd3 ..) (tb3 ..) (tbs ..) (Hp.less DD (.cons_cons _ (.cons_cons _ (.cons_cons _ (.cons _ (.cons _ (.cons_cons _ (.cons_cons _ (.cons_cons _ .slnil)))))))))
    · run_tac drive { opaques := [``Builtin.divisionGoesByPylong, ``Array.getD] }
      exact hR _ _ _ _ _ _ _ _ _ _ _ _ (gd3 ..) (tb3 ..) (tbs ..) (Hp.less DD (.cons_cons _ (.cons_cons _ (.cons_cons _ (.cons _ (.cons _ (.cons_cons _ (.cons_cons _ (.cons_cons _ .slnil)))))))))
  · run_tac drive { opaques := [``Builtin.divisionGoesByPylong, ``Array.getD] }
    exact hR _ _ _ _ _ _ _ _ _ _ _ _ (gd3 ..) (tb3 ..) (tbs ..) (Hp.less DD (.cons_cons _ (.cons_cons _ (.cons_cons _ (.cons _ (.cons _ (.cons_cons _ (.cons_cons _ (.cons_cons _ .slnil)))))))))
  run_tac sqOut
end
end Mine
end
section
open PySem PySem.W PySem.W.X PyProof.Rows
set_option maxRecDepth 100000
set_option maxHeartbeats 40000000
set_option Elab.async false
set_option linter.unusedVariables false
namespace Mine
section
variable {w : World} {h h₀ : Heap} {vs : Array Value} {g : Array GenState} {d : Drawn} {t : Nat} {os : OsState} {dp un : Nat} {gd : List Code} {R : Result → Shared → Prop}
theorem parse_bad (X : (K w.params).In h₀) (HS : HexAt w h₀) {f0 f1 f2 : Addr} {d0 d1 d2 : Array DictEntry} {n0 n1 n2 : Nat} {s1 s2 : Array (Option Value)} {eQ eR eL : Env} (F0 : FEnv eQ f0) (F1 : FEnv eR f1) (F2 : FEnv eL f2)
    (D : Hp h₀ h vs [(f0, frameX d0 n0 ⟨[]⟩), (f1, frameX d1 n1 s1), (f2, frameX d2 n2 s2)]) (hdp : dp ≤ 450) (hun : un ≤ 3500)
    (T : List Nat) (x c : Int) (tT tx tc : Tok) (hT : T.length ≤ 100) (hx : 0 ≤ x) (hc : 1 ≤ c) {l : List Nat} (hl : (T.drop x.toNat).take ((x + c).toNat - x.toNat) = l)
    (hlen : (l.length : Int) = c) (hall : l.all isHex = false)
    (hR : ∀ e a T' tr ta vs' h' t' s0' s1' s2' v0, s0'.getD 3 none = some v0 → ta[3]? = some Value.none → 3 < ta.size → Hp h₀ h' vs' [(T', traceO ta), (a, tupO [.str ⟨⟨errText msgHex T x.toNat⟩⟩ tr] 0), (e, excT a T'), (f0, frameX d0 n0 s0'), (f1, frameX d1 n1 s1'), (f2, frameX d2 n2 s2')] → R (.error (.ref e)) ⟨h', g, d, t', os⟩) :
    Runs w dp un [eQ, eR, eL] gd 38 [.str ⟨⟨T⟩⟩ tT, .int x tx, .int c tc] R ⟨h, g, d, t, os⟩ := by
  run_tac sqIn
  obtain ⟨⟨k0, nm0, ig0, ic0, mo0⟩, lo0, gl0, ce0, qu0, fu0, co0, fra0, bu0⟩ := eQ
  obtain ⟨⟨k1, nm1, ig1, ic1, mo1⟩, lo1, gl1, ce1, qu1, fu1, co1, fra1, bu1⟩ := eR
  obtain ⟨⟨k2, nm2, ig2, ic2, mo2⟩, lo2, gl2, ce2, qu2, fu2, co2, fra2, bu2⟩ := eL
  obtain ⟨h1, h2, h3, h4⟩ := F0
  dsimp only at h1 h2 h3 h4
  subst h1 h2 h3 h4
  obtain ⟨h1, h2, h3, h4⟩ := F1
  dsimp only at h1 h2 h3 h4
  subst h1 h2 h3 h4
  obtain ⟨h1, h2, h3, h4⟩ := F2
  dsimp only at h1 h2 h3 h4
  subst h1 h2 h3 h4
  obtain ⟨es, ep, st, h15, _⟩ := id HS
  have h15' : h₀.get? (nat_lit 15) = some (frozO es ep st) := h15
  clear h15
  have h100 : l.length ≤ 100 := by rw [← hl]; simp; (run_tac om)
  have a1 : (frameX d1 n1 s1).slots.getD 3 none = none ∨ ∃ v, (frameX d1 n1 s1).slots.getD 3 none = some v := opt_cases _
  have a2 : (frameX d2 n2 s2).slots.getD 3 none = none ∨ ∃ v, (frameX d2 n2 s2).slots.getD 3 none = some v := opt_cases _
  run_tac drive { auto := [("str.__getitem__", `Mine.str_cut), ("frozenset.issuperset", `Mine.super_is), ("45", `Mine.err')], opaques := [``Builtin.divisionGoesByPylong, ``Array.getD] }
  obtain hs | ⟨v, hs⟩ := a1
  · run_tac drive { opaques := [``Builtin.divisionGoesByPylong, ``Array.getD] }
    obtain hs2 | ⟨v, hs2⟩ := a2
    · run_tac drive { opaques := [``Builtin.divisionGoesByPylong, ``Array.getD] }
      exact hR _ _ _ _ _ _ _ _ _ _ _ _ (gd3 ..) (tb3 ..) (tbs ..) (Hp.less DD (.cons_cons _ (.cons_cons _ (.cons_cons _ (.cons _ (.cons _ (.cons_cons _ (.cons_cons _ (.cons_cons _ .slnil)))))))))
    · run_tac drive { opaques := [``Builtin.divisionGoesByPylong, ``Array.getD] }
      exact hR _ _ _ _ _ _ _ _ _ _ _ _ (gd3 ..) (tb3 ..) (tbs ..) (Hp.less DD (.cons_cons _ (.cons_cons _ (.cons_cons _ (.cons _ (.cons _ (.cons_cons _ (.cons_cons _ (.cons_cons _ .slnil)))))))))
  · run_tac drive { opaques := [``Builtin.divisionGoesByPylong, ``Array.getD] }
    exact hR _ _ _ _ _ _ _ _ _ _ _ _ (gd3 ..) (tb3 ..) (tbs ..) (Hp.less DD (.cons_cons _ (.cons_cons _ (.cons_cons _ (.cons _ (.cons _ (.cons_cons _ (.cons_cons _ (.cons_cons _ .slnil)))))))))
  run_tac sqOut
theorem parse_short (X : (K w.params).In h₀) (HS : HexAt w h₀) {f0 f1 f2 : Addr} {d0 d1 d2 : Array DictEntry} {n0 n1 n2 : Nat} {s1 s2 : Array (Option Value)} {eQ eR eL : Env} (F0 : FEnv eQ f0) (F1 : FEnv eR f1) (F2 : FEnv eL f2)
    (D : Hp h₀ h vs [(f0, frameX d0 n0 ⟨[]⟩), (f1, frameX d1 n1 s1), (f2, frameX d2 n2 s2)]) (hdp : dp ≤ 450) (hun : un ≤ 3500)
    (T : List Nat) (x c : Int) (tT tx tc : Tok) (hT : T.length ≤ 100) (hx : 0 ≤ x) (hc : 1 ≤ c) {l : List Nat} (hl : (T.drop x.toNat).take ((x + c).toNat - x.toNat) = l)
    (hlen : (l.length : Int) ≠ c)
    (hR : ∀ e a T' tr ta vs' h' t' s0' s1' s2' v0, s0'.getD 3 none = some v0 → ta[3]? = some Value.none → 3 < ta.size → Hp h₀ h' vs' [(T', traceO ta), (a, tupO [.str ⟨⟨errText msgHex T x.toNat⟩⟩ tr] 0), (e, excT a T'), (f0, frameX d0 n0 s0'), (f1, frameX d1 n1 s1'), (f2, frameX d2 n2 s2')] → R (.error (.ref e)) ⟨h', g, d, t', os⟩) :
    Runs w dp un [eQ, eR, eL] gd 38 [.str ⟨⟨T⟩⟩ tT, .int x tx, .int c tc] R ⟨h, g, d, t, os⟩ := by
  run_tac sqIn
  obtain ⟨⟨k0, nm0, ig0, ic0, mo0⟩, lo0, gl0, ce0, qu0, fu0, co0, fra0, bu0⟩ := eQ
  obtain ⟨⟨k1, nm1, ig1, ic1, mo1⟩, lo1, gl1, ce1, qu1, fu1, co1, fra1, bu1⟩ := eR
  obtain ⟨⟨k2, nm2, ig2, ic2, mo2⟩, lo2, gl2, ce2, qu2, fu2, co2, fra2, bu2⟩ := eL
  obtain ⟨h1, h2, h3, h4⟩ := F0
  dsimp only at h1 h2 h3 h4
  subst h1 h2 h3 h4
  obtain ⟨h1, h2, h3, h4⟩ := F1
  dsimp only at h1 h2 h3 h4
  subst h1 h2 h3 h4
  obtain ⟨h1, h2, h3, h4⟩ := F2
  dsimp only at h1 h2 h3 h4
  subst h1 h2 h3 h4
  obtain ⟨es, ep, st, h15, _⟩ := id HS
  have h15' : h₀.get? (nat_lit 15) = some (frozO es ep st) := h15
  clear h15
  have h100 : l.length ≤ 100 := by rw [← hl]; simp; (run_tac om)
  have a1 : (frameX d1 n1 s1).slots.getD 3 none = none ∨ ∃ v, (frameX d1 n1 s1).slots.getD 3 none = some v := opt_cases _
  have a2 : (frameX d2 n2 s2).slots.getD 3 none = none ∨ ∃ v, (frameX d2 n2 s2).slots.getD 3 none = some v := opt_cases _
  run_tac drive { auto := [("str.__getitem__", `Mine.str_cut), ("45", `Mine.err')], opaques := [``Builtin.divisionGoesByPylong, ``Array.getD] }
  obtain hs | ⟨v, hs⟩ := a1
  · run_tac drive { opaques := [``Builtin.divisionGoesByPylong, ``Array.getD] }
    obtain hs2 | ⟨v, hs2⟩ := a2
    · run_tac drive { opaques := [``Builtin.divisionGoesByPylong, ``Array.getD] }
      exact hR _ _ _ _ _ _ _ _ _ _ _ _ (gd3 ..) (tb3 ..) (tbs ..) (Hp.less DD (.cons_cons _ (.cons_cons _ (.cons_cons _ (.cons _ (.cons _ (.cons_cons _ (.cons_cons _ (.cons_cons _ .slnil)))))))))
    · run_tac drive { opaques := [``Builtin.divisionGoesByPylong, ``Array.getD] }
      exact hR _ _ _ _ _ _ _ _ _ _ _ _ (gd3 ..) (tb3 ..) (tbs ..) (Hp.less DD (.cons_cons _ (.cons_cons _ (.cons_cons _ (.cons _ (.cons _ (.cons_cons _ (.cons_cons _ (.cons_cons _ .slnil)))))))))
  · run_tac drive { opaques := [``Builtin.divisionGoesByPylong, ``Array.getD] }
    exact hR _ _ _ _ _ _ _ _ _ _ _ _ (gd3 ..) (tb3 ..) (tbs ..) (Hp.less DD (.cons_cons _ (.cons_cons _ (.cons_cons _ (.cons _ (.cons _ (.cons_cons _ (.cons_cons _ (.cons_cons _ .slnil)))))))))
  run_tac sqOut
end
end Mine
end
section
open PySem PySem.W PySem.W.X PyProof.Rows
set_option maxRecDepth 100000
set_option maxHeartbeats 40000000
set_option Elab.async false
set_option linter.unusedVariables false
namespace Mine
section
variable {w : World} {h h₀ : Heap} {vs : Array Value} {g : Array GenState} {d : Drawn} {t : Nat} {os : OsState} {dp un : Nat} {fr : List Env} {gd : List Code} {R : Result → Shared → Prop}
theorem read_ok (X : (K w.params).In h) (HS : HexAt w h) (D : Hp h h vs []) (hdp : dp ≤ 400) (hun : un ≤ 3000)
    (T : List Nat) (x c : Int) (tT tx tc : Tok) (hT : T.length ≤ 100) (hx : 0 ≤ x) (hc : 1 ≤ c) {l : List Nat} (hl : (T.drop x.toNat).take ((x + c).toNat - x.toNat) = l)
    (hlen : (l.length : Int) = c) (hall : l.all isHex = true) {k : Nat} {m : Int} (hk : hexVal l = k) (hm : ((k : Nat) : Int) = m) (hsc : isScalar m = true)
    (hR : ∀ a ti tc h' t', Hp h h' vs [(a, tupO [.int (x + c) ti, .str ⟨⟨[k]⟩⟩ tc] 0)] → R (.ok (.ret (.ref a))) ⟨h', g, d, t', os⟩) :
    Runs w dp un fr gd 97 [.str ⟨⟨T⟩⟩ tT, .int x tx, .int c tc] R ⟨h, g, d, t, os⟩ := by
  run_tac sqIn
  run_tac drive { auto := [("38", `Mine.parse_ok')] }
  exact hR _ _ _ _ _ (Hp.less (by assumption) (.cons_cons _ (List.nil_sublist _)))
  run_tac sqOut
theorem read_err (X : (K w.params).In h₀) (HS : HexAt w h₀) {f1 f2 : Addr} {d1 d2 : Array DictEntry} {n1 n2 : Nat} {s1 s2 : Array (Option Value)} {eR eL : Env} (F1 : FEnv eR f1) (F2 : FEnv eL f2)
    (D : Hp h₀ h vs [(f1, frameX d1 n1 s1), (f2, frameX d2 n2 s2)]) (hdp : dp ≤ 400) (hun : un ≤ 3000)
    (T : List Nat) (x c : Int) (tT tx tc : Tok) {M : List Nat}
    (HP : ∀ {h : Heap} {t : Nat} {dp un : Nat} {gd : List Code} {R : Result → Shared → Prop} {f0 : Addr} {d0 : Array DictEntry} {n0 : Nat} {eQ : Env} (F0 : FEnv eQ f0)
      (D : Hp h₀ h vs [(f0, frameX d0 n0 ⟨[]⟩), (f1, frameX d1 n1 s1), (f2, frameX d2 n2 s2)]) (hdp : dp ≤ 450) (hun : un ≤ 3500)
      (hR : ∀ e a T' tr ta vs' h' t' s0' s1' s2' v0, s0'.getD 3 none = some v0 → ta[3]? = some Value.none → 3 < ta.size → Hp h₀ h' vs' [(T', traceO ta), (a, tupO [.str ⟨⟨M⟩⟩ tr] 0), (e, excT a T'), (f0, frameX d0 n0 s0'), (f1, frameX d1 n1 s1'), (f2, frameX d2 n2 s2')] → R (.error (.ref e)) ⟨h', g, d, t', os⟩),
      Runs w dp un [eQ, eR, eL] gd 38 [.str ⟨⟨T⟩⟩ tT, .int x tx, .int c tc] R ⟨h, g, d, t, os⟩)
    (hR : ∀ tr vs' h' t' s1' s2', Hp h₀ h' vs' [(f1, frameX d1 n1 s1'), (f2, frameX d2 n2 s2')] → R (.ok (.ret (.str ⟨⟨M⟩⟩ tr))) ⟨h', g, d, t', os⟩) :
    Runs w dp un [eR, eL] gd 97 [.str ⟨⟨T⟩⟩ tT, .int x tx, .int c tc] R ⟨h, g, d, t, os⟩ := by
  run_tac sqIn
  run_tac drive { auto := [("38", `HP)], opaques := [``Builtin.divisionGoesByPylong, ``Array.getD] }
  exact hR _ _ _ _ _ _ (Hp.less DD (.cons _ (.cons _ (.cons _ (.cons _ (.cons _ (List.Sublist.refl _)))))))
  run_tac sqOut
end
end Mine
end
section
open PySem PySem.W PySem.W.X PyProof.Rows
open PySem.Builtin.Str
set_option maxRecDepth 100000
set_option maxHeartbeats 4000000
set_option Elab.async false
set_option linter.unusedVariables false
namespace Mine
noncomputable def txtsOf : List Value → Option (List (List Nat))
  | [] => some []
  | .str ⟨⟨l⟩⟩ _ :: r => (txtsOf r).map (l :: ·)
  | _ => none
theorem txtsOf_get : ∀ {items : List Value} {txts : List (List Nat)} {n : Nat} {A : List Nat}, txtsOf items = some txts → txts[n]? = some A → ∃ tk, items[n]? = some (.str ⟨⟨A⟩⟩ tk) := by
  run_tac sqIn
  intro items
  induction items with
  | nil => intro txts n A h hA; cases h; simp at hA
  | cons v r ih =>
    intro txts n A h hA
    cases v with
    | str s tk =>
      obtain ⟨⟨l⟩⟩ := s
      simp only [txtsOf] at h
      cases q : txtsOf r with
      | none => rw [q] at h; cases h
      | some tr =>
        rw [q] at h
        cases h
        cases n with
        | zero => simp at hA; subst hA; exact ⟨tk, rfl⟩
        | succ n => simp at hA ⊢; exact ih q hA
    | _ => cases h
  run_tac sqOut
section
variable {w : World} {h h₀ : Heap} {vs : Array Value} {g : Array GenState} {d : Drawn} {t : Nat} {os : OsState} {dp un : Nat} {fr : List Env} {gd : List Code} {R : Result → Shared → Prop} {news : List (Addr × Obj)} {A : Around}
theorem tup_text {l : Addr} {items : List Value} {e : Nat} {i : Int} {ti : Tok} {txts : List (List Nat)} {x : List Nat} (D : Hp h₀ h vs news) (hl : h.get? l = some (tupO items e)) (ht : txtsOf items = some txts) (hx : txts[i.toNat]? = some x) (h0 : 0 ≤ i) (h1 : i < 1000)
    (hR : ∀ tk h' t', Hp h₀ h' vs news → R (.ok (.ret (.str ⟨⟨x⟩⟩ tk))) ⟨h', g, d, t', os⟩) : RunsB w A "tuple.__getitem__" [.ref l, .int i ti] R ⟨h, g, d, t, os⟩ := by
  run_tac sqIn
  obtain ⟨n, rfl⟩ := Int.eq_ofNat_of_zero_le h0
  obtain ⟨tk, hi⟩ := txtsOf_get ht hx
  exact tup_item D hl rfl hi (by (run_tac om)) (hR tk)
  run_tac sqOut
theorem str_cat {a b c : List Nat} {ta tb : Tok} (D : Hp h₀ h vs news) (hc : a ++ b = c) (h0 : c.length ≤ 1000)
    (hR : ∀ tk h' t', Hp h₀ h' vs news → R (.ok (.ret (.str ⟨⟨c⟩⟩ tk))) ⟨h', g, d, t', os⟩) : RunsB w A "str.__add__" [.str ⟨⟨a⟩⟩ ta, .str ⟨⟨b⟩⟩ tb] R ⟨h, g, d, t, os⟩ := by
  run_tac sqIn
  subst hc
  refine of_gives F.entry_str_add (by decide +kernel) (gives_str_add ⟨⟨a⟩⟩ ⟨⟨b⟩⟩ ta tb) ?_
  cases a with
  | nil => exact hR tb h t D
  | cons x a =>
    cases b with
    | nil => simp only [List.append_nil] at hR; exact hR ta h t D
    | cons y b =>
      have e : ((⟨⟨x :: a⟩⟩ : Str) ++ (⟨⟨y :: b⟩⟩ : Str)) = ⟨⟨(x :: a) ++ (y :: b)⟩⟩ := by
        apply Str.ext'
        apply Array.toList_inj.mp
        simp only [Str.cps_append, Array.toList_append]
      refine ⟨?_, ?_⟩
      · rw [e, sizeLine_eq]; simp [Str.length] at h0 ⊢; (run_tac om)
      · rw [e]; exact hR t h _ D
  run_tac sqOut
theorem str_ne_same {a b : List Nat} {ta tb : Tok} (D : Hp h₀ h vs news) (hc : a = b)
    (hR : ∀ h' t', Hp h₀ h' vs news → R (.ok (.ret (.bool false))) ⟨h', g, d, t', os⟩) : RunsB w A "str.__ne__" [.str ⟨⟨a⟩⟩ ta, .str ⟨⟨b⟩⟩ tb] R ⟨h, g, d, t, os⟩ := by
  run_tac sqIn
  subst hc
  refine of_gives F.entry_str_ne (by decide +kernel) (gives_str_ne ⟨⟨a⟩⟩ ⟨⟨a⟩⟩ ta tb) ?_
  have e : (!((⟨⟨a⟩⟩ : Str).cps.toList == (⟨⟨a⟩⟩ : Str).cps.toList)) = false := by simp
  show R (.ok (.ret (.bool (!((⟨⟨a⟩⟩ : Str).cps.toList == (⟨⟨a⟩⟩ : Str).cps.toList))))) _
  rw [e]
  exact hR h t D
  run_tac sqOut
theorem list_ne_same (X : (K w.params).In h₀) (D : Hp h₀ h vs news) (hdp : dp ≤ 700) (hun : un ≤ 7000) {a b : Addr} {ea eb : Nat} {la lb : List Value} {ns : List Nat} (ha : h.get? a = some (listO la ea)) (hb : h.get? b = some (listO lb eb)) (na : Nums la ns) (nb : Nums lb ns)
    (hR : ∀ h' t', Hp h₀ h' vs news → R (.ok (.ret (.bool false))) ⟨h', g, d, t', os⟩) : RunsB w (At dp un fr gd) "list.__ne__" [.ref a, .ref b] R ⟨h, g, d, t, os⟩ :=
  list_ne X D hdp hun ha hb na nb fun x h' t' e => by
    have : x = false := by rw [e]; simp
    rw [this]; exact hR h' t'
noncomputable abbrev rangeO (a b c : Int) (t1 t2 t3 : Tok) : Obj := ⟨.type "range", none, .fields ⟨[.int a t1, .int b t2, .int c t3]⟩, ⟨[]⟩⟩
noncomputable abbrev rangeIt (x left step : Int) : Obj := ⟨.type "range_iterator", none, .fields ⟨[.int x 0, .int left 0, .int step 0]⟩, ⟨[]⟩⟩
theorem range_iter {r : Addr} {a b c n : Int} {t1 t2 t3 : Tok} (D : Hp h₀ h vs news) (hr : h.get? r = some (rangeO a b c t1 t2 t3)) (hs : Builtin.Range.small a b c = true) (hn : Builtin.Range.rangeSize a b c = n)
    (hR : ∀ it h', Hp h₀ h' vs ((it, rangeIt a n c) :: news) → R (.ok (.ret (.ref it))) ⟨h', g, d, t, os⟩) : RunsB w A "range.__iter__" [.ref r] R ⟨h, g, d, t, os⟩ := by
  run_tac sqIn
  subst hn
  refine of_meets F.entry_range_iter (by decide +kernel) (AutoRange.range___iter___range_1 r a b c t1 t2 t3 (by unfold Builtin.Range.small at hs; simp [hs])) ⟨hr, ?_⟩
  unfold Builtin.Range.small at hs
  simp only [hs, if_true]
  exact hR h.objs.size _ (D.alloc (o := rangeIt a (Builtin.Range.rangeSize a b c) c) rfl)
  run_tac sqOut
theorem range_down {r : Addr} {t1 t2 t3 : Tok} (D : Hp h₀ h vs news) (hr : h.get? r = some (rangeO 31 (-1) (-1) t1 t2 t3))
    (hR : ∀ it h', Hp h₀ h' vs ((it, rangeIt 31 32 (-1)) :: news) → R (.ok (.ret (.ref it))) ⟨h', g, d, t, os⟩) : RunsB w A "range.__iter__" [.ref r] R ⟨h, g, d, t, os⟩ :=
  range_iter D hr (by decide +kernel) (by decide +kernel) hR
theorem range_up {r : Addr} {b m : Int} {t1 t2 t3 : Tok} (D : Hp h₀ h vs news) (hr : h.get? r = some (rangeO 1 b 1 t1 t2 t3)) (hb : b = m + 1) (h0 : 1 ≤ m) (h1 : m ≤ 100)
    (hR : ∀ it h', Hp h₀ h' vs ((it, rangeIt 1 m 1) :: news) → R (.ok (.ret (.ref it))) ⟨h', g, d, t, os⟩) : RunsB w A "range.__iter__" [.ref r] R ⟨h, g, d, t, os⟩ := by
  run_tac sqIn
  subst hb
  have hz : Builtin.Range.rangeSize 1 (m + 1) 1 = m := by
    unfold Builtin.Range.rangeSize
    simp
    (run_tac om)
  refine range_iter D hr ?_ hz hR
  unfold Builtin.Range.small
  rw [hz]
  simp [Builtin.Range.rangeFitsLong]
  (run_tac om)
  run_tac sqOut
end
end Mine
end
section
open PySem PySem.W PySem.W.X PyProof.Rows
set_option maxRecDepth 100000
set_option Elab.async false
namespace Mine
section
variable {h₀ h h' B B' : Heap} {vs vs' : Array Value} {news news' : List (Addr × Obj)}
theorem Hp.base (D : Hp B h vs news) (sz : B'.objs.size = B.objs.size) (e : ∀ b, B'.get? b = B.get? b) : Hp B' h vs news :=
  ⟨by rw [sz]; exact D.size, by obtain ⟨ps, m, q, r⟩ := D.tab0; exact ⟨ps, m, (e _).trans q, r⟩, fun b o q hb => D.keep b o ((e b).symm.trans q) hb, D.tab, fun p hp => ⟨(D.nw p hp).1, (e _).trans (D.nw p hp).2⟩, D.ord,
    D.code.imp id fun ⟨c, q, hc, hn, hz⟩ => ⟨c, q, hc, hn, hz.imp (fun x => (e _).trans x) (fun x => (e _).trans x)⟩⟩
/-- what was the callee's is the base's again, changed -/
theorem Hp.absorb {i : Nat} {f : Addr} {o o' : Obj} (hB : B.get? f = some o) (D : Hp (gone B f) h' vs' news) (hi : news[i]? = some (f, o')) : Hp (B.update f fun _ => o') h' vs' (news.eraseIdx i) := by
  run_tac sqIn
  have z := D.nw (f, o') (List.mem_of_getElem? hi)
  have n40 := D.ne40 z.2
  have hf' : o'.isFreed = false := (Heap.get?_some_iff.mp z.1).2
  have sub : (news.eraseIdx i).Sublist news := List.eraseIdx_sublist ..
  have nf : ∀ p ∈ news.eraseIdx i, p.1 ≠ f := fun p hp => by
    have sp := pairwise_split hi
    have ord' := D.ord
    rw [sp, List.map_append, List.map_cons] at ord'
    have e : news.eraseIdx i = news.take i ++ news.drop (i + 1) := List.eraseIdx_eq_take_drop_succ ..
    rw [e] at hp
    rcases List.mem_append.mp hp with hp | hp
    · exact (List.pairwise_append.mp ord').2.2 p.1 (List.mem_map_of_mem hp) f (.head _)
    · exact ((List.pairwise_cons.mp (List.pairwise_append.mp ord').2.1).1 p.1 (List.mem_map_of_mem hp)).symm
  refine ⟨?_, ?_, fun b o'' q hb => ?_, D.tab, fun p hp => ⟨(D.nw p (sub.subset hp)).1, ?_⟩, List.Pairwise.sublist (sub.map _) D.ord, ?_⟩
  · have := D.size; rw [gone_size] at this; rw [Heap.size_after_update]; exact this
  · obtain ⟨ps, m, q, r⟩ := D.tab0
    rw [gone_ne n40.symm] at q
    exact ⟨ps, m, by rw [Heap.get?_update_other _ _ n40]; exact q, r⟩
  · by_cases hbf : b = f
    · subst hbf
      rw [Heap.get?_update_self _ hB hf'] at q
      cases q
      exact z.1
    · rw [Heap.get?_update_other _ _ (fun e => hbf e.symm)] at q
      exact D.keep b o'' (by rw [gone_ne hbf]; exact q) hb
  · have := (D.nw p (sub.subset hp)).2
    rw [gone_ne (nf p hp)] at this
    rw [Heap.get?_update_other _ _ (nf p hp).symm]
    exact this
  · rcases D.code with q | ⟨c, q, hc, hn, hz⟩
    · exact .inl q
    · have cf : f ≠ c := hn (f, o') (List.mem_of_getElem? hi)
      refine .inr ⟨c, q, hc, fun p hp => hn p (sub.subset hp), ?_⟩
      rw [gone_ne n40.symm, gone_ne cf.symm] at hz
      rw [Heap.get?_update_other _ _ n40, Heap.get?_update_other _ _ cf]
      exact hz
  run_tac sqOut
theorem Hp.notK (D : Hp h₀ h vs news) {F : Frag} (X : F.In h₀) {f : Addr} {o : Obj} (hf : (f, o) ∈ news) : F.lookup f = none := by
  run_tac sqIn
  cases q : F.lookup f with
  | none => rfl
  | some o' => exact (clash (X f o' q) (D.nw _ hf).2).elim
  run_tac sqOut
theorem Hp.lift1 (D : Hp h₀ h vs news) {i : Nat} {f : Addr} {o : Obj} (hi : news[i]? = some (f, o)) (nc : o.cls ≠ .type "code") : Hp (gone h f) h vs [(f, o)] :=
  D.here.apart (D.at i f o hi) (D.ne40 (D.nw _ (List.mem_of_getElem? hi)).2) (D.at i f o hi) (fun _ hp => (nomatch hp)) nc
theorem Hp.lift2 (D : Hp h₀ h vs news) {i j : Nat} {f1 f2 : Addr} {o1 o2 : Obj} (hi : news[i]? = some (f1, o1)) (hj : news[j]? = some (f2, o2)) (ne : f1 ≠ f2) (nc1 : o1.cls ≠ .type "code") (nc2 : o2.cls ≠ .type "code") : Hp (gone (gone h f1) f2) h vs [(f1, o1), (f2, o2)] :=
  (D.lift1 hi nc1).apart (by rw [gone_ne ne.symm]; exact D.at j f2 o2 hj) (D.ne40 (D.nw _ (List.mem_of_getElem? hj)).2) (D.at j f2 o2 hj) (fun p hp => by obtain rfl := List.mem_singleton.mp hp; exact ne) nc2
theorem gone_update {h : Heap} {f g : Addr} (ne : f ≠ g) (o' : Obj) (b : Addr) : (gone (h.update g fun _ => o') f).get? b = ((gone h f).update g fun _ => o').get? b := by
  run_tac sqIn
  by_cases hf : b = f
  · subst hf
    rw [gone_at, Heap.get?_update_other _ _ ne.symm, gone_at]
  · rw [gone_ne hf]
    by_cases hg : b = g
    · subst hg
      unfold gone Heap.update Heap.get?
      cases h
      simp only [Array.getElem?_modify, if_true, if_neg ne]
    · rw [Heap.get?_update_other _ _ (fun e => hg e.symm), Heap.get?_update_other _ _ (fun e => hg e.symm), gone_ne hf]
  run_tac sqOut
theorem Hp.back2 (D : Hp h₀ h vs news) {i j : Nat} {f1 f2 : Addr} {o1 o2 o1' o2' : Obj} (hi : news[i]? = some (f1, o1)) (hj : news[j]? = some (f2, o2)) (ne : f1 ≠ f2) (D' : Hp (gone (gone h f1) f2) h' vs' [(f1, o1'), (f2, o2')]) :
    Hp h₀ h' vs' ((news.set j (f2, o2')).set i (f1, o1')) := by
  run_tac sqIn
  have a2 : (gone h f1).get? f2 = some o2 := by rw [gone_ne ne.symm]; exact D.at j f2 o2 hj
  have A := Hp.absorb (i := 1) a2 D' rfl
  have A2 : Hp (gone (h.update f2 fun _ => o2') f1) h' vs' [(f1, o1')] := A.base (by rw [gone_size, Heap.size_after_update, Heap.size_after_update, gone_size]) (gone_update ne o2')
  have b1 : (h.update f2 fun _ => o2').get? f1 = some o1 := by rw [Heap.get?_update_other _ _ ne.symm]; exact D.at i f1 o1 hi
  have A3 := Hp.absorb (i := 0) b1 A2 rfl
  have f2' : o2'.isFreed = false := (Heap.get?_some_iff.mp (D'.nw (f2, o2') (.tail _ (.head _))).1).2
  have f1' : o1'.isFreed = false := (Heap.get?_some_iff.mp (D'.nw (f1, o1') (.head _)).1).2
  have E : Hp h₀ (h.update f2 fun _ => o2') vs (news.set j (f2, o2')) := D.update hj f2'
  have hij : j ≠ i := by
    rintro rfl
    rw [hi] at hj
    cases hj
    exact ne rfl
  have E2 : Hp h₀ ((h.update f2 fun _ => o2').update f1 fun _ => o1') vs ((news.set j (f2, o2')).set i (f1, o1')) := E.update (by rw [List.getElem?_set_ne hij]; exact hi) f1'
  exact E2.trans A3
  run_tac sqOut
theorem Hp.back1 (D : Hp h₀ h vs news) {i : Nat} {f1 : Addr} {o1 o1' : Obj} (hi : news[i]? = some (f1, o1)) (D' : Hp (gone h f1) h' vs' [(f1, o1')]) : Hp h₀ h' vs' (news.set i (f1, o1')) :=
  D.joined (news' := []) hi D'
end
section
variable {w : World} {h h₀ : Heap} {vs : Array Value} {g : Array GenState} {d : Drawn} {t : Nat} {os : OsState} {dp un : Nat} {fr : List Env} {gd : List Code} {R : Result → Shared → Prop} {news : List (Addr × Obj)}
theorem HexAt.gone {f : Addr} (HS : HexAt w h) (n : (15 : Addr) ≠ f) : HexAt w (gone h f) := by
  obtain ⟨es, ep, t, ho, r⟩ := HS
  exact ⟨es, ep, t, by rw [gone_ne n]; exact ho, r⟩
theorem Hp.not15 (D : Hp h₀ h vs news) (HS : HexAt w h₀) {f : Addr} {o : Obj} (hf : (f, o) ∈ news) : (15 : Addr) ≠ f := by
  run_tac sqIn
  obtain ⟨es, ep, t, ho, r⟩ := HS
  rintro rfl
  exact clash ho (D.nw _ hf).2
  run_tac sqOut
theorem read_ok' (X : (K w.params).In h₀) (HS : HexAt w h₀) (D : Hp h₀ h vs news) (hdp : dp ≤ 400) (hun : un ≤ 3000)
    (T : List Nat) (x c : Int) (tT tx tc : Tok) (hT : T.length ≤ 100) (hx : 0 ≤ x) (hc : 1 ≤ c) {l : List Nat} (hl : (T.drop x.toNat).take ((x + c).toNat - x.toNat) = l)
    (hlen : (l.length : Int) = c) (hall : l.all isHex = true) {k : Nat} {m : Int} (hk : hexVal l = k) (hm : ((k : Nat) : Int) = m) (hsc : isScalar m = true)
    (hR : ∀ a ti tc h' t', Hp h₀ h' vs ((a, tupO [.int (x + c) ti, .str ⟨⟨[k]⟩⟩ tc] 0) :: news) → R (.ok (.ret (.ref a))) ⟨h', g, d, t', os⟩) :
    Runs w dp un fr gd 97 [.str ⟨⟨T⟩⟩ tT, .int x tx, .int c tc] R ⟨h, g, d, t, os⟩ :=
  read_ok (D.inFrag X K40) (D.set HS (by decide)) D.here hdp hun T x c tT tx tc hT hx hc hl hlen hall hk hm hsc fun a ti tc h' t' D' => hR a ti tc h' t' (D.trans D')
variable {f1 f2 : Addr} {d1 d2 : Array DictEntry} {n1 n2 : Nat} {s1 s2 : Array (Option Value)} {eR eL : Env} {i j : Nat}
theorem fr_cls (d : Array DictEntry) (n : Nat) (s : Array (Option Value)) : (frameX d n s).cls ≠ .type "code" := by
  run_tac sqIn
  show Value.type "frame" ≠ Value.type "code"
  intro e
  injection e with e
  exact absurd e (by decide)
  run_tac sqOut
theorem read_esc (X : (K w.params).In h₀) (HS : HexAt w h₀) (D : Hp h₀ h vs news) (F1 : FEnv eR f1) (F2 : FEnv eL f2) (hi : news[i]? = some (f1, frameX d1 n1 s1)) (hj : news[j]? = some (f2, frameX d2 n2 s2)) (ne : f1 ≠ f2) (hdp : dp ≤ 400) (hun : un ≤ 3000)
    (T : List Nat) (x c : Int) (tT tx tc : Tok) (hT : T.length ≤ 100) (hx : 0 ≤ x) (hc : 1 ≤ c) {l : List Nat} (hl : (T.drop x.toNat).take ((x + c).toNat - x.toNat) = l)
    (hlen : (l.length : Int) = c) (hall : l.all isHex = true) {k : Nat} {m : Int} (hk : hexVal l = k) (hm : ((k : Nat) : Int) = m) (hsc : isScalar m = false)
    (hR : ∀ tr vs' h' t' s1' s2', Hp h₀ h' vs' ((news.set j (f2, frameX d2 n2 s2')).set i (f1, frameX d1 n1 s1')) → R (.ok (.ret (.str ⟨⟨errText msgEsc T (x + c).toNat⟩⟩ tr))) ⟨h', g, d, t', os⟩) :
    Runs w dp un [eR, eL] gd 97 [.str ⟨⟨T⟩⟩ tT, .int x tx, .int c tc] R ⟨h, g, d, t, os⟩ :=
  have m1 := List.mem_of_getElem? hi
  have m2 := List.mem_of_getElem? hj
  have X' := gone_in (gone_in (D.inFrag X K40) (D.notK X m1)) (D.notK X m2)
  have HS' := HexAt.gone (HexAt.gone (D.set HS (by decide)) (D.not15 HS m1)) (D.not15 HS m2)
  read_err X' HS' F1 F2 (D.lift2 hi hj ne (fr_cls _ _ _) (fr_cls _ _ _)) hdp hun T x c tT tx tc
    (fun F0 D0 h1 h2 hR => parse_esc X' HS' F0 F1 F2 D0 h1 h2 T x c tT tx tc hT hx hc hl hlen hall hk hm hsc hR)
    (fun tr vs' h' t' s1' s2' D' => hR tr vs' h' t' s1' s2' (D.back2 hi hj ne D'))
theorem read_bad (X : (K w.params).In h₀) (HS : HexAt w h₀) (D : Hp h₀ h vs news) (F1 : FEnv eR f1) (F2 : FEnv eL f2) (hi : news[i]? = some (f1, frameX d1 n1 s1)) (hj : news[j]? = some (f2, frameX d2 n2 s2)) (ne : f1 ≠ f2) (hdp : dp ≤ 400) (hun : un ≤ 3000)
    (T : List Nat) (x c : Int) (tT tx tc : Tok) (hT : T.length ≤ 100) (hx : 0 ≤ x) (hc : 1 ≤ c) {l : List Nat} (hl : (T.drop x.toNat).take ((x + c).toNat - x.toNat) = l)
    (hbad : (l.length : Int) ≠ c ∨ l.all isHex = false)
    (hR : ∀ tr vs' h' t' s1' s2', Hp h₀ h' vs' ((news.set j (f2, frameX d2 n2 s2')).set i (f1, frameX d1 n1 s1')) → R (.ok (.ret (.str ⟨⟨errText msgHex T x.toNat⟩⟩ tr))) ⟨h', g, d, t', os⟩) :
    Runs w dp un [eR, eL] gd 97 [.str ⟨⟨T⟩⟩ tT, .int x tx, .int c tc] R ⟨h, g, d, t, os⟩ :=
  have m1 := List.mem_of_getElem? hi
  have m2 := List.mem_of_getElem? hj
  have X' := gone_in (gone_in (D.inFrag X K40) (D.notK X m1)) (D.notK X m2)
  have HS' := HexAt.gone (HexAt.gone (D.set HS (by decide)) (D.not15 HS m1)) (D.not15 HS m2)
  read_err X' HS' F1 F2 (D.lift2 hi hj ne (fr_cls _ _ _) (fr_cls _ _ _)) hdp hun T x c tT tx tc
    (fun F0 D0 h1 h2 hR =>
      if hlen : (l.length : Int) = c then parse_bad X' HS' F0 F1 F2 D0 h1 h2 T x c tT tx tc hT hx hc hl hlen (hbad.resolve_left (fun q => q hlen)) hR
      else parse_short X' HS' F0 F1 F2 D0 h1 h2 T x c tT tx tc hT hx hc hl hlen hR)
    (fun tr vs' h' t' s1' s2' D' => hR tr vs' h' t' s1' s2' (D.back2 hi hj ne D'))
end
end Mine
end
section
open PySem PySem.W PySem.W.X PyProof.Rows
set_option maxRecDepth 100000
set_option Elab.async false
namespace Mine
/-- the heap without some objects -/
noncomputable def gones (h : Heap) : List Addr → Heap
  | [] => h
  | a :: l => gone (gones h l) a
theorem gones_size (h : Heap) : ∀ l, (gones h l).objs.size = h.objs.size
  | [] => rfl
  | a :: l => (gone_size _ _).trans (gones_size h l)
theorem gones_ne {h : Heap} : ∀ {l : List Addr} {b : Addr}, b ∉ l → (gones h l).get? b = h.get? b
  | [], _, _ => rfl
  | a :: l, b, n => by
    rw [List.mem_cons, not_or] at n
    exact (gone_ne n.1).trans (gones_ne n.2)
theorem gones_at {h : Heap} : ∀ {l : List Addr} {b : Addr}, b ∈ l → (gones h l).get? b = none
  | a :: l, b, m => by
    by_cases e : b = a
    · subst e; exact gone_at _ _
    · exact (gone_ne e).trans (gones_at ((List.mem_cons.mp m).resolve_left e))
theorem gones_some {h : Heap} {l : List Addr} {b : Addr} {o : Obj} (e : (gones h l).get? b = some o) : b ∉ l ∧ h.get? b = some o := by
  run_tac sqIn
  have n : b ∉ l := fun m => clash e (gones_at m)
  exact ⟨n, (gones_ne n).symm.trans e⟩
  run_tac sqOut
section
variable {h₀ h h' : Heap} {vs vs' : Array Value} {l rest new : List (Addr × Obj)}
theorem Hp.no40 (D : Hp h₀ h vs (l ++ rest)) : (40 : Addr) ∉ l.map (·.1) := fun m => by
  obtain ⟨p, hp, e⟩ := List.mem_map.mp m
  exact D.ne40 (D.nw p (List.mem_append.mpr (.inl hp))).2 e
/-- a part of the news by itself -/
theorem Hp.front (D : Hp h₀ h vs (l ++ rest)) : Hp (gones h (l.map (·.1))) h vs l := by
  run_tac sqIn
  refine ⟨by rw [gones_size]; exact Nat.le_refl _, ⟨vs, #[], (gones_ne D.no40).trans D.tab, by simp⟩, fun b o e _ => (gones_some e).2, D.tab, fun p hp => ⟨(D.nw p (List.mem_append.mpr (.inl hp))).1, gones_at (List.mem_map_of_mem hp)⟩, ?_, ?_⟩
  · have := D.ord
    rw [List.map_append] at this
    exact (List.pairwise_append.mp this).1
  · rcases D.code with q | ⟨c, q, hc, hn, _⟩
    · exact .inl q
    · exact .inr ⟨c, q, hc, fun p hp => hn p (List.mem_append.mpr (.inl hp)), .inl (by rw [gones_ne D.no40, D.tab, q])⟩
  run_tac sqOut
/-- and back: the rest stands as it stood -/
theorem Hp.framed (D : Hp h₀ h vs (l ++ rest)) (D' : Hp (gones h (l.map (·.1))) h' vs' new) : Hp h₀ h' vs' (new ++ rest) := by
  run_tac sqIn
  have old : ∀ b o, h₀.get? b = some o → b ∉ l.map (·.1) := fun b o e m => by
    obtain ⟨p, hp, rfl⟩ := List.mem_map.mp m
    exact clash e (D.nw p (List.mem_append.mpr (.inl hp))).2
  have rst : ∀ q ∈ rest, q.1 ∉ l.map (·.1) := fun q hq m => by
    obtain ⟨p, hp, e⟩ := List.mem_map.mp m
    have := D.ord
    rw [List.map_append] at this
    exact (List.pairwise_append.mp this).2.2 p.1 (List.mem_map_of_mem hp) q.1 (List.mem_map_of_mem hq) e
  have rg : ∀ q ∈ rest, (gones h (l.map (·.1))).get? q.1 = some q.2 := fun q hq => (gones_ne (rst q hq)).trans (D.nw q (List.mem_append.mpr (.inr hq))).1
  have og : ∀ b o, h₀.get? b = some o → b ≠ 40 → (gones h (l.map (·.1))).get? b = some o := fun b o e n => (gones_ne (old b o e)).trans (D.keep b o e n)
  have none0 : ∀ a, (gones h (l.map (·.1))).get? a = none → h₀.get? a = none := fun a e => by
    cases q : h₀.get? a with
    | none => rfl
    | some o =>
      by_cases h40 : a = 40
      · subst h40; rw [gones_ne D.no40, D.tab] at e; cases e
      · exact (clash (og a o q h40) e).elim
  have g40 : (gones h (l.map (·.1))).get? 40 = some (tableObj vs) := (gones_ne D.no40).trans D.tab
  refine ⟨Nat.le_trans D.size (by have := D'.size; rw [gones_size] at this; exact this), ?_, fun b o e n => D'.keep b o (og b o e n) n, D'.tab, fun p hp => ?_, ?_, ?_⟩
  · obtain ⟨ps, m, e, r⟩ := D.tab0
    obtain ⟨ps', m', e', r'⟩ := D'.tab0
    rw [g40] at e'
    have := tab_inj (Option.some.inj e')
    subst this
    exact ⟨ps, m ++ m', e, by rw [r', r, Array.append_assoc]⟩
  · rcases List.mem_append.mp hp with hp | hp
    · exact ⟨(D'.nw p hp).1, none0 _ (D'.nw p hp).2⟩
    · have y := D.nw p (List.mem_append.mpr (.inr hp))
      exact ⟨D'.keep _ _ (rg p hp) (D.ne40 y.2), y.2⟩
  · rw [List.map_append]
    have := D.ord
    rw [List.map_append] at this
    refine List.pairwise_append.mpr ⟨D'.ord, (List.pairwise_append.mp this).2.1, fun x hx y hy => ?_⟩
    obtain ⟨p, hp, rfl⟩ := List.mem_map.mp hx
    obtain ⟨q, hq, rfl⟩ := List.mem_map.mp hy
    intro e
    exact clash (rg q hq) (e ▸ (D'.nw p hp).2)
  · rcases D'.code with q | ⟨c, q, hc, hn, hz⟩
    · exact .inl q
    · have hz' : vs = tabOf c ∨ (gones h (l.map (·.1))).get? c = none := hz.imp (fun x => tab_inj (Option.some.inj (g40.symm.trans x))) id
      refine .inr ⟨c, q, hc, fun p hp => ?_, ?_⟩
      · rcases List.mem_append.mp hp with hp | hp
        · exact hn p hp
        · rcases hz' with z | z
          · rcases D.code with x | ⟨c', x, _, y, _⟩
            · rw [z] at x; cases x
            · exact tabOf_inj (z.symm.trans x) ▸ y p (List.mem_append.mpr (.inr hp))
          · intro x
            exact clash (rg p hp) (x ▸ z)
      · rcases hz' with z | z
        · rcases D.code with x | ⟨c', x, _, _, y⟩
          · rw [z] at x; cases x
          · rw [tabOf_inj (z.symm.trans x)]; exact y
        · exact .inr (none0 _ z)
  run_tac sqOut
theorem Hp.frontFrag (D : Hp h₀ h vs (l ++ rest)) {F : Frag} (X : F.In h₀) (hF : F.lookup 40 = none) : F.In (gones h (l.map (·.1))) := fun a o e => by
  have q := D.inFrag X hF a o e
  refine (gones_ne fun m => ?_).trans q
  obtain ⟨p, hp, rfl⟩ := List.mem_map.mp m
  exact clash (X _ _ e) (D.nw p (List.mem_append.mpr (.inl hp))).2
/-- what the rest holds, the part's base holds -/
theorem Hp.frontAt (D : Hp h₀ h vs (l ++ rest)) {i : Nat} {a : Addr} {o : Obj} (hi : rest[i]? = some (a, o)) : (gones h (l.map (·.1))).get? a = some o := by
  run_tac sqIn
  have hq := List.mem_of_getElem? hi
  refine (gones_ne fun m => ?_).trans (D.nw _ (List.mem_append.mpr (.inr hq))).1
  obtain ⟨p, hp, e⟩ := List.mem_map.mp m
  have := D.ord
  rw [List.map_append] at this
  exact (List.pairwise_append.mp this).2.2 p.1 (List.mem_map_of_mem hp) a (List.mem_map_of_mem hq) e
  run_tac sqOut
end
end Mine
end
section
open PySem PySem.W PySem.W.X PyProof.Rows
set_option maxRecDepth 100000
set_option maxHeartbeats 4000000
set_option Elab.async false
set_option linter.unusedVariables false
namespace Mine
/-! the plain law of the bits -/
noncomputable def isBit (n p : Nat) : Bool := n / 2 ^ p % 2 == 1
/-- the bits below k, the highest first -/
noncomputable def bitsDown : Nat → Nat → List Nat
  | 0, _ => []
  | k + 1, n => (if isBit n k then [k] else []) ++ bitsDown k n
theorem bitsDown_zero : ∀ k, bitsDown k 0 = []
  | 0 => rfl
  | k + 1 => by
    rw [bitsDown, bitsDown_zero k]
    simp [isBit]
theorem isBit_add (r k p : Nat) (h : p < k) : isBit (2 ^ k + r) p = isBit r p := by
  run_tac sqIn
  unfold isBit
  obtain ⟨j, rfl⟩ : ∃ j, k = p + 1 + j := ⟨k - (p + 1), by (run_tac om)⟩
  have e : 2 ^ (p + 1 + j) = 2 ^ p * (2 * 2 ^ j) := by rw [Nat.pow_add, Nat.pow_add, Nat.mul_assoc, Nat.pow_one]
  rw [e, Nat.mul_add_div (Nat.two_pow_pos p), Nat.mul_add_mod]
  run_tac sqOut
theorem bitsDown_add (r k : Nat) : ∀ m, m ≤ k → bitsDown m (2 ^ k + r) = bitsDown m r
  | 0, _ => rfl
  | m + 1, h => by rw [bitsDown, bitsDown, bitsDown_add r k m (by (run_tac om)), isBit_add r k m (by (run_tac om))]
theorem topBits_down : ∀ (k n : Nat), n < 2 ^ k → topBits n = bitsDown k n
  | 0, n, h => by
    obtain rfl : n = 0 := by simpa using h
    rw [topBits_zero]; rfl
  | k + 1, n, h => by
    rw [bitsDown]
    by_cases hn : n < 2 ^ k
    · have e : isBit n k = false := by simp [isBit, Nat.div_eq_of_lt hn]
      rw [topBits_down k n hn, e]; rfl
    · have hp : 0 < n := Nat.lt_of_lt_of_le (Nat.two_pow_pos k) (Nat.le_of_not_lt hn)
      have hl : Nat.log2 n = k := (Nat.log2_eq_iff (by (run_tac om))).mpr ⟨by (run_tac om), h⟩
      obtain ⟨r, rfl⟩ : ∃ r, n = 2 ^ k + r := ⟨n - 2 ^ k, by (run_tac om)⟩
      have hr : r < 2 ^ k := by rw [Nat.pow_succ] at h; (run_tac om)
      have e : isBit (2 ^ k + r) k = true := by
        unfold isBit
        have : (2 ^ k + r) / 2 ^ k = 1 := by
          rw [Nat.add_div_left _ (Nat.two_pow_pos k), Nat.div_eq_of_lt hr]
        rw [this]; rfl
      rw [topBits_pos hp, hl, Nat.add_sub_cancel_left, e, bitsDown_add r k k (Nat.le_refl _), topBits_down k r hr]
      rfl
theorem bitsDown_lt : ∀ (k n : Nat), ∀ p ∈ bitsDown k n, p < k
  | 0, _, p, h => by cases h
  | k + 1, n, p, h => by
    rw [bitsDown] at h
    rcases List.mem_append.mp h with h | h
    · split at h
      · simp at h; (run_tac om)
      · cases h
    · have := bitsDown_lt k n p h; (run_tac om)
theorem isBit_shift (n d p : Nat) : isBit (n / 2 ^ d) p = isBit n (p + d) := by
  run_tac sqIn
  unfold isBit
  rw [Nat.div_div_eq_div_mul, ← Nat.pow_add, Nat.add_comm d p]
  run_tac sqOut
/-- the bits moved down -/
theorem bits_shift (n d : Nat) : ∀ k, ((bitsDown (k + d) n).filter (fun p => decide (d ≤ p))).map (· - d) = bitsDown k (n / 2 ^ d)
  | 0 => by
    rw [Nat.zero_add, List.filter_eq_nil_iff.mpr]
    · rfl
    · intro p hp
      have := bitsDown_lt _ _ p hp
      simp; (run_tac om)
  | k + 1 => by
    rw [show k + 1 + d = (k + d) + 1 by (run_tac om), bitsDown, bitsDown, List.filter_append, List.map_append, bits_shift n d k, isBit_shift]
    congr 1
    split
    · simp [show d ≤ k + d by (run_tac om)]
    · rfl
theorem bits_sum : ∀ (k n : Nat), n < 2 ^ k → ((bitsDown k n).map (2 ^ ·)).sum = n
  | 0, n, h => by
    obtain rfl : n = 0 := by simpa using h
    rfl
  | k + 1, n, h => by
    rw [bitsDown]
    by_cases hn : n < 2 ^ k
    · have e : isBit n k = false := by simp [isBit, Nat.div_eq_of_lt hn]
      rw [e]; exact bits_sum k n hn
    · obtain ⟨r, rfl⟩ : ∃ r, n = 2 ^ k + r := ⟨n - 2 ^ k, by (run_tac om)⟩
      have hr : r < 2 ^ k := by rw [Nat.pow_succ] at h; (run_tac om)
      have e : isBit (2 ^ k + r) k = true := by
        unfold isBit
        have : (2 ^ k + r) / 2 ^ k = 1 := by
          rw [Nat.add_div_left _ (Nat.two_pow_pos k), Nat.div_eq_of_lt hr]
        rw [this]; rfl
      rw [e, bitsDown_add r k k (Nat.le_refl _)]
      simp only [if_true, List.map_append, List.map_cons, List.map_nil, List.sum_append, List.sum_cons, List.sum_nil]
      rw [bits_sum k r hr]; (run_tac om)
theorem topBits_shift (n d k : Nat) (h : n < 2 ^ (k + d)) : ((topBits n).filter (fun p => decide (d ≤ p))).map (· - d) = topBits (n / 2 ^ d) := by
  run_tac sqIn
  rw [topBits_down (k + d) n h, bits_shift, topBits_down k]
  rw [Nat.div_lt_iff_lt_mul (Nat.two_pow_pos d), ← Nat.pow_add]; exact h
  run_tac sqOut
theorem topBits_sum (n : Nat) : ((topBits n).map (2 ^ ·)).sum = n := by
  run_tac sqIn
  have h : n < 2 ^ n := Nat.lt_two_pow_self
  rw [topBits_down n n h, bits_sum n n h]
  run_tac sqOut
theorem bits_split (n j : Nat) : ∀ i, bitsDown (i + j) n = (bitsDown i (n / 2 ^ j)).map (· + j) ++ bitsDown j n
  | 0 => by rw [Nat.zero_add]; rfl
  | i + 1 => by
    rw [show i + 1 + j = (i + j) + 1 by (run_tac om), bitsDown, bitsDown, bits_split n j i, isBit_shift, List.map_append, List.append_assoc]
    congr 1
    split <;> rfl
theorem five : ∀ q : Fin 32, (((bitsDown 5 q.val).map (· + 11)).take 4 = [15, 14, 12, 11] ↔ q.val = 27) := by decide
theorem take_four (L X : List Nat) (hX : ∀ p ∈ X, p < 11) : ((L ++ X).take 4 = [15, 14, 12, 11]) ↔ L.take 4 = [15, 14, 12, 11] := by
  run_tac sqIn
  by_cases h4 : 4 ≤ L.length
  · rw [List.take_append_of_le_length h4]
  · constructor
    · intro h
      exfalso
      have h3 : ((L ++ X).take 4)[3]? = some 11 := by rw [h]; rfl
      rw [List.getElem?_take_of_lt (by (run_tac om)), List.getElem?_append_right (by (run_tac om))] at h3
      have := hX 11 (List.mem_of_getElem? h3)
      (run_tac om)
    · intro h
      have := congrArg List.length h
      simp at this
      (run_tac om)
  run_tac sqOut
/-- what the bits allow is what the number is -/
theorem allowed_scalar (m : Nat) (h : m < 2 ^ 22) : allowedOf (topBits m) = decide (m ≤ 55295 ∨ (57344 ≤ m ∧ m ≤ 1114111)) := by
  run_tac sqIn
  rw [topBits_down 22 m h]
  unfold allowedOf
  by_cases h20 : m < 2 ^ 20
  · rw [show bitsDown 22 m = bitsDown 20 m by
      rw [bitsDown, bitsDown]
      simp [isBit, Nat.div_eq_of_lt h20, Nat.div_eq_of_lt (show m < 2 ^ 21 by (run_tac om))]]
    have hb := bitsDown_lt 20 m
    rw [if_neg]
    · have hall : (bitsDown 20 m).all (fun n => decide (n < 20)) = true := by
        rw [List.all_eq_true]; intro p hp; simpa using hb p hp
      rw [hall, Bool.and_true]
      by_cases h16 : m < 2 ^ 16
      · rw [show bitsDown 20 m = bitsDown (5 + 11) m by
          rw [bitsDown, bitsDown, bitsDown, bitsDown]
          simp [isBit, Nat.div_eq_of_lt h16, Nat.div_eq_of_lt (show m < 2 ^ 17 by (run_tac om)), Nat.div_eq_of_lt (show m < 2 ^ 18 by (run_tac om)), Nat.div_eq_of_lt (show m < 2 ^ 19 by (run_tac om))]]
        rw [bits_split]
        have hq : m / 2 ^ 11 < 32 := by (run_tac om)
        have f := five ⟨m / 2 ^ 11, hq⟩
        have t4 := take_four ((bitsDown 5 (m / 2 ^ 11)).map (· + 11)) (bitsDown 11 m) (bitsDown_lt 11 m)
        rw [decide_eq_decide]
        refine (not_congr (t4.trans f)).trans ?_
        show ¬ m / 2 ^ 11 = 27 ↔ _
        (run_tac om)
      · rw [decide_eq_decide]
        constructor
        · intro _; right; (run_tac om)
        · intro _ he
          have : ∀ p ∈ bitsDown 20 m, p ≤ 15 ∨ True := fun _ _ => .inr trivial
          -- the first bit is above 15
          have hs := bits_split m 16 4
          have hne : bitsDown 4 (m / 2 ^ 16) ≠ [] := by
            intro e
            have := bits_sum 4 (m / 2 ^ 16) (by (run_tac om))
            rw [e] at this
            simp at this
            (run_tac om)
          rw [show (20 : Nat) = 4 + 16 from rfl, hs] at he
          cases q : bitsDown 4 (m / 2 ^ 16) with
          | nil => exact hne q
          | cons a r =>
            rw [q] at he
            simp at he
    · intro he
      cases q : bitsDown 20 m with
      | nil => rw [q] at he; simp at he
      | cons a r =>
        rw [q] at he
        simp at he
        have := hb a (by rw [q]; exact .head _)
        (run_tac om)
  · by_cases h21 : m < 2 ^ 21
    · obtain ⟨r, rfl⟩ : ∃ r, m = 2 ^ 20 + r := ⟨m - 2 ^ 20, by (run_tac om)⟩
      have hr : r < 2 ^ 20 := by (run_tac om)
      have e21 : isBit (2 ^ 20 + r) 21 = false := by simp [isBit, Nat.div_eq_of_lt h21]
      have e20 : isBit (2 ^ 20 + r) 20 = true := by
        have : (2 ^ 20 + r) / 2 ^ 20 = 1 := by (run_tac om)
        simp [isBit, this]
      rw [bitsDown, bitsDown, e21, e20, bitsDown_add r 20 20 (Nat.le_refl _)]
      simp only [Bool.false_eq_true, if_false, if_true, List.nil_append, List.singleton_append, List.take_succ_cons, List.take_zero, List.drop_succ_cons, List.drop_zero]
      have key : (bitsDown 20 r).all (fun n => decide (n < 16)) = decide (r < 2 ^ 16) := by
        rw [Bool.eq_iff_iff, List.all_eq_true, decide_eq_true_eq]
        constructor
        · intro ha
          have hs := bits_split r 16 4
          cases q : bitsDown 4 (r / 2 ^ 16) with
          | nil =>
            have := bits_sum 4 (r / 2 ^ 16) (by (run_tac om))
            rw [q] at this
            simp at this
            (run_tac om)
          | cons a t =>
            rw [q] at hs
            have hm : a + 16 ∈ bitsDown 20 r := by
              rw [show (20 : Nat) = 4 + 16 from rfl, hs]; simp
            have := ha _ hm
            simp at this
            (run_tac om)
        · intro hlt p hp
          have hs := bits_split r 16 4
          have : r / 2 ^ 16 = 0 := Nat.div_eq_of_lt hlt
          rw [this, bitsDown_zero] at hs
          rw [show (20 : Nat) = 4 + 16 from rfl, hs] at hp
          simpa using bitsDown_lt 16 r p (by simpa using hp)
      rw [key, decide_eq_decide]
      (run_tac om)
    · obtain ⟨r, rfl⟩ : ∃ r, m = 2 ^ 21 + r := ⟨m - 2 ^ 21, by (run_tac om)⟩
      have e21 : isBit (2 ^ 21 + r) 21 = true := by
        have : (2 ^ 21 + r) / 2 ^ 21 = 1 := by (run_tac om)
        simp [isBit, this]
      rw [bitsDown, e21]
      simp only [if_true, List.singleton_append, List.take_succ_cons, List.take_zero]
      rw [if_neg (by simp)]
      have : (21 :: bitsDown 21 (2 ^ 21 + r)).all (fun n => decide (n < 20)) = false := by simp
      rw [this, Bool.and_false]
      symm
      rw [decide_eq_false_iff_not]
      (run_tac om)
  run_tac sqOut
end Mine
end
section
open PySem PySem.W PySem.W.X PyProof.Rows
set_option maxRecDepth 100000
set_option maxHeartbeats 40000000
set_option Elab.async false
set_option linter.unusedVariables false
namespace Mine
open Lean Meta Elab Tactic in
/-- a code at which the walk halts, as a constant over the letters in it -/
def keepCode (nm : Name) : TacticM Unit := do
  let g ← getMainGoal
  g.withContext do
    let T ← openRuns (← instantiateMVars (← g.getType))
    let c := T.getAppArgs[3]!
    let c ← foldSem c
    let fs := (collectFVars {} c).fvarIds
    let fs ← fs.filterM fun f => do return !(← isProp (← f.getType))
    let c ← pieces (nm.getString! ++ "_") 0 c
    let v ← mkLambdaFVars (fs.map mkFVar) c
    let ty ← inferType v
    addDecl (.defnDecl { name := nm, levelParams := [], type := ty, value := v, hints := .abbrev, safety := .safe })
    logInfo m!"{nm} : {ty}\n{fs.map mkFVar}"
section
variable {w : World} {h h₀ : Heap} {vs : Array Value} {g : Array GenState} {d : Drawn} {t : Nat} {os : OsState} {dp un : Nat} {fr : List Env} {gd : List Code} {R : Result → Shared → Prop} {A : Around} {news : List (Addr × Obj)}
theorem comp_startR {elt tg it : Expr} {ifs : List Expr} {sc : Scope} {pos : Pos} {acc : Value} {env : Env} {i : Addr} {x n s : Int} (X : (K w.params).In h₀) (D : Hp h₀ h vs news) (hdp : dp ≤ 800) (hun : un ≤ 8000) (hi : h.get? i = some (rangeIt x n s))
    (hR : ∀ h' t', Hp h₀ h' vs news → wpOwn (model P w) (At dp un fr gd) (.compLoop (.ListComp elt [⟨tg, it, ifs, 0⟩] sc pos) 0 (.ref i) acc env) (denote table (.compLoop (.ListComp elt [⟨tg, it, ifs, 0⟩] sc pos) 0 (.ref i) acc env)) (postC P w (At dp un fr gd) R) (postE R) ⟨h', g, d, t', os⟩) :
    wpOwn (model P w) (At dp un fr gd) (.compStart (.ListComp elt [⟨tg, it, ifs, 0⟩] sc pos) 0 (.ref i) acc env) (denote table (.compStart (.ListComp elt [⟨tg, it, ifs, 0⟩] sc pos) 0 (.ref i) acc env)) (postC P w (At dp un fr gd) R) (postE R) ⟨h, g, d, t, os⟩ := by
  run_tac sqIn
  have X' := D.inFrag X K40
  have D' := D.here
  have hR' := fun h' t' (DD : Hp h h' vs []) => hR h' t' (D.trans DD)
  run_tac drive {}
  · run_tac use `hR'
  · run_tac use `hR'
  run_tac sqOut
theorem comp_startL {elt tg it : Expr} {ifs : List Expr} {sc : Scope} {pos : Pos} {acc : Value} {env : Env} {i l : Addr} {x : Int} (X : (K w.params).In h₀) (D : Hp h₀ h vs news) (hdp : dp ≤ 800) (hun : un ≤ 8000) (hi : h.get? i = some (iterL l x))
    (hR : ∀ h' t', Hp h₀ h' vs news → wpOwn (model P w) (At dp un fr gd) (.compLoop (.ListComp elt [⟨tg, it, ifs, 0⟩] sc pos) 0 (.ref i) acc env) (denote table (.compLoop (.ListComp elt [⟨tg, it, ifs, 0⟩] sc pos) 0 (.ref i) acc env)) (postC P w (At dp un fr gd) R) (postE R) ⟨h', g, d, t', os⟩) :
    wpOwn (model P w) (At dp un fr gd) (.compStart (.ListComp elt [⟨tg, it, ifs, 0⟩] sc pos) 0 (.ref i) acc env) (denote table (.compStart (.ListComp elt [⟨tg, it, ifs, 0⟩] sc pos) 0 (.ref i) acc env)) (postC P w (At dp un fr gd) R) (postE R) ⟨h, g, d, t, os⟩ := by
  run_tac sqIn
  have X' := D.inFrag X K40
  have D' := D.here
  have hR' := fun h' t' (DD : Hp h h' vs []) => hR h' t' (D.trans DD)
  run_tac drive {}
  · run_tac use `hR'
  · run_tac use `hR'
  run_tac sqOut
end
noncomputable abbrev RightGoal : Prop := ∀ (w : World) (h h₀ : Heap) (vs : Array Value) (g : Array GenState) (d : Drawn) (t : Nat) (os : OsState) (dp un : Nat) (gd : List Code) (R : Result → Shared → Prop)
  (X : (K w.params).In h₀) (HS : HexAt w h₀) (f2 : Addr) (d2 : Array DictEntry) (n2 : Nat) (s2 : Array (Option Value)) (eL : Env) (F2 : FEnv eL f2)
  (D : Hp h₀ h vs [(f2, frameX d2 n2 s2)]) (hdp : dp ≤ 350) (hun : un ≤ 2500) (n : Nat) (y : Int) (tn ty : Tok) (hn : n < 4194304) (hy : 0 ≤ y),
  Runs w dp un [eL] gd 109 [.int (n : Int) tn, .int y ty] R ⟨h, g, d, t, os⟩
open Lean Meta Elab Tactic in
theorem grabBits : True := by
  run_tac (do
    let main ← getMainGoal
    let goal := (← getConstInfo ``RightGoal).value!
    let m ← mkFreshExprSyntheticOpaqueMVar goal
    let (_, g) ← m.mvarId!.intros
    setGoals [g]
    drive { auto := [("80", `Mine.taken'), ("range.__iter__", `Mine.range_down), ("compStart", `Mine.comp_startR)] }
    keepCode `Mine.bitsC
    setGoals [main])
  trivial
end Mine
end
section
open PySem PySem.W PySem.W.X PyProof.Rows
set_option maxRecDepth 100000
set_option maxHeartbeats 40000000
set_option Elab.async false
set_option linter.unusedVariables false
namespace Mine
noncomputable abbrev dictO (ev : List DictEntry) (n : Nat) : Obj := ⟨.type "dict", none, .dict ⟨ev⟩ n, ⟨[]⟩⟩
section
variable {w : World} {h h₀ : Heap} {vs : Array Value} {g : Array GenState} {d : Drawn} {t : Nat} {os : OsState} {dp un : Nat} {fr : List Env} {gd : List Code} {R : Result → Shared → Prop} {A : Around} {news rest : List (Addr × Obj)}
theorem pow2m (X : (K w.params).In h₀) (D : Hp h₀ h vs news) (hdp : dp ≤ 700) (hun : un ≤ 7000) {t1 t2 : Tok} {x : Int} {m : Nat} (hx : x = ((m : Nat) : Int)) (hm : m < 32)
    (hR : ∀ k tk h' t', k = ((2 ^ m : Nat) : Int) → 0 < k → k ≤ 4294967296 → Hp h₀ h' vs news → R (.ok (.ret (.int k tk))) ⟨h', g, d, t', os⟩) : RunsB w (At dp un fr gd) "int.__pow__" [.int 2 t1, .int x t2] R ⟨h, g, d, t, os⟩ := by
  run_tac sqIn
  refine pow2 X D hdp hun (by (run_tac om)) (by (run_tac om)) fun k tk h' t' e D' => ?_
  have e2 : k = ((2 ^ m : Nat) : Int) := by rw [e, hx, Int.toNat_natCast]; simp
  have h1 : 0 < 2 ^ m := Nat.two_pow_pos m
  have h2 : 2 ^ m ≤ 2 ^ 31 := Nat.pow_le_pow_right (by decide) (by (run_tac om))
  exact hR k tk h' t' e2 (by (run_tac om)) (by (run_tac om)) D'
  run_tac sqOut
theorem bit_iff (n m : Nat) : ((n : Int).fdiv ((2 ^ m : Nat) : Int)).fmod 2 = 1 ↔ isBit n m = true := by
  run_tac sqIn
  unfold isBit
  generalize 2 ^ m = p
  rw [Int.fdiv_eq_ediv_of_nonneg _ (by (run_tac om)), Int.fmod_eq_emod_of_nonneg _ (by decide), beq_iff_eq, ← Int.natCast_ediv]
  (run_tac om)
  run_tac sqOut
theorem bits_loop (X : (K w.params).In h₀) (hdp : dp ≤ 450) (hun : un ≤ 3500) {n : Nat} (hn : n < 4194304) {it ac f c3 c2 ds : Addr} {tn : Tok} {e1 e2 : Nat} (hc : h₀.get? c2 = some (cellO (.int (n : Int) tn)))
    (D : Hp h₀ h vs [(ds, dictO [] e2), (ac, listO [] e1), (it, rangeIt 31 32 (-1))])
    (hR : ∀ out hs tk v e1 e2 h' t', Nums out (bitsDown 32 n) → Hp h₀ h' vs [(ds, dictO [ent hs [112, 108, 97, 99, 101] tk v] e2), (ac, listO out e1)] → R (.ok .next) ⟨h', g, d, t', os⟩) :
    wpOwn (model P w) (At dp un fr gd) (bitsC it ac f c3 c2 ds) (denote table (bitsC it ac f c3 c2 ds)) (postC P w (At dp un fr gd) R) (postE R) ⟨h, g, d, t, os⟩ := by
  run_tac sqIn
  refine loop_ind (fun m h' t' => ∃ (x lf : Int) (out : List Value) (ns : List Nat) (ev : List DictEntry) (e1 e2 : Nat), x = (m : Int) - 1 ∧ lf = (m : Int) ∧ Nums out ns ∧ ns ++ bitsDown m n = bitsDown 32 n ∧ m ≤ 32 ∧
    Hp h₀ h' vs [(ds, dictO ev e2), (ac, listO out e1), (it, rangeIt x lf (-1))] ∧ ((m = 32 ∧ ev = []) ∨ ∃ hs tk v, ev = [ent hs [112, 108, 97, 99, 101] tk v])) ?_ 32 ⟨31, 32, [], [], [], _, _, rfl, rfl, .nil, rfl, Nat.le_refl _, D, .inl ⟨rfl, rfl⟩⟩
  rintro m h2 t2 ih ⟨x, lf, out, ns, ev, e1, e2, hx, hlf, ho, hns, h32, D2, hev⟩
  cases m with
  | zero =>
    have hlf0 : lf = ((0 : Nat) : Int) := hlf
    rw [show bitsDown 0 n = [] from rfl, List.append_nil] at hns
    subst hns
    rcases hev with ⟨q, _⟩ | ⟨hs, tk, v, rfl⟩
    · (run_tac om)
    · run_tac drive { doubt := true }
      exact hR _ _ _ _ _ _ _ _ ho (Hp.less DD (.cons _ (.cons _ (.cons_cons _ (.cons_cons _ (List.nil_sublist _))))))
  | succ m =>
    have hxm : x = ((m : Nat) : Int) := by (run_tac om)
    have hm32 : m < 32 := by (run_tac om)
    have hol : out.length = ns.length := ho.length
    have hnl : ns.length ≤ 32 := by
      have q : ∀ k, (bitsDown k n).length ≤ k := by
        intro k
        induction k with
        | zero => exact Nat.le_refl _
        | succ k ihk =>
          rw [bitsDown, List.length_append]
          split <;> simp <;> (run_tac om)
      have := congrArg List.length hns
      rw [List.length_append] at this
      have := q 32
      (run_tac om)
    rcases hev with ⟨_, rfl⟩ | ⟨hs, tk, v, rfl⟩
    all_goals
      run_tac drive { doubt := true, ids := ["int.__pow__"] }
    run_tac joinQ
    run_tac use `Mine.pow2m
    run_tac drive { doubt := true, split := true }
    iterate 1
      all_goals
        rename k = _ => hk
        subst hxm
        rw [hk] at *
      · have hb : isBit n m = true := (bit_iff n m).mp (by assumption)
        rw [bitsDown, hb, ← List.append_assoc] at hns
        exact ih m _ _ (Nat.lt_succ_self m) ⟨_, _, _, _, _, _, _, by (run_tac om), by (run_tac om), ho.append (.one m _), hns, by (run_tac om), DD, .inr ⟨_, _, _, rfl⟩⟩
      · have hb : isBit n m = false := by
          cases q : isBit n m with
          | false => rfl
          | true => exact absurd ((bit_iff n m).mpr q) (by assumption)
        rw [bitsDown, hb] at hns
        exact ih m _ _ (Nat.lt_succ_self m) ⟨_, _, _, _, _, _, _, by (run_tac om), by (run_tac om), ho, hns, by (run_tac om), DD, .inr ⟨_, _, _, rfl⟩⟩
  run_tac sqOut
end
end Mine
end
section
open PySem PySem.W PySem.W.X PyProof.Rows
set_option maxRecDepth 100000
set_option maxHeartbeats 40000000
set_option Elab.async false
set_option linter.unusedVariables false
namespace Mine
section
variable {w : World} {h h₀ : Heap} {vs : Array Value} {g : Array GenState} {d : Drawn} {t : Nat} {os : OsState} {dp un : Nat} {fr : List Env} {gd : List Code} {R : Result → Shared → Prop} {A : Around} {news rest : List (Addr × Obj)}
theorem diff_cls {h : Heap} {a : Addr} {x y : String} {p q s : _} {p' q' s' : _} (e : h.get? a = some ⟨.type x, p, q, s⟩) (e' : h.get? a = some ⟨.type y, p', q', s'⟩) (n : x ≠ y) : False := by
  run_tac sqIn
  have := Option.some.inj (e.symm.trans e')
  injection this with this
  injection this with this
  exact n this
  run_tac sqOut
theorem bits_comp {n : Nat} {it ac f c3 c2 ds : Addr} {tn : Tok} {e1 e2 : Nat} (X : (K w.params).In h₀) (hdp : dp ≤ 450) (hun : un ≤ 3500) (hn : n < 4194304)
    (D : Hp h₀ h vs ((ds, dictO [] e2) :: (ac, listO [] e1) :: (it, rangeIt 31 32 (-1)) :: rest)) (hc : h.get? c2 = some (cellO (.int (n : Int) tn)))
    (hR : ∀ out hs tk v e1 e2 h' t', Nums out (topBits n) → Hp h₀ h' vs ((ds, dictO [ent hs [112, 108, 97, 99, 101] tk v] e2) :: (ac, listO out e1) :: rest) → R (.ok .next) ⟨h', g, d, t', os⟩) :
    wpOwn (model P w) (At dp un fr gd) (bitsC it ac f c3 c2 ds) (denote table (bitsC it ac f c3 c2 ds)) (postC P w (At dp un fr gd) R) (postE R) ⟨h, g, d, t, os⟩ := by
  run_tac sqIn
  have D1 : Hp h₀ h vs ([(ds, dictO [] e2), (ac, listO [] e1), (it, rangeIt 31 32 (-1))] ++ rest) := D
  have e : bitsDown 32 n = topBits n := (topBits_down 32 n (by (run_tac om))).symm
  have hc' : (gones h ([(ds, dictO [] e2), (ac, listO [] e1), (it, rangeIt 31 32 (-1))].map (·.1))).get? c2 = some (cellO (.int (n : Int) tn)) := by
    refine (gones_ne fun m => ?_).trans hc
    simp only [List.map_cons, List.map_nil, List.mem_cons, List.not_mem_nil, or_false] at m
    rcases m with rfl | rfl | rfl
    · exact diff_cls (D.at 0 c2 _ rfl) hc (by decide)
    · exact diff_cls (D.at 1 c2 _ rfl) hc (by decide)
    · exact diff_cls (D.at 2 c2 _ rfl) hc (by decide)
  exact bits_loop (D1.frontFrag X K40) hdp hun hn hc' D1.front fun out hs tk v e1 e2 h' t' ho D' => hR out hs tk v e1 e2 h' t' (e ▸ ho) (D1.framed D')
  run_tac sqOut
end
end Mine
end
section
open PySem PySem.W PySem.W.X PyProof.Rows
set_option maxRecDepth 100000
set_option maxHeartbeats 40000000
set_option Elab.async false
set_option linter.unusedVariables false
namespace Mine
section
variable {w : World} {h h₀ : Heap} {vs : Array Value} {g : Array GenState} {d : Drawn} {t : Nat} {os : OsState} {dp un : Nat} {fr : List Env} {gd : List Code} {R : Result → Shared → Prop} {A : Around} {news rest : List (Addr × Obj)}
theorem figures_x (X : (K w.params).In h₀) (D : Hp h₀ h vs news) (hdp : dp ≤ 500) (hun : un ≤ 4000)
    (l : Addr) (items : List Value) (e : Nat) (x : Int) (y : Int) (tw ty : Tok) (hl : h.get? l = some (listO items e)) (h1 : 1 ≤ x) (hw : x ≤ 8) (hy : 0 ≤ y)
    (bs : List Nat) (hN : Nums items bs) (hb : bs.all (fun p => decide (p < 4 * x.toNat)) = true) (h16 : (worthOf x.toNat bs).all (fun n => decide (n < 16)) = true) (F : List Nat) (hF : figsFrom y 0 (worthOf x.toNat bs) = F) (hR : ∀ tf h' t', Hp h₀ h' vs news → R (.ok (.ret (.str ⟨⟨F⟩⟩ tf))) ⟨h', g, d, t', os⟩) :
    Runs w dp un fr gd 90 [.ref l, .int x tw, .int y ty] R ⟨h, g, d, t, os⟩ := by
  run_tac sqIn
  obtain ⟨wd, rfl⟩ := Int.eq_ofNat_of_zero_le (by (run_tac om) : 0 ≤ x)
  subst hF
  exact figures' X D hdp hun l items e wd y tw ty hl (by (run_tac om)) (by (run_tac om)) hy bs hN (fun p hp => by simpa using List.all_eq_true.mp hb p hp) (fun p hp => by simpa using List.all_eq_true.mp h16 p hp) hR
  run_tac sqOut
noncomputable def aheadTab : List (List Nat) := [[], [92, 85], [120, 10, 92, 117]]
noncomputable def tailTab : List (List Nat) := [[], [103, 48], [1633, 48], [95, 48], [32, 48]]
end
noncomputable abbrev LoopGoal : Prop := ∀ (w : World) (h h₀ : Heap) (vs : Array Value) (g : Array GenState) (d : Drawn) (t : Nat) (os : OsState) (dp un : Nat) (gd : List Code) (R : Result → Shared → Prop)
  (X : (K w.params).In h₀) (HS : HexAt w h₀) (f2 : Addr) (d2 : Array DictEntry) (n2 : Nat) (s2 : Array (Option Value)) (eL : Env) (F2 : FEnv eL f2)
  (D : Hp h₀ h vs [(f2, frameX d2 n2 s2)]) (hdp : dp ≤ 350) (hun : un ≤ 2500) (n : Nat) (y : Int) (tn ty : Tok) (hn : n < 4194304) (hy : 0 ≤ y) (hz : topBits n = []) (Ah Ta : List Nat)
  (y3 : 0 ≤ y.fmod 3) (y3' : y.fmod 3 ≤ 2)
  (hA : ([[], [92, 85], [120, 10, 92, 117]] : List (List Nat))[((y.fmod 7).fmod 3).toNat]? = some Ah) (hT : ([[], [103, 48], [1633, 48], [95, 48], [32, 48]] : List (List Nat))[((y.fmod 11).fmod 5).toNat]? = some Ta)
  (hAl : Ah.length ≤ 4) (hTl : Ta.length ≤ 2),
  Runs w dp un [eL] gd 109 [.int (n : Int) tn, .int y ty] R ⟨h, g, d, t, os⟩
open Lean Meta Elab Tactic in
theorem grabLoop : True := by
  run_tac (do
    let main ← getMainGoal
    let goal := (← getConstInfo ``LoopGoal).value!
    let m ← mkFreshExprSyntheticOpaqueMVar goal
    let (_, g) ← m.mvarId!.intros
    setGoals [g]
    drive { auto := [("80", `Mine.taken'), ("range.__iter__", `Mine.range_down), ("compStart", `Mine.comp_startR)] }
    use `Mine.bits_comp
    evalTactic (← `(tactic| (rename Nums _ (topBits _) => hO; rename topBits _ = [] => hz; rw [hz] at hO; cases hO)))
    drive { auto := [("list.__ne__", `Mine.list_ne_same), ("tuple.__getitem__", `Mine.tup_text), ("90", `Mine.figures_x), ("str.__add__", `Mine.str_cat), ("range.__iter__", `Mine.range_up)] }
    let gs ← getGoals
    let mut found := false
    for g in gs do
      let T := (← instantiateMVars (← g.getType)).consumeMData
      if T.isAppOfArity ``PySem.wpOwn 8 && T.getAppArgs[3]!.isAppOf ``Code.forLoop && !found then
        setGoals [g]
        keepCode `Mine.loopC
        found := true
    unless found do throwError "no loop"
    setGoals [main])
  trivial
end Mine
end
section
open PySem PySem.W PySem.W.X PyProof.Rows
set_option maxRecDepth 100000
set_option maxHeartbeats 40000000
set_option Elab.async false
set_option linter.unusedVariables false
namespace Mine
noncomputable abbrev LoopGoal2 : Prop := ∀ (w : World) (h h₀ : Heap) (vs : Array Value) (g : Array GenState) (d : Drawn) (t : Nat) (os : OsState) (dp un : Nat) (gd : List Code) (R : Result → Shared → Prop)
  (X : (K w.params).In h₀) (HS : HexAt w h₀) (f2 : Addr) (d2 : Array DictEntry) (n2 : Nat) (s1 s2 : Array (Option Value)) (eL : Env) (F2 : FEnv eL f2) (it l bl a1 a2 a3 : Addr) (out : List Value) (e1 e7 : Nat) (cv : Option Value)
  (y W pl : Int) (Ah T : List Nat) (hy ht hb hw ha hx hp : Int) (ky kt kb kw ka kx kp ty tw tA tT tp : Nat) (lf : Int) (hlf : lf = ((5 : Nat) : Int)) (x : Int) (hx1 : x = ((3 : Nat) : Int))
  (D : Hp h₀ h vs [(it, rangeIt x lf 1), (bl, listO out e1), (a3, ⟨.type "cell", none, .cell cv, ⟨[]⟩⟩), (a1, frameX ⟨[ent hy [121] ky (.int y ty), ent ht [116, 97, 107, 101, 110] kt (.ref l), ent hb [98, 105, 116, 115] kb (.ref bl), ent hw [119, 105, 100, 116, 104] kw (.int W tw), ent ha [97, 104, 101, 97, 100] ka (.str ⟨⟨Ah⟩⟩ tA), ent hx [116, 101, 120, 116] kx (.str ⟨⟨T⟩⟩ tT), ent hp [112, 108, 97, 99, 101] kp (.int pl tp)]⟩ e7 s1), (f2, frameX d2 n2 s2)]) (hdp : dp ≤ 350) (hun : un ≤ 2500),
  wpOwn (model P w) (At dp un [eL] gd) (loopC it a1 a3 a2) (denote table (loopC it a1 a3 a2)) (postC P w (At dp un [eL] gd) R) (postE R) ⟨h, g, d, t, os⟩
open Lean Meta Elab Tactic in
theorem grabLeft : True := by
  run_tac (do
    let main ← getMainGoal
    let goal := (← getConstInfo ``LoopGoal2).value!
    let m ← mkFreshExprSyntheticOpaqueMVar goal
    let (_, g) ← m.mvarId!.intros
    setGoals [g]
    drive { auto := [("compStart", `Mine.comp_startL)] }
    keepCode `Mine.leftC
    setGoals [main])
  trivial
end Mine
end
section
open PySem PySem.W PySem.W.X PyProof.Rows
set_option maxRecDepth 100000
set_option maxHeartbeats 40000000
set_option Elab.async false
set_option linter.unusedVariables false
namespace Mine
section
variable {w : World} {h h₀ : Heap} {vs : Array Value} {g : Array GenState} {d : Drawn} {t : Nat} {os : OsState} {dp un : Nat} {fr : List Env} {gd : List Code} {R : Result → Shared → Prop} {A : Around} {news rest : List (Addr × Obj)}
noncomputable def leftOf (dn : Nat) (bs : List Nat) : List Nat := (bs.filter (fun p => decide (dn ≤ p))).map (· - dn)
theorem leftOf_snoc (dn : Nat) (bs : List Nat) (p : Nat) : leftOf dn (bs ++ [p]) = leftOf dn bs ++ (if dn ≤ p then [p - dn] else []) := by
  run_tac sqIn
  unfold leftOf
  rw [List.filter_append, List.map_append]
  congr 1
  split <;> rename_i q <;> simp [q]
  run_tac sqOut
theorem leftOf_length (dn : Nat) (bs : List Nat) : (leftOf dn bs).length ≤ bs.length := by
  unfold leftOf; rw [List.length_map]; exact List.length_filter_le ..
theorem left_loop (X : (K w.params).In h₀) (hdp : dp ≤ 450) (hun : un ≤ 3500) {dn : Nat} {dv : Int} (hdv : dv = ((dn : Nat) : Int)) {a1 a2 ds ac li bl c3 : Addr} {td : Tok} {eb : Nat} {items : List Value} {bs : List Nat} (hb : h₀.get? bl = some (listO items eb)) (hN : Nums items bs) (h32 : bs.length ≤ 32)
    (hc : h₀.get? c3 = some (cellO (.int dv td))) {e1 e2 : Nat}
    (D : Hp h₀ h vs [(ds, dictO [] e2), (ac, listO [] e1), (li, iterL bl 0)])
    (hR : ∀ out ev e1 e2 h' t', Nums out (leftOf dn bs) → ((bs = [] ∧ ev = []) ∨ (bs ≠ [] ∧ ∃ hs tk v, ev = [ent hs [111, 110, 101] tk v])) → Hp h₀ h' vs [(ds, dictO ev e2), (ac, listO out e1)] → R (.ok .next) ⟨h', g, d, t', os⟩) :
    wpOwn (model P w) (At dp un fr gd) (leftC li ac a1 c3 a2 ds) (denote table (leftC li ac a1 c3 a2 ds)) (postC P w (At dp un fr gd) R) (postE R) ⟨h, g, d, t, os⟩ := by
  run_tac sqIn
  refine loop_ind (fun m h' t' => ∃ (pre post out : List Value) (np nr : List Nat) (ev : List DictEntry) (e1 e2 : Nat), items = pre ++ post ∧ bs = np ++ nr ∧ Nums pre np ∧ Nums post nr ∧ Nums out (leftOf dn np) ∧ m = post.length ∧
    Hp h₀ h' vs [(ds, dictO ev e2), (ac, listO out e1), (li, iterL bl pre.length)] ∧ ((np = [] ∧ ev = []) ∨ (np ≠ [] ∧ ∃ hs tk v, ev = [ent hs [111, 110, 101] tk v]))) ?_ items.length ⟨[], items, [], [], bs, [], _, _, rfl, rfl, .nil, hN, .nil, rfl, D, .inl ⟨rfl, rfl⟩⟩
  rintro m h2 t2 ih ⟨pre, post, out, np, nr, ev, e1, e2, hd, hdb, hp, hr, ho, rfl, D2, hev⟩
  have hlp := hp.length
  have hl2 := hd ▸ hb
  clear hb
  cases hr with
  | nil =>
    rw [List.append_nil] at hd hdb hl2
    rcases hev with ⟨rfl, rfl⟩ | ⟨hne, hs, tk, v, rfl⟩
    · run_tac drive { lems := [`Mine.pylong, `Mine.get_mid, `Mine.get_end] }
      exact hR _ _ _ _ _ _ (hdb ▸ ho) (.inl ⟨hdb, rfl⟩) (Hp.less DD (.cons _ (.cons _ (.cons_cons _ (.cons_cons _ (List.nil_sublist _))))))
    · run_tac drive { lems := [`Mine.pylong, `Mine.get_mid, `Mine.get_end] }
      exact hR _ _ _ _ _ _ (hdb ▸ ho) (.inr ⟨hdb ▸ hne, _, _, _, rfl⟩) (Hp.less DD (.cons _ (.cons _ (.cons_cons _ (.cons_cons _ (List.nil_sublist _))))))
  | cons p tp hr =>
    rename_i post nr
    have hol : out.length ≤ 32 := by
      have q := ho.length
      have q2 := leftOf_length dn np
      rw [hdb, List.length_append] at h32
      (run_tac om)
    have hz : np.length < 32 := by
      rw [hdb, List.length_append, List.length_cons] at h32
      (run_tac om)
    have hd' : items = (pre ++ [Value.int (↑p) tp]) ++ post := by rw [hd]; simp
    have hdb' : bs = (np ++ [p]) ++ nr := by rw [hdb]; simp
    have hpl : (pre.length : Int) + 1 = ((pre ++ [Value.int (↑p) tp]).length : Nat) := by simp
    rcases hev with ⟨_, rfl⟩ | ⟨_, hs, tk, v, rfl⟩
    all_goals
      run_tac drive { ids := ["int.__ge__"], lems := [`Mine.pylong, `Mine.get_mid, `Mine.get_end] }
    run_tac joinQ
    run_tac drive { split := true, lems := [`Mine.pylong, `Mine.get_mid, `Mine.get_end] }
    iterate 1
      · have e : (p : Int) - dv = ((p - dn : Nat) : Int) := by (run_tac om)
        rw [e, hpl] at DD
        exact ih _ _ _ (by simp) ⟨_, _, _, _, _, _, _, _, hd', hdb', hp.append (.one p tp), hr, (by rw [leftOf_snoc, if_pos (by (run_tac om))]; exact ho.append (.one _ _)), rfl, DD, .inr ⟨by simp, _, _, _, rfl⟩⟩
      · rw [hpl] at DD
        exact ih _ _ _ (by simp) ⟨_, _, _, _, _, _, _, _, hd', hdb', hp.append (.one p tp), hr, (by rw [leftOf_snoc, if_neg (by (run_tac om)), List.append_nil]; exact ho), rfl, DD, .inr ⟨by simp, _, _, _, rfl⟩⟩
  run_tac sqOut
theorem diff_data {h : Heap} {a : Addr} {o o' : Obj} (e : h.get? a = some o) (e' : h.get? a = some o') (n : o.cls ≠ o'.cls) : False := n (congrArg Obj.cls (Option.some.inj (e.symm.trans e')))
theorem ty_ne {x y : String} (n : x ≠ y) : Value.type x ≠ Value.type y := fun e => by injection e with e; exact n e
theorem left_comp {dn : Nat} {dv : Int} {a1 a2 ds ac li bl c3 : Addr} {td : Tok} {eb : Nat} {items : List Value} {bs : List Nat} {e1 e2 : Nat} (X : (K w.params).In h₀) (hdp : dp ≤ 450) (hun : un ≤ 3500)
    (D : Hp h₀ h vs ((ds, dictO [] e2) :: (ac, listO [] e1) :: (li, iterL bl 0) :: rest)) {i : Nat} (hbi : ((ds, dictO [] e2) :: (ac, listO [] e1) :: (li, iterL bl 0) :: rest)[i]? = some (bl, listO items eb)) (hi : 2 < i) (hc : h.get? c3 = some (cellO (.int dv td))) (hdv : dv = ((dn : Nat) : Int)) (hN : Nums items bs) (h32 : bs.length ≤ 32)
    (hR : ∀ out ev e1 e2 h' t', Nums out (leftOf dn bs) → ((bs = [] ∧ ev = []) ∨ (bs ≠ [] ∧ ∃ hs tk v, ev = [ent hs [111, 110, 101] tk v])) → Hp h₀ h' vs ((ds, dictO ev e2) :: (ac, listO out e1) :: rest) → R (.ok .next) ⟨h', g, d, t', os⟩) :
    wpOwn (model P w) (At dp un fr gd) (leftC li ac a1 c3 a2 ds) (denote table (leftC li ac a1 c3 a2 ds)) (postC P w (At dp un fr gd) R) (postE R) ⟨h, g, d, t, os⟩ := by
  run_tac sqIn
  have D1 : Hp h₀ h vs ([(ds, dictO [] e2), (ac, listO [] e1), (li, iterL bl 0)] ++ rest) := D
  have hb := D.at i bl _ hbi
  have hac : ac ≠ bl := D.ne 1 i ac bl _ _ rfl hbi (Nat.ble_eq_true_of_le (by (run_tac om)))
  have hc' : (gones h ([(ds, dictO [] e2), (ac, listO [] e1), (li, iterL bl 0)].map (·.1))).get? c3 = some (cellO (.int dv td)) := by
    refine (gones_ne fun m => ?_).trans hc
    simp only [List.map_cons, List.map_nil, List.mem_cons, List.not_mem_nil, or_false] at m
    rcases m with rfl | rfl | rfl
    · exact diff_data (D.at 0 c3 _ rfl) hc (ty_ne (by decide))
    · exact diff_data (D.at 1 c3 _ rfl) hc (ty_ne (by decide))
    · exact diff_data (D.at 2 c3 _ rfl) hc (ty_ne (by decide))
  have hb' : (gones h ([(ds, dictO [] e2), (ac, listO [] e1), (li, iterL bl 0)].map (·.1))).get? bl = some (listO items eb) := by
    refine (gones_ne fun m => ?_).trans hb
    simp only [List.map_cons, List.map_nil, List.mem_cons, List.not_mem_nil, or_false] at m
    rcases m with rfl | rfl | rfl
    · exact diff_data (D.at 0 bl _ rfl) hb (ty_ne (by decide))
    · exact hac rfl
    · exact diff_data (D.at 2 bl _ rfl) hb (ty_ne (by decide))
  exact left_loop (D1.frontFrag X K40) hdp hun hdv hb' hN h32 hc' D1.front fun out ev e1 e2 h' t' ho hv D' => hR out ev e1 e2 h' t' ho hv (D1.framed D')
  run_tac sqOut
end
end Mine
end
section
open PySem PySem.W PySem.W.X PyProof.Rows
set_option maxRecDepth 100000
set_option maxHeartbeats 40000000
set_option Elab.async false
set_option linter.unusedVariables false
namespace Mine
noncomputable abbrev LoopGoal3 : Prop := ∀ (w : World) (h h₀ : Heap) (vs : Array Value) (g : Array GenState) (d : Drawn) (t : Nat) (os : OsState) (dp un : Nat) (gd : List Code) (R : Result → Shared → Prop)
  (X : (K w.params).In h₀) (HS : HexAt w h₀) (f2 : Addr) (d2 : Array DictEntry) (n2 : Nat) (s1 s2 : Array (Option Value)) (eL : Env) (F2 : FEnv eL f2) (it l bl a1 a2 a3 : Addr) (out : List Value) (e1 e7 : Nat) (cv : Option Value)
  (y W pl : Int) (Ah T : List Nat) (hy ht hb hw ha hx hp : Int) (ky kt kb kw ka kx kp ty tw tA tT tp : Nat) (lf : Int) (hlf : lf = ((5 : Nat) : Int)) (x : Int) (hx1 : x = ((3 : Nat) : Int)) (bs : List Nat) (hN : Nums out bs) (h32 : bs.length ≤ 32) (dn : Nat) (hdn : 4 * (W - x) = ((dn : Nat) : Int))
  (D : Hp h₀ h vs [(it, rangeIt x lf 1), (bl, listO out e1), (a3, ⟨.type "cell", none, .cell cv, ⟨[]⟩⟩), (a1, frameX ⟨[ent hy [121] ky (.int y ty), ent ht [116, 97, 107, 101, 110] kt (.ref l), ent hb [98, 105, 116, 115] kb (.ref bl), ent hw [119, 105, 100, 116, 104] kw (.int W tw), ent ha [97, 104, 101, 97, 100] ka (.str ⟨⟨Ah⟩⟩ tA), ent hx [116, 101, 120, 116] kx (.str ⟨⟨T⟩⟩ tT), ent hp [112, 108, 97, 99, 101] kp (.int pl tp)]⟩ e7 s1), (f2, frameX d2 n2 s2)]) (hdp : dp ≤ 350) (hun : un ≤ 2500),
  wpOwn (model P w) (At dp un [eL] gd) (loopC it a1 a3 a2) (denote table (loopC it a1 a3 a2)) (postC P w (At dp un [eL] gd) R) (postE R) ⟨h, g, d, t, os⟩
open Lean Meta Elab Tactic in
theorem grabPow : True := by
  run_tac (do
    let main ← getMainGoal
    let goal := (← getConstInfo ``LoopGoal3).value!
    let m ← mkFreshExprSyntheticOpaqueMVar goal
    let (_, g) ← m.mvarId!.intros
    setGoals [g]
    drive { auto := [("compStart", `Mine.comp_startL)] }
    use `Mine.left_comp
    let gs ← getGoals
    logInfo m!"{gs.length}"
    evalTactic (← `(tactic| (rename _ ∨ _ => hv; obtain ⟨_, he⟩ | ⟨_, _, _, _, he⟩ := hv <;> subst he)))
    for g in ← getGoals do logInfo m!"{(toString (← g.withContext (ppExpr (← g.getType)))).take 100}"
    drive { auto := [("compStart", `Mine.comp_startL)] }
    keepCode `Mine.powC
    setGoals [main])
  trivial
end Mine
end
section
open PySem PySem.W PySem.W.X PyProof.Rows
set_option maxRecDepth 100000
set_option maxHeartbeats 40000000
set_option Elab.async false
set_option linter.unusedVariables false
namespace Mine
section
variable {w : World} {h h₀ : Heap} {vs : Array Value} {g : Array GenState} {d : Drawn} {t : Nat} {os : OsState} {dp un : Nat} {fr : List Env} {gd : List Code} {R : Result → Shared → Prop} {A : Around} {news rest : List (Addr × Obj)}
theorem pow_loop (X : (K w.params).In h₀) (hdp : dp ≤ 450) (hun : un ≤ 3500) {a1 a2 ds ac li bl c3 : Addr} {eb : Nat} {items : List Value} {bs : List Nat} (hb : h₀.get? bl = some (listO items eb)) (hN : Nums items bs) (h32 : bs.length ≤ 32)
    (hlt : ∀ p ∈ bs, p < 32) {e1 e2 : Nat}
    (D : Hp h₀ h vs [(ds, dictO [] e2), (ac, listO [] e1), (li, iterL bl 0)])
    (hR : ∀ out ev e1 e2 h' t', Nums out (bs.map (2 ^ ·)) → ((bs = [] ∧ ev = []) ∨ (bs ≠ [] ∧ ∃ hs tk v, ev = [ent hs [111, 110, 101] tk v])) → Hp h₀ h' vs [(ds, dictO ev e2), (ac, listO out e1)] → R (.ok .next) ⟨h', g, d, t', os⟩) :
    wpOwn (model P w) (At dp un fr gd) (powC li ac a1 c3 a2 ds) (denote table (powC li ac a1 c3 a2 ds)) (postC P w (At dp un fr gd) R) (postE R) ⟨h, g, d, t, os⟩ := by
  run_tac sqIn
  refine loop_ind (fun m h' t' => ∃ (pre post out : List Value) (np nr : List Nat) (ev : List DictEntry) (e1 e2 : Nat), items = pre ++ post ∧ bs = np ++ nr ∧ Nums pre np ∧ Nums post nr ∧ Nums out (np.map (2 ^ ·)) ∧ m = post.length ∧
    Hp h₀ h' vs [(ds, dictO ev e2), (ac, listO out e1), (li, iterL bl pre.length)] ∧ ((np = [] ∧ ev = []) ∨ (np ≠ [] ∧ ∃ hs tk v, ev = [ent hs [111, 110, 101] tk v]))) ?_ items.length ⟨[], items, [], [], bs, [], _, _, rfl, rfl, .nil, hN, .nil, rfl, D, .inl ⟨rfl, rfl⟩⟩
  rintro m h2 t2 ih ⟨pre, post, out, np, nr, ev, e1, e2, hd, hdb, hp, hr, ho, rfl, D2, hev⟩
  have hlp := hp.length
  have hl2 := hd ▸ hb
  clear hb
  cases hr with
  | nil =>
    rw [List.append_nil] at hd hdb hl2
    rcases hev with ⟨rfl, rfl⟩ | ⟨hne, hs, tk, v, rfl⟩
    · run_tac drive { lems := [`Mine.pylong, `Mine.get_mid, `Mine.get_end] }
      exact hR _ _ _ _ _ _ (hdb ▸ ho) (.inl ⟨hdb, rfl⟩) (Hp.less DD (.cons _ (.cons _ (.cons_cons _ (.cons_cons _ (List.nil_sublist _))))))
    · run_tac drive { lems := [`Mine.pylong, `Mine.get_mid, `Mine.get_end] }
      exact hR _ _ _ _ _ _ (hdb ▸ ho) (.inr ⟨hdb ▸ hne, _, _, _, rfl⟩) (Hp.less DD (.cons _ (.cons _ (.cons_cons _ (.cons_cons _ (List.nil_sublist _))))))
  | cons p tp hr =>
    rename_i post nr
    have hol : out.length ≤ 32 := by
      have q := ho.length
      have q2 := List.length_map (as := np) (2 ^ ·)
      rw [hdb, List.length_append] at h32
      (run_tac om)
    have hz : np.length < 32 := by
      rw [hdb, List.length_append, List.length_cons] at h32
      (run_tac om)
    have hd' : items = (pre ++ [Value.int (↑p) tp]) ++ post := by rw [hd]; simp
    have hp32 : p < 32 := hlt p (by rw [hdb]; simp)
    have hpp : (p : Int) = ((p : Nat) : Int) := rfl
    have hdb' : bs = (np ++ [p]) ++ nr := by rw [hdb]; simp
    have hpl : (pre.length : Int) + 1 = ((pre ++ [Value.int (↑p) tp]).length : Nat) := by simp
    rcases hev with ⟨_, rfl⟩ | ⟨_, hs, tk, v, rfl⟩
    all_goals
      run_tac drive { ids := ["int.__pow__"], lems := [`Mine.pylong, `Mine.get_mid, `Mine.get_end] }
    run_tac joinQ
    run_tac use `Mine.pow2m
    run_tac drive { split := true, lems := [`Mine.pylong, `Mine.get_mid, `Mine.get_end] }
    rename _ = (((2 : Nat) ^ p : Nat) : Int) => hk
    rw [hk, hpl] at DD
    exact ih _ _ _ (by simp) ⟨_, _, _, _, _, _, _, _, hd', hdb', hp.append (.one p tp), hr, (by rw [List.map_append]; exact ho.append (.one _ _)), rfl, DD, .inr ⟨by simp, _, _, _, rfl⟩⟩
  run_tac sqOut
theorem pow_comp {a1 a2 ds ac li bl c3 : Addr} {eb : Nat} {items : List Value} {bs : List Nat} {e1 e2 : Nat} (X : (K w.params).In h₀) (hdp : dp ≤ 450) (hun : un ≤ 3500)
    (D : Hp h₀ h vs ((ds, dictO [] e2) :: (ac, listO [] e1) :: (li, iterL bl 0) :: rest)) {i : Nat} (hbi : ((ds, dictO [] e2) :: (ac, listO [] e1) :: (li, iterL bl 0) :: rest)[i]? = some (bl, listO items eb)) (hi : 2 < i) (hN : Nums items bs) (h32 : bs.length ≤ 32) (hlt : bs.all (fun p => decide (p < 32)) = true)
    (hR : ∀ out ev e1 e2 h' t', Nums out (bs.map (2 ^ ·)) → ((bs = [] ∧ ev = []) ∨ (bs ≠ [] ∧ ∃ hs tk v, ev = [ent hs [111, 110, 101] tk v])) → Hp h₀ h' vs ((ds, dictO ev e2) :: (ac, listO out e1) :: rest) → R (.ok .next) ⟨h', g, d, t', os⟩) :
    wpOwn (model P w) (At dp un fr gd) (powC li ac a1 c3 a2 ds) (denote table (powC li ac a1 c3 a2 ds)) (postC P w (At dp un fr gd) R) (postE R) ⟨h, g, d, t, os⟩ := by
  run_tac sqIn
  have D1 : Hp h₀ h vs ([(ds, dictO [] e2), (ac, listO [] e1), (li, iterL bl 0)] ++ rest) := D
  have hb := D.at i bl _ hbi
  have hac : ac ≠ bl := D.ne 1 i ac bl _ _ rfl hbi (Nat.ble_eq_true_of_le (by (run_tac om)))
  have hb' : (gones h ([(ds, dictO [] e2), (ac, listO [] e1), (li, iterL bl 0)].map (·.1))).get? bl = some (listO items eb) := by
    refine (gones_ne fun m => ?_).trans hb
    simp only [List.map_cons, List.map_nil, List.mem_cons, List.not_mem_nil, or_false] at m
    rcases m with rfl | rfl | rfl
    · exact diff_data (D.at 0 bl _ rfl) hb (ty_ne (by decide))
    · exact hac rfl
    · exact diff_data (D.at 2 bl _ rfl) hb (ty_ne (by decide))
  exact pow_loop (D1.frontFrag X K40) hdp hun hb' hN h32 (fun p hp => by simpa using List.all_eq_true.mp hlt p hp) D1.front fun out ev e1 e2 h' t' ho hv D' => hR out ev e1 e2 h' t' ho hv (D1.framed D')
  run_tac sqOut
end
end Mine
end
section
open PySem PySem.W PySem.W.X PyProof.Rows
set_option maxRecDepth 100000
set_option maxHeartbeats 40000000
set_option Elab.async false
set_option linter.unusedVariables false
namespace Mine
section
variable {w : World} {h h₀ : Heap} {vs : Array Value} {g : Array GenState} {d : Drawn} {t : Nat} {os : OsState} {dp un : Nat} {fr : List Env} {gd : List Code} {R : Result → Shared → Prop} {A : Around} {news rest : List (Addr × Obj)}
theorem sum_loop (X : (K w.params).In h₀) (hdp : dp ≤ 700) (hun : un ≤ 7000) {l it st : Addr} {e : Nat} (post : List Value) : ∀ (nr : List Nat) (h : Heap) (pre : List Value) (tot : Int) (tk : Tok) (es : Nat) (t : Nat), Nums post nr → h₀.get? l = some (listO (pre ++ post) e) → (pre ++ post).length ≤ 1000 → 0 ≤ tot → tot + (nr.sum : Nat) < 1099511627776 → Hp h₀ h vs [(st, listO [.int tot tk] es), (it, iterL l pre.length)] →
    (∀ x tx h' t', x = tot + (nr.sum : Nat) → Hp h₀ h' vs [] → R (.ok (.ret (.int x tx))) ⟨h', g, d, t', os⟩) → RunsB w (At dp un fr gd) "sum.loop" [.ref it, .ref st, .int 0 0, .int 0 0] R ⟨h, g, d, t, os⟩ := by
  run_tac sqIn
  induction post with
  | nil =>
    intro nr h pre tot tk es t hN hl hp h0 hs D hR
    obtain rfl : nr = [] := by cases hN; rfl
    rw [List.append_nil] at hl
    run_tac drive { lems := [`Mine.pylong, `Mine.get_mid, `Mine.get_end] }
    exact hR _ _ _ _ (by simp) (Hp.less (by assumption) (List.nil_sublist _))
  | cons v post ih =>
    intro nr h pre tot tk es t hN hl hp h0 hs D hR
    cases hN with
    | cons m tm hN =>
      rename_i nr
      rw [List.sum_cons] at hs
      have hl2 : h₀.get? l = some (listO ((pre ++ [Value.int (m : Int) tm]) ++ post) e) := by rw [hl]; simp
      have hp2 : ((pre ++ [Value.int (m : Int) tm]) ++ post).length ≤ 1000 := by simpa using hp
      have hpl : (pre.length : Int) + 1 = ((pre ++ [Value.int (m : Int) tm]).length : Nat) := by simp
      have hp3 : pre.length ≤ 1000 := by rw [List.length_append] at hp; (run_tac om)
      run_tac drive { ids := ["sum.loop"], lems := [`Mine.pylong, `Mine.get_mid, `Mine.get_end] }
      rw [hpl] at DD
      clear hl hp hpl
      run_tac use `ih
      exact hR _ _ _ _ (by rename _ = tot + _ + _ => q; rw [q, List.sum_cons]; (run_tac om)) (by assumption)
  run_tac sqOut
theorem sum_list (X : (K w.params).In h₀) (D : Hp h₀ h vs news) (hdp : dp ≤ 650) (hun : un ≤ 6500) {l : Addr} {e : Nat} {items : List Value} {ns : List Nat} (hl : h.get? l = some (listO items e)) (hN : Nums items ns) (hlen : ns.length ≤ 1000) (hs : ns.sum < 1099511627776) {m : Nat} {x : Int} (hm : ns.sum = m) (hx : ((m : Nat) : Int) = x)
    (hR : ∀ tx h' t', Hp h₀ h' vs news → R (.ok (.ret (.int x tx))) ⟨h', g, d, t', os⟩) : RunsB w (At dp un fr gd) "sum" [.ref l] R ⟨h, g, d, t, os⟩ := by
  run_tac sqIn
  have X' := D.inFrag X K40
  have D' := D.here
  have hlp := hN.length
  run_tac drive { ids := ["sum.loop"] }
  have q := fun tz => sum_loop (w := w) (R := R) (g := g) (d := d) (os := os) (dp := dp) (un := un) (fr := fr) (gd := gd) (vs := vs) X' (by (run_tac om)) (by (run_tac om)) items ns _ [] 0 _ _ tz hN hl (by rw [List.nil_append, hlp]; exact hlen) (Int.le_refl _) (by (run_tac om)) DD fun y tx h' t' e D2 => by
    have : y = x := by rw [e, hm, ← hx]; simp
    rw [this]; exact hR tx h' t' (D.trans D2)
  run_tac use `q
  run_tac sqOut
end
end Mine
end
section
open PySem PySem.W PySem.W.X PyProof.Rows
set_option maxRecDepth 100000
set_option maxHeartbeats 40000000
set_option Elab.async false
set_option linter.unusedVariables false
namespace Mine
theorem whereOf_len (T : List Nat) (p : Nat) (hT : T.length ≤ 100) : (whereOf T p).length ≤ 30 := by
  run_tac sqIn
  unfold whereOf
  split
  · decide
  · have h1 := posFrom_len 10 (T.take p) 0
    have h2 : (T.take p).length ≤ 100 := by simp; (run_tac om)
    have h3 : (tailOf (T.take p)).length ≤ (T.take p).length := by unfold tailOf; simp
    have d1 := decI_len ⟨(posFrom 10 0 (T.take p)).length + 1, by (run_tac om)⟩
    have d2 := decI_len ⟨(tailOf (T.take p)).length + 1, by (run_tac om)⟩
    simp only [lineText, List.length_append, List.length_cons, List.length_nil]
    dsimp only at d1 d2
    (run_tac om)
  run_tac sqOut
section
variable {w : World} {h h₀ : Heap} {vs : Array Value} {g : Array GenState} {d : Drawn} {t : Nat} {os : OsState} {dp un : Nat} {fr : List Env} {gd : List Code} {R : Result → Shared → Prop} {A : Around} {news rest : List (Addr × Obj)}
theorem allowed_is (X : (K w.params).In h₀) (D : Hp h₀ h vs news) (hdp : dp ≤ 500) (hun : un ≤ 4000)
    (l : Addr) (items : List Value) (e : Nat) (bs : List Nat) (hl : h.get? l = some (listO items e)) (hN : Nums items bs) (hsz : bs.length ≤ 32) {b : Bool} (hb : allowedOf bs = b)
    (hR : ∀ h' t' , Hp h₀ h' vs news → R (.ok (.ret (.bool b))) ⟨h', g, d, t', os⟩) :
    Runs w dp un fr gd 85 [.ref l] R ⟨h, g, d, t, os⟩ := allowed' X D hdp hun l items e bs hl hN hsz fun b' h' t' q => by rw [q, hb]; exact hR h' t'
theorem single_is (X : (K w.params).In h₀) (D : Hp h₀ h vs news) (hdp : dp ≤ 600) (hun : un ≤ 5000)
    (v : Int) (tv : Tok) {b : Bool} (hb : singleBit v = b) (hR : ∀ h' t', Hp h₀ h' vs news → R (.ok (.ret (.bool b))) ⟨h', g, d, t', os⟩) :
    Runs w dp un fr gd 59 [.int v tv] R ⟨h, g, d, t, os⟩ := single_bit' X D hdp hun v tv fun b' h' t' q => by rw [q, hb]; exact hR h' t'
theorem high_is (X : (K w.params).In h₀) (D : Hp h₀ h vs news) (hdp : dp ≤ 600) (hun : un ≤ 5000)
    (v : Int) (tv : Tok) {r : Int} (hb : (Builtin.Int.intBits v : Int) - 1 = r) (hR : ∀ tk h' t', Hp h₀ h' vs news → R (.ok (.ret (.int r tk))) ⟨h', g, d, t', os⟩) :
    Runs w dp un fr gd 66 [.int v tv] R ⟨h, g, d, t, os⟩ := high_bit' X D hdp hun v tv fun b' tk h' t' q => by rw [q, hb]; exact hR tk h' t'
theorem taken_x (X : (K w.params).In h₀) (D : Hp h₀ h vs news) (hdp : dp ≤ 500) (hun : un ≤ 4000)
    {n : Nat} {x : Int} (hx : ((n : Nat) : Int) = x) (tv : Tok) (h1 : n < 4194304) (hR : ∀ l items e h' t' , Nums items (topBits n) → Hp h₀ h' vs ((l, listO items e) :: news) → R (.ok (.ret (.ref l))) ⟨h', g, d, t', os⟩) :
    Runs w dp un fr gd 80 [.int x tv] R ⟨h, g, d, t, os⟩ := by subst hx; exact taken' X D hdp hun n tv h1 hR
theorem int_eq_is {a b : Int} {ta tb : Tok} {v : Bool} (D : Hp h₀ h vs news) (hv : decide (a = b) = v)
    (hR : ∀ h' t', Hp h₀ h' vs news → R (.ok (.ret (.bool v))) ⟨h', g, d, t', os⟩) : RunsB w A "int.__eq__" [.int a ta, .int b tb] R ⟨h, g, d, t, os⟩ := by
  run_tac sqIn
  subst hv
  refine of_gives F.entry_int_eq (by decide +kernel) (gives_int_eq a b ta tb) ?_
  exact hR h t D
  run_tac sqOut
theorem list_first (X : (K w.params).In h₀) {l : Addr} {items : List Value} {e : Nat} {ti : Tok} {v : Value} (D : Hp h₀ h vs news) (hdp : dp ≤ 600) (hun : un ≤ 6000) (hl : h.get? l = some (listO (v :: items) e))
    (hR : ∀ h' t', Hp h₀ h' vs news → R (.ok (.ret v)) ⟨h', g, d, t', os⟩) : RunsB w (At dp un fr gd) "list.__getitem__" [.ref l, .int 0 ti] R ⟨h, g, d, t, os⟩ := by
  run_tac sqIn
  have X' := D.inFrag X K40
  have D' := D.here
  have h0 : ¬ ((0 : Int) ≥ ((⟨v :: items⟩ : Array Value).size : Int)) := by simp
  run_tac drive { doubt := true, split := true }
  exact hR _ _ (D.trans (Hp.less (by assumption) (List.nil_sublist _)))
  run_tac sqOut
theorem ord_is {c : Nat} {tx : Tok} {x : Int} (D : Hp h₀ h vs news) (hx : ((c : Nat) : Int) = x)
    (hR : ∀ tn h' t', Hp h₀ h' vs news → R (.ok (.ret (.int x tn))) ⟨h', g, d, t', os⟩) : RunsB w A "ord" [.str ⟨⟨[c]⟩⟩ tx] R ⟨h, g, d, t, os⟩ :=
  ord_ D fun n tn h' t' q => by rw [q, hx]; exact hR tn h' t'
theorem pair_second {l : Addr} {e : Nat} {ti : Tok} {v u : Value} (D : Hp h₀ h vs news) (hl : h.get? l = some (tupO [v, u] e))
    (hR : ∀ h' t', Hp h₀ h' vs news → R (.ok (.ret u)) ⟨h', g, d, t', os⟩) : RunsB w A "tuple.__getitem__" [.ref l, .int 1 ti] R ⟨h, g, d, t, os⟩ :=
  tup_item D hl (n := 1) rfl rfl (by decide) hR
theorem pair_ne (X : (K w.params).In h₀) (D : Hp h₀ h vs news) (hdp : dp ≤ 500) (hun : un ≤ 5000) {a b : Addr} {ea eb : Nat} {x : Int} {t1 t2 t3 t4 : Tok} {k : Nat} (ha : h.get? a = some (tupO [.int x t1, .str ⟨⟨[k]⟩⟩ t2] ea)) (hb : h.get? b = some (tupO [.int x t3, .str ⟨⟨[k]⟩⟩ t4] eb))
    (hR : ∀ h' t', Hp h₀ h' vs news → R (.ok (.ret (.bool false))) ⟨h', g, d, t', os⟩) : RunsB w (At dp un fr gd) "tuple.__ne__" [.ref a, .ref b] R ⟨h, g, d, t, os⟩ := by
  run_tac sqIn
  have X' := D.inFrag X K40
  have D' := D.here
  run_tac drive { doubt := true, split := true }
  all_goals exact hR _ _ (D.trans (Hp.less (by assumption) (List.nil_sublist _)))
  run_tac sqOut
end
end Mine
end
section
open PySem PySem.W PySem.W.X PyProof.Rows
set_option maxRecDepth 100000
set_option maxHeartbeats 4000000
set_option Elab.async false
set_option linter.unusedVariables false
namespace Mine
/-! the plain law of the figures -/
theorem worthAt_append (wd : Nat) (a b : List Nat) (i : Nat) : worthAt wd (a ++ b) i = worthAt wd a i + worthAt wd b i := by
  run_tac sqIn
  unfold worthAt
  rw [List.filter_append, List.map_append, List.sum_append]
  run_tac sqOut
theorem worthAt_none (wd : Nat) (a : List Nat) (i : Nat) (h : ∀ p ∈ a, wd - 1 - p / 4 ≠ i) : worthAt wd a i = 0 := by
  run_tac sqIn
  unfold worthAt
  rw [List.filter_eq_nil_iff.mpr (fun p hp => by simpa using h p hp)]
  rfl
  run_tac sqOut
theorem worthAt_all (wd : Nat) (a : List Nat) (i : Nat) (h : ∀ p ∈ a, wd - 1 - p / 4 = i) : worthAt wd a i = (a.map fun p => 2 ^ (p % 4)).sum := by
  run_tac sqIn
  unfold worthAt
  rw [List.filter_eq_self.mpr (fun p hp => by simpa using h p hp)]
  run_tac sqOut
/-- a figure of four bits -/
theorem nibble (q : Nat) : ((bitsDown 4 q).map fun p => 2 ^ (p % 4)).sum = q % 16 := by
  run_tac sqIn
  have e : ∀ k, (List.map (fun p => 2 ^ (p % 4)) (if isBit q k = true then [k] else [])).sum = (q / 2 ^ k % 2) * 2 ^ (k % 4) := by
    intro k
    have h2 : q / 2 ^ k % 2 = 0 ∨ q / 2 ^ k % 2 = 1 := Nat.mod_two_eq_zero_or_one _
    rcases h2 with h | h
    · have : isBit q k = false := by simp [isBit, h]
      rw [this, h]; simp
    · have : isBit q k = true := by simp [isBit, h]
      rw [this, h]; simp
  simp only [bitsDown, List.append_nil, List.map_append, List.sum_append]
  rw [e 3, e 2, e 1, e 0]
  simp only [show (2 : Nat) ^ 3 = 8 from rfl, show (2 : Nat) ^ 2 = 4 from rfl, show (2 : Nat) ^ 1 = 2 from rfl, show (2 : Nat) ^ 0 = 1 from rfl, show 3 % 4 = 3 from rfl, show 2 % 4 = 2 from rfl, show 1 % 4 = 1 from rfl, show 0 % 4 = 0 from rfl, Nat.div_one]
  have a : q % 16 = q % 8 + 8 * (q / 8 % 2) := Nat.mod_mul (a := 8) (b := 2)
  have b : q % 8 = q % 4 + 4 * (q / 4 % 2) := Nat.mod_mul (a := 4) (b := 2)
  have c : q % 4 = q % 2 + 2 * (q / 2 % 2) := Nat.mod_mul (a := 2) (b := 2)
  rw [a, b, c, Nat.mul_one, Nat.mul_comm, Nat.mul_comm (q / 4 % 2), Nat.mul_comm (q / 2 % 2), Nat.add_comm, Nat.add_comm (4 * _), Nat.add_comm (2 * _)]
  run_tac sqOut
theorem worth_down (wd n : Nat) : ∀ j, j ≤ wd → ∀ i, i < wd → worthAt wd (bitsDown (4 * j) n) i = if wd - 1 - i < j then n / 16 ^ (wd - 1 - i) % 16 else 0
  | 0, _, i, _ => by simp [worthAt, bitsDown]
  | j + 1, hj, i, hi => by
    rw [show 4 * (j + 1) = 4 + 4 * j by (run_tac om), bits_split, worthAt_append, worth_down wd n j (by (run_tac om)) i hi]
    have hp : ∀ p ∈ (bitsDown 4 (n / 2 ^ (4 * j))).map (· + 4 * j), p / 4 = j := by
      intro p hp
      obtain ⟨r, hr, rfl⟩ := List.mem_map.mp hp
      have := bitsDown_lt 4 _ r hr
      (run_tac om)
    have e16 : 2 ^ (4 * j) = 16 ^ j := by rw [Nat.pow_mul]
    by_cases h : wd - 1 - i = j
    · rw [worthAt_all wd _ i (fun p q => by rw [hp p q]; (run_tac om)), if_neg (by (run_tac om)), if_pos (by (run_tac om)), List.map_map]
      have : ((fun p => 2 ^ (p % 4)) ∘ (· + 4 * j)) = fun p => 2 ^ (p % 4) := by
        funext p
        show 2 ^ ((p + 4 * j) % 4) = 2 ^ (p % 4)
        congr 1
        (run_tac om)
      rw [this, nibble, e16, h]
      (run_tac om)
    · rw [worthAt_none wd _ i (fun p q => by rw [hp p q]; (run_tac om)), Nat.zero_add]
      by_cases h2 : wd - 1 - i < j
      · rw [if_pos h2, if_pos (by (run_tac om))]
      · rw [if_neg h2, if_neg (by (run_tac om))]
theorem worth_is (wd n : Nat) (h : n < 16 ^ wd) : worthOf wd (topBits n) = (List.range wd).map fun i => n / 16 ^ (wd - 1 - i) % 16 := by
  run_tac sqIn
  have h2 : n < 2 ^ (4 * wd) := by rw [Nat.pow_mul]; exact h
  rw [topBits_down _ _ h2]
  unfold worthOf
  apply List.map_congr_left
  intro i hi
  rw [worth_down wd n wd (Nat.le_refl _) i (List.mem_range.mp hi), if_pos (by have := List.mem_range.mp hi; (run_tac om))]
  run_tac sqOut
theorem worth_lt (wd n : Nat) (h : n < 16 ^ wd) : (worthOf wd (topBits n)).all (fun v => decide (v < 16)) = true := by
  run_tac sqIn
  rw [worth_is wd n h, List.all_eq_true]
  intro v hv
  obtain ⟨i, _, rfl⟩ := List.mem_map.mp hv
  simpa using Nat.mod_lt _ (by decide)
  run_tac sqOut
theorem hex_tab : ∀ b : Fin 2, ∀ v : Fin 16, hexDig (hexTab.getD (v.val + 16 * b.val) 0) = v.val ∧ isHex (hexTab.getD (v.val + 16 * b.val) 0) = true := by decide
theorem hexAt_is (y : Int) (i v : Nat) (h : v < 16) : hexDig (hexAt y i v) = v ∧ isHex (hexAt y i v) = true := by
  run_tac sqIn
  have hb : ((y + i) % 2).toNat < 2 := by (run_tac om)
  exact hex_tab ⟨_, hb⟩ ⟨v, h⟩
  run_tac sqOut
theorem figs_hex (y : Int) : ∀ (l : List Nat) (k : Nat), (∀ v ∈ l, v < 16) → (figsFrom y k l).all isHex = true ∧ (figsFrom y k l).map hexDig = l
  | [], _, _ => ⟨rfl, rfl⟩
  | v :: l, k, h => by
    obtain ⟨a, b⟩ := figs_hex y l (k + 1) (fun x hx => h x (.tail _ hx))
    obtain ⟨c, d⟩ := hexAt_is y k v (h v (.head _))
    rw [figsFrom]
    exact ⟨by rw [List.all_cons, d, a]; rfl, by rw [List.map_cons, b, c]⟩
theorem hexVal_map (l : List Nat) : hexVal l = (l.map hexDig).foldl (fun a d => a * 16 + d) 0 := by
  unfold hexVal; rw [List.foldl_map]
theorem fold_digits (n : Nat) : ∀ (wd c : Nat), c ≤ wd → n < 16 ^ wd → (((List.range wd).map fun i => n / 16 ^ (wd - 1 - i) % 16).take c).foldl (fun a d => a * 16 + d) 0 = n / 16 ^ (wd - c)
  | wd, 0, _, h => by simp [Nat.div_eq_of_lt h]
  | wd, c + 1, hc, h => by
    rw [List.take_add_one, List.foldl_append, fold_digits n wd c (by (run_tac om)) h]
    have e : ((List.range wd).map fun i => n / 16 ^ (wd - 1 - i) % 16)[c]? = some (n / 16 ^ (wd - 1 - c) % 16) := by
      rw [List.getElem?_map, List.getElem?_range (by (run_tac om))]; rfl
    rw [e]
    show n / 16 ^ (wd - c) * 16 + n / 16 ^ (wd - 1 - c) % 16 = n / 16 ^ (wd - (c + 1))
    rw [show wd - 1 - c = wd - (c + 1) by (run_tac om), show wd - c = (wd - (c + 1)) + 1 by (run_tac om), Nat.pow_succ, ← Nat.div_div_eq_div_mul]
    (run_tac om)
/-- the first c figures' number -/
theorem figs_val (y : Int) (wd n c : Nat) (hc : c ≤ wd) (h : n < 16 ^ wd) : hexVal ((figsFrom y 0 (worthOf wd (topBits n))).take c) = n / 16 ^ (wd - c) := by
  run_tac sqIn
  have hl : ∀ v ∈ worthOf wd (topBits n), v < 16 := fun v hv => by simpa using List.all_eq_true.mp (worth_lt wd n h) v hv
  rw [hexVal_map, List.map_take, (figs_hex y _ 0 hl).2, worth_is wd n h]
  exact fold_digits n wd c hc h
  run_tac sqOut
theorem figs_take_hex (y : Int) (wd n c : Nat) (h : n < 16 ^ wd) : ((figsFrom y 0 (worthOf wd (topBits n))).take c).all isHex = true := by
  run_tac sqIn
  have hl : ∀ v ∈ worthOf wd (topBits n), v < 16 := fun v hv => by simpa using List.all_eq_true.mp (worth_lt wd n h) v hv
  rw [List.all_eq_true]
  intro v hv
  exact List.all_eq_true.mp (figs_hex y _ 0 hl).1 v (List.mem_of_mem_take hv)
  run_tac sqOut
end Mine
end
section
open PySem PySem.W PySem.W.X PyProof.Rows
set_option maxRecDepth 100000
set_option maxHeartbeats 4000000
set_option Elab.async false
set_option linter.unusedVariables false
namespace Mine
/-! the plain law of one bit, of the highest bit, of the text's parts -/
theorem high_nat (m q : Nat) (ms : List Nat) (h : topBits m = q :: ms) : (Builtin.Int.intBits (m : Int) : Int) - 1 = ((q : Nat) : Int) := by
  run_tac sqIn
  have h0 : 0 < m := by
    rcases Nat.eq_zero_or_pos m with rfl | h0
    · rw [topBits_zero] at h; cases h
    · exact h0
  rw [topBits_pos h0] at h
  injection h with h _
  unfold Builtin.Int.intBits
  have : ((m : Int) == 0) = false := by simp; (run_tac om)
  rw [this]
  simp
  exact_mod_cast h
  run_tac sqOut
theorem high_zero : (Builtin.Int.intBits ((0 : Nat) : Int) : Int) - 1 = -1 := by decide
theorem scalar_neg (m : Nat) : isScalar (-1 - (m : Int)) = false := by
  unfold isScalar; rw [decide_eq_false_iff_not]; (run_tac om)
theorem scalar_nat (m : Nat) (h : m < 2 ^ 22) : isScalar (m : Int) = allowedOf (topBits m) := by
  run_tac sqIn
  rw [allowed_scalar m h]
  unfold isScalar
  rw [decide_eq_decide]; (run_tac om)
  run_tac sqOut
theorem single_neg (m : Nat) : singleBit (-1 - (m : Int)) = false := by
  run_tac sqIn
  unfold singleBit
  rw [if_neg (by (run_tac om)), decide_eq_false_iff_not]
  unfold Builtin.bitAnd
  have h1 : decide (0 ≤ (-1 - (m : Int))) = false := by rw [decide_eq_false_iff_not]; (run_tac om)
  have h2 : decide (0 ≤ (-1 - (m : Int) - 1)) = false := by rw [decide_eq_false_iff_not]; (run_tac om)
  rw [h1, h2]
  show ¬ Builtin.bitNot _ = 0
  unfold Builtin.bitNot
  (run_tac om)
  run_tac sqOut
theorem single_nat (m : Nat) : singleBit (m : Int) = decide ((topBits m).length = 1) := by
  run_tac sqIn
  rcases Nat.eq_zero_or_pos m with rfl | h0
  · rw [topBits_zero]; decide
  · unfold singleBit
    rw [if_neg (by (run_tac om)), topBits_pos h0, List.length_cons, decide_eq_decide]
    have e : (m : Int) - 1 = ((m - 1 : Nat) : Int) := by (run_tac om)
    have hb : Builtin.bitAnd (m : Int) ((m : Int) - 1) = ((m &&& (m - 1) : Nat) : Int) := by
      rw [e]
      unfold Builtin.bitAnd
      have h1 : decide (0 ≤ (m : Int)) = true := by rw [decide_eq_true_eq]; (run_tac om)
      have h2 : decide (0 ≤ ((m - 1 : Nat) : Int)) = true := by rw [decide_eq_true_eq]; (run_tac om)
      rw [h1, h2]
      simp
    rw [hb]
    have hl := Nat.log2_self_le (show m ≠ 0 by (run_tac om))
    have hu := Nat.lt_log2_self (n := m)
    generalize hk : Nat.log2 m = k at hl hu ⊢
    obtain ⟨r, rfl⟩ : ∃ r, m = 2 ^ k + r := ⟨m - 2 ^ k, by (run_tac om)⟩
    have hr : r < 2 ^ k := by rw [Nat.pow_succ] at hu; (run_tac om)
    rw [Nat.add_sub_cancel_left]
    rcases Nat.eq_zero_or_pos r with rfl | hr0
    · rw [Nat.add_zero, Nat.and_two_pow_sub_one_eq_mod, Nat.mod_self, topBits_zero]; simp
    · rw [topBits_pos hr0]
      have t1 : (2 ^ k + r).testBit k = true := by
        rw [Nat.testBit_two_pow_add_eq]
        simp [Nat.testBit_lt_two_pow hr]
      have t2 : (2 ^ k + r - 1).testBit k = true := by
        rw [show 2 ^ k + r - 1 = 2 ^ k + (r - 1) by (run_tac om), Nat.testBit_two_pow_add_eq]
        simp [Nat.testBit_lt_two_pow (show r - 1 < 2 ^ k by (run_tac om))]
      have t3 : ((2 ^ k + r) &&& (2 ^ k + r - 1)).testBit k = true := by rw [Nat.testBit_and, t1, t2]; rfl
      constructor
      · intro h
        have h0 : (2 ^ k + r) &&& (2 ^ k + r - 1) = 0 := by (run_tac om)
        rw [h0] at t3
        simp at t3
      · intro h; simp at h
  run_tac sqOut
theorem bitsDown_len : ∀ (k n : Nat), (bitsDown k n).length ≤ k
  | 0, _ => Nat.le_refl _
  | k + 1, n => by
    have := bitsDown_len k n
    rw [bitsDown, List.length_append]
    split <;> simp <;> (run_tac om)
theorem topBits_nil (m : Nat) (h : topBits m = []) : m = 0 := by
  run_tac sqIn
  have := topBits_sum m
  rw [h] at this
  exact this.symm
  run_tac sqOut
theorem topBits_all (m : Nat) (h : m < 4194304) : (topBits m).all (fun p => decide (p < 32)) = true ∧ (topBits m).length ≤ 32 := by
  run_tac sqIn
  rw [topBits_down 32 m (by (run_tac om))]
  refine ⟨?_, bitsDown_len 32 m⟩
  rw [List.all_eq_true]
  intro p hp
  simpa using bitsDown_lt 32 m p hp
  run_tac sqOut
/-- the text's parts -/
theorem cut_figs (A F B : List Nat) (c : Nat) (hc : c ≤ F.length) : ((A ++ F ++ B).drop A.length).take c = F.take c := by
  rw [List.append_assoc, List.drop_left, List.take_append_of_le_length hc]
theorem cut_more (A F B : List Nat) (c : Nat) (hc : F.length < c) (hB : B = [] ∨ ∃ b r, B = b :: r ∧ isHex b = false) :
    ((((A ++ F ++ B).drop A.length).take c).length : Int) ≠ (c : Int) ∨ (((A ++ F ++ B).drop A.length).take c).all isHex = false := by
  run_tac sqIn
  rw [List.append_assoc, List.drop_left]
  rcases hB with rfl | ⟨b, r, rfl, hb⟩
  · left
    rw [List.append_nil, List.length_take]
    (run_tac om)
  · right
    obtain ⟨k, rfl⟩ : ∃ k, c = F.length + (k + 1) := ⟨c - F.length - 1, by (run_tac om)⟩
    rw [List.take_length_add_append, List.take_succ_cons, List.all_append, List.all_cons, hb]
    simp
  run_tac sqOut
end Mine
end
section
open PySem PySem.W PySem.W.X PyProof.Rows
set_option maxRecDepth 100000
set_option maxHeartbeats 40000000
set_option Elab.async false
set_option linter.unusedVariables false
namespace Mine
section
variable {w : World} {h h₀ : Heap} {vs : Array Value} {g : Array GenState} {d : Drawn} {t : Nat} {os : OsState} {dp un : Nat} {gd : List Code} {R : Result → Shared → Prop}
theorem turn_ok_first (X : (K w.params).In h₀) (HS : HexAt w h₀) {f2 : Addr} {d2 : Array DictEntry} {n2 : Nat} {s1 s2 : Array (Option Value)} {eR eL : Env} (F2 : FEnv eL f2) {it l bl a1 a2 a3 : Addr} {out : List Value} {e1 e7 : Nat} {cv : Option Value}
    {y W pl : Int} {Ah T : List Nat} {hy ht hb hw ha hx hp : Int} {ky kt kb kw ka kx kp ty tw tA tT tp : Nat} {lf x : Int} {j c : Nat} (F1 : FEnv eR a1) (hlf : lf = ((j + 1 : Nat) : Int)) (hxc : x = ((c : Nat) : Int))
    (D : Hp h₀ h vs [(it, rangeIt x lf 1), (bl, listO out e1), (a3, ⟨.type "cell", none, .cell cv, ⟨[]⟩⟩), (a1, frameX ⟨[ent hy [121] ky (.int y ty), ent ht [116, 97, 107, 101, 110] kt (.ref l), ent hb [98, 105, 116, 115] kb (.ref bl), ent hw [119, 105, 100, 116, 104] kw (.int W tw), ent ha [97, 104, 101, 97, 100] ka (.str ⟨⟨Ah⟩⟩ tA), ent hx [116, 101, 120, 116] kx (.str ⟨⟨T⟩⟩ tT), ent hp [112, 108, 97, 99, 101] kp (.int pl tp)]⟩ e7 s1), (f2, frameX d2 n2 s2)]) (hdp : dp ≤ 350) (hun : un ≤ 2500)
    {bs ms : List Nat} {dn m q : Nat} {px hbv : Int} (hN : Nums out bs) (h32 : bs.length ≤ 32) (hdn : 4 * (W - x) = ((dn : Nat) : Int))
    (hne : bs ≠ []) (hms : leftOf dn bs = q :: ms) (hm32 : (q :: ms).length ≤ 32) (hlt : (q :: ms).all (fun p => decide (p < 32)) = true)
    (hsum : ((q :: ms).map (2 ^ ·)).sum = m) (hm22 : m < 4194304) {sb : Bool} (hsb : singleBit px = sb) (hsb1 : decide ((q :: ms).length = 1) = sb)
    (hhi : (Builtin.Int.intBits px : Int) - 1 = hbv) (hhv : hbv = ((q : Nat) : Int)) (htb : topBits m = q :: ms) (hal : allowedOf (q :: ms) = true) (hsc : isScalar px = true)
    (hpx : ((m : Nat) : Int) = px) (hsc2 : isScalar (-1 - px) = false) (hsb2 : singleBit (-1 - px) = false)
    (hT : T.length ≤ 100) (hpl : 0 ≤ pl) (hpl2 : pl ≤ 10) (hc1 : 1 ≤ x) (hc8 : x ≤ 10) {L : List Nat} (hL : (T.drop pl.toNat).take ((pl + x).toNat - pl.toNat) = L) (hLl : (L.length : Int) = x) (hLh : L.all isHex = true) (hLv : hexVal L = m)
    (ih : ∀ h' vs' t' s1' s2' e7' cv' h0 k0 v0 h1 k1 v1 h2 k2 v2 h3 k3 v3 h4 k4 v4, Hp h₀ h' vs' [(it, rangeIt (x + 1) (lf - 1) 1), (bl, listO out e1), (a3, ⟨.type "cell", none, .cell cv', ⟨[]⟩⟩), (a1, frameX ⟨[ent hy [121] ky (.int y ty), ent ht [116, 97, 107, 101, 110] kt (.ref l), ent hb [98, 105, 116, 115] kb (.ref bl), ent hw [119, 105, 100, 116, 104] kw (.int W tw), ent ha [97, 104, 101, 97, 100] ka (.str ⟨⟨Ah⟩⟩ tA), ent hx [116, 101, 120, 116] kx (.str ⟨⟨T⟩⟩ tT), ent hp [112, 108, 97, 99, 101] kp (.int pl tp), ent h0 [99, 111, 117, 110, 116] k0 v0, ent h1 [108, 101, 102, 116] k1 v1, ent h2 [112, 97, 114, 116] k2 v2, ent h3 [97, 108, 108, 111, 119, 101, 100] k3 v3, ent h4 [114, 101, 97, 100] k4 v4]⟩ e7' s1'), (f2, frameX d2 n2 s2')] →
      wpOwn (model P w) (At dp un [eR, eL] gd) (loopC it a1 a3 a2) (denote table (loopC it a1 a3 a2)) (postC P w (At dp un [eR, eL] gd) R) (postE R) ⟨h', g, d, t', os⟩) :
    wpOwn (model P w) (At dp un [eR, eL] gd) (loopC it a1 a3 a2) (denote table (loopC it a1 a3 a2)) (postC P w (At dp un [eR, eL] gd) R) (postE R) ⟨h, g, d, t, os⟩ := by
  run_tac sqIn
  have h12 : a1 ≠ f2 := D.ne 3 4 a1 f2 _ _ rfl rfl rfl
  run_tac drive { auto := [("compStart", `Mine.comp_startL)] }
  run_tac use `Mine.left_comp
  rename Nums _ (leftOf _ _) => hO
  rename List Value => lo
  rename _ ∨ _ => hv
  rw [hms] at hO
  obtain ⟨q0, _⟩ | ⟨_, _, _, _, he⟩ := hv
  · have q1 : False := hne q0
    run_tac noWay `q1
  subst he
  run_tac drive { auto := [("compStart", `Mine.comp_startL)] }
  run_tac use `Mine.pow_comp
  rename Nums _ (List.map _ _) => hO2
  rename _ ∨ _ => hv
  obtain ⟨q0, _⟩ | ⟨_, _, _, _, he⟩ := hv
  · have q1 : False := by simp at q0
    run_tac noWay `q1
  subst he
  have hol := hO.length
  have hlen1 : decide ((((⟨lo⟩ : Array Value).size : Nat) : Int) = 1) = sb := by rw [← hsb1, decide_eq_decide, ← hol]; simp; (run_tac om)
  obtain ⟨tq, lo, rfl, hO'⟩ := hO.cons_inv
  have hlo : lo.length ≤ 31 := by simp only [List.length_cons] at hol hm32; (run_tac om)
  have hs40 : ((q :: ms).map (2 ^ ·)).sum < 1099511627776 := by rw [hsum]; (run_tac om)
  have hl1000 : ((q :: ms).map (2 ^ ·)).length ≤ 1000 := by rw [List.length_map]; (run_tac om)
  have hp11 : px ≤ 1114111 := by unfold isScalar at hsc; rw [decide_eq_true_eq] at hsc; (run_tac om)
  run_tac drive { auto := [("int.__eq__", `Mine.int_eq_is), ("list.__getitem__", `Mine.list_first), ("sum", `Mine.sum_list), ("85", `Mine.allowed_is), ("52", `Mine.scalar_is), ("59", `Mine.single_is), ("66", `Mine.high_is), ("97", `Mine.read_ok'), ("chr", `Mine.chr_), ("tuple.__ne__", `Mine.pair_ne), ("tuple.__getitem__", `Mine.pair_second), ("ord", `Mine.ord_is), ("80", `Mine.taken_x), ("list.__ne__", `Mine.list_ne_same)] }
  rename Hp _ _ _ _ => DD
  exact ih _ _ _ _ _ _ _ _ _ _ _ _ _ _ _ _ _ _ _ _ _ _ (Hp.less DD (.cons _ (.cons _ (.cons _ (.cons _ (.cons _ (.cons _ (.cons _ (List.Sublist.refl _)))))))))
  run_tac sqOut
end
end Mine
end
section
open PySem PySem.W PySem.W.X PyProof.Rows
set_option maxRecDepth 100000
set_option maxHeartbeats 40000000
set_option Elab.async false
set_option linter.unusedVariables false
namespace Mine
section
variable {w : World} {h h₀ : Heap} {vs : Array Value} {g : Array GenState} {d : Drawn} {t : Nat} {os : OsState} {dp un : Nat} {gd : List Code} {R : Result → Shared → Prop}
theorem turn_ok_later (X : (K w.params).In h₀) (HS : HexAt w h₀) {f2 : Addr} {d2 : Array DictEntry} {n2 : Nat} {s1 s2 : Array (Option Value)} {eR eL : Env} (F2 : FEnv eL f2) {it l bl a1 a2 a3 : Addr} {out : List Value} {e1 e7 : Nat} {cv : Option Value}
    {y W pl : Int} {Ah T : List Nat} {hy ht hb hw ha hx hp : Int} {ky kt kb kw ka kx kp ty tw tA tT tp : Nat} {lf x : Int} {j c : Nat} {oh0 oh1 oh2 oh3 oh4 : Int} {ok0 ok1 ok2 ok3 ok4 : Nat} {ov0 ov1 ov2 ov3 ov4 : Value} (F1 : FEnv eR a1) (hlf : lf = ((j + 1 : Nat) : Int)) (hxc : x = ((c : Nat) : Int))
    (D : Hp h₀ h vs [(it, rangeIt x lf 1), (bl, listO out e1), (a3, ⟨.type "cell", none, .cell cv, ⟨[]⟩⟩), (a1, frameX ⟨[ent hy [121] ky (.int y ty), ent ht [116, 97, 107, 101, 110] kt (.ref l), ent hb [98, 105, 116, 115] kb (.ref bl), ent hw [119, 105, 100, 116, 104] kw (.int W tw), ent ha [97, 104, 101, 97, 100] ka (.str ⟨⟨Ah⟩⟩ tA), ent hx [116, 101, 120, 116] kx (.str ⟨⟨T⟩⟩ tT), ent hp [112, 108, 97, 99, 101] kp (.int pl tp), ent oh0 [99, 111, 117, 110, 116] ok0 ov0, ent oh1 [108, 101, 102, 116] ok1 ov1, ent oh2 [112, 97, 114, 116] ok2 ov2, ent oh3 [97, 108, 108, 111, 119, 101, 100] ok3 ov3, ent oh4 [114, 101, 97, 100] ok4 ov4]⟩ e7 s1), (f2, frameX d2 n2 s2)]) (hdp : dp ≤ 350) (hun : un ≤ 2500)
    {bs ms : List Nat} {dn m q : Nat} {px hbv : Int} (hN : Nums out bs) (h32 : bs.length ≤ 32) (hdn : 4 * (W - x) = ((dn : Nat) : Int))
    (hne : bs ≠ []) (hms : leftOf dn bs = q :: ms) (hm32 : (q :: ms).length ≤ 32) (hlt : (q :: ms).all (fun p => decide (p < 32)) = true)
    (hsum : ((q :: ms).map (2 ^ ·)).sum = m) (hm22 : m < 4194304) {sb : Bool} (hsb : singleBit px = sb) (hsb1 : decide ((q :: ms).length = 1) = sb)
    (hhi : (Builtin.Int.intBits px : Int) - 1 = hbv) (hhv : hbv = ((q : Nat) : Int)) (htb : topBits m = q :: ms) (hal : allowedOf (q :: ms) = true) (hsc : isScalar px = true)
    (hpx : ((m : Nat) : Int) = px) (hsc2 : isScalar (-1 - px) = false) (hsb2 : singleBit (-1 - px) = false)
    (hT : T.length ≤ 100) (hpl : 0 ≤ pl) (hpl2 : pl ≤ 10) (hc1 : 1 ≤ x) (hc8 : x ≤ 10) {L : List Nat} (hL : (T.drop pl.toNat).take ((pl + x).toNat - pl.toNat) = L) (hLl : (L.length : Int) = x) (hLh : L.all isHex = true) (hLv : hexVal L = m)
    (ih : ∀ h' vs' t' s1' s2' e7' cv' h0 k0 v0 h1 k1 v1 h2 k2 v2 h3 k3 v3 h4 k4 v4, Hp h₀ h' vs' [(it, rangeIt (x + 1) (lf - 1) 1), (bl, listO out e1), (a3, ⟨.type "cell", none, .cell cv', ⟨[]⟩⟩), (a1, frameX ⟨[ent hy [121] ky (.int y ty), ent ht [116, 97, 107, 101, 110] kt (.ref l), ent hb [98, 105, 116, 115] kb (.ref bl), ent hw [119, 105, 100, 116, 104] kw (.int W tw), ent ha [97, 104, 101, 97, 100] ka (.str ⟨⟨Ah⟩⟩ tA), ent hx [116, 101, 120, 116] kx (.str ⟨⟨T⟩⟩ tT), ent hp [112, 108, 97, 99, 101] kp (.int pl tp), ent h0 [99, 111, 117, 110, 116] k0 v0, ent h1 [108, 101, 102, 116] k1 v1, ent h2 [112, 97, 114, 116] k2 v2, ent h3 [97, 108, 108, 111, 119, 101, 100] k3 v3, ent h4 [114, 101, 97, 100] k4 v4]⟩ e7' s1'), (f2, frameX d2 n2 s2')] →
      wpOwn (model P w) (At dp un [eR, eL] gd) (loopC it a1 a3 a2) (denote table (loopC it a1 a3 a2)) (postC P w (At dp un [eR, eL] gd) R) (postE R) ⟨h', g, d, t', os⟩) :
    wpOwn (model P w) (At dp un [eR, eL] gd) (loopC it a1 a3 a2) (denote table (loopC it a1 a3 a2)) (postC P w (At dp un [eR, eL] gd) R) (postE R) ⟨h, g, d, t, os⟩ := by
  run_tac sqIn
  have h12 : a1 ≠ f2 := D.ne 3 4 a1 f2 _ _ rfl rfl rfl
  run_tac drive { auto := [("compStart", `Mine.comp_startL)] }
  run_tac use `Mine.left_comp
  rename Nums _ (leftOf _ _) => hO
  rename List Value => lo
  rename _ ∨ _ => hv
  rw [hms] at hO
  obtain ⟨q0, _⟩ | ⟨_, _, _, _, he⟩ := hv
  · have q1 : False := hne q0
    run_tac noWay `q1
  subst he
  run_tac drive { auto := [("compStart", `Mine.comp_startL)] }
  run_tac use `Mine.pow_comp
  rename Nums _ (List.map _ _) => hO2
  rename _ ∨ _ => hv
  obtain ⟨q0, _⟩ | ⟨_, _, _, _, he⟩ := hv
  · have q1 : False := by simp at q0
    run_tac noWay `q1
  subst he
  have hol := hO.length
  have hlen1 : decide ((((⟨lo⟩ : Array Value).size : Nat) : Int) = 1) = sb := by rw [← hsb1, decide_eq_decide, ← hol]; simp; (run_tac om)
  obtain ⟨tq, lo, rfl, hO'⟩ := hO.cons_inv
  have hlo : lo.length ≤ 31 := by simp only [List.length_cons] at hol hm32; (run_tac om)
  have hs40 : ((q :: ms).map (2 ^ ·)).sum < 1099511627776 := by rw [hsum]; (run_tac om)
  have hl1000 : ((q :: ms).map (2 ^ ·)).length ≤ 1000 := by rw [List.length_map]; (run_tac om)
  have hp11 : px ≤ 1114111 := by unfold isScalar at hsc; rw [decide_eq_true_eq] at hsc; (run_tac om)
  run_tac drive { auto := [("int.__eq__", `Mine.int_eq_is), ("list.__getitem__", `Mine.list_first), ("sum", `Mine.sum_list), ("85", `Mine.allowed_is), ("52", `Mine.scalar_is), ("59", `Mine.single_is), ("66", `Mine.high_is), ("97", `Mine.read_ok'), ("chr", `Mine.chr_), ("tuple.__ne__", `Mine.pair_ne), ("tuple.__getitem__", `Mine.pair_second), ("ord", `Mine.ord_is), ("80", `Mine.taken_x), ("list.__ne__", `Mine.list_ne_same)] }
  rename Hp _ _ _ _ => DD
  exact ih _ _ _ _ _ _ _ _ _ _ _ _ _ _ _ _ _ _ _ _ _ _ (Hp.less DD (.cons _ (.cons _ (.cons _ (.cons _ (.cons _ (.cons _ (.cons _ (List.Sublist.refl _)))))))))
  run_tac sqOut
end
end Mine
end
section
open PySem PySem.W PySem.W.X PyProof.Rows
set_option maxRecDepth 100000
set_option maxHeartbeats 40000000
set_option Elab.async false
set_option linter.unusedVariables false
namespace Mine
section
variable {w : World} {h h₀ : Heap} {vs : Array Value} {g : Array GenState} {d : Drawn} {t : Nat} {os : OsState} {dp un : Nat} {gd : List Code} {R : Result → Shared → Prop}
theorem turn_esc_first (X : (K w.params).In h₀) (HS : HexAt w h₀) {f2 : Addr} {d2 : Array DictEntry} {n2 : Nat} {s1 s2 : Array (Option Value)} {eR eL : Env} (F2 : FEnv eL f2) {it l bl a1 a2 a3 : Addr} {out : List Value} {e1 e7 : Nat} {cv : Option Value}
    {y W pl : Int} {Ah T : List Nat} {hy ht hb hw ha hx hp : Int} {ky kt kb kw ka kx kp ty tw tA tT tp : Nat} {lf x : Int} {j c : Nat} (F1 : FEnv eR a1) (hlf : lf = ((j + 1 : Nat) : Int)) (hxc : x = ((c : Nat) : Int))
    (D : Hp h₀ h vs [(it, rangeIt x lf 1), (bl, listO out e1), (a3, ⟨.type "cell", none, .cell cv, ⟨[]⟩⟩), (a1, frameX ⟨[ent hy [121] ky (.int y ty), ent ht [116, 97, 107, 101, 110] kt (.ref l), ent hb [98, 105, 116, 115] kb (.ref bl), ent hw [119, 105, 100, 116, 104] kw (.int W tw), ent ha [97, 104, 101, 97, 100] ka (.str ⟨⟨Ah⟩⟩ tA), ent hx [116, 101, 120, 116] kx (.str ⟨⟨T⟩⟩ tT), ent hp [112, 108, 97, 99, 101] kp (.int pl tp)]⟩ e7 s1), (f2, frameX d2 n2 s2)]) (hdp : dp ≤ 350) (hun : un ≤ 2500)
    {bs ms : List Nat} {dn m q : Nat} {px hbv : Int} (hN : Nums out bs) (h32 : bs.length ≤ 32) (hdn : 4 * (W - x) = ((dn : Nat) : Int))
    (hne : bs ≠ []) (hms : leftOf dn bs = q :: ms) (hm32 : (q :: ms).length ≤ 32) (hlt : (q :: ms).all (fun p => decide (p < 32)) = true)
    (hsum : ((q :: ms).map (2 ^ ·)).sum = m) (hm22 : m < 4194304) {sb : Bool} (hsb : singleBit px = sb) (hsb1 : decide ((q :: ms).length = 1) = sb)
    (hhi : (Builtin.Int.intBits px : Int) - 1 = hbv) (hhv : hbv = ((q : Nat) : Int)) (htb : topBits m = q :: ms) (hal : allowedOf (q :: ms) = false) (hsc : isScalar px = false)
    (hpx : ((m : Nat) : Int) = px) (hsc2 : isScalar (-1 - px) = false) (hsb2 : singleBit (-1 - px) = false)
    (hT : T.length ≤ 100) (hpl : 0 ≤ pl) (hpl2 : pl ≤ 10) (hc1 : 1 ≤ x) (hc8 : x ≤ 10) {L : List Nat} (hL : (T.drop pl.toNat).take ((pl + x).toNat - pl.toNat) = L) (hLl : (L.length : Int) = x) (hLh : L.all isHex = true) (hLv : hexVal L = m)
    (ih : ∀ h' vs' t' s1' s2' e7' cv' h0 k0 v0 h1 k1 v1 h2 k2 v2 h3 k3 v3 h4 k4 v4, Hp h₀ h' vs' [(it, rangeIt (x + 1) (lf - 1) 1), (bl, listO out e1), (a3, ⟨.type "cell", none, .cell cv', ⟨[]⟩⟩), (a1, frameX ⟨[ent hy [121] ky (.int y ty), ent ht [116, 97, 107, 101, 110] kt (.ref l), ent hb [98, 105, 116, 115] kb (.ref bl), ent hw [119, 105, 100, 116, 104] kw (.int W tw), ent ha [97, 104, 101, 97, 100] ka (.str ⟨⟨Ah⟩⟩ tA), ent hx [116, 101, 120, 116] kx (.str ⟨⟨T⟩⟩ tT), ent hp [112, 108, 97, 99, 101] kp (.int pl tp), ent h0 [99, 111, 117, 110, 116] k0 v0, ent h1 [108, 101, 102, 116] k1 v1, ent h2 [112, 97, 114, 116] k2 v2, ent h3 [97, 108, 108, 111, 119, 101, 100] k3 v3, ent h4 [114, 101, 97, 100] k4 v4]⟩ e7' s1'), (f2, frameX d2 n2 s2')] →
      wpOwn (model P w) (At dp un [eR, eL] gd) (loopC it a1 a3 a2) (denote table (loopC it a1 a3 a2)) (postC P w (At dp un [eR, eL] gd) R) (postE R) ⟨h', g, d, t', os⟩) :
    wpOwn (model P w) (At dp un [eR, eL] gd) (loopC it a1 a3 a2) (denote table (loopC it a1 a3 a2)) (postC P w (At dp un [eR, eL] gd) R) (postE R) ⟨h, g, d, t, os⟩ := by
  run_tac sqIn
  have h12 : a1 ≠ f2 := D.ne 3 4 a1 f2 _ _ rfl rfl rfl
  run_tac drive { auto := [("compStart", `Mine.comp_startL)] }
  run_tac use `Mine.left_comp
  rename Nums _ (leftOf _ _) => hO
  rename List Value => lo
  rename _ ∨ _ => hv
  rw [hms] at hO
  obtain ⟨q0, _⟩ | ⟨_, _, _, _, he⟩ := hv
  · have q1 : False := hne q0
    run_tac noWay `q1
  subst he
  run_tac drive { auto := [("compStart", `Mine.comp_startL)] }
  run_tac use `Mine.pow_comp
  rename Nums _ (List.map _ _) => hO2
  rename _ ∨ _ => hv
  obtain ⟨q0, _⟩ | ⟨_, _, _, _, he⟩ := hv
  · have q1 : False := by simp at q0
    run_tac noWay `q1
  subst he
  have hol := hO.length
  have hlen1 : decide ((((⟨lo⟩ : Array Value).size : Nat) : Int) = 1) = sb := by rw [← hsb1, decide_eq_decide, ← hol]; simp; (run_tac om)
  obtain ⟨tq, lo, rfl, hO'⟩ := hO.cons_inv
  have hlo : lo.length ≤ 31 := by simp only [List.length_cons] at hol hm32; (run_tac om)
  have hs40 : ((q :: ms).map (2 ^ ·)).sum < 1099511627776 := by rw [hsum]; (run_tac om)
  have hl1000 : ((q :: ms).map (2 ^ ·)).length ≤ 1000 := by rw [List.length_map]; (run_tac om)
  have hw30 : (whereOf T (pl + x).toNat).length ≤ 30 := whereOf_len T _ hT
  run_tac drive { auto := [("int.__eq__", `Mine.int_eq_is), ("list.__getitem__", `Mine.list_first), ("sum", `Mine.sum_list), ("85", `Mine.allowed_is), ("52", `Mine.scalar_is), ("59", `Mine.single_is), ("66", `Mine.high_is), ("97", `Mine.read_esc), ("104", `Mine.where'), ("str.__add__", `Mine.str_cat), ("str.__ne__", `Mine.str_ne_same)] }
  · rfl
  rename Hp _ _ _ _ => DD
  exact ih _ _ _ _ _ _ _ _ _ _ _ _ _ _ _ _ _ _ _ _ _ _ (Hp.less DD (.cons _ (.cons _ (.cons _ (.cons _ (List.Sublist.refl _))))))
  run_tac sqOut
end
end Mine
end
section
open PySem PySem.W PySem.W.X PyProof.Rows
set_option maxRecDepth 100000
set_option maxHeartbeats 40000000
set_option Elab.async false
set_option linter.unusedVariables false
namespace Mine
section
variable {w : World} {h h₀ : Heap} {vs : Array Value} {g : Array GenState} {d : Drawn} {t : Nat} {os : OsState} {dp un : Nat} {gd : List Code} {R : Result → Shared → Prop}
theorem turn_esc_later (X : (K w.params).In h₀) (HS : HexAt w h₀) {f2 : Addr} {d2 : Array DictEntry} {n2 : Nat} {s1 s2 : Array (Option Value)} {eR eL : Env} (F2 : FEnv eL f2) {it l bl a1 a2 a3 : Addr} {out : List Value} {e1 e7 : Nat} {cv : Option Value}
    {y W pl : Int} {Ah T : List Nat} {hy ht hb hw ha hx hp : Int} {ky kt kb kw ka kx kp ty tw tA tT tp : Nat} {lf x : Int} {j c : Nat} {oh0 oh1 oh2 oh3 oh4 : Int} {ok0 ok1 ok2 ok3 ok4 : Nat} {ov0 ov1 ov2 ov3 ov4 : Value} (F1 : FEnv eR a1) (hlf : lf = ((j + 1 : Nat) : Int)) (hxc : x = ((c : Nat) : Int))
    (D : Hp h₀ h vs [(it, rangeIt x lf 1), (bl, listO out e1), (a3, ⟨.type "cell", none, .cell cv, ⟨[]⟩⟩), (a1, frameX ⟨[ent hy [121] ky (.int y ty), ent ht [116, 97, 107, 101, 110] kt (.ref l), ent hb [98, 105, 116, 115] kb (.ref bl), ent hw [119, 105, 100, 116, 104] kw (.int W tw), ent ha [97, 104, 101, 97, 100] ka (.str ⟨⟨Ah⟩⟩ tA), ent hx [116, 101, 120, 116] kx (.str ⟨⟨T⟩⟩ tT), ent hp [112, 108, 97, 99, 101] kp (.int pl tp), ent oh0 [99, 111, 117, 110, 116] ok0 ov0, ent oh1 [108, 101, 102, 116] ok1 ov1, ent oh2 [112, 97, 114, 116] ok2 ov2, ent oh3 [97, 108, 108, 111, 119, 101, 100] ok3 ov3, ent oh4 [114, 101, 97, 100] ok4 ov4]⟩ e7 s1), (f2, frameX d2 n2 s2)]) (hdp : dp ≤ 350) (hun : un ≤ 2500)
    {bs ms : List Nat} {dn m q : Nat} {px hbv : Int} (hN : Nums out bs) (h32 : bs.length ≤ 32) (hdn : 4 * (W - x) = ((dn : Nat) : Int))
    (hne : bs ≠ []) (hms : leftOf dn bs = q :: ms) (hm32 : (q :: ms).length ≤ 32) (hlt : (q :: ms).all (fun p => decide (p < 32)) = true)
    (hsum : ((q :: ms).map (2 ^ ·)).sum = m) (hm22 : m < 4194304) {sb : Bool} (hsb : singleBit px = sb) (hsb1 : decide ((q :: ms).length = 1) = sb)
    (hhi : (Builtin.Int.intBits px : Int) - 1 = hbv) (hhv : hbv = ((q : Nat) : Int)) (htb : topBits m = q :: ms) (hal : allowedOf (q :: ms) = false) (hsc : isScalar px = false)
    (hpx : ((m : Nat) : Int) = px) (hsc2 : isScalar (-1 - px) = false) (hsb2 : singleBit (-1 - px) = false)
    (hT : T.length ≤ 100) (hpl : 0 ≤ pl) (hpl2 : pl ≤ 10) (hc1 : 1 ≤ x) (hc8 : x ≤ 10) {L : List Nat} (hL : (T.drop pl.toNat).take ((pl + x).toNat - pl.toNat) = L) (hLl : (L.length : Int) = x) (hLh : L.all isHex = true) (hLv : hexVal L = m)
    (ih : ∀ h' vs' t' s1' s2' e7' cv' h0 k0 v0 h1 k1 v1 h2 k2 v2 h3 k3 v3 h4 k4 v4, Hp h₀ h' vs' [(it, rangeIt (x + 1) (lf - 1) 1), (bl, listO out e1), (a3, ⟨.type "cell", none, .cell cv', ⟨[]⟩⟩), (a1, frameX ⟨[ent hy [121] ky (.int y ty), ent ht [116, 97, 107, 101, 110] kt (.ref l), ent hb [98, 105, 116, 115] kb (.ref bl), ent hw [119, 105, 100, 116, 104] kw (.int W tw), ent ha [97, 104, 101, 97, 100] ka (.str ⟨⟨Ah⟩⟩ tA), ent hx [116, 101, 120, 116] kx (.str ⟨⟨T⟩⟩ tT), ent hp [112, 108, 97, 99, 101] kp (.int pl tp), ent h0 [99, 111, 117, 110, 116] k0 v0, ent h1 [108, 101, 102, 116] k1 v1, ent h2 [112, 97, 114, 116] k2 v2, ent h3 [97, 108, 108, 111, 119, 101, 100] k3 v3, ent h4 [114, 101, 97, 100] k4 v4]⟩ e7' s1'), (f2, frameX d2 n2 s2')] →
      wpOwn (model P w) (At dp un [eR, eL] gd) (loopC it a1 a3 a2) (denote table (loopC it a1 a3 a2)) (postC P w (At dp un [eR, eL] gd) R) (postE R) ⟨h', g, d, t', os⟩) :
    wpOwn (model P w) (At dp un [eR, eL] gd) (loopC it a1 a3 a2) (denote table (loopC it a1 a3 a2)) (postC P w (At dp un [eR, eL] gd) R) (postE R) ⟨h, g, d, t, os⟩ := by
  run_tac sqIn
  have h12 : a1 ≠ f2 := D.ne 3 4 a1 f2 _ _ rfl rfl rfl
  run_tac drive { auto := [("compStart", `Mine.comp_startL)] }
  run_tac use `Mine.left_comp
  rename Nums _ (leftOf _ _) => hO
  rename List Value => lo
  rename _ ∨ _ => hv
  rw [hms] at hO
  obtain ⟨q0, _⟩ | ⟨_, _, _, _, he⟩ := hv
  · have q1 : False := hne q0
    run_tac noWay `q1
  subst he
  run_tac drive { auto := [("compStart", `Mine.comp_startL)] }
  run_tac use `Mine.pow_comp
  rename Nums _ (List.map _ _) => hO2
  rename _ ∨ _ => hv
  obtain ⟨q0, _⟩ | ⟨_, _, _, _, he⟩ := hv
  · have q1 : False := by simp at q0
    run_tac noWay `q1
  subst he
  have hol := hO.length
  have hlen1 : decide ((((⟨lo⟩ : Array Value).size : Nat) : Int) = 1) = sb := by rw [← hsb1, decide_eq_decide, ← hol]; simp; (run_tac om)
  obtain ⟨tq, lo, rfl, hO'⟩ := hO.cons_inv
  have hlo : lo.length ≤ 31 := by simp only [List.length_cons] at hol hm32; (run_tac om)
  have hs40 : ((q :: ms).map (2 ^ ·)).sum < 1099511627776 := by rw [hsum]; (run_tac om)
  have hl1000 : ((q :: ms).map (2 ^ ·)).length ≤ 1000 := by rw [List.length_map]; (run_tac om)
  have hw30 : (whereOf T (pl + x).toNat).length ≤ 30 := whereOf_len T _ hT
  run_tac drive { auto := [("int.__eq__", `Mine.int_eq_is), ("list.__getitem__", `Mine.list_first), ("sum", `Mine.sum_list), ("85", `Mine.allowed_is), ("52", `Mine.scalar_is), ("59", `Mine.single_is), ("66", `Mine.high_is), ("97", `Mine.read_esc), ("104", `Mine.where'), ("str.__add__", `Mine.str_cat), ("str.__ne__", `Mine.str_ne_same)] }
  · rfl
  rename Hp _ _ _ _ => DD
  exact ih _ _ _ _ _ _ _ _ _ _ _ _ _ _ _ _ _ _ _ _ _ _ (Hp.less DD (.cons _ (.cons _ (.cons _ (.cons _ (List.Sublist.refl _))))))
  run_tac sqOut
end
end Mine
end
section
open PySem PySem.W PySem.W.X PyProof.Rows
set_option maxRecDepth 100000
set_option maxHeartbeats 40000000
set_option Elab.async false
set_option linter.unusedVariables false
namespace Mine

section
variable {w : World} {h h₀ : Heap} {vs : Array Value} {g : Array GenState} {d : Drawn} {t : Nat} {os : OsState} {dp un : Nat} {gd : List Code} {R : Result → Shared → Prop}
theorem turn_zero_first (X : (K w.params).In h₀) (HS : HexAt w h₀) {f2 : Addr} {d2 : Array DictEntry} {n2 : Nat} {s1 s2 : Array (Option Value)} {eR eL : Env} (F2 : FEnv eL f2) {it l bl a1 a2 a3 : Addr} {out : List Value} {e1 e7 : Nat} {cv : Option Value}
    {y W pl : Int} {Ah T : List Nat} {hy ht hb hw ha hx hp : Int} {ky kt kb kw ka kx kp ty tw tA tT tp : Nat} {lf x : Int} {j c : Nat} (F1 : FEnv eR a1) (hlf : lf = ((j + 1 : Nat) : Int)) (hxc : x = ((c : Nat) : Int))
    (D : Hp h₀ h vs [(it, rangeIt x lf 1), (bl, listO out e1), (a3, ⟨.type "cell", none, .cell cv, ⟨[]⟩⟩), (a1, frameX ⟨[ent hy [121] ky (.int y ty), ent ht [116, 97, 107, 101, 110] kt (.ref l), ent hb [98, 105, 116, 115] kb (.ref bl), ent hw [119, 105, 100, 116, 104] kw (.int W tw), ent ha [97, 104, 101, 97, 100] ka (.str ⟨⟨Ah⟩⟩ tA), ent hx [116, 101, 120, 116] kx (.str ⟨⟨T⟩⟩ tT), ent hp [112, 108, 97, 99, 101] kp (.int pl tp)]⟩ e7 s1), (f2, frameX d2 n2 s2)]) (hdp : dp ≤ 350) (hun : un ≤ 2500)
    {bs ms : List Nat} {dn m q : Nat} {px hbv : Int} (hN : Nums out bs) (h32 : bs.length ≤ 32) (hdn : 4 * (W - x) = ((dn : Nat) : Int))
    (hms : leftOf dn bs = []) (hm0 : m = 0)
    (hsb : singleBit px = false) (hhi : (Builtin.Int.intBits px : Int) - 1 = -1) (htb : topBits m = []) (hal : allowedOf [] = true) (hsc : isScalar px = true)
    (hpx : ((m : Nat) : Int) = px) (hsc2 : isScalar (-1 - px) = false) (hsb2 : singleBit (-1 - px) = false)
    (hT : T.length ≤ 100) (hpl : 0 ≤ pl) (hpl2 : pl ≤ 10) (hc1 : 1 ≤ x) (hc8 : x ≤ 10) {L : List Nat} (hL : (T.drop pl.toNat).take ((pl + x).toNat - pl.toNat) = L) (hLl : (L.length : Int) = x) (hLh : L.all isHex = true) (hLv : hexVal L = m)
    (ih : ∀ h' vs' t' s1' s2' e7' cv' h0 k0 v0 h1 k1 v1 h2 k2 v2 h3 k3 v3 h4 k4 v4, Hp h₀ h' vs' [(it, rangeIt (x + 1) (lf - 1) 1), (bl, listO out e1), (a3, ⟨.type "cell", none, .cell cv', ⟨[]⟩⟩), (a1, frameX ⟨[ent hy [121] ky (.int y ty), ent ht [116, 97, 107, 101, 110] kt (.ref l), ent hb [98, 105, 116, 115] kb (.ref bl), ent hw [119, 105, 100, 116, 104] kw (.int W tw), ent ha [97, 104, 101, 97, 100] ka (.str ⟨⟨Ah⟩⟩ tA), ent hx [116, 101, 120, 116] kx (.str ⟨⟨T⟩⟩ tT), ent hp [112, 108, 97, 99, 101] kp (.int pl tp), ent h0 [99, 111, 117, 110, 116] k0 v0, ent h1 [108, 101, 102, 116] k1 v1, ent h2 [112, 97, 114, 116] k2 v2, ent h3 [97, 108, 108, 111, 119, 101, 100] k3 v3, ent h4 [114, 101, 97, 100] k4 v4]⟩ e7' s1'), (f2, frameX d2 n2 s2')] →
      wpOwn (model P w) (At dp un [eR, eL] gd) (loopC it a1 a3 a2) (denote table (loopC it a1 a3 a2)) (postC P w (At dp un [eR, eL] gd) R) (postE R) ⟨h', g, d, t', os⟩) :
    wpOwn (model P w) (At dp un [eR, eL] gd) (loopC it a1 a3 a2) (denote table (loopC it a1 a3 a2)) (postC P w (At dp un [eR, eL] gd) R) (postE R) ⟨h, g, d, t, os⟩ := by
  run_tac sqIn
  have h12 : a1 ≠ f2 := D.ne 3 4 a1 f2 _ _ rfl rfl rfl
  run_tac drive { auto := [("compStart", `Mine.comp_startL)] }
  run_tac use `Mine.left_comp
  rename Nums _ (leftOf _ _) => hO
  rename _ ∨ _ => hv
  rw [hms] at hO
  obtain rfl := hO.nil_inv
  obtain ⟨_, he⟩ | ⟨_, _, _, _, he⟩ := hv
  all_goals
    subst he
    run_tac drive { auto := [("compStart", `Mine.comp_startL)] }
  run_tac joinQ false [3] [3] false
  run_tac use `Mine.pow_comp
  rename Nums _ (List.map _ _) => hO2
  rename _ ∨ _ => hv
  obtain ⟨_, he⟩ | ⟨q0, _⟩ := hv
  rotate_left
  · have q1 : False := q0 rfl
    run_tac noWay `q1
  subst he
  have hlen1 : decide ((((⟨[]⟩ : Array Value).size : Nat) : Int) = 1) = false := by decide
  have hO0 : Nums [] (topBits m) := by rw [htb]; exact .nil
  have hal2 : allowedOf (topBits m) = true := by rw [htb]; exact hal
  have htl : (topBits m).length ≤ 32 := by rw [htb]; decide
  have hp11 : px ≤ 1114111 := by (run_tac om)
  run_tac drive { auto := [("int.__eq__", `Mine.int_eq_is), ("sum", `Mine.sum_list), ("85", `Mine.allowed_is), ("52", `Mine.scalar_is), ("59", `Mine.single_is), ("66", `Mine.high_is), ("97", `Mine.read_ok'), ("chr", `Mine.chr_), ("tuple.__ne__", `Mine.pair_ne), ("tuple.__getitem__", `Mine.pair_second), ("ord", `Mine.ord_is), ("80", `Mine.taken_x), ("list.__ne__", `Mine.list_ne_same)] }
  rename Hp _ _ _ _ => DD
  exact ih _ _ _ _ _ _ _ _ _ _ _ _ _ _ _ _ _ _ _ _ _ _ (Hp.less DD (.cons _ (.cons _ (.cons _ (.cons _ (.cons _ (.cons _ (List.Sublist.refl _))))))))
  run_tac sqOut
end

end Mine
end
section
open PySem PySem.W PySem.W.X PyProof.Rows
set_option maxRecDepth 100000
set_option maxHeartbeats 40000000
set_option Elab.async false
set_option linter.unusedVariables false
namespace Mine

section
variable {w : World} {h h₀ : Heap} {vs : Array Value} {g : Array GenState} {d : Drawn} {t : Nat} {os : OsState} {dp un : Nat} {gd : List Code} {R : Result → Shared → Prop}
theorem turn_zero_later (X : (K w.params).In h₀) (HS : HexAt w h₀) {f2 : Addr} {d2 : Array DictEntry} {n2 : Nat} {s1 s2 : Array (Option Value)} {eR eL : Env} (F2 : FEnv eL f2) {it l bl a1 a2 a3 : Addr} {out : List Value} {e1 e7 : Nat} {cv : Option Value}
    {y W pl : Int} {Ah T : List Nat} {hy ht hb hw ha hx hp : Int} {ky kt kb kw ka kx kp ty tw tA tT tp : Nat} {lf x : Int} {j c : Nat} {oh0 oh1 oh2 oh3 oh4 : Int} {ok0 ok1 ok2 ok3 ok4 : Nat} {ov0 ov1 ov2 ov3 ov4 : Value} (F1 : FEnv eR a1) (hlf : lf = ((j + 1 : Nat) : Int)) (hxc : x = ((c : Nat) : Int))
    (D : Hp h₀ h vs [(it, rangeIt x lf 1), (bl, listO out e1), (a3, ⟨.type "cell", none, .cell cv, ⟨[]⟩⟩), (a1, frameX ⟨[ent hy [121] ky (.int y ty), ent ht [116, 97, 107, 101, 110] kt (.ref l), ent hb [98, 105, 116, 115] kb (.ref bl), ent hw [119, 105, 100, 116, 104] kw (.int W tw), ent ha [97, 104, 101, 97, 100] ka (.str ⟨⟨Ah⟩⟩ tA), ent hx [116, 101, 120, 116] kx (.str ⟨⟨T⟩⟩ tT), ent hp [112, 108, 97, 99, 101] kp (.int pl tp), ent oh0 [99, 111, 117, 110, 116] ok0 ov0, ent oh1 [108, 101, 102, 116] ok1 ov1, ent oh2 [112, 97, 114, 116] ok2 ov2, ent oh3 [97, 108, 108, 111, 119, 101, 100] ok3 ov3, ent oh4 [114, 101, 97, 100] ok4 ov4]⟩ e7 s1), (f2, frameX d2 n2 s2)]) (hdp : dp ≤ 350) (hun : un ≤ 2500)
    {bs ms : List Nat} {dn m q : Nat} {px hbv : Int} (hN : Nums out bs) (h32 : bs.length ≤ 32) (hdn : 4 * (W - x) = ((dn : Nat) : Int))
    (hms : leftOf dn bs = []) (hm0 : m = 0)
    (hsb : singleBit px = false) (hhi : (Builtin.Int.intBits px : Int) - 1 = -1) (htb : topBits m = []) (hal : allowedOf [] = true) (hsc : isScalar px = true)
    (hpx : ((m : Nat) : Int) = px) (hsc2 : isScalar (-1 - px) = false) (hsb2 : singleBit (-1 - px) = false)
    (hT : T.length ≤ 100) (hpl : 0 ≤ pl) (hpl2 : pl ≤ 10) (hc1 : 1 ≤ x) (hc8 : x ≤ 10) {L : List Nat} (hL : (T.drop pl.toNat).take ((pl + x).toNat - pl.toNat) = L) (hLl : (L.length : Int) = x) (hLh : L.all isHex = true) (hLv : hexVal L = m)
    (ih : ∀ h' vs' t' s1' s2' e7' cv' h0 k0 v0 h1 k1 v1 h2 k2 v2 h3 k3 v3 h4 k4 v4, Hp h₀ h' vs' [(it, rangeIt (x + 1) (lf - 1) 1), (bl, listO out e1), (a3, ⟨.type "cell", none, .cell cv', ⟨[]⟩⟩), (a1, frameX ⟨[ent hy [121] ky (.int y ty), ent ht [116, 97, 107, 101, 110] kt (.ref l), ent hb [98, 105, 116, 115] kb (.ref bl), ent hw [119, 105, 100, 116, 104] kw (.int W tw), ent ha [97, 104, 101, 97, 100] ka (.str ⟨⟨Ah⟩⟩ tA), ent hx [116, 101, 120, 116] kx (.str ⟨⟨T⟩⟩ tT), ent hp [112, 108, 97, 99, 101] kp (.int pl tp), ent h0 [99, 111, 117, 110, 116] k0 v0, ent h1 [108, 101, 102, 116] k1 v1, ent h2 [112, 97, 114, 116] k2 v2, ent h3 [97, 108, 108, 111, 119, 101, 100] k3 v3, ent h4 [114, 101, 97, 100] k4 v4]⟩ e7' s1'), (f2, frameX d2 n2 s2')] →
      wpOwn (model P w) (At dp un [eR, eL] gd) (loopC it a1 a3 a2) (denote table (loopC it a1 a3 a2)) (postC P w (At dp un [eR, eL] gd) R) (postE R) ⟨h', g, d, t', os⟩) :
    wpOwn (model P w) (At dp un [eR, eL] gd) (loopC it a1 a3 a2) (denote table (loopC it a1 a3 a2)) (postC P w (At dp un [eR, eL] gd) R) (postE R) ⟨h, g, d, t, os⟩ := by
  run_tac sqIn
  have h12 : a1 ≠ f2 := D.ne 3 4 a1 f2 _ _ rfl rfl rfl
  run_tac drive { auto := [("compStart", `Mine.comp_startL)] }
  run_tac use `Mine.left_comp
  rename Nums _ (leftOf _ _) => hO
  rename _ ∨ _ => hv
  rw [hms] at hO
  obtain rfl := hO.nil_inv
  obtain ⟨_, he⟩ | ⟨_, _, _, _, he⟩ := hv
  all_goals
    subst he
    run_tac drive { auto := [("compStart", `Mine.comp_startL)] }
  run_tac joinQ false [3] [3] false
  run_tac use `Mine.pow_comp
  rename Nums _ (List.map _ _) => hO2
  rename _ ∨ _ => hv
  obtain ⟨_, he⟩ | ⟨q0, _⟩ := hv
  rotate_left
  · have q1 : False := q0 rfl
    run_tac noWay `q1
  subst he
  have hlen1 : decide ((((⟨[]⟩ : Array Value).size : Nat) : Int) = 1) = false := by decide
  have hO0 : Nums [] (topBits m) := by rw [htb]; exact .nil
  have hal2 : allowedOf (topBits m) = true := by rw [htb]; exact hal
  have htl : (topBits m).length ≤ 32 := by rw [htb]; decide
  have hp11 : px ≤ 1114111 := by (run_tac om)
  run_tac drive { auto := [("int.__eq__", `Mine.int_eq_is), ("sum", `Mine.sum_list), ("85", `Mine.allowed_is), ("52", `Mine.scalar_is), ("59", `Mine.single_is), ("66", `Mine.high_is), ("97", `Mine.read_ok'), ("chr", `Mine.chr_), ("tuple.__ne__", `Mine.pair_ne), ("tuple.__getitem__", `Mine.pair_second), ("ord", `Mine.ord_is), ("80", `Mine.taken_x), ("list.__ne__", `Mine.list_ne_same)] }
  rename Hp _ _ _ _ => DD
  exact ih _ _ _ _ _ _ _ _ _ _ _ _ _ _ _ _ _ _ _ _ _ _ (Hp.less DD (.cons _ (.cons _ (.cons _ (.cons _ (.cons _ (.cons _ (List.Sublist.refl _))))))))
  run_tac sqOut
end

end Mine
end
section
open PySem PySem.W PySem.W.X PyProof.Rows
set_option maxRecDepth 100000
set_option maxHeartbeats 40000000
set_option Elab.async false
set_option linter.unusedVariables false
namespace Mine
section
variable {w : World} {h h₀ : Heap} {vs : Array Value} {g : Array GenState} {d : Drawn} {t : Nat} {os : OsState} {dp un : Nat} {gd : List Code} {R : Result → Shared → Prop}
/-- the first loop of _law_right -/
theorem loop1 (X : (K w.params).In h₀) (HS : HexAt w h₀) {f2 : Addr} {d2 : Array DictEntry} {n2 : Nat} {s1 s2 : Array (Option Value)} {eR eL : Env} (F2 : FEnv eL f2) {it l bl a1 a2 a3 : Addr} {out : List Value} {e1 e7 : Nat} {cv : Option Value}
    {y : Int} {Ah T : List Nat} {hy ht hb hw ha hx hp : Int} {ky kt kb kw ka kx kp ty tw tA tT tp : Nat} {wd n : Nat} {W pl : Int} {B : List Nat} (F1 : FEnv eR a1)
    (D : Hp h₀ h vs [(it, rangeIt 1 W 1), (bl, listO out e1), (a3, ⟨.type "cell", none, .cell cv, ⟨[]⟩⟩), (a1, frameX ⟨[ent hy [121] ky (.int y ty), ent ht [116, 97, 107, 101, 110] kt (.ref l), ent hb [98, 105, 116, 115] kb (.ref bl), ent hw [119, 105, 100, 116, 104] kw (.int W tw), ent ha [97, 104, 101, 97, 100] ka (.str ⟨⟨Ah⟩⟩ tA), ent hx [116, 101, 120, 116] kx (.str ⟨⟨T⟩⟩ tT), ent hp [112, 108, 97, 99, 101] kp (.int pl tp)]⟩ e7 s1), (f2, frameX d2 n2 s2)]) (hdp : dp ≤ 350) (hun : un ≤ 2500)
    (hN : Nums out (topBits n)) (hn : n < 4194304) (hW : W = ((wd : Nat) : Int)) (hwd : 1 ≤ wd) (hw8 : wd ≤ 8) (h16 : n < 16 ^ wd) (hpl : pl = ((Ah.length : Nat) : Int)) (hAl : Ah.length ≤ 4) (hBl : B.length ≤ 2) (hT : T = Ah ++ figsFrom y 0 (worthOf wd (topBits n)) ++ B)
    (hR : ∀ h' vs' t' s1' s2' e7' cv' e1' h0 k0 v0 h1 k1 v1 h2 k2 v2 h3 k3 v3 h4 k4 v4, Hp h₀ h' vs' [(bl, listO out e1'), (a3, ⟨.type "cell", none, .cell cv', ⟨[]⟩⟩), (a1, frameX ⟨[ent hy [121] ky (.int y ty), ent ht [116, 97, 107, 101, 110] kt (.ref l), ent hb [98, 105, 116, 115] kb (.ref bl), ent hw [119, 105, 100, 116, 104] kw (.int W tw), ent ha [97, 104, 101, 97, 100] ka (.str ⟨⟨Ah⟩⟩ tA), ent hx [116, 101, 120, 116] kx (.str ⟨⟨T⟩⟩ tT), ent hp [112, 108, 97, 99, 101] kp (.int pl tp), ent h0 [99, 111, 117, 110, 116] k0 v0, ent h1 [108, 101, 102, 116] k1 v1, ent h2 [112, 97, 114, 116] k2 v2, ent h3 [97, 108, 108, 111, 119, 101, 100] k3 v3, ent h4 [114, 101, 97, 100] k4 v4]⟩ e7' s1'), (f2, frameX d2 n2 s2')] → R (.ok .next) ⟨h', g, d, t', os⟩) :
    wpOwn (model P w) (At dp un [eR, eL] gd) (loopC it a1 a3 a2) (denote table (loopC it a1 a3 a2)) (postC P w (At dp un [eR, eL] gd) R) (postE R) ⟨h, g, d, t, os⟩ := by
  run_tac sqIn
  have h12 : a1 ≠ f2 := D.ne 3 4 a1 f2 _ _ rfl rfl rfl
  have hFl : (figsFrom y 0 (worthOf wd (topBits n))).length = wd := by rw [figsFrom_length, worthOf_length]
  have hTl : T.length ≤ 100 := by rw [hT]; simp only [List.length_append]; (run_tac om)
  have hbl : (topBits n).length ≤ 32 := by rw [topBits_down 32 n (by (run_tac om))]; exact bitsDown_len 32 n
  -- what a turn's facts are
  have facts : ∀ c : Nat, 1 ≤ c → c ≤ wd → ∃ m, leftOf (4 * (wd - c)) (topBits n) = topBits m ∧ m < 4194304 ∧ (((T.drop pl.toNat).take ((pl + (c : Int)).toNat - pl.toNat)).length : Int) = (c : Int) ∧
      ((T.drop pl.toNat).take ((pl + (c : Int)).toNat - pl.toNat)).all isHex = true ∧ hexVal ((T.drop pl.toNat).take ((pl + (c : Int)).toNat - pl.toNat)) = m := by
    intro c h1 h2
    have ec : (pl + (c : Int)).toNat - pl.toNat = c := by (run_tac om)
    have ep : pl.toNat = Ah.length := by (run_tac om)
    rw [ec, ep, hT, cut_figs _ _ _ c (by rw [hFl]; exact h2)]
    refine ⟨n / 16 ^ (wd - c), ?_, Nat.lt_of_le_of_lt (Nat.div_le_self _ _) hn, ?_, figs_take_hex y wd n c h16, figs_val y wd n c h2 h16⟩
    · have e : 16 ^ (wd - c) = 2 ^ (4 * (wd - c)) := by rw [Nat.pow_mul]
      rw [e]
      exact topBits_shift n (4 * (wd - c)) 32 (Nat.lt_of_lt_of_le hn (by
        have : (2 : Nat) ^ 32 ≤ 2 ^ (32 + 4 * (wd - c)) := Nat.pow_le_pow_right (by decide) (by (run_tac om))
        (run_tac om)))
    · rw [List.length_take, hFl]; (run_tac om)
  have later : ∀ (j : Nat) (x lf : Int) h' vs' t' s1' s2' e7' cv' h0 k0 v0 h1 k1 v1 h2 k2 v2 h3 k3 v3 h4 k4 v4, j < wd → lf = ((j : Nat) : Int) → x = (((wd - j) + 1 : Nat) : Int) → Hp h₀ h' vs' [(it, rangeIt x lf 1), (bl, listO out e1), (a3, ⟨.type "cell", none, .cell cv', ⟨[]⟩⟩), (a1, frameX ⟨[ent hy [121] ky (.int y ty), ent ht [116, 97, 107, 101, 110] kt (.ref l), ent hb [98, 105, 116, 115] kb (.ref bl), ent hw [119, 105, 100, 116, 104] kw (.int W tw), ent ha [97, 104, 101, 97, 100] ka (.str ⟨⟨Ah⟩⟩ tA), ent hx [116, 101, 120, 116] kx (.str ⟨⟨T⟩⟩ tT), ent hp [112, 108, 97, 99, 101] kp (.int pl tp), ent h0 [99, 111, 117, 110, 116] k0 v0, ent h1 [108, 101, 102, 116] k1 v1, ent h2 [112, 97, 114, 116] k2 v2, ent h3 [97, 108, 108, 111, 119, 101, 100] k3 v3, ent h4 [114, 101, 97, 100] k4 v4]⟩ e7' s1'), (f2, frameX d2 n2 s2')] →
      wpOwn (model P w) (At dp un [eR, eL] gd) (loopC it a1 a3 a2) (denote table (loopC it a1 a3 a2)) (postC P w (At dp un [eR, eL] gd) R) (postE R) ⟨h', g, d, t', os⟩ := by
    intro j
    induction j with
    | zero =>
      intro x lf h' vs' t' s1' s2' e7' cv' h0 k0 v0 h1 k1 v1 h2 k2 v2 h3 k3 v3 h4 k4 v4 hj hlf hxc D'
      run_tac drive { doubt := true }
      exact hR _ _ _ _ _ _ _ _ _ _ _ _ _ _ _ _ _ _ _ _ _ _ _ (Hp.less DD (.cons _ (.cons _ (.cons _ (List.Sublist.refl _)))))
    | succ j ihj =>
      intro x lf h' vs' t' s1' s2' e7' cv' h0 k0 v0 h1 k1 v1 h2 k2 v2 h3 k3 v3 h4 k4 v4 hj hlf hxc D'
      have ih := fun h' vs' t' s1' s2' e7' cv' ih0 ik0 iv0 ih1 ik1 iv1 ih2 ik2 iv2 ih3 ik3 iv3 ih4 ik4 iv4 D2 => ihj (x + 1) (lf - 1) h' vs' t' s1' s2' e7' cv' ih0 ik0 iv0 ih1 ik1 iv1 ih2 ik2 iv2 ih3 ik3 iv3 ih4 ik4 iv4 (by (run_tac om)) (by (run_tac om)) (by (run_tac om)) D2
      have hx2 : x = (((wd - j) : Nat) : Int) := by (run_tac om)
      subst hx2
      have hdn : 4 * (W - (((wd - j) : Nat) : Int)) = ((4 * (wd - (wd - j)) : Nat) : Int) := by (run_tac om)
      obtain ⟨m, hms, hm22, hLl, hLh, hLv⟩ := facts (wd - j) (by (run_tac om)) (by (run_tac om))
      have hts := topBits_all m hm22
      have hsn := scalar_nat m (by (run_tac om))
      have hsg := single_nat m
      cases hq : topBits m with
      | nil =>
        rw [hq] at hms hsn hsg
        have hm0 := topBits_nil m hq
        exact turn_zero_later (ms := []) (q := 0) (hbv := 0) X HS F2 F1 hlf rfl D' hdp hun hN hbl hdn hms hm0 (by rw [hsg]; rfl) (by rw [hm0]; exact high_zero) hq (by decide) (by rw [hsn]; decide) rfl (scalar_neg m) (single_neg m) hTl (by (run_tac om)) (by (run_tac om)) (by (run_tac om)) (by (run_tac om)) rfl hLl hLh hLv ih
      | cons q ms =>
        rw [hq] at hms hsn hsg hts
        have hne : topBits n ≠ [] := by
          intro e
          rw [e] at hms
          cases hms
        have hsum : ((q :: ms).map (2 ^ ·)).sum = m := by rw [← hq]; exact topBits_sum m
        cases hal : allowedOf (q :: ms) with
        | true => exact turn_ok_later X HS F2 F1 hlf rfl D' hdp hun hN hbl hdn hne hms hts.2 hts.1 hsum hm22 hsg rfl (high_nat m q ms hq) rfl hq hal (by rw [hsn, hal]) rfl (scalar_neg m) (single_neg m) hTl (by (run_tac om)) (by (run_tac om)) (by (run_tac om)) (by (run_tac om)) rfl hLl hLh hLv ih
        | false => exact turn_esc_later X HS F2 F1 hlf rfl D' hdp hun hN hbl hdn hne hms hts.2 hts.1 hsum hm22 hsg rfl (high_nat m q ms hq) rfl hq hal (by rw [hsn, hal]) rfl (scalar_neg m) (single_neg m) hTl (by (run_tac om)) (by (run_tac om)) (by (run_tac om)) (by (run_tac om)) rfl hLl hLh hLv ih

  have ih := fun h' vs' t' s1' s2' e7' cv' ih0 ik0 iv0 ih1 ik1 iv1 ih2 ik2 iv2 ih3 ik3 iv3 ih4 ik4 iv4 D2 => later (wd - 1) (((1 : Nat) : Int) + 1) (W - 1) h' vs' t' s1' s2' e7' cv' ih0 ik0 iv0 ih1 ik1 iv1 ih2 ik2 iv2 ih3 ik3 iv3 ih4 ik4 iv4 (by (run_tac om)) (by (run_tac om)) (by (run_tac om)) D2
  have hlf : W = ((wd - 1 + 1 : Nat) : Int) := by (run_tac om)
  have hdn : 4 * (W - ((1 : Nat) : Int)) = ((4 * (wd - 1) : Nat) : Int) := by (run_tac om)
  obtain ⟨m, hms, hm22, hLl, hLh, hLv⟩ := facts 1 (by (run_tac om)) (by (run_tac om))
  have hts := topBits_all m hm22
  have hsn := scalar_nat m (by (run_tac om))
  have hsg := single_nat m
  cases hq : topBits m with
  | nil =>
    rw [hq] at hms hsn hsg
    have hm0 := topBits_nil m hq
    exact turn_zero_first (c := 1) (x := ((1 : Nat) : Int)) (ms := []) (q := 0) (hbv := 0) X HS F2 F1 hlf rfl D hdp hun hN hbl hdn hms hm0 (by rw [hsg]; rfl) (by rw [hm0]; exact high_zero) hq (by decide) (by rw [hsn]; decide) rfl (scalar_neg m) (single_neg m) hTl (by (run_tac om)) (by (run_tac om)) (by (run_tac om)) (by (run_tac om)) rfl hLl hLh hLv ih
  | cons q ms =>
    rw [hq] at hms hsn hsg hts
    have hne : topBits n ≠ [] := by
      intro e
      rw [e] at hms
      cases hms
    have hsum : ((q :: ms).map (2 ^ ·)).sum = m := by rw [← hq]; exact topBits_sum m
    cases hal : allowedOf (q :: ms) with
    | true => exact turn_ok_first (c := 1) (x := ((1 : Nat) : Int)) X HS F2 F1 hlf rfl D hdp hun hN hbl hdn hne hms hts.2 hts.1 hsum hm22 hsg rfl (high_nat m q ms hq) rfl hq hal (by rw [hsn, hal]) rfl (scalar_neg m) (single_neg m) hTl (by (run_tac om)) (by (run_tac om)) (by (run_tac om)) (by (run_tac om)) rfl hLl hLh hLv ih
    | false => exact turn_esc_first (c := 1) (x := ((1 : Nat) : Int)) X HS F2 F1 hlf rfl D hdp hun hN hbl hdn hne hms hts.2 hts.1 hsum hm22 hsg rfl (high_nat m q ms hq) rfl hq hal (by rw [hsn, hal]) rfl (scalar_neg m) (single_neg m) hTl (by (run_tac om)) (by (run_tac om)) (by (run_tac om)) (by (run_tac om)) rfl hLl hLh hLv ih
  run_tac sqOut
end
end Mine
end
section
open PySem PySem.W PySem.W.X PyProof.Rows
set_option maxRecDepth 100000
set_option maxHeartbeats 40000000
set_option Elab.async false
set_option linter.unusedVariables false
namespace Mine
theorem menu_ahead : ∀ i : Fin 3, ∃ A, ([[], [92, 85], [120, 10, 92, 117]] : List (List Nat))[i.val]? = some A ∧ A.length ≤ 4 := by decide
theorem menu_tail : ∀ i : Fin 5, ∃ B, ([[], [103, 48], [1633, 48], [95, 48], [32, 48]] : List (List Nat))[i.val]? = some B ∧ B.length ≤ 2 ∧ (B = [] ∨ ∃ b r, B = b :: r ∧ isHex b = false) := by
  run_tac sqIn
  intro i
  match i with
  | 0 => exact ⟨_, rfl, by decide, .inl rfl⟩
  | 1 => exact ⟨_, rfl, by decide, .inr ⟨_, _, rfl, by decide⟩⟩
  | 2 => exact ⟨_, rfl, by decide, .inr ⟨_, _, rfl, by decide⟩⟩
  | 3 => exact ⟨_, rfl, by decide, .inr ⟨_, _, rfl, by decide⟩⟩
  | 4 => exact ⟨_, rfl, by decide, .inr ⟨_, _, rfl, by decide⟩⟩
  run_tac sqOut
theorem bad_cut (A F B : List Nat) (pl x : Int) (hpl : pl = ((A.length : Nat) : Int)) (hx : ((F.length : Nat) : Int) < x) (hB : B = [] ∨ ∃ b r, B = b :: r ∧ isHex b = false) :
    ((((A ++ F ++ B).drop pl.toNat).take ((pl + x).toNat - pl.toNat)).length : Int) ≠ x ∨ (((A ++ F ++ B).drop pl.toNat).take ((pl + x).toNat - pl.toNat)).all isHex = false := by
  run_tac sqIn
  have e1 : pl.toNat = A.length := by (run_tac om)
  have e2 : (pl + x).toNat - pl.toNat = x.toNat := by (run_tac om)
  have := cut_more A F B x.toNat (by (run_tac om)) hB
  rw [e2, e1]
  have e3 : ((x.toNat : Nat) : Int) = x := by (run_tac om)
  rw [e3] at this
  exact this
  run_tac sqOut
/-- what the width is good for -/
noncomputable def WidthOk (n : Nat) (bs : List Nat) (W : Int) : Prop := ∃ wd : Nat, W = ((wd : Nat) : Int) ∧ 1 ≤ wd ∧ wd ≤ 8 ∧ n < 16 ^ wd ∧ bs.all (fun p => decide (p < 4 * wd)) = true
theorem width_nil {n : Nat} (h : topBits n = []) {y3 : Int} (h0 : 0 ≤ y3) (h2 : y3 ≤ 2) : WidthOk n (topBits n) (1 + y3) := by
  run_tac sqIn
  obtain ⟨wd, hWd⟩ := Int.eq_ofNat_of_zero_le (show 0 ≤ 1 + y3 by (run_tac om))
  refine ⟨wd, hWd, by (run_tac om), by (run_tac om), ?_, by rw [h]; rfl⟩
  rw [topBits_nil n h]
  exact Nat.pow_pos (by decide)
  run_tac sqOut
theorem width_cons {n b : Nat} {ns : List Nat} (hn : n < 4194304) (h : topBits n = b :: ns) {y3 : Int} (h0 : 0 ≤ y3) (h2 : y3 ≤ 2) : WidthOk n (topBits n) ((b : Int).fdiv 4 + 1 + y3) := by
  run_tac sqIn
  have f4 : (b : Int).fdiv 4 = ((b / 4 : Nat) : Int) := by rw [Int.fdiv_eq_ediv_of_nonneg _ (by decide)]; (run_tac om)
  have hn0 : 0 < n := by
    rcases Nat.eq_zero_or_pos n with rfl | q
    · rw [topBits_zero] at h; cases h
    · exact q
  have hlog : Nat.log2 n = b := by
    have := topBits_pos hn0
    rw [h] at this
    injection this with this _
    exact this.symm
  have hnb : n < 2 ^ (b + 1) := by rw [← hlog]; exact Nat.lt_log2_self
  have hb22 : b < 22 := by
    have := topBits_down 22 n (by (run_tac om))
    rw [h] at this
    exact bitsDown_lt 22 n b (this ▸ .head _)
  obtain ⟨wd, hWd⟩ := Int.eq_ofNat_of_zero_le (show 0 ≤ (b : Int).fdiv 4 + 1 + y3 by (run_tac om))
  have hb4 : b + 1 ≤ 4 * wd := by (run_tac om)
  refine ⟨wd, hWd, by (run_tac om), by (run_tac om), ?_, ?_⟩
  · have e : (16 : Nat) ^ wd = 2 ^ (4 * wd) := by rw [Nat.pow_mul]
    rw [e]
    exact Nat.lt_of_lt_of_le hnb (Nat.pow_le_pow_right (by decide) hb4)
  · rw [List.all_eq_true]
    intro p hp
    have := topBits_down (b + 1) n hnb
    have := bitsDown_lt (b + 1) n p (this ▸ hp)
    simp
    (run_tac om)
  run_tac sqOut
theorem width_facts {n : Nat} {bs : List Nat} {W : Int} (y : Int) (hn : n < 4194304) (hbs : topBits n = bs) (hG : WidthOk n bs W) : ∃ (wd : Nat) (F : List Nat), W = ((wd : Nat) : Int) ∧ 1 ≤ wd ∧ wd ≤ 8 ∧ n < 16 ^ wd ∧ figsFrom y 0 (worthOf W.toNat bs) = F ∧ F.length ≤ 8 ∧ ((F.length : Nat) : Int) = W ∧
    bs.all (fun p => decide (p < 4 * W.toNat)) = true ∧ (worthOf W.toNat bs).all (fun v => decide (v < 16)) = true ∧ F = figsFrom y 0 (worthOf wd (topBits n)) ∧ 1 ≤ W ∧ W ≤ 8 := by
  run_tac sqIn
  obtain ⟨wd, hWd, hw1, hw8, h16, hb0⟩ := hG
  have hwn : W.toNat = wd := by (run_tac om)
  refine ⟨wd, _, hWd, hw1, hw8, h16, rfl, ?_, ?_, ?_, ?_, ?_, by (run_tac om), by (run_tac om)⟩
  · rw [figsFrom_length, worthOf_length]; (run_tac om)
  · rw [figsFrom_length, worthOf_length]; (run_tac om)
  · rw [hwn]; exact hb0
  · rw [hwn, ← hbs]; exact worth_lt wd n h16
  · rw [hwn, hbs]
  run_tac sqOut
section
variable {w : World} {h h₀ : Heap} {vs : Array Value} {g : Array GenState} {d : Drawn} {t : Nat} {os : OsState} {dp un : Nat} {fr : List Env} {gd : List Code} {R : Result → Shared → Prop} {A : Around} {news rest : List (Addr × Obj)}
theorem list_first' (X : (K w.params).In h₀) {l : Addr} {items rest : List Value} {e : Nat} {ti : Tok} {v : Value} (D : Hp h₀ h vs news) (hdp : dp ≤ 600) (hun : un ≤ 6000) (hl : h.get? l = some (listO items e)) (hv : items = v :: rest)
    (hR : ∀ h' t', Hp h₀ h' vs news → R (.ok (.ret v)) ⟨h', g, d, t', os⟩) : RunsB w (At dp un fr gd) "list.__getitem__" [.ref l, .int 0 ti] R ⟨h, g, d, t, os⟩ := by
  run_tac sqIn
  subst hv
  exact list_first X D hdp hun hl hR
  run_tac sqOut
end
section
variable {w : World} {h h₀ : Heap} {vs : Array Value} {g : Array GenState} {d : Drawn} {t : Nat} {os : OsState} {dp un : Nat} {fr : List Env} {gd : List Code} {R : Result → Shared → Prop} {A : Around} {news rest : List (Addr × Obj)}
theorem right_ (X : (K w.params).In h₀) (HS : HexAt w h₀) {f2 : Addr} {d2 : Array DictEntry} {n2 : Nat} {s2 : Array (Option Value)} {eL : Env} (F2 : FEnv eL f2)
    (D : Hp h₀ h vs [(f2, frameX d2 n2 s2)]) (hdp : dp ≤ 340) (hun : un ≤ 2000) (n : Nat) (y : Int) (tn ty : Tok) (hn : n < 4194304) (hy : 0 ≤ y)
    (hR : ∀ vs' h' t' s2', Hp h₀ h' vs' [(f2, frameX d2 n2 s2')] → R (.ok (.ret (.bool true))) ⟨h', g, d, t', os⟩) :
    Runs w dp un [eL] gd 109 [.int (n : Int) tn, .int y ty] R ⟨h, g, d, t, os⟩ := by
  run_tac sqIn
  run_tac drive { doubt := true, auto := [("80", `Mine.taken'), ("range.__iter__", `Mine.range_down), ("compStart", `Mine.comp_startR)] }
  run_tac use `Mine.bits_comp
  rename Nums out _ => hO
  rename Nums items _ => hI
  have hO0 := hO
  have hts := topBits_all n hn
  have htd := topBits_down 32 n (by (run_tac om))
  generalize hbs : topBits n = bs at hO hI hts hO0 htd
  have hol := hO.length
  have hlen : bs.length ≤ 32 := hts.2
  have ho32 : (⟨out⟩ : Array Value).size ≤ 32 := by simp; (run_tac om)
  have y3 : 0 ≤ y.fmod 3 := by rw [Int.fmod_eq_emod_of_nonneg _ (by decide)]; (run_tac om)
  have y3' : y.fmod 3 ≤ 2 := by rw [Int.fmod_eq_emod_of_nonneg _ (by decide)]; (run_tac om)
  have ia : ((y.fmod 7).fmod 3).toNat < 3 := by rw [Int.fmod_eq_emod_of_nonneg _ (by decide), Int.fmod_eq_emod_of_nonneg _ (by decide)]; (run_tac om)
  have it5 : ((y.fmod 11).fmod 5).toNat < 5 := by rw [Int.fmod_eq_emod_of_nonneg _ (by decide), Int.fmod_eq_emod_of_nonneg _ (by decide)]; (run_tac om)
  obtain ⟨Ah, hA, hAl⟩ := menu_ahead ⟨_, ia⟩
  obtain ⟨Ta, hT, hTl, hTb⟩ := menu_tail ⟨_, it5⟩
  dsimp only at hA hT
  have hbr : (out = [] ∧ bs = []) ∨ ∃ (b : Nat) (tkb : Nat) (lo : List Value) (ns : List Nat), out = Value.int (b : Int) tkb :: lo ∧ bs = b :: ns := by
    cases hO with
    | nil => exact .inl ⟨rfl, rfl⟩
    | cons b tkb hO => exact .inr ⟨_, _, _, _, rfl, rfl⟩
  clear hO
  rcases hbr with ⟨ho, hb⟩ | ⟨b, tkb, lo, ns, ho, hb⟩
  have hsz : (⟨out⟩ : Array Value).size = 0 := by rw [ho]; rfl
  have hG : WidthOk n bs (1 + y.fmod 3) := hbs ▸ width_nil (hbs.trans hb) y3 y3'
  run_tac drive { doubt := true, refs := [90], auto := [("list.__getitem__", `Mine.list_first'), ("list.__ne__", `Mine.list_ne_same), ("tuple.__getitem__", `Mine.tup_text)] }
  rfl
  rotate_left
  have hsz : (⟨out⟩ : Array Value).size = lo.length + 1 := by rw [ho]; rfl
  have hG : WidthOk n bs ((b : Int).fdiv 4 + 1 + y.fmod 3) := hbs ▸ width_cons hn (hbs.trans hb) y3 y3'
  run_tac drive { doubt := true, refs := [90], auto := [("list.__getitem__", `Mine.list_first'), ("list.__ne__", `Mine.list_ne_same), ("tuple.__getitem__", `Mine.tup_text)] }
  rfl
  run_tac joinQ true
  rename WidthOk _ _ _ => hG
  obtain ⟨wd, F, hWd, hw1, hw8, h16, hF, hFl, hFe, hb0, h160, hTT0, hW1, hW8⟩ := width_facts y hn hbs hG
  run_tac use `Mine.figures_x
  run_tac drive { doubt := true, auto := [("tuple.__getitem__", `Mine.tup_text), ("str.__add__", `Mine.str_cat), ("range.__iter__", `Mine.range_up)] }
  rfl
  have DD2 := Hp.less DD (.cons_cons _ (.cons _ (.cons _ (.cons _ (.cons _ (.cons_cons _ (.cons _ (.cons _ (.cons_cons _ (.cons _ (.cons_cons _ (.cons_cons _ .slnil))))))))))))
  clear DD
  have h12 := DD2.ne 3 4 _ _ _ _ rfl rfl rfl
  have hN2 : Nums out (topBits n) := by rw [hbs]; exact hO0
  have hpl : (((⟨⟨Ah⟩⟩ : Str).length : Nat) : Int) = ((Ah.length : Nat) : Int) := rfl
  have hTT : Ah ++ F ++ Ta = Ah ++ figsFrom y 0 (worthOf wd (topBits n)) ++ Ta := by rw [hTT0]
  run_tac (do Lean.Elab.Tactic.replaceMainGoal [← freshCtx (← Lean.Elab.Tactic.getMainGoal)])
  run_tac use `Mine.loop1
  have hTl100 : (Ah ++ F ++ Ta).length ≤ 100 := by simp only [List.length_append]; (run_tac om)
  have hw30 := whereOf_len (Ah ++ F ++ Ta) (((⟨⟨Ah⟩⟩ : Str).length : Nat) : Int).toNat hTl100
  run_tac drive { doubt := true, loops := false, auto := [("97", `Mine.read_bad), ("104", `Mine.where'), ("str.__add__", `Mine.str_cat), ("str.__ne__", `Mine.str_ne_same)] }
  · exact bad_cut _ _ _ _ _ rfl (by (run_tac om)) hTb
  · rfl
  · exact bad_cut _ _ _ _ _ rfl (by (run_tac om)) hTb
  · rfl
  · refine hR _ _ _ ?slotsF (Hp.less DD ?subF)
    case subF => repeat (first | exact List.Sublist.refl _ | apply List.Sublist.cons)
  run_tac sqOut
end
end Mine
end
section
open PySem PySem.W PySem.W.X PyProof.Rows
set_option maxRecDepth 100000
set_option maxHeartbeats 40000000
set_option Elab.async false
set_option linter.unusedVariables false
namespace Mine
inductive Ints : List Value → List Int → Prop
  | nil : Ints [] []
  | cons {l zs} (z : Int) (t : Tok) (r : Ints l zs) : Ints (.int z t :: l) (z :: zs)
noncomputable abbrev LawGoal : Prop := ∀ (w : World) (h h₀ : Heap) (vs : Array Value) (g : Array GenState) (d : Drawn) (t : Nat) (os : OsState) (dp un : Nat) (gd : List Code) (R : Result → Shared → Prop)
  (X : (K w.params).In h₀) (HS : HexAt w h₀) (D : Hp h₀ h vs []) (hdp : dp ≤ 250) (hun : un ≤ 1900) (l : Addr) (xs : List Value) (zs : List Int) (e : Nat) (hl : h₀.get? l = some (listO xs e)) (hlen : xs.length ≤ 63) (hZ : Ints xs zs) (hzl : xs.length = zs.length),
  Runs w dp un [] gd 114 [.ref l] R ⟨h, g, d, t, os⟩
open Lean Meta Elab Tactic in
theorem grabNumbers : True := by
  run_tac (do
    let main ← getMainGoal
    let goal := (← getConstInfo ``LawGoal).value!
    let m ← mkFreshExprSyntheticOpaqueMVar goal
    let (_, g) ← m.mvarId!.intros
    setGoals [g]
    drive { auto := [("compStart", `Mine.comp_startL)] }

    keepCode `Mine.numbersC
    setGoals [main])
  trivial
end Mine
end
section
open PySem PySem.W PySem.W.X PyProof.Rows
set_option maxRecDepth 100000
set_option maxHeartbeats 40000000
set_option Elab.async false
set_option linter.unusedVariables false
namespace Mine
theorem Ints.append {a b : List Value} {x y : List Int} (r : Ints a x) (s : Ints b y) : Ints (a ++ b) (x ++ y) := by
  run_tac sqIn
  induction r with
  | nil => exact s
  | cons z t _ ih => exact .cons z t ih
  run_tac sqOut
theorem Ints.one (z : Int) (t : Tok) : Ints [.int z t] [z] := .cons z t .nil
theorem Ints.length {a : List Value} {x : List Int} (r : Ints a x) : a.length = x.length := by
  run_tac sqIn
  induction r with
  | nil => rfl
  | cons z t _ ih => simp [ih]
  run_tac sqOut
theorem Ints.take {a : List Value} {x : List Int} (r : Ints a x) (k : Nat) : Ints (a.take k) (x.take k) := by
  run_tac sqIn
  induction r generalizing k with
  | nil => simp; exact .nil
  | cons z t _ ih =>
    cases k with
    | zero => simp; exact .nil
    | succ k => simp; exact .cons z t (ih k)
  run_tac sqOut
noncomputable def doubled (z : Int) : Int := if 0 ≤ z then 2 * z else -2 * z - 1
theorem doubled_pos (z : Int) : 0 ≤ doubled z := by unfold doubled; split <;> (run_tac om)
section
variable {w : World} {h h₀ : Heap} {vs : Array Value} {g : Array GenState} {d : Drawn} {t : Nat} {os : OsState} {dp un : Nat} {fr : List Env} {gd : List Code} {R : Result → Shared → Prop} {A : Around} {news rest : List (Addr × Obj)}
theorem bits_small {a : Int} (ha : Nat.ble a.natAbs 2 = true) : ¬ shortFactorBits < bitsQ a := by
  run_tac sqIn
  rw [bits_eq]
  have h := Nat.le_of_ble_eq_true ha
  have : a = -2 ∨ a = -1 ∨ a = 0 ∨ a = 1 ∨ a = 2 := by (run_tac om)
  rcases this with rfl | rfl | rfl | rfl | rfl <;> decide
  run_tac sqOut
theorem mul_small (X : (K w.params).In h₀) (D : Hp h₀ h vs news) (hdp : dp ≤ 600) (hun : un ≤ 6000) {a z : Int} {t1 t2 : Tok} (ha : Nat.ble a.natAbs 2 = true)
    (hR : ∀ p tk h' t', p = a * z → Hp h₀ h' vs news → R (.ok (.ret (.int p tk))) ⟨h', g, d, t', os⟩) : RunsB w (At dp un fr gd) "int.__mul__" [.int a t1, .int z t2] R ⟨h, g, d, t, os⟩ := by
  run_tac sqIn
  have hb := bits_small ha
  have X' := D.inFrag X K40
  have D' := D.here
  run_tac drive { split := true }

  all_goals exact hR _ _ _ _ rfl (D.trans (by assumption))
  run_tac sqOut
theorem numbers_loop (X : (K w.params).In h₀) (hdp : dp ≤ 450) (hun : un ≤ 3500) {it ac f ds l : Addr} {xs : List Value} {zs : List Int} {e e1 e2 : Nat} (hl : h₀.get? l = some (listO xs e)) (hZ : Ints xs zs) (hz : xs.length ≤ 63)
    (D : Hp h₀ h vs [(ds, dictO [] e2), (ac, listO [] e1), (it, iterL l 0)])
    (hR : ∀ out ev e1 e2 h' t', Ints out (zs.map doubled) → (ev = [] ∨ ∃ hs tk v, ev = [ent hs [120] tk v]) → Hp h₀ h' vs [(ds, dictO ev e2), (ac, listO out e1)] → R (.ok .next) ⟨h', g, d, t', os⟩) :
    wpOwn (model P w) (At dp un fr gd) (numbersC it ac f ds) (denote table (numbersC it ac f ds)) (postC P w (At dp un fr gd) R) (postE R) ⟨h, g, d, t, os⟩ := by
  run_tac sqIn
  refine loop_ind (fun m h' t' => ∃ (pre rest : List Value) (np nr : List Int) (out : List Value) (ev : List DictEntry) (e1 e2 : Nat), xs = pre ++ rest ∧ zs = np ++ nr ∧ Ints pre np ∧ Ints rest nr ∧ m = rest.length ∧ Ints out (np.map doubled) ∧
    Hp h₀ h' vs [(ds, dictO ev e2), (ac, listO out e1), (it, iterL l pre.length)] ∧ (ev = [] ∨ ∃ hs tk v, ev = [ent hs [120] tk v])) ?_ xs.length ⟨[], xs, [], zs, [], [], _, _, rfl, rfl, .nil, hZ, rfl, .nil, D, .inl rfl⟩
  rintro m h2 t2 ih ⟨pre, rest, np, nr, out, ev, e1, e2, hd, hdb, hp, hr, rfl, ho, D2, hev⟩
  have hlp := hp.length
  have hlo := ho.length
  rw [List.length_map] at hlo
  cases hr with
  | nil =>
    rw [List.append_nil] at hd hdb
    subst hd hdb
    rcases hev with rfl | ⟨hs, tk, v, rfl⟩
    all_goals
      run_tac drive { lems := [`Mine.pylong, `Mine.get_mid, `Mine.get_end] }
      exact hR _ _ _ _ _ _ ho (by first | exact .inl rfl | exact .inr ⟨_, _, _, rfl⟩) (Hp.less DD (.cons _ (.cons _ (.cons_cons _ (.cons_cons _ (List.nil_sublist _))))))
  | cons z tz hr =>
    rename_i rest nr
    rw [hd] at hl hz
    have hz2 : pre.length ≤ 62 := by rw [List.length_append, List.length_cons] at hz; (run_tac om)
    have hol : out.length ≤ 62 := by (run_tac om)
    have hd' : xs = (pre ++ [Value.int z tz]) ++ rest := by rw [hd]; simp
    have hdb' : zs = (np ++ [z]) ++ nr := by rw [hdb]; simp
    rcases hev with rfl | ⟨hs, tk, v, rfl⟩
    all_goals
      run_tac drive { ids := ["int.__ge__"], lems := [`Mine.pylong, `Mine.get_mid, `Mine.get_end] }
    run_tac joinQ
    iterate 1
      run_tac drive { split := true, auto := [("int.__mul__", `Mine.mul_small)], lems := [`Mine.pylong, `Mine.get_mid, `Mine.get_end] }

      · refine ih _ _ _ (by simp) ⟨_, _, _, _, _, _, _, _, hd', hdb', hp.append (.one z tz), hr, rfl, ?_, by simpa using DD, .inr ⟨_, _, _, rfl⟩⟩
        have e : doubled z = p := (if_pos (by assumption)).trans (by rename p = _ => q; rw [q])
        rw [List.map_append, List.map_singleton, e]
        exact ho.append (.one _ _)
      · refine ih _ _ _ (by simp) ⟨_, _, _, _, _, _, _, _, hd', hdb', hp.append (.one z tz), hr, rfl, ?_, by simpa using DD, .inr ⟨_, _, _, rfl⟩⟩
        have e : doubled z = p - 1 := (if_neg (by assumption)).trans (by rename p = _ => q; rw [q])
        rw [List.map_append, List.map_singleton, e]
        exact ho.append (.one _ _)
  run_tac sqOut
theorem numbers_comp (X : (K w.params).In h₀) (hdp : dp ≤ 450) (hun : un ≤ 3500) {it ac f ds l : Addr} {xs : List Value} {zs : List Int} {e e1 e2 : Nat} (hl : h₀.get? l = some (listO xs e)) (hZ : Ints xs zs) (hz : xs.length ≤ 63)
    (D : Hp h₀ h vs ((ds, dictO [] e2) :: (ac, listO [] e1) :: (it, iterL l 0) :: rest))
    (hR : ∀ out ev e1 e2 h' t', Ints out (zs.map doubled) → (ev = [] ∨ ∃ hs tk v, ev = [ent hs [120] tk v]) → Hp h₀ h' vs ((ds, dictO ev e2) :: (ac, listO out e1) :: rest) → R (.ok .next) ⟨h', g, d, t', os⟩) :
    wpOwn (model P w) (At dp un fr gd) (numbersC it ac f ds) (denote table (numbersC it ac f ds)) (postC P w (At dp un fr gd) R) (postE R) ⟨h, g, d, t, os⟩ := by
  run_tac sqIn
  have D1 : Hp h₀ h vs ([(ds, dictO [] e2), (ac, listO [] e1), (it, iterL l 0)] ++ rest) := D
  have hl' : (gones h ([(ds, dictO [] e2), (ac, listO [] e1), (it, iterL l 0)].map (·.1))).get? l = some (listO xs e) := by
    refine (gones_ne fun m => ?_).trans (D.keep l _ hl (by rintro rfl; obtain ⟨ps, _, e', _⟩ := D.tab0; rw [hl] at e'; cases e'))
    obtain ⟨p, hp, e⟩ := List.mem_map.mp m
    exact clash hl (e ▸ (D1.nw p (List.mem_append.mpr (.inl hp))).2)
  exact numbers_loop (D1.frontFrag X K40) hdp hun hl' hZ hz D1.front fun out ev e1 e2 h' t' ho hv D' => hR out ev e1 e2 h' t' ho hv (D1.framed D')
  run_tac sqOut
end
end Mine
end
section
open PySem PySem.W PySem.W.X PyProof.Rows
set_option maxRecDepth 100000
set_option maxHeartbeats 40000000
set_option Elab.async false
set_option linter.unusedVariables false
namespace Mine
section
variable {w : World} {h h₀ : Heap} {vs : Array Value} {g : Array GenState} {d : Drawn} {t : Nat} {os : OsState} {dp un : Nat} {fr : List Env} {gd : List Code} {R : Result → Shared → Prop} {A : Around} {news rest : List (Addr × Obj)}
theorem sumI_loop (X : (K w.params).In h₀) (hdp : dp ≤ 700) (hun : un ≤ 7000) {l it st : Addr} {e : Nat} (post : List Value) : ∀ (zr : List Int) (h : Heap) (pre : List Value) (tot sg : Int) (tk : Tok) (es : Nat) (t : Nat), Ints post zr → h₀.get? l = some (listO (pre ++ post) e) → (pre ++ post).length ≤ 1000 → sg = 0 ∨ sg = 2 → Hp h₀ h vs [(st, listO [.int tot tk] es), (it, iterL l pre.length)] →
    (∀ x tx h' t', x = tot + zr.sum → Hp h₀ h' vs [] → R (.ok (.ret (.int x tx))) ⟨h', g, d, t', os⟩) → RunsB w (At dp un fr gd) "sum.loop" [.ref it, .ref st, .int sg 0, .int 0 0] R ⟨h, g, d, t, os⟩ := by
  run_tac sqIn
  induction post with
  | nil =>
    intro zr h pre tot sg tk es t hN hl hp hsg D hR
    obtain rfl : zr = [] := by cases hN; rfl
    rw [List.append_nil] at hl
    rcases hsg with rfl | rfl
    all_goals
      run_tac drive { lems := [`Mine.pylong, `Mine.get_mid, `Mine.get_end] }
      exact hR _ _ _ _ (by simp) (Hp.less (by assumption) (List.nil_sublist _))
  | cons v post ih =>
    intro zr h pre tot sg tk es t hN hl hp hsg D hR
    cases hN with
    | cons z tz hN =>
      rename_i zr
      have hl2 : h₀.get? l = some (listO ((pre ++ [Value.int z tz]) ++ post) e) := by rw [hl]; simp
      have hp2 : ((pre ++ [Value.int z tz]) ++ post).length ≤ 1000 := by simpa using hp
      have hpl : (pre.length : Int) + 1 = ((pre ++ [Value.int z tz]).length : Nat) := by simp
      have hp3 : pre.length ≤ 1000 := by rw [List.length_append] at hp; (run_tac om)
      rcases hsg with rfl | rfl
      all_goals
        run_tac drive { ids := ["sum.loop"], split := true, lems := [`Mine.pylong, `Mine.get_mid, `Mine.get_end] }

      all_goals
        rw [hpl] at DD
        clear hl hp hpl
        run_tac use `ih
        all_goals first | exact .inl rfl | exact .inr rfl | skip

        all_goals exact hR _ _ _ _ (by rename _ = _ + _ => q; rw [q, List.sum_cons]; (run_tac om)) (by assumption)
  run_tac sqOut
theorem sumI_list (X : (K w.params).In h₀) (D : Hp h₀ h vs news) (hdp : dp ≤ 650) (hun : un ≤ 6500) {l : Addr} {e : Nat} {items : List Value} {zs : List Int} (hl : h.get? l = some (listO items e)) (hN : Ints items zs) (hlen : items.length ≤ 1000) {x : Int} (hx : zs.sum = x)
    (hR : ∀ tx h' t', Hp h₀ h' vs news → R (.ok (.ret (.int x tx))) ⟨h', g, d, t', os⟩) : RunsB w (At dp un fr gd) "sum" [.ref l] R ⟨h, g, d, t, os⟩ := by
  run_tac sqIn
  have X' := D.inFrag X K40
  have D' := D.here
  run_tac drive { ids := ["sum.loop"] }
  have q := fun tz => sumI_loop (w := w) (R := R) (g := g) (d := d) (os := os) (dp := dp) (un := un) (fr := fr) (gd := gd) (vs := vs) X' (by (run_tac om)) (by (run_tac om)) items zs _ [] 0 0 _ _ tz hN hl (by rw [List.nil_append]; exact hlen) (.inl rfl) DD fun y tx h' t' e D2 => by
    have : y = x := by rw [e, hx]; simp
    rw [this]; exact hR tx h' t' (D.trans D2)
  run_tac use `q
  run_tac sqOut
end
end Mine
end
section
open PySem PySem.W PySem.W.X PyProof.Rows
set_option maxRecDepth 100000
set_option maxHeartbeats 40000000
set_option Elab.async false
set_option linter.unusedVariables false
namespace Mine
section
variable {w : World} {h h₀ : Heap} {vs : Array Value} {g : Array GenState} {d : Drawn} {t : Nat} {os : OsState} {dp un : Nat} {fr : List Env} {gd : List Code} {R : Result → Shared → Prop} {A : Around} {news rest : List (Addr × Obj)}
theorem list_cat (X : (K w.params).In h₀) (D : Hp h₀ h vs news) (hdp : dp ≤ 650) (hun : un ≤ 6500) {a b : Addr} {i1 i2 : List Value} {e1 e2 : Nat} (ha : h.get? a = some (listO i1 e1)) (hb : h.get? b = some (listO i2 e2)) (h1 : i1.length ≤ 1000) (h2 : i2.length ≤ 1000)
    (hR : ∀ r h' t', Hp h₀ h' vs ((r, listO (i1 ++ i2) 0) :: news) → R (.ok (.ret (.ref r))) ⟨h', g, d, t', os⟩) : RunsB w (At dp un fr gd) "list.__add__" [.ref a, .ref b] R ⟨h, g, d, t, os⟩ := by
  run_tac sqIn
  have X' := D.inFrag X K40
  have D' := D.here
  have hs : ¬ sizeLine < ((⟨i1⟩ : Array Value) ++ (⟨i2⟩ : Array Value)).size := by
    rw [Array.size_append]
    show ¬ sizeLine < i1.length + i2.length
    have : (2000 : Nat) ≤ sizeLine := by decide
    (run_tac om)
  run_tac drive {}
  exact hR _ _ _ (by have := D.trans DD; simpa using this)
  run_tac sqOut
end
end Mine
end
section
open PySem PySem.W PySem.W.X PyProof.Rows
set_option maxRecDepth 100000
set_option maxHeartbeats 40000000
set_option Elab.async false
set_option linter.unusedVariables false
namespace Mine
open Lean Meta Elab Tactic in
theorem grabEach : True := by
  run_tac (do
    let main ← getMainGoal
    let goal := (← getConstInfo ``LawGoal).value!
    let m ← mkFreshExprSyntheticOpaqueMVar goal
    let (_, g) ← m.mvarId!.introNP 25
    setGoals [g]
    drive { auto := [("compStart", `Mine.comp_startL)] }
    use `Mine.numbers_comp
    evalTactic (← `(tactic| (rename Ints _ (List.map _ _) => ho; have hol := ho.length; rw [List.length_map] at hol; have ho4 := (ho.take (Int.toNat 4)).length; rw [List.length_take, List.length_take, List.length_map] at ho4; have h4 : (Int.toNat 4) = 4 := rfl; rename _ ∨ _ => hv; obtain he | ⟨_, _, _, he⟩ := hv <;> subst he)))
    let (g :: _) ← getGoals | return
    setGoals [g]
    drive { auto := [("sum", `Mine.sumI_list), ("list.__getitem__", `Mine.list_upto), ("list.__add__", `Mine.list_cat)] }
    for g in ← getGoals do logInfo m!"{(toString (← g.withContext (ppExpr (← g.getType)))).take 100}"
    keepCode `Mine.eachC
    setGoals [main])
  trivial
end Mine
end
section
open PySem PySem.W PySem.W.X PyProof.Rows
set_option maxRecDepth 100000
set_option maxHeartbeats 40000000
set_option Elab.async false
set_option linter.unusedVariables false
namespace Mine
theorem numberOf_nat (y : Int) (h0 : 0 ≤ y) : ∃ m : Nat, numberOf y = ((m : Nat) : Int) ∧ m < 4194304 := by
  run_tac sqIn
  have : 0 ≤ numberOf y ∧ numberOf y < 4194304 := by
    unfold numberOf
    split
    · (run_tac om)
    · split
      · (run_tac om)
      · split
        · (run_tac om)
        · split <;> (run_tac om)
  exact ⟨(numberOf y).toNat, by (run_tac om), by (run_tac om)⟩
  run_tac sqOut
section
variable {w : World} {h h₀ : Heap} {vs : Array Value} {g : Array GenState} {d : Drawn} {t : Nat} {os : OsState} {dp un : Nat} {fr : List Env} {gd : List Code} {R : Result → Shared → Prop} {A : Around} {news rest : List (Addr × Obj)}
theorem number2 (X : (K w.params).In h₀) (D : Hp h₀ h vs news) (hdp : dp ≤ 600) (hun : un ≤ 5000)
    (y : Int) (tv : Tok) (h0 : 0 ≤ y) (hR : ∀ (m : Nat) n tk h' t', n = ((m : Nat) : Int) → m < 4194304 → Hp h₀ h' vs news → R (.ok (.ret (.int n tk))) ⟨h', g, d, t', os⟩) :
    Runs w dp un fr gd 73 [.int y tv] R ⟨h, g, d, t, os⟩ := number' X D hdp hun y tv h0 fun n tk h' t' e D' => by
  obtain ⟨m, hm, hl⟩ := numberOf_nat y h0
  exact hR m n tk h' t' (e.trans hm) hl D'
theorem right' (X : (K w.params).In h₀) (HS : HexAt w h₀) (D : Hp h₀ h vs news) {f2 : Addr} {d2 : Array DictEntry} {n2 i : Nat} {s2 : Array (Option Value)} {eL : Env} (F2 : FEnv eL f2) (hi : news[i]? = some (f2, frameX d2 n2 s2))
    (hdp : dp ≤ 340) (hun : un ≤ 2000) {n : Nat} {x y : Int} (tn ty : Tok) (hx : x = ((n : Nat) : Int)) (hn : n < 4194304) (hy : 0 ≤ y)
    (hR : ∀ vs' h' t' s2', Hp h₀ h' vs' (news.set i (f2, frameX d2 n2 s2')) → R (.ok (.ret (.bool true))) ⟨h', g, d, t', os⟩) :
    Runs w dp un [eL] gd 109 [.int x tn, .int y ty] R ⟨h, g, d, t, os⟩ := by
  run_tac sqIn
  subst hx
  have m1 := List.mem_of_getElem? hi
  exact right_ (gone_in (D.inFrag X K40) (D.notK X m1)) (HexAt.gone (D.set HS (by decide)) (D.not15 HS m1)) F2 (D.lift1 hi (fr_cls _ _ _)) hdp hun n y tn ty hn hy fun vs' h' t' s2' D' => hR vs' h' t' s2' (D.back1 hi D')
  run_tac sqOut
theorem each_loop (X : (K w.params).In h₀) (HS : HexAt w h₀) (hdp : dp ≤ 330) (hun : un ≤ 1900) {it r f : Addr} {items : List Value} {ys : List Int} {e n2 : Nat} {h1 h2 : Int} {k1 k2 : Nat} {v1 v2 : Value} {eL : Env} (F2 : FEnv eL f) (hI : Ints items ys) (hlen : items.length ≤ 10) (hpos : ys.all (fun y => decide (0 ≤ y)) = true) {s2 : Array (Option Value)}
    (D : Hp h₀ h vs [(it, iterL r 0), (r, listO items e), (f, frameX ⟨[ent h1 [115, 99, 114, 105, 112, 116] k1 v1, ent h2 [110, 117, 109, 98, 101, 114, 115] k2 v2]⟩ n2 s2)])
    (hR : ∀ vs' ev n2' s2' h' t', (ev = [] ∨ ∃ hs tk v, ev = [ent hs [121] tk v]) → Hp h₀ h' vs' [(f, frameX ⟨ent h1 [115, 99, 114, 105, 112, 116] k1 v1 :: ent h2 [110, 117, 109, 98, 101, 114, 115] k2 v2 :: ev⟩ n2' s2')] → R (.ok .next) ⟨h', g, d, t', os⟩) :
    wpOwn (model P w) (At dp un [eL] gd) (eachC it f) (denote table (eachC it f)) (postC P w (At dp un [eL] gd) R) (postE R) ⟨h, g, d, t, os⟩ := by
  run_tac sqIn
  refine loop_ind (fun m h' t' => ∃ (vs : Array Value) (pre post : List Value) (np nr : List Int) (ev : List DictEntry) (e1 : Nat) (s : Array (Option Value)), items = pre ++ post ∧ ys = np ++ nr ∧ Ints pre np ∧ Ints post nr ∧ m = post.length ∧
    Hp h₀ h' vs [(it, iterL r pre.length), (r, listO items e), (f, frameX ⟨ent h1 [115, 99, 114, 105, 112, 116] k1 v1 :: ent h2 [110, 117, 109, 98, 101, 114, 115] k2 v2 :: ev⟩ e1 s)] ∧ (ev = [] ∨ ∃ hs tk v, ev = [ent hs [121] tk v])) ?_ items.length ⟨_, [], items, [], ys, [], _, _, rfl, rfl, .nil, hI, rfl, D, .inl rfl⟩
  rintro m hh2 t2 ih ⟨vs, pre, post, np, nr, ev, e1, s, hd, hdb, hp, hr, rfl, D2, hev⟩
  rw [hd] at D2 hlen
  cases hr with
  | nil =>
    rw [List.append_nil] at D2 hlen
    rcases hev with rfl | ⟨hs, tk, v, rfl⟩
    all_goals
      run_tac drive { doubt := true, lems := [`Mine.pylong, `Mine.get_mid, `Mine.get_end] }
      exact hR _ _ _ _ _ _ (by first | exact .inl rfl | exact .inr ⟨_, _, _, rfl⟩) (Hp.less DD (.cons _ (.cons _ (.cons _ (.cons _ (.cons_cons _ .slnil))))))
  | cons y ty hr =>
    rename_i post nr
    have hy : 0 ≤ y := by
      have := List.all_eq_true.mp hpos y (by rw [hdb]; simp)
      simpa using this
    have hd' : items = (pre ++ [Value.int y ty]) ++ post := by rw [hd]; simp
    have hdb' : ys = (np ++ [y]) ++ nr := by rw [hdb]; simp
    rcases hev with rfl | ⟨hs, tk, v, rfl⟩
    all_goals
      run_tac drive { doubt := true, auto := [("73", `Mine.number2), ("109", `Mine.right')], lems := [`Mine.pylong, `Mine.get_mid, `Mine.get_end] }
      rename Hp _ _ _ _ => DD
      exact ih _ _ _ (by simp) ⟨_, _, _, _, _, _, _, _, hd', hdb', hp.append (.one y ty), hr, rfl, by rw [hd']; simpa using DD, .inr ⟨_, _, _, rfl⟩⟩
  run_tac sqOut
end
end Mine
end
section
open PySem PySem.W PySem.W.X PyProof.Rows
set_option maxRecDepth 100000
set_option maxHeartbeats 40000000
set_option Elab.async false
set_option linter.unusedVariables false
namespace Mine
section
variable {w : World} {h h₀ : Heap} {vs : Array Value} {g : Array GenState} {d : Drawn} {t : Nat} {os : OsState} {dp un : Nat} {fr : List Env} {gd : List Code} {R : Result → Shared → Prop} {A : Around} {news rest : List (Addr × Obj)}
theorem sum_pos : ∀ zs : List Int, 0 ≤ (zs.map doubled).sum
  | [] => Int.le_refl _
  | z :: zs => by
    rw [List.map_cons, List.sum_cons]
    have := sum_pos zs
    have := doubled_pos z
    (run_tac om)
theorem each_pos (zs : List Int) (k : Nat) : (((zs.map doubled).take k) ++ [(zs.map doubled).sum]).all (fun y => decide (0 ≤ y)) = true := by
  run_tac sqIn
  rw [List.all_eq_true]
  intro y hy
  rcases List.mem_append.mp hy with hy | hy
  · have := List.mem_of_mem_take hy
    obtain ⟨z, _, rfl⟩ := List.mem_map.mp this
    simpa using doubled_pos z
  · rw [List.mem_singleton.mp hy]
    simpa using sum_pos zs
  run_tac sqOut
/-- the loop, with more behind -/
theorem each_x (X : (K w.params).In h₀) (HS : HexAt w h₀) (hdp : dp ≤ 330) (hun : un ≤ 1900) {it r f a5 ru a3 ac : Addr} {o5 o3 : Obj} {out : List Value} {zs : List Int} {e er ea n2 : Nat} {h1 h2 : Int} {k1 k2 tx : Nat} {v1 : Value} {eL : Env} (F2 : FEnv eL f) (ho : Ints out (zs.map doubled))
    (D : Hp h₀ h vs [(it, iterL r 0), (r, listO (out.take (Int.toNat 4) ++ [.int (zs.map doubled).sum tx]) e), (a5, o5), (ru, listO (out.take (Int.toNat 4)) er), (a3, o3), (ac, listO out ea), (f, frameO [ent h1 [115, 99, 114, 105, 112, 116] k1 v1, ent h2 [110, 117, 109, 98, 101, 114, 115] k2 (.ref ac)] n2)])
    (hR : ∀ vs' ev n2' s2' h' t', (ev = [] ∨ ∃ hs tk v, ev = [ent hs [121] tk v]) → Hp h₀ h' vs' [(ac, listO out ea), (f, frameX ⟨ent h1 [115, 99, 114, 105, 112, 116] k1 v1 :: ent h2 [110, 117, 109, 98, 101, 114, 115] k2 (.ref ac) :: ev⟩ n2' s2')] → R (.ok .next) ⟨h', g, d, t', os⟩) :
    wpOwn (model P w) (At dp un [eL] gd) (eachC it f) (denote table (eachC it f)) (postC P w (At dp un [eL] gd) R) (postE R) ⟨h, g, d, t, os⟩ := by
  run_tac sqIn
  have Da : Hp h₀ h vs [(it, iterL r 0), (r, listO (out.take (Int.toNat 4) ++ [.int (zs.map doubled).sum tx]) e), (ac, listO out ea), (f, frameX ⟨[ent h1 [115, 99, 114, 105, 112, 116] k1 v1, ent h2 [110, 117, 109, 98, 101, 114, 115] k2 (.ref ac)]⟩ n2 ⟨[]⟩)] :=
    Hp.less D (.cons_cons _ (.cons_cons _ (.cons _ (.cons _ (.cons _ (.cons_cons _ (.cons_cons _ .slnil)))))))
  have Db : Hp h₀ h vs ([(it, iterL r 0), (r, listO (out.take (Int.toNat 4) ++ [.int (zs.map doubled).sum tx]) e), (f, frameX ⟨[ent h1 [115, 99, 114, 105, 112, 116] k1 v1, ent h2 [110, 117, 109, 98, 101, 114, 115] k2 (.ref ac)]⟩ n2 ⟨[]⟩)] ++ [(ac, listO out ea)]) := by
    refine ⟨Da.size, Da.tab0, Da.keep, Da.tab, fun p hp => Da.nw p (by simp at hp ⊢; rcases hp with h | h | h | h <;> simp [h]), ?_, Da.code.imp id fun ⟨c, e, hc, hn, hz⟩ => ⟨c, e, hc, fun p hp => hn p (by simp at hp ⊢; rcases hp with h | h | h | h <;> simp [h]), hz⟩⟩
    have := Da.ord
    simp only [List.map_cons, List.map_nil, List.pairwise_cons, List.mem_cons, List.not_mem_nil, List.cons_append, List.nil_append] at this ⊢
    grind
  have hI := (ho.take (Int.toNat 4)).append (.one (zs.map doubled).sum tx)
  have hlen : (out.take (Int.toNat 4) ++ [Value.int (zs.map doubled).sum tx]).length ≤ 10 := by rw [List.length_append, List.length_take]; simp; (run_tac om)
  refine each_loop (Db.frontFrag X K40) ?_ hdp hun F2 hI hlen (each_pos zs 4) Db.front fun vs' ev n2' s2' h' t' hv D' => hR vs' ev n2' s2' h' t' hv ?_
  · obtain ⟨es, ep, tt, h15, rr⟩ := HS
    refine ⟨es, ep, tt, (gones_ne fun m => ?_).trans (D.keep _ _ h15 (by decide)), rr⟩
    obtain ⟨p, hp, e⟩ := List.mem_map.mp m
    exact clash h15 (e ▸ (Db.nw p (List.mem_append.mpr (.inl hp))).2)
  · have Z := Db.framed D'
    refine ⟨Z.size, Z.tab0, Z.keep, Z.tab, fun p hp => Z.nw p (by simp at hp ⊢; rcases hp with h | h <;> simp [h]), ?_, Z.code.imp id fun ⟨c, e, hc, hn, hz⟩ => ⟨c, e, hc, fun p hp => hn p (by simp at hp ⊢; rcases hp with h | h <;> simp [h]), hz⟩⟩
    have := Z.ord
    simp only [List.map_cons, List.map_nil, List.pairwise_cons, List.mem_cons, List.not_mem_nil, List.cons_append, List.nil_append] at this ⊢
    grind
  run_tac sqOut
end
end Mine
end
section
open PySem PySem.W PySem.W.X PyProof.Rows
set_option maxRecDepth 100000
set_option maxHeartbeats 40000000
set_option Elab.async false
set_option linter.unusedVariables false
namespace Mine
section
variable {w : World} {h h₀ : Heap} {vs : Array Value} {g : Array GenState} {d : Drawn} {t : Nat} {os : OsState} {dp un : Nat} {fr : List Env} {gd : List Code} {R : Result → Shared → Prop} {A : Around} {news rest : List (Addr × Obj)}
theorem law_ (X : (K w.params).In h₀) (HS : HexAt w h₀) (D : Hp h₀ h vs []) (hdp : dp ≤ 320) (hun : un ≤ 1800) {l : Addr} {xs : List Value} {zs : List Int} {e : Nat} (hl : h₀.get? l = some (listO xs e)) (hlen : xs.length ≤ 63) (hZ : Ints xs zs)
    (hR : ∀ vs' h' t', Hp h₀ h' vs' [] → R (.ok (.ret (.bool true))) ⟨h', g, d, t', os⟩) : Runs w dp un [] gd 114 [.ref l] R ⟨h, g, d, t, os⟩ := by
  run_tac sqIn
  have hzl := hZ.length
  run_tac drive { doubt := true, auto := [("compStart", `Mine.comp_startL)] }
  run_tac use `Mine.numbers_comp
  rename Ints out (List.map doubled zs) => ho
  have hol := ho.length
  rw [List.length_map] at hol
  have ho4 := (ho.take (Int.toNat 4)).length
  rw [List.length_take, List.length_take, List.length_map] at ho4
  have h4 : (Int.toNat 4) = 4 := rfl
  have hx1 : (56069 : Int) = ((56069 : Nat) : Int) := rfl
  have hx2 : (1115136 : Int) = ((1115136 : Nat) : Int) := rfl
  rename _ ∨ _ => hv
  obtain he | ⟨_, _, _, he⟩ := hv <;> subst he
  all_goals
    run_tac drive { doubt := true, ids := ["list.__getitem__"] }
  run_tac joinQ false [1]
  run_tac use `Mine.list_upto
  run_tac drive { doubt := true, auto := [("sum", `Mine.sumI_list), ("list.__add__", `Mine.list_cat)] }
  run_tac use `Mine.each_x
  rename _ ∨ _ => hw
  obtain he | ⟨_, _, _, he⟩ := hw <;> subst he
  all_goals
    run_tac drive { doubt := true, auto := [("109", `Mine.right')] }
    exact hR _ _ _ (Hp.less DD (List.nil_sublist _))
  run_tac sqOut
end
end Mine
end
section
open PySem PySem.W PySem.W.X PyProof.Rows
set_option maxRecDepth 100000
set_option maxHeartbeats 40000000
set_option Elab.async false
set_option linter.unusedVariables false
namespace Mine
theorem ints_are {vs : List Value} {zs : List Int} (h : IntsAre vs zs) : Ints vs zs := by
  run_tac sqIn
  induction h with
  | nil => exact .nil
  | cons n t _ ih => exact .cons n t ih
  run_tac sqOut
theorem hexSet_eq : upTo 22 = hexSet := by
  run_tac sqIn
  have e : texts.take 22 = hexTexts := by decide
  funext k
  unfold upTo hexSet
  rw [e]
  run_tac sqOut
theorem code44 (Q : Params) : (K Q).lookup 44 = some (ob44 Q) := by kernel_rfl
theorem table40 {Q : Params} {h : Heap} (X : (K Q).In h) : isCodeTable h 40 := ⟨44, ob44 Q, _, X _ _ (code44 Q), rfl, rfl, rfl⟩
theorem Hp.oldK {Q : Params} {h₀ h : Heap} {vs : Array Value} {news : List (Addr × Obj)} (X : (K Q).In h₀) (D : Hp h₀ h vs news) : OldK h₀ h := by
  run_tac sqIn
  obtain ⟨ps, more, e, r⟩ := D.tab0
  refine ⟨fun b o q => ?_, fun b o q => ?_⟩
  · by_cases hb : b = 40
    · subst hb
      obtain rfl : o = tableObj ps := Option.some.inj (q.symm.trans e)
      exact .inr (.inl ⟨table40 X, rfl, ps, more, rfl, by rw [D.tab, r]; rfl⟩)
    · exact .inl (D.keep b o q hb)
  · by_cases hb : b = 40
    · subst hb; exact ⟨_, D.tab⟩
    · exact ⟨_, D.keep b o q hb⟩
  run_tac sqOut
theorem law_call {w : World} {s : Shared} (y : Known w s.heap) {l : Addr} {xs : List Value} {zs : List Int} {e : Nat} (hl : s.heap.get? l = some (listO xs e)) (hlen : xs.length ≤ 63) (hZ : Ints xs zs) {R : Result → Shared → Prop}
    (hR : ∀ h' t', OldK s.heap h' → R (.ok (.ret (.bool true))) ⟨h', s.gens, s.drawn, t', s.os⟩) : codeAny (model P w) callerA (.call (.ref 114) ⟨[.ref l], []⟩) R s := by
  run_tac sqIn
  obtain ⟨X, HS, T⟩ := y
  rw [hexSet_eq] at HS
  obtain ⟨h, g, d, t, os⟩ := s
  have q := law_ (w := w) (h := h) (h₀ := h) (vs := ⟨[]⟩) (g := g) (d := d) (t := t) (os := os) (dp := 301) (un := 4) (gd := []) (R := R) X HS (Hp.first T) (by decide) (by decide) hl hlen hZ fun vs' h' t' D => hR h' t' (D.oldK X)
  unfold Runs at q
  exact y_code P w callerA R _ _ q
  run_tac sqOut
end Mine
end
open PySem PySem.W PySem.W.X PyProof.Rows
set_option maxRecDepth 100000
set_option maxHeartbeats 40000000
set_option Elab.async false
set_option linter.unusedVariables false
theorem PySem.Challenge.cw_pd0092_01_holds : PySem.Challenge.rw_pd0092_01.Holds := by
  run_tac Mine.sqIn
  w_on
  o_law
  have hp : PySem.Challenge.rw_pd0092_01.row.toRowW.promised := ⟨[.list []], by decide +kernel, by decide +kernel⟩
  have e1 : PySem.Challenge.rw_pd0092_01.row.writes = false := by with_unfolding_all rfl
  have e2 : (fun vs => ⟨(callStub (OpenLaw.row PySem.Challenge.rw_pd0092_01).toRowW.name vs).cur, .builtin "claim.caller" {}, default, []⟩) = callStub PySem.Challenge.rw_pd0092_01.row.name := rfl
  refine ⟨by assumption, hp, ?_⟩
  rw [e1, ← e2]
  refine Mine.open_by (r := (OpenLaw.row PySem.Challenge.rw_pd0092_01).toRowW) (run := fun f vs => PySem.call f vs) (tree := fun vs => (callStub (OpenLaw.row PySem.Challenge.rw_pd0092_01).toRowW.name vs).cur) (fun w => Mine.beh w) XL.keeps Mine.Known.keeps rfl (by decide +kernel) ⟨rfl, rfl, rfl, rfl, rfl, by decide +kernel⟩ hp ?_ ?_ ?_
  · exact fun vs w s mg f Q E hg hf h => wpAny_bind (wpAny_nsGet hg (by rw [hf]; exact wpAny_bind (wpAny_mono h (fun _ _ x => wpAny_pure x) fun _ _ x => x)))
  · intro w s hg G n hn
    have hn' : n = PySem.Challenge.rw_pd0092_01.row.name := by
      rw [if_pos (by with_unfolding_all rfl)] at hn
      exact List.mem_singleton.mp hn
    subst hn'
    exact pinned_of_view hg G (by rfl) (by rfl) (by rfl)
  · intro w s₀ s₁ mg mb G y args vals as hpre hlay L low
    have hrd := L.reads
    have hwl := L.well
    have hlo := L.low low
    refine ⟨.ref 114, ?_, ?_⟩
    · exact mg_of y.1 G.T.g (by kernel_rfl)
    clear low hp e1 e2
    wrow_args hpre hlay hrd hwl hlo
    rename_i ns _ _ _ _ _ _ _ a its _ hL _ _ _ hI _ hlen _
    have ho := script_obj L hL
    have hz := Mine.ints_are hI
    refine enter_call (Mine.law_call y ho (by have := hz.length; omega) hz fun h' t' Kp => ?_)
    refine ⟨.inl ⟨_, _, [], rfl, fun _ => rfl, ReadsW.bool true, ?_, fun _ => ⟨List.nodup_nil, fun _ hm => (nomatch hm)⟩⟩, Kp, rfl, ?_⟩
    · skip
      first | rfl | wrow_post
    · exact .of_eq L.gens
  run_tac Mine.sqOut
