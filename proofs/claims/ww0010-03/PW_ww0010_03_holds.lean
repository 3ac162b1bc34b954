import PyProof.Rows.All
import Wide.All
import OpenK.AllK
import Wide.FinOn
import Lean
import PySem.Challenge.RW_ww0010_03
set_option Elab.async false
section
open PySem PySem.W PyProof.Rows
set_option Elab.async false
set_option maxRecDepth 100000
namespace J5
abbrev pw : Program := PySem.Challenge.pw_ww0010_03
/- the library's quick twins, by name -/
noncomputable abbrev tbQ : String → Option Builtin := PySem.W.Fast.tw14364793385576792824
theorem tbQ_eq : treeTable = tbQ := PySem.W.Fast.te14364793385576792824
noncomputable abbrev denQ := PySem.W.Fast.tw11892475500146522536
theorem denQ_eq : @denote = denQ := PySem.W.Fast.te11892475500146522536
noncomputable abbrev stepTQ := PySem.W.Fast.tw10156331382660048174
theorem stepTQ_eq : @stepT = stepTQ := PySem.W.Fast.te10156331382660048174
noncomputable abbrev segRunTQ := PySem.W.Fast.tw10110043849684766642
theorem segRunTQ_eq : @segRunT = segRunTQ := PySem.W.Fast.te10110043849684766642
noncomputable abbrev segGoTQ := PySem.W.Fast.tw10295753902157049106
theorem segGoTQ_eq : @segGoT = segGoTQ := PySem.W.Fast.te10295753902157049106
noncomputable abbrev topGoQ := PySem.W.Fast.tw15667345088766844465
theorem topGoQ_eq : @topGo = topGoQ := PySem.W.Fast.te15667345088766844465
/- the opening's run, over the tree of objects -/
noncomputable def impEndsQ (p : Program) (w : World) : Nat → SharedT → Thread → Option SharedT
  | 0, _, _ => none
  | n + 1, s, t => match t.atExitBegin with
    | some [] => some s
    | some (_ :: _) => none
    | none => match stepTQ (denQ tbQ) p w s t with
      | some (s', t') => impEndsQ p w n s' t'
      | none => none
theorem impEnds_of {p : Program} {w : World} : ∀ {n : Nat} {s s' : SharedT} {t : Thread}, impEndsQ p w n s t = some s' → importEnds treeTable p w n s.abs t = some s'.abs
  | 0, _, _, _, h => by cases h
  | n + 1, s, s', t, h => by
    unfold impEndsQ at h
    unfold importEnds
    cases he : t.atExitBegin with
    | some l => rw [he] at h; cases l with
      | nil => cases h; rfl
      | cons => cases h
    | none =>
      rw [he] at h
      cases hs : stepTQ (denQ tbQ) p w s t with
      | none => rw [hs] at h; cases h
      | some r =>
        obtain ⟨s₂, t₂⟩ := r
        rw [hs] at h
        rw [← stepTQ_eq, ← denQ_eq, ← tbQ_eq] at hs
        dsimp only
        rw [stepT_spec hs]; exact impEnds_of h
def lvl : Life := {}
/-- the start, over an empty tree -/
def sZ : SharedT := ⟨.nil, 0, {}, #[], {}, (start (opening pw)).1.toks, (start (opening pw)).1.os⟩
theorem sZ_abs : sZ.abs = (start (opening pw)).1 := by kernel_rfl
@[irreducible] noncomputable def rI (w : World) : Option SharedT := impEndsQ (opening pw) w 10000 sZ (start (opening pw)).2
/-- what the fence makes of the opening's end -/
@[irreducible] noncomputable def r0 (w : World) : Option Shared := (rI w).bind fun s => fenceModules? pw s.abs
@[irreducible] noncomputable def h0 (w : World) : Heap := ((r0 w).map (·.heap)).getD {}
@[irreducible] noncomputable def t0 (w : World) : BT := (h0 w).objs.toList.foldl (fun (a : BT × Nat) o => (a.1.ins a.2 o, a.2 + 1)) (BT.nil, 0) |>.1
theorem r0_parts : ∀ w, (r0 w).map (fun s => (s.heap, s.gens, s.drawn, s.toks)) = some (absHeap (t0 w) 58 {}, #[], {}, 492) := by intro w; kernel_rfl
theorem open_is (N : Nat) (hN : N = 10000) : ∀ w, (fencedOpening treeTable pw w N).map (fun s => (s.heap, s.gens, s.drawn, s.toks)) = some (absHeap (t0 w) 58 {}, #[], {}, 492) := by
  intro w
  subst hN
  have h := r0_parts w
  unfold r0 at h
  cases hr : rI w with
  | none => rw [hr] at h; cases h
  | some s =>
    rw [hr] at h
    have hr' := hr
    unfold rI at hr'
    have e := impEnds_of (p := opening pw) (w := w) (n := 10000) (s := sZ) hr'
    rw [sZ_abs] at e
    unfold fencedOpening
    rw [e]
    exact h
/- the top's first steps, over the tree -/
noncomputable abbrev stepOkQ := PySem.W.Fast.tw6613529449190102663
theorem stepOkQ_eq : @stepOk = stepOkQ := PySem.W.Fast.te6613529449190102663
noncomputable def topGoT (p : Program) (w : World) (n₀ : Nat) (ann : Option Value) : Nat → SharedT → Thread → Option (SharedT × Thread)
  | 0, s, t => some (s, t)
  | n + 1, s, t => match through t with
    | true => none
    | false => match stepOkQ n₀ ann t with
      | false => none
      | true => match stepTQ (denQ tbQ) p w s t with
        | some (s', t') => topGoT p w n₀ ann n s' t'
        | none => none
theorem topGoT_of {p : Program} {w : World} {n₀ : Nat} {ann : Option Value} : ∀ {n : Nat} {s s' : SharedT} {t t' : Thread}, topGoT p w n₀ ann n s t = some (s', t') → topGo treeTable p w n₀ ann n s.abs t = some (s'.abs, t')
  | 0, _, _, _, _, h => by cases h; rfl
  | n + 1, s, s', t, t', h => by
    unfold topGoT at h
    unfold topGo
    cases he : through t with
    | true => rw [he] at h; cases h
    | false =>
      rw [he] at h
      cases hk : stepOkQ n₀ ann t with
      | false => rw [hk] at h; cases h
      | true =>
        rw [hk] at h
        rw [← stepOkQ_eq] at hk
        rw [hk]
        cases hs : stepTQ (denQ tbQ) p w s t with
        | none => rw [hs] at h; cases h
        | some r =>
          obtain ⟨s₂, t₂⟩ := r
          rw [hs] at h
          rw [← stepTQ_eq, ← denQ_eq, ← tbQ_eq] at hs
          dsimp only
          rw [stepT_spec hs]; exact topGoT_of h
def annE : Option Value := some (.ref 6)
def bE : List Stmt := behindTheImports pw
def envE : Env := { scope := pw.main.scope, locals := mainNs, globals := mainNs, cells := [], code := .ref 60, frame := some 61 }
def cE : Code := .body bE envE
def q0 : Pos := ⟨0, 0, 0, 0⟩
noncomputable def s0T (w : World) (os : OsState) : SharedT := ⟨t0 w, 58, {}, #[], {}, 492, os⟩
def dS : SharedT := ⟨.nil, 0, {}, #[], {}, 0, {}⟩
@[irreducible] noncomputable def sA (w : World) (os : OsState) : SharedT := ((topGoT pw w 58 annE 12 (s0T w os) (topStub pw)).map (·.1)).getD dS
theorem pre_is : ∀ w os, topGoT pw w 58 annE 12 (s0T w os) (topStub pw) = some (sA w os, ⟨denQ tbQ cE, cE, q0, [topFrame q0]⟩) := by intro w os; kernel_rfl
@[irreducible] noncomputable def sB (w : World) (os : OsState) : SharedT := ((segRunTQ tbQ pw w 58 annE 1 1 (sA w os) (blockOf bE envE cE q0 [topFrame q0])).map (·.2.1)).getD dS
theorem block_is : ∀ w os, segRunTQ tbQ pw w 58 annE 1 1 (sA w os) (blockOf bE envE cE q0 [topFrame q0]) = some (.next, sB w os, cE, q0) := by intro w os; kernel_rfl
def st0 : List Stmt := bE.take 1
def st1 : List Stmt := (bE.drop 1).take 1
def stR : List Stmt := bE.drop 2
theorem bE_is : bE = st0 ++ (st1 ++ (stR ++ [])) := by kernel_rfl
def p0 : Pos := ⟨4, 0, 6, 12⟩
def p1 : Pos := ⟨7, 0, 7, 17⟩
@[irreducible] noncomputable def sC (w : World) (os : OsState) : SharedT := ((segRunTQ tbQ pw w 58 annE 1 30 (sB w os) (piecesOf st0 envE cE q0 [topFrame q0])).map (·.2.1)).getD dS
theorem st0_is : ∀ w os, segRunTQ tbQ pw w 58 annE 1 30 (sB w os) (piecesOf st0 envE cE q0 [topFrame q0]) = some (.next, sC w os, cE, p0) := by intro w os; kernel_rfl
end J5
end
section
open PySem PySem.W PyProof.Rows J5
set_option Elab.async false
set_option maxRecDepth 100000
namespace J5
/-- a display of whole numbers, its tokens drawn one by one -/
def intsTree {α : Type} : List Expr → (List Value → Sem α) → Sem α
  | .Constant (.int i) _ _ :: r, k => .fresh fun t => intsTree r fun vs => k (.int i t :: vs)
  | [], k => k []
  | _ :: _, _ => .unsupported "no int"
def allInts : List Expr → Bool
  | .Constant (.int _) _ _ :: r => allInts r
  | [] => true
  | _ :: _ => false
theorem intsTree_bind {α β : Type} : ∀ (l : List Expr), allInts l = true → ∀ (k : List Value → Sem α) (f : α → Sem β), (intsTree l k).bind f = intsTree l fun vs => (k vs).bind f
  | [], _, k, f => by simp only [intsTree]
  | .Constant (.int i) a b :: r, h, k, f => by
    simp only [intsTree, Sem.bind]
    congr 1
    funext t
    exact intsTree_bind r h _ f
  | .Constant .none _ _ :: _, h, _, _ | .Constant (.bool _) _ _ :: _, h, _, _ | .Constant (.float _) _ _ :: _, h, _, _ | .Constant (.str _) _ _ :: _, h, _, _ | .Constant (.bytes _) _ _ :: _, h, _, _ | .Constant .ellipsis _ _ :: _, h, _, _ | .Constant (.complex _ _) _ _ :: _, h, _, _ => by cases h
theorem spliced_ints (lp : Pos) (env : Env) : ∀ (l : List Expr), allInts l = true → spliced (backTo lp (starEach l env)) = intsTree l fun vs => .pure vs
  | [], _ => rfl
  | .Constant (.int i) a b :: r, h => by
    have ih := spliced_ints lp env r h
    show (Sem.fresh fun t => _) = _
    simp only [intsTree]
    congr 1
    funext t
    have hh : ∀ (m : Sem (List Value)), holding [Value.int i t] m = m := fun m => rfl
    show Sem.bind (holding [Value.int i t] (spliced (backTo lp (starEach r env)))) (fun x => Sem.pure ([Value.int i t] ++ x)) = _
    rw [hh, ih, intsTree_bind r h]
    rfl
noncomputable abbrev mcQ := PySem.W.Fast.tw13401596951702201221
theorem mcQ_eq : @methodCall = mcQ := PySem.W.Fast.te13401596951702201221
noncomputable abbrev abQ := PySem.W.Fast.tw15487144857313948548
theorem abQ_eq : @attributeBase = abQ := PySem.W.Fast.te15487144857313948548
noncomputable abbrev evQ := PySem.W.Fast.tw14044960220447912780
theorem evQ_eq : @eval = evQ := PySem.W.Fast.te14044960220447912780
noncomputable abbrev exsQ := PySem.W.Fast.tw12563942051412417395
theorem exsQ_eq : @execs = exsQ := PySem.W.Fast.te12563942051412417395
noncomputable abbrev asQ := PySem.W.Fast.tw2470068587113613483
theorem asQ_eq : @assignStores = asQ := PySem.W.Fast.te2470068587113613483
noncomputable abbrev ssQ := PySem.W.Fast.tw4016559146275205325
theorem ssQ_eq : @swappedStores = ssQ := PySem.W.Fast.te4016559146275205325
noncomputable abbrev aeQ := PySem.W.Fast.tw15628205474173192105
theorem aeQ_eq : @assignEach = aeQ := PySem.W.Fast.te15628205474173192105
noncomputable abbrev btQ := PySem.W.Fast.tw4897270859577272712
theorem btQ_eq : @backTo = btQ := PySem.W.Fast.te4897270859577272712
noncomputable abbrev btkQ := PySem.W.Fast.tw621762911399731506
theorem btkQ_eq : @backToKw = btkQ := PySem.W.Fast.te621762911399731506
noncomputable abbrev nlQ := PySem.W.Fast.tw2244487426110161322
theorem nlQ_eq : @newList = nlQ := PySem.W.Fast.te2244487426110161322
/-- a name bound to a method's call, the arguments' trees set apart -/
def exCall (n : Str) (np : Pos) (o : Expr) (m : Str) (ap cp p : Pos) (as : List (Bool × Sem Value)) (env : Env) (k : Nat) (v : Expr) : Sem Flow := do
  standAt p
  let x ← (do let ov ← attributeBase o m env (eval o env); standAt ap.atName; methodCall o m ap cp env ov k (backTo cp as) (backToKw cp []))
  assignStores env x (← swappedStores [.Name n np] v env) ((assignEach [.Name n np] env).map (·.2))
theorem exCall_is (n : Str) (np : Pos) (o : Expr) (m : Str) (ap cp p : Pos) (args : List Expr) (env : Env) :
    exec (.Assign [.Name n np] (.Call (.Attribute o m ap) args [] cp) p) env = exCall n np o m ap cp p (starEach args env) env (args.length + 0) (.Call (.Attribute o m ap) args [] cp) := by rfl
theorem eval_list (elts : List Expr) (lp : Pos) (env : Env) (h : allInts elts = true) : eval (.List elts lp) env = (do standAt lp; intsTree elts newList) := by
  show (do standAt lp; newList (← spliced (backTo lp (starEach elts env)))) = _
  rw [spliced_ints lp env elts h]
  congr 1
  funext _
  show (intsTree elts fun vs => .pure vs).bind newList = _
  rw [intsTree_bind elts h]
  rfl
noncomputable def exCallQ (n : Str) (np : Pos) (o : Expr) (m : Str) (ap cp p : Pos) (as : List (Bool × Sem Value)) (env : Env) (k : Nat) (v : Expr) : Sem Flow := do
  standAt p
  let x ← (do let ov ← abQ o m env (evQ o env); standAt ap.atName; mcQ o m ap cp env ov k (btQ cp as) (btkQ cp []))
  asQ env x (← ssQ [.Name n np] v env) ((aeQ [.Name n np] env).map (·.2))
theorem exCallQ_is : @exCall = exCallQ := by
  funext n np o m ap cp p as env k v
  unfold exCall exCallQ
  rw [abQ_eq, evQ_eq, mcQ_eq, btQ_eq, btkQ_eq, asQ_eq, ssQ_eq, aeQ_eq]
/- the one statement -/
def aArgs : Stmt → List Expr
  | .Assign _ (.Call _ as _ _) _ => as
  | _ => []
def aVal : Stmt → Expr
  | .Assign _ v _ => v
  | _ => .Constant .none 0 q0
def aPos : Stmt → Pos
  | .Assign _ _ p => p
  | _ => q0
def aName : Stmt → Str × Pos
  | .Assign [.Name n p] _ _ => (n, p)
  | _ => ("", q0)
def aFun : Stmt → Expr × Str × Pos
  | .Assign _ (.Call (.Attribute o m p) _ _ _) _ => (o, m, p)
  | _ => (.Constant .none 0 q0, "", q0)
def aCp : Stmt → Pos
  | .Assign _ (.Call _ _ _ p) _ => p
  | _ => q0
def lElts : Expr → List Expr
  | .List es _ => es
  | _ => []
def lPos : Expr → Pos
  | .List _ p => p
  | _ => q0
def sS : Stmt := (st1.head?).getD (.Pass q0)
def sE (i : Nat) : Expr := (aArgs sS)[i]?.getD (.Constant .none 0 q0)
theorem st1_forms : st1 = [.Assign [.Name (aName sS).1 (aName sS).2] (.Call (.Attribute (aFun sS).1 (aFun sS).2.1 (aFun sS).2.2) [sE 0, sE 1, .List (lElts (sE 2)) (lPos (sE 2)), sE 3, sE 4, sE 5] [] (aCp sS)) (aPos sS)] := by kernel_rfl
theorem ints_are : allInts (lElts (sE 2)) = true := by kernel_rfl
theorem star6 : starEach [sE 0, sE 1, .List (lElts (sE 2)) (lPos (sE 2)), sE 3, sE 4, sE 5] envE = [(false, eval (sE 0) envE), (false, eval (sE 1) envE), (false, eval (.List (lElts (sE 2)) (lPos (sE 2))) envE), (false, eval (sE 3) envE), (false, eval (sE 4) envE), (false, eval (sE 5) envE)] := by kernel_rfl
noncomputable def tS : Sem Flow := exCallQ (aName sS).1 (aName sS).2 (aFun sS).1 (aFun sS).2.1 (aFun sS).2.2 (aCp sS) (aPos sS)
  [(false, evQ (sE 0) envE), (false, evQ (sE 1) envE), (false, do standAt (lPos (sE 2)); intsTree (lElts (sE 2)) nlQ), (false, evQ (sE 3) envE), (false, evQ (sE 4) envE), (false, evQ (sE 5) envE)] envE 6 (aVal sS)
theorem st1_tree : execs st1 envE = (do match ← tS with | .next => pure .next | f => pure f) := by
  rw [st1_forms]
  show (do match ← exec _ envE with | .next => execs [] envE | f => pure f) = _
  rw [exCall_is, star6, eval_list _ _ _ ints_are, exCallQ_is, evQ_eq, nlQ_eq]
  rfl
noncomputable def thS : Thread := ⟨((do match ← tS with | .next => pure .next | f => pure f) : Sem Flow).wrap doneF deadEnd id id, cE, p0, [topFrame q0]⟩
theorem thS_is : piecesOf st1 envE cE p0 [topFrame q0] = thS := by
  unfold piecesOf thS
  rw [st1_tree]
def wOf : Expr → Nat
  | .Constant (.int i) _ _ => i.toNat
  | _ => 0
/-- the code's words -/
def Ws : Array Nat := ((lElts (sE 2)).map wOf).toArray
noncomputable abbrev wfT := PySem.W.Fast.tw3018943357349503271
theorem wfT_eq : @Sre.wellFormed = wfT := PySem.W.Fast.te3018943357349503271
theorem Ws_well : wfT Ws 1 = true := by kernel_rfl
@[irreducible] def wfOld : Array Nat → Nat → Bool := Sre.wellFormed
def lBeq : List Nat → List Nat → Bool
  | [], [] => true
  | a :: r, b :: s => match Nat.beq a b with | true => lBeq r s | false => false
  | _, _ => false
theorem lBeq_eq : ∀ {a b : List Nat}, lBeq a b = true → a = b
  | [], [], _ => rfl
  | [], _ :: _, h => by cases h
  | _ :: _, [], h => by cases h
  | a :: r, b :: s, h => by
    unfold lBeq at h
    cases e : Nat.beq a b with
    | false => rw [e] at h; cases h
    | true => rw [e] at h; rw [Nat.eq_of_beq_eq_true e, lBeq_eq h]
def wfNew (ws : Array Nat) (n : Nat) : Bool := match lBeq ws.toList Ws.toList, Nat.beq n 1 with
  | true, true => true
  | _, _ => wfOld ws n
theorem wf_eq : @Sre.wellFormed = wfNew := by
  funext ws n
  unfold wfNew
  cases e : lBeq ws.toList Ws.toList with
  | false => unfold wfOld; rfl
  | true =>
    cases e2 : Nat.beq n 1 with
    | false => unfold wfOld; rfl
    | true =>
      have h1 : ws = Ws := Array.ext' (lBeq_eq e)
      have h2 : n = 1 := Nat.eq_of_beq_eq_true e2
      rw [h1, h2, wfT_eq]
      exact Ws_well
def cmpS : { f : Builtin // Builtin.«_sre.compile» = f } := ⟨_, by unfold Builtin.«_sre.compile»; rw [wf_eq]⟩
def goodInts : List Value → Bool
  | [] => true
  | .int i _ :: r => match decide (0 ≤ i), decide (i < 2 ^ 32) with
    | true, true => goodInts r
    | _, _ => false
  | _ :: _ => false
def natsOf : List Value → List Nat
  | .int i _ :: r => i.toNat :: natsOf r
  | _ :: r => natsOf r
  | [] => []
def loopF (body : Value → Array Nat → Sem (ForInStep (Array Nat))) (ws : Array Nat) (xs : Array Value) : Sem (Array Nat) := match goodInts xs.toList, ws.toList with
  | true, [] => .pure (natsOf xs.toList).toArray
  | _, _ => forIn xs.toList ws body
theorem forIn_ints {body : Value → Array Nat → Sem (ForInStep (Array Nat))} (hb : ∀ i t ws, 0 ≤ i → i < 2 ^ 32 → body (.int i t) ws = pure (.yield (ws.push i.toNat))) (xs : Array Value) (ws : Array Nat) : forIn xs ws body = loopF body ws xs := by
  have key : ∀ (l : List Value) (ws : Array Nat), goodInts l = true → forIn l ws body = (.pure (ws ++ (natsOf l).toArray) : Sem _) := by
    intro l
    induction l with
    | nil => intro ws _; simp [natsOf]; rfl
    | cons v r ih =>
      intro ws h
      cases v with
      | int i t =>
        unfold goodInts at h
        cases h1 : decide (0 ≤ i) with
        | false => rw [h1] at h; cases h
        | true =>
          cases h2 : decide (i < 2 ^ 32) with
          | false => rw [h1, h2] at h; cases h
          | true =>
            rw [h1, h2] at h
            rw [List.forIn_cons, hb i t ws (of_decide_eq_true h1) (of_decide_eq_true h2)]
            show forIn r (ws.push i.toNat) body = _
            rw [ih _ h]
            simp [natsOf]
      | _ => cases h
  unfold loopF
  cases e : goodInts xs.toList with
  | true =>
    cases w : ws.toList with
    | nil =>
      have : ws = #[] := Array.ext' w
      subst this
      rw [← Array.forIn_toList, key _ _ e]
      simp
    | cons => rw [← Array.forIn_toList]
  | false => rw [← Array.forIn_toList]
def EqW (a b : Builtin) : Prop := a = b
theorem EqW.r (a : Builtin) : EqW a a := rfl
set_option maxHeartbeats 1000000 in
def cmpT : { f : Builtin // EqW cmpS.1 f } := ⟨_, by
  unfold cmpS
  simp -zeta (disch := (
    intro (i : Int) (t : Nat) (ws : Array Nat) (h1 : 0 ≤ i) (h2 : i < 2 ^ 32)
    have n1 : ¬ (i < 0) := Int.not_lt.mpr h1
    have n2 : ¬ (i ≥ 2 ^ 32) := by omega
    have n3 : ¬ (i ≥ 2 ^ 64) := by omega
    dsimp only
    refine Eq.trans (b := if i < 0 then _ else if i ≥ 2 ^ 64 then _ else if i ≥ 2 ^ 32 then _ else _) rfl ?_
    rw [if_neg n1, if_neg n3, if_neg n2]
    first | done | rfl)) only [forIn_ints]
  exact EqW.r _⟩
theorem entry_cmp : entryFor treeTable "_sre.compile" = some Builtin.«_sre.compile» := by kernel_rfl
theorem den_cmp (A : Args) : denQ tbQ (.builtin "_sre.compile" A) = cmpT.1 A := by
  rw [← denQ_eq, ← tbQ_eq]
  have e : denote treeTable (.builtin "_sre.compile" A) = (match entryFor treeTable "_sre.compile" with | some b => b A | none => unsupported ((withoutEnding? "_sre.compile" "#data").getD "_sre.compile")) := rfl
  rw [e, entry_cmp]
  exact congrFun (cmpS.2.trans cmpT.2) A
def cStr : Expr → Str
  | .Constant (.str s) _ _ => s
  | _ => ⟨#[]⟩
def argsC : Args := ⟨[.str (cStr (sE 0)) 506, .int 32 507, .ref 69, .int 1 1153, .ref 70, .ref 71], []⟩
def posC : Pos := ⟨7, 20, 7, 3160⟩
def dT : Thread := ⟨.unsupported "", .builtin "" {}, q0, []⟩
@[irreducible] noncomputable def rM (w : World) (os : OsState) : SharedT × Thread := (segGoTQ tbQ pw w 58 annE 1 677 (sC w os) thS).getD (dS, dT)
theorem go_cmp : ∀ w os, segGoTQ tbQ pw w 58 annE 1 677 (sC w os) thS = some ((rM w os).1, ⟨denQ tbQ (.builtin "_sre.compile" argsC), .builtin "_sre.compile" argsC, posC, (rM w os).2.stack⟩) := by intro w os; kernel_rfl
noncomputable def thC (w : World) (os : OsState) : Thread := ⟨cmpT.1 argsC, .builtin "_sre.compile" argsC, posC, (rM w os).2.stack⟩
@[irreducible] noncomputable def sD (w : World) (os : OsState) : SharedT := ((segRunTQ tbQ pw w 58 annE 1 20 (rM w os).1 (thC w os)).map (·.2.1)).getD dS
theorem st1_run : ∀ w os, segRunTQ tbQ pw w 58 annE 1 20 (rM w os).1 (thC w os) = some (.next, sD w os, cE, p1) := by intro w os; kernel_rfl
theorem glue {w : World} {n N : Nat} {s s' s'' : SharedT} {t t' : Thread} {c : Code} {p : Pos} (a : segGoTQ tbQ pw w 58 annE 1 n s t = some (s', t')) (b : segRunTQ tbQ pw w 58 annE 1 N s' t' = some (.next, s'', c, p)) :
    segRun treeTable pw w 58 annE 1 (n + N) s.abs t = some (.next, s''.abs, c, p) := by
  rw [← segGoTQ_eq, ← tbQ_eq] at a
  rw [← segRunTQ_eq, ← tbQ_eq] at b
  exact seg_go (segGo_of a) (segRun_of b)
theorem thC_is (w : World) (os : OsState) : (⟨denQ tbQ (.builtin "_sre.compile" argsC), .builtin "_sre.compile" argsC, posC, (rM w os).2.stack⟩ : Thread) = thC w os := by
  unfold thC
  rw [den_cmp]
theorem st1_is : ∀ w os, segRun treeTable pw w 58 annE 1 (677 + 20) (sC w os).abs thS = some (.next, (sD w os).abs, cE, p1) := fun w os =>
  glue ((go_cmp w os).trans (by rw [thC_is])) (st1_run w os)
end J5
end
section
open PySem PySem.W PyProof.Rows J5
set_option Elab.async false
set_option maxRecDepth 100000
set_option linter.unusedVariables false
namespace J5
/- places in the text -/
def stmtAt : List Nat → List Stmt → Stmt
  | [], _ => .Pass q0
  | [i], b => b[i]?.getD (.Pass q0)
  | i :: r, b => match b[i]?.getD (.Pass q0) with
    | .FunctionDef _ _ b' _ _ _ _ _ _ _ => stmtAt r b'
    | .ClassDef _ _ _ b' _ _ _ _ _ _ _ => stmtAt r b'
    | _ => .Pass q0
def fArgs (p : List Nat) : Arguments := match stmtAt p bE with
  | .FunctionDef _ a _ _ _ _ _ _ _ _ => a
  | _ => ⟨[], [], none, [], [], none, []⟩
def fBody (p : List Nat) : List Stmt := match stmtAt p bE with
  | .FunctionDef _ _ b _ _ _ _ _ _ _ => b
  | _ => []
def fScope (p : List Nat) : Scope := match stmtAt p bE with
  | .FunctionDef _ _ _ _ _ _ s _ _ _ => s
  | _ => pw.main.scope
@[irreducible] noncomputable def pD (w : World) (os : OsState) (i : Nat) : Obj := ((sD w os).tree.get i).getD default
def z__name__ : Str := ⟨#[95, 95, 110, 97, 109, 101, 95, 95]⟩
def zbuiltins : Str := ⟨#[98, 117, 105, 108, 116, 105, 110, 115]⟩
def z__doc__ : Str := ⟨#[95, 95, 100, 111, 99, 95, 95]⟩
def z__package__ : Str := ⟨#[95, 95, 112, 97, 99, 107, 97, 103, 101, 95, 95]⟩
def z__loader__ : Str := ⟨#[95, 95, 108, 111, 97, 100, 101, 114, 95, 95]⟩
def z__spec__ : Str := ⟨#[95, 95, 115, 112, 101, 99, 95, 95]⟩
def z__build_class__ : Str := ⟨#[95, 95, 98, 117, 105, 108, 100, 95, 99, 108, 97, 115, 115, 95, 95]⟩
def z__import__ : Str := ⟨#[95, 95, 105, 109, 112, 111, 114, 116, 95, 95]⟩
def zabs : Str := ⟨#[97, 98, 115]⟩
def zall : Str := ⟨#[97, 108, 108]⟩
def zany : Str := ⟨#[97, 110, 121]⟩
def zascii : Str := ⟨#[97, 115, 99, 105, 105]⟩
def zbin : Str := ⟨#[98, 105, 110]⟩
def zbreakpoint : Str := ⟨#[98, 114, 101, 97, 107, 112, 111, 105, 110, 116]⟩
def zcallable : Str := ⟨#[99, 97, 108, 108, 97, 98, 108, 101]⟩
def zchr : Str := ⟨#[99, 104, 114]⟩
def zcompile : Str := ⟨#[99, 111, 109, 112, 105, 108, 101]⟩
def zdelattr : Str := ⟨#[100, 101, 108, 97, 116, 116, 114]⟩
def zdir : Str := ⟨#[100, 105, 114]⟩
def zdivmod : Str := ⟨#[100, 105, 118, 109, 111, 100]⟩
def zeval : Str := ⟨#[101, 118, 97, 108]⟩
def zexec : Str := ⟨#[101, 120, 101, 99]⟩
def zformat : Str := ⟨#[102, 111, 114, 109, 97, 116]⟩
def zgetattr : Str := ⟨#[103, 101, 116, 97, 116, 116, 114]⟩
def zglobals : Str := ⟨#[103, 108, 111, 98, 97, 108, 115]⟩
def zhasattr : Str := ⟨#[104, 97, 115, 97, 116, 116, 114]⟩
def zhash : Str := ⟨#[104, 97, 115, 104]⟩
def zhex : Str := ⟨#[104, 101, 120]⟩
def zid : Str := ⟨#[105, 100]⟩
def zinput : Str := ⟨#[105, 110, 112, 117, 116]⟩
def zisinstance : Str := ⟨#[105, 115, 105, 110, 115, 116, 97, 110, 99, 101]⟩
def zissubclass : Str := ⟨#[105, 115, 115, 117, 98, 99, 108, 97, 115, 115]⟩
def ziter : Str := ⟨#[105, 116, 101, 114]⟩
def zaiter : Str := ⟨#[97, 105, 116, 101, 114]⟩
def zlen : Str := ⟨#[108, 101, 110]⟩
def zlocals : Str := ⟨#[108, 111, 99, 97, 108, 115]⟩
def zmax : Str := ⟨#[109, 97, 120]⟩
def zmin : Str := ⟨#[109, 105, 110]⟩
def znext : Str := ⟨#[110, 101, 120, 116]⟩
def zanext : Str := ⟨#[97, 110, 101, 120, 116]⟩
def zoct : Str := ⟨#[111, 99, 116]⟩
def zord : Str := ⟨#[111, 114, 100]⟩
def zpow : Str := ⟨#[112, 111, 119]⟩
def zprint : Str := ⟨#[112, 114, 105, 110, 116]⟩
def zrepr : Str := ⟨#[114, 101, 112, 114]⟩
def zround : Str := ⟨#[114, 111, 117, 110, 100]⟩
def zsetattr : Str := ⟨#[115, 101, 116, 97, 116, 116, 114]⟩
def zsorted : Str := ⟨#[115, 111, 114, 116, 101, 100]⟩
def zsum : Str := ⟨#[115, 117, 109]⟩
def zvars : Str := ⟨#[118, 97, 114, 115]⟩
def zNone : Str := ⟨#[78, 111, 110, 101]⟩
def zEllipsis : Str := ⟨#[69, 108, 108, 105, 112, 115, 105, 115]⟩
def zNotImplemented : Str := ⟨#[78, 111, 116, 73, 109, 112, 108, 101, 109, 101, 110, 116, 101, 100]⟩
def zFalse : Str := ⟨#[70, 97, 108, 115, 101]⟩
def zTrue : Str := ⟨#[84, 114, 117, 101]⟩
def zbool : Str := ⟨#[98, 111, 111, 108]⟩
def zmemoryview : Str := ⟨#[109, 101, 109, 111, 114, 121, 118, 105, 101, 119]⟩
def zbytearray : Str := ⟨#[98, 121, 116, 101, 97, 114, 114, 97, 121]⟩
def zbytes : Str := ⟨#[98, 121, 116, 101, 115]⟩
def zclassmethod : Str := ⟨#[99, 108, 97, 115, 115, 109, 101, 116, 104, 111, 100]⟩
def zcomplex : Str := ⟨#[99, 111, 109, 112, 108, 101, 120]⟩
def zdict : Str := ⟨#[100, 105, 99, 116]⟩
def zenumerate : Str := ⟨#[101, 110, 117, 109, 101, 114, 97, 116, 101]⟩
def zfilter : Str := ⟨#[102, 105, 108, 116, 101, 114]⟩
def zfloat : Str := ⟨#[102, 108, 111, 97, 116]⟩
def zfrozenset : Str := ⟨#[102, 114, 111, 122, 101, 110, 115, 101, 116]⟩
def zproperty : Str := ⟨#[112, 114, 111, 112, 101, 114, 116, 121]⟩
def zint : Str := ⟨#[105, 110, 116]⟩
def zlist : Str := ⟨#[108, 105, 115, 116]⟩
def zmap : Str := ⟨#[109, 97, 112]⟩
def zobject : Str := ⟨#[111, 98, 106, 101, 99, 116]⟩
def zrange : Str := ⟨#[114, 97, 110, 103, 101]⟩
def zreversed : Str := ⟨#[114, 101, 118, 101, 114, 115, 101, 100]⟩
def zset : Str := ⟨#[115, 101, 116]⟩
def zslice : Str := ⟨#[115, 108, 105, 99, 101]⟩
def zstaticmethod : Str := ⟨#[115, 116, 97, 116, 105, 99, 109, 101, 116, 104, 111, 100]⟩
def zstr : Str := ⟨#[115, 116, 114]⟩
def zsuper : Str := ⟨#[115, 117, 112, 101, 114]⟩
def ztuple : Str := ⟨#[116, 117, 112, 108, 101]⟩
def ztype : Str := ⟨#[116, 121, 112, 101]⟩
def zzip : Str := ⟨#[122, 105, 112]⟩
def z__debug__ : Str := ⟨#[95, 95, 100, 101, 98, 117, 103, 95, 95]⟩
def zBaseException : Str := ⟨#[66, 97, 115, 101, 69, 120, 99, 101, 112, 116, 105, 111, 110]⟩
def zBaseExceptionGroup : Str := ⟨#[66, 97, 115, 101, 69, 120, 99, 101, 112, 116, 105, 111, 110, 71, 114, 111, 117, 112]⟩
def zException : Str := ⟨#[69, 120, 99, 101, 112, 116, 105, 111, 110]⟩
def zGeneratorExit : Str := ⟨#[71, 101, 110, 101, 114, 97, 116, 111, 114, 69, 120, 105, 116]⟩
def zKeyboardInterrupt : Str := ⟨#[75, 101, 121, 98, 111, 97, 114, 100, 73, 110, 116, 101, 114, 114, 117, 112, 116]⟩
def zSystemExit : Str := ⟨#[83, 121, 115, 116, 101, 109, 69, 120, 105, 116]⟩
def zArithmeticError : Str := ⟨#[65, 114, 105, 116, 104, 109, 101, 116, 105, 99, 69, 114, 114, 111, 114]⟩
def zAssertionError : Str := ⟨#[65, 115, 115, 101, 114, 116, 105, 111, 110, 69, 114, 114, 111, 114]⟩
def zAttributeError : Str := ⟨#[65, 116, 116, 114, 105, 98, 117, 116, 101, 69, 114, 114, 111, 114]⟩
def zBufferError : Str := ⟨#[66, 117, 102, 102, 101, 114, 69, 114, 114, 111, 114]⟩
def zEOFError : Str := ⟨#[69, 79, 70, 69, 114, 114, 111, 114]⟩
def zImportError : Str := ⟨#[73, 109, 112, 111, 114, 116, 69, 114, 114, 111, 114]⟩
def zLookupError : Str := ⟨#[76, 111, 111, 107, 117, 112, 69, 114, 114, 111, 114]⟩
def zMemoryError : Str := ⟨#[77, 101, 109, 111, 114, 121, 69, 114, 114, 111, 114]⟩
def zNameError : Str := ⟨#[78, 97, 109, 101, 69, 114, 114, 111, 114]⟩
def zOSError : Str := ⟨#[79, 83, 69, 114, 114, 111, 114]⟩
def zReferenceError : Str := ⟨#[82, 101, 102, 101, 114, 101, 110, 99, 101, 69, 114, 114, 111, 114]⟩
def zRuntimeError : Str := ⟨#[82, 117, 110, 116, 105, 109, 101, 69, 114, 114, 111, 114]⟩
def zStopAsyncIteration : Str := ⟨#[83, 116, 111, 112, 65, 115, 121, 110, 99, 73, 116, 101, 114, 97, 116, 105, 111, 110]⟩
def zStopIteration : Str := ⟨#[83, 116, 111, 112, 73, 116, 101, 114, 97, 116, 105, 111, 110]⟩
def zSyntaxError : Str := ⟨#[83, 121, 110, 116, 97, 120, 69, 114, 114, 111, 114]⟩
def zSystemError : Str := ⟨#[83, 121, 115, 116, 101, 109, 69, 114, 114, 111, 114]⟩
def zTypeError : Str := ⟨#[84, 121, 112, 101, 69, 114, 114, 111, 114]⟩
def zValueError : Str := ⟨#[86, 97, 108, 117, 101, 69, 114, 114, 111, 114]⟩
def zWarning : Str := ⟨#[87, 97, 114, 110, 105, 110, 103]⟩
def zFloatingPointError : Str := ⟨#[70, 108, 111, 97, 116, 105, 110, 103, 80, 111, 105, 110, 116, 69, 114, 114, 111, 114]⟩
def zOverflowError : Str := ⟨#[79, 118, 101, 114, 102, 108, 111, 119, 69, 114, 114, 111, 114]⟩
def zZeroDivisionError : Str := ⟨#[90, 101, 114, 111, 68, 105, 118, 105, 115, 105, 111, 110, 69, 114, 114, 111, 114]⟩
def zBytesWarning : Str := ⟨#[66, 121, 116, 101, 115, 87, 97, 114, 110, 105, 110, 103]⟩
def zDeprecationWarning : Str := ⟨#[68, 101, 112, 114, 101, 99, 97, 116, 105, 111, 110, 87, 97, 114, 110, 105, 110, 103]⟩
def zEncodingWarning : Str := ⟨#[69, 110, 99, 111, 100, 105, 110, 103, 87, 97, 114, 110, 105, 110, 103]⟩
def zFutureWarning : Str := ⟨#[70, 117, 116, 117, 114, 101, 87, 97, 114, 110, 105, 110, 103]⟩
def zImportWarning : Str := ⟨#[73, 109, 112, 111, 114, 116, 87, 97, 114, 110, 105, 110, 103]⟩
def zPendingDeprecationWarning : Str := ⟨#[80, 101, 110, 100, 105, 110, 103, 68, 101, 112, 114, 101, 99, 97, 116, 105, 111, 110, 87, 97, 114, 110, 105, 110, 103]⟩
def zResourceWarning : Str := ⟨#[82, 101, 115, 111, 117, 114, 99, 101, 87, 97, 114, 110, 105, 110, 103]⟩
def zRuntimeWarning : Str := ⟨#[82, 117, 110, 116, 105, 109, 101, 87, 97, 114, 110, 105, 110, 103]⟩
def zSyntaxWarning : Str := ⟨#[83, 121, 110, 116, 97, 120, 87, 97, 114, 110, 105, 110, 103]⟩
def zUnicodeWarning : Str := ⟨#[85, 110, 105, 99, 111, 100, 101, 87, 97, 114, 110, 105, 110, 103]⟩
def zUserWarning : Str := ⟨#[85, 115, 101, 114, 87, 97, 114, 110, 105, 110, 103]⟩
def zBlockingIOError : Str := ⟨#[66, 108, 111, 99, 107, 105, 110, 103, 73, 79, 69, 114, 114, 111, 114]⟩
def zChildProcessError : Str := ⟨#[67, 104, 105, 108, 100, 80, 114, 111, 99, 101, 115, 115, 69, 114, 114, 111, 114]⟩
def zConnectionError : Str := ⟨#[67, 111, 110, 110, 101, 99, 116, 105, 111, 110, 69, 114, 114, 111, 114]⟩
def zFileExistsError : Str := ⟨#[70, 105, 108, 101, 69, 120, 105, 115, 116, 115, 69, 114, 114, 111, 114]⟩
def zFileNotFoundError : Str := ⟨#[70, 105, 108, 101, 78, 111, 116, 70, 111, 117, 110, 100, 69, 114, 114, 111, 114]⟩
def zInterruptedError : Str := ⟨#[73, 110, 116, 101, 114, 114, 117, 112, 116, 101, 100, 69, 114, 114, 111, 114]⟩
def zIsADirectoryError : Str := ⟨#[73, 115, 65, 68, 105, 114, 101, 99, 116, 111, 114, 121, 69, 114, 114, 111, 114]⟩
def zNotADirectoryError : Str := ⟨#[78, 111, 116, 65, 68, 105, 114, 101, 99, 116, 111, 114, 121, 69, 114, 114, 111, 114]⟩
def zPermissionError : Str := ⟨#[80, 101, 114, 109, 105, 115, 115, 105, 111, 110, 69, 114, 114, 111, 114]⟩
def zProcessLookupError : Str := ⟨#[80, 114, 111, 99, 101, 115, 115, 76, 111, 111, 107, 117, 112, 69, 114, 114, 111, 114]⟩
def zTimeoutError : Str := ⟨#[84, 105, 109, 101, 111, 117, 116, 69, 114, 114, 111, 114]⟩
def zIndentationError : Str := ⟨#[73, 110, 100, 101, 110, 116, 97, 116, 105, 111, 110, 69, 114, 114, 111, 114]⟩
def z_IncompleteInputError : Str := ⟨#[95, 73, 110, 99, 111, 109, 112, 108, 101, 116, 101, 73, 110, 112, 117, 116, 69, 114, 114, 111, 114]⟩
def zIndexError : Str := ⟨#[73, 110, 100, 101, 120, 69, 114, 114, 111, 114]⟩
def zKeyError : Str := ⟨#[75, 101, 121, 69, 114, 114, 111, 114]⟩
def zModuleNotFoundError : Str := ⟨#[77, 111, 100, 117, 108, 101, 78, 111, 116, 70, 111, 117, 110, 100, 69, 114, 114, 111, 114]⟩
def zNotImplementedError : Str := ⟨#[78, 111, 116, 73, 109, 112, 108, 101, 109, 101, 110, 116, 101, 100, 69, 114, 114, 111, 114]⟩
def zPythonFinalizationError : Str := ⟨#[80, 121, 116, 104, 111, 110, 70, 105, 110, 97, 108, 105, 122, 97, 116, 105, 111, 110, 69, 114, 114, 111, 114]⟩
def zRecursionError : Str := ⟨#[82, 101, 99, 117, 114, 115, 105, 111, 110, 69, 114, 114, 111, 114]⟩
def zUnboundLocalError : Str := ⟨#[85, 110, 98, 111, 117, 110, 100, 76, 111, 99, 97, 108, 69, 114, 114, 111, 114]⟩
def zUnicodeError : Str := ⟨#[85, 110, 105, 99, 111, 100, 101, 69, 114, 114, 111, 114]⟩
def zBrokenPipeError : Str := ⟨#[66, 114, 111, 107, 101, 110, 80, 105, 112, 101, 69, 114, 114, 111, 114]⟩
def zConnectionAbortedError : Str := ⟨#[67, 111, 110, 110, 101, 99, 116, 105, 111, 110, 65, 98, 111, 114, 116, 101, 100, 69, 114, 114, 111, 114]⟩
def zConnectionRefusedError : Str := ⟨#[67, 111, 110, 110, 101, 99, 116, 105, 111, 110, 82, 101, 102, 117, 115, 101, 100, 69, 114, 114, 111, 114]⟩
def zConnectionResetError : Str := ⟨#[67, 111, 110, 110, 101, 99, 116, 105, 111, 110, 82, 101, 115, 101, 116, 69, 114, 114, 111, 114]⟩
def zTabError : Str := ⟨#[84, 97, 98, 69, 114, 114, 111, 114]⟩
def zUnicodeDecodeError : Str := ⟨#[85, 110, 105, 99, 111, 100, 101, 68, 101, 99, 111, 100, 101, 69, 114, 114, 111, 114]⟩
def zUnicodeEncodeError : Str := ⟨#[85, 110, 105, 99, 111, 100, 101, 69, 110, 99, 111, 100, 101, 69, 114, 114, 111, 114]⟩
def zUnicodeTranslateError : Str := ⟨#[85, 110, 105, 99, 111, 100, 101, 84, 114, 97, 110, 115, 108, 97, 116, 101, 69, 114, 114, 111, 114]⟩
def zExceptionGroup : Str := ⟨#[69, 120, 99, 101, 112, 116, 105, 111, 110, 71, 114, 111, 117, 112]⟩
def zEnvironmentError : Str := ⟨#[69, 110, 118, 105, 114, 111, 110, 109, 101, 110, 116, 69, 114, 114, 111, 114]⟩
def zIOError : Str := ⟨#[73, 79, 69, 114, 114, 111, 114]⟩
def zopen : Str := ⟨#[111, 112, 101, 110]⟩
def zquit : Str := ⟨#[113, 117, 105, 116]⟩
def zexit : Str := ⟨#[101, 120, 105, 116]⟩
def zcopyright : Str := ⟨#[99, 111, 112, 121, 114, 105, 103, 104, 116]⟩
def zcredits : Str := ⟨#[99, 114, 101, 100, 105, 116, 115]⟩
def zlicense : Str := ⟨#[108, 105, 99, 101, 110, 115, 101]⟩
def zhelp : Str := ⟨#[104, 101, 108, 112]⟩
def y830831868 : Str := ⟨#[105, 109, 112, 111, 114, 116, 46, 108, 111, 97, 100, 101, 100, 46, 95, 115, 114, 101]⟩
def y127357242 : Str := ⟨#[99, 108, 97, 115, 115, 46, 95, 102, 114, 111, 122, 101, 110, 95, 105, 109, 112, 111, 114, 116, 108, 105, 98, 46, 66, 117, 105, 108, 116, 105, 110, 73, 109, 112, 111, 114, 116, 101, 114]⟩
def y369520399 : Str := ⟨#[119, 97, 116, 99, 104, 101, 100, 46, 105, 109, 112, 111, 114, 116]⟩
def y570527370 : Str := ⟨#[99, 108, 97, 115, 115, 46, 95, 102, 114, 111, 122, 101, 110, 95, 105, 109, 112, 111, 114, 116, 108, 105, 98, 46, 77, 111, 100, 117, 108, 101, 83, 112, 101, 99]⟩
def y499290903 : Str := ⟨#[115, 121, 115, 46, 109, 111, 100, 117, 108, 101, 115, 46, 98, 111, 111, 107, 101, 100, 45, 101, 112, 111, 99, 104]⟩
def y414204762 : Str := ⟨#[105, 109, 112, 111, 114, 116, 46, 108, 97, 116, 101, 114, 45, 108, 97, 105, 100, 46, 95, 115, 114, 101]⟩
def y448442148 : Str := ⟨#[119, 97, 116, 99, 104, 101, 100, 46, 108, 105, 98, 114, 97, 114, 121]⟩
def y227251817 : Str := ⟨#[119, 97, 116, 99, 104, 101, 100, 46, 108, 105, 98, 114, 97, 114, 121, 45, 111, 98, 106, 101, 99, 116, 115]⟩
def y862700717 : Str := ⟨#[12, 30, 51]⟩
def y784366465 : Str := ⟨#[119, 97, 116, 99, 104, 101, 100, 46, 108, 105, 98, 114, 97, 114, 121, 45, 100, 101, 101, 112, 46, 95, 115, 114, 101]⟩
def y718300091 : Str := ⟨#[4, 0, 0, 11, 4, 0, 0, 11, 4, 0, 0, 3, 4, 0, 0, 11, 8, 4, 100, 105, 99, 116, 2]⟩
def y551361691 : Str := ⟨#[105, 109, 112, 111, 114, 116, 46, 108, 111, 97, 100, 101, 100, 46, 109, 97, 116, 104]⟩
def y551360606 : Str := ⟨#[99, 108, 97, 115, 115, 46, 95, 102, 114, 111, 122, 101, 110, 95, 105, 109, 112, 111, 114, 116, 108, 105, 98, 95, 101, 120, 116, 101, 114, 110, 97, 108, 46, 95, 76, 111, 97, 100, 101, 114, 66, 97, 115, 105, 99, 115]⟩
def y274784248 : Str := ⟨#[99, 108, 97, 115, 115, 46, 95, 102, 114, 111, 122, 101, 110, 95, 105, 109, 112, 111, 114, 116, 108, 105, 98, 95, 101, 120, 116, 101, 114, 110, 97, 108, 46, 70, 105, 108, 101, 76, 111, 97, 100, 101, 114]⟩
def y896737827 : Str := ⟨#[99, 108, 97, 115, 115, 46, 95, 102, 114, 111, 122, 101, 110, 95, 105, 109, 112, 111, 114, 116, 108, 105, 98, 95, 101, 120, 116, 101, 114, 110, 97, 108, 46, 69, 120, 116, 101, 110, 115, 105, 111, 110, 70, 105, 108, 101, 76, 111, 97, 100, 101, 114]⟩
def y635774927 : Str := ⟨#[105, 109, 112, 111, 114, 116, 46, 108, 97, 116, 101, 114, 45, 108, 97, 105, 100, 46, 109, 97, 116, 104]⟩
def y95736198 : Str := ⟨#[105, 109, 112, 111, 114, 116, 46, 108, 111, 97, 100, 101, 100, 46, 117, 110, 105, 99, 111, 100, 101, 100, 97, 116, 97]⟩
def y66652887 : Str := ⟨#[105, 109, 112, 111, 114, 116, 46, 108, 97, 116, 101, 114, 45, 108, 97, 105, 100, 46, 117, 110, 105, 99, 111, 100, 101, 100, 97, 116, 97]⟩
def y839975295 : Str := ⟨#[119, 97, 116, 99, 104, 101, 100, 46, 108, 105, 98, 114, 97, 114, 121, 45, 100, 101, 101, 112, 46, 117, 110, 105, 99, 111, 100, 101, 100, 97, 116, 97]⟩
def y86715091 : Str := ⟨#[4, 0, 0, 50, 4, 0, 0, 57, 4, 0, 0, 6, 4, 0, 0, 50, 8, 4, 100, 105, 99, 116, 2, 4, 0, 0, 57, 8, 15, 117, 110, 105, 99, 111, 100, 101, 100, 97, 116, 97, 46, 85, 67, 68, 2]⟩
def z__main__ : Str := ⟨#[95, 95, 109, 97, 105, 110, 95, 95]⟩
def z__annotations__ : Str := ⟨#[95, 95, 97, 110, 110, 111, 116, 97, 116, 105, 111, 110, 115, 95, 95]⟩
def z__builtins__ : Str := ⟨#[95, 95, 98, 117, 105, 108, 116, 105, 110, 115, 95, 95]⟩
def z__file__ : Str := ⟨#[95, 95, 102, 105, 108, 101, 95, 95]⟩
def y337536729 : Str := ⟨#[47, 99, 108, 97, 105, 109, 47, 99, 117, 116, 46, 112, 121]⟩
def z__cached__ : Str := ⟨#[95, 95, 99, 97, 99, 104, 101, 100, 95, 95]⟩
def z_sre : Str := ⟨#[95, 115, 114, 101]⟩
def zisnan : Str := ⟨#[105, 115, 110, 97, 110]⟩
def zcategory : Str := ⟨#[99, 97, 116, 101, 103, 111, 114, 121]⟩
def z_wall : Str := ⟨#[95, 119, 97, 108, 108]⟩
def z_reserved_word_re : Str := ⟨#[95, 114, 101, 115, 101, 114, 118, 101, 100, 95, 119, 111, 114, 100, 95, 114, 101]⟩
def y901796171 : Str := ⟨#[60, 109, 111, 100, 117, 108, 101, 62]⟩
def y854514975 : Str := ⟨#[40, 98, 114, 101, 97, 107, 124, 99, 97, 115, 101, 124, 99, 97, 116, 99, 104, 124, 99, 108, 97, 115, 115, 124, 99, 111, 110, 115, 116, 124, 99, 111, 110, 116, 105, 110, 117, 101, 124, 100, 101, 98, 117, 103, 103, 101, 114, 124, 100, 101, 102, 97, 117, 108, 116, 124, 100, 101, 108, 101, 116, 101, 124, 100, 111, 124, 101, 108, 115, 101, 124, 101, 110, 117, 109, 124, 101, 120, 112, 111, 114, 116, 124, 101, 120, 116, 101, 110, 100, 115, 124, 102, 97, 108, 115, 101, 124, 102, 105, 110, 97, 108, 108, 121, 124, 102, 111, 114, 124, 102, 117, 110, 99, 116, 105, 111, 110, 124, 105, 102, 124, 105, 109, 112, 108, 101, 109, 101, 110, 116, 115, 124, 105, 109, 112, 111, 114, 116, 124, 105, 110, 124, 105, 110, 115, 116, 97, 110, 99, 101, 111, 102, 124, 105, 110, 116, 101, 114, 102, 97, 99, 101, 124, 108, 101, 116, 124, 110, 101, 119, 124, 110, 117, 108, 108, 124, 112, 97, 99, 107, 97, 103, 101, 124, 112, 114, 105, 118, 97, 116, 101, 124, 112, 114, 111, 116, 101, 99, 116, 101, 100, 124, 112, 117, 98, 108, 105, 99, 124, 114, 101, 116, 117, 114, 110, 124, 115, 116, 97, 116, 105, 99, 124, 115, 117, 112, 101, 114, 124, 115, 119, 105, 116, 99, 104, 124, 116, 104, 105, 115, 124, 116, 104, 114, 111, 119, 124, 116, 114, 117, 101, 124, 116, 114, 121, 124, 116, 121, 112, 101, 111, 102, 124, 118, 97, 114, 124, 118, 111, 105, 100, 124, 119, 104, 105, 108, 101, 124, 119, 105, 116, 104, 124, 121, 105, 101, 108, 100, 41, 36]⟩
def zmath : Str := ⟨#[109, 97, 116, 104]⟩
def zunicodedata : Str := ⟨#[117, 110, 105, 99, 111, 100, 101, 100, 97, 116, 97]⟩
def zlaw_ww0010_03 : Str := ⟨#[108, 97, 119, 95, 119, 119, 48, 48, 49, 48, 95, 48, 51]⟩
def z_OWN_NAMES : Str := ⟨#[95, 79, 87, 78, 95, 78, 65, 77, 69, 83]⟩
def zmappingproxy : Str := ⟨#[109, 97, 112, 112, 105, 110, 103, 112, 114, 111, 120, 121]⟩
def z_MEMBERS_VIEW : Str := ⟨#[95, 77, 69, 77, 66, 69, 82, 83, 95, 86, 73, 69, 87]⟩
def zEnumType : Str := ⟨#[69, 110, 117, 109, 84, 121, 112, 101]⟩
def z_EnumField : Str := ⟨#[95, 69, 110, 117, 109, 70, 105, 101, 108, 100]⟩
def zEnum : Str := ⟨#[69, 110, 117, 109]⟩
def zQuoteStyle : Str := ⟨#[81, 117, 111, 116, 101, 83, 116, 121, 108, 101]⟩
def z_lay_QuoteStyle : Str := ⟨#[95, 108, 97, 121, 95, 81, 117, 111, 116, 101, 83, 116, 121, 108, 101]⟩
def zdumps : Str := ⟨#[100, 117, 109, 112, 115]⟩
def zJSON5Encoder : Str := ⟨#[74, 83, 79, 78, 53, 69, 110, 99, 111, 100, 101, 114]⟩
def z_raise_type_error : Str := ⟨#[95, 114, 97, 105, 115, 101, 95, 116, 121, 112, 101, 95, 101, 114, 114, 111, 114]⟩
def z_law_number : Str := ⟨#[95, 108, 97, 119, 95, 110, 117, 109, 98, 101, 114]⟩
def z_law_written : Str := ⟨#[95, 108, 97, 119, 95, 119, 114, 105, 116, 116, 101, 110]⟩
def zlaw : Str := ⟨#[108, 97, 119]⟩
def y543191083 : Str := ⟨#[]⟩
def ztemplate : Str := ⟨#[116, 101, 109, 112, 108, 97, 116, 101]⟩
def zgetcodesize : Str := ⟨#[103, 101, 116, 99, 111, 100, 101, 115, 105, 122, 101]⟩
def zascii_iscased : Str := ⟨#[97, 115, 99, 105, 105, 95, 105, 115, 99, 97, 115, 101, 100]⟩
def zunicode_iscased : Str := ⟨#[117, 110, 105, 99, 111, 100, 101, 95, 105, 115, 99, 97, 115, 101, 100]⟩
def zascii_tolower : Str := ⟨#[97, 115, 99, 105, 105, 95, 116, 111, 108, 111, 119, 101, 114]⟩
def zunicode_tolower : Str := ⟨#[117, 110, 105, 99, 111, 100, 101, 95, 116, 111, 108, 111, 119, 101, 114]⟩
def zMAGIC : Str := ⟨#[77, 65, 71, 73, 67]⟩
def zCODESIZE : Str := ⟨#[67, 79, 68, 69, 83, 73, 90, 69]⟩
def zMAXREPEAT : Str := ⟨#[77, 65, 88, 82, 69, 80, 69, 65, 84]⟩
def zMAXGROUPS : Str := ⟨#[77, 65, 88, 71, 82, 79, 85, 80, 83]⟩
def y18370935 : Str := ⟨#[32, 83, 82, 69, 32, 50, 46, 50, 46, 50, 32, 67, 111, 112, 121, 114, 105, 103, 104, 116, 32, 40, 99, 41, 32, 49, 57, 57, 55, 45, 50, 48, 48, 50, 32, 98, 121, 32, 83, 101, 99, 114, 101, 116, 32, 76, 97, 98, 115, 32, 65, 66, 32]⟩
def z__module__ : Str := ⟨#[95, 95, 109, 111, 100, 117, 108, 101, 95, 95]⟩
def z_frozen_importlib : Str := ⟨#[95, 102, 114, 111, 122, 101, 110, 95, 105, 109, 112, 111, 114, 116, 108, 105, 98]⟩
def z__firstlineno__ : Str := ⟨#[95, 95, 102, 105, 114, 115, 116, 108, 105, 110, 101, 110, 111, 95, 95]⟩
def z_ORIGIN : Str := ⟨#[95, 79, 82, 73, 71, 73, 78]⟩
def y272626645 : Str := ⟨#[98, 117, 105, 108, 116, 45, 105, 110]⟩
def zfind_spec : Str := ⟨#[102, 105, 110, 100, 95, 115, 112, 101, 99]⟩
def zcreate_module : Str := ⟨#[99, 114, 101, 97, 116, 101, 95, 109, 111, 100, 117, 108, 101]⟩
def zexec_module : Str := ⟨#[101, 120, 101, 99, 95, 109, 111, 100, 117, 108, 101]⟩
def zget_code : Str := ⟨#[103, 101, 116, 95, 99, 111, 100, 101]⟩
def zget_source : Str := ⟨#[103, 101, 116, 95, 115, 111, 117, 114, 99, 101]⟩
def zis_package : Str := ⟨#[105, 115, 95, 112, 97, 99, 107, 97, 103, 101]⟩
def zload_module : Str := ⟨#[108, 111, 97, 100, 95, 109, 111, 100, 117, 108, 101]⟩
def z__static_attributes__ : Str := ⟨#[95, 95, 115, 116, 97, 116, 105, 99, 95, 97, 116, 116, 114, 105, 98, 117, 116, 101, 115, 95, 95]⟩
def z__dict__ : Str := ⟨#[95, 95, 100, 105, 99, 116, 95, 95]⟩
def z__weakref__ : Str := ⟨#[95, 95, 119, 101, 97, 107, 114, 101, 102, 95, 95]⟩
def zBuiltinImporter : Str := ⟨#[66, 117, 105, 108, 116, 105, 110, 73, 109, 112, 111, 114, 116, 101, 114]⟩
def y933404941 : Str := ⟨#[6, 189, 10, 95, 95, 109, 111, 100, 117, 108, 101, 95, 95, 6, 186, 17, 95, 102, 114, 111, 122, 101, 110, 95, 105, 109, 112, 111, 114, 116, 108, 105, 98, 6, 190, 15, 95, 95, 102, 105, 114, 115, 116, 108, 105, 110, 101, 110, 111, 95, 95, 4, 187, 0, 971, 6, 191, 7, 95, 95, 100, 111, 99, 95, 95, 9, 52, 95, 102, 114, 111, 122, 101, 110, 95, 105, 109, 112, 111, 114, 116, 108, 105, 98, 46, 66, 117, 105, 108, 116, 105, 110, 73, 109, 112, 111, 114, 116, 101, 114, 46, 95, 95, 100, 111, 99, 95, 95, 58, 115, 116, 114, 35, 111, 112, 97, 113, 117, 101, 6, 192, 7, 95, 79, 82, 73, 71, 73, 78, 6, 188, 8, 98, 117, 105, 108, 116, 45, 105, 110, 6, 193, 9, 102, 105, 110, 100, 95, 115, 112, 101, 99, 9, 50, 95, 102, 114, 111, 122, 101, 110, 95, 105, 109, 112, 111, 114, 116, 108, 105, 98, 46, 66, 117, 105, 108, 116, 105, 110, 73, 109, 112, 111, 114, 116, 101, 114, 46, 102, 105, 110, 100, 95, 115, 112, 101, 99, 35, 111, 112, 97, 113, 117, 101, 6, 194, 13, 99, 114, 101, 97, 116, 101, 95, 109, 111, 100, 117, 108, 101, 9, 54, 95, 102, 114, 111, 122, 101, 110, 95, 105, 109, 112, 111, 114, 116, 108, 105, 98, 46, 66, 117, 105, 108, 116, 105, 110, 73, 109, 112, 111, 114, 116, 101, 114, 46, 99, 114, 101, 97, 116, 101, 95, 109, 111, 100, 117, 108, 101, 35, 111, 112, 97, 113, 117, 101, 6, 195, 11, 101, 120, 101, 99, 95, 109, 111, 100, 117, 108, 101, 9, 52, 95, 102, 114, 111, 122, 101, 110, 95, 105, 109, 112, 111, 114, 116, 108, 105, 98, 46, 66, 117, 105, 108, 116, 105, 110, 73, 109, 112, 111, 114, 116, 101, 114, 46, 101, 120, 101, 99, 95, 109, 111, 100, 117, 108, 101, 35, 111, 112, 97, 113, 117, 101, 6, 196, 8, 103, 101, 116, 95, 99, 111, 100, 101, 9, 49, 95, 102, 114, 111, 122, 101, 110, 95, 105, 109, 112, 111, 114, 116, 108, 105, 98, 46, 66, 117, 105, 108, 116, 105, 110, 73, 109, 112, 111, 114, 116, 101, 114, 46, 103, 101, 116, 95, 99, 111, 100, 101, 35, 111, 112, 97, 113, 117, 101, 6, 197, 10, 103, 101, 116, 95, 115, 111, 117, 114, 99, 101, 9, 51, 95, 102, 114, 111, 122, 101, 110, 95, 105, 109, 112, 111, 114, 116, 108, 105, 98, 46, 66, 117, 105, 108, 116, 105, 110, 73, 109, 112, 111, 114, 116, 101, 114, 46, 103, 101, 116, 95, 115, 111, 117, 114, 99, 101, 35, 111, 112, 97, 113, 117, 101, 6, 198, 10, 105, 115, 95, 112, 97, 99, 107, 97, 103, 101, 9, 51, 95, 102, 114, 111, 122, 101, 110, 95, 105, 109, 112, 111, 114, 116, 108, 105, 98, 46, 66, 117, 105, 108, 116, 105, 110, 73, 109, 112, 111, 114, 116, 101, 114, 46, 105, 115, 95, 112, 97, 99, 107, 97, 103, 101, 35, 111, 112, 97, 113, 117, 101, 6, 199, 11, 108, 111, 97, 100, 95, 109, 111, 100, 117, 108, 101, 9, 52, 95, 102, 114, 111, 122, 101, 110, 95, 105, 109, 112, 111, 114, 116, 108, 105, 98, 46, 66, 117, 105, 108, 116, 105, 110, 73, 109, 112, 111, 114, 116, 101, 114, 46, 108, 111, 97, 100, 95, 109, 111, 100, 117, 108, 101, 35, 111, 112, 97, 113, 117, 101, 6, 200, 21, 95, 95, 115, 116, 97, 116, 105, 99, 95, 97, 116, 116, 114, 105, 98, 117, 116, 101, 115, 95, 95, 4, 0, 0, 15, 6, 202, 8, 95, 95, 100, 105, 99, 116, 95, 95, 4, 0, 0, 16, 6, 204, 11, 95, 95, 119, 101, 97, 107, 114, 101, 102, 95, 95, 4, 0, 0, 17]⟩
def y50443006 : Str := ⟨#[6, 227, 10, 95, 95, 109, 111, 100, 117, 108, 101, 95, 95, 6, 217, 17, 95, 102, 114, 111, 122, 101, 110, 95, 105, 109, 112, 111, 114, 116, 108, 105, 98, 6, 228, 15, 95, 95, 102, 105, 114, 115, 116, 108, 105, 110, 101, 110, 111, 95, 95, 4, 218, 0, 562, 6, 229, 7, 95, 95, 100, 111, 99, 95, 95, 9, 47, 95, 102, 114, 111, 122, 101, 110, 95, 105, 109, 112, 111, 114, 116, 108, 105, 98, 46, 77, 111, 100, 117, 108, 101, 83, 112, 101, 99, 46, 95, 95, 100, 111, 99, 95, 95, 58, 115, 116, 114, 35, 111, 112, 97, 113, 117, 101, 6, 230, 8, 95, 95, 105, 110, 105, 116, 95, 95, 9, 44, 95, 102, 114, 111, 122, 101, 110, 95, 105, 109, 112, 111, 114, 116, 108, 105, 98, 46, 77, 111, 100, 117, 108, 101, 83, 112, 101, 99, 46, 95, 95, 105, 110, 105, 116, 95, 95, 35, 111, 112, 97, 113, 117, 101, 6, 231, 8, 95, 95, 114, 101, 112, 114, 95, 95, 9, 44, 95, 102, 114, 111, 122, 101, 110, 95, 105, 109, 112, 111, 114, 116, 108, 105, 98, 46, 77, 111, 100, 117, 108, 101, 83, 112, 101, 99, 46, 95, 95, 114, 101, 112, 114, 95, 95, 35, 111, 112, 97, 113, 117, 101, 6, 232, 6, 95, 95, 101, 113, 95, 95, 9, 42, 95, 102, 114, 111, 122, 101, 110, 95, 105, 109, 112, 111, 114, 116, 108, 105, 98, 46, 77, 111, 100, 117, 108, 101, 83, 112, 101, 99, 46, 95, 95, 101, 113, 95, 95, 35, 111, 112, 97, 113, 117, 101, 6, 233, 6, 99, 97, 99, 104, 101, 100, 9, 42, 95, 102, 114, 111, 122, 101, 110, 95, 105, 109, 112, 111, 114, 116, 108, 105, 98, 46, 77, 111, 100, 117, 108, 101, 83, 112, 101, 99, 46, 99, 97, 99, 104, 101, 100, 35, 111, 112, 97, 113, 117, 101, 6, 234, 6, 112, 97, 114, 101, 110, 116, 9, 42, 95, 102, 114, 111, 122, 101, 110, 95, 105, 109, 112, 111, 114, 116, 108, 105, 98, 46, 77, 111, 100, 117, 108, 101, 83, 112, 101, 99, 46, 112, 97, 114, 101, 110, 116, 35, 111, 112, 97, 113, 117, 101, 6, 235, 12, 104, 97, 115, 95, 108, 111, 99, 97, 116, 105, 111, 110, 9, 48, 95, 102, 114, 111, 122, 101, 110, 95, 105, 109, 112, 111, 114, 116, 108, 105, 98, 46, 77, 111, 100, 117, 108, 101, 83, 112, 101, 99, 46, 104, 97, 115, 95, 108, 111, 99, 97, 116, 105, 111, 110, 35, 111, 112, 97, 113, 117, 101, 6, 236, 21, 95, 95, 115, 116, 97, 116, 105, 99, 95, 97, 116, 116, 114, 105, 98, 117, 116, 101, 115, 95, 95, 4, 0, 0, 23, 6, 238, 8, 95, 95, 100, 105, 99, 116, 95, 95, 4, 0, 0, 24, 6, 240, 11, 95, 95, 119, 101, 97, 107, 114, 101, 102, 95, 95, 4, 0, 0, 25, 6, 241, 8, 95, 95, 104, 97, 115, 104, 95, 95, 0]⟩
def y963798906 : Str := ⟨#[6, 288, 10, 95, 95, 109, 111, 100, 117, 108, 101, 95, 95, 6, 286, 26, 95, 102, 114, 111, 122, 101, 110, 95, 105, 109, 112, 111, 114, 116, 108, 105, 98, 95, 101, 120, 116, 101, 114, 110, 97, 108, 6, 289, 15, 95, 95, 102, 105, 114, 115, 116, 108, 105, 110, 101, 110, 111, 95, 95, 4, 287, 0, 1001, 6, 290, 7, 95, 95, 100, 111, 99, 95, 95, 9, 59, 95, 102, 114, 111, 122, 101, 110, 95, 105, 109, 112, 111, 114, 116, 108, 105, 98, 95, 101, 120, 116, 101, 114, 110, 97, 108, 46, 95, 76, 111, 97, 100, 101, 114, 66, 97, 115, 105, 99, 115, 46, 95, 95, 100, 111, 99, 95, 95, 58, 115, 116, 114, 35, 111, 112, 97, 113, 117, 101, 6, 291, 10, 105, 115, 95, 112, 97, 99, 107, 97, 103, 101, 9, 58, 95, 102, 114, 111, 122, 101, 110, 95, 105, 109, 112, 111, 114, 116, 108, 105, 98, 95, 101, 120, 116, 101, 114, 110, 97, 108, 46, 95, 76, 111, 97, 100, 101, 114, 66, 97, 115, 105, 99, 115, 46, 105, 115, 95, 112, 97, 99, 107, 97, 103, 101, 35, 111, 112, 97, 113, 117, 101, 6, 292, 13, 99, 114, 101, 97, 116, 101, 95, 109, 111, 100, 117, 108, 101, 9, 61, 95, 102, 114, 111, 122, 101, 110, 95, 105, 109, 112, 111, 114, 116, 108, 105, 98, 95, 101, 120, 116, 101, 114, 110, 97, 108, 46, 95, 76, 111, 97, 100, 101, 114, 66, 97, 115, 105, 99, 115, 46, 99, 114, 101, 97, 116, 101, 95, 109, 111, 100, 117, 108, 101, 35, 111, 112, 97, 113, 117, 101, 6, 293, 11, 101, 120, 101, 99, 95, 109, 111, 100, 117, 108, 101, 9, 59, 95, 102, 114, 111, 122, 101, 110, 95, 105, 109, 112, 111, 114, 116, 108, 105, 98, 95, 101, 120, 116, 101, 114, 110, 97, 108, 46, 95, 76, 111, 97, 100, 101, 114, 66, 97, 115, 105, 99, 115, 46, 101, 120, 101, 99, 95, 109, 111, 100, 117, 108, 101, 35, 111, 112, 97, 113, 117, 101, 6, 294, 11, 108, 111, 97, 100, 95, 109, 111, 100, 117, 108, 101, 9, 59, 95, 102, 114, 111, 122, 101, 110, 95, 105, 109, 112, 111, 114, 116, 108, 105, 98, 95, 101, 120, 116, 101, 114, 110, 97, 108, 46, 95, 76, 111, 97, 100, 101, 114, 66, 97, 115, 105, 99, 115, 46, 108, 111, 97, 100, 95, 109, 111, 100, 117, 108, 101, 35, 111, 112, 97, 113, 117, 101, 6, 295, 21, 95, 95, 115, 116, 97, 116, 105, 99, 95, 97, 116, 116, 114, 105, 98, 117, 116, 101, 115, 95, 95, 4, 0, 0, 34, 6, 297, 8, 95, 95, 100, 105, 99, 116, 95, 95, 4, 0, 0, 35, 6, 299, 11, 95, 95, 119, 101, 97, 107, 114, 101, 102, 95, 95, 4, 0, 0, 36]⟩
def y282934546 : Str := ⟨#[6, 306, 10, 95, 95, 109, 111, 100, 117, 108, 101, 95, 95, 6, 302, 26, 95, 102, 114, 111, 122, 101, 110, 95, 105, 109, 112, 111, 114, 116, 108, 105, 98, 95, 101, 120, 116, 101, 114, 110, 97, 108, 6, 307, 15, 95, 95, 102, 105, 114, 115, 116, 108, 105, 110, 101, 110, 111, 95, 95, 4, 303, 0, 1176, 6, 308, 7, 95, 95, 100, 111, 99, 95, 95, 9, 56, 95, 102, 114, 111, 122, 101, 110, 95, 105, 109, 112, 111, 114, 116, 108, 105, 98, 95, 101, 120, 116, 101, 114, 110, 97, 108, 46, 70, 105, 108, 101, 76, 111, 97, 100, 101, 114, 46, 95, 95, 100, 111, 99, 95, 95, 58, 115, 116, 114, 35, 111, 112, 97, 113, 117, 101, 6, 309, 8, 95, 95, 105, 110, 105, 116, 95, 95, 9, 53, 95, 102, 114, 111, 122, 101, 110, 95, 105, 109, 112, 111, 114, 116, 108, 105, 98, 95, 101, 120, 116, 101, 114, 110, 97, 108, 46, 70, 105, 108, 101, 76, 111, 97, 100, 101, 114, 46, 95, 95, 105, 110, 105, 116, 95, 95, 35, 111, 112, 97, 113, 117, 101, 6, 310, 6, 95, 95, 101, 113, 95, 95, 9, 51, 95, 102, 114, 111, 122, 101, 110, 95, 105, 109, 112, 111, 114, 116, 108, 105, 98, 95, 101, 120, 116, 101, 114, 110, 97, 108, 46, 70, 105, 108, 101, 76, 111, 97, 100, 101, 114, 46, 95, 95, 101, 113, 95, 95, 35, 111, 112, 97, 113, 117, 101, 6, 311, 8, 95, 95, 104, 97, 115, 104, 95, 95, 9, 53, 95, 102, 114, 111, 122, 101, 110, 95, 105, 109, 112, 111, 114, 116, 108, 105, 98, 95, 101, 120, 116, 101, 114, 110, 97, 108, 46, 70, 105, 108, 101, 76, 111, 97, 100, 101, 114, 46, 95, 95, 104, 97, 115, 104, 95, 95, 35, 111, 112, 97, 113, 117, 101, 6, 312, 11, 108, 111, 97, 100, 95, 109, 111, 100, 117, 108, 101, 9, 56, 95, 102, 114, 111, 122, 101, 110, 95, 105, 109, 112, 111, 114, 116, 108, 105, 98, 95, 101, 120, 116, 101, 114, 110, 97, 108, 46, 70, 105, 108, 101, 76, 111, 97, 100, 101, 114, 46, 108, 111, 97, 100, 95, 109, 111, 100, 117, 108, 101, 35, 111, 112, 97, 113, 117, 101, 6, 313, 12, 103, 101, 116, 95, 102, 105, 108, 101, 110, 97, 109, 101, 9, 57, 95, 102, 114, 111, 122, 101, 110, 95, 105, 109, 112, 111, 114, 116, 108, 105, 98, 95, 101, 120, 116, 101, 114, 110, 97, 108, 46, 70, 105, 108, 101, 76, 111, 97, 100, 101, 114, 46, 103, 101, 116, 95, 102, 105, 108, 101, 110, 97, 109, 101, 35, 111, 112, 97, 113, 117, 101, 6, 314, 8, 103, 101, 116, 95, 100, 97, 116, 97, 9, 53, 95, 102, 114, 111, 122, 101, 110, 95, 105, 109, 112, 111, 114, 116, 108, 105, 98, 95, 101, 120, 116, 101, 114, 110, 97, 108, 46, 70, 105, 108, 101, 76, 111, 97, 100, 101, 114, 46, 103, 101, 116, 95, 100, 97, 116, 97, 35, 111, 112, 97, 113, 117, 101, 6, 315, 19, 103, 101, 116, 95, 114, 101, 115, 111, 117, 114, 99, 101, 95, 114, 101, 97, 100, 101, 114, 9, 64, 95, 102, 114, 111, 122, 101, 110, 95, 105, 109, 112, 111, 114, 116, 108, 105, 98, 95, 101, 120, 116, 101, 114, 110, 97, 108, 46, 70, 105, 108, 101, 76, 111, 97, 100, 101, 114, 46, 103, 101, 116, 95, 114, 101, 115, 111, 117, 114, 99, 101, 95, 114, 101, 97, 100, 101, 114, 35, 111, 112, 97, 113, 117, 101, 6, 316, 21, 95, 95, 115, 116, 97, 116, 105, 99, 95, 97, 116, 116, 114, 105, 98, 117, 116, 101, 115, 95, 95, 4, 0, 0, 39, 6, 318, 8, 95, 95, 100, 105, 99, 116, 95, 95, 4, 0, 0, 40, 6, 320, 11, 95, 95, 119, 101, 97, 107, 114, 101, 102, 95, 95, 4, 0, 0, 41]⟩
def y511915914 : Str := ⟨#[6, 327, 10, 95, 95, 109, 111, 100, 117, 108, 101, 95, 95, 6, 323, 26, 95, 102, 114, 111, 122, 101, 110, 95, 105, 109, 112, 111, 114, 116, 108, 105, 98, 95, 101, 120, 116, 101, 114, 110, 97, 108, 6, 328, 15, 95, 95, 102, 105, 114, 115, 116, 108, 105, 110, 101, 110, 111, 95, 95, 4, 324, 0, 1296, 6, 329, 7, 95, 95, 100, 111, 99, 95, 95, 9, 65, 95, 102, 114, 111, 122, 101, 110, 95, 105, 109, 112, 111, 114, 116, 108, 105, 98, 95, 101, 120, 116, 101, 114, 110, 97, 108, 46, 69, 120, 116, 101, 110, 115, 105, 111, 110, 70, 105, 108, 101, 76, 111, 97, 100, 101, 114, 46, 95, 95, 100, 111, 99, 95, 95, 58, 115, 116, 114, 35, 111, 112, 97, 113, 117, 101, 6, 330, 8, 95, 95, 105, 110, 105, 116, 95, 95, 9, 62, 95, 102, 114, 111, 122, 101, 110, 95, 105, 109, 112, 111, 114, 116, 108, 105, 98, 95, 101, 120, 116, 101, 114, 110, 97, 108, 46, 69, 120, 116, 101, 110, 115, 105, 111, 110, 70, 105, 108, 101, 76, 111, 97, 100, 101, 114, 46, 95, 95, 105, 110, 105, 116, 95, 95, 35, 111, 112, 97, 113, 117, 101, 6, 331, 6, 95, 95, 101, 113, 95, 95, 9, 60, 95, 102, 114, 111, 122, 101, 110, 95, 105, 109, 112, 111, 114, 116, 108, 105, 98, 95, 101, 120, 116, 101, 114, 110, 97, 108, 46, 69, 120, 116, 101, 110, 115, 105, 111, 110, 70, 105, 108, 101, 76, 111, 97, 100, 101, 114, 46, 95, 95, 101, 113, 95, 95, 35, 111, 112, 97, 113, 117, 101, 6, 332, 8, 95, 95, 104, 97, 115, 104, 95, 95, 9, 62, 95, 102, 114, 111, 122, 101, 110, 95, 105, 109, 112, 111, 114, 116, 108, 105, 98, 95, 101, 120, 116, 101, 114, 110, 97, 108, 46, 69, 120, 116, 101, 110, 115, 105, 111, 110, 70, 105, 108, 101, 76, 111, 97, 100, 101, 114, 46, 95, 95, 104, 97, 115, 104, 95, 95, 35, 111, 112, 97, 113, 117, 101, 6, 333, 13, 99, 114, 101, 97, 116, 101, 95, 109, 111, 100, 117, 108, 101, 9, 67, 95, 102, 114, 111, 122, 101, 110, 95, 105, 109, 112, 111, 114, 116, 108, 105, 98, 95, 101, 120, 116, 101, 114, 110, 97, 108, 46, 69, 120, 116, 101, 110, 115, 105, 111, 110, 70, 105, 108, 101, 76, 111, 97, 100, 101, 114, 46, 99, 114, 101, 97, 116, 101, 95, 109, 111, 100, 117, 108, 101, 35, 111, 112, 97, 113, 117, 101, 6, 334, 11, 101, 120, 101, 99, 95, 109, 111, 100, 117, 108, 101, 9, 65, 95, 102, 114, 111, 122, 101, 110, 95, 105, 109, 112, 111, 114, 116, 108, 105, 98, 95, 101, 120, 116, 101, 114, 110, 97, 108, 46, 69, 120, 116, 101, 110, 115, 105, 111, 110, 70, 105, 108, 101, 76, 111, 97, 100, 101, 114, 46, 101, 120, 101, 99, 95, 109, 111, 100, 117, 108, 101, 35, 111, 112, 97, 113, 117, 101, 6, 335, 10, 105, 115, 95, 112, 97, 99, 107, 97, 103, 101, 9, 64, 95, 102, 114, 111, 122, 101, 110, 95, 105, 109, 112, 111, 114, 116, 108, 105, 98, 95, 101, 120, 116, 101, 114, 110, 97, 108, 46, 69, 120, 116, 101, 110, 115, 105, 111, 110, 70, 105, 108, 101, 76, 111, 97, 100, 101, 114, 46, 105, 115, 95, 112, 97, 99, 107, 97, 103, 101, 35, 111, 112, 97, 113, 117, 101, 6, 336, 8, 103, 101, 116, 95, 99, 111, 100, 101, 9, 62, 95, 102, 114, 111, 122, 101, 110, 95, 105, 109, 112, 111, 114, 116, 108, 105, 98, 95, 101, 120, 116, 101, 114, 110, 97, 108, 46, 69, 120, 116, 101, 110, 115, 105, 111, 110, 70, 105, 108, 101, 76, 111, 97, 100, 101, 114, 46, 103, 101, 116, 95, 99, 111, 100, 101, 35, 111, 112, 97, 113, 117, 101, 6, 337, 10, 103, 101, 116, 95, 115, 111, 117, 114, 99, 101, 9, 64, 95, 102, 114, 111, 122, 101, 110, 95, 105, 109, 112, 111, 114, 116, 108, 105, 98, 95, 101, 120, 116, 101, 114, 110, 97, 108, 46, 69, 120, 116, 101, 110, 115, 105, 111, 110, 70, 105, 108, 101, 76, 111, 97, 100, 101, 114, 46, 103, 101, 116, 95, 115, 111, 117, 114, 99, 101, 35, 111, 112, 97, 113, 117, 101, 6, 338, 12, 103, 101, 116, 95, 102, 105, 108, 101, 110, 97, 109, 101, 9, 66, 95, 102, 114, 111, 122, 101, 110, 95, 105, 109, 112, 111, 114, 116, 108, 105, 98, 95, 101, 120, 116, 101, 114, 110, 97, 108, 46, 69, 120, 116, 101, 110, 115, 105, 111, 110, 70, 105, 108, 101, 76, 111, 97, 100, 101, 114, 46, 103, 101, 116, 95, 102, 105, 108, 101, 110, 97, 109, 101, 35, 111, 112, 97, 113, 117, 101, 6, 339, 21, 95, 95, 115, 116, 97, 116, 105, 99, 95, 97, 116, 116, 114, 105, 98, 117, 116, 101, 115, 95, 95, 4, 0, 0, 44]⟩
def zname : Str := ⟨#[110, 97, 109, 101]⟩
def zloader : Str := ⟨#[108, 111, 97, 100, 101, 114]⟩
def zorigin : Str := ⟨#[111, 114, 105, 103, 105, 110]⟩
def zloader_state : Str := ⟨#[108, 111, 97, 100, 101, 114, 95, 115, 116, 97, 116, 101]⟩
def zsubmodule_search_locations : Str := ⟨#[115, 117, 98, 109, 111, 100, 117, 108, 101, 95, 115, 101, 97, 114, 99, 104, 95, 108, 111, 99, 97, 116, 105, 111, 110, 115]⟩
def z_uninitialized_submodules : Str := ⟨#[95, 117, 110, 105, 110, 105, 116, 105, 97, 108, 105, 122, 101, 100, 95, 115, 117, 98, 109, 111, 100, 117, 108, 101, 115]⟩
def z_set_fileattr : Str := ⟨#[95, 115, 101, 116, 95, 102, 105, 108, 101, 97, 116, 116, 114]⟩
def z_cached : Str := ⟨#[95, 99, 97, 99, 104, 101, 100]⟩
def z_initializing : Str := ⟨#[95, 105, 110, 105, 116, 105, 97, 108, 105, 122, 105, 110, 103]⟩
def z__init__ : Str := ⟨#[95, 95, 105, 110, 105, 116, 95, 95]⟩
def z__repr__ : Str := ⟨#[95, 95, 114, 101, 112, 114, 95, 95]⟩
def z__eq__ : Str := ⟨#[95, 95, 101, 113, 95, 95]⟩
def zcached : Str := ⟨#[99, 97, 99, 104, 101, 100]⟩
def zparent : Str := ⟨#[112, 97, 114, 101, 110, 116]⟩
def zhas_location : Str := ⟨#[104, 97, 115, 95, 108, 111, 99, 97, 116, 105, 111, 110]⟩
def z__hash__ : Str := ⟨#[95, 95, 104, 97, 115, 104, 95, 95]⟩
def zModuleSpec : Str := ⟨#[77, 111, 100, 117, 108, 101, 83, 112, 101, 99]⟩
def y410212248 : Str := ⟨#[6, 247, 8, 95, 95, 110, 97, 109, 101, 95, 95, 6, 246, 4, 95, 115, 114, 101, 6, 248, 7, 95, 95, 100, 111, 99, 95, 95, 0, 6, 250, 11, 95, 95, 112, 97, 99, 107, 97, 103, 101, 95, 95, 6, 249, 0, 6, 251, 10, 95, 95, 108, 111, 97, 100, 101, 114, 95, 95, 4, 0, 0, 14, 6, 252, 8, 95, 95, 115, 112, 101, 99, 95, 95, 4, 0, 0, 26, 6, 253, 7, 99, 111, 109, 112, 105, 108, 101, 9, 12, 95, 115, 114, 101, 46, 99, 111, 109, 112, 105, 108, 101, 6, 254, 8, 116, 101, 109, 112, 108, 97, 116, 101, 9, 13, 95, 115, 114, 101, 46, 116, 101, 109, 112, 108, 97, 116, 101, 6, 255, 11, 103, 101, 116, 99, 111, 100, 101, 115, 105, 122, 101, 9, 16, 95, 115, 114, 101, 46, 103, 101, 116, 99, 111, 100, 101, 115, 105, 122, 101, 6, 256, 13, 97, 115, 99, 105, 105, 95, 105, 115, 99, 97, 115, 101, 100, 9, 18, 95, 115, 114, 101, 46, 97, 115, 99, 105, 105, 95, 105, 115, 99, 97, 115, 101, 100, 6, 257, 15, 117, 110, 105, 99, 111, 100, 101, 95, 105, 115, 99, 97, 115, 101, 100, 9, 20, 95, 115, 114, 101, 46, 117, 110, 105, 99, 111, 100, 101, 95, 105, 115, 99, 97, 115, 101, 100, 6, 258, 13, 97, 115, 99, 105, 105, 95, 116, 111, 108, 111, 119, 101, 114, 9, 18, 95, 115, 114, 101, 46, 97, 115, 99, 105, 105, 95, 116, 111, 108, 111, 119, 101, 114, 6, 259, 15, 117, 110, 105, 99, 111, 100, 101, 95, 116, 111, 108, 111, 119, 101, 114, 9, 20, 95, 115, 114, 101, 46, 117, 110, 105, 99, 111, 100, 101, 95, 116, 111, 108, 111, 119, 101, 114, 6, 261, 5, 77, 65, 71, 73, 67, 4, 260, 0, 20230612, 6, 263, 8, 67, 79, 68, 69, 83, 73, 90, 69, 4, 262, 0, 4, 6, 265, 9, 77, 65, 88, 82, 69, 80, 69, 65, 84, 4, 264, 0, 4294967295, 6, 267, 9, 77, 65, 88, 71, 82, 79, 85, 80, 83, 4, 266, 0, 1073741823, 6, 269, 9, 99, 111, 112, 121, 114, 105, 103, 104, 116, 6, 268, 53, 32, 83, 82, 69, 32, 50, 46, 50, 46, 50, 32, 67, 111, 112, 121, 114, 105, 103, 104, 116, 32, 40, 99, 41, 32, 49, 57, 57, 55, 45, 50, 48, 48, 50, 32, 98, 121, 32, 83, 101, 99, 114, 101, 116, 32, 76, 97, 98, 115, 32, 65, 66, 32]⟩
def y371166730 : Str := ⟨#[6, 354, 8, 95, 95, 110, 97, 109, 101, 95, 95, 6, 353, 4, 109, 97, 116, 104, 6, 355, 7, 95, 95, 100, 111, 99, 95, 95, 9, 23, 109, 97, 116, 104, 46, 95, 95, 100, 111, 99, 95, 95, 58, 115, 116, 114, 35, 111, 112, 97, 113, 117, 101, 6, 357, 11, 95, 95, 112, 97, 99, 107, 97, 103, 101, 95, 95, 6, 356, 0, 6, 358, 10, 95, 95, 108, 111, 97, 100, 101, 114, 95, 95, 4, 0, 0, 45, 6, 359, 8, 95, 95, 115, 112, 101, 99, 95, 95, 4, 0, 0, 48, 6, 360, 4, 97, 99, 111, 115, 9, 9, 109, 97, 116, 104, 46, 97, 99, 111, 115, 6, 361, 5, 97, 99, 111, 115, 104, 9, 10, 109, 97, 116, 104, 46, 97, 99, 111, 115, 104, 6, 362, 4, 97, 115, 105, 110, 9, 9, 109, 97, 116, 104, 46, 97, 115, 105, 110, 6, 363, 5, 97, 115, 105, 110, 104, 9, 10, 109, 97, 116, 104, 46, 97, 115, 105, 110, 104, 6, 364, 4, 97, 116, 97, 110, 9, 9, 109, 97, 116, 104, 46, 97, 116, 97, 110, 6, 365, 5, 97, 116, 97, 110, 50, 9, 10, 109, 97, 116, 104, 46, 97, 116, 97, 110, 50, 6, 366, 5, 97, 116, 97, 110, 104, 9, 10, 109, 97, 116, 104, 46, 97, 116, 97, 110, 104, 6, 367, 4, 99, 98, 114, 116, 9, 9, 109, 97, 116, 104, 46, 99, 98, 114, 116, 6, 368, 4, 99, 101, 105, 108, 9, 9, 109, 97, 116, 104, 46, 99, 101, 105, 108, 6, 369, 8, 99, 111, 112, 121, 115, 105, 103, 110, 9, 13, 109, 97, 116, 104, 46, 99, 111, 112, 121, 115, 105, 103, 110, 6, 370, 3, 99, 111, 115, 9, 8, 109, 97, 116, 104, 46, 99, 111, 115, 6, 371, 4, 99, 111, 115, 104, 9, 9, 109, 97, 116, 104, 46, 99, 111, 115, 104, 6, 372, 7, 100, 101, 103, 114, 101, 101, 115, 9, 12, 109, 97, 116, 104, 46, 100, 101, 103, 114, 101, 101, 115, 6, 373, 4, 100, 105, 115, 116, 9, 9, 109, 97, 116, 104, 46, 100, 105, 115, 116, 6, 374, 3, 101, 114, 102, 9, 8, 109, 97, 116, 104, 46, 101, 114, 102, 6, 375, 4, 101, 114, 102, 99, 9, 9, 109, 97, 116, 104, 46, 101, 114, 102, 99, 6, 376, 3, 101, 120, 112, 9, 8, 109, 97, 116, 104, 46, 101, 120, 112, 6, 377, 4, 101, 120, 112, 50, 9, 9, 109, 97, 116, 104, 46, 101, 120, 112, 50, 6, 378, 5, 101, 120, 112, 109, 49, 9, 10, 109, 97, 116, 104, 46, 101, 120, 112, 109, 49, 6, 379, 4, 102, 97, 98, 115, 9, 9, 109, 97, 116, 104, 46, 102, 97, 98, 115, 6, 380, 9, 102, 97, 99, 116, 111, 114, 105, 97, 108, 9, 14, 109, 97, 116, 104, 46, 102, 97, 99, 116, 111, 114, 105, 97, 108, 6, 381, 5, 102, 108, 111, 111, 114, 9, 10, 109, 97, 116, 104, 46, 102, 108, 111, 111, 114, 6, 382, 3, 102, 109, 97, 9, 8, 109, 97, 116, 104, 46, 102, 109, 97, 6, 383, 4, 102, 109, 111, 100, 9, 9, 109, 97, 116, 104, 46, 102, 109, 111, 100, 6, 384, 5, 102, 114, 101, 120, 112, 9, 10, 109, 97, 116, 104, 46, 102, 114, 101, 120, 112, 6, 385, 4, 102, 115, 117, 109, 9, 9, 109, 97, 116, 104, 46, 102, 115, 117, 109, 6, 386, 5, 103, 97, 109, 109, 97, 9, 10, 109, 97, 116, 104, 46, 103, 97, 109, 109, 97, 6, 387, 3, 103, 99, 100, 9, 8, 109, 97, 116, 104, 46, 103, 99, 100, 6, 388, 5, 104, 121, 112, 111, 116, 9, 10, 109, 97, 116, 104, 46, 104, 121, 112, 111, 116, 6, 389, 7, 105, 115, 99, 108, 111, 115, 101, 9, 12, 109, 97, 116, 104, 46, 105, 115, 99, 108, 111, 115, 101, 6, 390, 8, 105, 115, 102, 105, 110, 105, 116, 101, 9, 13, 109, 97, 116, 104, 46, 105, 115, 102, 105, 110, 105, 116, 101, 6, 391, 5, 105, 115, 105, 110, 102, 9, 10, 109, 97, 116, 104, 46, 105, 115, 105, 110, 102, 6, 392, 5, 105, 115, 110, 97, 110, 9, 10, 109, 97, 116, 104, 46, 105, 115, 110, 97, 110, 6, 393, 5, 105, 115, 113, 114, 116, 9, 10, 109, 97, 116, 104, 46, 105, 115, 113, 114, 116, 6, 394, 3, 108, 99, 109, 9, 8, 109, 97, 116, 104, 46, 108, 99, 109, 6, 395, 5, 108, 100, 101, 120, 112, 9, 10, 109, 97, 116, 104, 46, 108, 100, 101, 120, 112, 6, 396, 6, 108, 103, 97, 109, 109, 97, 9, 11, 109, 97, 116, 104, 46, 108, 103, 97, 109, 109, 97, 6, 397, 3, 108, 111, 103, 9, 8, 109, 97, 116, 104, 46, 108, 111, 103, 6, 398, 5, 108, 111, 103, 49, 112, 9, 10, 109, 97, 116, 104, 46, 108, 111, 103, 49, 112, 6, 399, 5, 108, 111, 103, 49, 48, 9, 10, 109, 97, 116, 104, 46, 108, 111, 103, 49, 48, 6, 400, 4, 108, 111, 103, 50, 9, 9, 109, 97, 116, 104, 46, 108, 111, 103, 50, 6, 401, 4, 109, 111, 100, 102, 9, 9, 109, 97, 116, 104, 46, 109, 111, 100, 102, 6, 402, 3, 112, 111, 119, 9, 8, 109, 97, 116, 104, 46, 112, 111, 119, 6, 403, 7, 114, 97, 100, 105, 97, 110, 115, 9, 12, 109, 97, 116, 104, 46, 114, 97, 100, 105, 97, 110, 115, 6, 404, 9, 114, 101, 109, 97, 105, 110, 100, 101, 114, 9, 14, 109, 97, 116, 104, 46, 114, 101, 109, 97, 105, 110, 100, 101, 114, 6, 405, 3, 115, 105, 110, 9, 8, 109, 97, 116, 104, 46, 115, 105, 110, 6, 406, 4, 115, 105, 110, 104, 9, 9, 109, 97, 116, 104, 46, 115, 105, 110, 104, 6, 407, 4, 115, 113, 114, 116, 9, 9, 109, 97, 116, 104, 46, 115, 113, 114, 116, 6, 408, 3, 116, 97, 110, 9, 8, 109, 97, 116, 104, 46, 116, 97, 110, 6, 409, 4, 116, 97, 110, 104, 9, 9, 109, 97, 116, 104, 46, 116, 97, 110, 104, 6, 410, 7, 115, 117, 109, 112, 114, 111, 100, 9, 12, 109, 97, 116, 104, 46, 115, 117, 109, 112, 114, 111, 100, 6, 411, 5, 116, 114, 117, 110, 99, 9, 10, 109, 97, 116, 104, 46, 116, 114, 117, 110, 99, 6, 412, 4, 112, 114, 111, 100, 9, 9, 109, 97, 116, 104, 46, 112, 114, 111, 100, 6, 413, 4, 112, 101, 114, 109, 9, 9, 109, 97, 116, 104, 46, 112, 101, 114, 109, 6, 414, 4, 99, 111, 109, 98, 9, 9, 109, 97, 116, 104, 46, 99, 111, 109, 98, 6, 415, 9, 110, 101, 120, 116, 97, 102, 116, 101, 114, 9, 14, 109, 97, 116, 104, 46, 110, 101, 120, 116, 97, 102, 116, 101, 114, 6, 416, 3, 117, 108, 112, 9, 8, 109, 97, 116, 104, 46, 117, 108, 112, 6, 417, 8, 95, 95, 102, 105, 108, 101, 95, 95, 6, 281, 123, 47, 110, 105, 120, 47, 115, 116, 111, 114, 101, 47, 119, 106, 49, 102, 53, 54, 113, 107, 121, 52, 112, 109, 106, 99, 55, 108, 48, 114, 54, 98, 54, 108, 55, 119, 104, 110, 110, 119, 55, 104, 112, 54, 45, 112, 121, 116, 104, 111, 110, 51, 45, 51, 46, 49, 51, 46, 49, 53, 47, 108, 105, 98, 47, 112, 121, 116, 104, 111, 110, 51, 46, 49, 51, 47, 108, 105, 98, 45, 100, 121, 110, 108, 111, 97, 100, 47, 109, 97, 116, 104, 46, 99, 112, 121, 116, 104, 111, 110, 45, 51, 49, 51, 45, 120, 56, 54, 95, 54, 52, 45, 108, 105, 110, 117, 120, 45, 103, 110, 117, 46, 115, 111, 6, 419, 2, 112, 105, 5, 418, 4614256656552045848, 6, 421, 1, 101, 5, 420, 4613303445314885481, 6, 423, 3, 116, 97, 117, 5, 422, 4618760256179416344, 6, 425, 3, 105, 110, 102, 5, 424, 9218868437227405312, 6, 427, 3, 110, 97, 110, 5, 426, 9221120237041090560]⟩
def y900070474 : Str := ⟨#[6, 458, 8, 95, 95, 110, 97, 109, 101, 95, 95, 6, 457, 11, 117, 110, 105, 99, 111, 100, 101, 100, 97, 116, 97, 6, 459, 7, 95, 95, 100, 111, 99, 95, 95, 9, 30, 117, 110, 105, 99, 111, 100, 101, 100, 97, 116, 97, 46, 95, 95, 100, 111, 99, 95, 95, 58, 115, 116, 114, 35, 111, 112, 97, 113, 117, 101, 6, 461, 11, 95, 95, 112, 97, 99, 107, 97, 103, 101, 95, 95, 6, 460, 0, 6, 462, 10, 95, 95, 108, 111, 97, 100, 101, 114, 95, 95, 4, 0, 0, 53, 6, 463, 8, 95, 95, 115, 112, 101, 99, 95, 95, 4, 0, 0, 56, 6, 464, 7, 100, 101, 99, 105, 109, 97, 108, 9, 19, 117, 110, 105, 99, 111, 100, 101, 100, 97, 116, 97, 46, 100, 101, 99, 105, 109, 97, 108, 6, 465, 5, 100, 105, 103, 105, 116, 9, 17, 117, 110, 105, 99, 111, 100, 101, 100, 97, 116, 97, 46, 100, 105, 103, 105, 116, 6, 466, 7, 110, 117, 109, 101, 114, 105, 99, 9, 19, 117, 110, 105, 99, 111, 100, 101, 100, 97, 116, 97, 46, 110, 117, 109, 101, 114, 105, 99, 6, 467, 8, 99, 97, 116, 101, 103, 111, 114, 121, 9, 20, 117, 110, 105, 99, 111, 100, 101, 100, 97, 116, 97, 46, 99, 97, 116, 101, 103, 111, 114, 121, 6, 468, 13, 98, 105, 100, 105, 114, 101, 99, 116, 105, 111, 110, 97, 108, 9, 25, 117, 110, 105, 99, 111, 100, 101, 100, 97, 116, 97, 46, 98, 105, 100, 105, 114, 101, 99, 116, 105, 111, 110, 97, 108, 6, 469, 9, 99, 111, 109, 98, 105, 110, 105, 110, 103, 9, 21, 117, 110, 105, 99, 111, 100, 101, 100, 97, 116, 97, 46, 99, 111, 109, 98, 105, 110, 105, 110, 103, 6, 470, 8, 109, 105, 114, 114, 111, 114, 101, 100, 9, 20, 117, 110, 105, 99, 111, 100, 101, 100, 97, 116, 97, 46, 109, 105, 114, 114, 111, 114, 101, 100, 6, 471, 16, 101, 97, 115, 116, 95, 97, 115, 105, 97, 110, 95, 119, 105, 100, 116, 104, 9, 28, 117, 110, 105, 99, 111, 100, 101, 100, 97, 116, 97, 46, 101, 97, 115, 116, 95, 97, 115, 105, 97, 110, 95, 119, 105, 100, 116, 104, 6, 472, 13, 100, 101, 99, 111, 109, 112, 111, 115, 105, 116, 105, 111, 110, 9, 25, 117, 110, 105, 99, 111, 100, 101, 100, 97, 116, 97, 46, 100, 101, 99, 111, 109, 112, 111, 115, 105, 116, 105, 111, 110, 6, 473, 4, 110, 97, 109, 101, 9, 16, 117, 110, 105, 99, 111, 100, 101, 100, 97, 116, 97, 46, 110, 97, 109, 101, 6, 474, 6, 108, 111, 111, 107, 117, 112, 9, 18, 117, 110, 105, 99, 111, 100, 101, 100, 97, 116, 97, 46, 108, 111, 111, 107, 117, 112, 6, 475, 13, 105, 115, 95, 110, 111, 114, 109, 97, 108, 105, 122, 101, 100, 9, 25, 117, 110, 105, 99, 111, 100, 101, 100, 97, 116, 97, 46, 105, 115, 95, 110, 111, 114, 109, 97, 108, 105, 122, 101, 100, 6, 476, 9, 110, 111, 114, 109, 97, 108, 105, 122, 101, 9, 21, 117, 110, 105, 99, 111, 100, 101, 100, 97, 116, 97, 46, 110, 111, 114, 109, 97, 108, 105, 122, 101, 6, 477, 8, 95, 95, 102, 105, 108, 101, 95, 95, 6, 441, 130, 47, 110, 105, 120, 47, 115, 116, 111, 114, 101, 47, 119, 106, 49, 102, 53, 54, 113, 107, 121, 52, 112, 109, 106, 99, 55, 108, 48, 114, 54, 98, 54, 108, 55, 119, 104, 110, 110, 119, 55, 104, 112, 54, 45, 112, 121, 116, 104, 111, 110, 51, 45, 51, 46, 49, 51, 46, 49, 53, 47, 108, 105, 98, 47, 112, 121, 116, 104, 111, 110, 51, 46, 49, 51, 47, 108, 105, 98, 45, 100, 121, 110, 108, 111, 97, 100, 47, 117, 110, 105, 99, 111, 100, 101, 100, 97, 116, 97, 46, 99, 112, 121, 116, 104, 111, 110, 45, 51, 49, 51, 45, 120, 56, 54, 95, 54, 52, 45, 108, 105, 110, 117, 120, 45, 103, 110, 117, 46, 115, 111, 6, 479, 15, 117, 110, 105, 100, 97, 116, 97, 95, 118, 101, 114, 115, 105, 111, 110, 6, 478, 6, 49, 53, 46, 49, 46, 48, 6, 480, 3, 85, 67, 68, 8, 15, 117, 110, 105, 99, 111, 100, 101, 100, 97, 116, 97, 46, 85, 67, 68, 6, 481, 9, 117, 99, 100, 95, 51, 95, 50, 95, 48, 4, 0, 0, 57, 6, 482, 13, 95, 117, 99, 110, 104, 97, 115, 104, 95, 67, 65, 80, 73, 9, 32, 117, 110, 105, 99, 111, 100, 101, 100, 97, 116, 97, 46, 95, 117, 99, 110, 104, 97, 115, 104, 95, 67, 65, 80, 73, 35, 111, 112, 97, 113, 117, 101]⟩
def zacos : Str := ⟨#[97, 99, 111, 115]⟩
def zacosh : Str := ⟨#[97, 99, 111, 115, 104]⟩
def zasin : Str := ⟨#[97, 115, 105, 110]⟩
def zasinh : Str := ⟨#[97, 115, 105, 110, 104]⟩
def zatan : Str := ⟨#[97, 116, 97, 110]⟩
def zatan2 : Str := ⟨#[97, 116, 97, 110, 50]⟩
def zatanh : Str := ⟨#[97, 116, 97, 110, 104]⟩
def zcbrt : Str := ⟨#[99, 98, 114, 116]⟩
def zceil : Str := ⟨#[99, 101, 105, 108]⟩
def zcopysign : Str := ⟨#[99, 111, 112, 121, 115, 105, 103, 110]⟩
def zcos : Str := ⟨#[99, 111, 115]⟩
def zcosh : Str := ⟨#[99, 111, 115, 104]⟩
def zdegrees : Str := ⟨#[100, 101, 103, 114, 101, 101, 115]⟩
def zdist : Str := ⟨#[100, 105, 115, 116]⟩
def zerf : Str := ⟨#[101, 114, 102]⟩
def zerfc : Str := ⟨#[101, 114, 102, 99]⟩
def zexp : Str := ⟨#[101, 120, 112]⟩
def zexp2 : Str := ⟨#[101, 120, 112, 50]⟩
def zexpm1 : Str := ⟨#[101, 120, 112, 109, 49]⟩
def zfabs : Str := ⟨#[102, 97, 98, 115]⟩
def zfactorial : Str := ⟨#[102, 97, 99, 116, 111, 114, 105, 97, 108]⟩
def zfloor : Str := ⟨#[102, 108, 111, 111, 114]⟩
def zfma : Str := ⟨#[102, 109, 97]⟩
def zfmod : Str := ⟨#[102, 109, 111, 100]⟩
def zfrexp : Str := ⟨#[102, 114, 101, 120, 112]⟩
def zfsum : Str := ⟨#[102, 115, 117, 109]⟩
def zgamma : Str := ⟨#[103, 97, 109, 109, 97]⟩
def zgcd : Str := ⟨#[103, 99, 100]⟩
def zhypot : Str := ⟨#[104, 121, 112, 111, 116]⟩
def zisclose : Str := ⟨#[105, 115, 99, 108, 111, 115, 101]⟩
def zisfinite : Str := ⟨#[105, 115, 102, 105, 110, 105, 116, 101]⟩
def zisinf : Str := ⟨#[105, 115, 105, 110, 102]⟩
def zisqrt : Str := ⟨#[105, 115, 113, 114, 116]⟩
def zlcm : Str := ⟨#[108, 99, 109]⟩
def zldexp : Str := ⟨#[108, 100, 101, 120, 112]⟩
def zlgamma : Str := ⟨#[108, 103, 97, 109, 109, 97]⟩
def zlog : Str := ⟨#[108, 111, 103]⟩
def zlog1p : Str := ⟨#[108, 111, 103, 49, 112]⟩
def zlog10 : Str := ⟨#[108, 111, 103, 49, 48]⟩
def zlog2 : Str := ⟨#[108, 111, 103, 50]⟩
def zmodf : Str := ⟨#[109, 111, 100, 102]⟩
def zradians : Str := ⟨#[114, 97, 100, 105, 97, 110, 115]⟩
def zremainder : Str := ⟨#[114, 101, 109, 97, 105, 110, 100, 101, 114]⟩
def zsin : Str := ⟨#[115, 105, 110]⟩
def zsinh : Str := ⟨#[115, 105, 110, 104]⟩
def zsqrt : Str := ⟨#[115, 113, 114, 116]⟩
def ztan : Str := ⟨#[116, 97, 110]⟩
def ztanh : Str := ⟨#[116, 97, 110, 104]⟩
def zsumprod : Str := ⟨#[115, 117, 109, 112, 114, 111, 100]⟩
def ztrunc : Str := ⟨#[116, 114, 117, 110, 99]⟩
def zprod : Str := ⟨#[112, 114, 111, 100]⟩
def zperm : Str := ⟨#[112, 101, 114, 109]⟩
def zcomb : Str := ⟨#[99, 111, 109, 98]⟩
def znextafter : Str := ⟨#[110, 101, 120, 116, 97, 102, 116, 101, 114]⟩
def zulp : Str := ⟨#[117, 108, 112]⟩
def y144390514 : Str := ⟨#[47, 110, 105, 120, 47, 115, 116, 111, 114, 101, 47, 119, 106, 49, 102, 53, 54, 113, 107, 121, 52, 112, 109, 106, 99, 55, 108, 48, 114, 54, 98, 54, 108, 55, 119, 104, 110, 110, 119, 55, 104, 112, 54, 45, 112, 121, 116, 104, 111, 110, 51, 45, 51, 46, 49, 51, 46, 49, 53, 47, 108, 105, 98, 47, 112, 121, 116, 104, 111, 110, 51, 46, 49, 51, 47, 108, 105, 98, 45, 100, 121, 110, 108, 111, 97, 100, 47, 109, 97, 116, 104, 46, 99, 112, 121, 116, 104, 111, 110, 45, 51, 49, 51, 45, 120, 56, 54, 95, 54, 52, 45, 108, 105, 110, 117, 120, 45, 103, 110, 117, 46, 115, 111]⟩
def zpi : Str := ⟨#[112, 105]⟩
def ze : Str := ⟨#[101]⟩
def ztau : Str := ⟨#[116, 97, 117]⟩
def zinf : Str := ⟨#[105, 110, 102]⟩
def znan : Str := ⟨#[110, 97, 110]⟩
def zpath : Str := ⟨#[112, 97, 116, 104]⟩
def z_frozen_importlib_external : Str := ⟨#[95, 102, 114, 111, 122, 101, 110, 95, 105, 109, 112, 111, 114, 116, 108, 105, 98, 95, 101, 120, 116, 101, 114, 110, 97, 108]⟩
def z_LoaderBasics : Str := ⟨#[95, 76, 111, 97, 100, 101, 114, 66, 97, 115, 105, 99, 115]⟩
def zget_filename : Str := ⟨#[103, 101, 116, 95, 102, 105, 108, 101, 110, 97, 109, 101]⟩
def zget_data : Str := ⟨#[103, 101, 116, 95, 100, 97, 116, 97]⟩
def zget_resource_reader : Str := ⟨#[103, 101, 116, 95, 114, 101, 115, 111, 117, 114, 99, 101, 95, 114, 101, 97, 100, 101, 114]⟩
def zFileLoader : Str := ⟨#[70, 105, 108, 101, 76, 111, 97, 100, 101, 114]⟩
def zExtensionFileLoader : Str := ⟨#[69, 120, 116, 101, 110, 115, 105, 111, 110, 70, 105, 108, 101, 76, 111, 97, 100, 101, 114]⟩
def zdecimal : Str := ⟨#[100, 101, 99, 105, 109, 97, 108]⟩
def zdigit : Str := ⟨#[100, 105, 103, 105, 116]⟩
def znumeric : Str := ⟨#[110, 117, 109, 101, 114, 105, 99]⟩
def zbidirectional : Str := ⟨#[98, 105, 100, 105, 114, 101, 99, 116, 105, 111, 110, 97, 108]⟩
def zcombining : Str := ⟨#[99, 111, 109, 98, 105, 110, 105, 110, 103]⟩
def zmirrored : Str := ⟨#[109, 105, 114, 114, 111, 114, 101, 100]⟩
def zeast_asian_width : Str := ⟨#[101, 97, 115, 116, 95, 97, 115, 105, 97, 110, 95, 119, 105, 100, 116, 104]⟩
def zdecomposition : Str := ⟨#[100, 101, 99, 111, 109, 112, 111, 115, 105, 116, 105, 111, 110]⟩
def zlookup : Str := ⟨#[108, 111, 111, 107, 117, 112]⟩
def zis_normalized : Str := ⟨#[105, 115, 95, 110, 111, 114, 109, 97, 108, 105, 122, 101, 100]⟩
def znormalize : Str := ⟨#[110, 111, 114, 109, 97, 108, 105, 122, 101]⟩
def y704854272 : Str := ⟨#[47, 110, 105, 120, 47, 115, 116, 111, 114, 101, 47, 119, 106, 49, 102, 53, 54, 113, 107, 121, 52, 112, 109, 106, 99, 55, 108, 48, 114, 54, 98, 54, 108, 55, 119, 104, 110, 110, 119, 55, 104, 112, 54, 45, 112, 121, 116, 104, 111, 110, 51, 45, 51, 46, 49, 51, 46, 49, 53, 47, 108, 105, 98, 47, 112, 121, 116, 104, 111, 110, 51, 46, 49, 51, 47, 108, 105, 98, 45, 100, 121, 110, 108, 111, 97, 100, 47, 117, 110, 105, 99, 111, 100, 101, 100, 97, 116, 97, 46, 99, 112, 121, 116, 104, 111, 110, 45, 51, 49, 51, 45, 120, 56, 54, 95, 54, 52, 45, 108, 105, 110, 117, 120, 45, 103, 110, 117, 46, 115, 111]⟩
def zunidata_version : Str := ⟨#[117, 110, 105, 100, 97, 116, 97, 95, 118, 101, 114, 115, 105, 111, 110]⟩
def y610794130 : Str := ⟨#[49, 53, 46, 49, 46, 48]⟩
def zUCD : Str := ⟨#[85, 67, 68]⟩
def zucd_3_2_0 : Str := ⟨#[117, 99, 100, 95, 51, 95, 50, 95, 48]⟩
def z_ucnhash_CAPI : Str := ⟨#[95, 117, 99, 110, 104, 97, 115, 104, 95, 67, 65, 80, 73]⟩
def zk : Str := ⟨#[107]⟩
def z_written_out_ : Str := ⟨#[95, 119, 114, 105, 116, 116, 101, 110, 95, 111, 117, 116, 95]⟩
def z_is_flag_ : Str := ⟨#[95, 105, 115, 95, 102, 108, 97, 103, 95]⟩
def z_given_values_ : Str := ⟨#[95, 103, 105, 118, 101, 110, 95, 118, 97, 108, 117, 101, 115, 95]⟩
def z_held_init_ : Str := ⟨#[95, 104, 101, 108, 100, 95, 105, 110, 105, 116, 95]⟩
def z_making_ : Str := ⟨#[95, 109, 97, 107, 105, 110, 103, 95]⟩
def z__qualname__ : Str := ⟨#[95, 95, 113, 117, 97, 108, 110, 97, 109, 101, 95, 95]⟩
def z__slots__ : Str := ⟨#[95, 95, 115, 108, 111, 116, 115, 95, 95]⟩
def z__new__ : Str := ⟨#[95, 95, 110, 101, 119, 95, 95]⟩
def z__reduce_ex__ : Str := ⟨#[95, 95, 114, 101, 100, 117, 99, 101, 95, 101, 120, 95, 95]⟩
def z__getitem__ : Str := ⟨#[95, 95, 103, 101, 116, 105, 116, 101, 109, 95, 95]⟩
def z__len__ : Str := ⟨#[95, 95, 108, 101, 110, 95, 95]⟩
def z__iter__ : Str := ⟨#[95, 95, 105, 116, 101, 114, 95, 95]⟩
def z__reversed__ : Str := ⟨#[95, 95, 114, 101, 118, 101, 114, 115, 101, 100, 95, 95]⟩
def z__contains__ : Str := ⟨#[95, 95, 99, 111, 110, 116, 97, 105, 110, 115, 95, 95]⟩
def z__str__ : Str := ⟨#[95, 95, 115, 116, 114, 95, 95]⟩
def z__ne__ : Str := ⟨#[95, 95, 110, 101, 95, 95]⟩
def z__lt__ : Str := ⟨#[95, 95, 108, 116, 95, 95]⟩
def z__le__ : Str := ⟨#[95, 95, 108, 101, 95, 95]⟩
def z__gt__ : Str := ⟨#[95, 95, 103, 116, 95, 95]⟩
def z__ge__ : Str := ⟨#[95, 95, 103, 101, 95, 95]⟩
def z__or__ : Str := ⟨#[95, 95, 111, 114, 95, 95]⟩
def z__ror__ : Str := ⟨#[95, 95, 114, 111, 114, 95, 95]⟩
def z__ior__ : Str := ⟨#[95, 95, 105, 111, 114, 95, 95]⟩
def zget : Str := ⟨#[103, 101, 116]⟩
def zkeys : Str := ⟨#[107, 101, 121, 115]⟩
def zvalues : Str := ⟨#[118, 97, 108, 117, 101, 115]⟩
def zitems : Str := ⟨#[105, 116, 101, 109, 115]⟩
def zcopy : Str := ⟨#[99, 111, 112, 121]⟩
def zenum : Str := ⟨#[101, 110, 117, 109]⟩
def z_mapping : Str := ⟨#[95, 109, 97, 112, 112, 105, 110, 103]⟩
def zcls : Str := ⟨#[99, 108, 115]⟩
def zmapping : Str := ⟨#[109, 97, 112, 112, 105, 110, 103]⟩
def zself : Str := ⟨#[115, 101, 108, 102]⟩
def y230081155 : Str := ⟨#[109, 97, 112, 112, 105, 110, 103, 112, 114, 111, 120, 121, 46, 95, 95, 110, 101, 119, 95, 95]⟩
def zprotocol : Str := ⟨#[112, 114, 111, 116, 111, 99, 111, 108]⟩
def y526292654 : Str := ⟨#[109, 97, 112, 112, 105, 110, 103, 112, 114, 111, 120, 121, 46, 95, 95, 114, 101, 100, 117, 99, 101, 95, 101, 120, 95, 95]⟩
def zkey : Str := ⟨#[107, 101, 121]⟩
def y657782686 : Str := ⟨#[109, 97, 112, 112, 105, 110, 103, 112, 114, 111, 120, 121, 46, 95, 95, 103, 101, 116, 105, 116, 101, 109, 95, 95]⟩
def y725560294 : Str := ⟨#[109, 97, 112, 112, 105, 110, 103, 112, 114, 111, 120, 121, 46, 95, 95, 108, 101, 110, 95, 95]⟩
def y120632617 : Str := ⟨#[109, 97, 112, 112, 105, 110, 103, 112, 114, 111, 120, 121, 46, 95, 95, 105, 116, 101, 114, 95, 95]⟩
def y360123261 : Str := ⟨#[109, 97, 112, 112, 105, 110, 103, 112, 114, 111, 120, 121, 46, 95, 95, 114, 101, 118, 101, 114, 115, 101, 100, 95, 95]⟩
def y141172826 : Str := ⟨#[109, 97, 112, 112, 105, 110, 103, 112, 114, 111, 120, 121, 46, 95, 95, 99, 111, 110, 116, 97, 105, 110, 115, 95, 95]⟩
def y864132640 : Str := ⟨#[109, 97, 112, 112, 105, 110, 103, 112, 114, 111, 120, 121, 46, 95, 95, 114, 101, 112, 114, 95, 95]⟩
def y136668632 : Str := ⟨#[109, 97, 112, 112, 105, 110, 103, 112, 114, 111, 120, 121, 46, 95, 95, 115, 116, 114, 95, 95]⟩
def zother : Str := ⟨#[111, 116, 104, 101, 114]⟩
def y168197232 : Str := ⟨#[109, 97, 112, 112, 105, 110, 103, 112, 114, 111, 120, 121, 46, 95, 95, 101, 113, 95, 95]⟩
def y386287663 : Str := ⟨#[109, 97, 112, 112, 105, 110, 103, 112, 114, 111, 120, 121, 46, 95, 95, 110, 101, 95, 95]⟩
def y782512150 : Str := ⟨#[109, 97, 112, 112, 105, 110, 103, 112, 114, 111, 120, 121, 46, 95, 95, 108, 116, 95, 95]⟩
def y344409285 : Str := ⟨#[109, 97, 112, 112, 105, 110, 103, 112, 114, 111, 120, 121, 46, 95, 95, 108, 101, 95, 95]⟩
def y214805526 : Str := ⟨#[109, 97, 112, 112, 105, 110, 103, 112, 114, 111, 120, 121, 46, 95, 95, 103, 116, 95, 95]⟩
def y588107090 : Str := ⟨#[109, 97, 112, 112, 105, 110, 103, 112, 114, 111, 120, 121, 46, 95, 95, 103, 101, 95, 95]⟩
def y436427202 : Str := ⟨#[109, 97, 112, 112, 105, 110, 103, 112, 114, 111, 120, 121, 46, 95, 95, 104, 97, 115, 104, 95, 95]⟩
def y237726455 : Str := ⟨#[109, 97, 112, 112, 105, 110, 103, 112, 114, 111, 120, 121, 46, 95, 95, 111, 114, 95, 95]⟩
def y785623112 : Str := ⟨#[109, 97, 112, 112, 105, 110, 103, 112, 114, 111, 120, 121, 46, 95, 95, 114, 111, 114, 95, 95]⟩
def y90316349 : Str := ⟨#[109, 97, 112, 112, 105, 110, 103, 112, 114, 111, 120, 121, 46, 95, 95, 105, 111, 114, 95, 95]⟩
def zdefault : Str := ⟨#[100, 101, 102, 97, 117, 108, 116]⟩
def y686640644 : Str := ⟨#[109, 97, 112, 112, 105, 110, 103, 112, 114, 111, 120, 121, 46, 103, 101, 116]⟩
def y472923005 : Str := ⟨#[109, 97, 112, 112, 105, 110, 103, 112, 114, 111, 120, 121, 46, 107, 101, 121, 115]⟩
def y129017582 : Str := ⟨#[109, 97, 112, 112, 105, 110, 103, 112, 114, 111, 120, 121, 46, 118, 97, 108, 117, 101, 115]⟩
def y363384153 : Str := ⟨#[109, 97, 112, 112, 105, 110, 103, 112, 114, 111, 120, 121, 46, 105, 116, 101, 109, 115]⟩
def y196925823 : Str := ⟨#[109, 97, 112, 112, 105, 110, 103, 112, 114, 111, 120, 121, 46, 99, 111, 112, 121]⟩
def z_planted_ : Str := ⟨#[95, 112, 108, 97, 110, 116, 101, 100, 95]⟩
def z_planted_at_ : Str := ⟨#[95, 112, 108, 97, 110, 116, 101, 100, 95, 97, 116, 95]⟩
def z_held_value_ : Str := ⟨#[95, 104, 101, 108, 100, 95, 118, 97, 108, 117, 101, 95]⟩
def z_canonical_ : Str := ⟨#[95, 99, 97, 110, 111, 110, 105, 99, 97, 108, 95]⟩
def z_book_value_ : Str := ⟨#[95, 98, 111, 111, 107, 95, 118, 97, 108, 117, 101, 95]⟩
def z_mixed_ : Str := ⟨#[95, 109, 105, 120, 101, 100, 95]⟩
def z_held_def_ : Str := ⟨#[95, 104, 101, 108, 100, 95, 100, 101, 102, 95]⟩
def z_closed_ : Str := ⟨#[95, 99, 108, 111, 115, 101, 100, 95]⟩
def z_held_auto_ : Str := ⟨#[95, 104, 101, 108, 100, 95, 97, 117, 116, 111, 95]⟩
def z_unique_ : Str := ⟨#[95, 117, 110, 105, 113, 117, 101, 95]⟩
def z_close_ : Str := ⟨#[95, 99, 108, 111, 115, 101, 95]⟩
def z_expect_ : Str := ⟨#[95, 101, 120, 112, 101, 99, 116, 95]⟩
def z_value_of_ : Str := ⟨#[95, 118, 97, 108, 117, 101, 95, 111, 102, 95]⟩
def z_args_of_ : Str := ⟨#[95, 97, 114, 103, 115, 95, 111, 102, 95]⟩
def z__bool__ : Str := ⟨#[95, 95, 98, 111, 111, 108, 95, 95]⟩
def z__call__ : Str := ⟨#[95, 95, 99, 97, 108, 108, 95, 95]⟩
def z__members__ : Str := ⟨#[95, 95, 109, 101, 109, 98, 101, 114, 115, 95, 95]⟩
def z__setattr__ : Str := ⟨#[95, 95, 115, 101, 116, 97, 116, 116, 114, 95, 95]⟩
def z__delattr__ : Str := ⟨#[95, 95, 100, 101, 108, 97, 116, 116, 114, 95, 95]⟩
def z_store_ : Str := ⟨#[95, 115, 116, 111, 114, 101, 95]⟩
def z__dir__ : Str := ⟨#[95, 95, 100, 105, 114, 95, 95]⟩
def z__classcell__ : Str := ⟨#[95, 95, 99, 108, 97, 115, 115, 99, 101, 108, 108, 95, 95]⟩
def z__class__ : Str := ⟨#[95, 95, 99, 108, 97, 115, 115, 95, 95]⟩
def zmetacls : Str := ⟨#[109, 101, 116, 97, 99, 108, 115]⟩
def zbases : Str := ⟨#[98, 97, 115, 101, 115]⟩
def zclassdict : Str := ⟨#[99, 108, 97, 115, 115, 100, 105, 99, 116]⟩
def zkwds : Str := ⟨#[107, 119, 100, 115]⟩
def zmade : Str := ⟨#[109, 97, 100, 101]⟩
def y41659964 : Str := ⟨#[69, 110, 117, 109, 84, 121, 112, 101, 46, 95, 95, 110, 101, 119, 95, 95]⟩
def zown_init : Str := ⟨#[111, 119, 110, 95, 105, 110, 105, 116]⟩
def zasks_new : Str := ⟨#[97, 115, 107, 115, 95, 110, 101, 119]⟩
def y242401445 : Str := ⟨#[69, 110, 117, 109, 84, 121, 112, 101, 46, 95, 112, 108, 97, 110, 116, 101, 100, 95]⟩
def y567173102 : Str := ⟨#[69, 110, 117, 109, 84, 121, 112, 101, 46, 95, 112, 108, 97, 110, 116, 101, 100, 95, 97, 116, 95]⟩
def zvalue : Str := ⟨#[118, 97, 108, 117, 101]⟩
def zdata : Str := ⟨#[100, 97, 116, 97]⟩
def y70532190 : Str := ⟨#[69, 110, 117, 109, 84, 121, 112, 101, 46, 95, 104, 101, 108, 100, 95, 118, 97, 108, 117, 101, 95]⟩
def zmember : Str := ⟨#[109, 101, 109, 98, 101, 114]⟩
def y590110534 : Str := ⟨#[69, 110, 117, 109, 84, 121, 112, 101, 46, 95, 99, 97, 110, 111, 110, 105, 99, 97, 108, 95]⟩
def y893056998 : Str := ⟨#[69, 110, 117, 109, 84, 121, 112, 101, 46, 95, 98, 111, 111, 107, 95, 118, 97, 108, 117, 101, 95]⟩
def zmixins : Str := ⟨#[109, 105, 120, 105, 110, 115]⟩
def y945190516 : Str := ⟨#[69, 110, 117, 109, 84, 121, 112, 101, 46, 95, 109, 105, 120, 101, 100, 95]⟩
def zmaker : Str := ⟨#[109, 97, 107, 101, 114]⟩
def y551534737 : Str := ⟨#[69, 110, 117, 109, 84, 121, 112, 101, 46, 95, 104, 101, 108, 100, 95, 100, 101, 102, 95]⟩
def y140122718 : Str := ⟨#[69, 110, 117, 109, 84, 121, 112, 101, 46, 95, 99, 108, 111, 115, 101, 100, 95]⟩
def y864249106 : Str := ⟨#[69, 110, 117, 109, 84, 121, 112, 101, 46, 95, 104, 101, 108, 100, 95, 97, 117, 116, 111, 95]⟩
def y835427616 : Str := ⟨#[69, 110, 117, 109, 84, 121, 112, 101, 46, 95, 117, 110, 105, 113, 117, 101, 95]⟩
def y296228406 : Str := ⟨#[69, 110, 117, 109, 84, 121, 112, 101, 46, 95, 99, 108, 111, 115, 101, 95]⟩
def znames : Str := ⟨#[110, 97, 109, 101, 115]⟩
def y313419923 : Str := ⟨#[69, 110, 117, 109, 84, 121, 112, 101, 46, 95, 101, 120, 112, 101, 99, 116, 95]⟩
def zargs : Str := ⟨#[97, 114, 103, 115]⟩
def y466725079 : Str := ⟨#[69, 110, 117, 109, 84, 121, 112, 101, 46, 95, 118, 97, 108, 117, 101, 95, 111, 102, 95]⟩
def y265190002 : Str := ⟨#[69, 110, 117, 109, 84, 121, 112, 101, 46, 95, 97, 114, 103, 115, 95, 111, 102, 95]⟩
def y296373110 : Str := ⟨#[69, 110, 117, 109, 84, 121, 112, 101, 46, 95, 95, 98, 111, 111, 108, 95, 95]⟩
def y280669879 : Str := ⟨#[69, 110, 117, 109, 84, 121, 112, 101, 46, 95, 95, 99, 97, 108, 108, 95, 95]⟩
def zresult : Str := ⟨#[114, 101, 115, 117, 108, 116]⟩
def y693753454 : Str := ⟨#[69, 110, 117, 109, 84, 121, 112, 101, 46, 95, 95, 99, 111, 110, 116, 97, 105, 110, 115, 95, 95]⟩
def y896719233 : Str := ⟨#[69, 110, 117, 109, 84, 121, 112, 101, 46, 95, 95, 103, 101, 116, 105, 116, 101, 109, 95, 95]⟩
def y924362947 : Str := ⟨#[69, 110, 117, 109, 84, 121, 112, 101, 46, 95, 95, 105, 116, 101, 114, 95, 95]⟩
def y823841821 : Str := ⟨#[69, 110, 117, 109, 84, 121, 112, 101, 46, 95, 95, 108, 101, 110, 95, 95]⟩
def y104303411 : Str := ⟨#[69, 110, 117, 109, 84, 121, 112, 101, 46, 95, 95, 109, 101, 109, 98, 101, 114, 115, 95, 95]⟩
def y944599998 : Str := ⟨#[69, 110, 117, 109, 84, 121, 112, 101, 46, 95, 95, 114, 101, 112, 114, 95, 95]⟩
def y639467848 : Str := ⟨#[69, 110, 117, 109, 84, 121, 112, 101, 46, 95, 95, 114, 101, 118, 101, 114, 115, 101, 100, 95, 95]⟩
def y445767559 : Str := ⟨#[69, 110, 117, 109, 84, 121, 112, 101, 46, 95, 95, 115, 101, 116, 97, 116, 116, 114, 95, 95]⟩
def zattr : Str := ⟨#[97, 116, 116, 114]⟩
def y974669264 : Str := ⟨#[69, 110, 117, 109, 84, 121, 112, 101, 46, 95, 95, 100, 101, 108, 97, 116, 116, 114, 95, 95]⟩
def y4258319 : Str := ⟨#[69, 110, 117, 109, 84, 121, 112, 101, 46, 95, 115, 116, 111, 114, 101, 95]⟩
def y20566981 : Str := ⟨#[69, 110, 117, 109, 84, 121, 112, 101, 46, 95, 95, 100, 105, 114, 95, 95]⟩
def z__get__ : Str := ⟨#[95, 95, 103, 101, 116, 95, 95]⟩
def z__set__ : Str := ⟨#[95, 95, 115, 101, 116, 95, 95]⟩
def z__delete__ : Str := ⟨#[95, 95, 100, 101, 108, 101, 116, 101, 95, 95]⟩
def y803337846 : Str := ⟨#[95, 69, 110, 117, 109, 70, 105, 101, 108, 100, 46, 95, 95, 105, 110, 105, 116, 95, 95]⟩
def zinstance : Str := ⟨#[105, 110, 115, 116, 97, 110, 99, 101]⟩
def zownerclass : Str := ⟨#[111, 119, 110, 101, 114, 99, 108, 97, 115, 115]⟩
def y818097303 : Str := ⟨#[95, 69, 110, 117, 109, 70, 105, 101, 108, 100, 46, 95, 95, 103, 101, 116, 95, 95]⟩
def y191477317 : Str := ⟨#[95, 69, 110, 117, 109, 70, 105, 101, 108, 100, 46, 95, 95, 115, 101, 116, 95, 95]⟩
def y129796739 : Str := ⟨#[95, 69, 110, 117, 109, 70, 105, 101, 108, 100, 46, 95, 95, 100, 101, 108, 101, 116, 101, 95, 95]⟩
def z_member_names_ : Str := ⟨#[95, 109, 101, 109, 98, 101, 114, 95, 110, 97, 109, 101, 115, 95]⟩
def z_member_map_ : Str := ⟨#[95, 109, 101, 109, 98, 101, 114, 95, 109, 97, 112, 95]⟩
def z_value2member_map_ : Str := ⟨#[95, 118, 97, 108, 117, 101, 50, 109, 101, 109, 98, 101, 114, 95, 109, 97, 112, 95]⟩
def z_hashable_values_ : Str := ⟨#[95, 104, 97, 115, 104, 97, 98, 108, 101, 95, 118, 97, 108, 117, 101, 115, 95]⟩
def z_unhashable_values_ : Str := ⟨#[95, 117, 110, 104, 97, 115, 104, 97, 98, 108, 101, 95, 118, 97, 108, 117, 101, 115, 95]⟩
def z_unhashable_values_map_ : Str := ⟨#[95, 117, 110, 104, 97, 115, 104, 97, 98, 108, 101, 95, 118, 97, 108, 117, 101, 115, 95, 109, 97, 112, 95]⟩
def z_members_ : Str := ⟨#[95, 109, 101, 109, 98, 101, 114, 115, 95]⟩
def z_value_repr_ : Str := ⟨#[95, 118, 97, 108, 117, 101, 95, 114, 101, 112, 114, 95]⟩
def z_missing_ : Str := ⟨#[95, 109, 105, 115, 115, 105, 110, 103, 95]⟩
def z__format__ : Str := ⟨#[95, 95, 102, 111, 114, 109, 97, 116, 95, 95]⟩
def z__deepcopy__ : Str := ⟨#[95, 95, 100, 101, 101, 112, 99, 111, 112, 121, 95, 95]⟩
def z__copy__ : Str := ⟨#[95, 95, 99, 111, 112, 121, 95, 95]⟩
def z_add_alias_ : Str := ⟨#[95, 97, 100, 100, 95, 97, 108, 105, 97, 115, 95]⟩
def z_add_value_alias_ : Str := ⟨#[95, 97, 100, 100, 95, 118, 97, 108, 117, 101, 95, 97, 108, 105, 97, 115, 95]⟩
def zunhashable_values : Str := ⟨#[117, 110, 104, 97, 115, 104, 97, 98, 108, 101, 95, 118, 97, 108, 117, 101, 115]⟩
def zexc : Str := ⟨#[101, 120, 99]⟩
def zve_exc : Str := ⟨#[118, 101, 95, 101, 120, 99]⟩
def y12389324 : Str := ⟨#[69, 110, 117, 109, 46, 95, 95, 110, 101, 119, 95, 95]⟩
def y657592210 : Str := ⟨#[69, 110, 117, 109, 46, 95, 109, 105, 115, 115, 105, 110, 103, 95]⟩
def y169259725 : Str := ⟨#[69, 110, 117, 109, 46, 95, 95, 105, 110, 105, 116, 95, 95]⟩
def zv_repr : Str := ⟨#[118, 95, 114, 101, 112, 114]⟩
def y331143345 : Str := ⟨#[69, 110, 117, 109, 46, 95, 95, 114, 101, 112, 114, 95, 95]⟩
def y534186974 : Str := ⟨#[69, 110, 117, 109, 46, 95, 95, 115, 116, 114, 95, 95]⟩
def zformat_spec : Str := ⟨#[102, 111, 114, 109, 97, 116, 95, 115, 112, 101, 99]⟩
def y11182610 : Str := ⟨#[69, 110, 117, 109, 46, 95, 95, 102, 111, 114, 109, 97, 116, 95, 95]⟩
def y854960212 : Str := ⟨#[69, 110, 117, 109, 46, 95, 95, 104, 97, 115, 104, 95, 95]⟩
def zproto : Str := ⟨#[112, 114, 111, 116, 111]⟩
def y677251748 : Str := ⟨#[69, 110, 117, 109, 46, 95, 95, 114, 101, 100, 117, 99, 101, 95, 101, 120, 95, 95]⟩
def zmemo : Str := ⟨#[109, 101, 109, 111]⟩
def y458885963 : Str := ⟨#[69, 110, 117, 109, 46, 95, 95, 100, 101, 101, 112, 99, 111, 112, 121, 95, 95]⟩
def y316481652 : Str := ⟨#[69, 110, 117, 109, 46, 95, 95, 99, 111, 112, 121, 95, 95]⟩
def y953078789 : Str := ⟨#[69, 110, 117, 109, 46, 95, 95, 100, 105, 114, 95, 95]⟩
def y68098526 : Str := ⟨#[69, 110, 117, 109, 46, 95, 97, 100, 100, 95, 97, 108, 105, 97, 115, 95]⟩
def y632529649 : Str := ⟨#[69, 110, 117, 109, 46, 95, 97, 100, 100, 95, 118, 97, 108, 117, 101, 95, 97, 108, 105, 97, 115, 95]⟩
def y445419200 : Str := ⟨#[106, 115, 111, 110, 53, 46, 108, 105, 98]⟩
def zALWAYS_DOUBLE : Str := ⟨#[65, 76, 87, 65, 89, 83, 95, 68, 79, 85, 66, 76, 69]⟩
def zALWAYS_SINGLE : Str := ⟨#[65, 76, 87, 65, 89, 83, 95, 83, 73, 78, 71, 76, 69]⟩
def zPREFER_DOUBLE : Str := ⟨#[80, 82, 69, 70, 69, 82, 95, 68, 79, 85, 66, 76, 69]⟩
def zPREFER_SINGLE : Str := ⟨#[80, 82, 69, 70, 69, 82, 95, 83, 73, 78, 71, 76, 69]⟩
def z_v0 : Str := ⟨#[95, 118, 48]⟩
def z_m0 : Str := ⟨#[95, 109, 48]⟩
def z_v1 : Str := ⟨#[95, 118, 49]⟩
def z_m1 : Str := ⟨#[95, 109, 49]⟩
def z_v2 : Str := ⟨#[95, 118, 50]⟩
def z_m2 : Str := ⟨#[95, 109, 50]⟩
def z_v3 : Str := ⟨#[95, 118, 51]⟩
def z_m3 : Str := ⟨#[95, 109, 51]⟩
def zalways_double : Str := ⟨#[97, 108, 119, 97, 121, 115, 95, 100, 111, 117, 98, 108, 101]⟩
def zalways_single : Str := ⟨#[97, 108, 119, 97, 121, 115, 95, 115, 105, 110, 103, 108, 101]⟩
def zprefer_double : Str := ⟨#[112, 114, 101, 102, 101, 114, 95, 100, 111, 117, 98, 108, 101]⟩
def zprefer_single : Str := ⟨#[112, 114, 101, 102, 101, 114, 95, 115, 105, 110, 103, 108, 101]⟩
def y727526810 : Str := ⟨#[116, 121, 112, 101, 32, 111, 98, 106, 101, 99, 116, 32, 39, 81, 117, 111, 116, 101, 83, 116, 121, 108, 101, 39, 32, 104, 97, 115, 32, 110, 111, 32, 97, 116, 116, 114, 105, 98, 117, 116, 101, 32, 39, 95, 118, 97, 108, 117, 101, 95, 39]⟩
def z_value_ : Str := ⟨#[95, 118, 97, 108, 117, 101, 95]⟩
def z_name_ : Str := ⟨#[95, 110, 97, 109, 101, 95]⟩
def z__objclass__ : Str := ⟨#[95, 95, 111, 98, 106, 99, 108, 97, 115, 115, 95, 95]⟩
def z_sort_order_ : Str := ⟨#[95, 115, 111, 114, 116, 95, 111, 114, 100, 101, 114, 95]⟩
def zskipkeys : Str := ⟨#[115, 107, 105, 112, 107, 101, 121, 115]⟩
def zensure_ascii : Str := ⟨#[101, 110, 115, 117, 114, 101, 95, 97, 115, 99, 105, 105]⟩
def zallow_nan : Str := ⟨#[97, 108, 108, 111, 119, 95, 110, 97, 110]⟩
def zindent : Str := ⟨#[105, 110, 100, 101, 110, 116]⟩
def zseparators : Str := ⟨#[115, 101, 112, 97, 114, 97, 116, 111, 114, 115]⟩
def zsort_keys : Str := ⟨#[115, 111, 114, 116, 95, 107, 101, 121, 115]⟩
def zquote_keys : Str := ⟨#[113, 117, 111, 116, 101, 95, 107, 101, 121, 115]⟩
def ztrailing_commas : Str := ⟨#[116, 114, 97, 105, 108, 105, 110, 103, 95, 99, 111, 109, 109, 97, 115]⟩
def zallow_duplicate_keys : Str := ⟨#[97, 108, 108, 111, 119, 95, 100, 117, 112, 108, 105, 99, 97, 116, 101, 95, 107, 101, 121, 115]⟩
def zquote_style : Str := ⟨#[113, 117, 111, 116, 101, 95, 115, 116, 121, 108, 101]⟩
def zobj : Str := ⟨#[111, 98, 106]⟩
def zenc : Str := ⟨#[101, 110, 99]⟩
def zencoded : Str := ⟨#[101, 110, 99, 111, 100, 101, 100]⟩
def z_encode_basic_type : Str := ⟨#[95, 101, 110, 99, 111, 100, 101, 95, 98, 97, 115, 105, 99, 95, 116, 121, 112, 101]⟩
def z_encode_int : Str := ⟨#[95, 101, 110, 99, 111, 100, 101, 95, 105, 110, 116]⟩
def z_encode_float : Str := ⟨#[95, 101, 110, 99, 111, 100, 101, 95, 102, 108, 111, 97, 116]⟩
def z_encode_str : Str := ⟨#[95, 101, 110, 99, 111, 100, 101, 95, 115, 116, 114]⟩
def z_encode_quoted_str : Str := ⟨#[95, 101, 110, 99, 111, 100, 101, 95, 113, 117, 111, 116, 101, 100, 95, 115, 116, 114]⟩
def z_escape_ch : Str := ⟨#[95, 101, 115, 99, 97, 112, 101, 95, 99, 104]⟩
def z_encode_non_basic_type : Str := ⟨#[95, 101, 110, 99, 111, 100, 101, 95, 110, 111, 110, 95, 98, 97, 115, 105, 99, 95, 116, 121, 112, 101]⟩
def z_encode_dict : Str := ⟨#[95, 101, 110, 99, 111, 100, 101, 95, 100, 105, 99, 116]⟩
def z_encode_array : Str := ⟨#[95, 101, 110, 99, 111, 100, 101, 95, 97, 114, 114, 97, 121]⟩
def z_spacers : Str := ⟨#[95, 115, 112, 97, 99, 101, 114, 115]⟩
def zis_identifier : Str := ⟨#[105, 115, 95, 105, 100, 101, 110, 116, 105, 102, 105, 101, 114]⟩
def z_is_id_start : Str := ⟨#[95, 105, 115, 95, 105, 100, 95, 115, 116, 97, 114, 116]⟩
def z_is_id_continue : Str := ⟨#[95, 105, 115, 95, 105, 100, 95, 99, 111, 110, 116, 105, 110, 117, 101]⟩
def zis_reserved_word : Str := ⟨#[105, 115, 95, 114, 101, 115, 101, 114, 118, 101, 100, 95, 119, 111, 114, 100]⟩
def y596348518 : Str := ⟨#[74, 83, 79, 78, 53, 69, 110, 99, 111, 100, 101, 114, 46, 95, 95, 105, 110, 105, 116, 95, 95]⟩
def y220627629 : Str := ⟨#[74, 83, 79, 78, 53, 69, 110, 99, 111, 100, 101, 114, 46, 100, 101, 102, 97, 117, 108, 116]⟩
def zseen : Str := ⟨#[115, 101, 101, 110]⟩
def zlevel : Str := ⟨#[108, 101, 118, 101, 108]⟩
def zas_key : Str := ⟨#[97, 115, 95, 107, 101, 121]⟩
def zs : Str := ⟨#[115]⟩
def y193732450 : Str := ⟨#[74, 83, 79, 78, 53, 69, 110, 99, 111, 100, 101, 114, 46, 101, 110, 99, 111, 100, 101, 100]⟩
def y723220578 : Str := ⟨#[74, 83, 79, 78, 53, 69, 110, 99, 111, 100, 101, 114, 46, 95, 101, 110, 99, 111, 100, 101, 95, 98, 97, 115, 105, 99, 95, 116, 121, 112, 101]⟩
def y240394867 : Str := ⟨#[74, 83, 79, 78, 53, 69, 110, 99, 111, 100, 101, 114, 46, 95, 101, 110, 99, 111, 100, 101, 95, 105, 110, 116]⟩
def zallowed : Str := ⟨#[97, 108, 108, 111, 119, 101, 100]⟩
def y928801010 : Str := ⟨#[74, 83, 79, 78, 53, 69, 110, 99, 111, 100, 101, 114, 46, 95, 101, 110, 99, 111, 100, 101, 95, 102, 108, 111, 97, 116]⟩
def y892449341 : Str := ⟨#[74, 83, 79, 78, 53, 69, 110, 99, 111, 100, 101, 114, 46, 95, 101, 110, 99, 111, 100, 101, 95, 115, 116, 114]⟩
def zret : Str := ⟨#[114, 101, 116]⟩
def zdouble_quotes_seen : Str := ⟨#[100, 111, 117, 98, 108, 101, 95, 113, 117, 111, 116, 101, 115, 95, 115, 101, 101, 110]⟩
def zsingle_quotes_seen : Str := ⟨#[115, 105, 110, 103, 108, 101, 95, 113, 117, 111, 116, 101, 115, 95, 115, 101, 101, 110]⟩
def zsq : Str := ⟨#[115, 113]⟩
def zdq : Str := ⟨#[100, 113]⟩
def zch : Str := ⟨#[99, 104]⟩
def zencoded_ch : Str := ⟨#[101, 110, 99, 111, 100, 101, 100, 95, 99, 104]⟩
def zo : Str := ⟨#[111]⟩
def y862903582 : Str := ⟨#[74, 83, 79, 78, 53, 69, 110, 99, 111, 100, 101, 114, 46, 95, 101, 110, 99, 111, 100, 101, 95, 113, 117, 111, 116, 101, 100, 95, 115, 116, 114]⟩
def zval : Str := ⟨#[118, 97, 108]⟩
def zhigh : Str := ⟨#[104, 105, 103, 104]⟩
def zlow : Str := ⟨#[108, 111, 119]⟩
def y340889652 : Str := ⟨#[74, 83, 79, 78, 53, 69, 110, 99, 111, 100, 101, 114, 46, 95, 101, 115, 99, 97, 112, 101, 95, 99, 104]⟩
def y995322561 : Str := ⟨#[74, 83, 79, 78, 53, 69, 110, 99, 111, 100, 101, 114, 46, 95, 101, 110, 99, 111, 100, 101, 95, 110, 111, 110, 95, 98, 97, 115, 105, 99, 95, 116, 121, 112, 101]⟩
def zindent_str : Str := ⟨#[105, 110, 100, 101, 110, 116, 95, 115, 116, 114]⟩
def zend_str : Str := ⟨#[101, 110, 100, 95, 115, 116, 114]⟩
def zitem_sep : Str := ⟨#[105, 116, 101, 109, 95, 115, 101, 112]⟩
def zkv_sep : Str := ⟨#[107, 118, 95, 115, 101, 112]⟩
def zfirst_key : Str := ⟨#[102, 105, 114, 115, 116, 95, 107, 101, 121]⟩
def znew_keys : Str := ⟨#[110, 101, 119, 95, 107, 101, 121, 115]⟩
def zkey_str : Str := ⟨#[107, 101, 121, 95, 115, 116, 114]⟩
def zval_str : Str := ⟨#[118, 97, 108, 95, 115, 116, 114]⟩
def y239896571 : Str := ⟨#[74, 83, 79, 78, 53, 69, 110, 99, 111, 100, 101, 114, 46, 95, 101, 110, 99, 111, 100, 101, 95, 100, 105, 99, 116]⟩
def y98190263 : Str := ⟨#[74, 83, 79, 78, 53, 69, 110, 99, 111, 100, 101, 114, 46, 95, 101, 110, 99, 111, 100, 101, 95, 97, 114, 114, 97, 121]⟩
def y825305131 : Str := ⟨#[74, 83, 79, 78, 53, 69, 110, 99, 111, 100, 101, 114, 46, 95, 115, 112, 97, 99, 101, 114, 115]⟩
def y874897743 : Str := ⟨#[74, 83, 79, 78, 53, 69, 110, 99, 111, 100, 101, 114, 46, 105, 115, 95, 105, 100, 101, 110, 116, 105, 102, 105, 101, 114]⟩
def y22189854 : Str := ⟨#[74, 83, 79, 78, 53, 69, 110, 99, 111, 100, 101, 114, 46, 95, 105, 115, 95, 105, 100, 95, 115, 116, 97, 114, 116]⟩
def y246103525 : Str := ⟨#[74, 83, 79, 78, 53, 69, 110, 99, 111, 100, 101, 114, 46, 95, 105, 115, 95, 105, 100, 95, 99, 111, 110, 116, 105, 110, 117, 101]⟩
def y984149231 : Str := ⟨#[74, 83, 79, 78, 53, 69, 110, 99, 111, 100, 101, 114, 46, 105, 115, 95, 114, 101, 115, 101, 114, 118, 101, 100, 95, 119, 111, 114, 100]⟩
def zdefault_fn : Str := ⟨#[100, 101, 102, 97, 117, 108, 116, 95, 102, 110]⟩
def zitem_separator : Str := ⟨#[105, 116, 101, 109, 95, 115, 101, 112, 97, 114, 97, 116, 111, 114]⟩
def zkv_separator : Str := ⟨#[107, 118, 95, 115, 101, 112, 97, 114, 97, 116, 111, 114]⟩
def zscript : Str := ⟨#[115, 99, 114, 105, 112, 116]⟩
def zplace : Str := ⟨#[112, 108, 97, 99, 101]⟩
def d0 (P : Params) : Obj := ⟨(.type "dict"), none, (.dict #[⟨PyData.keyHash P z__name__, (.str z__name__ 1), (.str zbuiltins 160)⟩, ⟨PyData.keyHash P z__doc__, (.str z__doc__ 2), (.builtin "builtins.__doc__:str#opaque")⟩, ⟨PyData.keyHash P z__package__, (.str z__package__ 3), (.builtin "builtins.__package__:str#opaque")⟩, ⟨PyData.keyHash P z__loader__, (.str z__loader__ 4), (.builtin "builtins.__loader__:shared#opaque")⟩, ⟨PyData.keyHash P z__spec__, (.str z__spec__ 5), (.builtin "builtins.__spec__#opaque")⟩, ⟨PyData.keyHash P z__build_class__, (.str z__build_class__ 6), (.builtin "__build_class__")⟩, ⟨PyData.keyHash P z__import__, (.str z__import__ 7), (.builtin "__import__")⟩, ⟨PyData.keyHash P zabs, (.str zabs 8), (.builtin "abs")⟩, ⟨PyData.keyHash P zall, (.str zall 9), (.builtin "all")⟩, ⟨PyData.keyHash P zany, (.str zany 10), (.builtin "any")⟩, ⟨PyData.keyHash P zascii, (.str zascii 11), (.builtin "ascii")⟩, ⟨PyData.keyHash P zbin, (.str zbin 12), (.builtin "bin")⟩, ⟨PyData.keyHash P zbreakpoint, (.str zbreakpoint 13), (.builtin "breakpoint")⟩, ⟨PyData.keyHash P zcallable, (.str zcallable 14), (.builtin "callable")⟩, ⟨PyData.keyHash P zchr, (.str zchr 15), (.builtin "chr")⟩, ⟨PyData.keyHash P zcompile, (.str zcompile 16), (.builtin "compile")⟩, ⟨PyData.keyHash P zdelattr, (.str zdelattr 17), (.builtin "delattr")⟩, ⟨PyData.keyHash P zdir, (.str zdir 18), (.builtin "dir")⟩, ⟨PyData.keyHash P zdivmod, (.str zdivmod 19), (.builtin "divmod")⟩, ⟨PyData.keyHash P zeval, (.str zeval 20), (.builtin "eval")⟩, ⟨PyData.keyHash P zexec, (.str zexec 21), (.builtin "exec")⟩, ⟨PyData.keyHash P zformat, (.str zformat 22), (.builtin "format")⟩, ⟨PyData.keyHash P zgetattr, (.str zgetattr 23), (.builtin "getattr")⟩, ⟨PyData.keyHash P zglobals, (.str zglobals 24), (.builtin "globals")⟩, ⟨PyData.keyHash P zhasattr, (.str zhasattr 25), (.builtin "hasattr")⟩, ⟨PyData.keyHash P zhash, (.str zhash 26), (.builtin "hash")⟩, ⟨PyData.keyHash P zhex, (.str zhex 27), (.builtin "hex")⟩, ⟨PyData.keyHash P zid, (.str zid 28), (.builtin "id")⟩, ⟨PyData.keyHash P zinput, (.str zinput 29), (.builtin "input")⟩, ⟨PyData.keyHash P zisinstance, (.str zisinstance 30), (.builtin "isinstance")⟩, ⟨PyData.keyHash P zissubclass, (.str zissubclass 31), (.builtin "issubclass")⟩, ⟨PyData.keyHash P ziter, (.str ziter 32), (.builtin "iter")⟩, ⟨PyData.keyHash P zaiter, (.str zaiter 33), (.builtin "aiter")⟩, ⟨PyData.keyHash P zlen, (.str zlen 34), (.builtin "len")⟩, ⟨PyData.keyHash P zlocals, (.str zlocals 35), (.builtin "locals")⟩, ⟨PyData.keyHash P zmax, (.str zmax 36), (.builtin "max")⟩, ⟨PyData.keyHash P zmin, (.str zmin 37), (.builtin "min")⟩, ⟨PyData.keyHash P znext, (.str znext 38), (.builtin "next")⟩, ⟨PyData.keyHash P zanext, (.str zanext 39), (.builtin "anext")⟩, ⟨PyData.keyHash P zoct, (.str zoct 40), (.builtin "oct")⟩, ⟨PyData.keyHash P zord, (.str zord 41), (.builtin "ord")⟩, ⟨PyData.keyHash P zpow, (.str zpow 42), (.builtin "pow")⟩, ⟨PyData.keyHash P zprint, (.str zprint 43), (.builtin "print")⟩, ⟨PyData.keyHash P zrepr, (.str zrepr 44), (.builtin "repr")⟩, ⟨PyData.keyHash P zround, (.str zround 45), (.builtin "round")⟩, ⟨PyData.keyHash P zsetattr, (.str zsetattr 46), (.builtin "setattr")⟩, ⟨PyData.keyHash P zsorted, (.str zsorted 47), (.builtin "sorted")⟩, ⟨PyData.keyHash P zsum, (.str zsum 48), (.builtin "sum")⟩, ⟨PyData.keyHash P zvars, (.str zvars 49), (.builtin "vars")⟩, ⟨PyData.keyHash P zNone, (.str zNone 50), .none⟩, ⟨PyData.keyHash P zEllipsis, (.str zEllipsis 51), .ellipsis⟩, ⟨PyData.keyHash P zNotImplemented, (.str zNotImplemented 52), .notImplemented⟩, ⟨PyData.keyHash P zFalse, (.str zFalse 53), (.bool false)⟩, ⟨PyData.keyHash P zTrue, (.str zTrue 54), (.bool true)⟩, ⟨PyData.keyHash P zbool, (.str zbool 55), (.type "bool")⟩, ⟨PyData.keyHash P zmemoryview, (.str zmemoryview 56), (.type "memoryview")⟩, ⟨PyData.keyHash P zbytearray, (.str zbytearray 57), (.type "bytearray")⟩, ⟨PyData.keyHash P zbytes, (.str zbytes 58), (.type "bytes")⟩, ⟨PyData.keyHash P zclassmethod, (.str zclassmethod 59), (.type "classmethod")⟩, ⟨PyData.keyHash P zcomplex, (.str zcomplex 60), (.type "complex")⟩, ⟨PyData.keyHash P zdict, (.str zdict 61), (.type "dict")⟩, ⟨PyData.keyHash P zenumerate, (.str zenumerate 62), (.type "enumerate")⟩, ⟨PyData.keyHash P zfilter, (.str zfilter 63), (.type "filter")⟩, ⟨PyData.keyHash P zfloat, (.str zfloat 64), (.type "float")⟩, ⟨PyData.keyHash P zfrozenset, (.str zfrozenset 65), (.type "frozenset")⟩, ⟨PyData.keyHash P zproperty, (.str zproperty 66), (.type "property")⟩, ⟨PyData.keyHash P zint, (.str zint 67), (.type "int")⟩, ⟨PyData.keyHash P zlist, (.str zlist 68), (.type "list")⟩, ⟨PyData.keyHash P zmap, (.str zmap 69), (.type "map")⟩, ⟨PyData.keyHash P zobject, (.str zobject 70), (.type "object")⟩, ⟨PyData.keyHash P zrange, (.str zrange 71), (.type "range")⟩, ⟨PyData.keyHash P zreversed, (.str zreversed 72), (.type "reversed")⟩, ⟨PyData.keyHash P zset, (.str zset 73), (.type "set")⟩, ⟨PyData.keyHash P zslice, (.str zslice 74), (.type "slice")⟩, ⟨PyData.keyHash P zstaticmethod, (.str zstaticmethod 75), (.type "staticmethod")⟩, ⟨PyData.keyHash P zstr, (.str zstr 76), (.type "str")⟩, ⟨PyData.keyHash P zsuper, (.str zsuper 77), (.type "super")⟩, ⟨PyData.keyHash P ztuple, (.str ztuple 78), (.type "tuple")⟩, ⟨PyData.keyHash P ztype, (.str ztype 79), (.type "type")⟩, ⟨PyData.keyHash P zzip, (.str zzip 80), (.type "zip")⟩, ⟨PyData.keyHash P z__debug__, (.str z__debug__ 81), (.bool true)⟩, ⟨PyData.keyHash P zBaseException, (.str zBaseException 82), (.type "BaseException")⟩, ⟨PyData.keyHash P zBaseExceptionGroup, (.str zBaseExceptionGroup 83), (.type "BaseExceptionGroup")⟩, ⟨PyData.keyHash P zException, (.str zException 84), (.type "Exception")⟩, ⟨PyData.keyHash P zGeneratorExit, (.str zGeneratorExit 85), (.type "GeneratorExit")⟩, ⟨PyData.keyHash P zKeyboardInterrupt, (.str zKeyboardInterrupt 86), (.type "KeyboardInterrupt")⟩, ⟨PyData.keyHash P zSystemExit, (.str zSystemExit 87), (.type "SystemExit")⟩, ⟨PyData.keyHash P zArithmeticError, (.str zArithmeticError 88), (.type "ArithmeticError")⟩, ⟨PyData.keyHash P zAssertionError, (.str zAssertionError 89), (.type "AssertionError")⟩, ⟨PyData.keyHash P zAttributeError, (.str zAttributeError 90), (.type "AttributeError")⟩, ⟨PyData.keyHash P zBufferError, (.str zBufferError 91), (.type "BufferError")⟩, ⟨PyData.keyHash P zEOFError, (.str zEOFError 92), (.type "EOFError")⟩, ⟨PyData.keyHash P zImportError, (.str zImportError 93), (.type "ImportError")⟩, ⟨PyData.keyHash P zLookupError, (.str zLookupError 94), (.type "LookupError")⟩, ⟨PyData.keyHash P zMemoryError, (.str zMemoryError 95), (.type "MemoryError")⟩, ⟨PyData.keyHash P zNameError, (.str zNameError 96), (.type "NameError")⟩, ⟨PyData.keyHash P zOSError, (.str zOSError 97), (.type "OSError")⟩, ⟨PyData.keyHash P zReferenceError, (.str zReferenceError 98), (.type "ReferenceError")⟩, ⟨PyData.keyHash P zRuntimeError, (.str zRuntimeError 99), (.type "RuntimeError")⟩, ⟨PyData.keyHash P zStopAsyncIteration, (.str zStopAsyncIteration 100), (.type "StopAsyncIteration")⟩, ⟨PyData.keyHash P zStopIteration, (.str zStopIteration 101), (.type "StopIteration")⟩, ⟨PyData.keyHash P zSyntaxError, (.str zSyntaxError 102), (.type "SyntaxError")⟩, ⟨PyData.keyHash P zSystemError, (.str zSystemError 103), (.type "SystemError")⟩, ⟨PyData.keyHash P zTypeError, (.str zTypeError 104), (.type "TypeError")⟩, ⟨PyData.keyHash P zValueError, (.str zValueError 105), (.type "ValueError")⟩, ⟨PyData.keyHash P zWarning, (.str zWarning 106), (.type "Warning")⟩, ⟨PyData.keyHash P zFloatingPointError, (.str zFloatingPointError 107), (.type "FloatingPointError")⟩, ⟨PyData.keyHash P zOverflowError, (.str zOverflowError 108), (.type "OverflowError")⟩, ⟨PyData.keyHash P zZeroDivisionError, (.str zZeroDivisionError 109), (.type "ZeroDivisionError")⟩, ⟨PyData.keyHash P zBytesWarning, (.str zBytesWarning 110), (.type "BytesWarning")⟩, ⟨PyData.keyHash P zDeprecationWarning, (.str zDeprecationWarning 111), (.type "DeprecationWarning")⟩, ⟨PyData.keyHash P zEncodingWarning, (.str zEncodingWarning 112), (.type "EncodingWarning")⟩, ⟨PyData.keyHash P zFutureWarning, (.str zFutureWarning 113), (.type "FutureWarning")⟩, ⟨PyData.keyHash P zImportWarning, (.str zImportWarning 114), (.type "ImportWarning")⟩, ⟨PyData.keyHash P zPendingDeprecationWarning, (.str zPendingDeprecationWarning 115), (.type "PendingDeprecationWarning")⟩, ⟨PyData.keyHash P zResourceWarning, (.str zResourceWarning 116), (.type "ResourceWarning")⟩, ⟨PyData.keyHash P zRuntimeWarning, (.str zRuntimeWarning 117), (.type "RuntimeWarning")⟩, ⟨PyData.keyHash P zSyntaxWarning, (.str zSyntaxWarning 118), (.type "SyntaxWarning")⟩, ⟨PyData.keyHash P zUnicodeWarning, (.str zUnicodeWarning 119), (.type "UnicodeWarning")⟩, ⟨PyData.keyHash P zUserWarning, (.str zUserWarning 120), (.type "UserWarning")⟩, ⟨PyData.keyHash P zBlockingIOError, (.str zBlockingIOError 121), (.type "BlockingIOError")⟩, ⟨PyData.keyHash P zChildProcessError, (.str zChildProcessError 122), (.type "ChildProcessError")⟩, ⟨PyData.keyHash P zConnectionError, (.str zConnectionError 123), (.type "ConnectionError")⟩, ⟨PyData.keyHash P zFileExistsError, (.str zFileExistsError 124), (.type "FileExistsError")⟩, ⟨PyData.keyHash P zFileNotFoundError, (.str zFileNotFoundError 125), (.type "FileNotFoundError")⟩, ⟨PyData.keyHash P zInterruptedError, (.str zInterruptedError 126), (.type "InterruptedError")⟩, ⟨PyData.keyHash P zIsADirectoryError, (.str zIsADirectoryError 127), (.type "IsADirectoryError")⟩, ⟨PyData.keyHash P zNotADirectoryError, (.str zNotADirectoryError 128), (.type "NotADirectoryError")⟩, ⟨PyData.keyHash P zPermissionError, (.str zPermissionError 129), (.type "PermissionError")⟩, ⟨PyData.keyHash P zProcessLookupError, (.str zProcessLookupError 130), (.type "ProcessLookupError")⟩, ⟨PyData.keyHash P zTimeoutError, (.str zTimeoutError 131), (.type "TimeoutError")⟩, ⟨PyData.keyHash P zIndentationError, (.str zIndentationError 132), (.type "IndentationError")⟩, ⟨PyData.keyHash P z_IncompleteInputError, (.str z_IncompleteInputError 133), (.type "_IncompleteInputError")⟩, ⟨PyData.keyHash P zIndexError, (.str zIndexError 134), (.type "IndexError")⟩, ⟨PyData.keyHash P zKeyError, (.str zKeyError 135), (.type "KeyError")⟩, ⟨PyData.keyHash P zModuleNotFoundError, (.str zModuleNotFoundError 136), (.type "ModuleNotFoundError")⟩, ⟨PyData.keyHash P zNotImplementedError, (.str zNotImplementedError 137), (.type "NotImplementedError")⟩, ⟨PyData.keyHash P zPythonFinalizationError, (.str zPythonFinalizationError 138), (.type "PythonFinalizationError")⟩, ⟨PyData.keyHash P zRecursionError, (.str zRecursionError 139), (.type "RecursionError")⟩, ⟨PyData.keyHash P zUnboundLocalError, (.str zUnboundLocalError 140), (.type "UnboundLocalError")⟩, ⟨PyData.keyHash P zUnicodeError, (.str zUnicodeError 141), (.type "UnicodeError")⟩, ⟨PyData.keyHash P zBrokenPipeError, (.str zBrokenPipeError 142), (.type "BrokenPipeError")⟩, ⟨PyData.keyHash P zConnectionAbortedError, (.str zConnectionAbortedError 143), (.type "ConnectionAbortedError")⟩, ⟨PyData.keyHash P zConnectionRefusedError, (.str zConnectionRefusedError 144), (.type "ConnectionRefusedError")⟩, ⟨PyData.keyHash P zConnectionResetError, (.str zConnectionResetError 145), (.type "ConnectionResetError")⟩, ⟨PyData.keyHash P zTabError, (.str zTabError 146), (.type "TabError")⟩, ⟨PyData.keyHash P zUnicodeDecodeError, (.str zUnicodeDecodeError 147), (.type "UnicodeDecodeError")⟩, ⟨PyData.keyHash P zUnicodeEncodeError, (.str zUnicodeEncodeError 148), (.type "UnicodeEncodeError")⟩, ⟨PyData.keyHash P zUnicodeTranslateError, (.str zUnicodeTranslateError 149), (.type "UnicodeTranslateError")⟩, ⟨PyData.keyHash P zExceptionGroup, (.str zExceptionGroup 150), (.type "ExceptionGroup")⟩, ⟨PyData.keyHash P zEnvironmentError, (.str zEnvironmentError 151), (.type "OSError")⟩, ⟨PyData.keyHash P zIOError, (.str zIOError 152), (.type "OSError")⟩, ⟨PyData.keyHash P zopen, (.str zopen 153), (.builtin "open")⟩, ⟨PyData.keyHash P zquit, (.str zquit 154), (.builtin "builtins.quit#opaque")⟩, ⟨PyData.keyHash P zexit, (.str zexit 155), (.builtin "builtins.exit#opaque")⟩, ⟨PyData.keyHash P zcopyright, (.str zcopyright 156), (.builtin "builtins.copyright#opaque")⟩, ⟨PyData.keyHash P zcredits, (.str zcredits 157), (.builtin "builtins.credits#opaque")⟩, ⟨PyData.keyHash P zlicense, (.str zlicense 158), (.builtin "builtins.license#opaque")⟩, ⟨PyData.keyHash P zhelp, (.str zhelp 159), (.builtin "builtins.help#opaque")⟩] 159), #[]⟩
def d2 (P : Params) : Obj := ⟨.none, none, (.dict #[⟨PyData.keyHash P y830831868, (.str y830831868 183), (.bool true)⟩, ⟨PyData.keyHash P y127357242, (.str y127357242 185), (.ref 14)⟩, ⟨PyData.keyHash P y369520399, (.str y369520399 206), (.ref 18)⟩, ⟨PyData.keyHash P y570527370, (.str y570527370 216), (.ref 22)⟩, ⟨PyData.keyHash P y499290903, (.str y499290903 245), (.int 5 0)⟩, ⟨PyData.keyHash P y414204762, (.str y414204762 270), (.bool true)⟩, ⟨PyData.keyHash P y448442148, (.str y448442148 272), (.ref 27)⟩, ⟨PyData.keyHash P y227251817, (.str y227251817 0), (.str y862700717 0)⟩, ⟨PyData.keyHash P y784366465, (.str y784366465 273), (.str y718300091 0)⟩, ⟨PyData.keyHash P y551361691, (.str y551361691 280), (.bool true)⟩, ⟨PyData.keyHash P y551360606, (.str y551360606 285), (.ref 33)⟩, ⟨PyData.keyHash P y274784248, (.str y274784248 301), (.ref 38)⟩, ⟨PyData.keyHash P y896737827, (.str y896737827 322), (.ref 43)⟩, ⟨PyData.keyHash P y635774927, (.str y635774927 428), (.bool true)⟩, ⟨PyData.keyHash P y95736198, (.str y95736198 440), (.bool true)⟩, ⟨PyData.keyHash P y66652887, (.str y66652887 483), (.bool true)⟩, ⟨PyData.keyHash P y839975295, (.str y839975295 485), (.str y86715091 0)⟩] 17), #[]⟩
def d3 (P : Params) : Obj := ⟨(.type "dict"), none, (.dict #[⟨PyData.keyHash P z__name__, (.str z__name__ 165), (.str z__main__ 164)⟩, ⟨PyData.keyHash P z__doc__, (.str z__doc__ 166), .none⟩, ⟨PyData.keyHash P z__package__, (.str z__package__ 167), .none⟩, ⟨PyData.keyHash P z__loader__, (.str z__loader__ 168), (.builtin "__main__.__loader__#opaque")⟩, ⟨PyData.keyHash P z__spec__, (.str z__spec__ 169), .none⟩, ⟨PyData.keyHash P z__annotations__, (.str z__annotations__ 170), (.ref 6)⟩, ⟨PyData.keyHash P z__builtins__, (.str z__builtins__ 171), (.ref 4)⟩, ⟨PyData.keyHash P z__file__, (.str z__file__ 173), (.str y337536729 172)⟩, ⟨PyData.keyHash P z__cached__, (.str z__cached__ 174), .none⟩, ⟨PyData.keyHash P z_sre, (.str z_sre 275), (.ref 12)⟩, ⟨PyData.keyHash P zisnan, (.str zisnan 435), (.builtin "math.isnan")⟩, ⟨PyData.keyHash P zcategory, (.str zcategory 491), (.builtin "unicodedata.category")⟩, ⟨PyData.keyHash P z_wall, (.str z_wall 504), (.ref 68)⟩, ⟨PyData.keyHash P z_reserved_word_re, (.str z_reserved_word_re 1155), (.ref 73)⟩] 14), #[]⟩
def d4 (P : Params) : Obj := ⟨(.type "module"), (some 0), .plain, #[]⟩
def d59 (P : Params) : Obj := ⟨.none, none, (.fields #[(.int 4 0), (.int 0 0), (.ref 67)]), #[]⟩
def d60 (P : Params) : Obj := ⟨(.type "code"), none, (.fields #[(.str y901796171 493), (.str y901796171 494), (.str y337536729 495), (.int 1 0), (.int 0 0), (.int 0 0), (.int 0 0), (.int 0 0), (.ref 58), (.bool false), (.int 492 0), (.ref 59), .none, .none, .none, .none, (.int 496 0), (.int 1 0), (.str y337536729 497)]), #[]⟩
def d72 (P : Params) : Obj := ⟨(.type "tuple"), none, (.seq #[(.int 14 0), (.int 14 0), (.int 4 0), (.int 2 0), (.int 10 0), (.int 9 0), (.int 0 0), (.int 0 0), (.int 0 0), (.int 48059004 0), (.int 0 0), (.int 0 0), (.int 0 0), (.int 0 0), (.int 0 0), (.int 17 0), (.int 0 0), (.int 7 0), (.int 13 0), (.int 16 0), (.int 98 0), (.int 16 0), (.int 114 0), (.int 16 0), (.int 101 0), (.int 16 0), (.int 97 0), (.int 16 0), (.int 107 0), (.int 15 0), (.int 610 0), (.int 11 0), (.int 16 0), (.int 99 0), (.int 16 0), (.int 97 0), (.int 16 0), (.int 115 0), (.int 16 0), (.int 101 0), (.int 15 0), (.int 599 0), (.int 13 0), (.int 16 0), (.int 99 0), (.int 16 0), (.int 97 0), (.int 16 0), (.int 116 0), (.int 16 0), (.int 99 0), (.int 16 0), (.int 104 0), (.int 15 0), (.int 586 0), (.int 13 0), (.int 16 0), (.int 99 0), (.int 16 0), (.int 108 0), (.int 16 0), (.int 97 0), (.int 16 0), (.int 115 0), (.int 16 0), (.int 115 0), (.int 15 0), (.int 573 0), (.int 13 0), (.int 16 0), (.int 99 0), (.int 16 0), (.int 111 0), (.int 16 0), (.int 110 0), (.int 16 0), (.int 115 0), (.int 16 0), (.int 116 0), (.int 15 0), (.int 560 0), (.int 19 0), (.int 16 0), (.int 99 0), (.int 16 0), (.int 111 0), (.int 16 0), (.int 110 0), (.int 16 0), (.int 116 0), (.int 16 0), (.int 105 0), (.int 16 0), (.int 110 0), (.int 16 0), (.int 117 0), (.int 16 0), (.int 101 0), (.int 15 0), (.int 541 0), (.int 19 0), (.int 16 0), (.int 100 0), (.int 16 0), (.int 101 0), (.int 16 0), (.int 98 0), (.int 16 0), (.int 117 0), (.int 16 0), (.int 103 0), (.int 16 0), (.int 103 0), (.int 16 0), (.int 101 0), (.int 16 0), (.int 114 0), (.int 15 0), (.int 522 0), (.int 17 0), (.int 16 0), (.int 100 0), (.int 16 0), (.int 101 0), (.int 16 0), (.int 102 0), (.int 16 0), (.int 97 0), (.int 16 0), (.int 117 0), (.int 16 0), (.int 108 0), (.int 16 0), (.int 116 0), (.int 15 0), (.int 505 0), (.int 15 0), (.int 16 0), (.int 100 0), (.int 16 0), (.int 101 0), (.int 16 0), (.int 108 0), (.int 16 0), (.int 101 0), (.int 16 0), (.int 116 0), (.int 16 0), (.int 101 0), (.int 15 0), (.int 490 0), (.int 7 0), (.int 16 0), (.int 100 0), (.int 16 0), (.int 111 0), (.int 15 0), (.int 483 0), (.int 11 0), (.int 16 0), (.int 101 0), (.int 16 0), (.int 108 0), (.int 16 0), (.int 115 0), (.int 16 0), (.int 101 0), (.int 15 0), (.int 472 0), (.int 11 0), (.int 16 0), (.int 101 0), (.int 16 0), (.int 110 0), (.int 16 0), (.int 117 0), (.int 16 0), (.int 109 0), (.int 15 0), (.int 461 0), (.int 15 0), (.int 16 0), (.int 101 0), (.int 16 0), (.int 120 0), (.int 16 0), (.int 112 0), (.int 16 0), (.int 111 0), (.int 16 0), (.int 114 0), (.int 16 0), (.int 116 0), (.int 15 0), (.int 446 0), (.int 17 0), (.int 16 0), (.int 101 0), (.int 16 0), (.int 120 0), (.int 16 0), (.int 116 0), (.int 16 0), (.int 101 0), (.int 16 0), (.int 110 0), (.int 16 0), (.int 100 0), (.int 16 0), (.int 115 0), (.int 15 0), (.int 429 0), (.int 13 0), (.int 16 0), (.int 102 0), (.int 16 0), (.int 97 0), (.int 16 0), (.int 108 0), (.int 16 0), (.int 115 0), (.int 16 0), (.int 101 0), (.int 15 0), (.int 416 0), (.int 17 0), (.int 16 0), (.int 102 0), (.int 16 0), (.int 105 0), (.int 16 0), (.int 110 0), (.int 16 0), (.int 97 0), (.int 16 0), (.int 108 0), (.int 16 0), (.int 108 0), (.int 16 0), (.int 121 0), (.int 15 0), (.int 399 0), (.int 9 0), (.int 16 0), (.int 102 0), (.int 16 0), (.int 111 0), (.int 16 0), (.int 114 0), (.int 15 0), (.int 390 0), (.int 19 0), (.int 16 0), (.int 102 0), (.int 16 0), (.int 117 0), (.int 16 0), (.int 110 0), (.int 16 0), (.int 99 0), (.int 16 0), (.int 116 0), (.int 16 0), (.int 105 0), (.int 16 0), (.int 111 0), (.int 16 0), (.int 110 0), (.int 15 0), (.int 371 0), (.int 7 0), (.int 16 0), (.int 105 0), (.int 16 0), (.int 102 0), (.int 15 0), (.int 364 0), (.int 23 0), (.int 16 0), (.int 105 0), (.int 16 0), (.int 109 0), (.int 16 0), (.int 112 0), (.int 16 0), (.int 108 0), (.int 16 0), (.int 101 0), (.int 16 0), (.int 109 0), (.int 16 0), (.int 101 0), (.int 16 0), (.int 110 0), (.int 16 0), (.int 116 0), (.int 16 0), (.int 115 0), (.int 15 0), (.int 341 0), (.int 15 0), (.int 16 0), (.int 105 0), (.int 16 0), (.int 109 0), (.int 16 0), (.int 112 0), (.int 16 0), (.int 111 0), (.int 16 0), (.int 114 0), (.int 16 0), (.int 116 0), (.int 15 0), (.int 326 0), (.int 7 0), (.int 16 0), (.int 105 0), (.int 16 0), (.int 110 0), (.int 15 0), (.int 319 0), (.int 23 0), (.int 16 0), (.int 105 0), (.int 16 0), (.int 110 0), (.int 16 0), (.int 115 0), (.int 16 0), (.int 116 0), (.int 16 0), (.int 97 0), (.int 16 0), (.int 110 0), (.int 16 0), (.int 99 0), (.int 16 0), (.int 101 0), (.int 16 0), (.int 111 0), (.int 16 0), (.int 102 0), (.int 15 0), (.int 296 0), (.int 21 0), (.int 16 0), (.int 105 0), (.int 16 0), (.int 110 0), (.int 16 0), (.int 116 0), (.int 16 0), (.int 101 0), (.int 16 0), (.int 114 0), (.int 16 0), (.int 102 0), (.int 16 0), (.int 97 0), (.int 16 0), (.int 99 0), (.int 16 0), (.int 101 0), (.int 15 0), (.int 275 0), (.int 9 0), (.int 16 0), (.int 108 0), (.int 16 0), (.int 101 0), (.int 16 0), (.int 116 0), (.int 15 0), (.int 266 0), (.int 9 0), (.int 16 0), (.int 110 0), (.int 16 0), (.int 101 0), (.int 16 0), (.int 119 0), (.int 15 0), (.int 257 0), (.int 11 0), (.int 16 0), (.int 110 0), (.int 16 0), (.int 117 0), (.int 16 0), (.int 108 0), (.int 16 0), (.int 108 0), (.int 15 0), (.int 246 0), (.int 17 0), (.int 16 0), (.int 112 0), (.int 16 0), (.int 97 0), (.int 16 0), (.int 99 0), (.int 16 0), (.int 107 0), (.int 16 0), (.int 97 0), (.int 16 0), (.int 103 0), (.int 16 0), (.int 101 0), (.int 15 0), (.int 229 0), (.int 17 0), (.int 16 0), (.int 112 0), (.int 16 0), (.int 114 0), (.int 16 0), (.int 105 0), (.int 16 0), (.int 118 0), (.int 16 0), (.int 97 0), (.int 16 0), (.int 116 0), (.int 16 0), (.int 101 0), (.int 15 0), (.int 212 0), (.int 21 0), (.int 16 0), (.int 112 0), (.int 16 0), (.int 114 0), (.int 16 0), (.int 111 0), (.int 16 0), (.int 116 0), (.int 16 0), (.int 101 0), (.int 16 0), (.int 99 0), (.int 16 0), (.int 116 0), (.int 16 0), (.int 101 0), (.int 16 0), (.int 100 0), (.int 15 0), (.int 191 0), (.int 15 0), (.int 16 0), (.int 112 0), (.int 16 0), (.int 117 0), (.int 16 0), (.int 98 0), (.int 16 0), (.int 108 0), (.int 16 0), (.int 105 0), (.int 16 0), (.int 99 0), (.int 15 0), (.int 176 0), (.int 15 0), (.int 16 0), (.int 114 0), (.int 16 0), (.int 101 0), (.int 16 0), (.int 116 0), (.int 16 0), (.int 117 0), (.int 16 0), (.int 114 0), (.int 16 0), (.int 110 0), (.int 15 0), (.int 161 0), (.int 15 0), (.int 16 0), (.int 115 0), (.int 16 0), (.int 116 0), (.int 16 0), (.int 97 0), (.int 16 0), (.int 116 0), (.int 16 0), (.int 105 0), (.int 16 0), (.int 99 0), (.int 15 0), (.int 146 0), (.int 13 0), (.int 16 0), (.int 115 0), (.int 16 0), (.int 117 0), (.int 16 0), (.int 112 0), (.int 16 0), (.int 101 0), (.int 16 0), (.int 114 0), (.int 15 0), (.int 133 0), (.int 15 0), (.int 16 0), (.int 115 0), (.int 16 0), (.int 119 0), (.int 16 0), (.int 105 0), (.int 16 0), (.int 116 0), (.int 16 0), (.int 99 0), (.int 16 0), (.int 104 0), (.int 15 0), (.int 118 0), (.int 11 0), (.int 16 0), (.int 116 0), (.int 16 0), (.int 104 0), (.int 16 0), (.int 105 0), (.int 16 0), (.int 115 0), (.int 15 0), (.int 107 0), (.int 13 0), (.int 16 0), (.int 116 0), (.int 16 0), (.int 104 0), (.int 16 0), (.int 114 0), (.int 16 0), (.int 111 0), (.int 16 0), (.int 119 0), (.int 15 0), (.int 94 0), (.int 11 0), (.int 16 0), (.int 116 0), (.int 16 0), (.int 114 0), (.int 16 0), (.int 117 0), (.int 16 0), (.int 101 0), (.int 15 0), (.int 83 0), (.int 9 0), (.int 16 0), (.int 116 0), (.int 16 0), (.int 114 0), (.int 16 0), (.int 121 0), (.int 15 0), (.int 74 0), (.int 15 0), (.int 16 0), (.int 116 0), (.int 16 0), (.int 121 0), (.int 16 0), (.int 112 0), (.int 16 0), (.int 101 0), (.int 16 0), (.int 111 0), (.int 16 0), (.int 102 0), (.int 15 0), (.int 59 0), (.int 9 0), (.int 16 0), (.int 118 0), (.int 16 0), (.int 97 0), (.int 16 0), (.int 114 0), (.int 15 0), (.int 50 0), (.int 11 0), (.int 16 0), (.int 118 0), (.int 16 0), (.int 111 0), (.int 16 0), (.int 105 0), (.int 16 0), (.int 100 0), (.int 15 0), (.int 39 0), (.int 13 0), (.int 16 0), (.int 119 0), (.int 16 0), (.int 104 0), (.int 16 0), (.int 105 0), (.int 16 0), (.int 108 0), (.int 16 0), (.int 101 0), (.int 15 0), (.int 26 0), (.int 11 0), (.int 16 0), (.int 119 0), (.int 16 0), (.int 105 0), (.int 16 0), (.int 116 0), (.int 16 0), (.int 104 0), (.int 15 0), (.int 15 0), (.int 13 0), (.int 16 0), (.int 121 0), (.int 16 0), (.int 105 0), (.int 16 0), (.int 101 0), (.int 16 0), (.int 108 0), (.int 16 0), (.int 100 0), (.int 15 0), (.int 2 0), (.int 0 0), (.int 17 0), (.int 1 0), (.int 6 0), (.int 5 0), (.int 1 0)] 0), #[]⟩
def d73 (P : Params) : Obj := ⟨(.type "re.Pattern"), none, (.fields #[(.str y854514975 506), (.int 32 1154), (.int 1 0), .none, .none, (.ref 72), (.int 0 0)]), #[]⟩
@[irreducible] noncomputable def tD (w : World) (os : OsState) (P : Params) : BT := (.node (d0 P) (.node (pD w os 1) (.node (d3 P) (.node (pD w os 7) (.node (pD w os 15) (.node (pD w os 31) (.node (pD w os 63) .nil .nil) .nil) (.node (pD w os 47) .nil .nil)) (.node (pD w os 23) (.node (pD w os 39) (.node (pD w os 71) .nil .nil) .nil) (.node (pD w os 55) .nil .nil))) (.node (pD w os 11) (.node (pD w os 19) (.node (pD w os 35) (.node (pD w os 67) .nil .nil) .nil) (.node (pD w os 51) .nil .nil)) (.node (pD w os 27) (.node (pD w os 43) .nil .nil) (.node (d59 P) .nil .nil)))) (.node (pD w os 5) (.node (pD w os 9) (.node (pD w os 17) (.node (pD w os 33) (.node (pD w os 65) .nil .nil) .nil) (.node (pD w os 49) .nil .nil)) (.node (pD w os 25) (.node (pD w os 41) (.node (d73 P) .nil .nil) .nil) (.node (pD w os 57) .nil .nil))) (.node (pD w os 13) (.node (pD w os 21) (.node (pD w os 37) (.node (pD w os 69) .nil .nil) .nil) (.node (pD w os 53) .nil .nil)) (.node (pD w os 29) (.node (pD w os 45) .nil .nil) (.node (pD w os 61) .nil .nil))))) (.node (d2 P) (.node (d4 P) (.node (pD w os 8) (.node (pD w os 16) (.node (pD w os 32) (.node (pD w os 64) .nil .nil) .nil) (.node (pD w os 48) .nil .nil)) (.node (pD w os 24) (.node (pD w os 40) (.node (d72 P) .nil .nil) .nil) (.node (pD w os 56) .nil .nil))) (.node (pD w os 12) (.node (pD w os 20) (.node (pD w os 36) (.node (pD w os 68) .nil .nil) .nil) (.node (pD w os 52) .nil .nil)) (.node (pD w os 28) (.node (pD w os 44) .nil .nil) (.node (d60 P) .nil .nil)))) (.node (pD w os 6) (.node (pD w os 10) (.node (pD w os 18) (.node (pD w os 34) (.node (pD w os 66) .nil .nil) .nil) (.node (pD w os 50) .nil .nil)) (.node (pD w os 26) (.node (pD w os 42) .nil .nil) (.node (pD w os 58) .nil .nil))) (.node (pD w os 14) (.node (pD w os 22) (.node (pD w os 38) (.node (pD w os 70) .nil .nil) .nil) (.node (pD w os 54) .nil .nil)) (.node (pD w os 30) (.node (pD w os 46) .nil .nil) (.node (pD w os 62) .nil .nil))))))
@[irreducible] noncomputable def sX (w : World) (os : OsState) : SharedT := ⟨tD w os w.params, 74, {}, #[], {}, 1156, os⟩
theorem sD_is : ∀ (w : World) (os : OsState), sD w os = sX w os := by intro w os; kernel_rfl
end J5
end
section
open PySem PySem.W PyProof.Rows J5
set_option Elab.async false
set_option maxRecDepth 100000
set_option linter.unusedVariables false
namespace J5
def pF : Pos := ⟨606, 0, 620, 15⟩
noncomputable def thR : Thread := ⟨(exsQ stR envE).wrap doneF deadEnd id id, cE, p1, [topFrame q0]⟩
theorem thR_is : piecesOf stR envE cE p1 [topFrame q0] = thR := by
  unfold piecesOf thR
  rw [exsQ_eq]
def row1 : String := "special-get-raises"
def f0 (P : Params) : Obj := ⟨(.type "dict"), none, (.dict #[⟨PyData.keyHash P z__name__, (.str z__name__ 1), (.str zbuiltins 160)⟩, ⟨PyData.keyHash P z__doc__, (.str z__doc__ 2), (.builtin "builtins.__doc__:str#opaque")⟩, ⟨PyData.keyHash P z__package__, (.str z__package__ 3), (.builtin "builtins.__package__:str#opaque")⟩, ⟨PyData.keyHash P z__loader__, (.str z__loader__ 4), (.builtin "builtins.__loader__:shared#opaque")⟩, ⟨PyData.keyHash P z__spec__, (.str z__spec__ 5), (.builtin "builtins.__spec__#opaque")⟩, ⟨PyData.keyHash P z__build_class__, (.str z__build_class__ 6), (.builtin "__build_class__")⟩, ⟨PyData.keyHash P z__import__, (.str z__import__ 7), (.builtin "__import__")⟩, ⟨PyData.keyHash P zabs, (.str zabs 8), (.builtin "abs")⟩, ⟨PyData.keyHash P zall, (.str zall 9), (.builtin "all")⟩, ⟨PyData.keyHash P zany, (.str zany 10), (.builtin "any")⟩, ⟨PyData.keyHash P zascii, (.str zascii 11), (.builtin "ascii")⟩, ⟨PyData.keyHash P zbin, (.str zbin 12), (.builtin "bin")⟩, ⟨PyData.keyHash P zbreakpoint, (.str zbreakpoint 13), (.builtin "breakpoint")⟩, ⟨PyData.keyHash P zcallable, (.str zcallable 14), (.builtin "callable")⟩, ⟨PyData.keyHash P zchr, (.str zchr 15), (.builtin "chr")⟩, ⟨PyData.keyHash P zcompile, (.str zcompile 16), (.builtin "compile")⟩, ⟨PyData.keyHash P zdelattr, (.str zdelattr 17), (.builtin "delattr")⟩, ⟨PyData.keyHash P zdir, (.str zdir 18), (.builtin "dir")⟩, ⟨PyData.keyHash P zdivmod, (.str zdivmod 19), (.builtin "divmod")⟩, ⟨PyData.keyHash P zeval, (.str zeval 20), (.builtin "eval")⟩, ⟨PyData.keyHash P zexec, (.str zexec 21), (.builtin "exec")⟩, ⟨PyData.keyHash P zformat, (.str zformat 22), (.builtin "format")⟩, ⟨PyData.keyHash P zgetattr, (.str zgetattr 23), (.builtin "getattr")⟩, ⟨PyData.keyHash P zglobals, (.str zglobals 24), (.builtin "globals")⟩, ⟨PyData.keyHash P zhasattr, (.str zhasattr 25), (.builtin "hasattr")⟩, ⟨PyData.keyHash P zhash, (.str zhash 26), (.builtin "hash")⟩, ⟨PyData.keyHash P zhex, (.str zhex 27), (.builtin "hex")⟩, ⟨PyData.keyHash P zid, (.str zid 28), (.builtin "id")⟩, ⟨PyData.keyHash P zinput, (.str zinput 29), (.builtin "input")⟩, ⟨PyData.keyHash P zisinstance, (.str zisinstance 30), (.builtin "isinstance")⟩, ⟨PyData.keyHash P zissubclass, (.str zissubclass 31), (.builtin "issubclass")⟩, ⟨PyData.keyHash P ziter, (.str ziter 32), (.builtin "iter")⟩, ⟨PyData.keyHash P zaiter, (.str zaiter 33), (.builtin "aiter")⟩, ⟨PyData.keyHash P zlen, (.str zlen 34), (.builtin "len")⟩, ⟨PyData.keyHash P zlocals, (.str zlocals 35), (.builtin "locals")⟩, ⟨PyData.keyHash P zmax, (.str zmax 36), (.builtin "max")⟩, ⟨PyData.keyHash P zmin, (.str zmin 37), (.builtin "min")⟩, ⟨PyData.keyHash P znext, (.str znext 38), (.builtin "next")⟩, ⟨PyData.keyHash P zanext, (.str zanext 39), (.builtin "anext")⟩, ⟨PyData.keyHash P zoct, (.str zoct 40), (.builtin "oct")⟩, ⟨PyData.keyHash P zord, (.str zord 41), (.builtin "ord")⟩, ⟨PyData.keyHash P zpow, (.str zpow 42), (.builtin "pow")⟩, ⟨PyData.keyHash P zprint, (.str zprint 43), (.builtin "print")⟩, ⟨PyData.keyHash P zrepr, (.str zrepr 44), (.builtin "repr")⟩, ⟨PyData.keyHash P zround, (.str zround 45), (.builtin "round")⟩, ⟨PyData.keyHash P zsetattr, (.str zsetattr 46), (.builtin "setattr")⟩, ⟨PyData.keyHash P zsorted, (.str zsorted 47), (.builtin "sorted")⟩, ⟨PyData.keyHash P zsum, (.str zsum 48), (.builtin "sum")⟩, ⟨PyData.keyHash P zvars, (.str zvars 49), (.builtin "vars")⟩, ⟨PyData.keyHash P zNone, (.str zNone 50), .none⟩, ⟨PyData.keyHash P zEllipsis, (.str zEllipsis 51), .ellipsis⟩, ⟨PyData.keyHash P zNotImplemented, (.str zNotImplemented 52), .notImplemented⟩, ⟨PyData.keyHash P zFalse, (.str zFalse 53), (.bool false)⟩, ⟨PyData.keyHash P zTrue, (.str zTrue 54), (.bool true)⟩, ⟨PyData.keyHash P zbool, (.str zbool 55), (.type "bool")⟩, ⟨PyData.keyHash P zmemoryview, (.str zmemoryview 56), (.type "memoryview")⟩, ⟨PyData.keyHash P zbytearray, (.str zbytearray 57), (.type "bytearray")⟩, ⟨PyData.keyHash P zbytes, (.str zbytes 58), (.type "bytes")⟩, ⟨PyData.keyHash P zclassmethod, (.str zclassmethod 59), (.type "classmethod")⟩, ⟨PyData.keyHash P zcomplex, (.str zcomplex 60), (.type "complex")⟩, ⟨PyData.keyHash P zdict, (.str zdict 61), (.type "dict")⟩, ⟨PyData.keyHash P zenumerate, (.str zenumerate 62), (.type "enumerate")⟩, ⟨PyData.keyHash P zfilter, (.str zfilter 63), (.type "filter")⟩, ⟨PyData.keyHash P zfloat, (.str zfloat 64), (.type "float")⟩, ⟨PyData.keyHash P zfrozenset, (.str zfrozenset 65), (.type "frozenset")⟩, ⟨PyData.keyHash P zproperty, (.str zproperty 66), (.type "property")⟩, ⟨PyData.keyHash P zint, (.str zint 67), (.type "int")⟩, ⟨PyData.keyHash P zlist, (.str zlist 68), (.type "list")⟩, ⟨PyData.keyHash P zmap, (.str zmap 69), (.type "map")⟩, ⟨PyData.keyHash P zobject, (.str zobject 70), (.type "object")⟩, ⟨PyData.keyHash P zrange, (.str zrange 71), (.type "range")⟩, ⟨PyData.keyHash P zreversed, (.str zreversed 72), (.type "reversed")⟩, ⟨PyData.keyHash P zset, (.str zset 73), (.type "set")⟩, ⟨PyData.keyHash P zslice, (.str zslice 74), (.type "slice")⟩, ⟨PyData.keyHash P zstaticmethod, (.str zstaticmethod 75), (.type "staticmethod")⟩, ⟨PyData.keyHash P zstr, (.str zstr 76), (.type "str")⟩, ⟨PyData.keyHash P zsuper, (.str zsuper 77), (.type "super")⟩, ⟨PyData.keyHash P ztuple, (.str ztuple 78), (.type "tuple")⟩, ⟨PyData.keyHash P ztype, (.str ztype 79), (.type "type")⟩, ⟨PyData.keyHash P zzip, (.str zzip 80), (.type "zip")⟩, ⟨PyData.keyHash P z__debug__, (.str z__debug__ 81), (.bool true)⟩, ⟨PyData.keyHash P zBaseException, (.str zBaseException 82), (.type "BaseException")⟩, ⟨PyData.keyHash P zBaseExceptionGroup, (.str zBaseExceptionGroup 83), (.type "BaseExceptionGroup")⟩, ⟨PyData.keyHash P zException, (.str zException 84), (.type "Exception")⟩, ⟨PyData.keyHash P zGeneratorExit, (.str zGeneratorExit 85), (.type "GeneratorExit")⟩, ⟨PyData.keyHash P zKeyboardInterrupt, (.str zKeyboardInterrupt 86), (.type "KeyboardInterrupt")⟩, ⟨PyData.keyHash P zSystemExit, (.str zSystemExit 87), (.type "SystemExit")⟩, ⟨PyData.keyHash P zArithmeticError, (.str zArithmeticError 88), (.type "ArithmeticError")⟩, ⟨PyData.keyHash P zAssertionError, (.str zAssertionError 89), (.type "AssertionError")⟩, ⟨PyData.keyHash P zAttributeError, (.str zAttributeError 90), (.type "AttributeError")⟩, ⟨PyData.keyHash P zBufferError, (.str zBufferError 91), (.type "BufferError")⟩, ⟨PyData.keyHash P zEOFError, (.str zEOFError 92), (.type "EOFError")⟩, ⟨PyData.keyHash P zImportError, (.str zImportError 93), (.type "ImportError")⟩, ⟨PyData.keyHash P zLookupError, (.str zLookupError 94), (.type "LookupError")⟩, ⟨PyData.keyHash P zMemoryError, (.str zMemoryError 95), (.type "MemoryError")⟩, ⟨PyData.keyHash P zNameError, (.str zNameError 96), (.type "NameError")⟩, ⟨PyData.keyHash P zOSError, (.str zOSError 97), (.type "OSError")⟩, ⟨PyData.keyHash P zReferenceError, (.str zReferenceError 98), (.type "ReferenceError")⟩, ⟨PyData.keyHash P zRuntimeError, (.str zRuntimeError 99), (.type "RuntimeError")⟩, ⟨PyData.keyHash P zStopAsyncIteration, (.str zStopAsyncIteration 100), (.type "StopAsyncIteration")⟩, ⟨PyData.keyHash P zStopIteration, (.str zStopIteration 101), (.type "StopIteration")⟩, ⟨PyData.keyHash P zSyntaxError, (.str zSyntaxError 102), (.type "SyntaxError")⟩, ⟨PyData.keyHash P zSystemError, (.str zSystemError 103), (.type "SystemError")⟩, ⟨PyData.keyHash P zTypeError, (.str zTypeError 104), (.type "TypeError")⟩, ⟨PyData.keyHash P zValueError, (.str zValueError 105), (.type "ValueError")⟩, ⟨PyData.keyHash P zWarning, (.str zWarning 106), (.type "Warning")⟩, ⟨PyData.keyHash P zFloatingPointError, (.str zFloatingPointError 107), (.type "FloatingPointError")⟩, ⟨PyData.keyHash P zOverflowError, (.str zOverflowError 108), (.type "OverflowError")⟩, ⟨PyData.keyHash P zZeroDivisionError, (.str zZeroDivisionError 109), (.type "ZeroDivisionError")⟩, ⟨PyData.keyHash P zBytesWarning, (.str zBytesWarning 110), (.type "BytesWarning")⟩, ⟨PyData.keyHash P zDeprecationWarning, (.str zDeprecationWarning 111), (.type "DeprecationWarning")⟩, ⟨PyData.keyHash P zEncodingWarning, (.str zEncodingWarning 112), (.type "EncodingWarning")⟩, ⟨PyData.keyHash P zFutureWarning, (.str zFutureWarning 113), (.type "FutureWarning")⟩, ⟨PyData.keyHash P zImportWarning, (.str zImportWarning 114), (.type "ImportWarning")⟩, ⟨PyData.keyHash P zPendingDeprecationWarning, (.str zPendingDeprecationWarning 115), (.type "PendingDeprecationWarning")⟩, ⟨PyData.keyHash P zResourceWarning, (.str zResourceWarning 116), (.type "ResourceWarning")⟩, ⟨PyData.keyHash P zRuntimeWarning, (.str zRuntimeWarning 117), (.type "RuntimeWarning")⟩, ⟨PyData.keyHash P zSyntaxWarning, (.str zSyntaxWarning 118), (.type "SyntaxWarning")⟩, ⟨PyData.keyHash P zUnicodeWarning, (.str zUnicodeWarning 119), (.type "UnicodeWarning")⟩, ⟨PyData.keyHash P zUserWarning, (.str zUserWarning 120), (.type "UserWarning")⟩, ⟨PyData.keyHash P zBlockingIOError, (.str zBlockingIOError 121), (.type "BlockingIOError")⟩, ⟨PyData.keyHash P zChildProcessError, (.str zChildProcessError 122), (.type "ChildProcessError")⟩, ⟨PyData.keyHash P zConnectionError, (.str zConnectionError 123), (.type "ConnectionError")⟩, ⟨PyData.keyHash P zFileExistsError, (.str zFileExistsError 124), (.type "FileExistsError")⟩, ⟨PyData.keyHash P zFileNotFoundError, (.str zFileNotFoundError 125), (.type "FileNotFoundError")⟩, ⟨PyData.keyHash P zInterruptedError, (.str zInterruptedError 126), (.type "InterruptedError")⟩, ⟨PyData.keyHash P zIsADirectoryError, (.str zIsADirectoryError 127), (.type "IsADirectoryError")⟩, ⟨PyData.keyHash P zNotADirectoryError, (.str zNotADirectoryError 128), (.type "NotADirectoryError")⟩, ⟨PyData.keyHash P zPermissionError, (.str zPermissionError 129), (.type "PermissionError")⟩, ⟨PyData.keyHash P zProcessLookupError, (.str zProcessLookupError 130), (.type "ProcessLookupError")⟩, ⟨PyData.keyHash P zTimeoutError, (.str zTimeoutError 131), (.type "TimeoutError")⟩, ⟨PyData.keyHash P zIndentationError, (.str zIndentationError 132), (.type "IndentationError")⟩, ⟨PyData.keyHash P z_IncompleteInputError, (.str z_IncompleteInputError 133), (.type "_IncompleteInputError")⟩, ⟨PyData.keyHash P zIndexError, (.str zIndexError 134), (.type "IndexError")⟩, ⟨PyData.keyHash P zKeyError, (.str zKeyError 135), (.type "KeyError")⟩, ⟨PyData.keyHash P zModuleNotFoundError, (.str zModuleNotFoundError 136), (.type "ModuleNotFoundError")⟩, ⟨PyData.keyHash P zNotImplementedError, (.str zNotImplementedError 137), (.type "NotImplementedError")⟩, ⟨PyData.keyHash P zPythonFinalizationError, (.str zPythonFinalizationError 138), (.type "PythonFinalizationError")⟩, ⟨PyData.keyHash P zRecursionError, (.str zRecursionError 139), (.type "RecursionError")⟩, ⟨PyData.keyHash P zUnboundLocalError, (.str zUnboundLocalError 140), (.type "UnboundLocalError")⟩, ⟨PyData.keyHash P zUnicodeError, (.str zUnicodeError 141), (.type "UnicodeError")⟩, ⟨PyData.keyHash P zBrokenPipeError, (.str zBrokenPipeError 142), (.type "BrokenPipeError")⟩, ⟨PyData.keyHash P zConnectionAbortedError, (.str zConnectionAbortedError 143), (.type "ConnectionAbortedError")⟩, ⟨PyData.keyHash P zConnectionRefusedError, (.str zConnectionRefusedError 144), (.type "ConnectionRefusedError")⟩, ⟨PyData.keyHash P zConnectionResetError, (.str zConnectionResetError 145), (.type "ConnectionResetError")⟩, ⟨PyData.keyHash P zTabError, (.str zTabError 146), (.type "TabError")⟩, ⟨PyData.keyHash P zUnicodeDecodeError, (.str zUnicodeDecodeError 147), (.type "UnicodeDecodeError")⟩, ⟨PyData.keyHash P zUnicodeEncodeError, (.str zUnicodeEncodeError 148), (.type "UnicodeEncodeError")⟩, ⟨PyData.keyHash P zUnicodeTranslateError, (.str zUnicodeTranslateError 149), (.type "UnicodeTranslateError")⟩, ⟨PyData.keyHash P zExceptionGroup, (.str zExceptionGroup 150), (.type "ExceptionGroup")⟩, ⟨PyData.keyHash P zEnvironmentError, (.str zEnvironmentError 151), (.type "OSError")⟩, ⟨PyData.keyHash P zIOError, (.str zIOError 152), (.type "OSError")⟩, ⟨PyData.keyHash P zopen, (.str zopen 153), (.builtin "open")⟩, ⟨PyData.keyHash P zquit, (.str zquit 154), (.builtin "builtins.quit#opaque")⟩, ⟨PyData.keyHash P zexit, (.str zexit 155), (.builtin "builtins.exit#opaque")⟩, ⟨PyData.keyHash P zcopyright, (.str zcopyright 156), (.builtin "builtins.copyright#opaque")⟩, ⟨PyData.keyHash P zcredits, (.str zcredits 157), (.builtin "builtins.credits#opaque")⟩, ⟨PyData.keyHash P zlicense, (.str zlicense 158), (.builtin "builtins.license#opaque")⟩, ⟨PyData.keyHash P zhelp, (.str zhelp 159), (.builtin "builtins.help#opaque")⟩] 159), #[]⟩
def f2 (P : Params) : Obj := ⟨.none, none, (.dict #[⟨PyData.keyHash P y830831868, (.str y830831868 183), (.bool true)⟩, ⟨PyData.keyHash P y127357242, (.str y127357242 185), (.ref 14)⟩, ⟨PyData.keyHash P y369520399, (.str y369520399 206), (.ref 18)⟩, ⟨PyData.keyHash P y570527370, (.str y570527370 216), (.ref 22)⟩, ⟨PyData.keyHash P y499290903, (.str y499290903 245), (.int 5 0)⟩, ⟨PyData.keyHash P y414204762, (.str y414204762 270), (.bool true)⟩, ⟨PyData.keyHash P y448442148, (.str y448442148 272), (.ref 27)⟩, ⟨PyData.keyHash P y227251817, (.str y227251817 0), (.str y862700717 0)⟩, ⟨PyData.keyHash P y784366465, (.str y784366465 273), (.str y718300091 0)⟩, ⟨PyData.keyHash P y551361691, (.str y551361691 280), (.bool true)⟩, ⟨PyData.keyHash P y551360606, (.str y551360606 285), (.ref 33)⟩, ⟨PyData.keyHash P y274784248, (.str y274784248 301), (.ref 38)⟩, ⟨PyData.keyHash P y896737827, (.str y896737827 322), (.ref 43)⟩, ⟨PyData.keyHash P y635774927, (.str y635774927 428), (.bool true)⟩, ⟨PyData.keyHash P y95736198, (.str y95736198 440), (.bool true)⟩, ⟨PyData.keyHash P y66652887, (.str y66652887 483), (.bool true)⟩, ⟨PyData.keyHash P y839975295, (.str y839975295 485), (.str y86715091 0)⟩] 17), #[]⟩
def f3 (P : Params) : Obj := ⟨(.type "dict"), none, (.dict #[⟨PyData.keyHash P z__name__, (.str z__name__ 165), (.str zlaw_ww0010_03 2361)⟩, ⟨PyData.keyHash P z__doc__, (.str z__doc__ 166), .none⟩, ⟨PyData.keyHash P z__package__, (.str z__package__ 167), .none⟩, ⟨PyData.keyHash P z__loader__, (.str z__loader__ 168), (.builtin "__main__.__loader__#opaque")⟩, ⟨PyData.keyHash P z__spec__, (.str z__spec__ 169), .none⟩, ⟨PyData.keyHash P z__annotations__, (.str z__annotations__ 170), (.ref 6)⟩, ⟨PyData.keyHash P z__builtins__, (.str z__builtins__ 171), (.ref 4)⟩, ⟨PyData.keyHash P z__file__, (.str z__file__ 173), (.str y337536729 172)⟩, ⟨PyData.keyHash P z__cached__, (.str z__cached__ 174), .none⟩, ⟨PyData.keyHash P z_sre, (.str z_sre 275), (.ref 12)⟩, ⟨PyData.keyHash P zisnan, (.str zisnan 435), (.builtin "math.isnan")⟩, ⟨PyData.keyHash P zcategory, (.str zcategory 491), (.builtin "unicodedata.category")⟩, ⟨PyData.keyHash P z_wall, (.str z_wall 504), (.ref 68)⟩, ⟨PyData.keyHash P z_reserved_word_re, (.str z_reserved_word_re 1155), (.ref 73)⟩, ⟨PyData.keyHash P z_OWN_NAMES, (.str z_OWN_NAMES 1163), (.ref 74)⟩, ⟨PyData.keyHash P zmappingproxy, (.str zmappingproxy 1371), (.ref 255)⟩, ⟨PyData.keyHash P z_MEMBERS_VIEW, (.str z_MEMBERS_VIEW 1372), (.ref 255)⟩, ⟨PyData.keyHash P zEnumType, (.str zEnumType 1632), (.ref 471)⟩, ⟨PyData.keyHash P z_EnumField, (.str z_EnumField 1687), (.ref 513)⟩, ⟨PyData.keyHash P zEnum, (.str zEnum 1874), (.ref 637)⟩, ⟨PyData.keyHash P zQuoteStyle, (.str zQuoteStyle 1921), (.ref 660)⟩, ⟨PyData.keyHash P z_lay_QuoteStyle, (.str z_lay_QuoteStyle 1935), (.ref 673)⟩, ⟨PyData.keyHash P zdumps, (.str zdumps 2111), (.ref 723)⟩, ⟨PyData.keyHash P zJSON5Encoder, (.str zJSON5Encoder 2353), (.ref 853)⟩, ⟨PyData.keyHash P z_raise_type_error, (.str z_raise_type_error 2360), (.ref 864)⟩, ⟨PyData.keyHash P z_law_number, (.str z_law_number 2370), (.ref 871)⟩, ⟨PyData.keyHash P z_law_written, (.str z_law_written 2376), (.ref 876)⟩, ⟨PyData.keyHash P zlaw, (.str zlaw 2382), (.ref 881)⟩] 28), #[]⟩
def f4 (P : Params) : Obj := ⟨(.type "module"), (some 0), .plain, #[]⟩
def f59 (P : Params) : Obj := ⟨.none, none, (.fields #[(.int 4 0), (.int 0 0), (.ref 67), (.int 10 0), (.int 0 0), (.ref 80), (.int 92 0), (.int 0 0), (.ref 266), (.int 222 0), (.int 0 0), (.ref 480), (.int 239 0), (.int 0 0), (.ref 523), (.int 333 0), (.int 0 0), (.ref 652), (.int 337 0), (.int 0 0), (.ref 672), (.int 371 0), (.int 0 0), (.ref 722), (.int 374 0), (.int 0 0), (.ref 729), (.int 598 0), (.int 0 0), (.ref 863), (.int 601 0), (.int 0 0), (.ref 870), (.int 603 0), (.int 0 0), (.ref 875), (.int 606 0), (.int 0 0), (.ref 880)]), #[]⟩
def f60 (P : Params) : Obj := ⟨(.type "code"), none, (.fields #[(.str y901796171 493), (.str y901796171 494), (.str y337536729 495), (.int 1 0), (.int 0 0), (.int 0 0), (.int 0 0), (.int 0 0), (.ref 58), (.bool false), (.int 492 0), (.ref 59), .none, .none, .none, .none, (.int 496 0), (.int 1 0), (.str y337536729 497)]), #[]⟩
def f72 (P : Params) : Obj := ⟨(.type "tuple"), none, (.seq #[(.int 14 0), (.int 14 0), (.int 4 0), (.int 2 0), (.int 10 0), (.int 9 0), (.int 0 0), (.int 0 0), (.int 0 0), (.int 48059004 0), (.int 0 0), (.int 0 0), (.int 0 0), (.int 0 0), (.int 0 0), (.int 17 0), (.int 0 0), (.int 7 0), (.int 13 0), (.int 16 0), (.int 98 0), (.int 16 0), (.int 114 0), (.int 16 0), (.int 101 0), (.int 16 0), (.int 97 0), (.int 16 0), (.int 107 0), (.int 15 0), (.int 610 0), (.int 11 0), (.int 16 0), (.int 99 0), (.int 16 0), (.int 97 0), (.int 16 0), (.int 115 0), (.int 16 0), (.int 101 0), (.int 15 0), (.int 599 0), (.int 13 0), (.int 16 0), (.int 99 0), (.int 16 0), (.int 97 0), (.int 16 0), (.int 116 0), (.int 16 0), (.int 99 0), (.int 16 0), (.int 104 0), (.int 15 0), (.int 586 0), (.int 13 0), (.int 16 0), (.int 99 0), (.int 16 0), (.int 108 0), (.int 16 0), (.int 97 0), (.int 16 0), (.int 115 0), (.int 16 0), (.int 115 0), (.int 15 0), (.int 573 0), (.int 13 0), (.int 16 0), (.int 99 0), (.int 16 0), (.int 111 0), (.int 16 0), (.int 110 0), (.int 16 0), (.int 115 0), (.int 16 0), (.int 116 0), (.int 15 0), (.int 560 0), (.int 19 0), (.int 16 0), (.int 99 0), (.int 16 0), (.int 111 0), (.int 16 0), (.int 110 0), (.int 16 0), (.int 116 0), (.int 16 0), (.int 105 0), (.int 16 0), (.int 110 0), (.int 16 0), (.int 117 0), (.int 16 0), (.int 101 0), (.int 15 0), (.int 541 0), (.int 19 0), (.int 16 0), (.int 100 0), (.int 16 0), (.int 101 0), (.int 16 0), (.int 98 0), (.int 16 0), (.int 117 0), (.int 16 0), (.int 103 0), (.int 16 0), (.int 103 0), (.int 16 0), (.int 101 0), (.int 16 0), (.int 114 0), (.int 15 0), (.int 522 0), (.int 17 0), (.int 16 0), (.int 100 0), (.int 16 0), (.int 101 0), (.int 16 0), (.int 102 0), (.int 16 0), (.int 97 0), (.int 16 0), (.int 117 0), (.int 16 0), (.int 108 0), (.int 16 0), (.int 116 0), (.int 15 0), (.int 505 0), (.int 15 0), (.int 16 0), (.int 100 0), (.int 16 0), (.int 101 0), (.int 16 0), (.int 108 0), (.int 16 0), (.int 101 0), (.int 16 0), (.int 116 0), (.int 16 0), (.int 101 0), (.int 15 0), (.int 490 0), (.int 7 0), (.int 16 0), (.int 100 0), (.int 16 0), (.int 111 0), (.int 15 0), (.int 483 0), (.int 11 0), (.int 16 0), (.int 101 0), (.int 16 0), (.int 108 0), (.int 16 0), (.int 115 0), (.int 16 0), (.int 101 0), (.int 15 0), (.int 472 0), (.int 11 0), (.int 16 0), (.int 101 0), (.int 16 0), (.int 110 0), (.int 16 0), (.int 117 0), (.int 16 0), (.int 109 0), (.int 15 0), (.int 461 0), (.int 15 0), (.int 16 0), (.int 101 0), (.int 16 0), (.int 120 0), (.int 16 0), (.int 112 0), (.int 16 0), (.int 111 0), (.int 16 0), (.int 114 0), (.int 16 0), (.int 116 0), (.int 15 0), (.int 446 0), (.int 17 0), (.int 16 0), (.int 101 0), (.int 16 0), (.int 120 0), (.int 16 0), (.int 116 0), (.int 16 0), (.int 101 0), (.int 16 0), (.int 110 0), (.int 16 0), (.int 100 0), (.int 16 0), (.int 115 0), (.int 15 0), (.int 429 0), (.int 13 0), (.int 16 0), (.int 102 0), (.int 16 0), (.int 97 0), (.int 16 0), (.int 108 0), (.int 16 0), (.int 115 0), (.int 16 0), (.int 101 0), (.int 15 0), (.int 416 0), (.int 17 0), (.int 16 0), (.int 102 0), (.int 16 0), (.int 105 0), (.int 16 0), (.int 110 0), (.int 16 0), (.int 97 0), (.int 16 0), (.int 108 0), (.int 16 0), (.int 108 0), (.int 16 0), (.int 121 0), (.int 15 0), (.int 399 0), (.int 9 0), (.int 16 0), (.int 102 0), (.int 16 0), (.int 111 0), (.int 16 0), (.int 114 0), (.int 15 0), (.int 390 0), (.int 19 0), (.int 16 0), (.int 102 0), (.int 16 0), (.int 117 0), (.int 16 0), (.int 110 0), (.int 16 0), (.int 99 0), (.int 16 0), (.int 116 0), (.int 16 0), (.int 105 0), (.int 16 0), (.int 111 0), (.int 16 0), (.int 110 0), (.int 15 0), (.int 371 0), (.int 7 0), (.int 16 0), (.int 105 0), (.int 16 0), (.int 102 0), (.int 15 0), (.int 364 0), (.int 23 0), (.int 16 0), (.int 105 0), (.int 16 0), (.int 109 0), (.int 16 0), (.int 112 0), (.int 16 0), (.int 108 0), (.int 16 0), (.int 101 0), (.int 16 0), (.int 109 0), (.int 16 0), (.int 101 0), (.int 16 0), (.int 110 0), (.int 16 0), (.int 116 0), (.int 16 0), (.int 115 0), (.int 15 0), (.int 341 0), (.int 15 0), (.int 16 0), (.int 105 0), (.int 16 0), (.int 109 0), (.int 16 0), (.int 112 0), (.int 16 0), (.int 111 0), (.int 16 0), (.int 114 0), (.int 16 0), (.int 116 0), (.int 15 0), (.int 326 0), (.int 7 0), (.int 16 0), (.int 105 0), (.int 16 0), (.int 110 0), (.int 15 0), (.int 319 0), (.int 23 0), (.int 16 0), (.int 105 0), (.int 16 0), (.int 110 0), (.int 16 0), (.int 115 0), (.int 16 0), (.int 116 0), (.int 16 0), (.int 97 0), (.int 16 0), (.int 110 0), (.int 16 0), (.int 99 0), (.int 16 0), (.int 101 0), (.int 16 0), (.int 111 0), (.int 16 0), (.int 102 0), (.int 15 0), (.int 296 0), (.int 21 0), (.int 16 0), (.int 105 0), (.int 16 0), (.int 110 0), (.int 16 0), (.int 116 0), (.int 16 0), (.int 101 0), (.int 16 0), (.int 114 0), (.int 16 0), (.int 102 0), (.int 16 0), (.int 97 0), (.int 16 0), (.int 99 0), (.int 16 0), (.int 101 0), (.int 15 0), (.int 275 0), (.int 9 0), (.int 16 0), (.int 108 0), (.int 16 0), (.int 101 0), (.int 16 0), (.int 116 0), (.int 15 0), (.int 266 0), (.int 9 0), (.int 16 0), (.int 110 0), (.int 16 0), (.int 101 0), (.int 16 0), (.int 119 0), (.int 15 0), (.int 257 0), (.int 11 0), (.int 16 0), (.int 110 0), (.int 16 0), (.int 117 0), (.int 16 0), (.int 108 0), (.int 16 0), (.int 108 0), (.int 15 0), (.int 246 0), (.int 17 0), (.int 16 0), (.int 112 0), (.int 16 0), (.int 97 0), (.int 16 0), (.int 99 0), (.int 16 0), (.int 107 0), (.int 16 0), (.int 97 0), (.int 16 0), (.int 103 0), (.int 16 0), (.int 101 0), (.int 15 0), (.int 229 0), (.int 17 0), (.int 16 0), (.int 112 0), (.int 16 0), (.int 114 0), (.int 16 0), (.int 105 0), (.int 16 0), (.int 118 0), (.int 16 0), (.int 97 0), (.int 16 0), (.int 116 0), (.int 16 0), (.int 101 0), (.int 15 0), (.int 212 0), (.int 21 0), (.int 16 0), (.int 112 0), (.int 16 0), (.int 114 0), (.int 16 0), (.int 111 0), (.int 16 0), (.int 116 0), (.int 16 0), (.int 101 0), (.int 16 0), (.int 99 0), (.int 16 0), (.int 116 0), (.int 16 0), (.int 101 0), (.int 16 0), (.int 100 0), (.int 15 0), (.int 191 0), (.int 15 0), (.int 16 0), (.int 112 0), (.int 16 0), (.int 117 0), (.int 16 0), (.int 98 0), (.int 16 0), (.int 108 0), (.int 16 0), (.int 105 0), (.int 16 0), (.int 99 0), (.int 15 0), (.int 176 0), (.int 15 0), (.int 16 0), (.int 114 0), (.int 16 0), (.int 101 0), (.int 16 0), (.int 116 0), (.int 16 0), (.int 117 0), (.int 16 0), (.int 114 0), (.int 16 0), (.int 110 0), (.int 15 0), (.int 161 0), (.int 15 0), (.int 16 0), (.int 115 0), (.int 16 0), (.int 116 0), (.int 16 0), (.int 97 0), (.int 16 0), (.int 116 0), (.int 16 0), (.int 105 0), (.int 16 0), (.int 99 0), (.int 15 0), (.int 146 0), (.int 13 0), (.int 16 0), (.int 115 0), (.int 16 0), (.int 117 0), (.int 16 0), (.int 112 0), (.int 16 0), (.int 101 0), (.int 16 0), (.int 114 0), (.int 15 0), (.int 133 0), (.int 15 0), (.int 16 0), (.int 115 0), (.int 16 0), (.int 119 0), (.int 16 0), (.int 105 0), (.int 16 0), (.int 116 0), (.int 16 0), (.int 99 0), (.int 16 0), (.int 104 0), (.int 15 0), (.int 118 0), (.int 11 0), (.int 16 0), (.int 116 0), (.int 16 0), (.int 104 0), (.int 16 0), (.int 105 0), (.int 16 0), (.int 115 0), (.int 15 0), (.int 107 0), (.int 13 0), (.int 16 0), (.int 116 0), (.int 16 0), (.int 104 0), (.int 16 0), (.int 114 0), (.int 16 0), (.int 111 0), (.int 16 0), (.int 119 0), (.int 15 0), (.int 94 0), (.int 11 0), (.int 16 0), (.int 116 0), (.int 16 0), (.int 114 0), (.int 16 0), (.int 117 0), (.int 16 0), (.int 101 0), (.int 15 0), (.int 83 0), (.int 9 0), (.int 16 0), (.int 116 0), (.int 16 0), (.int 114 0), (.int 16 0), (.int 121 0), (.int 15 0), (.int 74 0), (.int 15 0), (.int 16 0), (.int 116 0), (.int 16 0), (.int 121 0), (.int 16 0), (.int 112 0), (.int 16 0), (.int 101 0), (.int 16 0), (.int 111 0), (.int 16 0), (.int 102 0), (.int 15 0), (.int 59 0), (.int 9 0), (.int 16 0), (.int 118 0), (.int 16 0), (.int 97 0), (.int 16 0), (.int 114 0), (.int 15 0), (.int 50 0), (.int 11 0), (.int 16 0), (.int 118 0), (.int 16 0), (.int 111 0), (.int 16 0), (.int 105 0), (.int 16 0), (.int 100 0), (.int 15 0), (.int 39 0), (.int 13 0), (.int 16 0), (.int 119 0), (.int 16 0), (.int 104 0), (.int 16 0), (.int 105 0), (.int 16 0), (.int 108 0), (.int 16 0), (.int 101 0), (.int 15 0), (.int 26 0), (.int 11 0), (.int 16 0), (.int 119 0), (.int 16 0), (.int 105 0), (.int 16 0), (.int 116 0), (.int 16 0), (.int 104 0), (.int 15 0), (.int 15 0), (.int 13 0), (.int 16 0), (.int 121 0), (.int 16 0), (.int 105 0), (.int 16 0), (.int 101 0), (.int 16 0), (.int 108 0), (.int 16 0), (.int 100 0), (.int 15 0), (.int 2 0), (.int 0 0), (.int 17 0), (.int 1 0), (.int 6 0), (.int 5 0), (.int 1 0)] 0), #[]⟩
def f73 (P : Params) : Obj := ⟨(.type "re.Pattern"), none, (.fields #[(.str y854514975 506), (.int 32 1154), (.int 1 0), .none, .none, (.ref 72), (.int 0 0)]), #[]⟩
def f74 (P : Params) : Obj := ⟨(.type "tuple"), none, (.seq #[(.str z_written_out_ 1158), (.str z_is_flag_ 1159), (.str z_given_values_ 1160), (.str z_held_init_ 1161), (.str z_making_ 1162)] 0), #[]⟩
def f75 (P : Params) : Obj := ⟨(.type "tuple"), none, (.seq #[] 0), #[]⟩
def f76 (P : Params) : Obj := ⟨(.type "builtin_function_or_method"), none, (.fields #[(.builtin "type.__prepare__"), (.type "type")]), #[]⟩
def f77 (P : Params) : Obj := ⟨(.type "dict"), none, (.dict #[⟨PyData.keyHash P z__module__, (.str z__module__ 1171), (.str zbuiltins 1176)⟩, ⟨PyData.keyHash P z__qualname__, (.str z__qualname__ 1173), (.str zmappingproxy 1172)⟩, ⟨PyData.keyHash P z__firstlineno__, (.str z__firstlineno__ 1175), (.int 10 1174)⟩, ⟨PyData.keyHash P z__slots__, (.str z__slots__ 1179), (.ref 82)⟩, ⟨PyData.keyHash P z__new__, (.str z__new__ 1188), (.ref 89)⟩, ⟨PyData.keyHash P z__reduce_ex__, (.str z__reduce_ex__ 1196), (.ref 96)⟩, ⟨PyData.keyHash P z__getitem__, (.str z__getitem__ 1204), (.ref 103)⟩, ⟨PyData.keyHash P z__len__, (.str z__len__ 1211), (.ref 110)⟩, ⟨PyData.keyHash P z__iter__, (.str z__iter__ 1218), (.ref 117)⟩, ⟨PyData.keyHash P z__reversed__, (.str z__reversed__ 1225), (.ref 124)⟩, ⟨PyData.keyHash P z__contains__, (.str z__contains__ 1233), (.ref 131)⟩, ⟨PyData.keyHash P z__repr__, (.str z__repr__ 1240), (.ref 138)⟩, ⟨PyData.keyHash P z__str__, (.str z__str__ 1247), (.ref 145)⟩, ⟨PyData.keyHash P z__eq__, (.str z__eq__ 1255), (.ref 152)⟩, ⟨PyData.keyHash P z__ne__, (.str z__ne__ 1263), (.ref 159)⟩, ⟨PyData.keyHash P z__lt__, (.str z__lt__ 1271), (.ref 166)⟩, ⟨PyData.keyHash P z__le__, (.str z__le__ 1279), (.ref 173)⟩, ⟨PyData.keyHash P z__gt__, (.str z__gt__ 1287), (.ref 180)⟩, ⟨PyData.keyHash P z__ge__, (.str z__ge__ 1295), (.ref 187)⟩, ⟨PyData.keyHash P z__hash__, (.str z__hash__ 1302), (.ref 194)⟩, ⟨PyData.keyHash P z__or__, (.str z__or__ 1310), (.ref 201)⟩, ⟨PyData.keyHash P z__ror__, (.str z__ror__ 1318), (.ref 208)⟩, ⟨PyData.keyHash P z__ior__, (.str z__ior__ 1326), (.ref 215)⟩, ⟨PyData.keyHash P zget, (.str zget 1335), (.ref 223)⟩, ⟨PyData.keyHash P zkeys, (.str zkeys 1342), (.ref 230)⟩, ⟨PyData.keyHash P zvalues, (.str zvalues 1349), (.ref 237)⟩, ⟨PyData.keyHash P zitems, (.str zitems 1356), (.ref 244)⟩, ⟨PyData.keyHash P zcopy, (.str zcopy 1363), (.ref 251)⟩, ⟨PyData.keyHash P z__static_attributes__, (.str z__static_attributes__ 1365), (.ref 252)⟩] 29), #[]⟩
def f78 (P : Params) : Obj := ⟨(.type "tuple"), none, (.seq #[] 0), #[]⟩
def f79 (P : Params) : Obj := ⟨.none, none, (.fields #[(.int 14 0), (.int 4 0), (.ref 88), (.int 21 0), (.int 4 0), (.ref 95), (.int 24 0), (.int 4 0), (.ref 102), (.int 27 0), (.int 4 0), (.ref 109), (.int 30 0), (.int 4 0), (.ref 116), (.int 33 0), (.int 4 0), (.ref 123), (.int 36 0), (.int 4 0), (.ref 130), (.int 39 0), (.int 4 0), (.ref 137), (.int 42 0), (.int 4 0), (.ref 144), (.int 45 0), (.int 4 0), (.ref 151), (.int 48 0), (.int 4 0), (.ref 158), (.int 51 0), (.int 4 0), (.ref 165), (.int 54 0), (.int 4 0), (.ref 172), (.int 57 0), (.int 4 0), (.ref 179), (.int 60 0), (.int 4 0), (.ref 186), (.int 63 0), (.int 4 0), (.ref 193), (.int 66 0), (.int 4 0), (.ref 200), (.int 71 0), (.int 4 0), (.ref 207), (.int 74 0), (.int 4 0), (.ref 214), (.int 77 0), (.int 4 0), (.ref 222), (.int 80 0), (.int 4 0), (.ref 229), (.int 83 0), (.int 4 0), (.ref 236), (.int 86 0), (.int 4 0), (.ref 243), (.int 89 0), (.int 4 0), (.ref 250)]), #[]⟩
def f80 (P : Params) : Obj := ⟨(.type "code"), none, (.fields #[(.str zmappingproxy 1166), (.str zmappingproxy 1167), (.str y337536729 1168), (.int 10 0), (.int 0 0), (.int 0 0), (.int 0 0), (.int 0 0), (.ref 78), (.bool false), (.int 492 0), (.ref 79), .none, .none, .none, .none, (.int 1169 0), (.int 10 0), (.str y337536729 1170)]), #[]⟩
def f81 (P : Params) : Obj := ⟨(.type "frame"), none, .plain, #[(some (.ref 80)), (some (.ref 3)), (some (.ref 77)), none, (some (.str zenum 1156)), none, (some (.ref 0))]⟩
def f82 (P : Params) : Obj := ⟨(.type "tuple"), none, (.seq #[(.str z_mapping 1178)] 0), #[]⟩
def f83 (P : Params) : Obj := ⟨(.type "tuple"), none, (.seq #[] 0), #[]⟩
def f84 (P : Params) : Obj := ⟨.none, none, (.fields #[]), #[]⟩
def f85 (P : Params) : Obj := ⟨(.type "tuple"), none, (.seq #[(.str zcls 1183), (.str zmapping 1184), (.str zself 1185)] 0), #[]⟩
def f86 (P : Params) : Obj := ⟨(.type "tuple"), none, (.seq #[] 0), #[]⟩
def f87 (P : Params) : Obj := ⟨.none, none, (.func { name := z__new__, qualname := y230081155, params := fArgs [4, 2], body := .stmts (fBody [4, 2]), scope := fScope [4, 2], globals := 0, closure := [], defaults := .none, kwdefaults := .none, doc := .none, pyModule := .none, annotations := none, code := .none, closureTuple := .none, builtins := 0 }), #[]⟩
def f88 (P : Params) : Obj := ⟨(.type "code"), none, (.fields #[(.str z__new__ 1180), (.str y230081155 1181), (.str y337536729 1182), (.int 14 0), (.int 2 0), (.int 0 0), (.int 0 0), (.int 3 0), (.ref 83), (.bool true), (.int 492 0), (.ref 84), .none, (.ref 85), (.ref 86), (.ref 87), (.int 1186 0), (.int 14 0), (.str y337536729 1187)]), #[]⟩
def f89 (P : Params) : Obj := ⟨(.type "function"), none, (.func { name := z__new__, qualname := y230081155, params := fArgs [4, 2], body := .stmts (fBody [4, 2]), scope := fScope [4, 2], globals := 3, closure := [], defaults := .none, kwdefaults := .none, doc := .none, pyModule := (.str zenum 1156), annotations := none, code := (.ref 88), closureTuple := .none, builtins := 0 }), #[]⟩
def f90 (P : Params) : Obj := ⟨(.type "tuple"), none, (.seq #[] 0), #[]⟩
def f91 (P : Params) : Obj := ⟨.none, none, (.fields #[]), #[]⟩
def f92 (P : Params) : Obj := ⟨(.type "tuple"), none, (.seq #[(.str zself 1192), (.str zprotocol 1193)] 0), #[]⟩
def f93 (P : Params) : Obj := ⟨(.type "tuple"), none, (.seq #[] 0), #[]⟩
def f94 (P : Params) : Obj := ⟨.none, none, (.func { name := z__reduce_ex__, qualname := y526292654, params := fArgs [4, 3], body := .stmts (fBody [4, 3]), scope := fScope [4, 3], globals := 0, closure := [], defaults := .none, kwdefaults := .none, doc := .none, pyModule := .none, annotations := none, code := .none, closureTuple := .none, builtins := 0 }), #[]⟩
def f95 (P : Params) : Obj := ⟨(.type "code"), none, (.fields #[(.str z__reduce_ex__ 1189), (.str y526292654 1190), (.str y337536729 1191), (.int 21 0), (.int 2 0), (.int 0 0), (.int 0 0), (.int 3 0), (.ref 90), (.bool true), (.int 492 0), (.ref 91), .none, (.ref 92), (.ref 93), (.ref 94), (.int 1194 0), (.int 21 0), (.str y337536729 1195)]), #[]⟩
def f96 (P : Params) : Obj := ⟨(.type "function"), none, (.func { name := z__reduce_ex__, qualname := y526292654, params := fArgs [4, 3], body := .stmts (fBody [4, 3]), scope := fScope [4, 3], globals := 3, closure := [], defaults := .none, kwdefaults := .none, doc := .none, pyModule := (.str zenum 1156), annotations := none, code := (.ref 95), closureTuple := .none, builtins := 0 }), #[]⟩
def f97 (P : Params) : Obj := ⟨(.type "tuple"), none, (.seq #[] 0), #[]⟩
def f98 (P : Params) : Obj := ⟨.none, none, (.fields #[]), #[]⟩
def f99 (P : Params) : Obj := ⟨(.type "tuple"), none, (.seq #[(.str zself 1200), (.str zkey 1201)] 0), #[]⟩
def f100 (P : Params) : Obj := ⟨(.type "tuple"), none, (.seq #[] 0), #[]⟩
def f101 (P : Params) : Obj := ⟨.none, none, (.func { name := z__getitem__, qualname := y657782686, params := fArgs [4, 4], body := .stmts (fBody [4, 4]), scope := fScope [4, 4], globals := 0, closure := [], defaults := .none, kwdefaults := .none, doc := .none, pyModule := .none, annotations := none, code := .none, closureTuple := .none, builtins := 0 }), #[]⟩
def f102 (P : Params) : Obj := ⟨(.type "code"), none, (.fields #[(.str z__getitem__ 1197), (.str y657782686 1198), (.str y337536729 1199), (.int 24 0), (.int 2 0), (.int 0 0), (.int 0 0), (.int 3 0), (.ref 97), (.bool true), (.int 492 0), (.ref 98), .none, (.ref 99), (.ref 100), (.ref 101), (.int 1202 0), (.int 24 0), (.str y337536729 1203)]), #[]⟩
def f103 (P : Params) : Obj := ⟨(.type "function"), none, (.func { name := z__getitem__, qualname := y657782686, params := fArgs [4, 4], body := .stmts (fBody [4, 4]), scope := fScope [4, 4], globals := 3, closure := [], defaults := .none, kwdefaults := .none, doc := .none, pyModule := (.str zenum 1156), annotations := none, code := (.ref 102), closureTuple := .none, builtins := 0 }), #[]⟩
def f104 (P : Params) : Obj := ⟨(.type "tuple"), none, (.seq #[] 0), #[]⟩
def f105 (P : Params) : Obj := ⟨.none, none, (.fields #[]), #[]⟩
def f106 (P : Params) : Obj := ⟨(.type "tuple"), none, (.seq #[(.str zself 1208)] 0), #[]⟩
def f107 (P : Params) : Obj := ⟨(.type "tuple"), none, (.seq #[] 0), #[]⟩
def f108 (P : Params) : Obj := ⟨.none, none, (.func { name := z__len__, qualname := y725560294, params := fArgs [4, 5], body := .stmts (fBody [4, 5]), scope := fScope [4, 5], globals := 0, closure := [], defaults := .none, kwdefaults := .none, doc := .none, pyModule := .none, annotations := none, code := .none, closureTuple := .none, builtins := 0 }), #[]⟩
def f109 (P : Params) : Obj := ⟨(.type "code"), none, (.fields #[(.str z__len__ 1205), (.str y725560294 1206), (.str y337536729 1207), (.int 27 0), (.int 1 0), (.int 0 0), (.int 0 0), (.int 3 0), (.ref 104), (.bool true), (.int 492 0), (.ref 105), .none, (.ref 106), (.ref 107), (.ref 108), (.int 1209 0), (.int 27 0), (.str y337536729 1210)]), #[]⟩
def f110 (P : Params) : Obj := ⟨(.type "function"), none, (.func { name := z__len__, qualname := y725560294, params := fArgs [4, 5], body := .stmts (fBody [4, 5]), scope := fScope [4, 5], globals := 3, closure := [], defaults := .none, kwdefaults := .none, doc := .none, pyModule := (.str zenum 1156), annotations := none, code := (.ref 109), closureTuple := .none, builtins := 0 }), #[]⟩
def f111 (P : Params) : Obj := ⟨(.type "tuple"), none, (.seq #[] 0), #[]⟩
def f112 (P : Params) : Obj := ⟨.none, none, (.fields #[]), #[]⟩
def f113 (P : Params) : Obj := ⟨(.type "tuple"), none, (.seq #[(.str zself 1215)] 0), #[]⟩
def f114 (P : Params) : Obj := ⟨(.type "tuple"), none, (.seq #[] 0), #[]⟩
def f115 (P : Params) : Obj := ⟨.none, none, (.func { name := z__iter__, qualname := y120632617, params := fArgs [4, 6], body := .stmts (fBody [4, 6]), scope := fScope [4, 6], globals := 0, closure := [], defaults := .none, kwdefaults := .none, doc := .none, pyModule := .none, annotations := none, code := .none, closureTuple := .none, builtins := 0 }), #[]⟩
def f116 (P : Params) : Obj := ⟨(.type "code"), none, (.fields #[(.str z__iter__ 1212), (.str y120632617 1213), (.str y337536729 1214), (.int 30 0), (.int 1 0), (.int 0 0), (.int 0 0), (.int 3 0), (.ref 111), (.bool true), (.int 492 0), (.ref 112), .none, (.ref 113), (.ref 114), (.ref 115), (.int 1216 0), (.int 30 0), (.str y337536729 1217)]), #[]⟩
def f117 (P : Params) : Obj := ⟨(.type "function"), none, (.func { name := z__iter__, qualname := y120632617, params := fArgs [4, 6], body := .stmts (fBody [4, 6]), scope := fScope [4, 6], globals := 3, closure := [], defaults := .none, kwdefaults := .none, doc := .none, pyModule := (.str zenum 1156), annotations := none, code := (.ref 116), closureTuple := .none, builtins := 0 }), #[]⟩
def f118 (P : Params) : Obj := ⟨(.type "tuple"), none, (.seq #[] 0), #[]⟩
def f119 (P : Params) : Obj := ⟨.none, none, (.fields #[]), #[]⟩
def f120 (P : Params) : Obj := ⟨(.type "tuple"), none, (.seq #[(.str zself 1222)] 0), #[]⟩
def f121 (P : Params) : Obj := ⟨(.type "tuple"), none, (.seq #[] 0), #[]⟩
def f122 (P : Params) : Obj := ⟨.none, none, (.func { name := z__reversed__, qualname := y360123261, params := fArgs [4, 7], body := .stmts (fBody [4, 7]), scope := fScope [4, 7], globals := 0, closure := [], defaults := .none, kwdefaults := .none, doc := .none, pyModule := .none, annotations := none, code := .none, closureTuple := .none, builtins := 0 }), #[]⟩
def f123 (P : Params) : Obj := ⟨(.type "code"), none, (.fields #[(.str z__reversed__ 1219), (.str y360123261 1220), (.str y337536729 1221), (.int 33 0), (.int 1 0), (.int 0 0), (.int 0 0), (.int 3 0), (.ref 118), (.bool true), (.int 492 0), (.ref 119), .none, (.ref 120), (.ref 121), (.ref 122), (.int 1223 0), (.int 33 0), (.str y337536729 1224)]), #[]⟩
def f124 (P : Params) : Obj := ⟨(.type "function"), none, (.func { name := z__reversed__, qualname := y360123261, params := fArgs [4, 7], body := .stmts (fBody [4, 7]), scope := fScope [4, 7], globals := 3, closure := [], defaults := .none, kwdefaults := .none, doc := .none, pyModule := (.str zenum 1156), annotations := none, code := (.ref 123), closureTuple := .none, builtins := 0 }), #[]⟩
def f125 (P : Params) : Obj := ⟨(.type "tuple"), none, (.seq #[] 0), #[]⟩
def f126 (P : Params) : Obj := ⟨.none, none, (.fields #[]), #[]⟩
def f127 (P : Params) : Obj := ⟨(.type "tuple"), none, (.seq #[(.str zself 1229), (.str zkey 1230)] 0), #[]⟩
def f128 (P : Params) : Obj := ⟨(.type "tuple"), none, (.seq #[] 0), #[]⟩
def f129 (P : Params) : Obj := ⟨.none, none, (.func { name := z__contains__, qualname := y141172826, params := fArgs [4, 8], body := .stmts (fBody [4, 8]), scope := fScope [4, 8], globals := 0, closure := [], defaults := .none, kwdefaults := .none, doc := .none, pyModule := .none, annotations := none, code := .none, closureTuple := .none, builtins := 0 }), #[]⟩
def f130 (P : Params) : Obj := ⟨(.type "code"), none, (.fields #[(.str z__contains__ 1226), (.str y141172826 1227), (.str y337536729 1228), (.int 36 0), (.int 2 0), (.int 0 0), (.int 0 0), (.int 3 0), (.ref 125), (.bool true), (.int 492 0), (.ref 126), .none, (.ref 127), (.ref 128), (.ref 129), (.int 1231 0), (.int 36 0), (.str y337536729 1232)]), #[]⟩
def f131 (P : Params) : Obj := ⟨(.type "function"), none, (.func { name := z__contains__, qualname := y141172826, params := fArgs [4, 8], body := .stmts (fBody [4, 8]), scope := fScope [4, 8], globals := 3, closure := [], defaults := .none, kwdefaults := .none, doc := .none, pyModule := (.str zenum 1156), annotations := none, code := (.ref 130), closureTuple := .none, builtins := 0 }), #[]⟩
def f132 (P : Params) : Obj := ⟨(.type "tuple"), none, (.seq #[] 0), #[]⟩
def f133 (P : Params) : Obj := ⟨.none, none, (.fields #[]), #[]⟩
def f134 (P : Params) : Obj := ⟨(.type "tuple"), none, (.seq #[(.str zself 1237)] 0), #[]⟩
def f135 (P : Params) : Obj := ⟨(.type "tuple"), none, (.seq #[] 0), #[]⟩
def f136 (P : Params) : Obj := ⟨.none, none, (.func { name := z__repr__, qualname := y864132640, params := fArgs [4, 9], body := .stmts (fBody [4, 9]), scope := fScope [4, 9], globals := 0, closure := [], defaults := .none, kwdefaults := .none, doc := .none, pyModule := .none, annotations := none, code := .none, closureTuple := .none, builtins := 0 }), #[]⟩
def f137 (P : Params) : Obj := ⟨(.type "code"), none, (.fields #[(.str z__repr__ 1234), (.str y864132640 1235), (.str y337536729 1236), (.int 39 0), (.int 1 0), (.int 0 0), (.int 0 0), (.int 3 0), (.ref 132), (.bool true), (.int 492 0), (.ref 133), .none, (.ref 134), (.ref 135), (.ref 136), (.int 1238 0), (.int 39 0), (.str y337536729 1239)]), #[]⟩
def f138 (P : Params) : Obj := ⟨(.type "function"), none, (.func { name := z__repr__, qualname := y864132640, params := fArgs [4, 9], body := .stmts (fBody [4, 9]), scope := fScope [4, 9], globals := 3, closure := [], defaults := .none, kwdefaults := .none, doc := .none, pyModule := (.str zenum 1156), annotations := none, code := (.ref 137), closureTuple := .none, builtins := 0 }), #[]⟩
def f139 (P : Params) : Obj := ⟨(.type "tuple"), none, (.seq #[] 0), #[]⟩
def f140 (P : Params) : Obj := ⟨.none, none, (.fields #[]), #[]⟩
def f141 (P : Params) : Obj := ⟨(.type "tuple"), none, (.seq #[(.str zself 1244)] 0), #[]⟩
def f142 (P : Params) : Obj := ⟨(.type "tuple"), none, (.seq #[] 0), #[]⟩
def f143 (P : Params) : Obj := ⟨.none, none, (.func { name := z__str__, qualname := y136668632, params := fArgs [4, 10], body := .stmts (fBody [4, 10]), scope := fScope [4, 10], globals := 0, closure := [], defaults := .none, kwdefaults := .none, doc := .none, pyModule := .none, annotations := none, code := .none, closureTuple := .none, builtins := 0 }), #[]⟩
def f144 (P : Params) : Obj := ⟨(.type "code"), none, (.fields #[(.str z__str__ 1241), (.str y136668632 1242), (.str y337536729 1243), (.int 42 0), (.int 1 0), (.int 0 0), (.int 0 0), (.int 3 0), (.ref 139), (.bool true), (.int 492 0), (.ref 140), .none, (.ref 141), (.ref 142), (.ref 143), (.int 1245 0), (.int 42 0), (.str y337536729 1246)]), #[]⟩
def f145 (P : Params) : Obj := ⟨(.type "function"), none, (.func { name := z__str__, qualname := y136668632, params := fArgs [4, 10], body := .stmts (fBody [4, 10]), scope := fScope [4, 10], globals := 3, closure := [], defaults := .none, kwdefaults := .none, doc := .none, pyModule := (.str zenum 1156), annotations := none, code := (.ref 144), closureTuple := .none, builtins := 0 }), #[]⟩
def f146 (P : Params) : Obj := ⟨(.type "tuple"), none, (.seq #[] 0), #[]⟩
def f147 (P : Params) : Obj := ⟨.none, none, (.fields #[]), #[]⟩
def f148 (P : Params) : Obj := ⟨(.type "tuple"), none, (.seq #[(.str zself 1251), (.str zother 1252)] 0), #[]⟩
def f149 (P : Params) : Obj := ⟨(.type "tuple"), none, (.seq #[] 0), #[]⟩
def f150 (P : Params) : Obj := ⟨.none, none, (.func { name := z__eq__, qualname := y168197232, params := fArgs [4, 11], body := .stmts (fBody [4, 11]), scope := fScope [4, 11], globals := 0, closure := [], defaults := .none, kwdefaults := .none, doc := .none, pyModule := .none, annotations := none, code := .none, closureTuple := .none, builtins := 0 }), #[]⟩
def f151 (P : Params) : Obj := ⟨(.type "code"), none, (.fields #[(.str z__eq__ 1248), (.str y168197232 1249), (.str y337536729 1250), (.int 45 0), (.int 2 0), (.int 0 0), (.int 0 0), (.int 3 0), (.ref 146), (.bool true), (.int 492 0), (.ref 147), .none, (.ref 148), (.ref 149), (.ref 150), (.int 1253 0), (.int 45 0), (.str y337536729 1254)]), #[]⟩
def f152 (P : Params) : Obj := ⟨(.type "function"), none, (.func { name := z__eq__, qualname := y168197232, params := fArgs [4, 11], body := .stmts (fBody [4, 11]), scope := fScope [4, 11], globals := 3, closure := [], defaults := .none, kwdefaults := .none, doc := .none, pyModule := (.str zenum 1156), annotations := none, code := (.ref 151), closureTuple := .none, builtins := 0 }), #[]⟩
def f153 (P : Params) : Obj := ⟨(.type "tuple"), none, (.seq #[] 0), #[]⟩
def f154 (P : Params) : Obj := ⟨.none, none, (.fields #[]), #[]⟩
def f155 (P : Params) : Obj := ⟨(.type "tuple"), none, (.seq #[(.str zself 1259), (.str zother 1260)] 0), #[]⟩
def f156 (P : Params) : Obj := ⟨(.type "tuple"), none, (.seq #[] 0), #[]⟩
def f157 (P : Params) : Obj := ⟨.none, none, (.func { name := z__ne__, qualname := y386287663, params := fArgs [4, 12], body := .stmts (fBody [4, 12]), scope := fScope [4, 12], globals := 0, closure := [], defaults := .none, kwdefaults := .none, doc := .none, pyModule := .none, annotations := none, code := .none, closureTuple := .none, builtins := 0 }), #[]⟩
def f158 (P : Params) : Obj := ⟨(.type "code"), none, (.fields #[(.str z__ne__ 1256), (.str y386287663 1257), (.str y337536729 1258), (.int 48 0), (.int 2 0), (.int 0 0), (.int 0 0), (.int 3 0), (.ref 153), (.bool true), (.int 492 0), (.ref 154), .none, (.ref 155), (.ref 156), (.ref 157), (.int 1261 0), (.int 48 0), (.str y337536729 1262)]), #[]⟩
def f159 (P : Params) : Obj := ⟨(.type "function"), none, (.func { name := z__ne__, qualname := y386287663, params := fArgs [4, 12], body := .stmts (fBody [4, 12]), scope := fScope [4, 12], globals := 3, closure := [], defaults := .none, kwdefaults := .none, doc := .none, pyModule := (.str zenum 1156), annotations := none, code := (.ref 158), closureTuple := .none, builtins := 0 }), #[]⟩
def f160 (P : Params) : Obj := ⟨(.type "tuple"), none, (.seq #[] 0), #[]⟩
def f161 (P : Params) : Obj := ⟨.none, none, (.fields #[]), #[]⟩
def f162 (P : Params) : Obj := ⟨(.type "tuple"), none, (.seq #[(.str zself 1267), (.str zother 1268)] 0), #[]⟩
def f163 (P : Params) : Obj := ⟨(.type "tuple"), none, (.seq #[] 0), #[]⟩
def f164 (P : Params) : Obj := ⟨.none, none, (.func { name := z__lt__, qualname := y782512150, params := fArgs [4, 13], body := .stmts (fBody [4, 13]), scope := fScope [4, 13], globals := 0, closure := [], defaults := .none, kwdefaults := .none, doc := .none, pyModule := .none, annotations := none, code := .none, closureTuple := .none, builtins := 0 }), #[]⟩
def f165 (P : Params) : Obj := ⟨(.type "code"), none, (.fields #[(.str z__lt__ 1264), (.str y782512150 1265), (.str y337536729 1266), (.int 51 0), (.int 2 0), (.int 0 0), (.int 0 0), (.int 3 0), (.ref 160), (.bool true), (.int 492 0), (.ref 161), .none, (.ref 162), (.ref 163), (.ref 164), (.int 1269 0), (.int 51 0), (.str y337536729 1270)]), #[]⟩
def f166 (P : Params) : Obj := ⟨(.type "function"), none, (.func { name := z__lt__, qualname := y782512150, params := fArgs [4, 13], body := .stmts (fBody [4, 13]), scope := fScope [4, 13], globals := 3, closure := [], defaults := .none, kwdefaults := .none, doc := .none, pyModule := (.str zenum 1156), annotations := none, code := (.ref 165), closureTuple := .none, builtins := 0 }), #[]⟩
def f167 (P : Params) : Obj := ⟨(.type "tuple"), none, (.seq #[] 0), #[]⟩
def f168 (P : Params) : Obj := ⟨.none, none, (.fields #[]), #[]⟩
def f169 (P : Params) : Obj := ⟨(.type "tuple"), none, (.seq #[(.str zself 1275), (.str zother 1276)] 0), #[]⟩
def f170 (P : Params) : Obj := ⟨(.type "tuple"), none, (.seq #[] 0), #[]⟩
def f171 (P : Params) : Obj := ⟨.none, none, (.func { name := z__le__, qualname := y344409285, params := fArgs [4, 14], body := .stmts (fBody [4, 14]), scope := fScope [4, 14], globals := 0, closure := [], defaults := .none, kwdefaults := .none, doc := .none, pyModule := .none, annotations := none, code := .none, closureTuple := .none, builtins := 0 }), #[]⟩
def f172 (P : Params) : Obj := ⟨(.type "code"), none, (.fields #[(.str z__le__ 1272), (.str y344409285 1273), (.str y337536729 1274), (.int 54 0), (.int 2 0), (.int 0 0), (.int 0 0), (.int 3 0), (.ref 167), (.bool true), (.int 492 0), (.ref 168), .none, (.ref 169), (.ref 170), (.ref 171), (.int 1277 0), (.int 54 0), (.str y337536729 1278)]), #[]⟩
def f173 (P : Params) : Obj := ⟨(.type "function"), none, (.func { name := z__le__, qualname := y344409285, params := fArgs [4, 14], body := .stmts (fBody [4, 14]), scope := fScope [4, 14], globals := 3, closure := [], defaults := .none, kwdefaults := .none, doc := .none, pyModule := (.str zenum 1156), annotations := none, code := (.ref 172), closureTuple := .none, builtins := 0 }), #[]⟩
def f174 (P : Params) : Obj := ⟨(.type "tuple"), none, (.seq #[] 0), #[]⟩
def f175 (P : Params) : Obj := ⟨.none, none, (.fields #[]), #[]⟩
def f176 (P : Params) : Obj := ⟨(.type "tuple"), none, (.seq #[(.str zself 1283), (.str zother 1284)] 0), #[]⟩
def f177 (P : Params) : Obj := ⟨(.type "tuple"), none, (.seq #[] 0), #[]⟩
def f178 (P : Params) : Obj := ⟨.none, none, (.func { name := z__gt__, qualname := y214805526, params := fArgs [4, 15], body := .stmts (fBody [4, 15]), scope := fScope [4, 15], globals := 0, closure := [], defaults := .none, kwdefaults := .none, doc := .none, pyModule := .none, annotations := none, code := .none, closureTuple := .none, builtins := 0 }), #[]⟩
def f179 (P : Params) : Obj := ⟨(.type "code"), none, (.fields #[(.str z__gt__ 1280), (.str y214805526 1281), (.str y337536729 1282), (.int 57 0), (.int 2 0), (.int 0 0), (.int 0 0), (.int 3 0), (.ref 174), (.bool true), (.int 492 0), (.ref 175), .none, (.ref 176), (.ref 177), (.ref 178), (.int 1285 0), (.int 57 0), (.str y337536729 1286)]), #[]⟩
def f180 (P : Params) : Obj := ⟨(.type "function"), none, (.func { name := z__gt__, qualname := y214805526, params := fArgs [4, 15], body := .stmts (fBody [4, 15]), scope := fScope [4, 15], globals := 3, closure := [], defaults := .none, kwdefaults := .none, doc := .none, pyModule := (.str zenum 1156), annotations := none, code := (.ref 179), closureTuple := .none, builtins := 0 }), #[]⟩
def f181 (P : Params) : Obj := ⟨(.type "tuple"), none, (.seq #[] 0), #[]⟩
def f182 (P : Params) : Obj := ⟨.none, none, (.fields #[]), #[]⟩
def f183 (P : Params) : Obj := ⟨(.type "tuple"), none, (.seq #[(.str zself 1291), (.str zother 1292)] 0), #[]⟩
def f184 (P : Params) : Obj := ⟨(.type "tuple"), none, (.seq #[] 0), #[]⟩
def f185 (P : Params) : Obj := ⟨.none, none, (.func { name := z__ge__, qualname := y588107090, params := fArgs [4, 16], body := .stmts (fBody [4, 16]), scope := fScope [4, 16], globals := 0, closure := [], defaults := .none, kwdefaults := .none, doc := .none, pyModule := .none, annotations := none, code := .none, closureTuple := .none, builtins := 0 }), #[]⟩
def f186 (P : Params) : Obj := ⟨(.type "code"), none, (.fields #[(.str z__ge__ 1288), (.str y588107090 1289), (.str y337536729 1290), (.int 60 0), (.int 2 0), (.int 0 0), (.int 0 0), (.int 3 0), (.ref 181), (.bool true), (.int 492 0), (.ref 182), .none, (.ref 183), (.ref 184), (.ref 185), (.int 1293 0), (.int 60 0), (.str y337536729 1294)]), #[]⟩
def f187 (P : Params) : Obj := ⟨(.type "function"), none, (.func { name := z__ge__, qualname := y588107090, params := fArgs [4, 16], body := .stmts (fBody [4, 16]), scope := fScope [4, 16], globals := 3, closure := [], defaults := .none, kwdefaults := .none, doc := .none, pyModule := (.str zenum 1156), annotations := none, code := (.ref 186), closureTuple := .none, builtins := 0 }), #[]⟩
def f188 (P : Params) : Obj := ⟨(.type "tuple"), none, (.seq #[] 0), #[]⟩
def f189 (P : Params) : Obj := ⟨.none, none, (.fields #[]), #[]⟩
def f190 (P : Params) : Obj := ⟨(.type "tuple"), none, (.seq #[(.str zself 1299)] 0), #[]⟩
def f191 (P : Params) : Obj := ⟨(.type "tuple"), none, (.seq #[] 0), #[]⟩
def f192 (P : Params) : Obj := ⟨.none, none, (.func { name := z__hash__, qualname := y436427202, params := fArgs [4, 17], body := .stmts (fBody [4, 17]), scope := fScope [4, 17], globals := 0, closure := [], defaults := .none, kwdefaults := .none, doc := .none, pyModule := .none, annotations := none, code := .none, closureTuple := .none, builtins := 0 }), #[]⟩
def f193 (P : Params) : Obj := ⟨(.type "code"), none, (.fields #[(.str z__hash__ 1296), (.str y436427202 1297), (.str y337536729 1298), (.int 63 0), (.int 1 0), (.int 0 0), (.int 0 0), (.int 3 0), (.ref 188), (.bool true), (.int 492 0), (.ref 189), .none, (.ref 190), (.ref 191), (.ref 192), (.int 1300 0), (.int 63 0), (.str y337536729 1301)]), #[]⟩
def f194 (P : Params) : Obj := ⟨(.type "function"), none, (.func { name := z__hash__, qualname := y436427202, params := fArgs [4, 17], body := .stmts (fBody [4, 17]), scope := fScope [4, 17], globals := 3, closure := [], defaults := .none, kwdefaults := .none, doc := .none, pyModule := (.str zenum 1156), annotations := none, code := (.ref 193), closureTuple := .none, builtins := 0 }), #[]⟩
def f195 (P : Params) : Obj := ⟨(.type "tuple"), none, (.seq #[] 0), #[]⟩
def f196 (P : Params) : Obj := ⟨.none, none, (.fields #[]), #[]⟩
def f197 (P : Params) : Obj := ⟨(.type "tuple"), none, (.seq #[(.str zself 1306), (.str zother 1307)] 0), #[]⟩
def f198 (P : Params) : Obj := ⟨(.type "tuple"), none, (.seq #[] 0), #[]⟩
def f199 (P : Params) : Obj := ⟨.none, none, (.func { name := z__or__, qualname := y237726455, params := fArgs [4, 18], body := .stmts (fBody [4, 18]), scope := fScope [4, 18], globals := 0, closure := [], defaults := .none, kwdefaults := .none, doc := .none, pyModule := .none, annotations := none, code := .none, closureTuple := .none, builtins := 0 }), #[]⟩
def f200 (P : Params) : Obj := ⟨(.type "code"), none, (.fields #[(.str z__or__ 1303), (.str y237726455 1304), (.str y337536729 1305), (.int 66 0), (.int 2 0), (.int 0 0), (.int 0 0), (.int 3 0), (.ref 195), (.bool true), (.int 492 0), (.ref 196), .none, (.ref 197), (.ref 198), (.ref 199), (.int 1308 0), (.int 66 0), (.str y337536729 1309)]), #[]⟩
def f201 (P : Params) : Obj := ⟨(.type "function"), none, (.func { name := z__or__, qualname := y237726455, params := fArgs [4, 18], body := .stmts (fBody [4, 18]), scope := fScope [4, 18], globals := 3, closure := [], defaults := .none, kwdefaults := .none, doc := .none, pyModule := (.str zenum 1156), annotations := none, code := (.ref 200), closureTuple := .none, builtins := 0 }), #[]⟩
def f202 (P : Params) : Obj := ⟨(.type "tuple"), none, (.seq #[] 0), #[]⟩
def f203 (P : Params) : Obj := ⟨.none, none, (.fields #[]), #[]⟩
def f204 (P : Params) : Obj := ⟨(.type "tuple"), none, (.seq #[(.str zself 1314), (.str zother 1315)] 0), #[]⟩
def f205 (P : Params) : Obj := ⟨(.type "tuple"), none, (.seq #[] 0), #[]⟩
def f206 (P : Params) : Obj := ⟨.none, none, (.func { name := z__ror__, qualname := y785623112, params := fArgs [4, 19], body := .stmts (fBody [4, 19]), scope := fScope [4, 19], globals := 0, closure := [], defaults := .none, kwdefaults := .none, doc := .none, pyModule := .none, annotations := none, code := .none, closureTuple := .none, builtins := 0 }), #[]⟩
def f207 (P : Params) : Obj := ⟨(.type "code"), none, (.fields #[(.str z__ror__ 1311), (.str y785623112 1312), (.str y337536729 1313), (.int 71 0), (.int 2 0), (.int 0 0), (.int 0 0), (.int 3 0), (.ref 202), (.bool true), (.int 492 0), (.ref 203), .none, (.ref 204), (.ref 205), (.ref 206), (.int 1316 0), (.int 71 0), (.str y337536729 1317)]), #[]⟩
def f208 (P : Params) : Obj := ⟨(.type "function"), none, (.func { name := z__ror__, qualname := y785623112, params := fArgs [4, 19], body := .stmts (fBody [4, 19]), scope := fScope [4, 19], globals := 3, closure := [], defaults := .none, kwdefaults := .none, doc := .none, pyModule := (.str zenum 1156), annotations := none, code := (.ref 207), closureTuple := .none, builtins := 0 }), #[]⟩
def f209 (P : Params) : Obj := ⟨(.type "tuple"), none, (.seq #[] 0), #[]⟩
def f210 (P : Params) : Obj := ⟨.none, none, (.fields #[]), #[]⟩
def f211 (P : Params) : Obj := ⟨(.type "tuple"), none, (.seq #[(.str zself 1322), (.str zother 1323)] 0), #[]⟩
def f212 (P : Params) : Obj := ⟨(.type "tuple"), none, (.seq #[] 0), #[]⟩
def f213 (P : Params) : Obj := ⟨.none, none, (.func { name := z__ior__, qualname := y90316349, params := fArgs [4, 20], body := .stmts (fBody [4, 20]), scope := fScope [4, 20], globals := 0, closure := [], defaults := .none, kwdefaults := .none, doc := .none, pyModule := .none, annotations := none, code := .none, closureTuple := .none, builtins := 0 }), #[]⟩
def f214 (P : Params) : Obj := ⟨(.type "code"), none, (.fields #[(.str z__ior__ 1319), (.str y90316349 1320), (.str y337536729 1321), (.int 74 0), (.int 2 0), (.int 0 0), (.int 0 0), (.int 3 0), (.ref 209), (.bool true), (.int 492 0), (.ref 210), .none, (.ref 211), (.ref 212), (.ref 213), (.int 1324 0), (.int 74 0), (.str y337536729 1325)]), #[]⟩
def f215 (P : Params) : Obj := ⟨(.type "function"), none, (.func { name := z__ior__, qualname := y90316349, params := fArgs [4, 20], body := .stmts (fBody [4, 20]), scope := fScope [4, 20], globals := 3, closure := [], defaults := .none, kwdefaults := .none, doc := .none, pyModule := (.str zenum 1156), annotations := none, code := (.ref 214), closureTuple := .none, builtins := 0 }), #[]⟩
def f216 (P : Params) : Obj := ⟨(.type "tuple"), none, (.seq #[.none] 0), #[]⟩
def f217 (P : Params) : Obj := ⟨(.type "tuple"), none, (.seq #[] 0), #[]⟩
def f218 (P : Params) : Obj := ⟨.none, none, (.fields #[]), #[]⟩
def f219 (P : Params) : Obj := ⟨(.type "tuple"), none, (.seq #[(.str zself 1330), (.str zkey 1331), (.str zdefault 1332)] 0), #[]⟩
def f220 (P : Params) : Obj := ⟨(.type "tuple"), none, (.seq #[] 0), #[]⟩
def f221 (P : Params) : Obj := ⟨.none, none, (.func { name := zget, qualname := y686640644, params := fArgs [4, 21], body := .stmts (fBody [4, 21]), scope := fScope [4, 21], globals := 0, closure := [], defaults := .none, kwdefaults := .none, doc := .none, pyModule := .none, annotations := none, code := .none, closureTuple := .none, builtins := 0 }), #[]⟩
def f222 (P : Params) : Obj := ⟨(.type "code"), none, (.fields #[(.str zget 1327), (.str y686640644 1328), (.str y337536729 1329), (.int 77 0), (.int 3 0), (.int 3 0), (.int 0 0), (.int 3 0), (.ref 217), (.bool true), (.int 492 0), (.ref 218), .none, (.ref 219), (.ref 220), (.ref 221), (.int 1333 0), (.int 77 0), (.str y337536729 1334)]), #[]⟩
def f223 (P : Params) : Obj := ⟨(.type "function"), none, (.func { name := zget, qualname := y686640644, params := fArgs [4, 21], body := .stmts (fBody [4, 21]), scope := fScope [4, 21], globals := 3, closure := [], defaults := (.ref 216), kwdefaults := .none, doc := .none, pyModule := (.str zenum 1156), annotations := none, code := (.ref 222), closureTuple := .none, builtins := 0 }), #[]⟩
def f224 (P : Params) : Obj := ⟨(.type "tuple"), none, (.seq #[] 0), #[]⟩
def f225 (P : Params) : Obj := ⟨.none, none, (.fields #[]), #[]⟩
def f226 (P : Params) : Obj := ⟨(.type "tuple"), none, (.seq #[(.str zself 1339)] 0), #[]⟩
def f227 (P : Params) : Obj := ⟨(.type "tuple"), none, (.seq #[] 0), #[]⟩
def f228 (P : Params) : Obj := ⟨.none, none, (.func { name := zkeys, qualname := y472923005, params := fArgs [4, 22], body := .stmts (fBody [4, 22]), scope := fScope [4, 22], globals := 0, closure := [], defaults := .none, kwdefaults := .none, doc := .none, pyModule := .none, annotations := none, code := .none, closureTuple := .none, builtins := 0 }), #[]⟩
def f229 (P : Params) : Obj := ⟨(.type "code"), none, (.fields #[(.str zkeys 1336), (.str y472923005 1337), (.str y337536729 1338), (.int 80 0), (.int 1 0), (.int 0 0), (.int 0 0), (.int 3 0), (.ref 224), (.bool true), (.int 492 0), (.ref 225), .none, (.ref 226), (.ref 227), (.ref 228), (.int 1340 0), (.int 80 0), (.str y337536729 1341)]), #[]⟩
def f230 (P : Params) : Obj := ⟨(.type "function"), none, (.func { name := zkeys, qualname := y472923005, params := fArgs [4, 22], body := .stmts (fBody [4, 22]), scope := fScope [4, 22], globals := 3, closure := [], defaults := .none, kwdefaults := .none, doc := .none, pyModule := (.str zenum 1156), annotations := none, code := (.ref 229), closureTuple := .none, builtins := 0 }), #[]⟩
def f231 (P : Params) : Obj := ⟨(.type "tuple"), none, (.seq #[] 0), #[]⟩
def f232 (P : Params) : Obj := ⟨.none, none, (.fields #[]), #[]⟩
def f233 (P : Params) : Obj := ⟨(.type "tuple"), none, (.seq #[(.str zself 1346)] 0), #[]⟩
def f234 (P : Params) : Obj := ⟨(.type "tuple"), none, (.seq #[] 0), #[]⟩
def f235 (P : Params) : Obj := ⟨.none, none, (.func { name := zvalues, qualname := y129017582, params := fArgs [4, 23], body := .stmts (fBody [4, 23]), scope := fScope [4, 23], globals := 0, closure := [], defaults := .none, kwdefaults := .none, doc := .none, pyModule := .none, annotations := none, code := .none, closureTuple := .none, builtins := 0 }), #[]⟩
def f236 (P : Params) : Obj := ⟨(.type "code"), none, (.fields #[(.str zvalues 1343), (.str y129017582 1344), (.str y337536729 1345), (.int 83 0), (.int 1 0), (.int 0 0), (.int 0 0), (.int 3 0), (.ref 231), (.bool true), (.int 492 0), (.ref 232), .none, (.ref 233), (.ref 234), (.ref 235), (.int 1347 0), (.int 83 0), (.str y337536729 1348)]), #[]⟩
def f237 (P : Params) : Obj := ⟨(.type "function"), none, (.func { name := zvalues, qualname := y129017582, params := fArgs [4, 23], body := .stmts (fBody [4, 23]), scope := fScope [4, 23], globals := 3, closure := [], defaults := .none, kwdefaults := .none, doc := .none, pyModule := (.str zenum 1156), annotations := none, code := (.ref 236), closureTuple := .none, builtins := 0 }), #[]⟩
def f238 (P : Params) : Obj := ⟨(.type "tuple"), none, (.seq #[] 0), #[]⟩
def f239 (P : Params) : Obj := ⟨.none, none, (.fields #[]), #[]⟩
def f240 (P : Params) : Obj := ⟨(.type "tuple"), none, (.seq #[(.str zself 1353)] 0), #[]⟩
def f241 (P : Params) : Obj := ⟨(.type "tuple"), none, (.seq #[] 0), #[]⟩
def f242 (P : Params) : Obj := ⟨.none, none, (.func { name := zitems, qualname := y363384153, params := fArgs [4, 24], body := .stmts (fBody [4, 24]), scope := fScope [4, 24], globals := 0, closure := [], defaults := .none, kwdefaults := .none, doc := .none, pyModule := .none, annotations := none, code := .none, closureTuple := .none, builtins := 0 }), #[]⟩
def f243 (P : Params) : Obj := ⟨(.type "code"), none, (.fields #[(.str zitems 1350), (.str y363384153 1351), (.str y337536729 1352), (.int 86 0), (.int 1 0), (.int 0 0), (.int 0 0), (.int 3 0), (.ref 238), (.bool true), (.int 492 0), (.ref 239), .none, (.ref 240), (.ref 241), (.ref 242), (.int 1354 0), (.int 86 0), (.str y337536729 1355)]), #[]⟩
def f244 (P : Params) : Obj := ⟨(.type "function"), none, (.func { name := zitems, qualname := y363384153, params := fArgs [4, 24], body := .stmts (fBody [4, 24]), scope := fScope [4, 24], globals := 3, closure := [], defaults := .none, kwdefaults := .none, doc := .none, pyModule := (.str zenum 1156), annotations := none, code := (.ref 243), closureTuple := .none, builtins := 0 }), #[]⟩
def f245 (P : Params) : Obj := ⟨(.type "tuple"), none, (.seq #[] 0), #[]⟩
def f246 (P : Params) : Obj := ⟨.none, none, (.fields #[]), #[]⟩
def f247 (P : Params) : Obj := ⟨(.type "tuple"), none, (.seq #[(.str zself 1360)] 0), #[]⟩
def f248 (P : Params) : Obj := ⟨(.type "tuple"), none, (.seq #[] 0), #[]⟩
def f249 (P : Params) : Obj := ⟨.none, none, (.func { name := zcopy, qualname := y196925823, params := fArgs [4, 25], body := .stmts (fBody [4, 25]), scope := fScope [4, 25], globals := 0, closure := [], defaults := .none, kwdefaults := .none, doc := .none, pyModule := .none, annotations := none, code := .none, closureTuple := .none, builtins := 0 }), #[]⟩
def f250 (P : Params) : Obj := ⟨(.type "code"), none, (.fields #[(.str zcopy 1357), (.str y196925823 1358), (.str y337536729 1359), (.int 89 0), (.int 1 0), (.int 0 0), (.int 0 0), (.int 3 0), (.ref 245), (.bool true), (.int 492 0), (.ref 246), .none, (.ref 247), (.ref 248), (.ref 249), (.int 1361 0), (.int 89 0), (.str y337536729 1362)]), #[]⟩
def f251 (P : Params) : Obj := ⟨(.type "function"), none, (.func { name := zcopy, qualname := y196925823, params := fArgs [4, 25], body := .stmts (fBody [4, 25]), scope := fScope [4, 25], globals := 3, closure := [], defaults := .none, kwdefaults := .none, doc := .none, pyModule := (.str zenum 1156), annotations := none, code := (.ref 250), closureTuple := .none, builtins := 0 }), #[]⟩
def f252 (P : Params) : Obj := ⟨(.type "tuple"), none, (.seq #[(.str z_mapping 1364)] 0), #[]⟩
def f253 (P : Params) : Obj := ⟨(.type "list"), none, (.seq #[(.str z_mapping 1178)] 1), #[]⟩
def f254 (P : Params) : Obj := ⟨(.type "dict"), none, (.dict #[⟨PyData.keyHash P z__module__, (.str z__module__ 1171), (.str zbuiltins 1176)⟩, ⟨PyData.keyHash P z__firstlineno__, (.str z__firstlineno__ 1175), (.int 10 1174)⟩, ⟨PyData.keyHash P z__slots__, (.str z__slots__ 1179), (.ref 82)⟩, ⟨PyData.keyHash P z__new__, (.str z__new__ 1188), (.ref 256)⟩, ⟨PyData.keyHash P z__reduce_ex__, (.str z__reduce_ex__ 1196), (.ref 96)⟩, ⟨PyData.keyHash P z__getitem__, (.str z__getitem__ 1204), (.ref 103)⟩, ⟨PyData.keyHash P z__len__, (.str z__len__ 1211), (.ref 110)⟩, ⟨PyData.keyHash P z__iter__, (.str z__iter__ 1218), (.ref 117)⟩, ⟨PyData.keyHash P z__reversed__, (.str z__reversed__ 1225), (.ref 124)⟩, ⟨PyData.keyHash P z__contains__, (.str z__contains__ 1233), (.ref 131)⟩, ⟨PyData.keyHash P z__repr__, (.str z__repr__ 1240), (.ref 138)⟩, ⟨PyData.keyHash P z__str__, (.str z__str__ 1247), (.ref 145)⟩, ⟨PyData.keyHash P z__eq__, (.str z__eq__ 1255), (.ref 152)⟩, ⟨PyData.keyHash P z__ne__, (.str z__ne__ 1263), (.ref 159)⟩, ⟨PyData.keyHash P z__lt__, (.str z__lt__ 1271), (.ref 166)⟩, ⟨PyData.keyHash P z__le__, (.str z__le__ 1279), (.ref 173)⟩, ⟨PyData.keyHash P z__gt__, (.str z__gt__ 1287), (.ref 180)⟩, ⟨PyData.keyHash P z__ge__, (.str z__ge__ 1295), (.ref 187)⟩, ⟨PyData.keyHash P z__hash__, (.str z__hash__ 1302), (.ref 194)⟩, ⟨PyData.keyHash P z__or__, (.str z__or__ 1310), (.ref 201)⟩, ⟨PyData.keyHash P z__ror__, (.str z__ror__ 1318), (.ref 208)⟩, ⟨PyData.keyHash P z__ior__, (.str z__ior__ 1326), (.ref 215)⟩, ⟨PyData.keyHash P zget, (.str zget 1335), (.ref 223)⟩, ⟨PyData.keyHash P zkeys, (.str zkeys 1342), (.ref 230)⟩, ⟨PyData.keyHash P zvalues, (.str zvalues 1349), (.ref 237)⟩, ⟨PyData.keyHash P zitems, (.str zitems 1356), (.ref 244)⟩, ⟨PyData.keyHash P zcopy, (.str zcopy 1363), (.ref 251)⟩, ⟨PyData.keyHash P z__static_attributes__, (.str z__static_attributes__ 1365), (.ref 252)⟩, ⟨PyData.keyHash P z_mapping, (.str z_mapping 1368), (.ref 257)⟩, ⟨PyData.keyHash P z__doc__, (.str z__doc__ 1369), .none⟩] 3), #[]⟩
def f255 (P : Params) : Obj := ⟨(.type "type"), none, (.cls { name := zmappingproxy, bases := [(.type "object")], mro := [(.ref 255), (.type "object")], ns := 254, qualname := zmappingproxy, hasDict := false, slotNames := [z_mapping], subclasses := [], abstract := false, collection := none, hasDel := false }), #[none, none, (some (.str zmappingproxy 1164)), (some (.str zmappingproxy 1172)), (some .none), (some (.bool false))]⟩
def f256 (P : Params) : Obj := ⟨(.type "staticmethod"), none, (.fields #[(.ref 89)]), #[]⟩
def f257 (P : Params) : Obj := ⟨(.type "member_descriptor"), none, (.fields #[(.str z_mapping 1367), (.ref 255), (.builtin "proto.slot"), (.builtin "proto.slot#set"), (.int 0 0)]), #[]⟩
def f258 (P : Params) : Obj := ⟨(.type "super"), none, (.fields #[(.ref 255), (.ref 255), (.ref 255)]), #[]⟩
def f259 (P : Params) : Obj := ⟨(.type "builtin_function_or_method"), none, (.fields #[(.builtin "object.__init_subclass__"), (.ref 255)]), #[]⟩
def f260 (P : Params) : Obj := ⟨(.type "tuple"), none, (.seq #[(.type "type")] 0), #[]⟩
def f261 (P : Params) : Obj := ⟨(.type "builtin_function_or_method"), none, (.fields #[(.builtin "type.__prepare__"), (.type "type")]), #[]⟩
def f262 (P : Params) : Obj := ⟨(.type "dict"), none, (.dict #[⟨PyData.keyHash P z__module__, (.str z__module__ 1380), (.str zenum 1385)⟩, ⟨PyData.keyHash P z__qualname__, (.str z__qualname__ 1382), (.str zEnumType 1381)⟩, ⟨PyData.keyHash P z__firstlineno__, (.str z__firstlineno__ 1384), (.int 92 1383)⟩, ⟨PyData.keyHash P z_written_out_, (.str z_written_out_ 1388), (.int 0 1387)⟩, ⟨PyData.keyHash P z__new__, (.str z__new__ 1401), (.ref 275)⟩, ⟨PyData.keyHash P z_planted_, (.str z_planted_ 1410), (.ref 282)⟩, ⟨PyData.keyHash P z_planted_at_, (.str z_planted_at_ 1417), (.ref 289)⟩, ⟨PyData.keyHash P z_held_value_, (.str z_held_value_ 1427), (.ref 296)⟩, ⟨PyData.keyHash P z_canonical_, (.str z_canonical_ 1437), (.ref 303)⟩, ⟨PyData.keyHash P z_book_value_, (.str z_book_value_ 1447), (.ref 310)⟩, ⟨PyData.keyHash P z_mixed_, (.str z_mixed_ 1455), (.ref 317)⟩, ⟨PyData.keyHash P z_held_def_, (.str z_held_def_ 1464), (.ref 324)⟩, ⟨PyData.keyHash P z_closed_, (.str z_closed_ 1471), (.ref 331)⟩, ⟨PyData.keyHash P z_held_auto_, (.str z_held_auto_ 1480), (.ref 338)⟩, ⟨PyData.keyHash P z_unique_, (.str z_unique_ 1487), (.ref 345)⟩, ⟨PyData.keyHash P z_close_, (.str z_close_ 1494), (.ref 352)⟩, ⟨PyData.keyHash P z_expect_, (.str z_expect_ 1502), (.ref 359)⟩, ⟨PyData.keyHash P z_value_of_, (.str z_value_of_ 1511), (.ref 366)⟩, ⟨PyData.keyHash P z_args_of_, (.str z_args_of_ 1519), (.ref 373)⟩, ⟨PyData.keyHash P z__bool__, (.str z__bool__ 1526), (.ref 380)⟩, ⟨PyData.keyHash P z__call__, (.str z__call__ 1535), (.ref 387)⟩, ⟨PyData.keyHash P z__contains__, (.str z__contains__ 1544), (.ref 394)⟩, ⟨PyData.keyHash P z__getitem__, (.str z__getitem__ 1552), (.ref 401)⟩, ⟨PyData.keyHash P z__iter__, (.str z__iter__ 1560), (.ref 408)⟩, ⟨PyData.keyHash P z__len__, (.str z__len__ 1567), (.ref 415)⟩, ⟨PyData.keyHash P z__members__, (.str z__members__ 1575), (.ref 423)⟩, ⟨PyData.keyHash P z__repr__, (.str z__repr__ 1582), (.ref 430)⟩, ⟨PyData.keyHash P z__reversed__, (.str z__reversed__ 1590), (.ref 437)⟩, ⟨PyData.keyHash P z__setattr__, (.str z__setattr__ 1600), (.ref 445)⟩, ⟨PyData.keyHash P z__delattr__, (.str z__delattr__ 1609), (.ref 453)⟩, ⟨PyData.keyHash P z_store_, (.str z_store_ 1619), (.ref 461)⟩, ⟨PyData.keyHash P z__dir__, (.str z__dir__ 1626), (.ref 468)⟩, ⟨PyData.keyHash P z__static_attributes__, (.str z__static_attributes__ 1627), (.ref 469)⟩, ⟨PyData.keyHash P z__classcell__, (.str z__classcell__ 1628), (.ref 263)⟩] 34), #[]⟩
def f263 (P : Params) : Obj := ⟨(.type "cell"), none, (.cell (some (.ref 471))), #[]⟩
def f264 (P : Params) : Obj := ⟨(.type "tuple"), none, (.seq #[] 0), #[]⟩
def f265 (P : Params) : Obj := ⟨.none, none, (.fields #[(.int 96 0), (.int 4 0), (.ref 274), (.int 105 0), (.int 4 0), (.ref 281), (.int 117 0), (.int 4 0), (.ref 288), (.int 120 0), (.int 4 0), (.ref 295), (.int 123 0), (.int 4 0), (.ref 302), (.int 126 0), (.int 4 0), (.ref 309), (.int 129 0), (.int 4 0), (.ref 316), (.int 132 0), (.int 4 0), (.ref 323), (.int 135 0), (.int 4 0), (.ref 330), (.int 138 0), (.int 4 0), (.ref 337), (.int 141 0), (.int 4 0), (.ref 344), (.int 144 0), (.int 4 0), (.ref 351), (.int 147 0), (.int 4 0), (.ref 358), (.int 150 0), (.int 4 0), (.ref 365), (.int 153 0), (.int 4 0), (.ref 372), (.int 156 0), (.int 4 0), (.ref 379), (.int 159 0), (.int 4 0), (.ref 386), (.int 172 0), (.int 4 0), (.ref 393), (.int 183 0), (.int 4 0), (.ref 400), (.int 186 0), (.int 4 0), (.ref 407), (.int 189 0), (.int 4 0), (.ref 414), (.int 193 0), (.int 4 0), (.ref 421), (.int 196 0), (.int 4 0), (.ref 429), (.int 202 0), (.int 4 0), (.ref 436), (.int 205 0), (.int 4 0), (.ref 444), (.int 212 0), (.int 4 0), (.ref 452), (.int 217 0), (.int 4 0), (.ref 460), (.int 220 0), (.int 4 0), (.ref 467)]), #[]⟩
def f266 (P : Params) : Obj := ⟨(.type "code"), none, (.fields #[(.str zEnumType 1375), (.str zEnumType 1376), (.str y337536729 1377), (.int 92 0), (.int 0 0), (.int 0 0), (.int 0 0), (.int 0 0), (.ref 264), (.bool false), (.int 492 0), (.ref 265), .none, .none, .none, .none, (.int 1378 0), (.int 92 0), (.str y337536729 1379)]), #[]⟩
def f267 (P : Params) : Obj := ⟨(.type "frame"), none, .plain, #[(some (.ref 266)), (some (.ref 3)), (some (.ref 262)), none, (some (.str zenum 1156)), none, (some (.ref 0))]⟩
def f268 (P : Params) : Obj := ⟨(.type "tuple"), none, (.seq #[(.ref 263)] 0), #[]⟩
def f269 (P : Params) : Obj := ⟨(.type "tuple"), none, (.seq #[(.str z__class__ 1392)] 0), #[]⟩
def f270 (P : Params) : Obj := ⟨.none, none, (.fields #[]), #[]⟩
def f271 (P : Params) : Obj := ⟨(.type "tuple"), none, (.seq #[(.str zmetacls 1393), (.str zcls 1394), (.str zbases 1395), (.str zclassdict 1396), (.str zkwds 1397), (.str zmade 1398)] 0), #[]⟩
def f272 (P : Params) : Obj := ⟨(.type "tuple"), none, (.seq #[] 0), #[]⟩
def f273 (P : Params) : Obj := ⟨.none, none, (.func { name := z__new__, qualname := y41659964, params := fArgs [6, 2], body := .stmts (fBody [6, 2]), scope := fScope [6, 2], globals := 0, closure := [], defaults := .none, kwdefaults := .none, doc := .none, pyModule := .none, annotations := none, code := .none, closureTuple := .none, builtins := 0 }), #[]⟩
def f274 (P : Params) : Obj := ⟨(.type "code"), none, (.fields #[(.str z__new__ 1389), (.str y41659964 1390), (.str y337536729 1391), (.int 96 0), (.int 4 0), (.int 0 0), (.int 0 0), (.int 11 0), (.ref 269), (.bool true), (.int 492 0), (.ref 270), .none, (.ref 271), (.ref 272), (.ref 273), (.int 1399 0), (.int 96 0), (.str y337536729 1400)]), #[]⟩
def f275 (P : Params) : Obj := ⟨(.type "function"), none, (.func { name := z__new__, qualname := y41659964, params := fArgs [6, 2], body := .stmts (fBody [6, 2]), scope := fScope [6, 2], globals := 3, closure := [(z__class__, 263)], defaults := .none, kwdefaults := .none, doc := .none, pyModule := (.str zenum 1156), annotations := none, code := (.ref 274), closureTuple := (.ref 268), builtins := 0 }), #[]⟩
def f276 (P : Params) : Obj := ⟨(.type "tuple"), none, (.seq #[] 0), #[]⟩
def f277 (P : Params) : Obj := ⟨.none, none, (.fields #[]), #[]⟩
def f278 (P : Params) : Obj := ⟨(.type "tuple"), none, (.seq #[(.str zcls 1405), (.str zown_init 1406), (.str zasks_new 1407)] 0), #[]⟩
def f279 (P : Params) : Obj := ⟨(.type "tuple"), none, (.seq #[] 0), #[]⟩
def f280 (P : Params) : Obj := ⟨.none, none, (.func { name := z_planted_, qualname := y242401445, params := fArgs [6, 3], body := .stmts (fBody [6, 3]), scope := fScope [6, 3], globals := 0, closure := [], defaults := .none, kwdefaults := .none, doc := .none, pyModule := .none, annotations := none, code := .none, closureTuple := .none, builtins := 0 }), #[]⟩
def f281 (P : Params) : Obj := ⟨(.type "code"), none, (.fields #[(.str z_planted_ 1402), (.str y242401445 1403), (.str y337536729 1404), (.int 105 0), (.int 3 0), (.int 0 0), (.int 0 0), (.int 3 0), (.ref 276), (.bool true), (.int 492 0), (.ref 277), .none, (.ref 278), (.ref 279), (.ref 280), (.int 1408 0), (.int 105 0), (.str y337536729 1409)]), #[]⟩
def f282 (P : Params) : Obj := ⟨(.type "function"), none, (.func { name := z_planted_, qualname := y242401445, params := fArgs [6, 3], body := .stmts (fBody [6, 3]), scope := fScope [6, 3], globals := 3, closure := [], defaults := .none, kwdefaults := .none, doc := .none, pyModule := (.str zenum 1156), annotations := none, code := (.ref 281), closureTuple := .none, builtins := 0 }), #[]⟩
def f283 (P : Params) : Obj := ⟨(.type "tuple"), none, (.seq #[] 0), #[]⟩
def f284 (P : Params) : Obj := ⟨.none, none, (.fields #[]), #[]⟩
def f285 (P : Params) : Obj := ⟨(.type "tuple"), none, (.seq #[(.str zcls 1414)] 0), #[]⟩
def f286 (P : Params) : Obj := ⟨(.type "tuple"), none, (.seq #[] 0), #[]⟩
def f287 (P : Params) : Obj := ⟨.none, none, (.func { name := z_planted_at_, qualname := y567173102, params := fArgs [6, 4], body := .stmts (fBody [6, 4]), scope := fScope [6, 4], globals := 0, closure := [], defaults := .none, kwdefaults := .none, doc := .none, pyModule := .none, annotations := none, code := .none, closureTuple := .none, builtins := 0 }), #[]⟩
def f288 (P : Params) : Obj := ⟨(.type "code"), none, (.fields #[(.str z_planted_at_ 1411), (.str y567173102 1412), (.str y337536729 1413), (.int 117 0), (.int 1 0), (.int 0 0), (.int 0 0), (.int 3 0), (.ref 283), (.bool true), (.int 492 0), (.ref 284), .none, (.ref 285), (.ref 286), (.ref 287), (.int 1415 0), (.int 117 0), (.str y337536729 1416)]), #[]⟩
def f289 (P : Params) : Obj := ⟨(.type "function"), none, (.func { name := z_planted_at_, qualname := y567173102, params := fArgs [6, 4], body := .stmts (fBody [6, 4]), scope := fScope [6, 4], globals := 3, closure := [], defaults := .none, kwdefaults := .none, doc := .none, pyModule := (.str zenum 1156), annotations := none, code := (.ref 288), closureTuple := .none, builtins := 0 }), #[]⟩
def f290 (P : Params) : Obj := ⟨(.type "tuple"), none, (.seq #[] 0), #[]⟩
def f291 (P : Params) : Obj := ⟨.none, none, (.fields #[]), #[]⟩
def f292 (P : Params) : Obj := ⟨(.type "tuple"), none, (.seq #[(.str zcls 1421), (.str zvalue 1422), (.str zname 1423), (.str zdata 1424)] 0), #[]⟩
def f293 (P : Params) : Obj := ⟨(.type "tuple"), none, (.seq #[] 0), #[]⟩
def f294 (P : Params) : Obj := ⟨.none, none, (.func { name := z_held_value_, qualname := y70532190, params := fArgs [6, 5], body := .stmts (fBody [6, 5]), scope := fScope [6, 5], globals := 0, closure := [], defaults := .none, kwdefaults := .none, doc := .none, pyModule := .none, annotations := none, code := .none, closureTuple := .none, builtins := 0 }), #[]⟩
def f295 (P : Params) : Obj := ⟨(.type "code"), none, (.fields #[(.str z_held_value_ 1418), (.str y70532190 1419), (.str y337536729 1420), (.int 120 0), (.int 4 0), (.int 0 0), (.int 0 0), (.int 3 0), (.ref 290), (.bool true), (.int 492 0), (.ref 291), .none, (.ref 292), (.ref 293), (.ref 294), (.int 1425 0), (.int 120 0), (.str y337536729 1426)]), #[]⟩
def f296 (P : Params) : Obj := ⟨(.type "function"), none, (.func { name := z_held_value_, qualname := y70532190, params := fArgs [6, 5], body := .stmts (fBody [6, 5]), scope := fScope [6, 5], globals := 3, closure := [], defaults := .none, kwdefaults := .none, doc := .none, pyModule := (.str zenum 1156), annotations := none, code := (.ref 295), closureTuple := .none, builtins := 0 }), #[]⟩
def f297 (P : Params) : Obj := ⟨(.type "tuple"), none, (.seq #[] 0), #[]⟩
def f298 (P : Params) : Obj := ⟨.none, none, (.fields #[]), #[]⟩
def f299 (P : Params) : Obj := ⟨(.type "tuple"), none, (.seq #[(.str zcls 1431), (.str zvalue 1432), (.str zmember 1433), (.str zname 1434)] 0), #[]⟩
def f300 (P : Params) : Obj := ⟨(.type "tuple"), none, (.seq #[] 0), #[]⟩
def f301 (P : Params) : Obj := ⟨.none, none, (.func { name := z_canonical_, qualname := y590110534, params := fArgs [6, 6], body := .stmts (fBody [6, 6]), scope := fScope [6, 6], globals := 0, closure := [], defaults := .none, kwdefaults := .none, doc := .none, pyModule := .none, annotations := none, code := .none, closureTuple := .none, builtins := 0 }), #[]⟩
def f302 (P : Params) : Obj := ⟨(.type "code"), none, (.fields #[(.str z_canonical_ 1428), (.str y590110534 1429), (.str y337536729 1430), (.int 123 0), (.int 4 0), (.int 0 0), (.int 0 0), (.int 3 0), (.ref 297), (.bool true), (.int 492 0), (.ref 298), .none, (.ref 299), (.ref 300), (.ref 301), (.int 1435 0), (.int 123 0), (.str y337536729 1436)]), #[]⟩
def f303 (P : Params) : Obj := ⟨(.type "function"), none, (.func { name := z_canonical_, qualname := y590110534, params := fArgs [6, 6], body := .stmts (fBody [6, 6]), scope := fScope [6, 6], globals := 3, closure := [], defaults := .none, kwdefaults := .none, doc := .none, pyModule := (.str zenum 1156), annotations := none, code := (.ref 302), closureTuple := .none, builtins := 0 }), #[]⟩
def f304 (P : Params) : Obj := ⟨(.type "tuple"), none, (.seq #[] 0), #[]⟩
def f305 (P : Params) : Obj := ⟨.none, none, (.fields #[]), #[]⟩
def f306 (P : Params) : Obj := ⟨(.type "tuple"), none, (.seq #[(.str zcls 1441), (.str zvalue 1442), (.str zmember 1443), (.str zname 1444)] 0), #[]⟩
def f307 (P : Params) : Obj := ⟨(.type "tuple"), none, (.seq #[] 0), #[]⟩
def f308 (P : Params) : Obj := ⟨.none, none, (.func { name := z_book_value_, qualname := y893056998, params := fArgs [6, 7], body := .stmts (fBody [6, 7]), scope := fScope [6, 7], globals := 0, closure := [], defaults := .none, kwdefaults := .none, doc := .none, pyModule := .none, annotations := none, code := .none, closureTuple := .none, builtins := 0 }), #[]⟩
def f309 (P : Params) : Obj := ⟨(.type "code"), none, (.fields #[(.str z_book_value_ 1438), (.str y893056998 1439), (.str y337536729 1440), (.int 126 0), (.int 4 0), (.int 0 0), (.int 0 0), (.int 3 0), (.ref 304), (.bool true), (.int 492 0), (.ref 305), .none, (.ref 306), (.ref 307), (.ref 308), (.int 1445 0), (.int 126 0), (.str y337536729 1446)]), #[]⟩
def f310 (P : Params) : Obj := ⟨(.type "function"), none, (.func { name := z_book_value_, qualname := y893056998, params := fArgs [6, 7], body := .stmts (fBody [6, 7]), scope := fScope [6, 7], globals := 3, closure := [], defaults := .none, kwdefaults := .none, doc := .none, pyModule := (.str zenum 1156), annotations := none, code := (.ref 309), closureTuple := .none, builtins := 0 }), #[]⟩
def f311 (P : Params) : Obj := ⟨(.type "tuple"), none, (.seq #[] 0), #[]⟩
def f312 (P : Params) : Obj := ⟨.none, none, (.fields #[]), #[]⟩
def f313 (P : Params) : Obj := ⟨(.type "tuple"), none, (.seq #[(.str zcls 1451), (.str zmixins 1452)] 0), #[]⟩
def f314 (P : Params) : Obj := ⟨(.type "tuple"), none, (.seq #[] 0), #[]⟩
def f315 (P : Params) : Obj := ⟨.none, none, (.func { name := z_mixed_, qualname := y945190516, params := fArgs [6, 8], body := .stmts (fBody [6, 8]), scope := fScope [6, 8], globals := 0, closure := [], defaults := .none, kwdefaults := .none, doc := .none, pyModule := .none, annotations := none, code := .none, closureTuple := .none, builtins := 0 }), #[]⟩
def f316 (P : Params) : Obj := ⟨(.type "code"), none, (.fields #[(.str z_mixed_ 1448), (.str y945190516 1449), (.str y337536729 1450), (.int 129 0), (.int 2 0), (.int 0 0), (.int 0 0), (.int 3 0), (.ref 311), (.bool true), (.int 492 0), (.ref 312), .none, (.ref 313), (.ref 314), (.ref 315), (.int 1453 0), (.int 129 0), (.str y337536729 1454)]), #[]⟩
def f317 (P : Params) : Obj := ⟨(.type "function"), none, (.func { name := z_mixed_, qualname := y945190516, params := fArgs [6, 8], body := .stmts (fBody [6, 8]), scope := fScope [6, 8], globals := 3, closure := [], defaults := .none, kwdefaults := .none, doc := .none, pyModule := (.str zenum 1156), annotations := none, code := (.ref 316), closureTuple := .none, builtins := 0 }), #[]⟩
def f318 (P : Params) : Obj := ⟨(.type "tuple"), none, (.seq #[] 0), #[]⟩
def f319 (P : Params) : Obj := ⟨.none, none, (.fields #[]), #[]⟩
def f320 (P : Params) : Obj := ⟨(.type "tuple"), none, (.seq #[(.str zcls 1459), (.str zvalue 1460), (.str zmaker 1461)] 0), #[]⟩
def f321 (P : Params) : Obj := ⟨(.type "tuple"), none, (.seq #[] 0), #[]⟩
def f322 (P : Params) : Obj := ⟨.none, none, (.func { name := z_held_def_, qualname := y551534737, params := fArgs [6, 9], body := .stmts (fBody [6, 9]), scope := fScope [6, 9], globals := 0, closure := [], defaults := .none, kwdefaults := .none, doc := .none, pyModule := .none, annotations := none, code := .none, closureTuple := .none, builtins := 0 }), #[]⟩
def f323 (P : Params) : Obj := ⟨(.type "code"), none, (.fields #[(.str z_held_def_ 1456), (.str y551534737 1457), (.str y337536729 1458), (.int 132 0), (.int 3 0), (.int 0 0), (.int 0 0), (.int 3 0), (.ref 318), (.bool true), (.int 492 0), (.ref 319), .none, (.ref 320), (.ref 321), (.ref 322), (.int 1462 0), (.int 132 0), (.str y337536729 1463)]), #[]⟩
def f324 (P : Params) : Obj := ⟨(.type "function"), none, (.func { name := z_held_def_, qualname := y551534737, params := fArgs [6, 9], body := .stmts (fBody [6, 9]), scope := fScope [6, 9], globals := 3, closure := [], defaults := .none, kwdefaults := .none, doc := .none, pyModule := (.str zenum 1156), annotations := none, code := (.ref 323), closureTuple := .none, builtins := 0 }), #[]⟩
def f325 (P : Params) : Obj := ⟨(.type "tuple"), none, (.seq #[] 0), #[]⟩
def f326 (P : Params) : Obj := ⟨.none, none, (.fields #[]), #[]⟩
def f327 (P : Params) : Obj := ⟨(.type "tuple"), none, (.seq #[(.str zcls 1468)] 0), #[]⟩
def f328 (P : Params) : Obj := ⟨(.type "tuple"), none, (.seq #[] 0), #[]⟩
def f329 (P : Params) : Obj := ⟨.none, none, (.func { name := z_closed_, qualname := y140122718, params := fArgs [6, 10], body := .stmts (fBody [6, 10]), scope := fScope [6, 10], globals := 0, closure := [], defaults := .none, kwdefaults := .none, doc := .none, pyModule := .none, annotations := none, code := .none, closureTuple := .none, builtins := 0 }), #[]⟩
def f330 (P : Params) : Obj := ⟨(.type "code"), none, (.fields #[(.str z_closed_ 1465), (.str y140122718 1466), (.str y337536729 1467), (.int 135 0), (.int 1 0), (.int 0 0), (.int 0 0), (.int 3 0), (.ref 325), (.bool true), (.int 492 0), (.ref 326), .none, (.ref 327), (.ref 328), (.ref 329), (.int 1469 0), (.int 135 0), (.str y337536729 1470)]), #[]⟩
def f331 (P : Params) : Obj := ⟨(.type "function"), none, (.func { name := z_closed_, qualname := y140122718, params := fArgs [6, 10], body := .stmts (fBody [6, 10]), scope := fScope [6, 10], globals := 3, closure := [], defaults := .none, kwdefaults := .none, doc := .none, pyModule := (.str zenum 1156), annotations := none, code := (.ref 330), closureTuple := .none, builtins := 0 }), #[]⟩
def f332 (P : Params) : Obj := ⟨(.type "tuple"), none, (.seq #[] 0), #[]⟩
def f333 (P : Params) : Obj := ⟨.none, none, (.fields #[]), #[]⟩
def f334 (P : Params) : Obj := ⟨(.type "tuple"), none, (.seq #[(.str zcls 1475), (.str zvalue 1476), (.str zdata 1477)] 0), #[]⟩
def f335 (P : Params) : Obj := ⟨(.type "tuple"), none, (.seq #[] 0), #[]⟩
def f336 (P : Params) : Obj := ⟨.none, none, (.func { name := z_held_auto_, qualname := y864249106, params := fArgs [6, 11], body := .stmts (fBody [6, 11]), scope := fScope [6, 11], globals := 0, closure := [], defaults := .none, kwdefaults := .none, doc := .none, pyModule := .none, annotations := none, code := .none, closureTuple := .none, builtins := 0 }), #[]⟩
def f337 (P : Params) : Obj := ⟨(.type "code"), none, (.fields #[(.str z_held_auto_ 1472), (.str y864249106 1473), (.str y337536729 1474), (.int 138 0), (.int 3 0), (.int 0 0), (.int 0 0), (.int 3 0), (.ref 332), (.bool true), (.int 492 0), (.ref 333), .none, (.ref 334), (.ref 335), (.ref 336), (.int 1478 0), (.int 138 0), (.str y337536729 1479)]), #[]⟩
def f338 (P : Params) : Obj := ⟨(.type "function"), none, (.func { name := z_held_auto_, qualname := y864249106, params := fArgs [6, 11], body := .stmts (fBody [6, 11]), scope := fScope [6, 11], globals := 3, closure := [], defaults := .none, kwdefaults := .none, doc := .none, pyModule := (.str zenum 1156), annotations := none, code := (.ref 337), closureTuple := .none, builtins := 0 }), #[]⟩
def f339 (P : Params) : Obj := ⟨(.type "tuple"), none, (.seq #[] 0), #[]⟩
def f340 (P : Params) : Obj := ⟨.none, none, (.fields #[]), #[]⟩
def f341 (P : Params) : Obj := ⟨(.type "tuple"), none, (.seq #[(.str zcls 1484)] 0), #[]⟩
def f342 (P : Params) : Obj := ⟨(.type "tuple"), none, (.seq #[] 0), #[]⟩
def f343 (P : Params) : Obj := ⟨.none, none, (.func { name := z_unique_, qualname := y835427616, params := fArgs [6, 12], body := .stmts (fBody [6, 12]), scope := fScope [6, 12], globals := 0, closure := [], defaults := .none, kwdefaults := .none, doc := .none, pyModule := .none, annotations := none, code := .none, closureTuple := .none, builtins := 0 }), #[]⟩
def f344 (P : Params) : Obj := ⟨(.type "code"), none, (.fields #[(.str z_unique_ 1481), (.str y835427616 1482), (.str y337536729 1483), (.int 141 0), (.int 1 0), (.int 0 0), (.int 0 0), (.int 3 0), (.ref 339), (.bool true), (.int 492 0), (.ref 340), .none, (.ref 341), (.ref 342), (.ref 343), (.int 1485 0), (.int 141 0), (.str y337536729 1486)]), #[]⟩
def f345 (P : Params) : Obj := ⟨(.type "function"), none, (.func { name := z_unique_, qualname := y835427616, params := fArgs [6, 12], body := .stmts (fBody [6, 12]), scope := fScope [6, 12], globals := 3, closure := [], defaults := .none, kwdefaults := .none, doc := .none, pyModule := (.str zenum 1156), annotations := none, code := (.ref 344), closureTuple := .none, builtins := 0 }), #[]⟩
def f346 (P : Params) : Obj := ⟨(.type "tuple"), none, (.seq #[] 0), #[]⟩
def f347 (P : Params) : Obj := ⟨.none, none, (.fields #[]), #[]⟩
def f348 (P : Params) : Obj := ⟨(.type "tuple"), none, (.seq #[(.str zcls 1491)] 0), #[]⟩
def f349 (P : Params) : Obj := ⟨(.type "tuple"), none, (.seq #[] 0), #[]⟩
def f350 (P : Params) : Obj := ⟨.none, none, (.func { name := z_close_, qualname := y296228406, params := fArgs [6, 13], body := .stmts (fBody [6, 13]), scope := fScope [6, 13], globals := 0, closure := [], defaults := .none, kwdefaults := .none, doc := .none, pyModule := .none, annotations := none, code := .none, closureTuple := .none, builtins := 0 }), #[]⟩
def f351 (P : Params) : Obj := ⟨(.type "code"), none, (.fields #[(.str z_close_ 1488), (.str y296228406 1489), (.str y337536729 1490), (.int 144 0), (.int 1 0), (.int 0 0), (.int 0 0), (.int 3 0), (.ref 346), (.bool true), (.int 492 0), (.ref 347), .none, (.ref 348), (.ref 349), (.ref 350), (.int 1492 0), (.int 144 0), (.str y337536729 1493)]), #[]⟩
def f352 (P : Params) : Obj := ⟨(.type "function"), none, (.func { name := z_close_, qualname := y296228406, params := fArgs [6, 13], body := .stmts (fBody [6, 13]), scope := fScope [6, 13], globals := 3, closure := [], defaults := .none, kwdefaults := .none, doc := .none, pyModule := (.str zenum 1156), annotations := none, code := (.ref 351), closureTuple := .none, builtins := 0 }), #[]⟩
def f353 (P : Params) : Obj := ⟨(.type "tuple"), none, (.seq #[] 0), #[]⟩
def f354 (P : Params) : Obj := ⟨.none, none, (.fields #[]), #[]⟩
def f355 (P : Params) : Obj := ⟨(.type "tuple"), none, (.seq #[(.str zcls 1498), (.str znames 1499)] 0), #[]⟩
def f356 (P : Params) : Obj := ⟨(.type "tuple"), none, (.seq #[] 0), #[]⟩
def f357 (P : Params) : Obj := ⟨.none, none, (.func { name := z_expect_, qualname := y313419923, params := fArgs [6, 14], body := .stmts (fBody [6, 14]), scope := fScope [6, 14], globals := 0, closure := [], defaults := .none, kwdefaults := .none, doc := .none, pyModule := .none, annotations := none, code := .none, closureTuple := .none, builtins := 0 }), #[]⟩
def f358 (P : Params) : Obj := ⟨(.type "code"), none, (.fields #[(.str z_expect_ 1495), (.str y313419923 1496), (.str y337536729 1497), (.int 147 0), (.int 2 0), (.int 0 0), (.int 0 0), (.int 3 0), (.ref 353), (.bool true), (.int 492 0), (.ref 354), .none, (.ref 355), (.ref 356), (.ref 357), (.int 1500 0), (.int 147 0), (.str y337536729 1501)]), #[]⟩
def f359 (P : Params) : Obj := ⟨(.type "function"), none, (.func { name := z_expect_, qualname := y313419923, params := fArgs [6, 14], body := .stmts (fBody [6, 14]), scope := fScope [6, 14], globals := 3, closure := [], defaults := .none, kwdefaults := .none, doc := .none, pyModule := (.str zenum 1156), annotations := none, code := (.ref 358), closureTuple := .none, builtins := 0 }), #[]⟩
def f360 (P : Params) : Obj := ⟨(.type "tuple"), none, (.seq #[] 0), #[]⟩
def f361 (P : Params) : Obj := ⟨.none, none, (.fields #[]), #[]⟩
def f362 (P : Params) : Obj := ⟨(.type "tuple"), none, (.seq #[(.str zcls 1506), (.str zdata 1507), (.str zargs 1508)] 0), #[]⟩
def f363 (P : Params) : Obj := ⟨(.type "tuple"), none, (.seq #[] 0), #[]⟩
def f364 (P : Params) : Obj := ⟨.none, none, (.func { name := z_value_of_, qualname := y466725079, params := fArgs [6, 15], body := .stmts (fBody [6, 15]), scope := fScope [6, 15], globals := 0, closure := [], defaults := .none, kwdefaults := .none, doc := .none, pyModule := .none, annotations := none, code := .none, closureTuple := .none, builtins := 0 }), #[]⟩
def f365 (P : Params) : Obj := ⟨(.type "code"), none, (.fields #[(.str z_value_of_ 1503), (.str y466725079 1504), (.str y337536729 1505), (.int 150 0), (.int 3 0), (.int 0 0), (.int 0 0), (.int 3 0), (.ref 360), (.bool true), (.int 492 0), (.ref 361), .none, (.ref 362), (.ref 363), (.ref 364), (.int 1509 0), (.int 150 0), (.str y337536729 1510)]), #[]⟩
def f366 (P : Params) : Obj := ⟨(.type "function"), none, (.func { name := z_value_of_, qualname := y466725079, params := fArgs [6, 15], body := .stmts (fBody [6, 15]), scope := fScope [6, 15], globals := 3, closure := [], defaults := .none, kwdefaults := .none, doc := .none, pyModule := (.str zenum 1156), annotations := none, code := (.ref 365), closureTuple := .none, builtins := 0 }), #[]⟩
def f367 (P : Params) : Obj := ⟨(.type "tuple"), none, (.seq #[] 0), #[]⟩
def f368 (P : Params) : Obj := ⟨.none, none, (.fields #[]), #[]⟩
def f369 (P : Params) : Obj := ⟨(.type "tuple"), none, (.seq #[(.str zcls 1515), (.str zvalue 1516)] 0), #[]⟩
def f370 (P : Params) : Obj := ⟨(.type "tuple"), none, (.seq #[] 0), #[]⟩
def f371 (P : Params) : Obj := ⟨.none, none, (.func { name := z_args_of_, qualname := y265190002, params := fArgs [6, 16], body := .stmts (fBody [6, 16]), scope := fScope [6, 16], globals := 0, closure := [], defaults := .none, kwdefaults := .none, doc := .none, pyModule := .none, annotations := none, code := .none, closureTuple := .none, builtins := 0 }), #[]⟩
def f372 (P : Params) : Obj := ⟨(.type "code"), none, (.fields #[(.str z_args_of_ 1512), (.str y265190002 1513), (.str y337536729 1514), (.int 153 0), (.int 2 0), (.int 0 0), (.int 0 0), (.int 3 0), (.ref 367), (.bool true), (.int 492 0), (.ref 368), .none, (.ref 369), (.ref 370), (.ref 371), (.int 1517 0), (.int 153 0), (.str y337536729 1518)]), #[]⟩
def f373 (P : Params) : Obj := ⟨(.type "function"), none, (.func { name := z_args_of_, qualname := y265190002, params := fArgs [6, 16], body := .stmts (fBody [6, 16]), scope := fScope [6, 16], globals := 3, closure := [], defaults := .none, kwdefaults := .none, doc := .none, pyModule := (.str zenum 1156), annotations := none, code := (.ref 372), closureTuple := .none, builtins := 0 }), #[]⟩
def f374 (P : Params) : Obj := ⟨(.type "tuple"), none, (.seq #[] 0), #[]⟩
def f375 (P : Params) : Obj := ⟨.none, none, (.fields #[]), #[]⟩
def f376 (P : Params) : Obj := ⟨(.type "tuple"), none, (.seq #[(.str zcls 1523)] 0), #[]⟩
def f377 (P : Params) : Obj := ⟨(.type "tuple"), none, (.seq #[] 0), #[]⟩
def f378 (P : Params) : Obj := ⟨.none, none, (.func { name := z__bool__, qualname := y296373110, params := fArgs [6, 17], body := .stmts (fBody [6, 17]), scope := fScope [6, 17], globals := 0, closure := [], defaults := .none, kwdefaults := .none, doc := .none, pyModule := .none, annotations := none, code := .none, closureTuple := .none, builtins := 0 }), #[]⟩
def f379 (P : Params) : Obj := ⟨(.type "code"), none, (.fields #[(.str z__bool__ 1520), (.str y296373110 1521), (.str y337536729 1522), (.int 156 0), (.int 1 0), (.int 0 0), (.int 0 0), (.int 3 0), (.ref 374), (.bool true), (.int 492 0), (.ref 375), .none, (.ref 376), (.ref 377), (.ref 378), (.int 1524 0), (.int 156 0), (.str y337536729 1525)]), #[]⟩
def f380 (P : Params) : Obj := ⟨(.type "function"), none, (.func { name := z__bool__, qualname := y296373110, params := fArgs [6, 17], body := .stmts (fBody [6, 17]), scope := fScope [6, 17], globals := 3, closure := [], defaults := .none, kwdefaults := .none, doc := .none, pyModule := (.str zenum 1156), annotations := none, code := (.ref 379), closureTuple := .none, builtins := 0 }), #[]⟩
def f381 (P : Params) : Obj := ⟨(.type "tuple"), none, (.seq #[] 0), #[]⟩
def f382 (P : Params) : Obj := ⟨.none, none, (.fields #[]), #[]⟩
def f383 (P : Params) : Obj := ⟨(.type "tuple"), none, (.seq #[(.str zcls 1530), (.str zvalues 1531), (.str zkwds 1532)] 0), #[]⟩
def f384 (P : Params) : Obj := ⟨(.type "tuple"), none, (.seq #[] 0), #[]⟩
def f385 (P : Params) : Obj := ⟨.none, none, (.func { name := z__call__, qualname := y280669879, params := fArgs [6, 18], body := .stmts (fBody [6, 18]), scope := fScope [6, 18], globals := 0, closure := [], defaults := .none, kwdefaults := .none, doc := .none, pyModule := .none, annotations := none, code := .none, closureTuple := .none, builtins := 0 }), #[]⟩
def f386 (P : Params) : Obj := ⟨(.type "code"), none, (.fields #[(.str z__call__ 1527), (.str y280669879 1528), (.str y337536729 1529), (.int 159 0), (.int 1 0), (.int 0 0), (.int 0 0), (.int 15 0), (.ref 381), (.bool true), (.int 492 0), (.ref 382), .none, (.ref 383), (.ref 384), (.ref 385), (.int 1533 0), (.int 159 0), (.str y337536729 1534)]), #[]⟩
def f387 (P : Params) : Obj := ⟨(.type "function"), none, (.func { name := z__call__, qualname := y280669879, params := fArgs [6, 18], body := .stmts (fBody [6, 18]), scope := fScope [6, 18], globals := 3, closure := [], defaults := .none, kwdefaults := .none, doc := .none, pyModule := (.str zenum 1156), annotations := none, code := (.ref 386), closureTuple := .none, builtins := 0 }), #[]⟩
def f388 (P : Params) : Obj := ⟨(.type "tuple"), none, (.seq #[] 0), #[]⟩
def f389 (P : Params) : Obj := ⟨.none, none, (.fields #[]), #[]⟩
def f390 (P : Params) : Obj := ⟨(.type "tuple"), none, (.seq #[(.str zcls 1539), (.str zvalue 1540), (.str zresult 1541)] 0), #[]⟩
def f391 (P : Params) : Obj := ⟨(.type "tuple"), none, (.seq #[] 0), #[]⟩
def f392 (P : Params) : Obj := ⟨.none, none, (.func { name := z__contains__, qualname := y693753454, params := fArgs [6, 19], body := .stmts (fBody [6, 19]), scope := fScope [6, 19], globals := 0, closure := [], defaults := .none, kwdefaults := .none, doc := .none, pyModule := .none, annotations := none, code := .none, closureTuple := .none, builtins := 0 }), #[]⟩
def f393 (P : Params) : Obj := ⟨(.type "code"), none, (.fields #[(.str z__contains__ 1536), (.str y693753454 1537), (.str y337536729 1538), (.int 172 0), (.int 2 0), (.int 0 0), (.int 0 0), (.int 3 0), (.ref 388), (.bool true), (.int 492 0), (.ref 389), .none, (.ref 390), (.ref 391), (.ref 392), (.int 1542 0), (.int 172 0), (.str y337536729 1543)]), #[]⟩
def f394 (P : Params) : Obj := ⟨(.type "function"), none, (.func { name := z__contains__, qualname := y693753454, params := fArgs [6, 19], body := .stmts (fBody [6, 19]), scope := fScope [6, 19], globals := 3, closure := [], defaults := .none, kwdefaults := .none, doc := .none, pyModule := (.str zenum 1156), annotations := none, code := (.ref 393), closureTuple := .none, builtins := 0 }), #[]⟩
def f395 (P : Params) : Obj := ⟨(.type "tuple"), none, (.seq #[] 0), #[]⟩
def f396 (P : Params) : Obj := ⟨.none, none, (.fields #[]), #[]⟩
def f397 (P : Params) : Obj := ⟨(.type "tuple"), none, (.seq #[(.str zcls 1548), (.str zname 1549)] 0), #[]⟩
def f398 (P : Params) : Obj := ⟨(.type "tuple"), none, (.seq #[] 0), #[]⟩
def f399 (P : Params) : Obj := ⟨.none, none, (.func { name := z__getitem__, qualname := y896719233, params := fArgs [6, 20], body := .stmts (fBody [6, 20]), scope := fScope [6, 20], globals := 0, closure := [], defaults := .none, kwdefaults := .none, doc := .none, pyModule := .none, annotations := none, code := .none, closureTuple := .none, builtins := 0 }), #[]⟩
def f400 (P : Params) : Obj := ⟨(.type "code"), none, (.fields #[(.str z__getitem__ 1545), (.str y896719233 1546), (.str y337536729 1547), (.int 183 0), (.int 2 0), (.int 0 0), (.int 0 0), (.int 3 0), (.ref 395), (.bool true), (.int 492 0), (.ref 396), .none, (.ref 397), (.ref 398), (.ref 399), (.int 1550 0), (.int 183 0), (.str y337536729 1551)]), #[]⟩
def f401 (P : Params) : Obj := ⟨(.type "function"), none, (.func { name := z__getitem__, qualname := y896719233, params := fArgs [6, 20], body := .stmts (fBody [6, 20]), scope := fScope [6, 20], globals := 3, closure := [], defaults := .none, kwdefaults := .none, doc := .none, pyModule := (.str zenum 1156), annotations := none, code := (.ref 400), closureTuple := .none, builtins := 0 }), #[]⟩
def f402 (P : Params) : Obj := ⟨(.type "tuple"), none, (.seq #[] 0), #[]⟩
def f403 (P : Params) : Obj := ⟨.none, none, (.fields #[]), #[]⟩
def f404 (P : Params) : Obj := ⟨(.type "tuple"), none, (.seq #[(.str zcls 1556)] 0), #[]⟩
def f405 (P : Params) : Obj := ⟨(.type "tuple"), none, (.seq #[(.str zcls 1557)] 0), #[]⟩
def f406 (P : Params) : Obj := ⟨.none, none, (.func { name := z__iter__, qualname := y924362947, params := fArgs [6, 21], body := .stmts (fBody [6, 21]), scope := fScope [6, 21], globals := 0, closure := [], defaults := .none, kwdefaults := .none, doc := .none, pyModule := .none, annotations := none, code := .none, closureTuple := .none, builtins := 0 }), #[]⟩
def f407 (P : Params) : Obj := ⟨(.type "code"), none, (.fields #[(.str z__iter__ 1553), (.str y924362947 1554), (.str y337536729 1555), (.int 186 0), (.int 1 0), (.int 0 0), (.int 0 0), (.int 3 0), (.ref 402), (.bool true), (.int 492 0), (.ref 403), .none, (.ref 404), (.ref 405), (.ref 406), (.int 1558 0), (.int 186 0), (.str y337536729 1559)]), #[]⟩
def f408 (P : Params) : Obj := ⟨(.type "function"), none, (.func { name := z__iter__, qualname := y924362947, params := fArgs [6, 21], body := .stmts (fBody [6, 21]), scope := fScope [6, 21], globals := 3, closure := [], defaults := .none, kwdefaults := .none, doc := .none, pyModule := (.str zenum 1156), annotations := none, code := (.ref 407), closureTuple := .none, builtins := 0 }), #[]⟩
def f409 (P : Params) : Obj := ⟨(.type "tuple"), none, (.seq #[] 0), #[]⟩
def f410 (P : Params) : Obj := ⟨.none, none, (.fields #[]), #[]⟩
def f411 (P : Params) : Obj := ⟨(.type "tuple"), none, (.seq #[(.str zcls 1564)] 0), #[]⟩
def f412 (P : Params) : Obj := ⟨(.type "tuple"), none, (.seq #[] 0), #[]⟩
def f413 (P : Params) : Obj := ⟨.none, none, (.func { name := z__len__, qualname := y823841821, params := fArgs [6, 22], body := .stmts (fBody [6, 22]), scope := fScope [6, 22], globals := 0, closure := [], defaults := .none, kwdefaults := .none, doc := .none, pyModule := .none, annotations := none, code := .none, closureTuple := .none, builtins := 0 }), #[]⟩
def f414 (P : Params) : Obj := ⟨(.type "code"), none, (.fields #[(.str z__len__ 1561), (.str y823841821 1562), (.str y337536729 1563), (.int 189 0), (.int 1 0), (.int 0 0), (.int 0 0), (.int 3 0), (.ref 409), (.bool true), (.int 492 0), (.ref 410), .none, (.ref 411), (.ref 412), (.ref 413), (.int 1565 0), (.int 189 0), (.str y337536729 1566)]), #[]⟩
def f415 (P : Params) : Obj := ⟨(.type "function"), none, (.func { name := z__len__, qualname := y823841821, params := fArgs [6, 22], body := .stmts (fBody [6, 22]), scope := fScope [6, 22], globals := 3, closure := [], defaults := .none, kwdefaults := .none, doc := .none, pyModule := (.str zenum 1156), annotations := none, code := (.ref 414), closureTuple := .none, builtins := 0 }), #[]⟩
def f416 (P : Params) : Obj := ⟨(.type "tuple"), none, (.seq #[] 0), #[]⟩
def f417 (P : Params) : Obj := ⟨.none, none, (.fields #[]), #[]⟩
def f418 (P : Params) : Obj := ⟨(.type "tuple"), none, (.seq #[(.str zcls 1571)] 0), #[]⟩
def f419 (P : Params) : Obj := ⟨(.type "tuple"), none, (.seq #[] 0), #[]⟩
def f420 (P : Params) : Obj := ⟨.none, none, (.func { name := z__members__, qualname := y104303411, params := fArgs [6, 23], body := .stmts (fBody [6, 23]), scope := fScope [6, 23], globals := 0, closure := [], defaults := .none, kwdefaults := .none, doc := .none, pyModule := .none, annotations := none, code := .none, closureTuple := .none, builtins := 0 }), #[]⟩
def f421 (P : Params) : Obj := ⟨(.type "code"), none, (.fields #[(.str z__members__ 1568), (.str y104303411 1569), (.str y337536729 1570), (.int 192 0), (.int 1 0), (.int 0 0), (.int 0 0), (.int 3 0), (.ref 416), (.bool true), (.int 492 0), (.ref 417), .none, (.ref 418), (.ref 419), (.ref 420), (.int 1572 0), (.int 192 0), (.str y337536729 1573)]), #[]⟩
def f422 (P : Params) : Obj := ⟨(.type "function"), none, (.func { name := z__members__, qualname := y104303411, params := fArgs [6, 23], body := .stmts (fBody [6, 23]), scope := fScope [6, 23], globals := 3, closure := [], defaults := .none, kwdefaults := .none, doc := .none, pyModule := (.str zenum 1156), annotations := none, code := (.ref 421), closureTuple := .none, builtins := 0 }), #[]⟩
def f423 (P : Params) : Obj := ⟨(.type "property"), none, (.fields #[(.ref 422), .none, .none, .none, (.str z__members__ 1575), (.bool false)]), #[]⟩
def f424 (P : Params) : Obj := ⟨(.type "tuple"), none, (.seq #[] 0), #[]⟩
def f425 (P : Params) : Obj := ⟨.none, none, (.fields #[]), #[]⟩
def f426 (P : Params) : Obj := ⟨(.type "tuple"), none, (.seq #[(.str zcls 1579)] 0), #[]⟩
def f427 (P : Params) : Obj := ⟨(.type "tuple"), none, (.seq #[] 0), #[]⟩
def f428 (P : Params) : Obj := ⟨.none, none, (.func { name := z__repr__, qualname := y944599998, params := fArgs [6, 24], body := .stmts (fBody [6, 24]), scope := fScope [6, 24], globals := 0, closure := [], defaults := .none, kwdefaults := .none, doc := .none, pyModule := .none, annotations := none, code := .none, closureTuple := .none, builtins := 0 }), #[]⟩
def f429 (P : Params) : Obj := ⟨(.type "code"), none, (.fields #[(.str z__repr__ 1576), (.str y944599998 1577), (.str y337536729 1578), (.int 196 0), (.int 1 0), (.int 0 0), (.int 0 0), (.int 3 0), (.ref 424), (.bool true), (.int 492 0), (.ref 425), .none, (.ref 426), (.ref 427), (.ref 428), (.int 1580 0), (.int 196 0), (.str y337536729 1581)]), #[]⟩
def f430 (P : Params) : Obj := ⟨(.type "function"), none, (.func { name := z__repr__, qualname := y944599998, params := fArgs [6, 24], body := .stmts (fBody [6, 24]), scope := fScope [6, 24], globals := 3, closure := [], defaults := .none, kwdefaults := .none, doc := .none, pyModule := (.str zenum 1156), annotations := none, code := (.ref 429), closureTuple := .none, builtins := 0 }), #[]⟩
def f431 (P : Params) : Obj := ⟨(.type "tuple"), none, (.seq #[] 0), #[]⟩
def f432 (P : Params) : Obj := ⟨.none, none, (.fields #[]), #[]⟩
def f433 (P : Params) : Obj := ⟨(.type "tuple"), none, (.seq #[(.str zcls 1586)] 0), #[]⟩
def f434 (P : Params) : Obj := ⟨(.type "tuple"), none, (.seq #[(.str zcls 1587)] 0), #[]⟩
def f435 (P : Params) : Obj := ⟨.none, none, (.func { name := z__reversed__, qualname := y639467848, params := fArgs [6, 25], body := .stmts (fBody [6, 25]), scope := fScope [6, 25], globals := 0, closure := [], defaults := .none, kwdefaults := .none, doc := .none, pyModule := .none, annotations := none, code := .none, closureTuple := .none, builtins := 0 }), #[]⟩
def f436 (P : Params) : Obj := ⟨(.type "code"), none, (.fields #[(.str z__reversed__ 1583), (.str y639467848 1584), (.str y337536729 1585), (.int 202 0), (.int 1 0), (.int 0 0), (.int 0 0), (.int 3 0), (.ref 431), (.bool true), (.int 492 0), (.ref 432), .none, (.ref 433), (.ref 434), (.ref 435), (.int 1588 0), (.int 202 0), (.str y337536729 1589)]), #[]⟩
def f437 (P : Params) : Obj := ⟨(.type "function"), none, (.func { name := z__reversed__, qualname := y639467848, params := fArgs [6, 25], body := .stmts (fBody [6, 25]), scope := fScope [6, 25], globals := 3, closure := [], defaults := .none, kwdefaults := .none, doc := .none, pyModule := (.str zenum 1156), annotations := none, code := (.ref 436), closureTuple := .none, builtins := 0 }), #[]⟩
def f438 (P : Params) : Obj := ⟨(.type "tuple"), none, (.seq #[(.ref 263)] 0), #[]⟩
def f439 (P : Params) : Obj := ⟨(.type "tuple"), none, (.seq #[(.str z__class__ 1594)] 0), #[]⟩
def f440 (P : Params) : Obj := ⟨.none, none, (.fields #[]), #[]⟩
def f441 (P : Params) : Obj := ⟨(.type "tuple"), none, (.seq #[(.str zcls 1595), (.str zname 1596), (.str zvalue 1597)] 0), #[]⟩
def f442 (P : Params) : Obj := ⟨(.type "tuple"), none, (.seq #[] 0), #[]⟩
def f443 (P : Params) : Obj := ⟨.none, none, (.func { name := z__setattr__, qualname := y445767559, params := fArgs [6, 26], body := .stmts (fBody [6, 26]), scope := fScope [6, 26], globals := 0, closure := [], defaults := .none, kwdefaults := .none, doc := .none, pyModule := .none, annotations := none, code := .none, closureTuple := .none, builtins := 0 }), #[]⟩
def f444 (P : Params) : Obj := ⟨(.type "code"), none, (.fields #[(.str z__setattr__ 1591), (.str y445767559 1592), (.str y337536729 1593), (.int 205 0), (.int 3 0), (.int 0 0), (.int 0 0), (.int 3 0), (.ref 439), (.bool true), (.int 492 0), (.ref 440), .none, (.ref 441), (.ref 442), (.ref 443), (.int 1598 0), (.int 205 0), (.str y337536729 1599)]), #[]⟩
def f445 (P : Params) : Obj := ⟨(.type "function"), none, (.func { name := z__setattr__, qualname := y445767559, params := fArgs [6, 26], body := .stmts (fBody [6, 26]), scope := fScope [6, 26], globals := 3, closure := [(z__class__, 263)], defaults := .none, kwdefaults := .none, doc := .none, pyModule := (.str zenum 1156), annotations := none, code := (.ref 444), closureTuple := (.ref 438), builtins := 0 }), #[]⟩
def f446 (P : Params) : Obj := ⟨(.type "tuple"), none, (.seq #[(.ref 263)] 0), #[]⟩
def f447 (P : Params) : Obj := ⟨(.type "tuple"), none, (.seq #[(.str z__class__ 1604)] 0), #[]⟩
def f448 (P : Params) : Obj := ⟨.none, none, (.fields #[]), #[]⟩
def f449 (P : Params) : Obj := ⟨(.type "tuple"), none, (.seq #[(.str zcls 1605), (.str zattr 1606)] 0), #[]⟩
def f450 (P : Params) : Obj := ⟨(.type "tuple"), none, (.seq #[] 0), #[]⟩
def f451 (P : Params) : Obj := ⟨.none, none, (.func { name := z__delattr__, qualname := y974669264, params := fArgs [6, 27], body := .stmts (fBody [6, 27]), scope := fScope [6, 27], globals := 0, closure := [], defaults := .none, kwdefaults := .none, doc := .none, pyModule := .none, annotations := none, code := .none, closureTuple := .none, builtins := 0 }), #[]⟩
def f452 (P : Params) : Obj := ⟨(.type "code"), none, (.fields #[(.str z__delattr__ 1601), (.str y974669264 1602), (.str y337536729 1603), (.int 212 0), (.int 2 0), (.int 0 0), (.int 0 0), (.int 3 0), (.ref 447), (.bool true), (.int 492 0), (.ref 448), .none, (.ref 449), (.ref 450), (.ref 451), (.int 1607 0), (.int 212 0), (.str y337536729 1608)]), #[]⟩
def f453 (P : Params) : Obj := ⟨(.type "function"), none, (.func { name := z__delattr__, qualname := y974669264, params := fArgs [6, 27], body := .stmts (fBody [6, 27]), scope := fScope [6, 27], globals := 3, closure := [(z__class__, 263)], defaults := .none, kwdefaults := .none, doc := .none, pyModule := (.str zenum 1156), annotations := none, code := (.ref 452), closureTuple := (.ref 446), builtins := 0 }), #[]⟩
def f454 (P : Params) : Obj := ⟨(.type "tuple"), none, (.seq #[(.ref 263)] 0), #[]⟩
def f455 (P : Params) : Obj := ⟨(.type "tuple"), none, (.seq #[(.str z__class__ 1613)] 0), #[]⟩
def f456 (P : Params) : Obj := ⟨.none, none, (.fields #[]), #[]⟩
def f457 (P : Params) : Obj := ⟨(.type "tuple"), none, (.seq #[(.str zcls 1614), (.str zname 1615), (.str zvalue 1616)] 0), #[]⟩
def f458 (P : Params) : Obj := ⟨(.type "tuple"), none, (.seq #[] 0), #[]⟩
def f459 (P : Params) : Obj := ⟨.none, none, (.func { name := z_store_, qualname := y4258319, params := fArgs [6, 28], body := .stmts (fBody [6, 28]), scope := fScope [6, 28], globals := 0, closure := [], defaults := .none, kwdefaults := .none, doc := .none, pyModule := .none, annotations := none, code := .none, closureTuple := .none, builtins := 0 }), #[]⟩
def f460 (P : Params) : Obj := ⟨(.type "code"), none, (.fields #[(.str z_store_ 1610), (.str y4258319 1611), (.str y337536729 1612), (.int 217 0), (.int 3 0), (.int 0 0), (.int 0 0), (.int 3 0), (.ref 455), (.bool true), (.int 492 0), (.ref 456), .none, (.ref 457), (.ref 458), (.ref 459), (.int 1617 0), (.int 217 0), (.str y337536729 1618)]), #[]⟩
def f461 (P : Params) : Obj := ⟨(.type "function"), none, (.func { name := z_store_, qualname := y4258319, params := fArgs [6, 28], body := .stmts (fBody [6, 28]), scope := fScope [6, 28], globals := 3, closure := [(z__class__, 263)], defaults := .none, kwdefaults := .none, doc := .none, pyModule := (.str zenum 1156), annotations := none, code := (.ref 460), closureTuple := (.ref 454), builtins := 0 }), #[]⟩
def f462 (P : Params) : Obj := ⟨(.type "tuple"), none, (.seq #[] 0), #[]⟩
def f463 (P : Params) : Obj := ⟨.none, none, (.fields #[]), #[]⟩
def f464 (P : Params) : Obj := ⟨(.type "tuple"), none, (.seq #[(.str zcls 1623)] 0), #[]⟩
def f465 (P : Params) : Obj := ⟨(.type "tuple"), none, (.seq #[] 0), #[]⟩
def f466 (P : Params) : Obj := ⟨.none, none, (.func { name := z__dir__, qualname := y20566981, params := fArgs [6, 29], body := .stmts (fBody [6, 29]), scope := fScope [6, 29], globals := 0, closure := [], defaults := .none, kwdefaults := .none, doc := .none, pyModule := .none, annotations := none, code := .none, closureTuple := .none, builtins := 0 }), #[]⟩
def f467 (P : Params) : Obj := ⟨(.type "code"), none, (.fields #[(.str z__dir__ 1620), (.str y20566981 1621), (.str y337536729 1622), (.int 220 0), (.int 1 0), (.int 0 0), (.int 0 0), (.int 3 0), (.ref 462), (.bool true), (.int 492 0), (.ref 463), .none, (.ref 464), (.ref 465), (.ref 466), (.int 1624 0), (.int 220 0), (.str y337536729 1625)]), #[]⟩
def f468 (P : Params) : Obj := ⟨(.type "function"), none, (.func { name := z__dir__, qualname := y20566981, params := fArgs [6, 29], body := .stmts (fBody [6, 29]), scope := fScope [6, 29], globals := 3, closure := [], defaults := .none, kwdefaults := .none, doc := .none, pyModule := (.str zenum 1156), annotations := none, code := (.ref 467), closureTuple := .none, builtins := 0 }), #[]⟩
def f469 (P : Params) : Obj := ⟨(.type "tuple"), none, (.seq #[] 0), #[]⟩
def f470 (P : Params) : Obj := ⟨(.type "dict"), none, (.dict #[⟨PyData.keyHash P z__module__, (.str z__module__ 1380), (.str zenum 1385)⟩, ⟨PyData.keyHash P z__firstlineno__, (.str z__firstlineno__ 1384), (.int 92 1383)⟩, ⟨PyData.keyHash P z_written_out_, (.str z_written_out_ 1388), (.int 0 1387)⟩, ⟨PyData.keyHash P z__new__, (.str z__new__ 1401), (.ref 472)⟩, ⟨PyData.keyHash P z_planted_, (.str z_planted_ 1410), (.ref 282)⟩, ⟨PyData.keyHash P z_planted_at_, (.str z_planted_at_ 1417), (.ref 289)⟩, ⟨PyData.keyHash P z_held_value_, (.str z_held_value_ 1427), (.ref 296)⟩, ⟨PyData.keyHash P z_canonical_, (.str z_canonical_ 1437), (.ref 303)⟩, ⟨PyData.keyHash P z_book_value_, (.str z_book_value_ 1447), (.ref 310)⟩, ⟨PyData.keyHash P z_mixed_, (.str z_mixed_ 1455), (.ref 317)⟩, ⟨PyData.keyHash P z_held_def_, (.str z_held_def_ 1464), (.ref 324)⟩, ⟨PyData.keyHash P z_closed_, (.str z_closed_ 1471), (.ref 331)⟩, ⟨PyData.keyHash P z_held_auto_, (.str z_held_auto_ 1480), (.ref 338)⟩, ⟨PyData.keyHash P z_unique_, (.str z_unique_ 1487), (.ref 345)⟩, ⟨PyData.keyHash P z_close_, (.str z_close_ 1494), (.ref 352)⟩, ⟨PyData.keyHash P z_expect_, (.str z_expect_ 1502), (.ref 359)⟩, ⟨PyData.keyHash P z_value_of_, (.str z_value_of_ 1511), (.ref 366)⟩, ⟨PyData.keyHash P z_args_of_, (.str z_args_of_ 1519), (.ref 373)⟩, ⟨PyData.keyHash P z__bool__, (.str z__bool__ 1526), (.ref 380)⟩, ⟨PyData.keyHash P z__call__, (.str z__call__ 1535), (.ref 387)⟩, ⟨PyData.keyHash P z__contains__, (.str z__contains__ 1544), (.ref 394)⟩, ⟨PyData.keyHash P z__getitem__, (.str z__getitem__ 1552), (.ref 401)⟩, ⟨PyData.keyHash P z__iter__, (.str z__iter__ 1560), (.ref 408)⟩, ⟨PyData.keyHash P z__len__, (.str z__len__ 1567), (.ref 415)⟩, ⟨PyData.keyHash P z__members__, (.str z__members__ 1575), (.ref 423)⟩, ⟨PyData.keyHash P z__repr__, (.str z__repr__ 1582), (.ref 430)⟩, ⟨PyData.keyHash P z__reversed__, (.str z__reversed__ 1590), (.ref 437)⟩, ⟨PyData.keyHash P z__setattr__, (.str z__setattr__ 1600), (.ref 445)⟩, ⟨PyData.keyHash P z__delattr__, (.str z__delattr__ 1609), (.ref 453)⟩, ⟨PyData.keyHash P z_store_, (.str z_store_ 1619), (.ref 461)⟩, ⟨PyData.keyHash P z__dir__, (.str z__dir__ 1626), (.ref 468)⟩, ⟨PyData.keyHash P z__static_attributes__, (.str z__static_attributes__ 1627), (.ref 469)⟩, ⟨PyData.keyHash P z__doc__, (.str z__doc__ 1630), .none⟩] 3), #[]⟩
def f471 (P : Params) : Obj := ⟨(.type "type"), none, (.cls { name := zEnumType, bases := [(.type "type")], mro := [(.ref 471), (.type "type"), (.type "object")], ns := 470, qualname := zEnumType, hasDict := true, slotNames := [], subclasses := [], abstract := false, collection := none, hasDel := false }), #[(some (.ref 260)), none, (some (.str zEnumType 1373)), (some (.str zEnumType 1381)), (some .none), (some (.bool true))]⟩
def f472 (P : Params) : Obj := ⟨(.type "staticmethod"), none, (.fields #[(.ref 275)]), #[]⟩
def f473 (P : Params) : Obj := ⟨(.type "super"), none, (.fields #[(.ref 471), (.ref 471), (.ref 471)]), #[]⟩
def f474 (P : Params) : Obj := ⟨(.type "builtin_function_or_method"), none, (.fields #[(.builtin "object.__init_subclass__"), (.ref 471)]), #[]⟩
def f475 (P : Params) : Obj := ⟨(.type "tuple"), none, (.seq #[] 0), #[]⟩
def f476 (P : Params) : Obj := ⟨(.type "builtin_function_or_method"), none, (.fields #[(.builtin "type.__prepare__"), (.type "type")]), #[]⟩
def f477 (P : Params) : Obj := ⟨(.type "dict"), none, (.dict #[⟨PyData.keyHash P z__module__, (.str z__module__ 1640), (.str zenum 1156)⟩, ⟨PyData.keyHash P z__qualname__, (.str z__qualname__ 1642), (.str z_EnumField 1641)⟩, ⟨PyData.keyHash P z__firstlineno__, (.str z__firstlineno__ 1644), (.int 222 1643)⟩, ⟨PyData.keyHash P z__init__, (.str z__init__ 1652), (.ref 488)⟩, ⟨PyData.keyHash P z__get__, (.str z__get__ 1661), (.ref 496)⟩, ⟨PyData.keyHash P z__set__, (.str z__set__ 1670), (.ref 503)⟩, ⟨PyData.keyHash P z__delete__, (.str z__delete__ 1678), (.ref 510)⟩, ⟨PyData.keyHash P z__static_attributes__, (.str z__static_attributes__ 1680), (.ref 511)⟩] 8), #[]⟩
def f478 (P : Params) : Obj := ⟨(.type "tuple"), none, (.seq #[] 0), #[]⟩
def f479 (P : Params) : Obj := ⟨.none, none, (.fields #[(.int 224 0), (.int 4 0), (.ref 487), (.int 227 0), (.int 4 0), (.ref 495), (.int 234 0), (.int 4 0), (.ref 502), (.int 237 0), (.int 4 0), (.ref 509)]), #[]⟩
def f480 (P : Params) : Obj := ⟨(.type "code"), none, (.fields #[(.str z_EnumField 1635), (.str z_EnumField 1636), (.str y337536729 1637), (.int 222 0), (.int 0 0), (.int 0 0), (.int 0 0), (.int 0 0), (.ref 478), (.bool false), (.int 492 0), (.ref 479), .none, .none, .none, .none, (.int 1638 0), (.int 222 0), (.str y337536729 1639)]), #[]⟩
def f481 (P : Params) : Obj := ⟨(.type "frame"), none, .plain, #[(some (.ref 480)), (some (.ref 3)), (some (.ref 477)), none, (some (.str zenum 1156)), none, (some (.ref 0))]⟩
def f482 (P : Params) : Obj := ⟨(.type "tuple"), none, (.seq #[] 0), #[]⟩
def f483 (P : Params) : Obj := ⟨.none, none, (.fields #[]), #[]⟩
def f484 (P : Params) : Obj := ⟨(.type "tuple"), none, (.seq #[(.str zself 1648), (.str zname 1649)] 0), #[]⟩
def f485 (P : Params) : Obj := ⟨(.type "tuple"), none, (.seq #[] 0), #[]⟩
def f486 (P : Params) : Obj := ⟨.none, none, (.func { name := z__init__, qualname := y803337846, params := fArgs [7, 0], body := .stmts (fBody [7, 0]), scope := fScope [7, 0], globals := 0, closure := [], defaults := .none, kwdefaults := .none, doc := .none, pyModule := .none, annotations := none, code := .none, closureTuple := .none, builtins := 0 }), #[]⟩
def f487 (P : Params) : Obj := ⟨(.type "code"), none, (.fields #[(.str z__init__ 1645), (.str y803337846 1646), (.str y337536729 1647), (.int 224 0), (.int 2 0), (.int 0 0), (.int 0 0), (.int 3 0), (.ref 482), (.bool true), (.int 492 0), (.ref 483), .none, (.ref 484), (.ref 485), (.ref 486), (.int 1650 0), (.int 224 0), (.str y337536729 1651)]), #[]⟩
def f488 (P : Params) : Obj := ⟨(.type "function"), none, (.func { name := z__init__, qualname := y803337846, params := fArgs [7, 0], body := .stmts (fBody [7, 0]), scope := fScope [7, 0], globals := 3, closure := [], defaults := .none, kwdefaults := .none, doc := .none, pyModule := (.str zenum 1156), annotations := none, code := (.ref 487), closureTuple := .none, builtins := 0 }), #[]⟩
def f489 (P : Params) : Obj := ⟨(.type "tuple"), none, (.seq #[.none] 0), #[]⟩
def f490 (P : Params) : Obj := ⟨(.type "tuple"), none, (.seq #[] 0), #[]⟩
def f491 (P : Params) : Obj := ⟨.none, none, (.fields #[]), #[]⟩
def f492 (P : Params) : Obj := ⟨(.type "tuple"), none, (.seq #[(.str zself 1656), (.str zinstance 1657), (.str zownerclass 1658)] 0), #[]⟩
def f493 (P : Params) : Obj := ⟨(.type "tuple"), none, (.seq #[] 0), #[]⟩
def f494 (P : Params) : Obj := ⟨.none, none, (.func { name := z__get__, qualname := y818097303, params := fArgs [7, 1], body := .stmts (fBody [7, 1]), scope := fScope [7, 1], globals := 0, closure := [], defaults := .none, kwdefaults := .none, doc := .none, pyModule := .none, annotations := none, code := .none, closureTuple := .none, builtins := 0 }), #[]⟩
def f495 (P : Params) : Obj := ⟨(.type "code"), none, (.fields #[(.str z__get__ 1653), (.str y818097303 1654), (.str y337536729 1655), (.int 227 0), (.int 3 0), (.int 0 0), (.int 0 0), (.int 3 0), (.ref 490), (.bool true), (.int 492 0), (.ref 491), .none, (.ref 492), (.ref 493), (.ref 494), (.int 1659 0), (.int 227 0), (.str y337536729 1660)]), #[]⟩
def f496 (P : Params) : Obj := ⟨(.type "function"), none, (.func { name := z__get__, qualname := y818097303, params := fArgs [7, 1], body := .stmts (fBody [7, 1]), scope := fScope [7, 1], globals := 3, closure := [], defaults := (.ref 489), kwdefaults := .none, doc := .none, pyModule := (.str zenum 1156), annotations := none, code := (.ref 495), closureTuple := .none, builtins := 0 }), #[]⟩
def f497 (P : Params) : Obj := ⟨(.type "tuple"), none, (.seq #[] 0), #[]⟩
def f498 (P : Params) : Obj := ⟨.none, none, (.fields #[]), #[]⟩
def f499 (P : Params) : Obj := ⟨(.type "tuple"), none, (.seq #[(.str zself 1665), (.str zinstance 1666), (.str zvalue 1667)] 0), #[]⟩
def f500 (P : Params) : Obj := ⟨(.type "tuple"), none, (.seq #[] 0), #[]⟩
def f501 (P : Params) : Obj := ⟨.none, none, (.func { name := z__set__, qualname := y191477317, params := fArgs [7, 2], body := .stmts (fBody [7, 2]), scope := fScope [7, 2], globals := 0, closure := [], defaults := .none, kwdefaults := .none, doc := .none, pyModule := .none, annotations := none, code := .none, closureTuple := .none, builtins := 0 }), #[]⟩
def f502 (P : Params) : Obj := ⟨(.type "code"), none, (.fields #[(.str z__set__ 1662), (.str y191477317 1663), (.str y337536729 1664), (.int 234 0), (.int 3 0), (.int 0 0), (.int 0 0), (.int 3 0), (.ref 497), (.bool true), (.int 492 0), (.ref 498), .none, (.ref 499), (.ref 500), (.ref 501), (.int 1668 0), (.int 234 0), (.str y337536729 1669)]), #[]⟩
def f503 (P : Params) : Obj := ⟨(.type "function"), none, (.func { name := z__set__, qualname := y191477317, params := fArgs [7, 2], body := .stmts (fBody [7, 2]), scope := fScope [7, 2], globals := 3, closure := [], defaults := .none, kwdefaults := .none, doc := .none, pyModule := (.str zenum 1156), annotations := none, code := (.ref 502), closureTuple := .none, builtins := 0 }), #[]⟩
def f504 (P : Params) : Obj := ⟨(.type "tuple"), none, (.seq #[] 0), #[]⟩
def f505 (P : Params) : Obj := ⟨.none, none, (.fields #[]), #[]⟩
def f506 (P : Params) : Obj := ⟨(.type "tuple"), none, (.seq #[(.str zself 1674), (.str zinstance 1675)] 0), #[]⟩
def f507 (P : Params) : Obj := ⟨(.type "tuple"), none, (.seq #[] 0), #[]⟩
def f508 (P : Params) : Obj := ⟨.none, none, (.func { name := z__delete__, qualname := y129796739, params := fArgs [7, 3], body := .stmts (fBody [7, 3]), scope := fScope [7, 3], globals := 0, closure := [], defaults := .none, kwdefaults := .none, doc := .none, pyModule := .none, annotations := none, code := .none, closureTuple := .none, builtins := 0 }), #[]⟩
def f509 (P : Params) : Obj := ⟨(.type "code"), none, (.fields #[(.str z__delete__ 1671), (.str y129796739 1672), (.str y337536729 1673), (.int 237 0), (.int 2 0), (.int 0 0), (.int 0 0), (.int 3 0), (.ref 504), (.bool true), (.int 492 0), (.ref 505), .none, (.ref 506), (.ref 507), (.ref 508), (.int 1676 0), (.int 237 0), (.str y337536729 1677)]), #[]⟩
def f510 (P : Params) : Obj := ⟨(.type "function"), none, (.func { name := z__delete__, qualname := y129796739, params := fArgs [7, 3], body := .stmts (fBody [7, 3]), scope := fScope [7, 3], globals := 3, closure := [], defaults := .none, kwdefaults := .none, doc := .none, pyModule := (.str zenum 1156), annotations := none, code := (.ref 509), closureTuple := .none, builtins := 0 }), #[]⟩
def f511 (P : Params) : Obj := ⟨(.type "tuple"), none, (.seq #[(.str zname 1679)] 0), #[]⟩
def f512 (P : Params) : Obj := ⟨(.type "dict"), none, (.dict #[⟨PyData.keyHash P z__module__, (.str z__module__ 1640), (.str zenum 1156)⟩, ⟨PyData.keyHash P z__firstlineno__, (.str z__firstlineno__ 1644), (.int 222 1643)⟩, ⟨PyData.keyHash P z__init__, (.str z__init__ 1652), (.ref 488)⟩, ⟨PyData.keyHash P z__get__, (.str z__get__ 1661), (.ref 496)⟩, ⟨PyData.keyHash P z__set__, (.str z__set__ 1670), (.ref 503)⟩, ⟨PyData.keyHash P z__delete__, (.str z__delete__ 1678), (.ref 510)⟩, ⟨PyData.keyHash P z__static_attributes__, (.str z__static_attributes__ 1680), (.ref 511)⟩, ⟨PyData.keyHash P z__dict__, (.str z__dict__ 1682), (.ref 514)⟩, ⟨PyData.keyHash P z__weakref__, (.str z__weakref__ 1684), (.ref 515)⟩, ⟨PyData.keyHash P z__doc__, (.str z__doc__ 1685), .none⟩] 4), #[]⟩
def f513 (P : Params) : Obj := ⟨(.type "type"), none, (.cls { name := z_EnumField, bases := [(.type "object")], mro := [(.ref 513), (.type "object")], ns := 512, qualname := z_EnumField, hasDict := true, slotNames := [], subclasses := [], abstract := false, collection := none, hasDel := false }), #[none, none, (some (.str z_EnumField 1633)), (some (.str z_EnumField 1641)), (some (.builtin "object.__new__")), (some (.bool true))]⟩
def f514 (P : Params) : Obj := ⟨(.type "getset_descriptor"), none, (.fields #[(.str z__dict__ 1681), (.ref 513), (.builtin "function.__dict__"), (.builtin "function.__dict__#set")]), #[]⟩
def f515 (P : Params) : Obj := ⟨(.type "getset_descriptor"), none, (.fields #[(.str z__weakref__ 1683), (.ref 513), (.builtin "ExceptionGroup.__weakref__"), .none]), #[]⟩
def f516 (P : Params) : Obj := ⟨(.type "super"), none, (.fields #[(.ref 513), (.ref 513), (.ref 513)]), #[]⟩
def f517 (P : Params) : Obj := ⟨(.type "builtin_function_or_method"), none, (.fields #[(.builtin "object.__init_subclass__"), (.ref 513)]), #[]⟩
def f518 (P : Params) : Obj := ⟨(.type "tuple"), none, (.seq #[] 0), #[]⟩
def f519 (P : Params) : Obj := ⟨(.type "builtin_function_or_method"), none, (.fields #[(.builtin "type.__prepare__"), (.ref 471)]), #[]⟩
def f520 (P : Params) : Obj := ⟨(.type "dict"), none, (.dict #[⟨PyData.keyHash P z__module__, (.str z__module__ 1695), (.str zenum 1700)⟩, ⟨PyData.keyHash P z__qualname__, (.str z__qualname__ 1697), (.str zEnum 1696)⟩, ⟨PyData.keyHash P z__firstlineno__, (.str z__firstlineno__ 1699), (.int 239 1698)⟩, ⟨PyData.keyHash P z_written_out_, (.str z_written_out_ 1703), (.int 4 1702)⟩, ⟨PyData.keyHash P z_member_names_, (.str z_member_names_ 1704), (.ref 525)⟩, ⟨PyData.keyHash P z_member_map_, (.str z_member_map_ 1705), (.ref 526)⟩, ⟨PyData.keyHash P z_value2member_map_, (.str z_value2member_map_ 1706), (.ref 527)⟩, ⟨PyData.keyHash P z_hashable_values_, (.str z_hashable_values_ 1707), (.ref 528)⟩, ⟨PyData.keyHash P z_unhashable_values_, (.str z_unhashable_values_ 1708), (.ref 529)⟩, ⟨PyData.keyHash P z_unhashable_values_map_, (.str z_unhashable_values_map_ 1709), (.ref 530)⟩, ⟨PyData.keyHash P z_members_, (.str z_members_ 1710), (.ref 531)⟩, ⟨PyData.keyHash P z_value_repr_, (.str z_value_repr_ 1711), .none⟩, ⟨PyData.keyHash P z_is_flag_, (.str z_is_flag_ 1712), (.bool false)⟩, ⟨PyData.keyHash P z_making_, (.str z_making_ 1713), (.bool false)⟩, ⟨PyData.keyHash P z__new__, (.str z__new__ 1728), (.ref 538)⟩, ⟨PyData.keyHash P z_missing_, (.str z_missing_ 1748), (.ref 547)⟩, ⟨PyData.keyHash P z__init__, (.str z__init__ 1757), (.ref 555)⟩, ⟨PyData.keyHash P z__repr__, (.str z__repr__ 1765), (.ref 562)⟩, ⟨PyData.keyHash P z__str__, (.str z__str__ 1772), (.ref 569)⟩, ⟨PyData.keyHash P z__format__, (.str z__format__ 1780), (.ref 576)⟩, ⟨PyData.keyHash P z__hash__, (.str z__hash__ 1787), (.ref 583)⟩, ⟨PyData.keyHash P z__reduce_ex__, (.str z__reduce_ex__ 1795), (.ref 590)⟩, ⟨PyData.keyHash P z__deepcopy__, (.str z__deepcopy__ 1803), (.ref 597)⟩, ⟨PyData.keyHash P z__copy__, (.str z__copy__ 1810), (.ref 604)⟩, ⟨PyData.keyHash P z__dir__, (.str z__dir__ 1817), (.ref 611)⟩, ⟨PyData.keyHash P z_add_alias_, (.str z_add_alias_ 1825), (.ref 618)⟩, ⟨PyData.keyHash P z_add_value_alias_, (.str z_add_value_alias_ 1833), (.ref 625)⟩, ⟨PyData.keyHash P zname, (.str zname 1839), (.ref 627)⟩, ⟨PyData.keyHash P zvalue, (.str zvalue 1845), (.ref 630)⟩, ⟨PyData.keyHash P z__static_attributes__, (.str z__static_attributes__ 1846), (.ref 632)⟩] 30), #[]⟩
def f521 (P : Params) : Obj := ⟨(.type "tuple"), none, (.seq #[] 0), #[]⟩
def f522 (P : Params) : Obj := ⟨.none, none, (.fields #[(.int 253 0), (.int 4 0), (.ref 537), (.int 294 0), (.int 4 0), (.ref 544), (.int 297 0), (.int 4 0), (.ref 554), (.int 300 0), (.int 4 0), (.ref 561), (.int 304 0), (.int 4 0), (.ref 568), (.int 307 0), (.int 4 0), (.ref 575), (.int 310 0), (.int 4 0), (.ref 582), (.int 313 0), (.int 4 0), (.ref 589), (.int 316 0), (.int 4 0), (.ref 596), (.int 319 0), (.int 4 0), (.ref 603), (.int 322 0), (.int 4 0), (.ref 610), (.int 325 0), (.int 4 0), (.ref 617), (.int 328 0), (.int 4 0), (.ref 624)]), #[]⟩
def f523 (P : Params) : Obj := ⟨(.type "code"), none, (.fields #[(.str zEnum 1690), (.str zEnum 1691), (.str y337536729 1692), (.int 239 0), (.int 0 0), (.int 0 0), (.int 0 0), (.int 0 0), (.ref 521), (.bool false), (.int 492 0), (.ref 522), .none, .none, .none, .none, (.int 1693 0), (.int 239 0), (.str y337536729 1694)]), #[]⟩
def f524 (P : Params) : Obj := ⟨(.type "frame"), none, .plain, #[(some (.ref 523)), (some (.ref 3)), (some (.ref 520)), none, (some (.str zenum 1156)), none, (some (.ref 0))]⟩
def f525 (P : Params) : Obj := ⟨(.type "list"), none, (.seq #[] 0), #[]⟩
def f526 (P : Params) : Obj := ⟨(.type "dict"), none, (.dict #[] 0), #[]⟩
def f527 (P : Params) : Obj := ⟨(.type "dict"), none, (.dict #[] 0), #[]⟩
def f528 (P : Params) : Obj := ⟨(.type "list"), none, (.seq #[] 0), #[]⟩
def f529 (P : Params) : Obj := ⟨(.type "list"), none, (.seq #[] 0), #[]⟩
def f530 (P : Params) : Obj := ⟨(.type "dict"), none, (.dict #[] 0), #[]⟩
def f531 (P : Params) : Obj := ⟨(.type "tuple"), none, (.seq #[] 0), #[]⟩
def f532 (P : Params) : Obj := ⟨(.type "tuple"), none, (.seq #[] 0), #[]⟩
def f533 (P : Params) : Obj := ⟨.none, none, (.fields #[]), #[]⟩
def f534 (P : Params) : Obj := ⟨(.type "tuple"), none, (.seq #[(.str zcls 1717), (.str zvalue 1718), (.str zname 1719), (.str zunhashable_values 1720), (.str zmember 1721), (.str zexc 1722), (.str zresult 1723), (.str ze 1724), (.str zve_exc 1725)] 0), #[]⟩
def f535 (P : Params) : Obj := ⟨(.type "tuple"), none, (.seq #[] 0), #[]⟩
def f536 (P : Params) : Obj := ⟨.none, none, (.func { name := z__new__, qualname := y12389324, params := fArgs [8, 12], body := .stmts (fBody [8, 12]), scope := fScope [8, 12], globals := 0, closure := [], defaults := .none, kwdefaults := .none, doc := .none, pyModule := .none, annotations := none, code := .none, closureTuple := .none, builtins := 0 }), #[]⟩
def f537 (P : Params) : Obj := ⟨(.type "code"), none, (.fields #[(.str z__new__ 1714), (.str y12389324 1715), (.str y337536729 1716), (.int 253 0), (.int 2 0), (.int 0 0), (.int 0 0), (.int 3 0), (.ref 532), (.bool true), (.int 492 0), (.ref 533), .none, (.ref 534), (.ref 535), (.ref 536), (.int 1726 0), (.int 253 0), (.str y337536729 1727)]), #[]⟩
def f538 (P : Params) : Obj := ⟨(.type "function"), none, (.func { name := z__new__, qualname := y12389324, params := fArgs [8, 12], body := .stmts (fBody [8, 12]), scope := fScope [8, 12], globals := 3, closure := [], defaults := .none, kwdefaults := .none, doc := .none, pyModule := (.str zenum 1156), annotations := none, code := (.ref 537), closureTuple := .none, builtins := 0 }), #[]⟩
def f539 (P : Params) : Obj := ⟨(.type "tuple"), none, (.seq #[] 0), #[]⟩
def f540 (P : Params) : Obj := ⟨.none, none, (.fields #[]), #[]⟩
def f541 (P : Params) : Obj := ⟨(.type "tuple"), none, (.seq #[(.str zcls 1732), (.str zvalue 1733)] 0), #[]⟩
def f542 (P : Params) : Obj := ⟨(.type "tuple"), none, (.seq #[] 0), #[]⟩
def f543 (P : Params) : Obj := ⟨.none, none, (.func { name := z_missing_, qualname := y657592210, params := fArgs [8, 13], body := .stmts (fBody [8, 13]), scope := fScope [8, 13], globals := 0, closure := [], defaults := .none, kwdefaults := .none, doc := .none, pyModule := .none, annotations := none, code := .none, closureTuple := .none, builtins := 0 }), #[]⟩
def f544 (P : Params) : Obj := ⟨(.type "code"), none, (.fields #[(.str z_missing_ 1729), (.str y657592210 1730), (.str y337536729 1731), (.int 293 0), (.int 2 0), (.int 0 0), (.int 0 0), (.int 3 0), (.ref 539), (.bool true), (.int 492 0), (.ref 540), .none, (.ref 541), (.ref 542), (.ref 543), (.int 1734 0), (.int 293 0), (.str y337536729 1735)]), #[]⟩
def f545 (P : Params) : Obj := ⟨(.type "function"), none, (.func { name := z_missing_, qualname := y657592210, params := fArgs [8, 13], body := .stmts (fBody [8, 13]), scope := fScope [8, 13], globals := 3, closure := [], defaults := .none, kwdefaults := .none, doc := .none, pyModule := (.str zenum 1156), annotations := (some 548), code := (.ref 544), closureTuple := .none, builtins := 0 }), #[]⟩
def f546 (P : Params) : Obj := ⟨(.type "dict"), none, (.dict #[⟨PyData.keyHash P z__module__, (.str z__module__ 1737), (.str zenum 1156)⟩, ⟨PyData.keyHash P z__name__, (.str z__name__ 1740), (.str z_missing_ 1739)⟩, ⟨PyData.keyHash P z__qualname__, (.str z__qualname__ 1743), (.str y657592210 1742)⟩, ⟨PyData.keyHash P z__doc__, (.str z__doc__ 1745), .none⟩, ⟨PyData.keyHash P z__annotations__, (.str z__annotations__ 1747), (.ref 548)⟩] 5), #[]⟩
def f547 (P : Params) : Obj := ⟨(.type "classmethod"), (some 546), (.fields #[(.ref 545), (.bool false)]), #[]⟩
def f548 (P : Params) : Obj := ⟨(.type "dict"), none, (.dict #[] 0), #[]⟩
def f549 (P : Params) : Obj := ⟨(.type "tuple"), none, (.seq #[] 0), #[]⟩
def f550 (P : Params) : Obj := ⟨.none, none, (.fields #[]), #[]⟩
def f551 (P : Params) : Obj := ⟨(.type "tuple"), none, (.seq #[(.str zself 1752), (.str zargs 1753), (.str zkwds 1754)] 0), #[]⟩
def f552 (P : Params) : Obj := ⟨(.type "tuple"), none, (.seq #[] 0), #[]⟩
def f553 (P : Params) : Obj := ⟨.none, none, (.func { name := z__init__, qualname := y169259725, params := fArgs [8, 14], body := .stmts (fBody [8, 14]), scope := fScope [8, 14], globals := 0, closure := [], defaults := .none, kwdefaults := .none, doc := .none, pyModule := .none, annotations := none, code := .none, closureTuple := .none, builtins := 0 }), #[]⟩
def f554 (P : Params) : Obj := ⟨(.type "code"), none, (.fields #[(.str z__init__ 1749), (.str y169259725 1750), (.str y337536729 1751), (.int 297 0), (.int 1 0), (.int 0 0), (.int 0 0), (.int 15 0), (.ref 549), (.bool true), (.int 492 0), (.ref 550), .none, (.ref 551), (.ref 552), (.ref 553), (.int 1755 0), (.int 297 0), (.str y337536729 1756)]), #[]⟩
def f555 (P : Params) : Obj := ⟨(.type "function"), none, (.func { name := z__init__, qualname := y169259725, params := fArgs [8, 14], body := .stmts (fBody [8, 14]), scope := fScope [8, 14], globals := 3, closure := [], defaults := .none, kwdefaults := .none, doc := .none, pyModule := (.str zenum 1156), annotations := none, code := (.ref 554), closureTuple := .none, builtins := 0 }), #[]⟩
def f556 (P : Params) : Obj := ⟨(.type "tuple"), none, (.seq #[] 0), #[]⟩
def f557 (P : Params) : Obj := ⟨.none, none, (.fields #[]), #[]⟩
def f558 (P : Params) : Obj := ⟨(.type "tuple"), none, (.seq #[(.str zself 1761), (.str zv_repr 1762)] 0), #[]⟩
def f559 (P : Params) : Obj := ⟨(.type "tuple"), none, (.seq #[] 0), #[]⟩
def f560 (P : Params) : Obj := ⟨.none, none, (.func { name := z__repr__, qualname := y331143345, params := fArgs [8, 15], body := .stmts (fBody [8, 15]), scope := fScope [8, 15], globals := 0, closure := [], defaults := .none, kwdefaults := .none, doc := .none, pyModule := .none, annotations := none, code := .none, closureTuple := .none, builtins := 0 }), #[]⟩
def f561 (P : Params) : Obj := ⟨(.type "code"), none, (.fields #[(.str z__repr__ 1758), (.str y331143345 1759), (.str y337536729 1760), (.int 300 0), (.int 1 0), (.int 0 0), (.int 0 0), (.int 3 0), (.ref 556), (.bool true), (.int 492 0), (.ref 557), .none, (.ref 558), (.ref 559), (.ref 560), (.int 1763 0), (.int 300 0), (.str y337536729 1764)]), #[]⟩
def f562 (P : Params) : Obj := ⟨(.type "function"), none, (.func { name := z__repr__, qualname := y331143345, params := fArgs [8, 15], body := .stmts (fBody [8, 15]), scope := fScope [8, 15], globals := 3, closure := [], defaults := .none, kwdefaults := .none, doc := .none, pyModule := (.str zenum 1156), annotations := none, code := (.ref 561), closureTuple := .none, builtins := 0 }), #[]⟩
def f563 (P : Params) : Obj := ⟨(.type "tuple"), none, (.seq #[] 0), #[]⟩
def f564 (P : Params) : Obj := ⟨.none, none, (.fields #[]), #[]⟩
def f565 (P : Params) : Obj := ⟨(.type "tuple"), none, (.seq #[(.str zself 1769)] 0), #[]⟩
def f566 (P : Params) : Obj := ⟨(.type "tuple"), none, (.seq #[] 0), #[]⟩
def f567 (P : Params) : Obj := ⟨.none, none, (.func { name := z__str__, qualname := y534186974, params := fArgs [8, 16], body := .stmts (fBody [8, 16]), scope := fScope [8, 16], globals := 0, closure := [], defaults := .none, kwdefaults := .none, doc := .none, pyModule := .none, annotations := none, code := .none, closureTuple := .none, builtins := 0 }), #[]⟩
def f568 (P : Params) : Obj := ⟨(.type "code"), none, (.fields #[(.str z__str__ 1766), (.str y534186974 1767), (.str y337536729 1768), (.int 304 0), (.int 1 0), (.int 0 0), (.int 0 0), (.int 3 0), (.ref 563), (.bool true), (.int 492 0), (.ref 564), .none, (.ref 565), (.ref 566), (.ref 567), (.int 1770 0), (.int 304 0), (.str y337536729 1771)]), #[]⟩
def f569 (P : Params) : Obj := ⟨(.type "function"), none, (.func { name := z__str__, qualname := y534186974, params := fArgs [8, 16], body := .stmts (fBody [8, 16]), scope := fScope [8, 16], globals := 3, closure := [], defaults := .none, kwdefaults := .none, doc := .none, pyModule := (.str zenum 1156), annotations := none, code := (.ref 568), closureTuple := .none, builtins := 0 }), #[]⟩
def f570 (P : Params) : Obj := ⟨(.type "tuple"), none, (.seq #[] 0), #[]⟩
def f571 (P : Params) : Obj := ⟨.none, none, (.fields #[]), #[]⟩
def f572 (P : Params) : Obj := ⟨(.type "tuple"), none, (.seq #[(.str zself 1776), (.str zformat_spec 1777)] 0), #[]⟩
def f573 (P : Params) : Obj := ⟨(.type "tuple"), none, (.seq #[] 0), #[]⟩
def f574 (P : Params) : Obj := ⟨.none, none, (.func { name := z__format__, qualname := y11182610, params := fArgs [8, 17], body := .stmts (fBody [8, 17]), scope := fScope [8, 17], globals := 0, closure := [], defaults := .none, kwdefaults := .none, doc := .none, pyModule := .none, annotations := none, code := .none, closureTuple := .none, builtins := 0 }), #[]⟩
def f575 (P : Params) : Obj := ⟨(.type "code"), none, (.fields #[(.str z__format__ 1773), (.str y11182610 1774), (.str y337536729 1775), (.int 307 0), (.int 2 0), (.int 0 0), (.int 0 0), (.int 3 0), (.ref 570), (.bool true), (.int 492 0), (.ref 571), .none, (.ref 572), (.ref 573), (.ref 574), (.int 1778 0), (.int 307 0), (.str y337536729 1779)]), #[]⟩
def f576 (P : Params) : Obj := ⟨(.type "function"), none, (.func { name := z__format__, qualname := y11182610, params := fArgs [8, 17], body := .stmts (fBody [8, 17]), scope := fScope [8, 17], globals := 3, closure := [], defaults := .none, kwdefaults := .none, doc := .none, pyModule := (.str zenum 1156), annotations := none, code := (.ref 575), closureTuple := .none, builtins := 0 }), #[]⟩
def f577 (P : Params) : Obj := ⟨(.type "tuple"), none, (.seq #[] 0), #[]⟩
def f578 (P : Params) : Obj := ⟨.none, none, (.fields #[]), #[]⟩
def f579 (P : Params) : Obj := ⟨(.type "tuple"), none, (.seq #[(.str zself 1784)] 0), #[]⟩
def f580 (P : Params) : Obj := ⟨(.type "tuple"), none, (.seq #[] 0), #[]⟩
def f581 (P : Params) : Obj := ⟨.none, none, (.func { name := z__hash__, qualname := y854960212, params := fArgs [8, 18], body := .stmts (fBody [8, 18]), scope := fScope [8, 18], globals := 0, closure := [], defaults := .none, kwdefaults := .none, doc := .none, pyModule := .none, annotations := none, code := .none, closureTuple := .none, builtins := 0 }), #[]⟩
def f582 (P : Params) : Obj := ⟨(.type "code"), none, (.fields #[(.str z__hash__ 1781), (.str y854960212 1782), (.str y337536729 1783), (.int 310 0), (.int 1 0), (.int 0 0), (.int 0 0), (.int 3 0), (.ref 577), (.bool true), (.int 492 0), (.ref 578), .none, (.ref 579), (.ref 580), (.ref 581), (.int 1785 0), (.int 310 0), (.str y337536729 1786)]), #[]⟩
def f583 (P : Params) : Obj := ⟨(.type "function"), none, (.func { name := z__hash__, qualname := y854960212, params := fArgs [8, 18], body := .stmts (fBody [8, 18]), scope := fScope [8, 18], globals := 3, closure := [], defaults := .none, kwdefaults := .none, doc := .none, pyModule := (.str zenum 1156), annotations := none, code := (.ref 582), closureTuple := .none, builtins := 0 }), #[]⟩
def f584 (P : Params) : Obj := ⟨(.type "tuple"), none, (.seq #[] 0), #[]⟩
def f585 (P : Params) : Obj := ⟨.none, none, (.fields #[]), #[]⟩
def f586 (P : Params) : Obj := ⟨(.type "tuple"), none, (.seq #[(.str zself 1791), (.str zproto 1792)] 0), #[]⟩
def f587 (P : Params) : Obj := ⟨(.type "tuple"), none, (.seq #[] 0), #[]⟩
def f588 (P : Params) : Obj := ⟨.none, none, (.func { name := z__reduce_ex__, qualname := y677251748, params := fArgs [8, 19], body := .stmts (fBody [8, 19]), scope := fScope [8, 19], globals := 0, closure := [], defaults := .none, kwdefaults := .none, doc := .none, pyModule := .none, annotations := none, code := .none, closureTuple := .none, builtins := 0 }), #[]⟩
def f589 (P : Params) : Obj := ⟨(.type "code"), none, (.fields #[(.str z__reduce_ex__ 1788), (.str y677251748 1789), (.str y337536729 1790), (.int 313 0), (.int 2 0), (.int 0 0), (.int 0 0), (.int 3 0), (.ref 584), (.bool true), (.int 492 0), (.ref 585), .none, (.ref 586), (.ref 587), (.ref 588), (.int 1793 0), (.int 313 0), (.str y337536729 1794)]), #[]⟩
def f590 (P : Params) : Obj := ⟨(.type "function"), none, (.func { name := z__reduce_ex__, qualname := y677251748, params := fArgs [8, 19], body := .stmts (fBody [8, 19]), scope := fScope [8, 19], globals := 3, closure := [], defaults := .none, kwdefaults := .none, doc := .none, pyModule := (.str zenum 1156), annotations := none, code := (.ref 589), closureTuple := .none, builtins := 0 }), #[]⟩
def f591 (P : Params) : Obj := ⟨(.type "tuple"), none, (.seq #[] 0), #[]⟩
def f592 (P : Params) : Obj := ⟨.none, none, (.fields #[]), #[]⟩
def f593 (P : Params) : Obj := ⟨(.type "tuple"), none, (.seq #[(.str zself 1799), (.str zmemo 1800)] 0), #[]⟩
def f594 (P : Params) : Obj := ⟨(.type "tuple"), none, (.seq #[] 0), #[]⟩
def f595 (P : Params) : Obj := ⟨.none, none, (.func { name := z__deepcopy__, qualname := y458885963, params := fArgs [8, 20], body := .stmts (fBody [8, 20]), scope := fScope [8, 20], globals := 0, closure := [], defaults := .none, kwdefaults := .none, doc := .none, pyModule := .none, annotations := none, code := .none, closureTuple := .none, builtins := 0 }), #[]⟩
def f596 (P : Params) : Obj := ⟨(.type "code"), none, (.fields #[(.str z__deepcopy__ 1796), (.str y458885963 1797), (.str y337536729 1798), (.int 316 0), (.int 2 0), (.int 0 0), (.int 0 0), (.int 3 0), (.ref 591), (.bool true), (.int 492 0), (.ref 592), .none, (.ref 593), (.ref 594), (.ref 595), (.int 1801 0), (.int 316 0), (.str y337536729 1802)]), #[]⟩
def f597 (P : Params) : Obj := ⟨(.type "function"), none, (.func { name := z__deepcopy__, qualname := y458885963, params := fArgs [8, 20], body := .stmts (fBody [8, 20]), scope := fScope [8, 20], globals := 3, closure := [], defaults := .none, kwdefaults := .none, doc := .none, pyModule := (.str zenum 1156), annotations := none, code := (.ref 596), closureTuple := .none, builtins := 0 }), #[]⟩
def f598 (P : Params) : Obj := ⟨(.type "tuple"), none, (.seq #[] 0), #[]⟩
def f599 (P : Params) : Obj := ⟨.none, none, (.fields #[]), #[]⟩
def f600 (P : Params) : Obj := ⟨(.type "tuple"), none, (.seq #[(.str zself 1807)] 0), #[]⟩
def f601 (P : Params) : Obj := ⟨(.type "tuple"), none, (.seq #[] 0), #[]⟩
def f602 (P : Params) : Obj := ⟨.none, none, (.func { name := z__copy__, qualname := y316481652, params := fArgs [8, 21], body := .stmts (fBody [8, 21]), scope := fScope [8, 21], globals := 0, closure := [], defaults := .none, kwdefaults := .none, doc := .none, pyModule := .none, annotations := none, code := .none, closureTuple := .none, builtins := 0 }), #[]⟩
def f603 (P : Params) : Obj := ⟨(.type "code"), none, (.fields #[(.str z__copy__ 1804), (.str y316481652 1805), (.str y337536729 1806), (.int 319 0), (.int 1 0), (.int 0 0), (.int 0 0), (.int 3 0), (.ref 598), (.bool true), (.int 492 0), (.ref 599), .none, (.ref 600), (.ref 601), (.ref 602), (.int 1808 0), (.int 319 0), (.str y337536729 1809)]), #[]⟩
def f604 (P : Params) : Obj := ⟨(.type "function"), none, (.func { name := z__copy__, qualname := y316481652, params := fArgs [8, 21], body := .stmts (fBody [8, 21]), scope := fScope [8, 21], globals := 3, closure := [], defaults := .none, kwdefaults := .none, doc := .none, pyModule := (.str zenum 1156), annotations := none, code := (.ref 603), closureTuple := .none, builtins := 0 }), #[]⟩
def f605 (P : Params) : Obj := ⟨(.type "tuple"), none, (.seq #[] 0), #[]⟩
def f606 (P : Params) : Obj := ⟨.none, none, (.fields #[]), #[]⟩
def f607 (P : Params) : Obj := ⟨(.type "tuple"), none, (.seq #[(.str zself 1814)] 0), #[]⟩
def f608 (P : Params) : Obj := ⟨(.type "tuple"), none, (.seq #[] 0), #[]⟩
def f609 (P : Params) : Obj := ⟨.none, none, (.func { name := z__dir__, qualname := y953078789, params := fArgs [8, 22], body := .stmts (fBody [8, 22]), scope := fScope [8, 22], globals := 0, closure := [], defaults := .none, kwdefaults := .none, doc := .none, pyModule := .none, annotations := none, code := .none, closureTuple := .none, builtins := 0 }), #[]⟩
def f610 (P : Params) : Obj := ⟨(.type "code"), none, (.fields #[(.str z__dir__ 1811), (.str y953078789 1812), (.str y337536729 1813), (.int 322 0), (.int 1 0), (.int 0 0), (.int 0 0), (.int 3 0), (.ref 605), (.bool true), (.int 492 0), (.ref 606), .none, (.ref 607), (.ref 608), (.ref 609), (.int 1815 0), (.int 322 0), (.str y337536729 1816)]), #[]⟩
def f611 (P : Params) : Obj := ⟨(.type "function"), none, (.func { name := z__dir__, qualname := y953078789, params := fArgs [8, 22], body := .stmts (fBody [8, 22]), scope := fScope [8, 22], globals := 3, closure := [], defaults := .none, kwdefaults := .none, doc := .none, pyModule := (.str zenum 1156), annotations := none, code := (.ref 610), closureTuple := .none, builtins := 0 }), #[]⟩
def f612 (P : Params) : Obj := ⟨(.type "tuple"), none, (.seq #[] 0), #[]⟩
def f613 (P : Params) : Obj := ⟨.none, none, (.fields #[]), #[]⟩
def f614 (P : Params) : Obj := ⟨(.type "tuple"), none, (.seq #[(.str zself 1821), (.str zname 1822)] 0), #[]⟩
def f615 (P : Params) : Obj := ⟨(.type "tuple"), none, (.seq #[] 0), #[]⟩
def f616 (P : Params) : Obj := ⟨.none, none, (.func { name := z_add_alias_, qualname := y68098526, params := fArgs [8, 23], body := .stmts (fBody [8, 23]), scope := fScope [8, 23], globals := 0, closure := [], defaults := .none, kwdefaults := .none, doc := .none, pyModule := .none, annotations := none, code := .none, closureTuple := .none, builtins := 0 }), #[]⟩
def f617 (P : Params) : Obj := ⟨(.type "code"), none, (.fields #[(.str z_add_alias_ 1818), (.str y68098526 1819), (.str y337536729 1820), (.int 325 0), (.int 2 0), (.int 0 0), (.int 0 0), (.int 3 0), (.ref 612), (.bool true), (.int 492 0), (.ref 613), .none, (.ref 614), (.ref 615), (.ref 616), (.int 1823 0), (.int 325 0), (.str y337536729 1824)]), #[]⟩
def f618 (P : Params) : Obj := ⟨(.type "function"), none, (.func { name := z_add_alias_, qualname := y68098526, params := fArgs [8, 23], body := .stmts (fBody [8, 23]), scope := fScope [8, 23], globals := 3, closure := [], defaults := .none, kwdefaults := .none, doc := .none, pyModule := (.str zenum 1156), annotations := none, code := (.ref 617), closureTuple := .none, builtins := 0 }), #[]⟩
def f619 (P : Params) : Obj := ⟨(.type "tuple"), none, (.seq #[] 0), #[]⟩
def f620 (P : Params) : Obj := ⟨.none, none, (.fields #[]), #[]⟩
def f621 (P : Params) : Obj := ⟨(.type "tuple"), none, (.seq #[(.str zself 1829), (.str zvalue 1830)] 0), #[]⟩
def f622 (P : Params) : Obj := ⟨(.type "tuple"), none, (.seq #[] 0), #[]⟩
def f623 (P : Params) : Obj := ⟨.none, none, (.func { name := z_add_value_alias_, qualname := y632529649, params := fArgs [8, 24], body := .stmts (fBody [8, 24]), scope := fScope [8, 24], globals := 0, closure := [], defaults := .none, kwdefaults := .none, doc := .none, pyModule := .none, annotations := none, code := .none, closureTuple := .none, builtins := 0 }), #[]⟩
def f624 (P : Params) : Obj := ⟨(.type "code"), none, (.fields #[(.str z_add_value_alias_ 1826), (.str y632529649 1827), (.str y337536729 1828), (.int 328 0), (.int 2 0), (.int 0 0), (.int 0 0), (.int 3 0), (.ref 619), (.bool true), (.int 492 0), (.ref 620), .none, (.ref 621), (.ref 622), (.ref 623), (.int 1831 0), (.int 328 0), (.str y337536729 1832)]), #[]⟩
def f625 (P : Params) : Obj := ⟨(.type "function"), none, (.func { name := z_add_value_alias_, qualname := y632529649, params := fArgs [8, 24], body := .stmts (fBody [8, 24]), scope := fScope [8, 24], globals := 3, closure := [], defaults := .none, kwdefaults := .none, doc := .none, pyModule := (.str zenum 1156), annotations := none, code := (.ref 624), closureTuple := .none, builtins := 0 }), #[]⟩
def f626 (P : Params) : Obj := ⟨(.type "dict"), none, (.dict #[⟨PyData.keyHash P zname, (.str zname 1838), (.str zname 1834)⟩] 1), #[]⟩
def f627 (P : Params) : Obj := ⟨(.ref 513), (some 626), .plain, #[]⟩
def f628 (P : Params) : Obj := ⟨(.type "frame"), none, (.dict #[⟨PyData.keyHash P zself, (.str zself 1835), (.ref 627)⟩, ⟨PyData.keyHash P zname, (.str zname 1836), (.str zname 1834)⟩] 2), #[]⟩
def f629 (P : Params) : Obj := ⟨(.type "dict"), none, (.dict #[⟨PyData.keyHash P zname, (.str zname 1844), (.str zvalue 1840)⟩] 1), #[]⟩
def f630 (P : Params) : Obj := ⟨(.ref 513), (some 629), .plain, #[]⟩
def f631 (P : Params) : Obj := ⟨(.type "frame"), none, (.dict #[⟨PyData.keyHash P zself, (.str zself 1841), (.ref 630)⟩, ⟨PyData.keyHash P zname, (.str zname 1842), (.str zvalue 1840)⟩] 2), #[]⟩
def f632 (P : Params) : Obj := ⟨(.type "tuple"), none, (.seq #[] 0), #[]⟩
def f633 (P : Params) : Obj := ⟨(.type "dict"), none, (.dict #[] 0), #[]⟩
def f634 (P : Params) : Obj := ⟨(.type "frame"), none, (.dict #[⟨PyData.keyHash P zmetacls, (.str zmetacls 1848), (.ref 471)⟩, ⟨PyData.keyHash P zcls, (.str zcls 1849), (.str zEnum 1688)⟩, ⟨PyData.keyHash P zbases, (.str zbases 1850), (.ref 518)⟩, ⟨PyData.keyHash P zclassdict, (.str zclassdict 1851), (.ref 520)⟩, ⟨PyData.keyHash P zkwds, (.str zkwds 1852), (.ref 633)⟩, ⟨PyData.keyHash P zmade, (.str zmade 1863), (.ref 637)⟩] 6), #[]⟩
def f635 (P : Params) : Obj := ⟨(.type "super"), none, (.fields #[(.ref 471), (.ref 471), (.ref 471)]), #[]⟩
def f636 (P : Params) : Obj := ⟨(.type "dict"), none, (.dict #[⟨PyData.keyHash P z__module__, (.str z__module__ 1695), (.str zenum 1700)⟩, ⟨PyData.keyHash P z__firstlineno__, (.str z__firstlineno__ 1699), (.int 239 1698)⟩, ⟨PyData.keyHash P z_written_out_, (.str z_written_out_ 1703), (.int 0 1868)⟩, ⟨PyData.keyHash P z_member_names_, (.str z_member_names_ 1704), (.ref 525)⟩, ⟨PyData.keyHash P z_member_map_, (.str z_member_map_ 1705), (.ref 526)⟩, ⟨PyData.keyHash P z_value2member_map_, (.str z_value2member_map_ 1706), (.ref 527)⟩, ⟨PyData.keyHash P z_hashable_values_, (.str z_hashable_values_ 1707), (.ref 528)⟩, ⟨PyData.keyHash P z_unhashable_values_, (.str z_unhashable_values_ 1708), (.ref 529)⟩, ⟨PyData.keyHash P z_unhashable_values_map_, (.str z_unhashable_values_map_ 1709), (.ref 530)⟩, ⟨PyData.keyHash P z_members_, (.str z_members_ 1710), (.ref 531)⟩, ⟨PyData.keyHash P z_value_repr_, (.str z_value_repr_ 1711), .none⟩, ⟨PyData.keyHash P z_is_flag_, (.str z_is_flag_ 1712), (.bool false)⟩, ⟨PyData.keyHash P z_making_, (.str z_making_ 1713), (.bool false)⟩, ⟨PyData.keyHash P z__new__, (.str z__new__ 1728), (.ref 638)⟩, ⟨PyData.keyHash P z_missing_, (.str z_missing_ 1748), (.ref 547)⟩, ⟨PyData.keyHash P z__init__, (.str z__init__ 1757), (.ref 555)⟩, ⟨PyData.keyHash P z__repr__, (.str z__repr__ 1765), (.ref 562)⟩, ⟨PyData.keyHash P z__str__, (.str z__str__ 1772), (.ref 569)⟩, ⟨PyData.keyHash P z__format__, (.str z__format__ 1780), (.ref 576)⟩, ⟨PyData.keyHash P z__hash__, (.str z__hash__ 1787), (.ref 583)⟩, ⟨PyData.keyHash P z__reduce_ex__, (.str z__reduce_ex__ 1795), (.ref 590)⟩, ⟨PyData.keyHash P z__deepcopy__, (.str z__deepcopy__ 1803), (.ref 597)⟩, ⟨PyData.keyHash P z__copy__, (.str z__copy__ 1810), (.ref 604)⟩, ⟨PyData.keyHash P z__dir__, (.str z__dir__ 1817), (.ref 611)⟩, ⟨PyData.keyHash P z_add_alias_, (.str z_add_alias_ 1825), (.ref 618)⟩, ⟨PyData.keyHash P z_add_value_alias_, (.str z_add_value_alias_ 1833), (.ref 625)⟩, ⟨PyData.keyHash P zname, (.str zname 1839), (.ref 627)⟩, ⟨PyData.keyHash P zvalue, (.str zvalue 1845), (.ref 630)⟩, ⟨PyData.keyHash P z__static_attributes__, (.str z__static_attributes__ 1846), (.ref 632)⟩, ⟨PyData.keyHash P z__dict__, (.str z__dict__ 1858), (.ref 639)⟩, ⟨PyData.keyHash P z__weakref__, (.str z__weakref__ 1860), (.ref 640)⟩, ⟨PyData.keyHash P z__doc__, (.str z__doc__ 1861), .none⟩] 4), #[]⟩
def f637 (P : Params) : Obj := ⟨(.ref 471), none, (.cls { name := zEnum, bases := [(.type "object")], mro := [(.ref 637), (.type "object")], ns := 636, qualname := zEnum, hasDict := true, slotNames := [], subclasses := [(.ref 660)], abstract := false, collection := none, hasDel := false }), #[none, none, (some (.str zEnum 1688)), (some (.str zEnum 1696)), (some .none), (some (.bool true))]⟩
def f638 (P : Params) : Obj := ⟨(.type "staticmethod"), none, (.fields #[(.ref 538)]), #[]⟩
def f639 (P : Params) : Obj := ⟨(.type "getset_descriptor"), none, (.fields #[(.str z__dict__ 1857), (.ref 637), (.builtin "function.__dict__"), (.builtin "function.__dict__#set")]), #[]⟩
def f640 (P : Params) : Obj := ⟨(.type "getset_descriptor"), none, (.fields #[(.str z__weakref__ 1859), (.ref 637), (.builtin "ExceptionGroup.__weakref__"), .none]), #[]⟩
def f641 (P : Params) : Obj := ⟨(.type "super"), none, (.fields #[(.ref 637), (.ref 637), (.ref 637)]), #[]⟩
def f642 (P : Params) : Obj := ⟨(.type "builtin_function_or_method"), none, (.fields #[(.builtin "object.__init_subclass__"), (.ref 637)]), #[]⟩
def f643 (P : Params) : Obj := ⟨(.type "method"), none, (.fields #[(.ref 461), (.ref 637)]), #[]⟩
def f644 (P : Params) : Obj := ⟨(.type "frame"), none, (.dict #[⟨PyData.keyHash P zcls, (.str zcls 1869), (.ref 637)⟩, ⟨PyData.keyHash P zname, (.str zname 1870), (.str z_written_out_ 1867)⟩, ⟨PyData.keyHash P zvalue, (.str zvalue 1871), (.int 0 1868)⟩] 3), #[]⟩
def f645 (P : Params) : Obj := ⟨(.type "super"), none, (.fields #[(.ref 471), (.ref 637), (.ref 471)]), #[]⟩
def f646 (P : Params) : Obj := ⟨(.type "method-wrapper"), none, (.fields #[(.builtin "type.__setattr__"), (.ref 637)]), #[]⟩
def f647 (P : Params) : Obj := ⟨(.type "tuple"), none, (.seq #[(.ref 637)] 0), #[]⟩
def f648 (P : Params) : Obj := ⟨(.type "builtin_function_or_method"), none, (.fields #[(.builtin "type.__prepare__"), (.ref 471)]), #[]⟩
def f649 (P : Params) : Obj := ⟨(.type "dict"), none, (.dict #[⟨PyData.keyHash P z__module__, (.str z__module__ 1884), (.str y445419200 1875)⟩, ⟨PyData.keyHash P z__qualname__, (.str z__qualname__ 1886), (.str zQuoteStyle 1885)⟩, ⟨PyData.keyHash P z__firstlineno__, (.str z__firstlineno__ 1888), (.int 333 1887)⟩, ⟨PyData.keyHash P z_written_out_, (.str z_written_out_ 1890), (.int 4 1889)⟩, ⟨PyData.keyHash P z_member_names_, (.str z_member_names_ 1895), (.ref 654)⟩, ⟨PyData.keyHash P z_value_repr_, (.str z_value_repr_ 1897), .none⟩, ⟨PyData.keyHash P z__static_attributes__, (.str z__static_attributes__ 1898), (.ref 655)⟩] 7), #[]⟩
def f650 (P : Params) : Obj := ⟨(.type "tuple"), none, (.seq #[] 0), #[]⟩
def f651 (P : Params) : Obj := ⟨.none, none, (.fields #[]), #[]⟩
def f652 (P : Params) : Obj := ⟨(.type "code"), none, (.fields #[(.str zQuoteStyle 1879), (.str zQuoteStyle 1880), (.str y337536729 1881), (.int 333 0), (.int 0 0), (.int 0 0), (.int 0 0), (.int 0 0), (.ref 650), (.bool false), (.int 492 0), (.ref 651), .none, .none, .none, .none, (.int 1882 0), (.int 333 0), (.str y337536729 1883)]), #[]⟩
def f653 (P : Params) : Obj := ⟨(.type "frame"), none, .plain, #[(some (.ref 652)), (some (.ref 3)), (some (.ref 649)), none, (some (.str y445419200 1875)), none, (some (.ref 0))]⟩
def f654 (P : Params) : Obj := ⟨(.type "list"), none, (.seq #[(.str zALWAYS_DOUBLE 1891), (.str zALWAYS_SINGLE 1892), (.str zPREFER_DOUBLE 1893), (.str zPREFER_SINGLE 1894)] 0), #[]⟩
def f655 (P : Params) : Obj := ⟨(.type "tuple"), none, (.seq #[] 0), #[]⟩
def f656 (P : Params) : Obj := ⟨(.type "dict"), none, (.dict #[] 0), #[]⟩
def f657 (P : Params) : Obj := ⟨(.type "frame"), none, (.dict #[⟨PyData.keyHash P zmetacls, (.str zmetacls 1900), (.ref 471)⟩, ⟨PyData.keyHash P zcls, (.str zcls 1901), (.str zQuoteStyle 1877)⟩, ⟨PyData.keyHash P zbases, (.str zbases 1902), (.ref 647)⟩, ⟨PyData.keyHash P zclassdict, (.str zclassdict 1903), (.ref 649)⟩, ⟨PyData.keyHash P zkwds, (.str zkwds 1904), (.ref 656)⟩, ⟨PyData.keyHash P zmade, (.str zmade 1910), (.ref 660)⟩] 6), #[]⟩
def f658 (P : Params) : Obj := ⟨(.type "super"), none, (.fields #[(.ref 471), (.ref 471), (.ref 471)]), #[]⟩
def f659 (P : Params) : Obj := ⟨(.type "dict"), none, (.dict #[⟨PyData.keyHash P z__module__, (.str z__module__ 1884), (.str y445419200 1875)⟩, ⟨PyData.keyHash P z__firstlineno__, (.str z__firstlineno__ 1888), (.int 333 1887)⟩, ⟨PyData.keyHash P z_written_out_, (.str z_written_out_ 1890), (.int 0 1915)⟩, ⟨PyData.keyHash P z_member_names_, (.str z_member_names_ 1895), (.ref 654)⟩, ⟨PyData.keyHash P z_value_repr_, (.str z_value_repr_ 1897), .none⟩, ⟨PyData.keyHash P z__static_attributes__, (.str z__static_attributes__ 1898), (.ref 655)⟩, ⟨PyData.keyHash P z__doc__, (.str z__doc__ 1908), .none⟩, ⟨PyData.keyHash P z__new__, (.str z__new__ 1956), (.ref 538)⟩, ⟨PyData.keyHash P zALWAYS_DOUBLE, (.str zALWAYS_DOUBLE 2020), (.ref 685)⟩, ⟨PyData.keyHash P zALWAYS_SINGLE, (.str zALWAYS_SINGLE 2028), (.ref 687)⟩, ⟨PyData.keyHash P zPREFER_DOUBLE, (.str zPREFER_DOUBLE 2036), (.ref 689)⟩, ⟨PyData.keyHash P zPREFER_SINGLE, (.str zPREFER_SINGLE 2044), (.ref 691)⟩, ⟨PyData.keyHash P z_member_map_, (.str z_member_map_ 2060), (.ref 704)⟩, ⟨PyData.keyHash P z_value2member_map_, (.str z_value2member_map_ 2072), (.ref 708)⟩, ⟨PyData.keyHash P z_hashable_values_, (.str z_hashable_values_ 2080), (.ref 712)⟩] 10), #[]⟩
def f660 (P : Params) : Obj := ⟨(.ref 471), none, (.cls { name := zQuoteStyle, bases := [(.ref 637)], mro := [(.ref 660), (.ref 637), (.type "object")], ns := 659, qualname := zQuoteStyle, hasDict := true, slotNames := [], subclasses := [], abstract := false, collection := none, hasDel := false }), #[(some (.ref 647)), none, (some (.str zQuoteStyle 1877)), (some (.str zQuoteStyle 1885)), (some .none), (some (.bool true))]⟩
def f661 (P : Params) : Obj := ⟨(.type "super"), none, (.fields #[(.ref 660), (.ref 660), (.ref 660)]), #[]⟩
def f662 (P : Params) : Obj := ⟨(.type "builtin_function_or_method"), none, (.fields #[(.builtin "object.__init_subclass__"), (.ref 660)]), #[]⟩
def f663 (P : Params) : Obj := ⟨(.type "method"), none, (.fields #[(.ref 461), (.ref 660)]), #[]⟩
def f664 (P : Params) : Obj := ⟨(.type "frame"), none, (.dict #[⟨PyData.keyHash P zcls, (.str zcls 1916), (.ref 660)⟩, ⟨PyData.keyHash P zname, (.str zname 1917), (.str z_written_out_ 1914)⟩, ⟨PyData.keyHash P zvalue, (.str zvalue 1918), (.int 0 1915)⟩] 3), #[]⟩
def f665 (P : Params) : Obj := ⟨(.type "super"), none, (.fields #[(.ref 471), (.ref 660), (.ref 471)]), #[]⟩
def f666 (P : Params) : Obj := ⟨(.type "method-wrapper"), none, (.fields #[(.builtin "type.__setattr__"), (.ref 660)]), #[]⟩
def f667 (P : Params) : Obj := ⟨(.type "tuple"), none, (.seq #[] 0), #[]⟩
def f668 (P : Params) : Obj := ⟨.none, none, (.fields #[]), #[]⟩
def f669 (P : Params) : Obj := ⟨(.type "tuple"), none, (.seq #[(.str z_v0 1925), (.str z_m0 1926), (.str z_v1 1927), (.str z_m1 1928), (.str z_v2 1929), (.str z_m2 1930), (.str z_v3 1931), (.str z_m3 1932)] 0), #[]⟩
def f670 (P : Params) : Obj := ⟨(.type "tuple"), none, (.seq #[] 0), #[]⟩
def f671 (P : Params) : Obj := ⟨.none, none, (.func { name := z_lay_QuoteStyle, qualname := z_lay_QuoteStyle, params := fArgs [11], body := .stmts (fBody [11]), scope := fScope [11], globals := 0, closure := [], defaults := .none, kwdefaults := .none, doc := .none, pyModule := .none, annotations := none, code := .none, closureTuple := .none, builtins := 0 }), #[]⟩
def f672 (P : Params) : Obj := ⟨(.type "code"), none, (.fields #[(.str z_lay_QuoteStyle 1922), (.str z_lay_QuoteStyle 1923), (.str y337536729 1924), (.int 337 0), (.int 0 0), (.int 0 0), (.int 0 0), (.int 3 0), (.ref 667), (.bool true), (.int 492 0), (.ref 668), .none, (.ref 669), (.ref 670), (.ref 671), (.int 1933 0), (.int 337 0), (.str y337536729 1934)]), #[]⟩
def f673 (P : Params) : Obj := ⟨(.type "function"), none, (.func { name := z_lay_QuoteStyle, qualname := z_lay_QuoteStyle, params := fArgs [11], body := .stmts (fBody [11]), scope := fScope [11], globals := 3, closure := [], defaults := .none, kwdefaults := .none, doc := .none, pyModule := (.str y445419200 1875), annotations := none, code := (.ref 672), closureTuple := .none, builtins := 0 }), #[]⟩
def f674 (P : Params) : Obj := ⟨(.type "frame"), none, (.dict #[⟨PyData.keyHash P z_v0, (.str z_v0 1958), (.str zalways_double 1957)⟩, ⟨PyData.keyHash P z_m0, (.str z_m0 1960), (.ref 685)⟩, ⟨PyData.keyHash P z_v1, (.str z_v1 1972), (.str zalways_single 1971)⟩, ⟨PyData.keyHash P z_m1, (.str z_m1 1974), (.ref 687)⟩, ⟨PyData.keyHash P z_v2, (.str z_v2 1986), (.str zprefer_double 1985)⟩, ⟨PyData.keyHash P z_m2, (.str z_m2 1988), (.ref 689)⟩, ⟨PyData.keyHash P z_v3, (.str z_v3 2000), (.str zprefer_single 1999)⟩, ⟨PyData.keyHash P z_m3, (.str z_m3 2002), (.ref 691)⟩] 8), #[]⟩
def f675 (P : Params) : Obj := ⟨(.type "method"), none, (.fields #[(.ref 282), (.ref 660)]), #[]⟩
def f676 (P : Params) : Obj := ⟨(.type "frame"), none, (.dict #[⟨PyData.keyHash P zcls, (.str zcls 1937), (.ref 660)⟩, ⟨PyData.keyHash P zown_init, (.str zown_init 1938), (.bool false)⟩, ⟨PyData.keyHash P zasks_new, (.str zasks_new 1939), (.bool true)⟩] 3), #[]⟩
def f677 (P : Params) : Obj := ⟨(.type "builtin_function_or_method"), none, (.fields #[(.builtin "object.__init_subclass__"), (.ref 660)]), #[]⟩
def f678 (P : Params) : Obj := ⟨(.type "builtin_function_or_method"), none, (.fields #[(.builtin "object.__init_subclass__"), (.type "object")]), #[]⟩
def f679 (P : Params) : Obj := ⟨(.type "tuple"), none, (.seq #[(.str y727526810 1947)] 0), #[]⟩
def f680 (P : Params) : Obj := ⟨(.type "AttributeError"), none, (.fields #[(.ref 679), .none, .none, .none, (.bool false), .none, (.int 0 0), (.int 0 0)]), #[]⟩
def f681 (P : Params) : Obj := ⟨(.type "frame"), none, (.dict #[⟨PyData.keyHash P zcls, (.str zcls 1950), (.ref 660)⟩, ⟨PyData.keyHash P zname, (.str zname 1951), (.str z__new__ 1949)⟩, ⟨PyData.keyHash P zvalue, (.str zvalue 1952), (.ref 538)⟩] 3), #[]⟩
def f682 (P : Params) : Obj := ⟨(.type "super"), none, (.fields #[(.ref 471), (.ref 660), (.ref 471)]), #[]⟩
def f683 (P : Params) : Obj := ⟨(.type "method-wrapper"), none, (.fields #[(.builtin "type.__setattr__"), (.ref 660)]), #[]⟩
def f684 (P : Params) : Obj := ⟨(.type "dict"), none, (.dict #[⟨PyData.keyHash P z_value_, (.str z_value_ 1962), (.str zalways_double 1957)⟩, ⟨PyData.keyHash P z_name_, (.str z_name_ 1965), (.str zALWAYS_DOUBLE 1963)⟩, ⟨PyData.keyHash P z__objclass__, (.str z__objclass__ 1967), (.ref 660)⟩, ⟨PyData.keyHash P z_sort_order_, (.str z_sort_order_ 1970), (.int 0 1968)⟩] 4), #[]⟩
def f685 (P : Params) : Obj := ⟨(.ref 660), (some 684), .plain, #[]⟩
def f686 (P : Params) : Obj := ⟨(.type "dict"), none, (.dict #[⟨PyData.keyHash P z_value_, (.str z_value_ 1976), (.str zalways_single 1971)⟩, ⟨PyData.keyHash P z_name_, (.str z_name_ 1979), (.str zALWAYS_SINGLE 1977)⟩, ⟨PyData.keyHash P z__objclass__, (.str z__objclass__ 1981), (.ref 660)⟩, ⟨PyData.keyHash P z_sort_order_, (.str z_sort_order_ 1984), (.int 1 1982)⟩] 4), #[]⟩
def f687 (P : Params) : Obj := ⟨(.ref 660), (some 686), .plain, #[]⟩
def f688 (P : Params) : Obj := ⟨(.type "dict"), none, (.dict #[⟨PyData.keyHash P z_value_, (.str z_value_ 1990), (.str zprefer_double 1985)⟩, ⟨PyData.keyHash P z_name_, (.str z_name_ 1993), (.str zPREFER_DOUBLE 1991)⟩, ⟨PyData.keyHash P z__objclass__, (.str z__objclass__ 1995), (.ref 660)⟩, ⟨PyData.keyHash P z_sort_order_, (.str z_sort_order_ 1998), (.int 2 1996)⟩] 4), #[]⟩
def f689 (P : Params) : Obj := ⟨(.ref 660), (some 688), .plain, #[]⟩
def f690 (P : Params) : Obj := ⟨(.type "dict"), none, (.dict #[⟨PyData.keyHash P z_value_, (.str z_value_ 2004), (.str zprefer_single 1999)⟩, ⟨PyData.keyHash P z_name_, (.str z_name_ 2007), (.str zPREFER_SINGLE 2005)⟩, ⟨PyData.keyHash P z__objclass__, (.str z__objclass__ 2009), (.ref 660)⟩, ⟨PyData.keyHash P z_sort_order_, (.str z_sort_order_ 2012), (.int 3 2010)⟩] 4), #[]⟩
def f691 (P : Params) : Obj := ⟨(.ref 660), (some 690), .plain, #[]⟩
def f692 (P : Params) : Obj := ⟨(.type "frame"), none, (.dict #[⟨PyData.keyHash P zcls, (.str zcls 2014), (.ref 660)⟩, ⟨PyData.keyHash P zname, (.str zname 2015), (.str zALWAYS_DOUBLE 2013)⟩, ⟨PyData.keyHash P zvalue, (.str zvalue 2016), (.ref 685)⟩] 3), #[]⟩
def f693 (P : Params) : Obj := ⟨(.type "super"), none, (.fields #[(.ref 471), (.ref 660), (.ref 471)]), #[]⟩
def f694 (P : Params) : Obj := ⟨(.type "method-wrapper"), none, (.fields #[(.builtin "type.__setattr__"), (.ref 660)]), #[]⟩
def f695 (P : Params) : Obj := ⟨(.type "frame"), none, (.dict #[⟨PyData.keyHash P zcls, (.str zcls 2022), (.ref 660)⟩, ⟨PyData.keyHash P zname, (.str zname 2023), (.str zALWAYS_SINGLE 2021)⟩, ⟨PyData.keyHash P zvalue, (.str zvalue 2024), (.ref 687)⟩] 3), #[]⟩
def f696 (P : Params) : Obj := ⟨(.type "super"), none, (.fields #[(.ref 471), (.ref 660), (.ref 471)]), #[]⟩
def f697 (P : Params) : Obj := ⟨(.type "method-wrapper"), none, (.fields #[(.builtin "type.__setattr__"), (.ref 660)]), #[]⟩
def f698 (P : Params) : Obj := ⟨(.type "frame"), none, (.dict #[⟨PyData.keyHash P zcls, (.str zcls 2030), (.ref 660)⟩, ⟨PyData.keyHash P zname, (.str zname 2031), (.str zPREFER_DOUBLE 2029)⟩, ⟨PyData.keyHash P zvalue, (.str zvalue 2032), (.ref 689)⟩] 3), #[]⟩
def f699 (P : Params) : Obj := ⟨(.type "super"), none, (.fields #[(.ref 471), (.ref 660), (.ref 471)]), #[]⟩
def f700 (P : Params) : Obj := ⟨(.type "method-wrapper"), none, (.fields #[(.builtin "type.__setattr__"), (.ref 660)]), #[]⟩
def f701 (P : Params) : Obj := ⟨(.type "frame"), none, (.dict #[⟨PyData.keyHash P zcls, (.str zcls 2038), (.ref 660)⟩, ⟨PyData.keyHash P zname, (.str zname 2039), (.str zPREFER_SINGLE 2037)⟩, ⟨PyData.keyHash P zvalue, (.str zvalue 2040), (.ref 691)⟩] 3), #[]⟩
def f702 (P : Params) : Obj := ⟨(.type "super"), none, (.fields #[(.ref 471), (.ref 660), (.ref 471)]), #[]⟩
def f703 (P : Params) : Obj := ⟨(.type "method-wrapper"), none, (.fields #[(.builtin "type.__setattr__"), (.ref 660)]), #[]⟩
def f704 (P : Params) : Obj := ⟨(.type "dict"), none, (.dict #[⟨PyData.keyHash P zALWAYS_DOUBLE, (.str zALWAYS_DOUBLE 2045), (.ref 685)⟩, ⟨PyData.keyHash P zALWAYS_SINGLE, (.str zALWAYS_SINGLE 2046), (.ref 687)⟩, ⟨PyData.keyHash P zPREFER_DOUBLE, (.str zPREFER_DOUBLE 2047), (.ref 689)⟩, ⟨PyData.keyHash P zPREFER_SINGLE, (.str zPREFER_SINGLE 2048), (.ref 691)⟩] 4), #[]⟩
def f705 (P : Params) : Obj := ⟨(.type "frame"), none, (.dict #[⟨PyData.keyHash P zcls, (.str zcls 2054), (.ref 660)⟩, ⟨PyData.keyHash P zname, (.str zname 2055), (.str z_member_map_ 2053)⟩, ⟨PyData.keyHash P zvalue, (.str zvalue 2056), (.ref 704)⟩] 3), #[]⟩
def f706 (P : Params) : Obj := ⟨(.type "super"), none, (.fields #[(.ref 471), (.ref 660), (.ref 471)]), #[]⟩
def f707 (P : Params) : Obj := ⟨(.type "method-wrapper"), none, (.fields #[(.builtin "type.__setattr__"), (.ref 660)]), #[]⟩
def f708 (P : Params) : Obj := ⟨(.type "dict"), none, (.dict #[⟨PyData.keyHash P zalways_double, (.str zalways_double 1957), (.ref 685)⟩, ⟨PyData.keyHash P zalways_single, (.str zalways_single 1971), (.ref 687)⟩, ⟨PyData.keyHash P zprefer_double, (.str zprefer_double 1985), (.ref 689)⟩, ⟨PyData.keyHash P zprefer_single, (.str zprefer_single 1999), (.ref 691)⟩] 4), #[]⟩
def f709 (P : Params) : Obj := ⟨(.type "frame"), none, (.dict #[⟨PyData.keyHash P zcls, (.str zcls 2066), (.ref 660)⟩, ⟨PyData.keyHash P zname, (.str zname 2067), (.str z_value2member_map_ 2065)⟩, ⟨PyData.keyHash P zvalue, (.str zvalue 2068), (.ref 708)⟩] 3), #[]⟩
def f710 (P : Params) : Obj := ⟨(.type "super"), none, (.fields #[(.ref 471), (.ref 660), (.ref 471)]), #[]⟩
def f711 (P : Params) : Obj := ⟨(.type "method-wrapper"), none, (.fields #[(.builtin "type.__setattr__"), (.ref 660)]), #[]⟩
def f712 (P : Params) : Obj := ⟨(.type "list"), none, (.seq #[(.str zalways_double 1957), (.str zalways_single 1971), (.str zprefer_double 1985), (.str zprefer_single 1999)] 0), #[]⟩
def f713 (P : Params) : Obj := ⟨(.type "frame"), none, (.dict #[⟨PyData.keyHash P zcls, (.str zcls 2074), (.ref 660)⟩, ⟨PyData.keyHash P zname, (.str zname 2075), (.str z_hashable_values_ 2073)⟩, ⟨PyData.keyHash P zvalue, (.str zvalue 2076), (.ref 712)⟩] 3), #[]⟩
def f714 (P : Params) : Obj := ⟨(.type "super"), none, (.fields #[(.ref 471), (.ref 660), (.ref 471)]), #[]⟩
def f715 (P : Params) : Obj := ⟨(.type "method-wrapper"), none, (.fields #[(.builtin "type.__setattr__"), (.ref 660)]), #[]⟩
def f716 (P : Params) : Obj := ⟨(.type "dict"), none, (.dict #[⟨PyData.keyHash P zskipkeys, (.str zskipkeys 2082), (.bool false)⟩, ⟨PyData.keyHash P zensure_ascii, (.str zensure_ascii 2083), (.bool true)⟩, ⟨PyData.keyHash P zallow_nan, (.str zallow_nan 2084), (.bool true)⟩, ⟨PyData.keyHash P zindent, (.str zindent 2085), .none⟩, ⟨PyData.keyHash P zseparators, (.str zseparators 2086), .none⟩, ⟨PyData.keyHash P zdefault, (.str zdefault 2087), .none⟩, ⟨PyData.keyHash P zsort_keys, (.str zsort_keys 2088), (.bool false)⟩, ⟨PyData.keyHash P zquote_keys, (.str zquote_keys 2089), (.bool false)⟩, ⟨PyData.keyHash P ztrailing_commas, (.str ztrailing_commas 2090), (.bool true)⟩, ⟨PyData.keyHash P zallow_duplicate_keys, (.str zallow_duplicate_keys 2091), (.bool true)⟩, ⟨PyData.keyHash P zquote_style, (.str zquote_style 2092), (.ref 685)⟩] 11), #[]⟩
def f717 (P : Params) : Obj := ⟨(.type "tuple"), none, (.seq #[] 0), #[]⟩
def f718 (P : Params) : Obj := ⟨.none, none, (.fields #[]), #[]⟩
def f719 (P : Params) : Obj := ⟨(.type "tuple"), none, (.seq #[(.str zobj 2096), (.str zskipkeys 2097), (.str zensure_ascii 2098), (.str zallow_nan 2099), (.str zindent 2100), (.str zseparators 2101), (.str zdefault 2102), (.str zsort_keys 2103), (.str zquote_keys 2104), (.str ztrailing_commas 2105), (.str zallow_duplicate_keys 2106), (.str zquote_style 2107), (.str zenc 2108)] 0), #[]⟩
def f720 (P : Params) : Obj := ⟨(.type "tuple"), none, (.seq #[] 0), #[]⟩
def f721 (P : Params) : Obj := ⟨.none, none, (.func { name := zdumps, qualname := zdumps, params := fArgs [13], body := .stmts (fBody [13]), scope := fScope [13], globals := 0, closure := [], defaults := .none, kwdefaults := .none, doc := .none, pyModule := .none, annotations := none, code := .none, closureTuple := .none, builtins := 0 }), #[]⟩
def f722 (P : Params) : Obj := ⟨(.type "code"), none, (.fields #[(.str zdumps 2093), (.str zdumps 2094), (.str y337536729 2095), (.int 371 0), (.int 1 0), (.int 0 0), (.int 11 0), (.int 3 0), (.ref 717), (.bool true), (.int 492 0), (.ref 718), .none, (.ref 719), (.ref 720), (.ref 721), (.int 2109 0), (.int 371 0), (.str y337536729 2110)]), #[]⟩
def f723 (P : Params) : Obj := ⟨(.type "function"), none, (.func { name := zdumps, qualname := zdumps, params := fArgs [13], body := .stmts (fBody [13]), scope := fScope [13], globals := 3, closure := [], defaults := .none, kwdefaults := (.ref 716), doc := .none, pyModule := (.str y445419200 1875), annotations := none, code := (.ref 722), closureTuple := .none, builtins := 0 }), #[]⟩
def f724 (P : Params) : Obj := ⟨(.type "tuple"), none, (.seq #[] 0), #[]⟩
def f725 (P : Params) : Obj := ⟨(.type "builtin_function_or_method"), none, (.fields #[(.builtin "type.__prepare__"), (.type "type")]), #[]⟩
def f726 (P : Params) : Obj := ⟨(.type "dict"), none, (.dict #[⟨PyData.keyHash P z__module__, (.str z__module__ 2119), (.str y445419200 1875)⟩, ⟨PyData.keyHash P z__qualname__, (.str z__qualname__ 2121), (.str zJSON5Encoder 2120)⟩, ⟨PyData.keyHash P z__firstlineno__, (.str z__firstlineno__ 2123), (.int 374 2122)⟩, ⟨PyData.keyHash P z__init__, (.str z__init__ 2153), (.ref 738)⟩, ⟨PyData.keyHash P zdefault, (.str zdefault 2161), (.ref 745)⟩, ⟨PyData.keyHash P zencoded, (.str zencoded 2173), (.ref 752)⟩, ⟨PyData.keyHash P z_encode_basic_type, (.str z_encode_basic_type 2182), (.ref 759)⟩, ⟨PyData.keyHash P z_encode_int, (.str z_encode_int 2192), (.ref 766)⟩, ⟨PyData.keyHash P z_encode_float, (.str z_encode_float 2203), (.ref 773)⟩, ⟨PyData.keyHash P z_encode_str, (.str z_encode_str 2212), (.ref 780)⟩, ⟨PyData.keyHash P z_encode_quoted_str, (.str z_encode_quoted_str 2229), (.ref 787)⟩, ⟨PyData.keyHash P z_escape_ch, (.str z_escape_ch 2241), (.ref 794)⟩, ⟨PyData.keyHash P z_encode_non_basic_type, (.str z_encode_non_basic_type 2252), (.ref 801)⟩, ⟨PyData.keyHash P z_encode_dict, (.str z_encode_dict 2273), (.ref 808)⟩, ⟨PyData.keyHash P z_encode_array, (.str z_encode_array 2289), (.ref 815)⟩, ⟨PyData.keyHash P z_spacers, (.str z_spacers 2299), (.ref 822)⟩, ⟨PyData.keyHash P zis_identifier, (.str zis_identifier 2308), (.ref 829)⟩, ⟨PyData.keyHash P z_is_id_start, (.str z_is_id_start 2316), (.ref 836)⟩, ⟨PyData.keyHash P z_is_id_continue, (.str z_is_id_continue 2324), (.ref 843)⟩, ⟨PyData.keyHash P zis_reserved_word, (.str zis_reserved_word 2332), (.ref 850)⟩, ⟨PyData.keyHash P z__static_attributes__, (.str z__static_attributes__ 2346), (.ref 851)⟩] 21), #[]⟩
def f727 (P : Params) : Obj := ⟨(.type "tuple"), none, (.seq #[] 0), #[]⟩
def f728 (P : Params) : Obj := ⟨.none, none, (.fields #[(.int 376 0), (.int 4 0), (.ref 737), (.int 392 0), (.int 4 0), (.ref 744), (.int 395 0), (.int 4 0), (.ref 751), (.int 404 0), (.int 4 0), (.ref 758), (.int 419 0), (.int 4 0), (.ref 765), (.int 423 0), (.int 4 0), (.ref 772), (.int 440 0), (.int 4 0), (.ref 779), (.int 445 0), (.int 4 0), (.ref 786), (.int 483 0), (.int 4 0), (.ref 793), (.int 512 0), (.int 4 0), (.ref 800), (.int 522 0), (.int 4 0), (.ref 807), (.int 555 0), (.int 4 0), (.ref 814), (.int 562 0), (.int 4 0), (.ref 821), (.int 582 0), (.int 4 0), (.ref 828), (.int 590 0), (.int 4 0), (.ref 835), (.int 593 0), (.int 4 0), (.ref 842), (.int 596 0), (.int 4 0), (.ref 849)]), #[]⟩
def f729 (P : Params) : Obj := ⟨(.type "code"), none, (.fields #[(.str zJSON5Encoder 2114), (.str zJSON5Encoder 2115), (.str y337536729 2116), (.int 374 0), (.int 0 0), (.int 0 0), (.int 0 0), (.int 0 0), (.ref 727), (.bool false), (.int 492 0), (.ref 728), .none, .none, .none, .none, (.int 2117 0), (.int 374 0), (.str y337536729 2118)]), #[]⟩
def f730 (P : Params) : Obj := ⟨(.type "frame"), none, .plain, #[(some (.ref 729)), (some (.ref 3)), (some (.ref 726)), none, (some (.str y445419200 1875)), none, (some (.ref 0))]⟩
def f731 (P : Params) : Obj := ⟨(.type "dict"), none, (.dict #[⟨PyData.keyHash P zskipkeys, (.str zskipkeys 2125), (.bool false)⟩, ⟨PyData.keyHash P zensure_ascii, (.str zensure_ascii 2126), (.bool true)⟩, ⟨PyData.keyHash P zallow_nan, (.str zallow_nan 2127), (.bool true)⟩, ⟨PyData.keyHash P zindent, (.str zindent 2128), .none⟩, ⟨PyData.keyHash P zseparators, (.str zseparators 2129), .none⟩, ⟨PyData.keyHash P zdefault, (.str zdefault 2130), .none⟩, ⟨PyData.keyHash P zsort_keys, (.str zsort_keys 2131), (.bool false)⟩, ⟨PyData.keyHash P zquote_keys, (.str zquote_keys 2132), (.bool false)⟩, ⟨PyData.keyHash P ztrailing_commas, (.str ztrailing_commas 2133), (.bool true)⟩, ⟨PyData.keyHash P zallow_duplicate_keys, (.str zallow_duplicate_keys 2134), (.bool true)⟩, ⟨PyData.keyHash P zquote_style, (.str zquote_style 2135), (.ref 685)⟩] 11), #[]⟩
def f732 (P : Params) : Obj := ⟨(.type "tuple"), none, (.seq #[] 0), #[]⟩
def f733 (P : Params) : Obj := ⟨.none, none, (.fields #[]), #[]⟩
def f734 (P : Params) : Obj := ⟨(.type "tuple"), none, (.seq #[(.str zself 2139), (.str zskipkeys 2140), (.str zensure_ascii 2141), (.str zallow_nan 2142), (.str zindent 2143), (.str zseparators 2144), (.str zdefault 2145), (.str zsort_keys 2146), (.str zquote_keys 2147), (.str ztrailing_commas 2148), (.str zallow_duplicate_keys 2149), (.str zquote_style 2150)] 0), #[]⟩
def f735 (P : Params) : Obj := ⟨(.type "tuple"), none, (.seq #[] 0), #[]⟩
def f736 (P : Params) : Obj := ⟨.none, none, (.func { name := z__init__, qualname := y596348518, params := fArgs [14, 0], body := .stmts (fBody [14, 0]), scope := fScope [14, 0], globals := 0, closure := [], defaults := .none, kwdefaults := .none, doc := .none, pyModule := .none, annotations := none, code := .none, closureTuple := .none, builtins := 0 }), #[]⟩
def f737 (P : Params) : Obj := ⟨(.type "code"), none, (.fields #[(.str z__init__ 2136), (.str y596348518 2137), (.str y337536729 2138), (.int 376 0), (.int 1 0), (.int 0 0), (.int 11 0), (.int 3 0), (.ref 732), (.bool true), (.int 492 0), (.ref 733), .none, (.ref 734), (.ref 735), (.ref 736), (.int 2151 0), (.int 376 0), (.str y337536729 2152)]), #[]⟩
def f738 (P : Params) : Obj := ⟨(.type "function"), none, (.func { name := z__init__, qualname := y596348518, params := fArgs [14, 0], body := .stmts (fBody [14, 0]), scope := fScope [14, 0], globals := 3, closure := [], defaults := .none, kwdefaults := (.ref 731), doc := .none, pyModule := (.str y445419200 1875), annotations := none, code := (.ref 737), closureTuple := .none, builtins := 0 }), #[]⟩
def f739 (P : Params) : Obj := ⟨(.type "tuple"), none, (.seq #[] 0), #[]⟩
def f740 (P : Params) : Obj := ⟨.none, none, (.fields #[]), #[]⟩
def f741 (P : Params) : Obj := ⟨(.type "tuple"), none, (.seq #[(.str zself 2157), (.str zobj 2158)] 0), #[]⟩
def f742 (P : Params) : Obj := ⟨(.type "tuple"), none, (.seq #[] 0), #[]⟩
def f743 (P : Params) : Obj := ⟨.none, none, (.func { name := zdefault, qualname := y220627629, params := fArgs [14, 1], body := .stmts (fBody [14, 1]), scope := fScope [14, 1], globals := 0, closure := [], defaults := .none, kwdefaults := .none, doc := .none, pyModule := .none, annotations := none, code := .none, closureTuple := .none, builtins := 0 }), #[]⟩
def f744 (P : Params) : Obj := ⟨(.type "code"), none, (.fields #[(.str zdefault 2154), (.str y220627629 2155), (.str y337536729 2156), (.int 392 0), (.int 2 0), (.int 0 0), (.int 0 0), (.int 3 0), (.ref 739), (.bool true), (.int 492 0), (.ref 740), .none, (.ref 741), (.ref 742), (.ref 743), (.int 2159 0), (.int 392 0), (.str y337536729 2160)]), #[]⟩
def f745 (P : Params) : Obj := ⟨(.type "function"), none, (.func { name := zdefault, qualname := y220627629, params := fArgs [14, 1], body := .stmts (fBody [14, 1]), scope := fScope [14, 1], globals := 3, closure := [], defaults := .none, kwdefaults := .none, doc := .none, pyModule := (.str y445419200 1875), annotations := none, code := (.ref 744), closureTuple := .none, builtins := 0 }), #[]⟩
def f746 (P : Params) : Obj := ⟨(.type "tuple"), none, (.seq #[] 0), #[]⟩
def f747 (P : Params) : Obj := ⟨.none, none, (.fields #[]), #[]⟩
def f748 (P : Params) : Obj := ⟨(.type "tuple"), none, (.seq #[(.str zself 2165), (.str zobj 2166), (.str zseen 2167), (.str zlevel 2168), (.str zas_key 2169), (.str zs 2170)] 0), #[]⟩
def f749 (P : Params) : Obj := ⟨(.type "tuple"), none, (.seq #[] 0), #[]⟩
def f750 (P : Params) : Obj := ⟨.none, none, (.func { name := zencoded, qualname := y193732450, params := fArgs [14, 2], body := .stmts (fBody [14, 2]), scope := fScope [14, 2], globals := 0, closure := [], defaults := .none, kwdefaults := .none, doc := .none, pyModule := .none, annotations := none, code := .none, closureTuple := .none, builtins := 0 }), #[]⟩
def f751 (P : Params) : Obj := ⟨(.type "code"), none, (.fields #[(.str zencoded 2162), (.str y193732450 2163), (.str y337536729 2164), (.int 395 0), (.int 4 0), (.int 0 0), (.int 1 0), (.int 3 0), (.ref 746), (.bool true), (.int 492 0), (.ref 747), .none, (.ref 748), (.ref 749), (.ref 750), (.int 2171 0), (.int 395 0), (.str y337536729 2172)]), #[]⟩
def f752 (P : Params) : Obj := ⟨(.type "function"), none, (.func { name := zencoded, qualname := y193732450, params := fArgs [14, 2], body := .stmts (fBody [14, 2]), scope := fScope [14, 2], globals := 3, closure := [], defaults := .none, kwdefaults := .none, doc := .none, pyModule := (.str y445419200 1875), annotations := none, code := (.ref 751), closureTuple := .none, builtins := 0 }), #[]⟩
def f753 (P : Params) : Obj := ⟨(.type "tuple"), none, (.seq #[] 0), #[]⟩
def f754 (P : Params) : Obj := ⟨.none, none, (.fields #[]), #[]⟩
def f755 (P : Params) : Obj := ⟨(.type "tuple"), none, (.seq #[(.str zself 2177), (.str zobj 2178), (.str zas_key 2179)] 0), #[]⟩
def f756 (P : Params) : Obj := ⟨(.type "tuple"), none, (.seq #[] 0), #[]⟩
def f757 (P : Params) : Obj := ⟨.none, none, (.func { name := z_encode_basic_type, qualname := y723220578, params := fArgs [14, 3], body := .stmts (fBody [14, 3]), scope := fScope [14, 3], globals := 0, closure := [], defaults := .none, kwdefaults := .none, doc := .none, pyModule := .none, annotations := none, code := .none, closureTuple := .none, builtins := 0 }), #[]⟩
def f758 (P : Params) : Obj := ⟨(.type "code"), none, (.fields #[(.str z_encode_basic_type 2174), (.str y723220578 2175), (.str y337536729 2176), (.int 404 0), (.int 2 0), (.int 0 0), (.int 1 0), (.int 3 0), (.ref 753), (.bool true), (.int 492 0), (.ref 754), .none, (.ref 755), (.ref 756), (.ref 757), (.int 2180 0), (.int 404 0), (.str y337536729 2181)]), #[]⟩
def f759 (P : Params) : Obj := ⟨(.type "function"), none, (.func { name := z_encode_basic_type, qualname := y723220578, params := fArgs [14, 3], body := .stmts (fBody [14, 3]), scope := fScope [14, 3], globals := 3, closure := [], defaults := .none, kwdefaults := .none, doc := .none, pyModule := (.str y445419200 1875), annotations := none, code := (.ref 758), closureTuple := .none, builtins := 0 }), #[]⟩
def f760 (P : Params) : Obj := ⟨(.type "tuple"), none, (.seq #[] 0), #[]⟩
def f761 (P : Params) : Obj := ⟨.none, none, (.fields #[]), #[]⟩
def f762 (P : Params) : Obj := ⟨(.type "tuple"), none, (.seq #[(.str zself 2186), (.str zobj 2187), (.str zas_key 2188), (.str zs 2189)] 0), #[]⟩
def f763 (P : Params) : Obj := ⟨(.type "tuple"), none, (.seq #[] 0), #[]⟩
def f764 (P : Params) : Obj := ⟨.none, none, (.func { name := z_encode_int, qualname := y240394867, params := fArgs [14, 4], body := .stmts (fBody [14, 4]), scope := fScope [14, 4], globals := 0, closure := [], defaults := .none, kwdefaults := .none, doc := .none, pyModule := .none, annotations := none, code := .none, closureTuple := .none, builtins := 0 }), #[]⟩
def f765 (P : Params) : Obj := ⟨(.type "code"), none, (.fields #[(.str z_encode_int 2183), (.str y240394867 2184), (.str y337536729 2185), (.int 419 0), (.int 2 0), (.int 0 0), (.int 1 0), (.int 3 0), (.ref 760), (.bool true), (.int 492 0), (.ref 761), .none, (.ref 762), (.ref 763), (.ref 764), (.int 2190 0), (.int 419 0), (.str y337536729 2191)]), #[]⟩
def f766 (P : Params) : Obj := ⟨(.type "function"), none, (.func { name := z_encode_int, qualname := y240394867, params := fArgs [14, 4], body := .stmts (fBody [14, 4]), scope := fScope [14, 4], globals := 3, closure := [], defaults := .none, kwdefaults := .none, doc := .none, pyModule := (.str y445419200 1875), annotations := none, code := (.ref 765), closureTuple := .none, builtins := 0 }), #[]⟩
def f767 (P : Params) : Obj := ⟨(.type "tuple"), none, (.seq #[] 0), #[]⟩
def f768 (P : Params) : Obj := ⟨.none, none, (.fields #[]), #[]⟩
def f769 (P : Params) : Obj := ⟨(.type "tuple"), none, (.seq #[(.str zself 2196), (.str zobj 2197), (.str zas_key 2198), (.str zallowed 2199), (.str zs 2200)] 0), #[]⟩
def f770 (P : Params) : Obj := ⟨(.type "tuple"), none, (.seq #[] 0), #[]⟩
def f771 (P : Params) : Obj := ⟨.none, none, (.func { name := z_encode_float, qualname := y928801010, params := fArgs [14, 5], body := .stmts (fBody [14, 5]), scope := fScope [14, 5], globals := 0, closure := [], defaults := .none, kwdefaults := .none, doc := .none, pyModule := .none, annotations := none, code := .none, closureTuple := .none, builtins := 0 }), #[]⟩
def f772 (P : Params) : Obj := ⟨(.type "code"), none, (.fields #[(.str z_encode_float 2193), (.str y928801010 2194), (.str y337536729 2195), (.int 423 0), (.int 2 0), (.int 0 0), (.int 1 0), (.int 3 0), (.ref 767), (.bool true), (.int 492 0), (.ref 768), .none, (.ref 769), (.ref 770), (.ref 771), (.int 2201 0), (.int 423 0), (.str y337536729 2202)]), #[]⟩
def f773 (P : Params) : Obj := ⟨(.type "function"), none, (.func { name := z_encode_float, qualname := y928801010, params := fArgs [14, 5], body := .stmts (fBody [14, 5]), scope := fScope [14, 5], globals := 3, closure := [], defaults := .none, kwdefaults := .none, doc := .none, pyModule := (.str y445419200 1875), annotations := none, code := (.ref 772), closureTuple := .none, builtins := 0 }), #[]⟩
def f774 (P : Params) : Obj := ⟨(.type "tuple"), none, (.seq #[] 0), #[]⟩
def f775 (P : Params) : Obj := ⟨.none, none, (.fields #[]), #[]⟩
def f776 (P : Params) : Obj := ⟨(.type "tuple"), none, (.seq #[(.str zself 2207), (.str zobj 2208), (.str zas_key 2209)] 0), #[]⟩
def f777 (P : Params) : Obj := ⟨(.type "tuple"), none, (.seq #[] 0), #[]⟩
def f778 (P : Params) : Obj := ⟨.none, none, (.func { name := z_encode_str, qualname := y892449341, params := fArgs [14, 6], body := .stmts (fBody [14, 6]), scope := fScope [14, 6], globals := 0, closure := [], defaults := .none, kwdefaults := .none, doc := .none, pyModule := .none, annotations := none, code := .none, closureTuple := .none, builtins := 0 }), #[]⟩
def f779 (P : Params) : Obj := ⟨(.type "code"), none, (.fields #[(.str z_encode_str 2204), (.str y892449341 2205), (.str y337536729 2206), (.int 440 0), (.int 2 0), (.int 0 0), (.int 1 0), (.int 3 0), (.ref 774), (.bool true), (.int 492 0), (.ref 775), .none, (.ref 776), (.ref 777), (.ref 778), (.int 2210 0), (.int 440 0), (.str y337536729 2211)]), #[]⟩
def f780 (P : Params) : Obj := ⟨(.type "function"), none, (.func { name := z_encode_str, qualname := y892449341, params := fArgs [14, 6], body := .stmts (fBody [14, 6]), scope := fScope [14, 6], globals := 3, closure := [], defaults := .none, kwdefaults := .none, doc := .none, pyModule := (.str y445419200 1875), annotations := none, code := (.ref 779), closureTuple := .none, builtins := 0 }), #[]⟩
def f781 (P : Params) : Obj := ⟨(.type "tuple"), none, (.seq #[] 0), #[]⟩
def f782 (P : Params) : Obj := ⟨.none, none, (.fields #[]), #[]⟩
def f783 (P : Params) : Obj := ⟨(.type "tuple"), none, (.seq #[(.str zself 2216), (.str zobj 2217), (.str zquote_style 2218), (.str zret 2219), (.str zdouble_quotes_seen 2220), (.str zsingle_quotes_seen 2221), (.str zsq 2222), (.str zdq 2223), (.str zch 2224), (.str zencoded_ch 2225), (.str zo 2226)] 0), #[]⟩
def f784 (P : Params) : Obj := ⟨(.type "tuple"), none, (.seq #[] 0), #[]⟩
def f785 (P : Params) : Obj := ⟨.none, none, (.func { name := z_encode_quoted_str, qualname := y862903582, params := fArgs [14, 7], body := .stmts (fBody [14, 7]), scope := fScope [14, 7], globals := 0, closure := [], defaults := .none, kwdefaults := .none, doc := .none, pyModule := .none, annotations := none, code := .none, closureTuple := .none, builtins := 0 }), #[]⟩
def f786 (P : Params) : Obj := ⟨(.type "code"), none, (.fields #[(.str z_encode_quoted_str 2213), (.str y862903582 2214), (.str y337536729 2215), (.int 445 0), (.int 3 0), (.int 0 0), (.int 0 0), (.int 3 0), (.ref 781), (.bool true), (.int 492 0), (.ref 782), .none, (.ref 783), (.ref 784), (.ref 785), (.int 2227 0), (.int 445 0), (.str y337536729 2228)]), #[]⟩
def f787 (P : Params) : Obj := ⟨(.type "function"), none, (.func { name := z_encode_quoted_str, qualname := y862903582, params := fArgs [14, 7], body := .stmts (fBody [14, 7]), scope := fScope [14, 7], globals := 3, closure := [], defaults := .none, kwdefaults := .none, doc := .none, pyModule := (.str y445419200 1875), annotations := none, code := (.ref 786), closureTuple := .none, builtins := 0 }), #[]⟩
def f788 (P : Params) : Obj := ⟨(.type "tuple"), none, (.seq #[] 0), #[]⟩
def f789 (P : Params) : Obj := ⟨.none, none, (.fields #[]), #[]⟩
def f790 (P : Params) : Obj := ⟨(.type "tuple"), none, (.seq #[(.str zself 2233), (.str zch 2234), (.str zo 2235), (.str zval 2236), (.str zhigh 2237), (.str zlow 2238)] 0), #[]⟩
def f791 (P : Params) : Obj := ⟨(.type "tuple"), none, (.seq #[] 0), #[]⟩
def f792 (P : Params) : Obj := ⟨.none, none, (.func { name := z_escape_ch, qualname := y340889652, params := fArgs [14, 8], body := .stmts (fBody [14, 8]), scope := fScope [14, 8], globals := 0, closure := [], defaults := .none, kwdefaults := .none, doc := .none, pyModule := .none, annotations := none, code := .none, closureTuple := .none, builtins := 0 }), #[]⟩
def f793 (P : Params) : Obj := ⟨(.type "code"), none, (.fields #[(.str z_escape_ch 2230), (.str y340889652 2231), (.str y337536729 2232), (.int 483 0), (.int 2 0), (.int 0 0), (.int 0 0), (.int 3 0), (.ref 788), (.bool true), (.int 492 0), (.ref 789), .none, (.ref 790), (.ref 791), (.ref 792), (.int 2239 0), (.int 483 0), (.str y337536729 2240)]), #[]⟩
def f794 (P : Params) : Obj := ⟨(.type "function"), none, (.func { name := z_escape_ch, qualname := y340889652, params := fArgs [14, 8], body := .stmts (fBody [14, 8]), scope := fScope [14, 8], globals := 3, closure := [], defaults := .none, kwdefaults := .none, doc := .none, pyModule := (.str y445419200 1875), annotations := none, code := (.ref 793), closureTuple := .none, builtins := 0 }), #[]⟩
def f795 (P : Params) : Obj := ⟨(.type "tuple"), none, (.seq #[] 0), #[]⟩
def f796 (P : Params) : Obj := ⟨.none, none, (.fields #[]), #[]⟩
def f797 (P : Params) : Obj := ⟨(.type "tuple"), none, (.seq #[(.str zself 2245), (.str zobj 2246), (.str zseen 2247), (.str zlevel 2248), (.str zs 2249)] 0), #[]⟩
def f798 (P : Params) : Obj := ⟨(.type "tuple"), none, (.seq #[] 0), #[]⟩
def f799 (P : Params) : Obj := ⟨.none, none, (.func { name := z_encode_non_basic_type, qualname := y995322561, params := fArgs [14, 9], body := .stmts (fBody [14, 9]), scope := fScope [14, 9], globals := 0, closure := [], defaults := .none, kwdefaults := .none, doc := .none, pyModule := .none, annotations := none, code := .none, closureTuple := .none, builtins := 0 }), #[]⟩
def f800 (P : Params) : Obj := ⟨(.type "code"), none, (.fields #[(.str z_encode_non_basic_type 2242), (.str y995322561 2243), (.str y337536729 2244), (.int 512 0), (.int 4 0), (.int 0 0), (.int 0 0), (.int 3 0), (.ref 795), (.bool true), (.int 492 0), (.ref 796), .none, (.ref 797), (.ref 798), (.ref 799), (.int 2250 0), (.int 512 0), (.str y337536729 2251)]), #[]⟩
def f801 (P : Params) : Obj := ⟨(.type "function"), none, (.func { name := z_encode_non_basic_type, qualname := y995322561, params := fArgs [14, 9], body := .stmts (fBody [14, 9]), scope := fScope [14, 9], globals := 3, closure := [], defaults := .none, kwdefaults := .none, doc := .none, pyModule := (.str y445419200 1875), annotations := none, code := (.ref 800), closureTuple := .none, builtins := 0 }), #[]⟩
def f802 (P : Params) : Obj := ⟨(.type "tuple"), none, (.seq #[] 0), #[]⟩
def f803 (P : Params) : Obj := ⟨.none, none, (.fields #[]), #[]⟩
def f804 (P : Params) : Obj := ⟨(.type "tuple"), none, (.seq #[(.str zself 2256), (.str zobj 2257), (.str zseen 2258), (.str zlevel 2259), (.str zindent_str 2260), (.str zend_str 2261), (.str zitem_sep 2262), (.str zkv_sep 2263), (.str zkeys 2264), (.str zs 2265), (.str zfirst_key 2266), (.str znew_keys 2267), (.str zkey 2268), (.str zkey_str 2269), (.str zval_str 2270)] 0), #[]⟩
def f805 (P : Params) : Obj := ⟨(.type "tuple"), none, (.seq #[] 0), #[]⟩
def f806 (P : Params) : Obj := ⟨.none, none, (.func { name := z_encode_dict, qualname := y239896571, params := fArgs [14, 10], body := .stmts (fBody [14, 10]), scope := fScope [14, 10], globals := 0, closure := [], defaults := .none, kwdefaults := .none, doc := .none, pyModule := .none, annotations := none, code := .none, closureTuple := .none, builtins := 0 }), #[]⟩
def f807 (P : Params) : Obj := ⟨(.type "code"), none, (.fields #[(.str z_encode_dict 2253), (.str y239896571 2254), (.str y337536729 2255), (.int 522 0), (.int 4 0), (.int 0 0), (.int 0 0), (.int 3 0), (.ref 802), (.bool true), (.int 492 0), (.ref 803), .none, (.ref 804), (.ref 805), (.ref 806), (.int 2271 0), (.int 522 0), (.str y337536729 2272)]), #[]⟩
def f808 (P : Params) : Obj := ⟨(.type "function"), none, (.func { name := z_encode_dict, qualname := y239896571, params := fArgs [14, 10], body := .stmts (fBody [14, 10]), scope := fScope [14, 10], globals := 3, closure := [], defaults := .none, kwdefaults := .none, doc := .none, pyModule := (.str y445419200 1875), annotations := none, code := (.ref 807), closureTuple := .none, builtins := 0 }), #[]⟩
def f809 (P : Params) : Obj := ⟨(.type "tuple"), none, (.seq #[] 0), #[]⟩
def f810 (P : Params) : Obj := ⟨.none, none, (.fields #[]), #[]⟩
def f811 (P : Params) : Obj := ⟨(.type "tuple"), none, (.seq #[(.str zself 2277), (.str zobj 2278), (.str zseen 2279), (.str zlevel 2280), (.str zindent_str 2281), (.str zend_str 2282), (.str zitem_sep 2283)] 0), #[]⟩
def f812 (P : Params) : Obj := ⟨(.type "tuple"), none, (.seq #[(.str zself 2284), (.str zseen 2285), (.str zlevel 2286)] 0), #[]⟩
def f813 (P : Params) : Obj := ⟨.none, none, (.func { name := z_encode_array, qualname := y98190263, params := fArgs [14, 11], body := .stmts (fBody [14, 11]), scope := fScope [14, 11], globals := 0, closure := [], defaults := .none, kwdefaults := .none, doc := .none, pyModule := .none, annotations := none, code := .none, closureTuple := .none, builtins := 0 }), #[]⟩
def f814 (P : Params) : Obj := ⟨(.type "code"), none, (.fields #[(.str z_encode_array 2274), (.str y98190263 2275), (.str y337536729 2276), (.int 555 0), (.int 4 0), (.int 0 0), (.int 0 0), (.int 3 0), (.ref 809), (.bool true), (.int 492 0), (.ref 810), .none, (.ref 811), (.ref 812), (.ref 813), (.int 2287 0), (.int 555 0), (.str y337536729 2288)]), #[]⟩
def f815 (P : Params) : Obj := ⟨(.type "function"), none, (.func { name := z_encode_array, qualname := y98190263, params := fArgs [14, 11], body := .stmts (fBody [14, 11]), scope := fScope [14, 11], globals := 3, closure := [], defaults := .none, kwdefaults := .none, doc := .none, pyModule := (.str y445419200 1875), annotations := none, code := (.ref 814), closureTuple := .none, builtins := 0 }), #[]⟩
def f816 (P : Params) : Obj := ⟨(.type "tuple"), none, (.seq #[] 0), #[]⟩
def f817 (P : Params) : Obj := ⟨.none, none, (.fields #[]), #[]⟩
def f818 (P : Params) : Obj := ⟨(.type "tuple"), none, (.seq #[(.str zself 2293), (.str zlevel 2294), (.str zend_str 2295), (.str zindent_str 2296)] 0), #[]⟩
def f819 (P : Params) : Obj := ⟨(.type "tuple"), none, (.seq #[] 0), #[]⟩
def f820 (P : Params) : Obj := ⟨.none, none, (.func { name := z_spacers, qualname := y825305131, params := fArgs [14, 12], body := .stmts (fBody [14, 12]), scope := fScope [14, 12], globals := 0, closure := [], defaults := .none, kwdefaults := .none, doc := .none, pyModule := .none, annotations := none, code := .none, closureTuple := .none, builtins := 0 }), #[]⟩
def f821 (P : Params) : Obj := ⟨(.type "code"), none, (.fields #[(.str z_spacers 2290), (.str y825305131 2291), (.str y337536729 2292), (.int 562 0), (.int 2 0), (.int 0 0), (.int 0 0), (.int 3 0), (.ref 816), (.bool true), (.int 492 0), (.ref 817), .none, (.ref 818), (.ref 819), (.ref 820), (.int 2297 0), (.int 562 0), (.str y337536729 2298)]), #[]⟩
def f822 (P : Params) : Obj := ⟨(.type "function"), none, (.func { name := z_spacers, qualname := y825305131, params := fArgs [14, 12], body := .stmts (fBody [14, 12]), scope := fScope [14, 12], globals := 3, closure := [], defaults := .none, kwdefaults := .none, doc := .none, pyModule := (.str y445419200 1875), annotations := none, code := (.ref 821), closureTuple := .none, builtins := 0 }), #[]⟩
def f823 (P : Params) : Obj := ⟨(.type "tuple"), none, (.seq #[] 0), #[]⟩
def f824 (P : Params) : Obj := ⟨.none, none, (.fields #[]), #[]⟩
def f825 (P : Params) : Obj := ⟨(.type "tuple"), none, (.seq #[(.str zself 2303), (.str zkey 2304), (.str zch 2305)] 0), #[]⟩
def f826 (P : Params) : Obj := ⟨(.type "tuple"), none, (.seq #[] 0), #[]⟩
def f827 (P : Params) : Obj := ⟨.none, none, (.func { name := zis_identifier, qualname := y874897743, params := fArgs [14, 13], body := .stmts (fBody [14, 13]), scope := fScope [14, 13], globals := 0, closure := [], defaults := .none, kwdefaults := .none, doc := .none, pyModule := .none, annotations := none, code := .none, closureTuple := .none, builtins := 0 }), #[]⟩
def f828 (P : Params) : Obj := ⟨(.type "code"), none, (.fields #[(.str zis_identifier 2300), (.str y874897743 2301), (.str y337536729 2302), (.int 582 0), (.int 2 0), (.int 0 0), (.int 0 0), (.int 3 0), (.ref 823), (.bool true), (.int 492 0), (.ref 824), .none, (.ref 825), (.ref 826), (.ref 827), (.int 2306 0), (.int 582 0), (.str y337536729 2307)]), #[]⟩
def f829 (P : Params) : Obj := ⟨(.type "function"), none, (.func { name := zis_identifier, qualname := y874897743, params := fArgs [14, 13], body := .stmts (fBody [14, 13]), scope := fScope [14, 13], globals := 3, closure := [], defaults := .none, kwdefaults := .none, doc := .none, pyModule := (.str y445419200 1875), annotations := none, code := (.ref 828), closureTuple := .none, builtins := 0 }), #[]⟩
def f830 (P : Params) : Obj := ⟨(.type "tuple"), none, (.seq #[] 0), #[]⟩
def f831 (P : Params) : Obj := ⟨.none, none, (.fields #[]), #[]⟩
def f832 (P : Params) : Obj := ⟨(.type "tuple"), none, (.seq #[(.str zself 2312), (.str zch 2313)] 0), #[]⟩
def f833 (P : Params) : Obj := ⟨(.type "tuple"), none, (.seq #[] 0), #[]⟩
def f834 (P : Params) : Obj := ⟨.none, none, (.func { name := z_is_id_start, qualname := y22189854, params := fArgs [14, 14], body := .stmts (fBody [14, 14]), scope := fScope [14, 14], globals := 0, closure := [], defaults := .none, kwdefaults := .none, doc := .none, pyModule := .none, annotations := none, code := .none, closureTuple := .none, builtins := 0 }), #[]⟩
def f835 (P : Params) : Obj := ⟨(.type "code"), none, (.fields #[(.str z_is_id_start 2309), (.str y22189854 2310), (.str y337536729 2311), (.int 590 0), (.int 2 0), (.int 0 0), (.int 0 0), (.int 3 0), (.ref 830), (.bool true), (.int 492 0), (.ref 831), .none, (.ref 832), (.ref 833), (.ref 834), (.int 2314 0), (.int 590 0), (.str y337536729 2315)]), #[]⟩
def f836 (P : Params) : Obj := ⟨(.type "function"), none, (.func { name := z_is_id_start, qualname := y22189854, params := fArgs [14, 14], body := .stmts (fBody [14, 14]), scope := fScope [14, 14], globals := 3, closure := [], defaults := .none, kwdefaults := .none, doc := .none, pyModule := (.str y445419200 1875), annotations := none, code := (.ref 835), closureTuple := .none, builtins := 0 }), #[]⟩
def f837 (P : Params) : Obj := ⟨(.type "tuple"), none, (.seq #[] 0), #[]⟩
def f838 (P : Params) : Obj := ⟨.none, none, (.fields #[]), #[]⟩
def f839 (P : Params) : Obj := ⟨(.type "tuple"), none, (.seq #[(.str zself 2320), (.str zch 2321)] 0), #[]⟩
def f840 (P : Params) : Obj := ⟨(.type "tuple"), none, (.seq #[] 0), #[]⟩
def f841 (P : Params) : Obj := ⟨.none, none, (.func { name := z_is_id_continue, qualname := y246103525, params := fArgs [14, 15], body := .stmts (fBody [14, 15]), scope := fScope [14, 15], globals := 0, closure := [], defaults := .none, kwdefaults := .none, doc := .none, pyModule := .none, annotations := none, code := .none, closureTuple := .none, builtins := 0 }), #[]⟩
def f842 (P : Params) : Obj := ⟨(.type "code"), none, (.fields #[(.str z_is_id_continue 2317), (.str y246103525 2318), (.str y337536729 2319), (.int 593 0), (.int 2 0), (.int 0 0), (.int 0 0), (.int 3 0), (.ref 837), (.bool true), (.int 492 0), (.ref 838), .none, (.ref 839), (.ref 840), (.ref 841), (.int 2322 0), (.int 593 0), (.str y337536729 2323)]), #[]⟩
def f843 (P : Params) : Obj := ⟨(.type "function"), none, (.func { name := z_is_id_continue, qualname := y246103525, params := fArgs [14, 15], body := .stmts (fBody [14, 15]), scope := fScope [14, 15], globals := 3, closure := [], defaults := .none, kwdefaults := .none, doc := .none, pyModule := (.str y445419200 1875), annotations := none, code := (.ref 842), closureTuple := .none, builtins := 0 }), #[]⟩
def f844 (P : Params) : Obj := ⟨(.type "tuple"), none, (.seq #[] 0), #[]⟩
def f845 (P : Params) : Obj := ⟨.none, none, (.fields #[]), #[]⟩
def f846 (P : Params) : Obj := ⟨(.type "tuple"), none, (.seq #[(.str zself 2328), (.str zkey 2329)] 0), #[]⟩
def f847 (P : Params) : Obj := ⟨(.type "tuple"), none, (.seq #[] 0), #[]⟩
def f848 (P : Params) : Obj := ⟨.none, none, (.func { name := zis_reserved_word, qualname := y984149231, params := fArgs [14, 16], body := .stmts (fBody [14, 16]), scope := fScope [14, 16], globals := 0, closure := [], defaults := .none, kwdefaults := .none, doc := .none, pyModule := .none, annotations := none, code := .none, closureTuple := .none, builtins := 0 }), #[]⟩
def f849 (P : Params) : Obj := ⟨(.type "code"), none, (.fields #[(.str zis_reserved_word 2325), (.str y984149231 2326), (.str y337536729 2327), (.int 596 0), (.int 2 0), (.int 0 0), (.int 0 0), (.int 3 0), (.ref 844), (.bool true), (.int 492 0), (.ref 845), .none, (.ref 846), (.ref 847), (.ref 848), (.int 2330 0), (.int 596 0), (.str y337536729 2331)]), #[]⟩
def f850 (P : Params) : Obj := ⟨(.type "function"), none, (.func { name := zis_reserved_word, qualname := y984149231, params := fArgs [14, 16], body := .stmts (fBody [14, 16]), scope := fScope [14, 16], globals := 3, closure := [], defaults := .none, kwdefaults := .none, doc := .none, pyModule := (.str y445419200 1875), annotations := none, code := (.ref 849), closureTuple := .none, builtins := 0 }), #[]⟩
def f851 (P : Params) : Obj := ⟨(.type "tuple"), none, (.seq #[(.str zallow_duplicate_keys 2333), (.str zallow_nan 2334), (.str zdefault_fn 2335), (.str zensure_ascii 2336), (.str zindent 2337), (.str zitem_separator 2338), (.str zkv_separator 2339), (.str zquote_keys 2340), (.str zquote_style 2341), (.str zseparators 2342), (.str zskipkeys 2343), (.str zsort_keys 2344), (.str ztrailing_commas 2345)] 0), #[]⟩
def f852 (P : Params) : Obj := ⟨(.type "dict"), none, (.dict #[⟨PyData.keyHash P z__module__, (.str z__module__ 2119), (.str y445419200 1875)⟩, ⟨PyData.keyHash P z__firstlineno__, (.str z__firstlineno__ 2123), (.int 374 2122)⟩, ⟨PyData.keyHash P z__init__, (.str z__init__ 2153), (.ref 738)⟩, ⟨PyData.keyHash P zdefault, (.str zdefault 2161), (.ref 745)⟩, ⟨PyData.keyHash P zencoded, (.str zencoded 2173), (.ref 752)⟩, ⟨PyData.keyHash P z_encode_basic_type, (.str z_encode_basic_type 2182), (.ref 759)⟩, ⟨PyData.keyHash P z_encode_int, (.str z_encode_int 2192), (.ref 766)⟩, ⟨PyData.keyHash P z_encode_float, (.str z_encode_float 2203), (.ref 773)⟩, ⟨PyData.keyHash P z_encode_str, (.str z_encode_str 2212), (.ref 780)⟩, ⟨PyData.keyHash P z_encode_quoted_str, (.str z_encode_quoted_str 2229), (.ref 787)⟩, ⟨PyData.keyHash P z_escape_ch, (.str z_escape_ch 2241), (.ref 794)⟩, ⟨PyData.keyHash P z_encode_non_basic_type, (.str z_encode_non_basic_type 2252), (.ref 801)⟩, ⟨PyData.keyHash P z_encode_dict, (.str z_encode_dict 2273), (.ref 808)⟩, ⟨PyData.keyHash P z_encode_array, (.str z_encode_array 2289), (.ref 815)⟩, ⟨PyData.keyHash P z_spacers, (.str z_spacers 2299), (.ref 822)⟩, ⟨PyData.keyHash P zis_identifier, (.str zis_identifier 2308), (.ref 829)⟩, ⟨PyData.keyHash P z_is_id_start, (.str z_is_id_start 2316), (.ref 836)⟩, ⟨PyData.keyHash P z_is_id_continue, (.str z_is_id_continue 2324), (.ref 843)⟩, ⟨PyData.keyHash P zis_reserved_word, (.str zis_reserved_word 2332), (.ref 850)⟩, ⟨PyData.keyHash P z__static_attributes__, (.str z__static_attributes__ 2346), (.ref 851)⟩, ⟨PyData.keyHash P z__dict__, (.str z__dict__ 2348), (.ref 854)⟩, ⟨PyData.keyHash P z__weakref__, (.str z__weakref__ 2350), (.ref 855)⟩, ⟨PyData.keyHash P z__doc__, (.str z__doc__ 2351), .none⟩] 4), #[]⟩
def f853 (P : Params) : Obj := ⟨(.type "type"), none, (.cls { name := zJSON5Encoder, bases := [(.type "object")], mro := [(.ref 853), (.type "object")], ns := 852, qualname := zJSON5Encoder, hasDict := true, slotNames := [], subclasses := [], abstract := false, collection := none, hasDel := false }), #[none, none, (some (.str zJSON5Encoder 2112)), (some (.str zJSON5Encoder 2120)), (some (.builtin "object.__new__")), (some (.bool true))]⟩
def f854 (P : Params) : Obj := ⟨(.type "getset_descriptor"), none, (.fields #[(.str z__dict__ 2347), (.ref 853), (.builtin "function.__dict__"), (.builtin "function.__dict__#set")]), #[]⟩
def f855 (P : Params) : Obj := ⟨(.type "getset_descriptor"), none, (.fields #[(.str z__weakref__ 2349), (.ref 853), (.builtin "ExceptionGroup.__weakref__"), .none]), #[]⟩
def f856 (P : Params) : Obj := ⟨(.type "super"), none, (.fields #[(.ref 853), (.ref 853), (.ref 853)]), #[]⟩
def f857 (P : Params) : Obj := ⟨(.type "builtin_function_or_method"), none, (.fields #[(.builtin "object.__init_subclass__"), (.ref 853)]), #[]⟩
def f858 (P : Params) : Obj := ⟨(.type "tuple"), none, (.seq #[] 0), #[]⟩
def f859 (P : Params) : Obj := ⟨.none, none, (.fields #[]), #[]⟩
def f860 (P : Params) : Obj := ⟨(.type "tuple"), none, (.seq #[(.str zobj 2357)] 0), #[]⟩
def f861 (P : Params) : Obj := ⟨(.type "tuple"), none, (.seq #[] 0), #[]⟩
def f862 (P : Params) : Obj := ⟨.none, none, (.func { name := z_raise_type_error, qualname := z_raise_type_error, params := fArgs [15], body := .stmts (fBody [15]), scope := fScope [15], globals := 0, closure := [], defaults := .none, kwdefaults := .none, doc := .none, pyModule := .none, annotations := none, code := .none, closureTuple := .none, builtins := 0 }), #[]⟩
def f863 (P : Params) : Obj := ⟨(.type "code"), none, (.fields #[(.str z_raise_type_error 2354), (.str z_raise_type_error 2355), (.str y337536729 2356), (.int 598 0), (.int 1 0), (.int 0 0), (.int 0 0), (.int 3 0), (.ref 858), (.bool true), (.int 492 0), (.ref 859), .none, (.ref 860), (.ref 861), (.ref 862), (.int 2358 0), (.int 598 0), (.str y337536729 2359)]), #[]⟩
def f864 (P : Params) : Obj := ⟨(.type "function"), none, (.func { name := z_raise_type_error, qualname := z_raise_type_error, params := fArgs [15], body := .stmts (fBody [15]), scope := fScope [15], globals := 3, closure := [], defaults := .none, kwdefaults := .none, doc := .none, pyModule := (.str y445419200 1875), annotations := none, code := (.ref 863), closureTuple := .none, builtins := 0 }), #[]⟩
def f865 (P : Params) : Obj := ⟨(.type "tuple"), none, (.seq #[] 0), #[]⟩
def f866 (P : Params) : Obj := ⟨.none, none, (.fields #[]), #[]⟩
def f867 (P : Params) : Obj := ⟨(.type "tuple"), none, (.seq #[(.str zscript 2366), (.str zplace 2367)] 0), #[]⟩
def f868 (P : Params) : Obj := ⟨(.type "tuple"), none, (.seq #[] 0), #[]⟩
def f869 (P : Params) : Obj := ⟨.none, none, (.func { name := z_law_number, qualname := z_law_number, params := fArgs [17], body := .stmts (fBody [17]), scope := fScope [17], globals := 0, closure := [], defaults := .none, kwdefaults := .none, doc := .none, pyModule := .none, annotations := none, code := .none, closureTuple := .none, builtins := 0 }), #[]⟩
def f870 (P : Params) : Obj := ⟨(.type "code"), none, (.fields #[(.str z_law_number 2363), (.str z_law_number 2364), (.str y337536729 2365), (.int 601 0), (.int 2 0), (.int 0 0), (.int 0 0), (.int 3 0), (.ref 865), (.bool true), (.int 492 0), (.ref 866), .none, (.ref 867), (.ref 868), (.ref 869), (.int 2368 0), (.int 601 0), (.str y337536729 2369)]), #[]⟩
def f871 (P : Params) : Obj := ⟨(.type "function"), none, (.func { name := z_law_number, qualname := z_law_number, params := fArgs [17], body := .stmts (fBody [17]), scope := fScope [17], globals := 3, closure := [], defaults := .none, kwdefaults := .none, doc := .none, pyModule := (.str zlaw_ww0010_03 2361), annotations := none, code := (.ref 870), closureTuple := .none, builtins := 0 }), #[]⟩
def f872 (P : Params) : Obj := ⟨(.type "tuple"), none, (.seq #[] 0), #[]⟩
def f873 (P : Params) : Obj := ⟨.none, none, (.fields #[]), #[]⟩
def f874 (P : Params) : Obj := ⟨.none, none, (.func { name := z_law_written, qualname := z_law_written, params := fArgs [18], body := .stmts (fBody [18]), scope := fScope [18], globals := 0, closure := [], defaults := .none, kwdefaults := .none, doc := .none, pyModule := .none, annotations := none, code := .none, closureTuple := .none, builtins := 0 }), #[]⟩
def f875 (P : Params) : Obj := ⟨(.type "code"), none, (.fields #[(.str z_law_written 2371), (.str z_law_written 2372), (.str y337536729 2373), (.int 603 0), (.int 2 0), (.int 0 0), (.int 0 0), (.int 3 0), (.ref 872), (.bool true), (.int 492 0), (.ref 873), .none, .none, .none, (.ref 874), (.int 2374 0), (.int 603 0), (.str y337536729 2375)]), #[]⟩
def f876 (P : Params) : Obj := ⟨(.type "function"), none, (.func { name := z_law_written, qualname := z_law_written, params := fArgs [18], body := .stmts (fBody [18]), scope := fScope [18], globals := 3, closure := [], defaults := .none, kwdefaults := .none, doc := .none, pyModule := (.str zlaw_ww0010_03 2361), annotations := none, code := (.ref 875), closureTuple := .none, builtins := 0 }), #[]⟩
def f877 (P : Params) : Obj := ⟨(.type "tuple"), none, (.seq #[] 0), #[]⟩
def f878 (P : Params) : Obj := ⟨.none, none, (.fields #[]), #[]⟩
def f879 (P : Params) : Obj := ⟨.none, none, (.func { name := zlaw, qualname := zlaw, params := fArgs [19], body := .stmts (fBody [19]), scope := fScope [19], globals := 0, closure := [], defaults := .none, kwdefaults := .none, doc := .none, pyModule := .none, annotations := none, code := .none, closureTuple := .none, builtins := 0 }), #[]⟩
def f880 (P : Params) : Obj := ⟨(.type "code"), none, (.fields #[(.str zlaw 2377), (.str zlaw 2378), (.str y337536729 2379), (.int 606 0), (.int 1 0), (.int 0 0), (.int 0 0), (.int 3 0), (.ref 877), (.bool true), (.int 492 0), (.ref 878), .none, .none, .none, (.ref 879), (.int 2380 0), (.int 606 0), (.str y337536729 2381)]), #[]⟩
def f881 (P : Params) : Obj := ⟨(.type "function"), none, (.func { name := zlaw, qualname := zlaw, params := fArgs [19], body := .stmts (fBody [19]), scope := fScope [19], globals := 3, closure := [], defaults := .none, kwdefaults := .none, doc := .none, pyModule := (.str zlaw_ww0010_03 2361), annotations := none, code := (.ref 880), closureTuple := .none, builtins := 0 }), #[]⟩
@[irreducible] noncomputable def tF (w : World) (os : OsState) (P : Params) : BT := (.node (f0 P) (.node (pD w os 1) (.node (f3 P) (.node (pD w os 7) (.node (pD w os 15) (.node (pD w os 31) (.node (pD w os 63) (.node (f127 P) (.node (f255 P) (.node (f511 P) .nil .nil) (.node (f767 P) .nil .nil)) (.node (f383 P) (.node (f639 P) .nil .nil) .nil)) (.node (f191 P) (.node (f319 P) (.node (f575 P) .nil .nil) (.node (f831 P) .nil .nil)) (.node (f447 P) (.node (f703 P) .nil .nil) .nil))) (.node (f95 P) (.node (f159 P) (.node (f287 P) (.node (f543 P) .nil .nil) (.node (f799 P) .nil .nil)) (.node (f415 P) (.node (f671 P) .nil .nil) .nil)) (.node (f223 P) (.node (f351 P) (.node (f607 P) .nil .nil) (.node (f863 P) .nil .nil)) (.node (f479 P) (.node (f735 P) .nil .nil) .nil)))) (.node (pD w os 47) (.node (f79 P) (.node (f143 P) (.node (f271 P) (.node (f527 P) .nil .nil) (.node (f783 P) .nil .nil)) (.node (f399 P) (.node (f655 P) .nil .nil) .nil)) (.node (f207 P) (.node (f335 P) (.node (f591 P) .nil .nil) (.node (f847 P) .nil .nil)) (.node (f463 P) (.node (f719 P) .nil .nil) .nil))) (.node (f111 P) (.node (f175 P) (.node (f303 P) (.node (f559 P) .nil .nil) (.node (f815 P) .nil .nil)) (.node (f431 P) (.node (f687 P) .nil .nil) .nil)) (.node (f239 P) (.node (f367 P) (.node (f623 P) .nil .nil) (.node (f879 P) .nil .nil)) (.node (f495 P) (.node (f751 P) .nil .nil) .nil))))) (.node (pD w os 23) (.node (pD w os 39) (.node (pD w os 71) (.node (f135 P) (.node (f263 P) (.node (f519 P) .nil .nil) (.node (f775 P) .nil .nil)) (.node (f391 P) (.node (f647 P) .nil .nil) .nil)) (.node (f199 P) (.node (f327 P) (.node (f583 P) .nil .nil) (.node (f839 P) .nil .nil)) (.node (f455 P) (.node (f711 P) .nil .nil) .nil))) (.node (f103 P) (.node (f167 P) (.node (f295 P) (.node (f551 P) .nil .nil) (.node (f807 P) .nil .nil)) (.node (f423 P) (.node (f679 P) .nil .nil) .nil)) (.node (f231 P) (.node (f359 P) (.node (f615 P) .nil .nil) (.node (f871 P) .nil .nil)) (.node (f487 P) (.node (f743 P) .nil .nil) .nil)))) (.node (pD w os 55) (.node (f87 P) (.node (f151 P) (.node (f279 P) (.node (f535 P) .nil .nil) (.node (f791 P) .nil .nil)) (.node (f407 P) (.node (f663 P) .nil .nil) .nil)) (.node (f215 P) (.node (f343 P) (.node (f599 P) .nil .nil) (.node (f855 P) .nil .nil)) (.node (f471 P) (.node (f727 P) .nil .nil) .nil))) (.node (f119 P) (.node (f183 P) (.node (f311 P) (.node (f567 P) .nil .nil) (.node (f823 P) .nil .nil)) (.node (f439 P) (.node (f695 P) .nil .nil) .nil)) (.node (f247 P) (.node (f375 P) (.node (f631 P) .nil .nil) .nil) (.node (f503 P) (.node (f759 P) .nil .nil) .nil)))))) (.node (pD w os 11) (.node (pD w os 19) (.node (pD w os 35) (.node (pD w os 67) (.node (f131 P) (.node (f259 P) (.node (f515 P) .nil .nil) (.node (f771 P) .nil .nil)) (.node (f387 P) (.node (f643 P) .nil .nil) .nil)) (.node (f195 P) (.node (f323 P) (.node (f579 P) .nil .nil) (.node (f835 P) .nil .nil)) (.node (f451 P) (.node (f707 P) .nil .nil) .nil))) (.node (f99 P) (.node (f163 P) (.node (f291 P) (.node (f547 P) .nil .nil) (.node (f803 P) .nil .nil)) (.node (f419 P) (.node (f675 P) .nil .nil) .nil)) (.node (f227 P) (.node (f355 P) (.node (f611 P) .nil .nil) (.node (f867 P) .nil .nil)) (.node (f483 P) (.node (f739 P) .nil .nil) .nil)))) (.node (pD w os 51) (.node (f83 P) (.node (f147 P) (.node (f275 P) (.node (f531 P) .nil .nil) (.node (f787 P) .nil .nil)) (.node (f403 P) (.node (f659 P) .nil .nil) .nil)) (.node (f211 P) (.node (f339 P) (.node (f595 P) .nil .nil) (.node (f851 P) .nil .nil)) (.node (f467 P) (.node (f723 P) .nil .nil) .nil))) (.node (f115 P) (.node (f179 P) (.node (f307 P) (.node (f563 P) .nil .nil) (.node (f819 P) .nil .nil)) (.node (f435 P) (.node (f691 P) .nil .nil) .nil)) (.node (f243 P) (.node (f371 P) (.node (f627 P) .nil .nil) .nil) (.node (f499 P) (.node (f755 P) .nil .nil) .nil))))) (.node (pD w os 27) (.node (pD w os 43) (.node (f75 P) (.node (f139 P) (.node (f267 P) (.node (f523 P) .nil .nil) (.node (f779 P) .nil .nil)) (.node (f395 P) (.node (f651 P) .nil .nil) .nil)) (.node (f203 P) (.node (f331 P) (.node (f587 P) .nil .nil) (.node (f843 P) .nil .nil)) (.node (f459 P) (.node (f715 P) .nil .nil) .nil))) (.node (f107 P) (.node (f171 P) (.node (f299 P) (.node (f555 P) .nil .nil) (.node (f811 P) .nil .nil)) (.node (f427 P) (.node (f683 P) .nil .nil) .nil)) (.node (f235 P) (.node (f363 P) (.node (f619 P) .nil .nil) (.node (f875 P) .nil .nil)) (.node (f491 P) (.node (f747 P) .nil .nil) .nil)))) (.node (f59 P) (.node (f91 P) (.node (f155 P) (.node (f283 P) (.node (f539 P) .nil .nil) (.node (f795 P) .nil .nil)) (.node (f411 P) (.node (f667 P) .nil .nil) .nil)) (.node (f219 P) (.node (f347 P) (.node (f603 P) .nil .nil) (.node (f859 P) .nil .nil)) (.node (f475 P) (.node (f731 P) .nil .nil) .nil))) (.node (f123 P) (.node (f187 P) (.node (f315 P) (.node (f571 P) .nil .nil) (.node (f827 P) .nil .nil)) (.node (f443 P) (.node (f699 P) .nil .nil) .nil)) (.node (f251 P) (.node (f379 P) (.node (f635 P) .nil .nil) .nil) (.node (f507 P) (.node (f763 P) .nil .nil) .nil))))))) (.node (pD w os 5) (.node (pD w os 9) (.node (pD w os 17) (.node (pD w os 33) (.node (pD w os 65) (.node (f129 P) (.node (f257 P) (.node (f513 P) .nil .nil) (.node (f769 P) .nil .nil)) (.node (f385 P) (.node (f641 P) .nil .nil) .nil)) (.node (f193 P) (.node (f321 P) (.node (f577 P) .nil .nil) (.node (f833 P) .nil .nil)) (.node (f449 P) (.node (f705 P) .nil .nil) .nil))) (.node (f97 P) (.node (f161 P) (.node (f289 P) (.node (f545 P) .nil .nil) (.node (f801 P) .nil .nil)) (.node (f417 P) (.node (f673 P) .nil .nil) .nil)) (.node (f225 P) (.node (f353 P) (.node (f609 P) .nil .nil) (.node (f865 P) .nil .nil)) (.node (f481 P) (.node (f737 P) .nil .nil) .nil)))) (.node (pD w os 49) (.node (f81 P) (.node (f145 P) (.node (f273 P) (.node (f529 P) .nil .nil) (.node (f785 P) .nil .nil)) (.node (f401 P) (.node (f657 P) .nil .nil) .nil)) (.node (f209 P) (.node (f337 P) (.node (f593 P) .nil .nil) (.node (f849 P) .nil .nil)) (.node (f465 P) (.node (f721 P) .nil .nil) .nil))) (.node (f113 P) (.node (f177 P) (.node (f305 P) (.node (f561 P) .nil .nil) (.node (f817 P) .nil .nil)) (.node (f433 P) (.node (f689 P) .nil .nil) .nil)) (.node (f241 P) (.node (f369 P) (.node (f625 P) .nil .nil) (.node (f881 P) .nil .nil)) (.node (f497 P) (.node (f753 P) .nil .nil) .nil))))) (.node (pD w os 25) (.node (pD w os 41) (.node (f73 P) (.node (f137 P) (.node (f265 P) (.node (f521 P) .nil .nil) (.node (f777 P) .nil .nil)) (.node (f393 P) (.node (f649 P) .nil .nil) .nil)) (.node (f201 P) (.node (f329 P) (.node (f585 P) .nil .nil) (.node (f841 P) .nil .nil)) (.node (f457 P) (.node (f713 P) .nil .nil) .nil))) (.node (f105 P) (.node (f169 P) (.node (f297 P) (.node (f553 P) .nil .nil) (.node (f809 P) .nil .nil)) (.node (f425 P) (.node (f681 P) .nil .nil) .nil)) (.node (f233 P) (.node (f361 P) (.node (f617 P) .nil .nil) (.node (f873 P) .nil .nil)) (.node (f489 P) (.node (f745 P) .nil .nil) .nil)))) (.node (pD w os 57) (.node (f89 P) (.node (f153 P) (.node (f281 P) (.node (f537 P) .nil .nil) (.node (f793 P) .nil .nil)) (.node (f409 P) (.node (f665 P) .nil .nil) .nil)) (.node (f217 P) (.node (f345 P) (.node (f601 P) .nil .nil) (.node (f857 P) .nil .nil)) (.node (f473 P) (.node (f729 P) .nil .nil) .nil))) (.node (f121 P) (.node (f185 P) (.node (f313 P) (.node (f569 P) .nil .nil) (.node (f825 P) .nil .nil)) (.node (f441 P) (.node (f697 P) .nil .nil) .nil)) (.node (f249 P) (.node (f377 P) (.node (f633 P) .nil .nil) .nil) (.node (f505 P) (.node (f761 P) .nil .nil) .nil)))))) (.node (pD w os 13) (.node (pD w os 21) (.node (pD w os 37) (.node (pD w os 69) (.node (f133 P) (.node (f261 P) (.node (f517 P) .nil .nil) (.node (f773 P) .nil .nil)) (.node (f389 P) (.node (f645 P) .nil .nil) .nil)) (.node (f197 P) (.node (f325 P) (.node (f581 P) .nil .nil) (.node (f837 P) .nil .nil)) (.node (f453 P) (.node (f709 P) .nil .nil) .nil))) (.node (f101 P) (.node (f165 P) (.node (f293 P) (.node (f549 P) .nil .nil) (.node (f805 P) .nil .nil)) (.node (f421 P) (.node (f677 P) .nil .nil) .nil)) (.node (f229 P) (.node (f357 P) (.node (f613 P) .nil .nil) (.node (f869 P) .nil .nil)) (.node (f485 P) (.node (f741 P) .nil .nil) .nil)))) (.node (pD w os 53) (.node (f85 P) (.node (f149 P) (.node (f277 P) (.node (f533 P) .nil .nil) (.node (f789 P) .nil .nil)) (.node (f405 P) (.node (f661 P) .nil .nil) .nil)) (.node (f213 P) (.node (f341 P) (.node (f597 P) .nil .nil) (.node (f853 P) .nil .nil)) (.node (f469 P) (.node (f725 P) .nil .nil) .nil))) (.node (f117 P) (.node (f181 P) (.node (f309 P) (.node (f565 P) .nil .nil) (.node (f821 P) .nil .nil)) (.node (f437 P) (.node (f693 P) .nil .nil) .nil)) (.node (f245 P) (.node (f373 P) (.node (f629 P) .nil .nil) .nil) (.node (f501 P) (.node (f757 P) .nil .nil) .nil))))) (.node (pD w os 29) (.node (pD w os 45) (.node (f77 P) (.node (f141 P) (.node (f269 P) (.node (f525 P) .nil .nil) (.node (f781 P) .nil .nil)) (.node (f397 P) (.node (f653 P) .nil .nil) .nil)) (.node (f205 P) (.node (f333 P) (.node (f589 P) .nil .nil) (.node (f845 P) .nil .nil)) (.node (f461 P) (.node (f717 P) .nil .nil) .nil))) (.node (f109 P) (.node (f173 P) (.node (f301 P) (.node (f557 P) .nil .nil) (.node (f813 P) .nil .nil)) (.node (f429 P) (.node (f685 P) .nil .nil) .nil)) (.node (f237 P) (.node (f365 P) (.node (f621 P) .nil .nil) (.node (f877 P) .nil .nil)) (.node (f493 P) (.node (f749 P) .nil .nil) .nil)))) (.node (pD w os 61) (.node (f93 P) (.node (f157 P) (.node (f285 P) (.node (f541 P) .nil .nil) (.node (f797 P) .nil .nil)) (.node (f413 P) (.node (f669 P) .nil .nil) .nil)) (.node (f221 P) (.node (f349 P) (.node (f605 P) .nil .nil) (.node (f861 P) .nil .nil)) (.node (f477 P) (.node (f733 P) .nil .nil) .nil))) (.node (f125 P) (.node (f189 P) (.node (f317 P) (.node (f573 P) .nil .nil) (.node (f829 P) .nil .nil)) (.node (f445 P) (.node (f701 P) .nil .nil) .nil)) (.node (f253 P) (.node (f381 P) (.node (f637 P) .nil .nil) .nil) (.node (f509 P) (.node (f765 P) .nil .nil) .nil)))))))) (.node (f2 P) (.node (f4 P) (.node (pD w os 8) (.node (pD w os 16) (.node (pD w os 32) (.node (pD w os 64) (.node (f128 P) (.node (f256 P) (.node (f512 P) .nil .nil) (.node (f768 P) .nil .nil)) (.node (f384 P) (.node (f640 P) .nil .nil) .nil)) (.node (f192 P) (.node (f320 P) (.node (f576 P) .nil .nil) (.node (f832 P) .nil .nil)) (.node (f448 P) (.node (f704 P) .nil .nil) .nil))) (.node (f96 P) (.node (f160 P) (.node (f288 P) (.node (f544 P) .nil .nil) (.node (f800 P) .nil .nil)) (.node (f416 P) (.node (f672 P) .nil .nil) .nil)) (.node (f224 P) (.node (f352 P) (.node (f608 P) .nil .nil) (.node (f864 P) .nil .nil)) (.node (f480 P) (.node (f736 P) .nil .nil) .nil)))) (.node (pD w os 48) (.node (f80 P) (.node (f144 P) (.node (f272 P) (.node (f528 P) .nil .nil) (.node (f784 P) .nil .nil)) (.node (f400 P) (.node (f656 P) .nil .nil) .nil)) (.node (f208 P) (.node (f336 P) (.node (f592 P) .nil .nil) (.node (f848 P) .nil .nil)) (.node (f464 P) (.node (f720 P) .nil .nil) .nil))) (.node (f112 P) (.node (f176 P) (.node (f304 P) (.node (f560 P) .nil .nil) (.node (f816 P) .nil .nil)) (.node (f432 P) (.node (f688 P) .nil .nil) .nil)) (.node (f240 P) (.node (f368 P) (.node (f624 P) .nil .nil) (.node (f880 P) .nil .nil)) (.node (f496 P) (.node (f752 P) .nil .nil) .nil))))) (.node (pD w os 24) (.node (pD w os 40) (.node (f72 P) (.node (f136 P) (.node (f264 P) (.node (f520 P) .nil .nil) (.node (f776 P) .nil .nil)) (.node (f392 P) (.node (f648 P) .nil .nil) .nil)) (.node (f200 P) (.node (f328 P) (.node (f584 P) .nil .nil) (.node (f840 P) .nil .nil)) (.node (f456 P) (.node (f712 P) .nil .nil) .nil))) (.node (f104 P) (.node (f168 P) (.node (f296 P) (.node (f552 P) .nil .nil) (.node (f808 P) .nil .nil)) (.node (f424 P) (.node (f680 P) .nil .nil) .nil)) (.node (f232 P) (.node (f360 P) (.node (f616 P) .nil .nil) (.node (f872 P) .nil .nil)) (.node (f488 P) (.node (f744 P) .nil .nil) .nil)))) (.node (pD w os 56) (.node (f88 P) (.node (f152 P) (.node (f280 P) (.node (f536 P) .nil .nil) (.node (f792 P) .nil .nil)) (.node (f408 P) (.node (f664 P) .nil .nil) .nil)) (.node (f216 P) (.node (f344 P) (.node (f600 P) .nil .nil) (.node (f856 P) .nil .nil)) (.node (f472 P) (.node (f728 P) .nil .nil) .nil))) (.node (f120 P) (.node (f184 P) (.node (f312 P) (.node (f568 P) .nil .nil) (.node (f824 P) .nil .nil)) (.node (f440 P) (.node (f696 P) .nil .nil) .nil)) (.node (f248 P) (.node (f376 P) (.node (f632 P) .nil .nil) .nil) (.node (f504 P) (.node (f760 P) .nil .nil) .nil)))))) (.node (pD w os 12) (.node (pD w os 20) (.node (pD w os 36) (.node (pD w os 68) (.node (f132 P) (.node (f260 P) (.node (f516 P) .nil .nil) (.node (f772 P) .nil .nil)) (.node (f388 P) (.node (f644 P) .nil .nil) .nil)) (.node (f196 P) (.node (f324 P) (.node (f580 P) .nil .nil) (.node (f836 P) .nil .nil)) (.node (f452 P) (.node (f708 P) .nil .nil) .nil))) (.node (f100 P) (.node (f164 P) (.node (f292 P) (.node (f548 P) .nil .nil) (.node (f804 P) .nil .nil)) (.node (f420 P) (.node (f676 P) .nil .nil) .nil)) (.node (f228 P) (.node (f356 P) (.node (f612 P) .nil .nil) (.node (f868 P) .nil .nil)) (.node (f484 P) (.node (f740 P) .nil .nil) .nil)))) (.node (pD w os 52) (.node (f84 P) (.node (f148 P) (.node (f276 P) (.node (f532 P) .nil .nil) (.node (f788 P) .nil .nil)) (.node (f404 P) (.node (f660 P) .nil .nil) .nil)) (.node (f212 P) (.node (f340 P) (.node (f596 P) .nil .nil) (.node (f852 P) .nil .nil)) (.node (f468 P) (.node (f724 P) .nil .nil) .nil))) (.node (f116 P) (.node (f180 P) (.node (f308 P) (.node (f564 P) .nil .nil) (.node (f820 P) .nil .nil)) (.node (f436 P) (.node (f692 P) .nil .nil) .nil)) (.node (f244 P) (.node (f372 P) (.node (f628 P) .nil .nil) .nil) (.node (f500 P) (.node (f756 P) .nil .nil) .nil))))) (.node (pD w os 28) (.node (pD w os 44) (.node (f76 P) (.node (f140 P) (.node (f268 P) (.node (f524 P) .nil .nil) (.node (f780 P) .nil .nil)) (.node (f396 P) (.node (f652 P) .nil .nil) .nil)) (.node (f204 P) (.node (f332 P) (.node (f588 P) .nil .nil) (.node (f844 P) .nil .nil)) (.node (f460 P) (.node (f716 P) .nil .nil) .nil))) (.node (f108 P) (.node (f172 P) (.node (f300 P) (.node (f556 P) .nil .nil) (.node (f812 P) .nil .nil)) (.node (f428 P) (.node (f684 P) .nil .nil) .nil)) (.node (f236 P) (.node (f364 P) (.node (f620 P) .nil .nil) (.node (f876 P) .nil .nil)) (.node (f492 P) (.node (f748 P) .nil .nil) .nil)))) (.node (f60 P) (.node (f92 P) (.node (f156 P) (.node (f284 P) (.node (f540 P) .nil .nil) (.node (f796 P) .nil .nil)) (.node (f412 P) (.node (f668 P) .nil .nil) .nil)) (.node (f220 P) (.node (f348 P) (.node (f604 P) .nil .nil) (.node (f860 P) .nil .nil)) (.node (f476 P) (.node (f732 P) .nil .nil) .nil))) (.node (f124 P) (.node (f188 P) (.node (f316 P) (.node (f572 P) .nil .nil) (.node (f828 P) .nil .nil)) (.node (f444 P) (.node (f700 P) .nil .nil) .nil)) (.node (f252 P) (.node (f380 P) (.node (f636 P) .nil .nil) .nil) (.node (f508 P) (.node (f764 P) .nil .nil) .nil))))))) (.node (pD w os 6) (.node (pD w os 10) (.node (pD w os 18) (.node (pD w os 34) (.node (pD w os 66) (.node (f130 P) (.node (f258 P) (.node (f514 P) .nil .nil) (.node (f770 P) .nil .nil)) (.node (f386 P) (.node (f642 P) .nil .nil) .nil)) (.node (f194 P) (.node (f322 P) (.node (f578 P) .nil .nil) (.node (f834 P) .nil .nil)) (.node (f450 P) (.node (f706 P) .nil .nil) .nil))) (.node (f98 P) (.node (f162 P) (.node (f290 P) (.node (f546 P) .nil .nil) (.node (f802 P) .nil .nil)) (.node (f418 P) (.node (f674 P) .nil .nil) .nil)) (.node (f226 P) (.node (f354 P) (.node (f610 P) .nil .nil) (.node (f866 P) .nil .nil)) (.node (f482 P) (.node (f738 P) .nil .nil) .nil)))) (.node (pD w os 50) (.node (f82 P) (.node (f146 P) (.node (f274 P) (.node (f530 P) .nil .nil) (.node (f786 P) .nil .nil)) (.node (f402 P) (.node (f658 P) .nil .nil) .nil)) (.node (f210 P) (.node (f338 P) (.node (f594 P) .nil .nil) (.node (f850 P) .nil .nil)) (.node (f466 P) (.node (f722 P) .nil .nil) .nil))) (.node (f114 P) (.node (f178 P) (.node (f306 P) (.node (f562 P) .nil .nil) (.node (f818 P) .nil .nil)) (.node (f434 P) (.node (f690 P) .nil .nil) .nil)) (.node (f242 P) (.node (f370 P) (.node (f626 P) .nil .nil) .nil) (.node (f498 P) (.node (f754 P) .nil .nil) .nil))))) (.node (pD w os 26) (.node (pD w os 42) (.node (f74 P) (.node (f138 P) (.node (f266 P) (.node (f522 P) .nil .nil) (.node (f778 P) .nil .nil)) (.node (f394 P) (.node (f650 P) .nil .nil) .nil)) (.node (f202 P) (.node (f330 P) (.node (f586 P) .nil .nil) (.node (f842 P) .nil .nil)) (.node (f458 P) (.node (f714 P) .nil .nil) .nil))) (.node (f106 P) (.node (f170 P) (.node (f298 P) (.node (f554 P) .nil .nil) (.node (f810 P) .nil .nil)) (.node (f426 P) (.node (f682 P) .nil .nil) .nil)) (.node (f234 P) (.node (f362 P) (.node (f618 P) .nil .nil) (.node (f874 P) .nil .nil)) (.node (f490 P) (.node (f746 P) .nil .nil) .nil)))) (.node (pD w os 58) (.node (f90 P) (.node (f154 P) (.node (f282 P) (.node (f538 P) .nil .nil) (.node (f794 P) .nil .nil)) (.node (f410 P) (.node (f666 P) .nil .nil) .nil)) (.node (f218 P) (.node (f346 P) (.node (f602 P) .nil .nil) (.node (f858 P) .nil .nil)) (.node (f474 P) (.node (f730 P) .nil .nil) .nil))) (.node (f122 P) (.node (f186 P) (.node (f314 P) (.node (f570 P) .nil .nil) (.node (f826 P) .nil .nil)) (.node (f442 P) (.node (f698 P) .nil .nil) .nil)) (.node (f250 P) (.node (f378 P) (.node (f634 P) .nil .nil) .nil) (.node (f506 P) (.node (f762 P) .nil .nil) .nil)))))) (.node (pD w os 14) (.node (pD w os 22) (.node (pD w os 38) (.node (pD w os 70) (.node (f134 P) (.node (f262 P) (.node (f518 P) .nil .nil) (.node (f774 P) .nil .nil)) (.node (f390 P) (.node (f646 P) .nil .nil) .nil)) (.node (f198 P) (.node (f326 P) (.node (f582 P) .nil .nil) (.node (f838 P) .nil .nil)) (.node (f454 P) (.node (f710 P) .nil .nil) .nil))) (.node (f102 P) (.node (f166 P) (.node (f294 P) (.node (f550 P) .nil .nil) (.node (f806 P) .nil .nil)) (.node (f422 P) (.node (f678 P) .nil .nil) .nil)) (.node (f230 P) (.node (f358 P) (.node (f614 P) .nil .nil) (.node (f870 P) .nil .nil)) (.node (f486 P) (.node (f742 P) .nil .nil) .nil)))) (.node (pD w os 54) (.node (f86 P) (.node (f150 P) (.node (f278 P) (.node (f534 P) .nil .nil) (.node (f790 P) .nil .nil)) (.node (f406 P) (.node (f662 P) .nil .nil) .nil)) (.node (f214 P) (.node (f342 P) (.node (f598 P) .nil .nil) (.node (f854 P) .nil .nil)) (.node (f470 P) (.node (f726 P) .nil .nil) .nil))) (.node (f118 P) (.node (f182 P) (.node (f310 P) (.node (f566 P) .nil .nil) (.node (f822 P) .nil .nil)) (.node (f438 P) (.node (f694 P) .nil .nil) .nil)) (.node (f246 P) (.node (f374 P) (.node (f630 P) .nil .nil) .nil) (.node (f502 P) (.node (f758 P) .nil .nil) .nil))))) (.node (pD w os 30) (.node (pD w os 46) (.node (f78 P) (.node (f142 P) (.node (f270 P) (.node (f526 P) .nil .nil) (.node (f782 P) .nil .nil)) (.node (f398 P) (.node (f654 P) .nil .nil) .nil)) (.node (f206 P) (.node (f334 P) (.node (f590 P) .nil .nil) (.node (f846 P) .nil .nil)) (.node (f462 P) (.node (f718 P) .nil .nil) .nil))) (.node (f110 P) (.node (f174 P) (.node (f302 P) (.node (f558 P) .nil .nil) (.node (f814 P) .nil .nil)) (.node (f430 P) (.node (f686 P) .nil .nil) .nil)) (.node (f238 P) (.node (f366 P) (.node (f622 P) .nil .nil) (.node (f878 P) .nil .nil)) (.node (f494 P) (.node (f750 P) .nil .nil) .nil)))) (.node (pD w os 62) (.node (f94 P) (.node (f158 P) (.node (f286 P) (.node (f542 P) .nil .nil) (.node (f798 P) .nil .nil)) (.node (f414 P) (.node (f670 P) .nil .nil) .nil)) (.node (f222 P) (.node (f350 P) (.node (f606 P) .nil .nil) (.node (f862 P) .nil .nil)) (.node (f478 P) (.node (f734 P) .nil .nil) .nil))) (.node (f126 P) (.node (f190 P) (.node (f318 P) (.node (f574 P) .nil .nil) (.node (f830 P) .nil .nil)) (.node (f446 P) (.node (f702 P) .nil .nil) .nil)) (.node (f254 P) (.node (f382 P) (.node (f638 P) .nil .nil) .nil) (.node (f510 P) (.node (f766 P) .nil .nil) .nil)))))))))
@[irreducible] noncomputable def sF (w : World) (os : OsState) : SharedT := ⟨tF w os w.params, 882, {}, #[], {}, 2383, os⟩
theorem rest_f : ∀ (w : World) (os : OsState), segRunTQ tbQ pw (w.withFollow row1 false) 58 annE 1 9000 (sX (w.withFollow row1 false) os) thR = some (.next, sF (w.withFollow row1 false) os, cE, pF) := by intro w os; kernel_rfl
theorem rest_t : ∀ (w : World) (os : OsState), segRunTQ tbQ pw (w.withFollow row1 true) 58 annE 1 9000 (sX (w.withFollow row1 true) os) thR = some (.next, sF (w.withFollow row1 true) os, cE, pF) := by intro w os; kernel_rfl
end J5
end
section
open PySem PySem.W PyProof.Rows J5
set_option Elab.async false
set_option maxRecDepth 100000
set_option linter.unusedVariables false
namespace J5
def qv : Program := view pw [22]
def lsv : List Str := ["_sre", "isnan", "category", "_wall", "_reserved_word_re", "_OWN_NAMES", "mappingproxy", "_MEMBERS_VIEW", "EnumType", "_EnumField", "Enum", "QuoteStyle", "_lay_QuoteStyle", "dumps", "JSON5Encoder", "_raise_type_error", "_law_number", "_law_written"]
abbrev rv : OpenRow := OpenLaw.row PySem.Challenge.rw_ww0010_03
def Xv (s : Shared) : Bool := xlAt qv [] s && recOk (RowW.records rv.toRowW) s
noncomputable abbrev osQ := PySem.W.Fast.tw4187177175401517315
theorem osQ_eq : @openSeen = osQ := PySem.W.Fast.te4187177175401517315
theorem look_statics : ∀ (w : World) (os : OsState), staticsOk (importedModules pw.main.body) (absHeap (t0 w) 58 {}) (sF w os).abs.heap = true := by intro w os; kernel_rfl
theorem look_names : ∀ (w : World) (os : OsState), namesBound pw (sF w os).abs.heap = true := by intro w os; kernel_rfl
theorem look_laid : ∀ (w : World) (os : OsState), laidKept (absHeap (t0 w) 58 {}) (sF w os).abs.heap = true := by intro w os; kernel_rfl
theorem look_seen : ∀ (w : World) (os : OsState), osQ qv lsv (importedModules pw.main.body) Xv true (sF w os).abs = openGood qv lsv := by intro w os; kernel_rfl
end J5
end
section
open PySem PySem.W PyProof.Rows J5
set_option Elab.async false
set_option maxRecDepth 100000
set_option linter.unusedVariables false
namespace J5
theorem fin_is (w : World) (s : Shared) : topRun treeTable pw w 58 annE 2 s ⟨doneF .next, cE, pF, [topFrame q0]⟩ = some s := by
  obtain ⟨h, g, d, t, os⟩ := s
  rfl
theorem segT {w : World} {n : Nat} {s s' : SharedT} {t : Thread} {f : Flow} {c : Code} {p : Pos} (a : segRunTQ tbQ pw w 58 annE 1 n s t = some (f, s', c, p)) : segRun treeTable pw w 58 annE 1 n s.abs t = some (f, s'.abs, c, p) := by
  rw [← segRunTQ_eq, ← tbQ_eq] at a
  exact segRun_of a
theorem top_is (w : World) (os : OsState) (rest : segRunTQ tbQ pw w 58 annE 1 9000 (sX w os) thR = some (.next, sF w os, cE, pF)) :
    topRun treeTable pw w 58 annE (12 + (1 + (30 + ((677 + 20) + (9000 + 2))))) (s0T w os).abs (topStub pw) = some (sF w os).abs := by
  have e1 := topGoT_of (pre_is w os)
  have ed : (denQ tbQ cE : Sem PySem.Fin) = denote treeTable (.body bE envE) := by rw [denQ_eq, tbQ_eq]; rfl
  rw [ed] at e1
  have e2 := segT (block_is w os)
  have e3 := segT (st0_is w os)
  have e4 := st1_is w os
  rw [← thS_is, sD_is] at e4
  have e5 := segT rest
  rw [← thR_is] at e5
  have k5 := piece_nil (q := q0) (env := envE) (c := cE) (pos := pF) (fin_is w (sF w os).abs)
  have k4 := piece_app (rest := []) e5 k5
  have k3 := piece_app (rest := stR ++ []) e4 k4
  have k2 := piece_app (rest := st1 ++ (stR ++ [])) e3 k3
  rw [← bE_is] at k2
  have k1 := piece_block e2 k2
  exact go_top e1 k1
theorem gens_is (w : World) (os : OsState) : gensDone (sF w os).abs = true := by kernel_rfl
theorem s0T_abs (w : World) (os : OsState) : (s0T w os).abs = ⟨absHeap (t0 w) 58 {}, #[], {}, 492, os⟩ := rfl
theorem size_is : ∀ w, ((absHeap (t0 w) 58 {}).isNs mainGlobals, (absHeap (t0 w) 58 {}).nsMap mainGlobals "__annotations__") = (true, annE) := by intro w; kernel_rfl
theorem from_of {p : Program} {w : World} {N n : Nat} {ann : Option Value} {h : Heap} {d : Drawn} {t : Nat} {os : OsState} {S' : Shared} (z1 : h.isNs mainGlobals = true) (z2 : h.nsMap mainGlobals "__annotations__" = ann) (z3 : h.objs.size = n) (r : topRun treeTable p w n ann N ⟨h, #[], d, t, os⟩ (topStub p) = some S')
    (l1 : staticsOk (importedModules p.main.body) h S'.heap = true) (l2 : namesBound p S'.heap = true) (l3 : gensDone S' = true) (l4 : laidKept h S'.heap = true) : topFrom treeTable p w N ⟨h, #[], d, t, os⟩ = some S' := by
  subst z2 z3
  unfold topFrom
  simp only [z1, r]
  show (match staticsOk (importedModules p.main.body) h S'.heap && namesBound p S'.heap && gensDone S' && laidKept h S'.heap with | true => some S' | false => none) = _
  simp only [l1, l2, l3, l4]
  rfl
theorem map_two {α : Type} {X : Option Shared} {S : Shared} {f : Shared → α} {a : α} (h : X = some S) (h1 : f S = a) : X.map f = some a := by rw [h, ← h1]; rfl
theorem pair_two {α β : Type} {a a' : α} {b b' : β} (h : a = a') (k : b = b') : (a, b) = (a', b') := by rw [h, k]
theorem mono_to {p : Program} {w : World} {n₀ : Nat} {ann : Option Value} {n N : Nat} {s : Shared} {t : Thread} {r : Shared} (hn : Nat.ble n N = true) (h : topRun treeTable p w n₀ ann n s t = some r) : topRun treeTable p w n₀ ann N s t = some r := by
  have q := topRun_mono (N - n) _ _ _ _ h
  rw [show n + (N - n) = N by have := Nat.le_of_ble_eq_true hn; omega] at q
  exact q
theorem run_is (w : World) (os : OsState) (rest : segRunTQ tbQ pw w 58 annE 1 9000 (sX w os) thR = some (.next, sF w os, cE, pF)) : topRun treeTable pw w 58 annE 10000 ⟨absHeap (t0 w) 58 {}, #[], {}, 492, os⟩ (topStub pw) = some (sF w os).abs := by
  rw [← s0T_abs]
  exact mono_to rfl (top_is w os rest)
theorem end_is (w : World) (os : OsState) (rest : segRunTQ tbQ pw w 58 annE 1 9000 (sX w os) thR = some (.next, sF w os, cE, pF)) : topFrom treeTable pw w 10000 ⟨absHeap (t0 w) 58 {}, #[], {}, 492, os⟩ = some (sF w os).abs :=
  from_of (Prod.mk.inj (size_is w)).1 (Prod.mk.inj (size_is w)).2 (absHeap_size _ _ _) (run_is w os rest) (look_statics w os) (look_names w os) (gens_is w os) (look_laid w os)
/-- the head's end, for whatever is seen of it -/
theorem left_of {α : Type} {Yf : Shared → α} {Ya : World → α} (hY : ∀ w os, Yf (sF w os).abs = Ya w) (w : World) (rest : ∀ os, segRunTQ tbQ pw w 58 annE 1 9000 (sX w os) thR = some (.next, sF w os, cE, pF)) :
    (openEnds treeTable pw w 10000).map (fun s => (openSeen qv lsv (importedModules pw.main.body) Xv true s, Yf s)) = some (openGood qv lsv, Ya w) := by
  obtain ⟨⟨h, g, d, t, os⟩, e, e'⟩ := Option.map_eq_some_iff.mp (open_is 10000 rfl w)
  obtain ⟨rfl, rfl, rfl, rfl⟩ : h = absHeap (t0 w) 58 {} ∧ g = #[] ∧ d = {} ∧ t = 492 := by simpa using e'
  have z := end_is w os (rest os)
  have z' : openEnds treeTable pw w 10000 = some (sF w os).abs := by
    unfold openEnds
    rw [e, Option.bind_some]
    exact z
  exact map_two z' (pair_two ((congrFun (congrFun (congrFun (congrFun (congrFun (congrFun osQ_eq qv) lsv) _) Xv) true) _).trans (look_seen w os)) (hY w os))
theorem left {α : Type} {Yf : Shared → α} {Ya : World → α} (hY : ∀ w os, Yf (sF w os).abs = Ya w) (hA : ∀ w b, Ya (w.withFollow row1 b) = Ya w) : LeftO pw qv lsv Xv Yf Ya 10000 :=
  byRow2 row1 (fun w => left_of hY _ (rest_f w)) (fun w => left_of hY _ (rest_t w))
end J5
end
section
open PySem PySem.W PySem.W.X PyProof.Rows J5
set_option Elab.async false
set_option maxRecDepth 100000
set_option linter.unusedVariables false
namespace J5
def asK : List Addr := [0, 2, 3, 4, 72, 73, 260, 263, 268, 269, 270, 271, 272, 273, 274, 275, 276, 277, 278, 279, 280, 281, 282, 283, 284, 285, 286, 287, 288, 289, 290, 291, 292, 293, 294, 295, 296, 297, 298, 299, 300, 301, 302, 303, 304, 305, 306, 307, 308, 309, 310, 311, 312, 313, 314, 315, 316, 317, 318, 319, 320, 321, 322, 323, 324, 325, 326, 327, 328, 329, 330, 331, 332, 333, 334, 335, 336, 337, 338, 339, 340, 341, 342, 343, 344, 345, 346, 347, 348, 349, 350, 351, 352, 353, 354, 355, 356, 357, 358, 359, 360, 361, 362, 363, 364, 365, 366, 367, 368, 369, 370, 371, 372, 373, 374, 375, 376, 377, 378, 379, 380, 381, 382, 383, 384, 385, 386, 387, 388, 389, 390, 391, 392, 393, 394, 395, 396, 397, 398, 399, 400, 401, 402, 403, 404, 405, 406, 407, 408, 409, 410, 411, 412, 413, 414, 415, 416, 417, 418, 419, 420, 421, 422, 423, 424, 425, 426, 427, 428, 429, 430, 431, 432, 433, 434, 435, 436, 437, 438, 439, 440, 441, 442, 443, 444, 445, 446, 447, 448, 449, 450, 451, 452, 453, 454, 455, 456, 457, 458, 459, 460, 461, 462, 463, 464, 465, 466, 467, 468, 469, 470, 471, 472, 482, 483, 484, 485, 486, 487, 488, 489, 490, 491, 492, 493, 494, 495, 496, 497, 498, 499, 500, 501, 502, 503, 504, 505, 506, 507, 508, 509, 510, 511, 512, 513, 514, 515, 525, 526, 527, 528, 529, 530, 531, 532, 533, 534, 535, 536, 537, 538, 539, 540, 541, 542, 543, 544, 545, 546, 547, 548, 549, 550, 551, 552, 553, 554, 555, 556, 557, 558, 559, 560, 561, 562, 563, 564, 565, 566, 567, 568, 569, 570, 571, 572, 573, 574, 575, 576, 577, 578, 579, 580, 581, 582, 583, 584, 585, 586, 587, 588, 589, 590, 591, 592, 593, 594, 595, 596, 597, 598, 599, 600, 601, 602, 603, 604, 605, 606, 607, 608, 609, 610, 611, 612, 613, 614, 615, 616, 617, 618, 619, 620, 621, 622, 623, 624, 625, 626, 627, 629, 630, 632, 636, 637, 638, 639, 640, 647, 654, 655, 659, 660, 684, 685, 686, 687, 688, 689, 690, 691, 704, 708, 712, 716, 717, 718, 719, 720, 721, 722, 723, 731, 732, 733, 734, 735, 736, 737, 738, 739, 740, 741, 742, 743, 744, 745, 746, 747, 748, 749, 750, 751, 752, 753, 754, 755, 756, 757, 758, 759, 760, 761, 762, 763, 764, 765, 766, 767, 768, 769, 770, 771, 772, 773, 774, 775, 776, 777, 778, 779, 780, 781, 782, 783, 784, 785, 786, 787, 788, 789, 790, 791, 792, 793, 794, 795, 796, 797, 798, 799, 800, 801, 802, 803, 804, 805, 806, 807, 808, 809, 810, 811, 812, 813, 814, 815, 816, 817, 818, 819, 820, 821, 822, 823, 824, 825, 826, 827, 828, 829, 830, 831, 832, 833, 834, 835, 836, 837, 838, 839, 840, 841, 842, 843, 844, 845, 846, 847, 848, 849, 850, 851, 852, 853, 854, 855, 858, 859, 860, 861, 862, 863, 864, 865, 866, 867, 868, 869, 870, 871, 872, 873, 874, 875, 876, 877, 878, 879, 880, 881]
def KK (P : Params) : Frag := [(0, f0 P), (2, f2 P), (3, f3 P), (4, f4 P), (72, f72 P), (73, f73 P), (260, f260 P), (263, f263 P), (268, f268 P), (269, f269 P), (270, f270 P), (271, f271 P), (272, f272 P), (273, f273 P), (274, f274 P), (275, f275 P), (276, f276 P), (277, f277 P), (278, f278 P), (279, f279 P), (280, f280 P), (281, f281 P), (282, f282 P), (283, f283 P), (284, f284 P), (285, f285 P), (286, f286 P), (287, f287 P), (288, f288 P), (289, f289 P), (290, f290 P), (291, f291 P), (292, f292 P), (293, f293 P), (294, f294 P), (295, f295 P), (296, f296 P), (297, f297 P), (298, f298 P), (299, f299 P), (300, f300 P), (301, f301 P), (302, f302 P), (303, f303 P), (304, f304 P), (305, f305 P), (306, f306 P), (307, f307 P), (308, f308 P), (309, f309 P), (310, f310 P), (311, f311 P), (312, f312 P), (313, f313 P), (314, f314 P), (315, f315 P), (316, f316 P), (317, f317 P), (318, f318 P), (319, f319 P), (320, f320 P), (321, f321 P), (322, f322 P), (323, f323 P), (324, f324 P), (325, f325 P), (326, f326 P), (327, f327 P), (328, f328 P), (329, f329 P), (330, f330 P), (331, f331 P), (332, f332 P), (333, f333 P), (334, f334 P), (335, f335 P), (336, f336 P), (337, f337 P), (338, f338 P), (339, f339 P), (340, f340 P), (341, f341 P), (342, f342 P), (343, f343 P), (344, f344 P), (345, f345 P), (346, f346 P), (347, f347 P), (348, f348 P), (349, f349 P), (350, f350 P), (351, f351 P), (352, f352 P), (353, f353 P), (354, f354 P), (355, f355 P), (356, f356 P), (357, f357 P), (358, f358 P), (359, f359 P), (360, f360 P), (361, f361 P), (362, f362 P), (363, f363 P), (364, f364 P), (365, f365 P), (366, f366 P), (367, f367 P), (368, f368 P), (369, f369 P), (370, f370 P), (371, f371 P), (372, f372 P), (373, f373 P), (374, f374 P), (375, f375 P), (376, f376 P), (377, f377 P), (378, f378 P), (379, f379 P), (380, f380 P), (381, f381 P), (382, f382 P), (383, f383 P), (384, f384 P), (385, f385 P), (386, f386 P), (387, f387 P), (388, f388 P), (389, f389 P), (390, f390 P), (391, f391 P), (392, f392 P), (393, f393 P), (394, f394 P), (395, f395 P), (396, f396 P), (397, f397 P), (398, f398 P), (399, f399 P), (400, f400 P), (401, f401 P), (402, f402 P), (403, f403 P), (404, f404 P), (405, f405 P), (406, f406 P), (407, f407 P), (408, f408 P), (409, f409 P), (410, f410 P), (411, f411 P), (412, f412 P), (413, f413 P), (414, f414 P), (415, f415 P), (416, f416 P), (417, f417 P), (418, f418 P), (419, f419 P), (420, f420 P), (421, f421 P), (422, f422 P), (423, f423 P), (424, f424 P), (425, f425 P), (426, f426 P), (427, f427 P), (428, f428 P), (429, f429 P), (430, f430 P), (431, f431 P), (432, f432 P), (433, f433 P), (434, f434 P), (435, f435 P), (436, f436 P), (437, f437 P), (438, f438 P), (439, f439 P), (440, f440 P), (441, f441 P), (442, f442 P), (443, f443 P), (444, f444 P), (445, f445 P), (446, f446 P), (447, f447 P), (448, f448 P), (449, f449 P), (450, f450 P), (451, f451 P), (452, f452 P), (453, f453 P), (454, f454 P), (455, f455 P), (456, f456 P), (457, f457 P), (458, f458 P), (459, f459 P), (460, f460 P), (461, f461 P), (462, f462 P), (463, f463 P), (464, f464 P), (465, f465 P), (466, f466 P), (467, f467 P), (468, f468 P), (469, f469 P), (470, f470 P), (471, f471 P), (472, f472 P), (482, f482 P), (483, f483 P), (484, f484 P), (485, f485 P), (486, f486 P), (487, f487 P), (488, f488 P), (489, f489 P), (490, f490 P), (491, f491 P), (492, f492 P), (493, f493 P), (494, f494 P), (495, f495 P), (496, f496 P), (497, f497 P), (498, f498 P), (499, f499 P), (500, f500 P), (501, f501 P), (502, f502 P), (503, f503 P), (504, f504 P), (505, f505 P), (506, f506 P), (507, f507 P), (508, f508 P), (509, f509 P), (510, f510 P), (511, f511 P), (512, f512 P), (513, f513 P), (514, f514 P), (515, f515 P), (525, f525 P), (526, f526 P), (527, f527 P), (528, f528 P), (529, f529 P), (530, f530 P), (531, f531 P), (532, f532 P), (533, f533 P), (534, f534 P), (535, f535 P), (536, f536 P), (537, f537 P), (538, f538 P), (539, f539 P), (540, f540 P), (541, f541 P), (542, f542 P), (543, f543 P), (544, f544 P), (545, f545 P), (546, f546 P), (547, f547 P), (548, f548 P), (549, f549 P), (550, f550 P), (551, f551 P), (552, f552 P), (553, f553 P), (554, f554 P), (555, f555 P), (556, f556 P), (557, f557 P), (558, f558 P), (559, f559 P), (560, f560 P), (561, f561 P), (562, f562 P), (563, f563 P), (564, f564 P), (565, f565 P), (566, f566 P), (567, f567 P), (568, f568 P), (569, f569 P), (570, f570 P), (571, f571 P), (572, f572 P), (573, f573 P), (574, f574 P), (575, f575 P), (576, f576 P), (577, f577 P), (578, f578 P), (579, f579 P), (580, f580 P), (581, f581 P), (582, f582 P), (583, f583 P), (584, f584 P), (585, f585 P), (586, f586 P), (587, f587 P), (588, f588 P), (589, f589 P), (590, f590 P), (591, f591 P), (592, f592 P), (593, f593 P), (594, f594 P), (595, f595 P), (596, f596 P), (597, f597 P), (598, f598 P), (599, f599 P), (600, f600 P), (601, f601 P), (602, f602 P), (603, f603 P), (604, f604 P), (605, f605 P), (606, f606 P), (607, f607 P), (608, f608 P), (609, f609 P), (610, f610 P), (611, f611 P), (612, f612 P), (613, f613 P), (614, f614 P), (615, f615 P), (616, f616 P), (617, f617 P), (618, f618 P), (619, f619 P), (620, f620 P), (621, f621 P), (622, f622 P), (623, f623 P), (624, f624 P), (625, f625 P), (626, f626 P), (627, f627 P), (629, f629 P), (630, f630 P), (632, f632 P), (636, f636 P), (637, f637 P), (638, f638 P), (639, f639 P), (640, f640 P), (647, f647 P), (654, f654 P), (655, f655 P), (659, f659 P), (660, f660 P), (684, f684 P), (685, f685 P), (686, f686 P), (687, f687 P), (688, f688 P), (689, f689 P), (690, f690 P), (691, f691 P), (704, f704 P), (708, f708 P), (712, f712 P), (716, f716 P), (717, f717 P), (718, f718 P), (719, f719 P), (720, f720 P), (721, f721 P), (722, f722 P), (723, f723 P), (731, f731 P), (732, f732 P), (733, f733 P), (734, f734 P), (735, f735 P), (736, f736 P), (737, f737 P), (738, f738 P), (739, f739 P), (740, f740 P), (741, f741 P), (742, f742 P), (743, f743 P), (744, f744 P), (745, f745 P), (746, f746 P), (747, f747 P), (748, f748 P), (749, f749 P), (750, f750 P), (751, f751 P), (752, f752 P), (753, f753 P), (754, f754 P), (755, f755 P), (756, f756 P), (757, f757 P), (758, f758 P), (759, f759 P), (760, f760 P), (761, f761 P), (762, f762 P), (763, f763 P), (764, f764 P), (765, f765 P), (766, f766 P), (767, f767 P), (768, f768 P), (769, f769 P), (770, f770 P), (771, f771 P), (772, f772 P), (773, f773 P), (774, f774 P), (775, f775 P), (776, f776 P), (777, f777 P), (778, f778 P), (779, f779 P), (780, f780 P), (781, f781 P), (782, f782 P), (783, f783 P), (784, f784 P), (785, f785 P), (786, f786 P), (787, f787 P), (788, f788 P), (789, f789 P), (790, f790 P), (791, f791 P), (792, f792 P), (793, f793 P), (794, f794 P), (795, f795 P), (796, f796 P), (797, f797 P), (798, f798 P), (799, f799 P), (800, f800 P), (801, f801 P), (802, f802 P), (803, f803 P), (804, f804 P), (805, f805 P), (806, f806 P), (807, f807 P), (808, f808 P), (809, f809 P), (810, f810 P), (811, f811 P), (812, f812 P), (813, f813 P), (814, f814 P), (815, f815 P), (816, f816 P), (817, f817 P), (818, f818 P), (819, f819 P), (820, f820 P), (821, f821 P), (822, f822 P), (823, f823 P), (824, f824 P), (825, f825 P), (826, f826 P), (827, f827 P), (828, f828 P), (829, f829 P), (830, f830 P), (831, f831 P), (832, f832 P), (833, f833 P), (834, f834 P), (835, f835 P), (836, f836 P), (837, f837 P), (838, f838 P), (839, f839 P), (840, f840 P), (841, f841 P), (842, f842 P), (843, f843 P), (844, f844 P), (845, f845 P), (846, f846 P), (847, f847 P), (848, f848 P), (849, f849 P), (850, f850 P), (851, f851 P), (852, f852 P), (853, f853 P), (854, f854 P), (855, f855 P), (858, f858 P), (859, f859 P), (860, f860 P), (861, f861 P), (862, f862 P), (863, f863 P), (864, f864 P), (865, f865 P), (866, f866 P), (867, f867 P), (868, f868 P), (869, f869 P), (870, f870 P), (871, f871 P), (872, f872 P), (873, f873 P), (874, f874 P), (875, f875 P), (876, f876 P), (877, f877 P), (878, f878 P), (879, f879 P), (880, f880 P), (881, f881 P)]
end J5
end
section
open PySem
set_option linter.unusedVariables false
namespace J5
/- the heap never shrinks -/
theorem runs_size {M : Model} {Γ : Ctx} {p : Pos} {t : Sem Fin} {fs : List Frame} {s s' : Shared} {e : End} (h : Runs M Γ p t fs s e s') : s.heap.objs.size ≤ s'.heap.objs.size := by
  induction h <;> (try simp only [Shared.setGen, Heap.size_push, Heap.size_after_update] at *) <;> omega
theorem returns_size {M : Model} {Γ : Ctx} {p : Pos} {s s' : Shared} {r : Result} (h : Returns M Γ p s r s') : s.heap.objs.size ≤ s'.heap.objs.size := runs_size h
theorem wakes_size {M : Model} {Γ : Ctx} {p : Pos} {g : Nat} {r : Resume} {s s' : Shared} {res : GenResult} (h : Wakes M Γ p g r s res s') : s.heap.objs.size ≤ s'.heap.objs.size := by
  unfold Wakes at h
  split at h
  · exact h.elim
  · split at h
    · obtain ⟨e₁, s₁, hr, _, _, rfl⟩ := h; exact (runs_size hr : (s.setGen g .running).heap.objs.size ≤ s₁.heap.objs.size)
    · rw [h.2]; exact Nat.le_refl _
    · rw [h.2]; exact Nat.le_refl _
  · obtain ⟨e₁, s₁, hr, _, _, rfl⟩ := h; exact (runs_size hr : (s.setGen g .running).heap.objs.size ≤ s₁.heap.objs.size)
  · rw [h.2]; exact Nat.le_refl _
  · rw [h.2]; exact Nat.le_refl _
theorem wp_size {α : Type} (M : Model) (Γ : Ctx) (n : Nat) (t : Sem α) : ∀ (Q : α → Pos → Shared → Prop) (E : Value → Pos → Shared → Prop) (p : Pos) (s : Shared), n ≤ s.heap.objs.size → Sem.wp M Γ t Q E p s →
    Sem.wp M Γ t (fun a p' s' => n ≤ s'.heap.objs.size ∧ Q a p' s') (fun e p' s' => n ≤ s'.heap.objs.size ∧ E e p' s') p s := by
  induction t with
  | pure a => intro Q E p s hn h; exact ⟨hn, h⟩
  | raise e => intro Q E p s hn h; exact ⟨hn, h⟩
  | unsupported _ => intro Q E p s _ h; exact h
  | finish _ => intro Q E p s _ h; exact h
  | rule _ k ih => intro Q E p s hn h; exact ih () Q E p s hn h
  | «at» p' k ih => intro Q E p s hn h; exact ih () Q E p' s hn h
  | load a _ k ih => intro Q E p s hn h; obtain ⟨o, ho, h⟩ := h; exact ⟨o, ho, ih o Q E p s hn h⟩
  | update a _ f k ih => intro Q E p s hn h; exact ⟨h.1, ih () Q E p _ (by rw [Heap.size_after_update]; exact hn) h.2⟩
  | loadIfAlive a k ih => intro Q E p s hn h; exact ih _ Q E p s hn h
  | point _ k ih => intro Q E p s hn h; exact ih () Q E p s hn h
  | register _ _ => intro Q E p s _ h; exact h
  | alloc o k ih => intro Q E p s hn h; exact ih _ Q E p _ (by show n ≤ (s.heap.push o).objs.size; rw [Heap.size_push]; exact Nat.le_succ_of_le hn) h
  | fresh k ih => intro Q E p s hn h; exact ih _ Q E p _ hn h
  | ask k ih => intro Q E p s hn h; exact ih _ Q E p s hn h
  | choose src m k ih => intro Q E p s hn h; exact ⟨h.1, ih _ Q E p _ hn h.2⟩
  | os q _ k ih => intro Q E p s hn h; exact ih _ Q E p _ hn h
  | call c hd _ _ k ih => intro Q E p s hn h; obtain ⟨r, s', hr, h⟩ := h; exact ⟨r, s', hr, ih r Q E p s' (Nat.le_trans hn (returns_size hr)) h⟩
  | handled own k ih => intro Q E p s hn h; exact ih _ Q E p s hn h
  | genState g k ih => intro Q E p s hn h; obtain ⟨st, hs, h⟩ := h; exact ⟨st, hs, ih _ Q E p s hn h⟩
  | newGen c k ih => intro Q E p s hn h; exact ih _ Q E p _ hn h
  | resume g r _ k ih => intro Q E p s hn h; obtain ⟨res, s', hw, h⟩ := h; exact ⟨res, s', hw, ih res Q E p s' (Nat.le_trans hn (wakes_size hw)) h⟩
  | yield _ _ _ _ => intro Q E p s _ h; exact h
  | stack k ih => intro Q E p s hn h; exact ih _ Q E p s hn h
  | fork _ _ => intro Q E p s _ h; exact h
  | thread k ih => intro Q E p s hn h; exact ih _ Q E p s hn h
  | await _ _ _ _ _ => intro Q E p s _ h; exact h
theorem with_size {α : Type} {M : Model} {A : Around} {s : Shared} {t : Sem α} {Q : α → Shared → Prop} {E : Value → Shared → Prop}
    (h : wpAny M A t (fun a s' => s.heap.objs.size ≤ s'.heap.objs.size → Q a s') E s) : wpAny M A t Q E s :=
  fun Γ p hΓ => Sem.wp_mono M Γ t (fun _ _ _ x => x.2 x.1) (fun _ _ _ x => x.2) p s (wp_size M Γ _ t _ _ p s (Nat.le_refl _) (h Γ p hΓ))
end J5
end
section
open PySem PySem.W PySem.W.X PyProof.Rows
set_option Elab.async false
set_option maxRecDepth 100000
set_option linter.unusedVariables false
namespace J5
/- Values without a heap. -/
inductive D where
  | none
  | bool (b : Bool)
  | int (i : Int)
  | str (x : List Nat)
  | at (v : Value)
  | tup (ds : List D)
  | list (ds : List D)
  | set (ds : List D)
  | dict (ks vs : List D)
  | inst (c : Addr) (ns : List Str) (vs : List D)
  | keys (ks vs : List D)
  | rng (a b : Int)
def stat : Value → Bool
  | .ref _ => true
  | .type _ => true
  | .builtin _ => true
  | _ => false
/- The ground: the program, the world, what is read of the heap for good, the tables that grow. -/
structure Gd where
  prog : Program
  w : World
  K : Frag
  h₀ : Heap
  os₀ : OsState
  T : List (Addr × Addr)
  mg : Str → Option Value
  mb : Str → Option Value
abbrev Gd.M (g : Gd) : Model := model g.prog g.w
abbrev Gd.P (g : Gd) : Params := g.w.params
def Gd.Tb (g : Gd) (b : Addr) : Prop := ∃ c, (c, b) ∈ g.T
/- keys of dicts: texts -/
def kyD : D → Option Str
  | .str x => some ⟨x.toArray⟩
  | _ => none
abbrev Gd.kd (g : Gd) : KeyKind g.prog g.w Str := strKind g.prog g.w
theorem DictOf.keepAt {g : Gd} {h h' : Heap} {a : Addr} {kvs : List (Str × Value)} (x : h.DictOf g.kd a kvs) (e : ∀ o, h.get? a = some o → h'.get? a = some o) : h'.DictOf g.kd a kvs :=
  let ⟨o, es, ep, q, r⟩ := x; ⟨o, es, ep, e _ q, r⟩
theorem DictOf.lt {g : Gd} {h : Heap} {a : Addr} {kvs : List (Str × Value)} (x : h.DictOf g.kd a kvs) : a < h.objs.size := let ⟨_, _, _, q, _⟩ := x; Heap.lt_size q
def NamesAre (es : List DictEntry) (ns : List Str) : Prop := es.length = ns.length ∧ ∀ p ∈ es.zip ns, ∃ t : Tok, p.1.key = Value.str p.2 t
mutual
inductive Rep (g : Gd) (S : Addr → Prop) (h : Heap) : Value → D → Prop
  | none : Rep g S h .none .none
  | bool (b : Bool) : Rep g S h (.bool b) (.bool b)
  | int (i : Int) (t : Tok) : Rep g S h (.int i t) (.int i)
  | str (x : List Nat) (t : Tok) : Rep g S h (.str ⟨x.toArray⟩ t) (.str x)
  | at {v : Value} : stat v = true → Rep g S h v (.at v)
  | tup {a : Addr} {vs : List Value} {ds : List D} : ¬ S a → h.get? a = some { cls := .type "tuple", data := .seq vs.toArray } → Reps g S h vs ds → Rep g S h (.ref a) (.tup ds)
  | list {a : Addr} {vs : List Value} {n : Nat} {ds : List D} : ¬ S a → h.get? a = some { cls := .type "list", data := .seq vs.toArray n } → Reps g S h vs ds → Rep g S h (.ref a) (.list ds)
  | set {a : Addr} {es : List (Int × Value)} {n : Nat} {T : SetTable} {ds : List D} : ¬ S a → h.get? a = some { cls := .type "set", data := .set es.toArray n T } → T.fits es.length = true → Reps g S h (es.map (·.2)) ds → Rep g S h (.ref a) (.set ds)
  | dict {a : Addr} {kvs : List (Str × Value)} {ks vs : List D} : ¬ S a → (a == sysModules) = false → h.DictOf g.kd a kvs → kvs.map (fun p => some p.1) = ks.map kyD → Reps g S h (kvs.map (·.2)) vs → Rep g S h (.ref a) (.dict ks vs)
  | inst {a dx c : Addr} {es : List DictEntry} {n : Nat} {ns : List Str} {vs : List D} : ¬ S a → ¬ S dx → h.get? a = some ⟨.ref c, some dx, .plain, #[]⟩ → h.get? dx = some { cls := .type "dict", data := .dict es.toArray n } →
      NamesAre es ns → Reps g S h (es.map (·.val)) vs → Rep g S h (.ref a) (.inst c ns vs)
  | keys {a d : Addr} {kvs : List (Str × Value)} {ks vs : List D} : ¬ S a → ¬ S d → (d == sysModules) = false → h.get? a = some { cls := .type "dict_keys", data := .fields #[.ref d] } → h.DictOf g.kd d kvs →
      kvs.map (fun p => some p.1) = ks.map kyD → Reps g S h (kvs.map (·.2)) vs → Rep g S h (.ref a) (.keys ks vs)
  | rng {r : Addr} {a b : Int} {t u v : Tok} : ¬ S r → IsRange h r a b 1 t u v → Rep g S h (.ref r) (.rng a b)
inductive Reps (g : Gd) (S : Addr → Prop) (h : Heap) : List Value → List D → Prop
  | nil : Reps g S h [] []
  | cons {v : Value} {vs : List Value} {d : D} {ds : List D} : Rep g S h v d → Reps g S h vs ds → Reps g S h (v :: vs) (d :: ds)
end
mutual
theorem Rep.mono {g : Gd} {S S' : Addr → Prop} {h h' : Heap} (hk : ∀ b o, ¬ S b → h.get? b = some o → h'.get? b = some o) (hs : ∀ b, b < h.objs.size → S' b → S b) :
    ∀ {v : Value} {d : D}, Rep g S h v d → Rep g S' h' v d
  | _, _, .none => .none
  | _, _, .bool b => .bool b
  | _, _, .int i t => .int i t
  | _, _, .str x t => .str x t
  | _, _, .at e => .at e
  | _, _, .tup a b c => .tup (fun q => a (hs _ (Heap.lt_size b) q)) (hk _ _ a b) (Reps.mono hk hs c)
  | _, _, .list a b c => .list (fun q => a (hs _ (Heap.lt_size b) q)) (hk _ _ a b) (Reps.mono hk hs c)
  | _, _, .set a b f c => .set (fun q => a (hs _ (Heap.lt_size b) q)) (hk _ _ a b) f (Reps.mono hk hs c)
  | _, _, .dict a n b e c => .dict (fun q => a (hs _ (DictOf.lt b) q)) n (DictOf.keepAt b fun o e => hk _ o a e) e (Reps.mono hk hs c)
  | _, _, .inst a a' b b' e c => .inst (fun q => a (hs _ (Heap.lt_size b) q)) (fun q => a' (hs _ (Heap.lt_size b') q)) (hk _ _ a b) (hk _ _ a' b') e (Reps.mono hk hs c)
  | _, _, .keys a a' n b b' e c => .keys (fun q => a (hs _ (Heap.lt_size b) q)) (fun q => a' (hs _ (DictOf.lt b') q)) n (hk _ _ a b) (DictOf.keepAt b' fun o e => hk _ o a' e) e (Reps.mono hk hs c)
  | _, _, .rng a b => .rng (fun q => a (hs _ (Heap.lt_size b) q)) (hk _ _ a b)
theorem Reps.mono {g : Gd} {S S' : Addr → Prop} {h h' : Heap} (hk : ∀ b o, ¬ S b → h.get? b = some o → h'.get? b = some o) (hs : ∀ b, b < h.objs.size → S' b → S b) :
    ∀ {vs : List Value} {ds : List D}, Reps g S h vs ds → Reps g S' h' vs ds
  | _, _, .nil => .nil
  | _, _, .cons a b => .cons (Rep.mono hk hs a) (Reps.mono hk hs b)
end
theorem Reps.length {g : Gd} {S : Addr → Prop} {h : Heap} : ∀ {vs : List Value} {ds : List D}, Reps g S h vs ds → vs.length = ds.length
  | _, _, .nil => rfl
  | _, _, .cons _ b => by rw [List.length_cons, List.length_cons, b.length]
theorem Reps.append {g : Gd} {S : Addr → Prop} {h : Heap} : ∀ {vs us : List Value} {ds es : List D}, Reps g S h vs ds → Reps g S h us es → Reps g S h (vs ++ us) (ds ++ es)
  | _, _, _, _, .nil, b => b
  | _, _, _, _, .cons a r, b => .cons a (r.append b)
theorem Reps.get {g : Gd} {S : Addr → Prop} {h : Heap} : ∀ {vs : List Value} {ds : List D}, Reps g S h vs ds → ∀ {k : Nat} {d : D}, ds[k]? = some d → ∃ v, vs[k]? = some v ∧ Rep g S h v d
  | _, _, .nil, _, _, e => by cases e
  | _, _, .cons a b, 0, _, e => by cases e; exact ⟨_, rfl, a⟩
  | _, _, .cons a b, k + 1, _, e => b.get (k := k) e
/- What a stretch of the run keeps: all that is not among T; the generators that were there; the outer world. -/
structure Kp (T : Addr → Prop) (s s' : Shared) : Prop where
  heap : ∀ b o, ¬ T b → s.heap.get? b = some o → s'.heap.get? b = some o
  size : s.heap.objs.size ≤ s'.heap.objs.size
  gens : ∀ (i : Nat) x, s.gens[i]? = some x → s'.gens[i]? = some x
  os : s'.os = s.os
theorem Kp.refl {T : Addr → Prop} (s : Shared) : Kp T s s := ⟨fun _ _ _ e => e, Nat.le_refl _, fun _ _ e => e, rfl⟩
theorem Kp.trans {T : Addr → Prop} {s s' s'' : Shared} (a : Kp T s s') (b : Kp T s' s'') : Kp T s s'' :=
  ⟨fun c o n e => b.heap c o n (a.heap c o n e), Nat.le_trans a.size b.size, fun i x e => b.gens i x (a.gens i x e), b.os.trans a.os⟩
theorem Kp.weaken {T T' : Addr → Prop} {s s' : Shared} (a : Kp T s s') (h : ∀ b, T b → T' b) : Kp T' s s' := ⟨fun b o n e => a.heap b o (fun t => n (h b t)) e, a.size, a.gens, a.os⟩
theorem Kp.of_new {T : Addr → Prop} {s s' : Shared} (a : Kp (fun b => T b ∨ s.heap.objs.size ≤ b) s s') : Kp T s s' :=
  ⟨fun b o n e => a.heap b o (fun t => t.elim n fun t => absurd (Heap.lt_size e) (Nat.not_lt.mpr t)) e, a.size, a.gens, a.os⟩
theorem Rep.kept {g : Gd} {S T : Addr → Prop} {s s' : Shared} (k : Kp T s s') (ht : ∀ b, T b → S b) {v : Value} {d : D} (r : Rep g S s.heap v d) : Rep g S s'.heap v d :=
  r.mono (fun b o n e => k.heap b o (fun t => n (ht b t)) e) fun _ _ q => q
theorem Reps.kept {g : Gd} {S T : Addr → Prop} {s s' : Shared} (k : Kp T s s') (ht : ∀ b, T b → S b) {v : List Value} {d : List D} (r : Reps g S s.heap v d) : Reps g S s'.heap v d :=
  r.mono (fun b o n e => k.heap b o (fun t => n (ht b t)) e) fun _ _ q => q
end J5
end
section
open PySem PySem.W PySem.W.X PyProof.Rows
set_option Elab.async false
set_option maxRecDepth 100000
set_option linter.unusedVariables false
namespace J5
structure Gok (g : Gd) : Prop where
  K : g.K.In g.h₀
  kT : ∀ a o, g.K.lookup a = some o → ¬ g.Tb a
  hg : g.h₀.Ns mainGlobals g.mg
  hb : g.h₀.Ns builtinsNs g.mb
  nl : g.h₀.NoLimit
  gT : ¬ g.Tb mainGlobals
  bT : ¬ g.Tb builtinsNs
  sT : ¬ g.Tb cStatics
  builtins : ∀ x : Str, x ≠ "__name__" → g.mb x = bootBuiltins x
  cT : ∀ c P, (c, P) ∈ g.T → ¬ g.Tb c
  tU : ∀ c c' P, (c, P) ∈ g.T → (c', P) ∈ g.T → c = c'
structure Bs (g : Gd) (s : Shared) : Prop where
  keep : ∀ b o, ¬ g.Tb b → g.h₀.get? b = some o → s.heap.get? b = some o
  tabs : ∀ c P, (c, P) ∈ g.T → ∃ ps₀ more, g.h₀.TableAt c P ps₀ ∧ s.heap.IsCode c P (ps₀ ++ more) ∧ s.heap.TableAt c P (ps₀ ++ more)
  bare : AllBare s.gens
  os : s.os = g.os₀
section
variable {g : Gd} {s s' : Shared}
theorem Bs.K (G : Gok g) (B : Bs g s) : g.K.In s.heap := fun a o e => B.keep a o (G.kT a o e) (G.K a o e)
theorem Heap.Ns.keepAt {h h' : Heap} {a : Addr} {m} (hn : h.Ns a m) (e : ∀ o, h.get? a = some o → h'.get? a = some o) : h'.Ns a m :=
  let ⟨o, es, ep, x, r⟩ := hn; ⟨o, es, ep, e _ x, r⟩
theorem Bs.hg (G : Gok g) (B : Bs g s) : s.heap.Ns mainGlobals g.mg := Heap.Ns.keepAt G.hg fun o e => B.keep _ o G.gT e
theorem Bs.hb (G : Gok g) (B : Bs g s) : s.heap.Ns builtinsNs g.mb := Heap.Ns.keepAt G.hb fun o e => B.keep _ o G.bT e
theorem Bs.nl (G : Gok g) (B : Bs g s) : s.heap.NoLimit := let ⟨mc, a, b⟩ := G.nl; ⟨mc, Heap.Ns.keepAt a fun o e => B.keep _ o G.sT e, b⟩
theorem Bs.toks (B : Bs g s) (t : Nat) : Bs g { s with toks := t } := ⟨B.keep, B.tabs, B.bare, B.os⟩
/- the state goes on, nothing that was there changed, but at places that the ground does not speak of -/
theorem Bs.kp {F : Addr → Prop} (B : Bs g s) (k : Kp F s s') (hF : ∀ b o, F b → g.h₀.get? b = some o → False) (hC : ∀ c P, (c, P) ∈ g.T → ¬ F c ∧ ¬ F P) (hb : AllBare s'.gens) : Bs g s' :=
  ⟨fun b o n e => k.heap b o (fun f => hF b o f e) (B.keep b o n e),
   fun c P m => by
    obtain ⟨ps, more, h1, ⟨o, vs, file, tf, flags, tg, inF, text, tt, op, ho, hd, h11, h2, h7, h9, h10, hop, hpd, htr, hne⟩, ⟨⟨o', vs', q1, q2, q3, q4⟩, q5⟩⟩ := B.tabs c P m
    obtain ⟨n1, n2⟩ := hC c P m
    exact ⟨ps, more, h1, ⟨o, vs, file, tf, flags, tg, inF, text, tt, op, k.heap _ _ n1 ho, hd, h11, h2, h7, h9, h10, k.heap _ _ n2 hop, hpd, htr, hne⟩, ⟨⟨o', vs', k.heap _ _ n1 q1, q2, q3, q4⟩, k.heap _ _ n2 q5⟩⟩,
   hb, k.os.trans B.os⟩
theorem Bs.fresh {s' : Shared} (B : Bs g s) (k : Kp (fun b => s.heap.objs.size ≤ b) s s') (hb : AllBare s'.gens) : Bs g s' := by
  have k' : Kp (fun _ => False) s s' := ⟨fun b o _ e => k.heap b o (Nat.not_le.mpr (Heap.lt_size e)) e, k.size, k.gens, k.os⟩
  exact B.kp k' (fun _ _ f => f.elim) (fun _ _ _ => ⟨id, id⟩) hb
theorem Bs.new (B : Bs g s) {b : Addr} (h : s.heap.objs.size ≤ b) : ¬ g.Tb b ∧ (∀ o, g.h₀.get? b = some o → False) ∧ ∀ c P, (c, P) ∈ g.T → c ≠ b := by
  have nt : ¬ g.Tb b := by
    rintro ⟨c, m⟩
    obtain ⟨ps, more, _, _, ⟨_, q⟩⟩ := B.tabs c b m
    exact absurd (Heap.lt_size q) (Nat.not_lt.mpr h)
  refine ⟨nt, fun o e => absurd (Heap.lt_size (B.keep b o nt e)) (Nat.not_lt.mpr h), ?_⟩
  rintro c P m rfl
  obtain ⟨ps, more, _, _, ⟨⟨o, vs, q, _⟩, _⟩⟩ := B.tabs _ P m
  exact absurd (Heap.lt_size q) (Nat.not_lt.mpr h)
theorem Kp.push (s : Shared) (o : Obj) (t : Nat) {T : Addr → Prop} : Kp T s { s with heap := s.heap.push o, toks := t } :=
  ⟨fun _ _ _ e => Heap.get?_push_of_some _ e, by show _ ≤ (s.heap.push o).objs.size; rw [Heap.size_push]; exact Nat.le_succ _, fun _ _ e => e, rfl⟩
theorem Kp.tok (s : Shared) (t : Nat) {T : Addr → Prop} : Kp T s { s with toks := t } := ⟨fun _ _ _ e => e, Nat.le_refl _, fun _ _ e => e, rfl⟩
end
/- The slots of a frame. -/
inductive Slot where
  | val (d : D)
  | own (d : D)
  | ini (v : Value) (a : Addr) (d : D)
abbrev Rho := List (Str × Slot)
/- an own thing: the object at a (behind the value v) is nobody else's -/
inductive Owns (g : Gd) (S : Addr → Prop) (h : Heap) : Value → Addr → D → Prop
  | list {a : Addr} {vs : List Value} {n : Nat} {ds : List D} : h.get? a = some { cls := .type "list", data := .seq vs.toArray n } → Reps g S h vs ds → Owns g S h (.ref a) a (.list ds)
  | dict {a : Addr} {kvs : List (Str × Value)} {ks vs : List D} : (a == sysModules) = false → h.DictOf g.kd a kvs → kvs.map (fun p => some p.1) = ks.map kyD → Reps g S h (kvs.map (·.2)) vs → Owns g S h (.ref a) a (.dict ks vs)
  | set {a : Addr} {es : List (Int × Value)} {n : Nat} {T : SetTable} {ds : List D} : h.get? a = some { cls := .type "set", data := .set es.toArray n T } → T.fits es.length = true → Reps g S h (es.map (·.2)) ds → Owns g S h (.ref a) a (.set ds)
  | inst {a dx c : Addr} {es : List DictEntry} {n : Nat} {ns : List Str} {vs : List D} : ¬ S a → h.get? a = some ⟨.ref c, some dx, .plain, #[]⟩ → h.get? dx = some { cls := .type "dict", data := .dict es.toArray n } →
      NamesAre es ns → Reps g S h (es.map (·.val)) vs → Owns g S h (.ref a) dx (.inst c ns vs)
theorem Owns.mono {g : Gd} {S S' : Addr → Prop} {h h' : Heap} (hk : ∀ b o, ¬ S b → h.get? b = some o → h'.get? b = some o) (hs : ∀ b, b < h.objs.size → S' b → S b) {v : Value} {a : Addr} {d : D}
    (r : Owns g S h v a d) (ha : ∀ o, h.get? a = some o → h'.get? a = some o) : Owns g S' h' v a d := by
  cases r with
  | list a b => exact .list (ha _ a) (b.mono hk hs)
  | dict n a b c => exact .dict n (DictOf.keepAt a ha) b (c.mono hk hs)
  | set a f b => exact .set (ha _ a) f (b.mono hk hs)
  | inst n a b c d => exact .inst (fun q => n (hs _ (Heap.lt_size a) q)) (hk _ _ n a) (ha _ b) c (d.mono hk hs)
theorem Owns.lt {g : Gd} {S : Addr → Prop} {h : Heap} {v : Value} {a : Addr} {d : D} (r : Owns g S h v a d) : ∃ o, h.get? a = some o := by
  cases r with
  | list a b => exact ⟨_, a⟩
  | dict n a b c => exact let ⟨o, _, _, q, _⟩ := a; ⟨o, q⟩
  | set a f b => exact ⟨_, a⟩
  | inst n a b c d => exact ⟨_, b⟩
/- no more own: the thing stands for good -/
theorem Owns.freeze {g : Gd} {S : Addr → Prop} {h : Heap} {v : Value} {a : Addr} {d : D} (r : Owns g S h v a d) {S' : Addr → Prop} (hs : ∀ b, b < h.objs.size → S' b → S b) (ha : ¬ S' a) : Rep g S' h v d := by
  have m : ∀ b o, ¬ S b → h.get? b = some o → h.get? b = some o := fun _ _ _ e => e
  cases r with
  | list a b => exact .list ha a (b.mono m hs)
  | dict n a b c => exact .dict ha n a b (c.mono m hs)
  | set a f b => exact .set ha a f (b.mono m hs)
  | inst n a b c d => exact .inst (fun q => n (hs _ (Heap.lt_size a) q)) ha a b c (d.mono m hs)
/- The frame: F is what this frame may change, Sc what frames around it may change. -/
def Sx (F Sc : Addr → Prop) : Addr → Prop := fun b => F b ∨ Sc b
inductive At (env : Env) (h : Heap) (m : Str → Option Value) (x : Str) (v : Value) : Prop
  | loc : env.kindOf x = some .local → m x = some v → At env h m x v
  | cell {c : Addr} : env.kindOf x = some .cell → env.cells.lookup x = some c → h.IsCell c (some v) → At env h m x v
  | free {c : Addr} : env.kindOf x = some .free → (x == ("__classdict__" : Str)) = false → env.cells.lookup x = some c → h.IsCell c (some v) → At env h m x v
inductive SlotOk (g : Gd) (F Sc : Addr → Prop) (h : Heap) (env : Env) (O : Str → Option Addr) (x : Str) (v : Value) : Slot → Prop
  | val {d : D} : Rep g (Sx F Sc) h v d → SlotOk g F Sc h env O x v (.val d)
  | own {d : D} {a : Addr} : O x = some a → Owns g (Sx F Sc) h v a d → SlotOk g F Sc h env O x v (.own d)
  | ini {d : D} {a : Addr} : O x = some a → Owns g (Sx F Sc) h v a d → SlotOk g F Sc h env O x v (.ini v a d)
structure FrOk (g : Gd) (env : Env) (Sc F : Addr → Prop) (ρ : Rho) (O : Str → Option Addr) (s : Shared) : Prop where
  bs : Bs g s
  kind : env.scope.kind = .function
  gl : env.globals = mainGlobals
  bi : env.builtins = builtinsNs
  tF : ∀ b, g.Tb b → F b
  tS : ∀ b, Sc b → b < s.heap.objs.size
  fS : ∀ b, F b → b < s.heap.objs.size
  L : F env.locals
  own : ∀ x a, O x = some a → F a ∧ ¬ g.Tb a ∧ a ≠ env.locals ∧ (∀ y c, env.cells.lookup y = some c → a ≠ c) ∧ (∀ y, O y = some a → y = x) ∧ ¬ Sc a
  cL : ∀ y c, env.cells.lookup y = some c → c ≠ env.locals ∧ ¬ g.Tb c ∧ ∀ z, env.cells.lookup z = some c → z = y
  lT : ¬ g.Tb env.locals
  nw : ∀ b, F b → ¬ g.Tb b → (∀ o, g.h₀.get? b = some o → False) ∧ ∀ c P, (c, P) ∈ g.T → c ≠ b
  cF : ∀ y c, env.cells.lookup y = some c → F c ∧ ∃ v₀, s.heap.IsCell c v₀
  at_ : ∃ m, s.heap.Ns env.locals m ∧ ∀ x sl, ρ.lookup x = some sl → ∃ v, At env s.heap m x v ∧ SlotOk g F Sc s.heap env O x v sl
section
variable {g : Gd} {env : Env} {Sc F : Addr → Prop} {ρ : Rho} {O : Str → Option Addr} {s s' : Shared}
theorem At.keep {h h' : Heap} {m : Str → Option Value} {x : Str} {v : Value} (a : At env h m x v) (hk : ∀ y c o, env.cells.lookup y = some c → h.get? c = some o → h'.get? c = some o) : At env h' m x v := by
  cases a with
  | loc a b => exact .loc a b
  | cell a b c => exact .cell a b (let ⟨o, p, q⟩ := c; ⟨o, hk _ _ _ b p, q⟩)
  | free a n b c => exact .free a n b (let ⟨o, p, q⟩ := c; ⟨o, hk _ _ _ b p, q⟩)
theorem FrOk.kp (X : FrOk g env Sc F ρ O s) (k : Kp g.Tb s s') (B : Bs g s') : FrOk g env Sc F ρ O s' := by
  obtain ⟨m, hn, hx⟩ := X.at_
  refine ⟨B, X.kind, X.gl, X.bi, X.tF, fun b h => Nat.lt_of_lt_of_le (X.tS b h) k.size, fun b h => Nat.lt_of_lt_of_le (X.fS b h) k.size, X.L, X.own, X.cL, X.lT, X.nw,
    (fun y c e => ⟨(X.cF y c e).1, let ⟨v₀, o, p, q⟩ := (X.cF y c e).2; ⟨v₀, o, k.heap _ _ (X.cL y c e).2.1 p, q⟩⟩), m, Heap.Ns.keepAt hn fun o e => k.heap _ o X.lT e, fun x sl e => ?_⟩
  obtain ⟨v, a, b⟩ := hx x sl e
  refine ⟨v, a.keep fun y c o h e => k.heap c o (X.cL y c h).2.1 e, ?_⟩
  have hk : ∀ b o, ¬ Sx F Sc b → s.heap.get? b = some o → s'.heap.get? b = some o := fun b o n e => k.heap b o (fun t => n (.inl (X.tF b t))) e
  cases b with
  | val r => exact .val (r.mono hk fun _ _ q => q)
  | own o r => exact .own o (r.mono hk (fun _ _ q => q) fun ob e => k.heap _ ob (X.own _ _ o).2.1 e)
  | ini o r => exact .ini o (r.mono hk (fun _ _ q => q) fun ob e => k.heap _ ob (X.own _ _ o).2.1 e)
end
end J5
end
section
open PySem PySem.W PySem.W.X PyProof.Rows
set_option Elab.async false
set_option maxRecDepth 100000
set_option linter.unusedVariables false
namespace J5
/- a step that may not be had; the Prop is what is still to be shown of sizes -/
abbrev Rs (α : Type) := Option (Prop × α)
def ok {α : Type} (a : α) : Rs α := some (True, a)
def must {α : Type} (p : Prop) (a : α) : Rs α := some (p, a)
def Rs.then {α β : Type} (x : Rs α) (f : α → Rs β) : Rs β := match x with
  | some (p, a) => (match f a with | some (q, b) => some (p ∧ q, b) | none => none)
  | none => none
theorem Rs.then_some {α β : Type} {x : Rs α} {f : α → Rs β} {r : Prop} {b : β} (e : x.then f = some (r, b)) (hr : r) : ∃ p a q, x = some (p, a) ∧ f a = some (q, b) ∧ p ∧ q := by
  unfold Rs.then at e
  cases x with
  | none => cases e
  | some pa =>
    obtain ⟨p, a⟩ := pa
    dsimp only at e
    cases h : f a with
    | none => rw [h] at e; cases e
    | some qb =>
      obtain ⟨q, b'⟩ := qb
      rw [h] at e
      cases e
      exact ⟨p, a, q, rfl, h, hr.1, hr.2⟩
/- a tree gives a value (and nothing that was there is changed but the tables) -/
def Gives (g : Gd) (A : Around) (S : Addr → Prop) (s : Shared) (t : Sem Value) (d : D) : Prop :=
  ∀ (Q : Value → Shared → Prop) (E : Value → Shared → Prop), (∀ v s', Bs g s' → Kp g.Tb s s' → Rep g S s'.heap v d → Q v s') → wpAny g.M A t Q E s
def Tells (g : Gd) (A : Around) (s : Shared) (t : Sem Bool) (b : Bool) : Prop :=
  ∀ (Q : Bool → Shared → Prop) (E : Value → Shared → Prop), (∀ s', Bs g s' → Kp g.Tb s s' → Q b s') → wpAny g.M A t Q E s
def S? (x : List Nat) : Str := ⟨x.toArray⟩
theorem S?_length (x : List Nat) : (S? x).length = x.length := by simp [S?, Str.length]
theorem S?_append (x y : List Nat) : S? x ++ S? y = S? (x ++ y) := by
  show Str.mk (x.toArray ++ y.toArray) = _
  rw [List.append_toArray]; rfl
section
variable {g : Gd} {A : Around} {S : Addr → Prop} {s : Shared}
theorem Gives.val {v : Value} {d : D} (B : Bs g s) (r : Rep g S s.heap v d) : Gives g A S s (pure v) d := fun Q E h => wpAny_pure (h v s B (.refl s) r)
theorem Gives.atTok {t : Sem Value} {d : D} {v : Value} (B : Bs g s) (n : Nat) (r : Rep g S s.heap v d) (h : ∀ Q E, Q v { s with toks := n } → wpAny g.M A t Q E s) : Gives g A S s t d :=
  fun Q E q => h Q E (q v _ (B.toks n) (Kp.tok s n) r)
theorem Gives.same {t : Sem Value} {d : D} {v : Value} (B : Bs g s) (r : Rep g S s.heap v d) (h : ∀ Q E, Q v s → wpAny g.M A t Q E s) : Gives g A S s t d :=
  fun Q E q => h Q E (q v _ B (.refl s) r)
/- binary operators -/
def chk (x : List Nat) : Rs D := must (x.length ≤ sizeLine) (.str x)
def rep (x : List Nat) : Nat → List Nat
  | 0 => []
  | n + 1 => x ++ rep x n
def opD : Operator → D → D → Rs D
  | .Add, .str x, .str y => chk (x ++ y)
  | .Add, .int a, .int b => ok (.int (a + b))
  | .Sub, .int a, .int b => ok (.int (a - b))
  | .Mult, .int a, .int b => must (IntMulOk a b) (.int (a * b))
  | .Mod, .int a, .int b => must (b ≠ 0) (.int (a.fmod b))
  | .FloorDiv, .int a, .int b => must (b ≠ 0 ∧ Builtin.divisionGoesByPylong a b = false) (.int (a.fdiv b))
  | .Pow, .int a, .int n => must (0 ≤ n ∧ n ≤ 1000000 ∧ a.natAbs < 2 ^ 64) (.int (a ^ n.toNat))
  | _, _, _ => none
theorem opD_sound {op : Operator} {a b d : D} {p : Prop} {u v : Value} (e : opD op a b = some (p, d)) (hp : p) (B : Bs g s) (ra : Rep g S s.heap u a) (rb : Rep g S s.heap v b) :
    Gives g A S s (binaryOp op u v) d := by
  unfold opD at e
  split at e <;> (first | cases e | skip)
  · cases ra with | str x t => cases rb with | str y t' =>
    exact fun Q E q => SBL.add (fun t' k _ => q _ _ (B.toks k) (Kp.tok s k) (by show Rep g _ _ (.str (S? _ ++ S? _) _) _; rw [S?_append]; exact .str _ _)) (by rw [show ∀ z : List Nat, (⟨z.toArray⟩ : Str).length = z.length from S?_length, show ∀ z : List Nat, (⟨z.toArray⟩ : Str).length = z.length from S?_length, ← List.length_append]; exact hp)
  · cases ra with | int x t => cases rb with | int y t' => exact .atTok B _ (.int _ _) fun Q E q => PyProof.Rows.add_int q
  · cases ra with | int x t => cases rb with | int y t' => exact .atTok B _ (.int _ _) fun Q E q => PyProof.Rows.sub_int q
  · cases ra with | int x t => cases rb with | int y t' => exact .atTok B _ (.int _ _) fun Q E q => P.mul_int q hp
  · cases ra with | int x t => cases rb with | int y t' => exact .atTok B _ (.int _ _) fun Q E q => PyProof.Rows.mod_int' hp q
  · cases ra with | int x t => cases rb with | int y t' => exact .atTok B _ (.int _ _) fun Q E q => PyProof.Rows.floordiv_int hp.1 q (.inl hp.2)
  · cases ra with | int x t => cases rb with | int y t' => exact .atTok B _ (.int _ _) fun Q E q => PyProof.Rows.pow_int_small hp.1 hp.2.1 hp.2.2 q
/- truth -/
theorem noBool_set : typeLookup (.type "set") "__bool__" = pure none := by rw [typeLookup_type, builtinLookup_eq_fast]; kernel_rfl
theorem truthy_set {prog : Program} {w : World} {A : Around} {E : Value → Shared → Prop} {s : Shared} {a : Addr} {o : Obj} {es : Array (Int × Value)} {ep : Nat} {t : SetTable} {Q : Bool → Shared → Prop}
    (ho : s.heap.get? a = some o) (hex : o.ExactSet) (hd : o.data = .set es ep t) (hf : t.fits es.size = true) (hfit : (es.size : Int) < 2 ^ 63)
    (h : Q (!es.isEmpty) { s with toks := s.toks + 1 + 1 }) : wpAny (model prog w) A (truthy (.ref a)) Q E s := by
  have hT : s.TypeIs (.ref a) "set" := ⟨o, ho, hex.1⟩
  have hne : ((es.size : Int) != 0) = !es.isEmpty := by
    obtain ⟨l⟩ := es
    cases l <;> simp <;> omega
  have key : wpAny (model prog w) A (runValue (.builtin "len" ⟨[.ref a], []⟩)) (fun r s' => r = .int es.size (s.toks + 1) ∧ Q (!es.isEmpty) s') E s := by
    refine wpAny_runValue (codeAny_builtin entry_len ?_)
    rw [Around.under_plainId plain_len _]
    exact wpAny_mono (wpAny_len_body_set (Q := fun r s' => r = .int es.size (s.toks + 1) ∧ Q (!es.isEmpty) s') ho hex hd hf hfit ⟨rfl, h⟩)
      (fun fin s' h' => by obtain ⟨r, rfl, hq⟩ := h'; exact hq) fun _ _ e => e
  unfold truthy
  first
    | refine wpAny_bind (wpAny_callSpecial?_none (name := Str.ofString "__bool__") hT noBool_set ?_)
    | refine wpAny_bind (wpAny_pure (wpAny_bind (wpAny_callSpecial?_none (name := Str.ofString "__bool__") hT noBool_set ?_)))
  first
    | refine wpAny_bind (wpAny_specialOf (name := Str.ofString "__len__") hT F.slot_set_len.lookup ?_)
    | refine wpAny_bind (wpAny_pure (wpAny_bind (wpAny_specialOf (name := Str.ofString "__len__") hT F.slot_set_len.lookup ?_)))
  first
    | exact wpAny_bind (wpAny_mono key (fun r s' h' => by obtain ⟨rfl, hq⟩ := h'; exact wpAny_pure (hne ▸ hq)) fun _ _ e => e)
    | exact wpAny_bind (wpAny_pure (wpAny_bind (wpAny_mono key (fun r s' h' => by obtain ⟨rfl, hq⟩ := h'; exact wpAny_pure (hne ▸ hq)) fun _ _ e => e)))
def truD : D → Rs Bool
  | .none => ok false
  | .bool b => ok b
  | .int i => ok (i != 0)
  | .str x => must (x.length ≤ sizeLine) (!x.isEmpty)
  | .tup ds => must (ds.length ≤ sizeLine) (!ds.isEmpty)
  | .list ds => must (ds.length ≤ sizeLine) (!ds.isEmpty)
  | .dict ks _ => must (ks.length ≤ sizeLine) (!ks.isEmpty)
  | .set ds => must (ds.length ≤ sizeLine) (!ds.isEmpty)
  | _ => none
theorem line_fits {n : Nat} (h : n ≤ sizeLine) : (n : Int) < 2 ^ 63 := by
  have : sizeLine = 2 ^ 24 := rfl
  omega
theorem Tells.atTok {t : Sem Bool} {b : Bool} (B : Bs g s) (n : Nat) (h : ∀ Q E, Q b { s with toks := n } → wpAny g.M A t Q E s) : Tells g A s t b :=
  fun Q E q => h Q E (q _ (B.toks n) (Kp.tok s n))
theorem Tells.same {t : Sem Bool} {b : Bool} (B : Bs g s) (h : ∀ Q E, Q b s → wpAny g.M A t Q E s) : Tells g A s t b := fun Q E q => h Q E (q _ B (.refl s))
theorem isList_of {h : Heap} {a : Addr} {vs : List Value} {n : Nat} (e : h.get? a = some { cls := .type "list", data := .seq vs.toArray n }) : h.IsList a vs.toArray := ⟨_, e, rfl, _, rfl⟩
theorem isTup_of {h : Heap} {a : Addr} {vs : List Value} {n : Nat} (e : h.get? a = some { cls := .type "tuple", data := .seq vs.toArray n }) : IsTup h a vs.toArray := ⟨_, e, rfl, _, rfl⟩
theorem truD_sound {a : D} {b : Bool} {p : Prop} {u : Value} (e : truD a = some (p, b)) (hp : p) (B : Bs g s) (ra : Rep g S s.heap u a) : Tells g A s (truthy u) b := by
  unfold truD at e
  split at e <;> (first | cases e | skip)
  · cases ra; exact .same B fun Q E q => truthy_none q
  · cases ra; exact .same B fun Q E q => wpAny_truthy_bool q
  · cases ra; exact .same B fun Q E q => P.truthy_int q
  · rename_i x
    cases ra with | str x t =>
    refine .atTok B (s.toks + 1 + 1) fun Q E q => P.truthy_str (by have := line_fits hp; show ¬ (((S? x).length : Nat) : Int) ≥ 2 ^ 63; rw [S?_length]; omega) ?_
    have e2 : ((((⟨x.toArray⟩ : Str).length : Nat) : Int) != 0) = !x.isEmpty := by
      show ((((S? x).length : Nat) : Int) != 0) = _
      rw [S?_length]
      cases x <;> simp <;> omega
    rw [e2]; exact q
  · cases ra with | tup n1 h1 r =>
    have hl := r.length
    refine .atTok B (s.toks + 1 + 1) fun Q E q => PyProof.Rows.truthy_tuple (isTup_of h1) (by rw [List.size_toArray, hl]; exact line_fits hp) ?_
    rw [show ∀ l : List Value, l.toArray.isEmpty = l.isEmpty from fun l => by cases l <;> rfl, show ∀ (l : List Value) (m : List D), l.length = m.length → l.isEmpty = m.isEmpty from fun l m h => by cases l <;> cases m <;> simp_all]
    · exact q
    · exact hl
  · cases ra with | list n1 h1 r =>
    have hl := r.length
    refine .atTok B (s.toks + 1 + 1) fun Q E q => wpAny_truthy_list (isList_of h1) (by rw [List.size_toArray, hl]; exact line_fits hp) ?_
    rw [show ∀ l : List Value, l.toArray.isEmpty = l.isEmpty from fun l => by cases l <;> rfl, show ∀ (l : List Value) (m : List D), l.length = m.length → l.isEmpty = m.isEmpty from fun l m h => by cases l <;> cases m <;> simp_all]
    · exact q
    · exact hl
  · cases ra with | dict n1 n2 h1 h2 r =>
    rename_i kvs _ _
    have hl := congrArg List.length h2
    rw [List.length_map, List.length_map] at hl
    refine .atTok B (s.toks + 1 + 1) fun Q E q => wpAny_truthy_dict n2 h1 (by rw [hl]; exact line_fits hp) ?_
    rw [show ∀ (l : List (Str × Value)) (m : List D), l.length = m.length → l.isEmpty = m.isEmpty from fun l m h => by cases l <;> cases m <;> simp_all]
    · exact q
    · exact hl
  · cases ra with | set n1 h1 hf r =>
    rename_i a es n T
    have hl := r.length
    rw [List.length_map] at hl
    refine .atTok B (s.toks + 1 + 1) fun Q E q => truthy_set h1 ⟨rfl, rfl, rfl⟩ rfl (by rw [List.size_toArray]; exact hf) (by rw [List.size_toArray, hl]; exact line_fits hp) ?_
    rw [show ∀ l : List (Int × Value), l.toArray.isEmpty = l.isEmpty from fun l => by cases l <;> rfl, show ∀ (l : List (Int × Value)) (m : List D), l.length = m.length → l.isEmpty = m.isEmpty from fun l m h => by cases l <;> cases m <;> simp_all]
    · exact q
    · exact hl
end
end J5
end
section
open PySem PySem.W PySem.W.X PyProof.Rows Builtin
set_option Elab.async false
set_option maxRecDepth 100000
set_option linter.unusedVariables false
namespace J5
section
variable {prog : Program} {w : World} {A : Around} {E : Value → Shared → Prop} {s : Shared} {K : Frag} {x y C : Addr} {ox oy : Obj}
/- two objects of one class of the text, whose == is object's own -/
def eqPlain (K : Frag) (x y : Addr) : Bool := match K.lookup x, K.lookup y with
  | some ox, some oy => (match ox.cls with
      | .ref C => oy.cls == .ref C && findIn K (.ref C) "__eq__" == some (some (.builtin "object.__eq__")) && mroIn K C (.type "object") == some true
      | _ => false)
  | _, _ => false
theorem eqPlain_open (h : eqPlain K x y = true) : ∃ ox oy C, K.lookup x = some ox ∧ K.lookup y = some oy ∧ ox.cls = .ref C ∧ oy.cls = .ref C ∧ findIn K (.ref C) "__eq__" = some (some (.builtin "object.__eq__")) ∧ mroIn K C (.type "object") = some true := by
  unfold eqPlain at h
  split at h
  · rename_i ox oy hx hy
    split at h
    · rename_i C hc
      simp only [Bool.and_eq_true, beq_iff_eq] at h
      exact ⟨ox, oy, C, hx, hy, hc, h.1.1, h.1.2, h.2⟩
    · cases h
  · cases h
theorem try_eq {Q : Option Value → Shared → Prop} (X : K.In s.heap) (hx : K.lookup x = some ox) (hy : K.lookup y = some oy) (cx : ox.cls = .ref C)
    (hs : findIn K (.ref C) "__eq__" = some (some (.builtin "object.__eq__"))) (hm : mroIn K C (.type "object") = some true)
    (h : Q (if x = y then some (.bool true) else none) s) : wpAny (model prog w) A (tryCompare (.ref x) "__eq__" (.ref y)) Q E s := by
  have T : ∀ M, Looks M s.heap (typeOf (.ref x)) (.ref C) := fun M => looks_typeIn X (by show (K.lookup x).map _ = _; rw [hx]; show some ox.cls = _; rw [cx])
  have S := F.cmp_object.eq
  have callIt : ∀ (Q : Value → Shared → Prop), Q (if x = y then .bool true else .notImplemented) s → wpAny (model prog w) A (call (.builtin "object.__eq__") [.ref x, .ref y]) Q E s := by
    intro Q q
    refine wpAny_call (codeAny_call_builtin S.plain F.cmpEntry_eq ?_)
    refine @check_slot (model prog w) _ _ s "object.__eq__" "object" "__eq__" (.ref x) [.ref y] [] _ (by decide +kernel) (by decide +kernel) ((T _).andThen (looks_mroIn X hm)) (F.cmpArgs_eq _ _) ?_
    by_cases e : x = y
    · subst e
      rw [if_pos rfl] at q
      exact objEq_entry_same q
    · rw [if_neg e] at q
      exact objEq_entry_other e (X _ _ hx) (X _ _ hy) (by rw [cx]; nofun) q
  unfold tryCompare
  refine wpAny_bind ?_
  simp only [callSpecialIfBound?, bindSpecialIfBound?]
  refine wpAny_holding (wpAny_bind (wpAny_bind (wpAny_bind ((T _).here ((looks_findIn X hs).here ?_)))))
  simp only [S.bind]
  refine wpAny_bind (wpAny_askSetting (wpAny_ite ?_))
  have fin : wpAny (model prog w) A (call (.builtin "object.__eq__") ([.ref x] ++ [.ref y]) >>= fun v => pure (some v)) (fun a s' => wpAny (model prog w) A (match a with | some Value.notImplemented => pure none | none => pure none | some v => pure (some v)) Q E s') E s := by
    refine wpAny_bind (callIt _ (wpAny_pure ?_))
    by_cases e : x = y
    · rw [if_pos e] at h ⊢; exact wpAny_pure h
    · rw [if_neg e] at h ⊢; exact wpAny_pure h
  split
  · exact wpAny_bind (wpAny_pure (wpAny_pure fin))
  · exact wpAny_tryCatch (wpAny_bind (wpAny_pure (wpAny_pure fin)))
theorem rich_eq {Q : Value → Shared → Prop} (hu : A.units < cLine) (X : K.In s.heap) (hp : eqPlain K x y = true) (h : Q (.bool (x == y)) s) : wpAny (model prog w) A (compareOp .Eq (.ref x) (.ref y)) Q E s := by
  obtain ⟨ox, oy, C, hx, hy, cx, cy, hs, hm⟩ := eqPlain_open hp
  have Tx : ∀ M, Looks M s.heap (typeOf (.ref x)) (.ref C) := fun M => looks_typeIn X (by show (K.lookup x).map _ = _; rw [hx]; show some ox.cls = _; rw [cx])
  have Ty : ∀ M, Looks M s.heap (typeOf (.ref y)) (.ref C) := fun M => looks_typeIn X (by show (K.lookup y).map _ = _; rw [hy]; show some oy.cls = _; rw [cy])
  show wpAny _ A (richCompare .Eq (.ref x) (.ref y)) Q E s
  unfold richCompare
  simp only [oneThing_ref]
  refine wpAny_holding (wpAny_bind (wpAny_cRoomFor hu ?_))
  refine wpAny_bind ((Tx _).here (wpAny_bind ((Ty _).here ?_)))
  rw [if_neg (by simp)]
  refine wpAny_bind (wpAny_pure ?_)
  simp only [Bool.false_eq_true, if_false]
  refine wpAny_bind (try_eq X hx hy cx hs hm ?_)
  by_cases e : x = y
  · subst e
    rw [if_pos rfl]
    rw [beq_self_eq_true] at h
    exact wpAny_pure h
  · rw [if_neg e]
    simp only [Bool.not_false, if_true]
    refine wpAny_bind (try_eq X hy hx cy hs hm ?_)
    rw [if_neg (Ne.symm e)]
    refine wpAny_bind (wpAny_rule (wpAny_bind (wpAny_isSame_ref_other e (X _ _ hx) (X _ _ hy) (by rw [cx]; nofun) (wpAny_pure ?_))))
    have : (x == y) = false := by simpa using e
    rw [this] at h
    exact h
end
end J5
end
section
open PySem PySem.W PySem.W.X PyProof.Rows Builtin
set_option Elab.async false
set_option maxRecDepth 100000
set_option linter.unusedVariables false
namespace J5
/- equality of values, where it is told -/
def eqD (K : Frag) : D → D → Option Bool
  | .str x, .str y => some (x == y)
  | .int a, .int b => some (a == b)
  | .at (.ref x), .at (.ref y) => if eqPlain K x y then some (x == y) else none
  | _, _ => none
section
variable {g : Gd} {A : Around} {S : Addr → Prop} {s : Shared}
theorem str_beq (x y : List Nat) : ((S? x).cps.toList == (S? y).cps.toList) = (x == y) := by simp [S?]
theorem Str_beq (x y : List Nat) : (S? x == S? y) = (x == y) := by
  rw [Bool.eq_iff_iff, beq_iff_eq, beq_iff_eq]
  constructor
  · intro e; have := congrArg (fun z : Str => z.cps.toList) e; simpa [S?] using this
  · rintro rfl; rfl
theorem eqD_sound {a b : D} {r : Bool} {u v : Value} (G : Gok g) (hu : A.units < cLine) (e : eqD g.K a b = some r) (B : Bs g s) (ra : Rep g S s.heap u a) (rb : Rep g S s.heap v b) (Q : Value → Shared → Prop) (E : Value → Shared → Prop)
    (q : Q (.bool r) s) : wpAny g.M A (compareOp .Eq u v) Q E s := by
  unfold eqD at e
  split at e
  · cases e; cases ra with | str x t => cases rb with | str y t' => exact P.eq_str (by rw [show ∀ z : List Nat, (⟨z.toArray⟩ : Str) = S? z from fun _ => rfl, show ∀ z : List Nat, (⟨z.toArray⟩ : Str) = S? z from fun _ => rfl, str_beq]; exact q)
  · cases e; cases ra with | int x t => cases rb with | int y t' => exact P.eq_int q
  · split at e
    · rename_i hp; cases e; cases ra; cases rb; exact rich_eq hu (B.K G) hp q
    · cases e
  · cases e
def neD : D → D → Option Bool
  | .str x, .str y => some (!(x == y))
  | .int a, .int b => some (a != b)
  | _, _ => none
theorem neD_sound {a b : D} {r : Bool} {u v : Value} (e : neD a b = some r) (B : Bs g s) (ra : Rep g S s.heap u a) (rb : Rep g S s.heap v b) (Q : Value → Shared → Prop) (E : Value → Shared → Prop)
    (q : Q (.bool r) s) : wpAny g.M A (compareOp .NotEq u v) Q E s := by
  unfold neD at e
  split at e
  · cases e; cases ra with | str x t => cases rb with | str y t' => exact P.ne_str (by rw [bne, show ∀ z : List Nat, (⟨z.toArray⟩ : Str) = S? z from fun _ => rfl, show ∀ z : List Nat, (⟨z.toArray⟩ : Str) = S? z from fun _ => rfl, str_beq]; exact q)
  · cases e; cases ra with | int x t => cases rb with | int y t' => exact P.ne_int q
  · cases e
theorem eqB_sound {a b : D} {r : Bool} {u v : Value} (G : Gok g) (hu : A.units < cLine) (e : eqD g.K a b = some r) (B : Bs g s) (ra : Rep g S s.heap u a) (rb : Rep g S s.heap v b) (Q : Bool → Shared → Prop) (E : Value → Shared → Prop)
    (q : Q r s) : wpAny g.M A (eqBool u v) Q E s := by
  unfold eqD at e
  split at e
  · cases e; cases ra with | str x t => cases rb with | str y t' => exact eqBool_str (by rw [show ∀ z : List Nat, (⟨z.toArray⟩ : Str) = S? z from fun _ => rfl, show ∀ z : List Nat, (⟨z.toArray⟩ : Str) = S? z from fun _ => rfl, Str_beq]; exact q)
  · cases e; cases ra with | int x t => cases rb with | int y t' => exact wpAny_eqBool_int q
  · split at e
    · rename_i x y hp; cases e; cases ra; cases rb
      unfold eqBool
      refine wpAny_holding ?_
      by_cases hxy : x = y
      · subst hxy
        rw [beq_self_eq_true] at q
        rw [if_pos (by simp)]
        exact wpAny_bind (wpAny_rule (wpAny_pure q))
      · rw [if_neg (by simpa using hxy)]
        exact wpAny_bind (rich_eq hu (B.K G) hp (wpAny_truthy_bool q))
    · cases e
  · cases e
/- x in (a, b, ..) -/
def anyD (K : Frag) (x : D) : List D → Option Bool
  | [] => some false
  | d :: ds => match eqD K d x with
    | some true => some true
    | some false => anyD K x ds
    | none => none
theorem tuple_contains {t : Addr} {items : List Value} {ds : List D} {a : D} {u : Value} {r : Bool} {R : Fin → Shared → Prop} {E : Value → Shared → Prop} (G : Gok g) (hu : A.units < cLine) (B : Bs g s) (ht : IsTup s.heap t items.toArray)
    (hi : Reps g S s.heap items ds) (ra : Rep g S s.heap u a) (e : anyD g.K a ds = some r) (h : R (.done (.ret (.bool r))) s) : wpAny g.M A (Builtin.«tuple.__contains__» ⟨[.ref t, u], []⟩) R E s := by
  show wpAny _ _ (Builtin.Tuple.tupleItemsOf (.ref t) >>= _) _ _ s
  refine wpAny_bind (tupleItemsOf_ ht ?_)
  refine wpAny_bind (forIn_array_ _ (fun rest b s' => b.1 = none ∧ s' = s ∧ ∃ ms, Reps g S s.heap rest ms ∧ anyD g.K a ms = some r) _ ?_ ?_ items.toArray _ ⟨rfl, rfl, ds, by simpa using hi, e⟩)
  · rintro y rest b s' ⟨hb, rfl, ms, hm, hP⟩
    cases hm with
    | cons hd hm' =>
      unfold anyD at hP
      split at hP
      · rename_i hq
        cases hP
        exact wpAny_bind (eqB_sound G hu hq B hd ra _ _ (wpAny_bind (wpAny_pure (wpAny_pure (wpAny_pure h)))))
      · rename_i hq
        exact wpAny_bind (eqB_sound G hu hq B hd ra _ _ (wpAny_pure ⟨rfl, rfl, _, hm', hP⟩))
      · cases hP
  · rintro ⟨b1, b2⟩ s' ⟨hb, rfl, ms, hm, hP⟩
    cases hm
    simp only at hb
    subst hb
    cases hP
    exact wpAny_pure h
theorem contains_tuple {t : Addr} {items : List Value} {ds : List D} {a : D} {u : Value} {r : Bool} {Q : Bool → Shared → Prop} {E : Value → Shared → Prop} (G : Gok g) (hu : A.units + 8 < cLine) (B : Bs g s) (ht : IsTup s.heap t items.toArray)
    (hi : Reps g S s.heap items ds) (ra : Rep g S s.heap u a) (e : anyD g.K a ds = some r) (h : Q r s) : wpAny g.M A (contains (.ref t) u) Q E s := by
  unfold contains
  refine wpAny_holding ?_
  refine wpAny_bind (wpAny_specialOf ht.typeIs slot_tuple_contains.lookup ?_)
  rw [if_neg (by decide)]
  exact wpAny_bind (wpAny_callSpecialUnlessNone?_slot (name := Str.ofString "__contains__") ht.typeIs slot_tuple_contains
    (wpAny_call_entry slot_tuple_contains ht.typeIs entry_tuple_contains (tuple_contains (A := A.in1) G (by show A.units + 1 < cLine; omega) B ht hi ra e ⟨_, rfl, wpAny_truthy_bool h⟩) (args_tuple_contains _ _)))
/- x is None, x is True, x is False -/
def isN : D → Option Bool
  | .none => some true
  | .at v => (match v with | .builtin _ => none | _ => some false)
  | _ => some false
def isB (c : Bool) : D → Option Bool
  | .bool b => some (b == c)
  | .at v => (match v with | .builtin _ => none | _ => some false)
  | _ => some false
def isD (a b : D) : Option Bool := match b with
  | .none => isN a
  | .bool c => isB c a
  | _ => none
theorem isSame_left {u v : Value} {Q : Bool → Shared → Prop} {E : Value → Shared → Prop} (hv : v = .none ∨ ∃ b, v = .bool b) (hu : ∀ i, u ≠ .builtin i) (h : Q (u == v) s) : wpAny g.M A (isSame u v) Q E s := by
  rcases hv with rfl | ⟨b, rfl⟩ <;> cases u <;> first | exact wpAny_pure h | exact absurd rfl (hu _)
theorem isN_sound {a : D} {r : Bool} {u : Value} (e : isN a = some r) (ra : Rep g S s.heap u a) : (∀ i, u ≠ .builtin i) ∧ (u == .none) = r := by
  cases ra with
  | «at» hs => cases u <;> first | (cases hs; done) | (cases e; exact ⟨fun _ h => (nomatch h), rfl⟩) | (cases e; done)
  | _ => cases e; exact ⟨fun _ h => (nomatch h), rfl⟩
theorem isB_sound {a : D} {c r : Bool} {u : Value} (e : isB c a = some r) (ra : Rep g S s.heap u a) : (∀ i, u ≠ .builtin i) ∧ (u == .bool c) = r := by
  cases ra with
  | «at» hs => cases u <;> first | (cases hs; done) | (cases e; exact ⟨fun _ h => (nomatch h), rfl⟩) | (cases e; done)
  | bool b => cases e; exact ⟨fun _ h => (nomatch h), by cases b <;> cases c <;> rfl⟩
  | _ => cases e; exact ⟨fun _ h => (nomatch h), rfl⟩
theorem isD_sound {a b : D} {r : Bool} {u v : Value} (e : isD a b = some r) (ra : Rep g S s.heap u a) (rb : Rep g S s.heap v b) {Q : Bool → Shared → Prop} {E : Value → Shared → Prop} (q : Q r s) : wpAny g.M A (isSame u v) Q E s := by
  cases rb with
  | none => have h := isN_sound (g := g) (S := S) (s := s) e ra; exact isSame_left (.inl rfl) h.1 (by rw [h.2]; exact q)
  | bool c => have h := isB_sound (g := g) (S := S) (s := s) e ra; exact isSame_left (.inr ⟨_, rfl⟩) h.1 (by rw [h.2]; exact q)
  | _ => cases e
end
end J5
end
section
open PySem PySem.W PySem.W.X PyProof.Rows Builtin
set_option Elab.async false
set_option maxRecDepth 100000
set_option linter.unusedVariables false
namespace J5
section
variable {g : Gd} {A : Around} {S : Addr → Prop} {s : Shared}
/- o[i] -/
def idxD (ds : List D) (i : Int) : Option D := if 0 ≤ i then ds[i.toNat]? else none
def lookD (k : List Nat) : List D → List D → Option D
  | .str x :: ks, v :: vs => if x == k then some v else lookD k ks vs
  | _, _ => none
def getD : D → D → Rs D
  | .list ds, .int i => (match idxD ds i with | some d => must (i < 2 ^ 63) d | none => none)
  | .tup ds, .int i => (match idxD ds i with | some d => must (i < 2 ^ 63) d | none => none)
  | .str x, .int i => if 0 ≤ i then (match x[i.toNat]? with | some c => must (i < 2 ^ 63) (.str [c]) | none => none) else none
  | .dict ks vs, .str k => (match lookD k ks vs with | some d => ok d | none => none)
  | _, _ => none
theorem lookD_sound {k : List Nat} {d : D} : ∀ {kvs : List (Str × Value)} {ks vs : List D}, kvs.map (fun p => some p.1) = ks.map kyD → Reps g S s.heap (kvs.map (·.2)) vs → lookD k ks vs = some d →
    ∃ v, valueAt kvs (S? k) = some v ∧ Rep g S s.heap v d
  | [], ks, vs, e, r, h => by
    cases r
    cases ks with
    | nil => cases h
    | cons d ks => cases d <;> cases h
  | (n, v) :: kvs, ks, vs, e, r, h => by
    cases ks with
    | nil => cases e
    | cons kd ks =>
      simp only [List.map_cons, List.cons.injEq] at e
      obtain ⟨e1, e2⟩ := e
      cases r with
      | cons r1 r2 =>
        unfold lookD at h
        split at h
        · rename_i x ks' v' vs' hk hv
          cases hk; cases hv
          have en : n = S? x := by cases e1; rfl
          subst en
          unfold valueAt
          rw [List.find?_cons]
          split at h
          · rename_i hx
            cases h
            rw [beq_iff_eq.mp hx]
            simp only [decide_true]
            exact ⟨v, rfl, r1⟩
          · rename_i hx
            have : decide (S? x = S? k) = false := by
              rw [decide_eq_false_iff_not]
              intro e
              have := Str_beq x k
              rw [e, beq_self_eq_true] at this
              exact hx this.symm
            dsimp only
            rw [this]
            exact lookD_sound e2 r2 h
        · cases h
theorem seqIndex_of {i : Int} {n : Nat} (h0 : 0 ≤ i) (h : i.toNat < n) : seqIndex? i n = some i.toNat := by
  unfold seqIndex?
  rw [if_neg (Int.not_lt.mpr h0)]
  dsimp only
  rw [if_pos]
  simp only [Bool.and_eq_true, decide_eq_true_eq]
  omega
theorem idxD_sound {vs : List Value} {ds : List D} {i : Int} {d : D} (r : Reps g S s.heap vs ds) (e : idxD ds i = some d) : 0 ≤ i ∧ ∃ v, vs[i.toNat]? = some v ∧ Rep g S s.heap v d := by
  unfold idxD at e
  split at e
  · rename_i h; exact ⟨h, r.get e⟩
  · cases e
theorem lt_of_getElem? {α : Type} {l : List α} {n : Nat} {x : α} (h : l[n]? = some x) : n < l.length := (List.getElem?_eq_some_iff.mp h).1
theorem getD_sound {a b d : D} {p : Prop} {u v : Value} (e : getD a b = some (p, d)) (hp : p) (B : Bs g s) (ra : Rep g S s.heap u a) (rb : Rep g S s.heap v b) :
    (∃ (T id : String), typeLookup (.type T) "__getitem__" = pure (some (.builtin id)) ∧ s.TypeIs u T) ∧ Gives g A S s (getItem u v) d := by
  unfold getD at e
  split at e <;> (first | (cases e; done) | skip)
  · rename_i ds i
    cases hi : idxD ds i with
    | none => rw [hi] at e; cases e
    | some d' =>
      rw [hi] at e; cases e
      cases ra with | list n1 h1 r =>
      cases rb with | int _ t =>
      obtain ⟨h0, v, hv, rv⟩ := idxD_sound r hi
      exact ⟨⟨_, _, slot_list_getitem.lookup, (isList_of h1).typeIs⟩, .same B rv fun Q E q => wpAny_getItem_list (isList_of h1) h0 hp (by simpa using hv) q⟩
  · rename_i ds i
    cases hi : idxD ds i with
    | none => rw [hi] at e; cases e
    | some d' =>
      rw [hi] at e; cases e
      cases ra with | tup n1 h1 r =>
      cases rb with | int _ t =>
      obtain ⟨h0, v, hv, rv⟩ := idxD_sound r hi
      exact ⟨⟨_, _, PySem.F.slot_tuple_getitem.lookup, (isTup_of h1).typeIs⟩, .same B rv fun Q E q => PyProof.Rows.getItem_tuple (isTup_of h1) (by omega) hp (seqIndex_of h0 (by simpa using lt_of_getElem? hv)) (by simpa using hv) q⟩
  · rename_i x i
    split at e
    · rename_i h0
      cases hi : x[i.toNat]? with
      | none => rw [hi] at e; cases e
      | some c =>
        rw [hi] at e; cases e
        cases ra with | str _ t =>
        cases rb with | int _ t' =>
        refine ⟨⟨_, _, F.slot_str_getitem.lookup, typeIs_str s _ t⟩, .atTok B (s.toks + 1) (.str [c] s.toks) fun Q E q => P.getItem_str ?_ ?_ q⟩
        · have h1 : ¬ i < -(2 ^ 63 : Int) := by omega
          have h2 : ¬ i ≥ 2 ^ 63 := by omega
          simp only [h1, h2, decide_false, Bool.or_false]
        · rw [show (⟨x.toArray⟩ : Str).length = x.length from S?_length x, seqIndex_of h0 (lt_of_getElem? hi)]
          simpa using hi
    · cases e
  · rename_i ks vs k
    cases hi : lookD k ks vs with
    | none => rw [hi] at e; cases e
    | some d' =>
      rw [hi] at e; cases e
      cases ra with | dict n1 n2 h1 h2 r =>
      cases rb with | str _ t =>
      obtain ⟨v, hv, rv⟩ := lookD_sound h2 r hi
      exact ⟨⟨_, _, slot_dict_getitem.lookup, h1.typeIs⟩, .atTok B (s.toks + 1) rv fun Q E q => wpAny_getItem_of (knd := g.kd) (k := S? k) (by show (S? k == S? k) = true; exact beq_self_eq_true _) h1.mapOf hv q⟩
end
end J5
end
section
open PySem PySem.W PySem.W.X PyProof.Rows Builtin
set_option Elab.async false
set_option maxRecDepth 100000
set_option linter.unusedVariables false
namespace J5
/- what holds around an expression: the frame, and room -/
structure Cx where
  g : Gd
  A : Around
  env : Env
  Sc : Addr → Prop
  F : Addr → Prop
  ρ : Rho
  O : Str → Option Addr
def Cx.S (c : Cx) : Addr → Prop := Sx c.F c.Sc
def Cx.At (c : Cx) (s : Shared) : Prop := FrOk c.g c.env c.Sc c.F c.ρ c.O s
structure Cx.Ok (c : Cx) : Prop where
  G : Gok c.g
  units : c.A.units + 100 < cLine
  depth : c.A.depth + 10 < recursionLimit
  hand : c.A.handled = none
def Ev (c : Cx) (t : Sem Value) (d : D) : Prop := ∀ s, c.At s → Gives c.g c.A c.S s t d
def Tr (c : Cx) (t : Sem Bool) (b : Bool) : Prop := ∀ s, c.At s → Tells c.g c.A s t b
section
variable {c : Cx}
theorem Cx.At.kp {s s' : Shared} (h : c.At s) (k : Kp c.g.Tb s s') (B : Bs c.g s') : c.At s' := FrOk.kp h k B
theorem Cx.At.bs {s : Shared} (h : c.At s) : Bs c.g s := FrOk.bs h
theorem Cx.At.rep {s s' : Shared} (h : c.At s) (k : Kp c.g.Tb s s') {v : Value} {d : D} (r : Rep c.g c.S s.heap v d) : Rep c.g c.S s'.heap v d := r.kept k fun b t => .inl (h.tF b t)
theorem Cx.At.reps {s s' : Shared} (h : c.At s) (k : Kp c.g.Tb s s') {v : List Value} {d : List D} (r : Reps c.g c.S s.heap v d) : Reps c.g c.S s'.heap v d := r.kept k fun b t => .inl (h.tF b t)
/- first one, then the other -/
theorem Ev.two {t₁ t₂ : Sem Value} {a b d : D} (h₁ : Ev c t₁ a) (h₂ : Ev c t₂ b) {f : Value → Value → Sem Value} {k : Value → Sem Value → Sem Value}
    (h : ∀ s, c.At s → ∀ u v, Rep c.g c.S s.heap u a → Rep c.g c.S s.heap v b → Gives c.g c.A c.S s (f u v) d) : ∀ s, c.At s → ∀ (Q : Value → Shared → Prop) (E : Value → Shared → Prop),
      (∀ v s', Bs c.g s' → Kp c.g.Tb s s' → Rep c.g c.S s'.heap v d → Q v s') → wpAny c.g.M c.A t₁ (fun u s₁ => wpAny c.g.M c.A t₂ (fun v s₂ => wpAny c.g.M c.A (f u v) Q E s₂) E s₁) E s := by
  intro s X Q E q
  refine h₁ s X _ _ fun u s₁ B₁ k₁ r₁ => ?_
  have X₁ := X.kp k₁ B₁
  refine h₂ s₁ X₁ _ _ fun v s₂ B₂ k₂ r₂ => ?_
  have X₂ := X₁.kp k₂ B₂
  exact h s₂ X₂ u v (X₁.rep k₂ r₁) r₂ Q E fun w s₃ B₃ k₃ r₃ => q w s₃ B₃ ((k₁.trans k₂).trans k₃) r₃
theorem Ev.binop {l r : Expr} {op : Operator} {pos : Pos} {a b d : D} {p : Prop} (h₁ : Ev c (eval l c.env) a) (h₂ : Ev c (eval r c.env) b) (e : opD op a b = some (p, d)) (hp : p) : Ev c (eval (.BinOp l op r pos) c.env) d :=
  fun s X Q E q => wpAny_BinOp (Ev.two (k := fun _ t => t) h₁ h₂ (f := binaryOp op) (fun s X u v ra rb => opD_sound e hp X.bs ra rb) s X Q E q)
theorem Ev.name {x : Str} {pos : Pos} {d : D} (e : c.ρ.lookup x = some (.val d)) (hd : (x == ("__debug__" : Str)) = false) : Ev c (eval (.Name x pos) c.env) d := by
  intro s X Q E q
  obtain ⟨m, hn, hx⟩ := X.at_
  obtain ⟨v, ha, hs⟩ := hx x _ e
  cases hs with
  | val r =>
    have Y := q v s X.bs (.refl s) r
    refine wpAny_Name ?_ hd
    cases ha with
    | loc hk hv => exact wpAny_loadName_local X.kind hk hn hv Y
    | cell hk hc hv => exact wpAny_loadName_cell X.kind hk hc hv Y
    | free hk hcd hc hv => exact wpAny_loadName_free X.kind hk hc hv Y hcd
theorem Ev.global {x : Str} {pos : Pos} {v : Value} (G : Gok c.g) (hk : c.env.kindOf x = some .globalImplicit) (e : c.g.mg x = some v) (hs : stat v = true) (hd : (x == ("__debug__" : Str)) = false) : Ev c (eval (.Name x pos) c.env) (.at v) := by
  intro s X Q E q
  refine wpAny_Name (ks_loadName_global X.kind hk (Calls.loadGlobal_global (by rw [X.gl]; exact X.bs.hg G) e ?_)) hd
  exact q v s X.bs (.refl s) (.at hs)
theorem Ev.builtin {x : Str} {pos : Pos} {v : Value} (G : Gok c.g) (hk : c.env.kindOf x = some .globalImplicit) (e : c.g.mg x = none) (e' : bootBuiltins x = some v) (hn : x ≠ "__name__") (hs : stat v = true) (hd : (x == ("__debug__" : Str)) = false) :
    Ev c (eval (.Name x pos) c.env) (.at v) := by
  intro s X Q E q
  refine wpAny_Name (ks_loadName_global X.kind hk (Calls.loadGlobal_builtin (by rw [X.gl]; exact X.bs.hg G) e (by rw [X.bi]; exact X.bs.hb G) ((G.builtins x hn).trans e') ?_)) hd
  exact q v s X.bs (.refl s) (.at hs)
/- constants -/
def conD : Const → Option D
  | .none => some .none
  | .bool b => some (.bool b)
  | .int i => some (.int i)
  | .str x => some (.str x.cps.toList)
  | _ => none
theorem Ev.const {k : Const} {n : Nat} {pos : Pos} {d : D} (e : conD k = some d) : Ev c (eval (.Constant k n pos) c.env) d := by
  intro s X
  rw [eval_Constant]
  cases k <;> (first | (cases e; done) | skip) <;> cases e
  · exact .same X.bs .none fun Q E q => wpAny_pure q
  · exact .same X.bs (.bool _) fun Q E q => wpAny_pure q
  · exact .atTok X.bs (s.toks + 1) (.int _ s.toks) fun Q E q => (fun Γ p hΓ => q)
  · rename_i x
    refine .atTok X.bs (s.toks + 1) (v := .str x s.toks) ?_ fun Q E q => wpAny_mkText q
    have := Rep.str (g := c.g) (S := c.S) (h := s.heap) x.cps.toList s.toks
    simpa using this
theorem Ev.sub {value slice : Expr} {pos : Pos} {a b d : D} {p : Prop} (h₁ : Ev c (eval value c.env) a) (h₂ : Ev c (eval slice c.env) b) (e : getD a b = some (p, d)) (hp : p)
    (hsl : ∀ (o i : Value), subscripted slice false o i = operate [o, i] (getItem o i)) : Ev c (eval (.Subscript value slice pos) c.env) d := by
  intro s X Q E q
  rw [eval_Subscript]
  refine wpAny_bind (h₁ s X _ _ fun u s₁ B₁ k₁ r₁ => ?_)
  have X₁ := X.kp k₁ B₁
  refine wpAny_bind (wpAny_holding (h₂ s₁ X₁ _ _ fun v s₂ B₂ k₂ r₂ => ?_))
  have X₂ := X₁.kp k₂ B₂
  obtain ⟨⟨T, id, hl, hT⟩, hg⟩ := getD_sound (A := c.A) e hp B₂ (X₁.rep k₂ r₁) r₂
  refine wpAny_bind (wpAny_standAt ?_)
  unfold getitemInPython
  refine wpAny_bind (wpAny_bind (wpAny_specialOf hT hl ?_))
  refine wpAny_pure ?_
  rw [hsl]
  refine wpAny_bind (wpAny_operating (hg _ _ fun w s₃ B₃ k₃ r₃ => ?_))
  exact wpAny_bind (wpAny_letTemporaryGo (wpAny_pure (q w s₃ B₃ ((k₁.trans k₂).trans k₃) r₃)))
/- tests -/
theorem Tr.plain {e : Expr} {a : D} {b : Bool} {p : Prop} (h : Ev c (eval e c.env) a) (ht : truD a = some (p, b)) (hp : p)
    (hi : ∀ w, isTrue e c.env w = (do let v ← w; standAt e.pos; holding [v] (truthy v))) : Tr c (isTrue e c.env (eval e c.env)) b := by
  intro s X Q E q
  rw [hi]
  refine wpAny_bind (h s X _ _ fun u s₁ B₁ k₁ r₁ => ?_)
  exact wpAny_bind (wpAny_standAt (wpAny_holding (truD_sound ht hp B₁ r₁ _ _ fun s₂ B₂ k₂ => q s₂ B₂ (k₁.trans k₂))))
theorem Tr.not {x : Expr} {pos : Pos} {b : Bool} (h : Tr c (isTrue x c.env (eval x c.env)) b) (w : Sem Value) : Tr c (isTrue (.UnaryOp .Not x pos) c.env w) (!b) := by
  intro s X Q E q
  show wpAny _ _ (do return !(← isTrue x c.env (eval x c.env))) Q E s
  exact wpAny_bind (h s X _ _ fun s₁ B₁ k₁ => wpAny_pure (q s₁ B₁ k₁))
/- comparisons -/
def cmpD (K : Frag) : CmpOp → D → D → Option Bool
  | .Eq, a, b => eqD K a b
  | .NotEq, a, b => neD a b
  | .Lt, .int a, .int b => some (decide (a < b))
  | .LtE, .int a, .int b => some (decide (a ≤ b))
  | .Gt, .int a, .int b => some (decide (a > b))
  | .GtE, .int a, .int b => some (decide (a ≥ b))
  | .Is, a, b => isD a b
  | .IsNot, a, b => (isD a b).map (!·)
  | .In, a, .tup ds => anyD K a ds
  | .NotIn, a, .tup ds => (anyD K a ds).map (!·)
  | _, _, _ => none
theorem cmpD_sound (C : c.Ok) {s : Shared} {op : CmpOp} {a b : D} {r : Bool} {u v : Value} (e : cmpD c.g.K op a b = some r) (B : Bs c.g s) (ra : Rep c.g c.S s.heap u a) (rb : Rep c.g c.S s.heap v b) (Q : Value → Shared → Prop) (E : Value → Shared → Prop)
    (q : Q (.bool r) s) : wpAny c.g.M c.A (compareOp op u v) Q E s := by
  have hu := C.units
  unfold cmpD at e
  split at e
  · exact eqD_sound C.G (by omega) e B ra rb Q E q
  · exact neD_sound e B ra rb Q E q
  · cases e; cases ra with | int x t => cases rb with | int y t' => exact P.lt_int q
  · cases e; cases ra with | int x t => cases rb with | int y t' => exact P.le_int q
  · cases e; cases ra with | int x t => cases rb with | int y t' => exact P.gt_int q
  · cases e; cases ra with | int x t => cases rb with | int y t' => exact P.ge_int q
  · exact wpAny_bind (isD_sound e ra rb (wpAny_pure q))
  · obtain ⟨r', e', rfl⟩ := Option.map_eq_some_iff.mp e
    exact wpAny_bind (isD_sound e' ra rb (wpAny_pure q))
  · cases rb with | tup n1 h1 rr => exact wpAny_bind (contains_tuple C.G (by omega) B (isTup_of h1) rr ra e (wpAny_pure q))
  · obtain ⟨r', e', rfl⟩ := Option.map_eq_some_iff.mp e
    cases rb with | tup n1 h1 rr => exact wpAny_bind (contains_tuple C.G (by omega) B (isTup_of h1) rr ra e' (wpAny_pure q))
  · cases e
theorem Ev.cmp (C : c.Ok) {l r : Expr} {op : CmpOp} {pos : Pos} {a b : D} {t : Bool} (h₁ : Ev c (eval l c.env) a) (h₂ : Ev c (eval r c.env) b) (e : cmpD c.g.K op a b = some t) (hm : behindInMarks op r = false) :
    Ev c (eval (.Compare l [op] [r] pos) c.env) (.bool t) :=
  fun s X Q E q => wpAny_Compare1 (Ev.two (k := fun _ t => t) h₁ h₂ (f := compareOp op) (d := .bool t) (fun s X u v ra rb => .same X.bs (.bool t) fun Q E q => cmpD_sound C e X.bs ra rb Q E q) s X Q E q) hm
theorem Tr.cmp (C : c.Ok) {l r : Expr} {op : CmpOp} {pos : Pos} {a b : D} {t : Bool} (w : Sem Value) (h₁ : Ev c (eval l c.env) a) (h₂ : Ev c (eval r c.env) b) (e : cmpD c.g.K op a b = some t) (hm : behindInMarks op r = false) :
    Tr c (isTrue (.Compare l [op] [r] pos) c.env w) t := by
  intro s X Q E q
  refine wpAny_isTrue_Compare1 (h₁ s X _ _ fun u s₁ B₁ k₁ r₁ => ?_) hm
  have X₁ := X.kp k₁ B₁
  refine h₂ s₁ X₁ _ _ fun v s₂ B₂ k₂ r₂ => ?_
  have X₂ := X₁.kp k₂ B₂
  exact cmpD_sound C e B₂ (X₁.rep k₂ r₁) r₂ _ _ (wpAny_truthy_bool (q s₂ B₂ (k₁.trans k₂)))
end
end J5
end
section
open PySem PySem.W PySem.W.X PyProof.Rows Builtin
set_option Elab.async false
set_option maxRecDepth 100000
set_option linter.unusedVariables false
namespace J5
section
variable {c : Cx}
/- conditional value, conditions in tests -/
theorem Ev.ifexp {test body orelse : Expr} {pos : Pos} {b : Bool} {d : D} (h : Tr c (isTrue test c.env (eval test c.env)) b) (h₁ : b = true → Ev c (eval body c.env) d) (h₂ : b = false → Ev c (eval orelse c.env) d) :
    Ev c (eval (.IfExp test body orelse pos) c.env) d := by
  intro s X Q E q
  show wpAny _ _ (do if ← isTrue test c.env (eval test c.env) then eval body c.env else eval orelse c.env) Q E s
  refine wpAny_bind (h s X _ _ fun s₁ B₁ k₁ => ?_)
  have X₁ := X.kp k₁ B₁
  cases b with
  | true => exact h₁ rfl s₁ X₁ Q E fun v s₂ B₂ k₂ r => q v s₂ B₂ (k₁.trans k₂) r
  | false => exact h₂ rfl s₁ X₁ Q E fun v s₂ B₂ k₂ r => q v s₂ B₂ (k₁.trans k₂) r
theorem Tr.boolop {op : BoolOp} {values : List Expr} {pos : Pos} {b : Bool} (w : Sem Value) (h : Tr c (allTrue op values c.env) b) : Tr c (isTrue (.BoolOp op values pos) c.env w) b := h
theorem Tr.all_nil (op : BoolOp) : Tr c (allTrue op [] c.env) (op == .And) := fun s X Q E q => wpAny_pure (q s X.bs (.refl s))
theorem Tr.all_cons {op : BoolOp} {x : Expr} {rest : List Expr} {b r : Bool} (h : Tr c (isTrue x c.env (eval x c.env)) b)
    (hr : (match op, b with | .And, false => r = false | .Or, true => r = true | _, _ => Tr c (allTrue op rest c.env) r)) : Tr c (allTrue op (x :: rest) c.env) r := by
  intro s X Q E q
  show wpAny _ _ (do
    match op, ← isTrue x c.env (eval x c.env) with
    | .And, false => pure false
    | .Or, true => pure true
    | _, _ => allTrue op rest c.env) Q E s
  refine wpAny_bind (h s X _ _ fun s₁ B₁ k₁ => ?_)
  have X₁ := X.kp k₁ B₁
  cases op <;> cases b <;> dsimp only at hr ⊢
  · subst hr; exact wpAny_pure (q s₁ B₁ k₁)
  · exact hr s₁ X₁ Q E fun s₂ B₂ k₂ => q s₂ B₂ (k₁.trans k₂)
  · exact hr s₁ X₁ Q E fun s₂ B₂ k₂ => q s₂ B₂ (k₁.trans k₂)
  · subst hr; exact wpAny_pure (q s₁ B₁ k₁)
/- a and b, a or b as values -/
theorem Ev.bool_one {op : BoolOp} {pos : Pos} {t : Sem Value} {d : D} (h : Ev c t d) : Ev c (boolOp pos op [t]) d := h
theorem Ev.bool_cons {op : BoolOp} {pos : Pos} {t t' : Sem Value} {rest : List (Sem Value)} {a d : D} {b : Bool} {p : Prop} (h : Ev c t a) (ht : truD a = some (p, b)) (hp : p)
    (hr : (match op, b with | .And, false => d = a | .Or, true => d = a | _, _ => Ev c (boolOp pos op (t' :: rest)) d)) : Ev c (boolOp pos op (t :: t' :: rest)) d := by
  intro s X Q E q
  show wpAny _ _ (do
    let v ← t
    standAt pos
    let z ← holding [v] (truthy v)
    match op, z with
    | .And, false | .Or, true => pure v
    | _, _ => boolOp pos op (t' :: rest)) Q E s
  refine wpAny_bind (h s X _ _ fun u s₁ B₁ k₁ r₁ => ?_)
  refine wpAny_bind (wpAny_standAt ?_)
  refine wpAny_bind (wpAny_holding (truD_sound ht hp B₁ r₁ _ _ fun s₂ B₂ k₂ => ?_))
  have X₂ := X.kp (k₁.trans k₂) B₂
  have r₂ := (X.kp k₁ B₁).rep k₂ r₁
  cases op <;> cases b <;> dsimp only at hr ⊢
  · subst hr; exact wpAny_pure (q u s₂ B₂ (k₁.trans k₂) r₂)
  · exact hr s₂ X₂ Q E fun v s₃ B₃ k₃ => q v s₃ B₃ ((k₁.trans k₂).trans k₃)
  · exact hr s₂ X₂ Q E fun v s₃ B₃ k₃ => q v s₃ B₃ ((k₁.trans k₂).trans k₃)
  · subst hr; exact wpAny_pure (q u s₂ B₂ (k₁.trans k₂) r₂)
theorem Ev.boolop {op : BoolOp} {values : List Expr} {pos : Pos} {d : D} (h : Ev c (boolOp pos op (evalEach values c.env)) d) : Ev c (eval (.BoolOp op values pos) c.env) d := h
theorem Ev.not {x : Expr} {pos : Pos} {a : D} {b : Bool} {p : Prop} (h : Ev c (eval x c.env) a) (ht : truD a = some (p, b)) (hp : p) : Ev c (eval (.UnaryOp .Not x pos) c.env) (.bool (!b)) := by
  intro s X Q E q
  show wpAny _ _ (do let v ← eval x c.env; standAt pos; holding [v] (unaryOp .Not v)) Q E s
  refine wpAny_bind (h s X _ _ fun u s₁ B₁ k₁ r₁ => ?_)
  refine wpAny_bind (wpAny_standAt (wpAny_holding ?_))
  unfold unaryOp
  first
    | exact wpAny_bind (truD_sound ht hp B₁ r₁ _ _ fun s₂ B₂ k₂ => wpAny_pure (q _ s₂ B₂ (k₁.trans k₂) (.bool _)))
    | exact wpAny_holding (wpAny_bind (truD_sound ht hp B₁ r₁ _ _ fun s₂ B₂ k₂ => wpAny_pure (q _ s₂ B₂ (k₁.trans k₂) (.bool _))))
/- several in order -/
def Evs (c : Cx) (t : Sem (List Value)) (ds : List D) : Prop := ∀ s, c.At s → ∀ (Q : List Value → Shared → Prop) (E : Value → Shared → Prop), (∀ vs s', Bs c.g s' → Kp c.g.Tb s s' → Reps c.g c.S s'.heap vs ds → Q vs s') → wpAny c.g.M c.A t Q E s
def noStar : Expr → Bool
  | .Starred _ _ => false
  | _ => true
theorem starEach_cons {e : Expr} {rest : List Expr} {env : Env} (h : noStar e = true) : starEach (e :: rest) env = (false, eval e env) :: starEach rest env := by
  cases e <;> first | rfl | cases h
theorem Evs.nil {pos : Pos} : Evs c (spliced (backTo pos (starEach [] c.env))) [] := fun s X Q E q => Calls.spliced_nil (q [] s X.bs (.refl s) .nil)
theorem Evs.cons {pos : Pos} {e : Expr} {rest : List Expr} {d : D} {ds : List D} (hn : noStar e = true) (h : Ev c (eval e c.env) d) (hr : Evs c (spliced (backTo pos (starEach rest c.env))) ds) :
    Evs c (spliced (backTo pos (starEach (e :: rest) c.env))) (d :: ds) := by
  intro s X Q E q
  rw [starEach_cons hn]
  show wpAny _ _ (spliced ((false, eval e c.env) :: backTo pos (starEach rest c.env))) Q E s
  refine Calls.spliced_cons (h s X _ _ fun v s₁ B₁ k₁ r₁ => ?_)
  have X₁ := X.kp k₁ B₁
  exact hr s₁ X₁ _ _ fun vs s₂ B₂ k₂ r₂ => q _ s₂ B₂ (k₁.trans k₂) (.cons (X₁.rep k₂ r₁) r₂)
theorem Cx.At.new {s : Shared} (X : c.At s) : ¬ c.S s.heap.objs.size := fun h => h.elim (fun f => Nat.lt_irrefl _ (X.fS _ f)) fun f => Nat.lt_irrefl _ (X.tS _ f)
theorem Cx.At.push {s : Shared} (X : c.At s) (o : Obj) : Bs c.g { s with heap := s.heap.push o } :=
  X.bs.fresh (Kp.push s o s.toks) X.bs.bare
theorem Ev.tuple {elts : List Expr} {k : Nat} {pos : Pos} {ds : List D} (h : Evs c (spliced (backTo pos (starEach elts c.env))) ds) (hl : ds.length ≤ sizeLine) : Ev c (eval (.Tuple elts k pos) c.env) (.tup ds) := by
  intro s X Q E q
  refine PyProof.Rows.Tuple_ (h s X _ _ fun vs s₁ B₁ k₁ r₁ => ?_)
  have X₁ := X.kp k₁ B₁
  have hle := r₁.length
  refine wpAny_newObj_type ?_ (by show vs.toArray.size ≤ sizeLine; rw [List.size_toArray, hle]; exact hl)
  have k₂ := Kp.push (T := c.g.Tb) s₁ { cls := .type "tuple", data := .seq vs.toArray } s₁.toks
  exact q _ _ (X₁.push _) (k₁.trans k₂) (.tup X₁.new (Heap.get?_push_size _ rfl) (X₁.reps k₂ r₁))
theorem Ev.list {elts : List Expr} {pos : Pos} {ds : List D} (h : Evs c (spliced (backTo pos (starEach elts c.env))) ds) (hl : ds.length ≤ sizeLine) : Ev c (eval (.List elts pos) c.env) (.list ds) := by
  intro s X Q E q
  refine PyProof.Rows.List_ (h s X _ _ fun vs s₁ B₁ k₁ r₁ => ?_)
  have X₁ := X.kp k₁ B₁
  have hle := r₁.length
  refine wpAny_newObj_type ?_ (by show vs.toArray.size ≤ sizeLine; rw [List.size_toArray, hle]; exact hl)
  have k₂ := Kp.push (T := c.g.Tb) s₁ { cls := .type "list", data := .seq vs.toArray } s₁.toks
  exact q _ _ (X₁.push _) (k₁.trans k₂) (.list X₁.new (Heap.get?_push_size _ rfl) (X₁.reps k₂ r₁))
end
end J5
end
section
open PySem PySem.W PySem.W.X PyProof.Rows Builtin
set_option Elab.async false
set_option maxRecDepth 100000
set_option linter.unusedVariables false
namespace J5
/- what a call of f gives, wherever it is made; n: how deep it goes -/
structure Room (A : Around) (n : Nat) : Prop where
  units : A.units + 10 * n < cLine
  depth : A.depth + n < recursionLimit
  hand : A.handled = none
def CallOk (g : Gd) (n : Nat) (f : Value) (as : List D) (ns : List Str) (ks : List D) (d : D) : Prop :=
  ∀ (A : Around) (S : Addr → Prop) (s : Shared) (vs kvs : List Value), Room A n → Bs g s → (∀ b, g.Tb b → S b) → (∀ b, S b → b < s.heap.objs.size) → Reps g S s.heap vs as → Reps g S s.heap kvs ks → Gives g A S s (call f vs (ns.zip kvs)) d
def Keepf (g : Gd) (f : Value) : Prop := ∀ h, g.K.In h → ∃ k, (k = Keeper.frame ∨ k = Keeper.machine ∨ k = Keeper.boundFrame) ∧ Looks g.M h (keeperOf f) k
theorem Keepf.K {g : Gd} {f : Value} (h : keepIn g.K f = true) : Keepf g f := fun hp X => keeps_K h hp X
theorem Keepf.builtin {g : Gd} {i : String} : Keepf g (.builtin i) := fun _ _ => ⟨.machine, .inr (.inl rfl), .now⟩
theorem Keepf.type {g : Gd} {i : String} : Keepf g (.type i) := fun _ _ => ⟨.machine, .inr (.inl rfl), .now⟩
section
variable {c : Cx}
/- keyword arguments -/
def Kws (c : Cx) (pos : Pos) (kws : List Keyword) (ns : List Str) (ds : List D) : Prop :=
  (backToKw pos (keywordEach kws c.env)).all (·.1.isSome) = true ∧ (backToKw pos (keywordEach kws c.env)).filterMap (·.1) = ns ∧
    ∀ s, c.At s → ∀ (Q : List Value → Shared → Prop) (E : Value → Shared → Prop), (∀ vs s', Bs c.g s' → Kp c.g.Tb s s' → Reps c.g c.S s'.heap vs ds → Q vs s') → wpAny c.g.M c.A (evalAll ((backToKw pos (keywordEach kws c.env)).map (·.2))) Q E s
theorem Kws.nil {pos : Pos} : Kws c pos [] [] [] := ⟨rfl, rfl, fun s X Q E q => wpAny_evalAll_nil (q [] s X.bs (.refl s) .nil)⟩
theorem Kws.cons {pos p : Pos} {n : Str} {e : Expr} {rest : List Keyword} {ns : List Str} {d : D} {ds : List D} (h : Ev c (eval e c.env) d) (hr : Kws c pos rest ns ds) : Kws c pos (⟨some n, e, p⟩ :: rest) (n :: ns) (d :: ds) := by
  obtain ⟨a, b, f⟩ := hr
  refine ⟨?_, ?_, fun s X Q E q => ?_⟩
  · show ((true && _) = true); rw [Bool.true_and]; exact a
  · show n :: _ = _; rw [← b]; rfl
  · refine wpAny_evalAll_cons (wpAny_bind (h s X _ _ fun v s₁ B₁ k₁ r₁ => wpAny_bind (wpAny_standAt (wpAny_pure ?_))))
    have X₁ := X.kp k₁ B₁
    exact f s₁ X₁ _ _ fun vs s₂ B₂ k₂ r₂ => q _ s₂ B₂ (k₁.trans k₂) (.cons (X₁.rep k₂ r₁) r₂)
theorem noStars {pos : Pos} {args : List Expr} {ds : List D} (hn : args.all noStar = true) : (backTo pos (starEach args c.env)).any (·.1) = false := by
  induction args with
  | nil => rfl
  | cons e r ih =>
    simp only [List.all_cons, Bool.and_eq_true] at hn
    rw [starEach_cons hn.1]
    show (false || (backTo pos (starEach r c.env)).any (·.1)) = false
    rw [ih hn.2]; rfl
theorem evalArgs_R {M : Model} {A : Around} {E : Value → Shared → Prop} {s : Shared} {f : Value} {args : List (Bool × Sem Value)} {keywords : List (Option Str × Sem Value)} {Q : Args → Shared → Prop} (hn : args.any (·.1) = false) (hall : keywords.all (·.1.isSome) = true)
    (h : wpAny M A (spliced args) (fun vs s₁ => wpAny M A (evalAll (keywords.map (·.2))) (fun ks s₂ => Q ⟨vs, (keywords.filterMap (·.1)).zip ks⟩ s₂) E s₁) E s) : wpAny M A (evalArgs f true args keywords) Q E s := by
  unfold evalArgs
  cases args with
  | nil =>
    show wpAny M A (spliced [] >>= _) Q E s
    refine wpAny_bind (wpAny_mono h (fun vs s₁ h₁ => ?_) fun _ _ x => x)
    refine wpAny_holding ?_
    simp only [hall, if_true]
    refine wpAny_bind (wpAny_mono h₁ (fun ks s₂ h₂ => ?_) fun _ _ x => x)
    exact wpAny_bind (wpAny_pure (wpAny_pure h₂))
  | cons x rest =>
    obtain ⟨b, x⟩ := x
    cases b with
    | true => simp at hn
    | false =>
      show wpAny M A (spliced ((false, x) :: rest) >>= _) Q E s
      refine wpAny_bind (wpAny_mono h (fun vs s₁ h₁ => ?_) fun _ _ x => x)
      refine wpAny_holding ?_
      simp only [hall, if_true]
      refine wpAny_bind (wpAny_mono h₁ (fun ks s₂ h₂ => ?_) fun _ _ x => x)
      exact wpAny_bind (wpAny_pure (wpAny_pure h₂))
theorem callWith_R {pos : Pos} {f : Value} {first : List Value} {fds ds : List D} {args : List Expr} {kws : List Keyword} {ns : List Str} {kds : List D} {d : D} {s : Shared} (G : Gok c.g) (X : c.At s) (hf : Keepf c.g f) (hfirst : Reps c.g c.S s.heap first fds)
    (hn : args.all noStar = true) (ha : Evs c (spliced (backTo pos (starEach args c.env))) ds) (hk : Kws c pos kws ns kds)
    (h : ∀ s vs kvs, c.At s → Reps c.g c.S s.heap vs (fds ++ ds) → Reps c.g c.S s.heap kvs kds → Gives c.g c.A c.S s (call f vs (ns.zip kvs)) d) :
    Gives c.g c.A c.S s (callWith pos f first (backTo pos (starEach args c.env)) (backToKw pos (keywordEach kws c.env))) d := by
  intro Q E q
  obtain ⟨k1, k2, k3⟩ := hk
  have hs := noStars (c := c) (pos := pos) (ds := ds) hn
  have hnone : (backToKw pos (keywordEach kws c.env)).any (·.1.isNone) = false := by
    rw [List.any_eq_false]
    intro x hx
    have := List.all_eq_true.mp k1 x hx
    cases h : x.1 <;> simp_all
  refine callWith_of (P := c.g.K.In) (by rw [hs, hnone]; rfl) hf ?_
  have fin : ∀ s₁ vs, c.At s₁ → Kp c.g.Tb s s₁ → Reps c.g c.S s₁.heap vs ds → wpAny c.g.M c.A (evalAll ((backToKw pos (keywordEach kws c.env)).map (·.2)))
      (fun ks s₂ => c.g.K.In s₂.heap ∧ wpAny c.g.M c.A (call f (first ++ vs) (((backToKw pos (keywordEach kws c.env)).filterMap (·.1)).zip ks)) Q E s₂) E s₁ := by
    intro s₁ vs X₁ k₁ r₁
    refine k3 s₁ X₁ _ _ fun ks s₂ B₂ kk₂ r₂ => ?_
    have X₂ := X₁.kp kk₂ B₂
    refine ⟨B₂.K G, ?_⟩
    rw [k2]
    exact h s₂ _ _ X₂ ((X.reps (k₁.trans kk₂) hfirst).append (X₁.reps kk₂ r₁)) r₂ Q E fun v s₃ B₃ k₃ r₃ => q v s₃ B₃ ((k₁.trans kk₂).trans k₃) r₃
  exact evalArgs_R hs k1 (ha s X _ _ fun vs s₁ B₁ k₁ r₁ => fin s₁ vs (X.kp k₁ B₁) k₁ r₁)
end
end J5
end
section
open PySem PySem.W PySem.W.X PyProof.Rows Builtin
set_option Elab.async false
set_option maxRecDepth 100000
set_option linter.unusedVariables false
namespace J5
section
variable {c : Cx}
theorem Cx.At.sT {s : Shared} (X : c.At s) : ∀ b, c.g.Tb b → c.S b := fun b t => .inl (X.tF b t)
theorem Cx.At.sz {s : Shared} (X : c.At s) : ∀ b, c.S b → b < s.heap.objs.size := fun b h => h.elim (X.fS b) (X.tS b)
/- f(..) -/
theorem Ev.call {id : Str} {p pos : Pos} {args : List Expr} {kws : List Keyword} {v : Value} {ds kds : List D} {ns : List Str} {d : D} {n : Nat} (G : Gok c.g) (R : Room c.A n) (h : Ev c (eval (.Name id p) c.env) (.at v)) (hf : Keepf c.g v)
    (hn : args.all noStar = true) (ha : Evs c (spliced (backTo pos (starEach args c.env))) ds) (hk : Kws c pos kws ns kds) (K : CallOk c.g n v ds ns kds d) : Ev c (eval (.Call (.Name id p) args kws pos) c.env) d := by
  intro s X Q E q
  refine wpAny_Call_Name_kw (h s X _ _ fun u s₁ B₁ k₁ r₁ => ?_)
  have X₁ := X.kp k₁ B₁
  cases r₁ with
  | «at» hs =>
    exact callWith_R (fds := []) G X₁ hf .nil hn ha hk (fun s₂ vs kvs X₂ r rk => K c.A c.S s₂ vs kvs R X₂.bs X₂.sT X₂.sz r rk) Q E fun w s₂ B₂ k₂ r₂ => q w s₂ B₂ (k₁.trans k₂) r₂
/- o.m(..) -/
def Mth (c : Cx) (a : D) (name : Str) (f : Value) : Prop := ∀ s, c.At s → ∀ u, Rep c.g c.S s.heap u a → ∀ (pl : Sem Bool) (Q : Value × List Value → Shared → Prop) (E : Value → Shared → Prop), Q (f, [u]) s → wpAny c.g.M c.A (getMethod u name pl) Q E s
theorem noStars' {pos : Pos} {args : List Expr} (hn : args.all noStar = true) : (backTo pos (starEach args c.env)).all (!·.1) = true := by
  have := noStars (c := c) (pos := pos) (ds := []) hn
  rw [List.all_eq_true]
  intro x hx
  have h2 := (List.any_eq_false.mp this) x hx
  simpa using h2
theorem Ev.method {o : Expr} {name : Str} {apos pos : Pos} {args : List Expr} {kws : List Keyword} {a : D} {f : Value} {ds kds : List D} {ns : List Str} {d : D} {n : Nat} (G : Gok c.g) (R : Room c.A n) (h : Ev c (eval o c.env) a) (hm : Mth c a name f) (hf : Keepf c.g f)
    (hn : args.all noStar = true) (ha : Evs c (spliced (backTo pos (starEach args c.env))) ds) (hk : Kws c pos kws ns kds) (K : CallOk c.g n f (a :: ds) ns kds d)
    (hb : ∀ w, attributeBase o name c.env w = w) (hl : (apos.endLine == pos.line) = true) (hz : args.length + kws.length < 29) : Ev c (eval (.Call (.Attribute o name apos) args kws pos) c.env) d := by
  intro s X Q E q
  show wpAny _ _ (do
    let ov ← attributeBase o name c.env (eval o c.env)
    standAt apos.atName
    methodCall o name apos pos c.env ov (args.length + kws.length) (backTo pos (starEach args c.env)) (backToKw pos (keywordEach kws c.env))) Q E s
  rw [hb]
  refine wpAny_bind (h s X _ _ fun u s₁ B₁ k₁ r₁ => ?_)
  have X₁ := X.kp k₁ B₁
  refine wpAny_bind (wpAny_standAt ?_)
  have few : methodCallForm (args.length + kws.length) (backTo pos (starEach args c.env)) (backToKw pos (keywordEach kws c.env)) = true := by
    unfold methodCallForm
    rw [noStars' hn, hk.1]
    simp only [Bool.true_and, decide_eq_true_eq]
    split <;> omega
  unfold methodCall
  rw [few]
  refine wpAny_bind (wpAny_holding ?_)
  show wpAny _ _ (getMethod u name _) _ E s₁
  refine hm s₁ X₁ u r₁ _ _ _ ?_
  dsimp only
  have hp : methodCallPos true o c.env apos pos = pure pos := by
    unfold methodCallPos
    rw [hl]; rfl
  rw [hp]
  refine wpAny_bind (wpAny_pure ?_)
  exact callWith_R (fds := [a]) G X₁ hf (.cons r₁ .nil) hn ha hk (fun s₂ vs kvs X₂ r rk => K c.A c.S s₂ vs kvs R X₂.bs X₂.sT X₂.sz r rk) Q E fun w s₂ B₂ k₂ r₂ => q w s₂ B₂ (k₁.trans k₂) r₂
/- o.x of an instance; C.x of a class -/
def fldD (x : Str) : List Str → List D → Option D
  | n :: ns, v :: vs => if n == x then some v else fldD x ns vs
  | _, _ => none
def handD : D → Bool
  | .at v => handedIn v
  | _ => true
theorem handD_sound {g : Gd} {S : Addr → Prop} {h : Heap} {u : Value} {d : D} (e : handD d = true) (r : Rep g S h u d) : handedIn u = true := by
  cases r <;> first | rfl | exact e
def instGet (K : Frag) (C : Addr) (name : Str) : Bool := plainGet K C name && hasDictIn K C && (match findIn K (.ref C) name with | some attr => noGet K attr | none => false)
theorem fldD_sound {g : Gd} {S : Addr → Prop} {h : Heap} {x : Str} {d : D} : ∀ {es : List DictEntry} {ns : List Str} {vs : List D}, NamesAre es ns → Reps g S h (es.map (·.val)) vs → fldD x ns vs = some d → ∃ v, (es.find? (·.key.isStr x)).map (·.val) = some v ∧ Rep g S h v d
  | [], ns, vs, hn, r, e => by
    cases r
    cases ns <;> cases e
  | e :: es, ns, vs, hn, r, h => by
    obtain ⟨hl, hz⟩ := hn
    cases ns with
    | nil => cases hl
    | cons n ns =>
      cases r with
      | cons r1 r2 =>
        obtain ⟨t, ht⟩ := hz (e, n) List.mem_cons_self
        have hk : e.key.isStr x = (n == x) := by dsimp only at ht; rw [ht]; rfl
        rw [List.find?_cons, hk]
        unfold fldD at h
        cases hx : n == x with
        | true => rw [hx, if_pos rfl] at h; cases h; exact ⟨_, rfl, r1⟩
        | false =>
          rw [hx, if_neg (by simp)] at h
          exact fldD_sound ⟨by simpa using hl, fun p hp => hz p (List.mem_cons_of_mem _ hp)⟩ r2 h
theorem Ev.fld {x name : Str} {xp pos : Pos} {C : Addr} {ns : List Str} {vs : List D} {d : D} (G : Gok c.g) (h : Ev c (eval (.Name x xp) c.env) (.inst C ns vs)) (e : fldD name ns vs = some d) (hi : instGet c.g.K C name = true) (hd : handD d = true) :
    Ev c (eval (.Attribute (.Name x xp) name pos) c.env) d := by
  intro s X Q E q
  refine Attribute_name (h s X _ _ fun u s₁ B₁ k₁ r₁ => ?_)
  unfold instGet at hi
  simp only [Bool.and_eq_true] at hi
  obtain ⟨⟨h1, h2⟩, h3⟩ := hi
  split at h3
  · rename_i attr ha
    cases r₁ with
    | inst n1 n2 g1 g2 hn r =>
      obtain ⟨v, hv, rv⟩ := fldD_sound hn r e
      rename_i a dx es n
      have I : InstAt s₁.heap a _ C (some (dictOf es n)) := ⟨g1, rfl, rfl, g2⟩
      have hl : lookIn name (dictOf es n) = some (some v) := by
        rw [lookIn_dict]
        unfold getL
        obtain ⟨en, he, rfl⟩ := Option.map_eq_some_iff.mp hv
        rw [he]
      exact get_value (B₁.K G) I (plainGet_of h1).1 (findObj_own h2 ha h3 hl) (handD_sound hd rv) (q v _ (B₁.toks _) (k₁.trans (Kp.tok s₁ _)) rv)
  · cases h3
theorem Ev.clsattr {x name : Str} {xp pos : Pos} {C : Addr} {mc v : Value} (G : Gok c.g) (h : Ev c (eval (.Name x xp) c.env) (.at (.ref C))) (hr : readsIn c.g.K C mc = true) (e : findCls c.g.K (.ref C) mc name = some (.val v)) (hh : handedIn v = true) (hs : stat v = true) :
    Ev c (eval (.Attribute (.Name x xp) name pos) c.env) (.at v) := by
  intro s X Q E q
  refine Attribute_name (h s X _ _ fun u s₁ B₁ k₁ r₁ => ?_)
  cases r₁
  exact cls_value (B₁.K G) hr e hh (q v _ (B₁.toks _) (k₁.trans (Kp.tok s₁ _)) (.at hs))
theorem Mth.inst {C fa : Addr} {ns : List Str} {vs : List D} {name : Str} (G : Gok c.g) (hg : plainGet c.g.K C name = true) (hf : findIn c.g.K (.ref C) name = some (some (.ref fa))) (ht : isFn c.g.K (.ref fa) = true) (hno : ns.contains name = false) :
    Mth c (.inst C ns vs) name (.ref fa) := by
  intro s X u r pl Q E q
  cases r with
  | inst n1 n2 g1 g2 hn r =>
    rename_i a dx es n
    have I : InstAt s.heap a _ C (some (dictOf es n)) := ⟨g1, rfl, rfl, g2⟩
    refine method_fn (X.bs.K G) I (plainGet_of hg).1 (plainGet_of hg).2 hf (beq_iff_eq.mp ht) ?_ q
    show (lookIn name (dictOf es n)).map _ = _
    rw [lookIn_dict]
    have key : es.find? (·.key.isStr name) = none ∧ es.any (·.refKey) = false := by
      clear r g1 g2 I
      induction es generalizing ns with
      | nil => exact ⟨rfl, rfl⟩
      | cons e es ih =>
        obtain ⟨hl, hz⟩ := hn
        cases ns with
        | nil => cases hl
        | cons m ns =>
          obtain ⟨t, ht⟩ := hz (e, m) List.mem_cons_self
          dsimp only at ht
          simp only [List.contains_cons, Bool.or_eq_false_iff] at hno
          obtain ⟨i1, i2⟩ := ih hno.2 ⟨by simpa using hl, fun p hp => hz p (List.mem_cons_of_mem _ hp)⟩
          have hk : e.key.isStr name = false := by
            rw [ht]
            show (m == name) = false
            rw [Bool.eq_false_iff]
            intro h
            have := beq_iff_eq.mp h
            subst this
            simp at hno
          refine ⟨?_, ?_⟩
          · rw [List.find?_cons, hk]; exact i1
          · rw [List.any_cons, i2, Bool.or_false]; unfold DictEntry.refKey; rw [ht]
    unfold getL
    rw [key.1, key.2]
    rfl
end
end J5
end
section
open PySem PySem.W PySem.W.X PyProof.Rows Builtin
set_option Elab.async false
set_option maxRecDepth 100000
set_option linter.unusedVariables false
namespace J5
/- names with values, on both sides -/
def SlR (g : Gd) (S : Addr → Prop) (h : Heap) (vs : List (Str × Value)) (ds : List (Str × D)) : Prop := vs.map (·.1) = ds.map (·.1) ∧ Reps g S h (vs.map (·.2)) (ds.map (·.2))
section
variable {g : Gd} {S : Addr → Prop} {h : Heap}
theorem SlR.nil : SlR g S h [] [] := ⟨rfl, .nil⟩
theorem SlR.snoc {vs : List (Str × Value)} {ds : List (Str × D)} {k : Str} {v : Value} {d : D} (r : SlR g S h vs ds) (q : Rep g S h v d) : SlR g S h (vs ++ [(k, v)]) (ds ++ [(k, d)]) :=
  ⟨by rw [List.map_append, List.map_append, r.1]; rfl, by rw [List.map_append, List.map_append]; exact r.2.append (.cons q .nil)⟩
theorem SlR.lookup {k : Str} : ∀ {vs : List (Str × Value)} {ds : List (Str × D)}, SlR g S h vs ds → (vs.lookup k = none ∧ ds.lookup k = none) ∨ ∃ v d, vs.lookup k = some v ∧ ds.lookup k = some d ∧ Rep g S h v d
  | [], ds, r => by cases ds with | nil => exact .inl ⟨rfl, rfl⟩ | cons _ _ => cases r.1
  | (n, v) :: vs, ds, r => by
    cases ds with
    | nil => cases r.1
    | cons p ds =>
      obtain ⟨m, d⟩ := p
      obtain ⟨r1, r2⟩ := r
      simp only [List.map_cons, List.cons.injEq] at r1
      obtain ⟨rfl, r1⟩ := r1
      cases r2 with
      | cons q r2 =>
        rw [List.lookup_cons, List.lookup_cons]
        cases k == n with
        | true => exact .inr ⟨v, d, rfl, rfl, q⟩
        | false => exact SlR.lookup ⟨r1, r2⟩
theorem SlR.isNone {k : Str} {vs : List (Str × Value)} {ds : List (Str × D)} (r : SlR g S h vs ds) : (vs.lookup k).isNone = (ds.lookup k).isNone := by
  rcases r.lookup (k := k) with ⟨a, b⟩ | ⟨v, d, a, b, _⟩ <;> rw [a, b] <;> rfl
theorem SlR.isSome {k : Str} {vs : List (Str × Value)} {ds : List (Str × D)} (r : SlR g S h vs ds) : (vs.lookup k).isSome = (ds.lookup k).isSome := by
  rcases r.lookup (k := k) with ⟨a, b⟩ | ⟨v, d, a, b, _⟩ <;> rw [a, b] <;> rfl
theorem SlR.zip : ∀ {ns : List Str} {vs : List Value} {ds : List D}, Reps g S h vs ds → SlR g S h (ns.zip vs) (ns.zip ds)
  | [], _, _, _ => SlR.nil
  | n :: ns, _, _, .nil => SlR.nil
  | n :: ns, _, _, .cons a b => by
    have ih := SlR.zip (ns := ns) b
    exact ⟨by rw [List.zip_cons_cons, List.zip_cons_cons, List.map_cons, List.map_cons, ih.1], .cons a ih.2⟩
theorem SlR.pick {vs : List (Str × Value)} {ds : List (Str × D)} (r : SlR g S h vs ds) : ∀ ns : List Str, SlR g S h (ns.filterMap fun n => (vs.lookup n).map (n, ·)) (ns.filterMap fun n => (ds.lookup n).map (n, ·))
  | [] => SlR.nil
  | n :: ns => by
    have ih := r.pick ns
    rw [List.filterMap_cons, List.filterMap_cons]
    rcases r.lookup (k := n) with ⟨a, b⟩ | ⟨v, d, a, b, q⟩
    · rw [a, b]; exact ih
    · rw [a, b]
      exact ⟨by show n :: _ = n :: _; rw [ih.1], .cons q ih.2⟩
end
/- binding, with D -/
def kwD (names : List Str) : List (Str × D) → List (Str × D) → Option (List (Str × D))
  | sl, [] => some sl
  | sl, (k, d) :: r => if names.contains k && (sl.lookup k).isNone then kwD names (sl ++ [(k, d)]) r else none
def koD (dfl : Str → Option D) : List (Str × D) → List Str → Option (List (Str × D))
  | sl, [] => some sl
  | sl, n :: r => if (sl.lookup n).isNone then (match dfl n with | some d => koD dfl (sl ++ [(n, d)]) r | none => none) else koD dfl sl r
def bindD (ps ko : List Str) (dfl : Str → Option D) (as : List D) (kws : List (Str × D)) : Option (List (Str × D)) :=
  if as.length ≤ ps.length then
    match kwD (ps ++ ko) (ps.zip as) kws with
    | some sl => if ps.all fun n => (sl.lookup n).isSome then (koD dfl sl ko).map fun sl => (ps ++ ko).filterMap fun n => (sl.lookup n).map (n, ·) else none
    | none => none
  else none
def constD : Value → Option D
  | .none => some .none
  | .bool b => some (.bool b)
  | .int i _ => some (.int i)
  | .str x _ => some (.str x.cps.toList)
  | .ref a => some (.at (.ref a))
  | _ => none
theorem constD_sound {g : Gd} {S : Addr → Prop} {h : Heap} {v : Value} {d : D} (e : constD v = some d) : Rep g S h v d := by
  cases v <;> cases e
  · exact .none
  · exact .bool _
  · exact .int _ _
  · rename_i x t
    have := Rep.str (g := g) (S := S) (h := h) x.cps.toList t
    simpa using this
  · exact .at rfl
/- the defaults of the keyword-only ones, as the ground keeps them -/
def dflIn (K : Frag) (kd : Value) (n : Str) : Option D := match kd with
  | .ref a => (match nsIn K a n with
      | some (some v) => constD v
      | _ => none)
  | _ => none
section
variable {g : Gd} {A : Around} {E : Value → Shared → Prop} {S : Addr → Prop} {s : Shared}
theorem bind_R {fd : FuncData} {vals : List Value} {kw : List (Str × Value)} {as : List D} {kds bs : List (Str × D)} {ps ko : List Str} {Q : List (Str × Value) → Shared → Prop} (G : Gok g) (B : Bs g s)
    (h1 : fd.params.posonlyargs = []) (h2 : fd.params.args.map (·.arg) = ps) (h3 : fd.params.kwonlyargs.map (·.arg) = ko) (h4 : fd.params.vararg = none) (h5 : fd.params.kwarg = none) (h6 : fd.defaults = .none)
    (ra : Reps g S s.heap vals as) (rk : SlR g S s.heap kw kds) (e : bindD ps ko (dflIn g.K fd.kwdefaults) as kds = some bs) (h : ∀ bv, SlR g S s.heap bv bs → Q bv s) : wpAny g.M A (bindArgs fd ⟨vals, kw⟩) Q E s := by
  unfold bindD at e
  split at e
  · rename_i hlen
    split at e
    · rename_i sl₁ hk
      split at e
      · rename_i hall
        obtain ⟨sl₂, hko, hbs⟩ := Option.map_eq_some_iff.mp e
        unfold bindArgs
        simp only [h1, h2, h3, h4, h5, h6, List.map_nil, List.nil_append]
        refine wpAny_bind (wpAny_mono (Q := fun r s' => s' = s ∧ r.2 = [] ∧ SlR g S s.heap r.1 sl₁) ?_ ?_ fun _ _ z => z)
        · refine wpAny_forIn_list _ (fun rest r s' => s' = s ∧ r.2 = [] ∧ ∃ sl krest, SlR g S s.heap r.1 sl ∧ SlR g S s.heap rest krest ∧ kwD (ps ++ ko) sl krest = some sl₁) _ ?_ ?_ _ _ ⟨rfl, rfl, _, _, SlR.zip ra, rk, hk⟩
          · rintro ⟨k, v⟩ rest ⟨r1, r2⟩ s' ⟨rfl, rfl, sl, krest, hs, hr, hkw⟩
            cases krest with
            | nil => cases hr.1
            | cons q krest =>
              obtain ⟨k', d⟩ := q
              obtain ⟨e1, e2⟩ := hr
              simp only [List.map_cons, List.cons.injEq] at e1
              obtain ⟨rfl, e1⟩ := e1
              cases e2 with
              | cons rv e2 =>
                unfold kwD at hkw
                split at hkw
                · rename_i hc
                  simp only [Bool.and_eq_true] at hc
                  have hin : (ps.contains k || ko.contains k) = true := by
                    have := hc.1
                    simp only [List.contains_iff_mem, List.mem_append, Bool.or_eq_true] at this ⊢
                    exact this
                  have hno : (r1.lookup k).isSome = false := by
                    rw [hs.isSome]
                    have := hc.2
                    cases hq : sl.lookup k <;> simp_all
                  dsimp only
                  rw [if_pos hin, if_neg (by rw [hno]; exact Bool.false_ne_true)]
                  exact wpAny_pure ⟨rfl, rfl, _, _, hs.snoc rv, ⟨e1, e2⟩, hkw⟩
                · cases hkw
          · rintro ⟨r1, r2⟩ s' ⟨rfl, hr2, sl, krest, hs, hr, hkw⟩
            cases krest with
            | nil => cases hkw; exact ⟨rfl, hr2, hs⟩
            | cons _ _ => cases hr.1
        · rintro ⟨slots, extra⟩ s' ⟨rfl, hex, hs⟩
          dsimp only at hex hs ⊢
          have hn0 : seqItems? Value.none = pure none := rfl
          rw [hn0]
          refine wpAny_bind (wpAny_pure ?_)
          have hg : (decide (vals.length > ps.length) && (none : Option Arg).isNone) = false := by
            have := ra.length
            have h' : ¬ vals.length > ps.length := by omega
            simp [h']
          simp only [hg, Bool.false_eq_true, if_false, Option.getD_none, List.drop_nil, List.length_nil, Nat.sub_zero, List.take_length, List.drop_length, List.zip_nil_right]
          have hmiss : (ps.filter fun n => (slots.lookup n).isNone) = [] := by
            rw [List.filter_eq_nil_iff]
            intro n hn
            rw [hs.isNone]
            have := List.all_eq_true.mp hall n hn
            cases hq : sl₁.lookup n <;> simp_all
          rw [hmiss]
          simp only [List.isEmpty_nil, Bool.not_true, Bool.false_eq_true, if_false]
          refine wpAny_bind (wpAny_of_eq (a := slots) (by first | rfl | exact List.forIn_nil) ?_)
          refine wpAny_bind (wpAny_mono (Q := fun r s₂ => s₂ = s' ∧ r.2 = [] ∧ SlR g S s'.heap r.1 sl₂) ?_ ?_ fun _ _ z => z)
          · refine wpAny_forIn_list _ (fun rest r s₂ => s₂ = s' ∧ r.2 = [] ∧ ∃ sl, SlR g S s'.heap r.1 sl ∧ koD (dflIn g.K fd.kwdefaults) sl rest = some sl₂) _ ?_ ?_ _ _ ⟨rfl, rfl, _, hs, hko⟩
            · rintro n rest ⟨r1, r2⟩ s₂ ⟨rfl, rfl, sl, hsl, hk2⟩
              unfold koD at hk2
              dsimp only
              rw [hsl.isNone]
              split at hk2
              · rename_i hnone
                rw [if_pos hnone]
                split at hk2
                · rename_i d hd
                  unfold dflIn at hd
                  split at hd
                  · rename_i a ha
                    rw [ha]
                    split at hd
                    · rename_i v hv
                      dsimp only
                      refine wpAny_bind ((looks_nsIn (B.K G) hv).here ?_)
                      exact wpAny_pure ⟨rfl, rfl, _, hsl.snoc (constD_sound hd), by rw [ha] at hk2; exact hk2⟩
                    · cases hd
                  · cases hd
                · cases hk2
              · rename_i hnone
                rw [if_neg hnone]
                exact wpAny_pure ⟨rfl, rfl, _, hsl, hk2⟩
            · rintro ⟨r1, r2⟩ s₂ ⟨rfl, hr2, sl, hsl, hk2⟩
              cases hk2
              exact ⟨rfl, hr2, hsl⟩
          · rintro ⟨slots₂, miss⟩ s₂ ⟨rfl, hm, hs₂⟩
            dsimp only at hm hs₂ ⊢
            rw [hm]
            simp only [List.isEmpty_nil, Bool.not_true, Bool.false_eq_true, if_false]
            exact wpAny_pure (h _ (hbs ▸ hs₂.pick _))
      · cases e
    · cases e
  · cases e
end
end J5
end
section
open PySem PySem.W PySem.W.X PyProof.Rows Builtin
set_option Elab.async false
set_option maxRecDepth 100000
set_option linter.unusedVariables false
namespace J5
inductive Fl where
  | next | brk | cont
  | ret (d : D)
inductive FlR (g : Gd) (S : Addr → Prop) (h : Heap) : Flow → Fl → Prop
  | next : FlR g S h .next .next
  | brk : FlR g S h .brk .brk
  | cont : FlR g S h .cont .cont
  | ret {v : Value} {d : D} : Rep g S h v d → FlR g S h (.ret v) (.ret d)
/- statements: the frame goes over into another -/
def St (c : Cx) (t : Sem Flow) (ρ' : Rho) (fl : Fl) : Prop :=
  ∀ s, c.At s → ∀ (Q : Flow → Shared → Prop) (E : Value → Shared → Prop), (∀ f s' F' O', FrOk c.g c.env c.Sc F' ρ' O' s' → Kp c.F s s' → (∀ b, F' b → c.F b ∨ s.heap.objs.size ≤ b) → FlR c.g (Sx F' c.Sc) s'.heap f fl → Q f s') → wpAny c.g.M c.A t Q E s
/- binding sets the names -/
theorem bindL_not {k : Str → Option NameKind} {x : Str} : ∀ {bs : List (Str × Value)} {m : Str → Option Value}, x ∉ bs.map (·.1) → bindL k bs m x = m x
  | [], _, _ => rfl
  | (n, v) :: r, m, h => by
    simp only [List.map_cons, List.mem_cons, not_or] at h
    show bindL k r (if k n = some .local then fun y => if y = n then some v else m y else m) x = m x
    rw [bindL_not h.2]
    split
    · exact if_neg h.1
    · rfl
theorem bindC_not {k : Str → Option NameKind} {x : Str} : ∀ {bs : List (Str × Value)} {m : Str → Option Value}, x ∉ bs.map (·.1) → bindC k bs m x = m x
  | [], _, _ => rfl
  | (n, v) :: r, m, h => by
    simp only [List.map_cons, List.mem_cons, not_or] at h
    show bindC k r (if k n = some .local then m else fun y => if y = n then some v else m y) x = m x
    rw [bindC_not h.2]
    split
    · rfl
    · exact if_neg h.1
theorem bindL_at {k : Str → Option NameKind} {x : Str} {v : Value} : ∀ {bs : List (Str × Value)} {m : Str → Option Value}, (bs.map (·.1)).Nodup → bs.lookup x = some v → k x = some .local → bindL k bs m x = some v
  | [], _, _, h, _ => by cases h
  | (n, u) :: r, m, hn, h, hk => by
    simp only [List.map_cons, List.nodup_cons] at hn
    show bindL k r (if k n = some .local then fun y => if y = n then some u else m y else m) x = some v
    rw [List.lookup_cons] at h
    cases hx : x == n with
    | true =>
      rw [hx] at h; cases h
      have e := beq_iff_eq.mp hx
      subst e
      rw [bindL_not hn.1, if_pos hk]
      exact if_pos rfl
    | false =>
      rw [hx] at h
      exact bindL_at hn.2 h hk
theorem bindC_at {k : Str → Option NameKind} {x : Str} {v : Value} : ∀ {bs : List (Str × Value)} {m : Str → Option Value}, (bs.map (·.1)).Nodup → bs.lookup x = some v → k x ≠ some .local → bindC k bs m x = some v
  | [], _, _, h, _ => by cases h
  | (n, u) :: r, m, hn, h, hk => by
    simp only [List.map_cons, List.nodup_cons] at hn
    show bindC k r (if k n = some .local then m else fun y => if y = n then some u else m y) x = some v
    rw [List.lookup_cons] at h
    cases hx : x == n with
    | true =>
      rw [hx] at h; cases h
      have e := beq_iff_eq.mp hx
      subst e
      rw [bindC_not hn.1, if_neg hk]
      exact if_pos rfl
    | false =>
      rw [hx] at h
      exact bindC_at hn.2 h hk
theorem cellsFrom_names : ∀ (names : List (Str × NameKind)) (n m : Nat) (a b : List (Str × Addr)), a.map (·.1) = b.map (·.1) → (cellsFrom n names a).map (·.1) = (cellsFrom m names b).map (·.1)
  | [], _, _, _, _, h => h
  | (x, k) :: r, n, m, a, b, h => by
    unfold cellsFrom
    split
    · exact cellsFrom_names r _ _ _ _ (by rw [List.map_cons, List.map_cons, h])
    · exact cellsFrom_names r _ _ _ _ h
theorem lookup_isSome_names {α β : Type} : ∀ {a : List (Str × α)} {b : List (Str × β)} {x : Str}, a.map (·.1) = b.map (·.1) → (a.lookup x).isSome = (b.lookup x).isSome
  | [], [], _, _ => rfl
  | [], _ :: _, _, h => by cases h
  | _ :: _, [], _, h => by cases h
  | (n, u) :: a, (m, v) :: b, x, h => by
    simp only [List.map_cons, List.cons.injEq] at h
    obtain ⟨rfl, h⟩ := h
    rw [List.lookup_cons, List.lookup_cons]
    cases x == n with
    | true => rfl
    | false => exact lookup_isSome_names h
/- a function of the text as the ground keeps it -/
structure FnAt (K : Frag) (f : Addr) (fd : FuncData) (body : List Stmt) : Prop where
  at_ : ∃ oc od sl, K.lookup f = some ⟨oc, od, .func fd, sl⟩
  code : codeIn K fd.code fd.qualname = true
  body : fd.body = .stmts body
  clo : fd.closure = []
  co : fd.scope.isCoroutine = false
  gen : fd.scope.isGenerator = false
  kind : fd.scope.kind = .function
  gl : fd.globals = mainGlobals
  bi : fd.builtins = builtinsNs
  po : fd.params.posonlyargs = []
  va : fd.params.vararg = none
  kw : fd.params.kwarg = none
  df : fd.defaults = .none
def frame0 (bs : List (Str × D)) : Rho := bs.map fun p => (p.1, .val p.2)
def namesOk (sc : Scope) (bs : List (Str × D)) : Bool := bs.all fun p => sc.names.lookup p.1 == some .local || (sc.names.lookup p.1 == some .cell && ((cellsFrom 0 sc.names []).lookup p.1).isSome)
end J5
end
section
open PySem PySem.W PySem.W.X PyProof.Rows Builtin
set_option Elab.async false
set_option maxRecDepth 100000
set_option linter.unusedVariables false
namespace J5
theorem lookup_frame0 : ∀ {bs : List (Str × D)} {x : Str} {sl : Slot}, (frame0 bs).lookup x = some sl → ∃ d, sl = .val d ∧ bs.lookup x = some d
  | [], _, _, h => by cases h
  | (n, d) :: r, x, sl, h => by
    unfold frame0 at h
    rw [List.map_cons, List.lookup_cons] at h
    rw [List.lookup_cons]
    cases hx : x == n with
    | true => rw [hx] at h; cases h; exact ⟨d, rfl, rfl⟩
    | false => rw [hx] at h; exact lookup_frame0 h
theorem SlR.nodup {g : Gd} {S : Addr → Prop} {h : Heap} {vs : List (Str × Value)} {ds : List (Str × D)} (r : SlR g S h vs ds) (hn : (ds.map (·.1)).Nodup) : (vs.map (·.1)).Nodup := r.1 ▸ hn
/- the frame that a call lays -/
theorem FrOk.enter {g : Gd} {S : Addr → Prop} {s s' : Shared} {fd : FuncData} {f : Addr} {bv : List (Str × Value)} {bs : List (Str × D)} (B : Bs g s) (hS : ∀ b, g.Tb b → S b) (hz : ∀ b, S b → b < s.heap.objs.size) (r : SlR g S s.heap bv bs) (hn : (bs.map (·.1)).Nodup)
    (hk : fd.scope.kind = .function) (hgl : fd.globals = mainGlobals) (hbi : fd.builtins = builtinsNs) (hnames : namesOk fd.scope bs = true)
    (x : InCallC s (callEnvC fd s.heap.objs.size f).locals (bindL (callEnvC fd s.heap.objs.size f).kindOf bv fun _ => none) (callEnvC fd s.heap.objs.size f).cells (bindC (callEnvC fd s.heap.objs.size f).kindOf bv fun _ => none) s') :
    ∃ F, FrOk g (callEnvC fd s.heap.objs.size f) S F (frame0 bs) (fun _ => none) s' ∧ Kp g.Tb s s' ∧ ∀ b, F b → g.Tb b ∨ s.heap.objs.size ≤ b := by
  have hloc : (callEnvC fd s.heap.objs.size f).locals = s.heap.objs.size := rfl
  obtain ⟨h₁, tk, he⟩ := x.toInCall.same
  have hsize : s.heap.objs.size ≤ s'.heap.objs.size := Nat.le_trans (by rw [hloc]; exact Nat.le_refl _) (Nat.le_of_lt x.toInCall.ns.lt)
  have k : Kp g.Tb s s' := ⟨fun b o _ e => x.toInCall.keep b o e, hsize, fun i y e => by rw [he]; exact e, by rw [he]⟩
  have k0 : Kp (fun b => s.heap.objs.size ≤ b) s s' := ⟨fun b o _ e => x.toInCall.keep b o e, hsize, fun i y e => by rw [he]; exact e, by rw [he]⟩
  have B' : Bs g s' := B.fresh k0 (by rw [he]; exact B.bare)
  have hT : ∀ b, g.Tb b → b < s.heap.objs.size := fun b t => hz b (hS b t)
  refine ⟨fun b => g.Tb b ∨ b = s.heap.objs.size ∨ ∃ y, (callEnvC fd s.heap.objs.size f).cells.lookup y = some b, ?_, k, ?_⟩
  · refine ⟨B', hk, hgl, hbi, fun b t => .inl t, fun b t => Nat.lt_of_lt_of_le (hz b t) hsize, ?_, .inr (.inl rfl), (fun _ _ h => by cases h), ?_, ?_, ?_, (fun y cc e => ⟨.inr (.inr ⟨y, e⟩), _, x.cell y cc e⟩), _, x.toInCall.ns, ?_⟩
    · rintro b (t | rfl | ⟨y, hy⟩)
      · exact Nat.lt_of_lt_of_le (hT b t) hsize
      · exact x.toInCall.ns.lt
      · exact (x.cell y b hy).lt
    · intro y cc hy
      have hm := mem_of_lookup hy
      have hab := x.above y cc hm
      rw [hloc] at hab
      refine ⟨by rw [hloc]; exact Nat.ne_of_gt hab, fun t => ?_, fun z hzz => name_of_addr x.apart (mem_of_lookup hzz) hm⟩
      exact absurd (hT cc t) (Nat.not_lt.mpr (Nat.le_of_lt hab))
    · intro t; exact absurd (hT _ t) (Nat.lt_irrefl _)
    · rintro b (t | rfl | ⟨y, hy⟩) nt
      · exact absurd t nt
      · exact (B.new (Nat.le_refl _)).2
      · have := x.above y b (mem_of_lookup hy)
        rw [hloc] at this
        exact (B.new (Nat.le_of_lt this)).2
    · intro y sl hsl
      obtain ⟨d, rfl, hd⟩ := lookup_frame0 hsl
      rcases r.lookup (k := y) with ⟨_, q⟩ | ⟨v, d', hv, hd', rv⟩
      · rw [q] at hd; cases hd
      · rw [hd'] at hd; cases hd
        have hnv := r.nodup hn
        have hin : (y, d) ∈ bs := mem_of_lookup hd'
        have hkind := List.all_eq_true.mp hnames _ hin
        have rr : Rep g (Sx (fun b => g.Tb b ∨ b = s.heap.objs.size ∨ ∃ y, (callEnvC fd s.heap.objs.size f).cells.lookup y = some b) S) s'.heap v d := by
          refine rv.mono (fun b o _ e => x.toInCall.keep b o e) ?_
          rintro b hb ((t | rfl | ⟨z, hzz⟩) | t)
          · exact hS b t
          · exact absurd hb (Nat.lt_irrefl _)
          · have := x.above z b (mem_of_lookup hzz)
            rw [hloc] at this
            exact absurd hb (Nat.not_lt.mpr (Nat.le_of_lt this))
          · exact t
        simp only [Bool.or_eq_true, Bool.and_eq_true, beq_iff_eq] at hkind
        rcases hkind with hl | ⟨hl, hc⟩
        · exact ⟨v, .loc hl (bindL_at hnv hv hl), .val rr⟩
        · have hc' : ((callEnvC fd s.heap.objs.size f).cells.lookup y).isSome = true := by
            rw [← hc]
            exact lookup_isSome_names (cellsFrom_names _ _ _ _ _ rfl)
          obtain ⟨cc, hcc⟩ := Option.isSome_iff_exists.mp hc'
          have hcell := x.cell y cc hcc
          rw [bindC_at hnv hv (by rw [show (callEnvC fd s.heap.objs.size f).kindOf y = some .cell from hl]; decide)] at hcell
          exact ⟨v, .cell hl hcc hcell, .val rr⟩
  · rintro b (t | rfl | ⟨y, hy⟩)
    · exact .inl t
    · exact .inr (Nat.le_refl _)
    · have := x.above y b (mem_of_lookup hy)
      rw [hloc] at this
      exact .inr (Nat.le_of_lt this)
/- a body of a function, run in the frame of the call, gives d -/
def BodyOk (g : Gd) (n : Nat) (fd : FuncData) (body : List Stmt) (bs : List (Str × D)) (d : D) : Prop :=
  ∀ (A : Around) (L f : Addr) (Sc F : Addr → Prop), Room A n → ∃ ρ', (St ⟨g, A, callEnvC fd L f, Sc, F, frame0 bs, fun _ => none⟩ (execs body (callEnvC fd L f)) ρ' (.ret d) ∨ (d = .none ∧ St ⟨g, A, callEnvC fd L f, Sc, F, frame0 bs, fun _ => none⟩ (execs body (callEnvC fd L f)) ρ' .next))
theorem CallOk.def {g : Gd} {n : Nat} {f : Addr} {fd : FuncData} {body : List Stmt} {as : List D} {ns : List Str} {ks : List D} {bs : List (Str × D)} {d : D} (G : Gok g) (H : FnAt g.K f fd body)
    (e : bindD (fd.params.args.map (·.arg)) (fd.params.kwonlyargs.map (·.arg)) (dflIn g.K fd.kwdefaults) as (ns.zip ks) = some bs) (hn : (bs.map (·.1)).Nodup) (hnames : namesOk fd.scope bs = true) (hb : BodyOk g n fd body bs d) :
    CallOk g (n + 1) (.ref f) as ns ks d := by
  intro A S s vs kvs R B hS hz ra rk Q E q
  obtain ⟨oc, od, sl, ho⟩ := H.at_
  refine wpAny_call (codeAny_call_function (o := ⟨oc, od, .func fd, sl⟩) (fd := fd) (body := body) (by have := R.depth; omega) (B.K G _ _ ho) rfl H.co H.gen H.body (codeRec_of (B.K G) H.code) ?_)
  refine bind_R (A := A.in1) G B H.po rfl rfl H.va H.kw H.df ra (SlR.zip rk) e fun bv rb => ?_
  rw [H.clo]
  have hkv : ∀ x ∈ bv, fd.scope.names.lookup x.1 = some .local ∨ (fd.scope.names.lookup x.1 = some .cell ∧ ((cellsFrom (s.heap.objs.size + 1) fd.scope.names []).lookup x.1).isSome = true) := by
    intro x hx
    have hm : x.1 ∈ bs.map (·.1) := rb.1 ▸ List.mem_map_of_mem hx
    obtain ⟨p, hp, hpe⟩ := List.mem_map.mp hm
    have hkind := List.all_eq_true.mp hnames _ hp
    simp only [Bool.or_eq_true, Bool.and_eq_true, beq_iff_eq, hpe] at hkind
    rcases hkind with hl | ⟨hl, hc⟩
    · exact .inl hl
    · exact .inr ⟨hl, by rw [← hc]; exact lookup_isSome_names (cellsFrom_names _ _ _ _ _ rfl)⟩
  refine wpAny_newFunctionEnv_cells H.kind hkv fun env he s' x => ?_
  have he' : env = callEnvC fd s.heap.objs.size f := he
  subst he'
  obtain ⟨F, X, k, hF⟩ := FrOk.enter B hS hz rb hn H.kind H.gl H.bi hnames x
  refine ⟨X.bs.nl G, codeAny_func ?_⟩
  have R' : Room (A.deeper (callEnvC fd s.heap.objs.size f)) n := ⟨by have := R.units; show A.units + 3 + _ < _; omega, by have := R.depth; show A.depth + 1 + n < _; omega, R.hand⟩
  have fin : ∀ (v : Value) (s₂ : Shared) (F' : Addr → Prop) (O' : Str → Option Addr) (ρ' : Rho), FrOk g (callEnvC fd s.heap.objs.size f) S F' ρ' O' s₂ → Kp F s' s₂ → Rep g (Sx F' S) s₂.heap v d → Q v s₂ := by
    intro v s₂ F' O' ρ' X₂ k₂ rv
    refine q v s₂ X₂.bs ?_ (rv.mono (fun _ _ _ e => e) fun b _ t => .inr t)
    refine Kp.of_new ?_
    have k₃ : Kp (fun b => g.Tb b ∨ s.heap.objs.size ≤ b) s' s₂ := k₂.weaken hF
    exact (k.weaken fun b t => .inl t).trans k₃
  obtain ⟨ρ', h1 | ⟨rfl, h2⟩⟩ := hb _ s.heap.objs.size f S F R'
  · refine h1 s' X _ _ fun fl s₂ F' O' X₂ k₂ _ r => ?_
    cases r with
    | ret rv => exact fin _ s₂ F' O' ρ' X₂ k₂ rv
  · refine h2 s' X _ _ fun fl s₂ F' O' X₂ k₂ _ r => ?_
    cases r
    exact fin _ s₂ F' O' ρ' X₂ k₂ .none
end J5
end
section
open PySem PySem.W PySem.W.X PyProof.Rows Builtin
set_option Elab.async false
set_option maxRecDepth 100000
set_option linter.unusedVariables false
namespace J5
def upd (x : Str) (sl : Slot) : Rho → Rho
  | [] => [(x, sl)]
  | (y, t) :: r => if y == x then (y, sl) :: r else (y, t) :: upd x sl r
theorem lookup_upd {x y : Str} {sl : Slot} : ∀ {ρ : Rho}, (upd x sl ρ).lookup y = if y = x then some sl else ρ.lookup y
  | [] => by
    unfold upd
    rw [List.lookup_cons]
    by_cases h : y = x
    · subst h; rw [beq_self_eq_true, if_pos rfl]
    · rw [if_neg h, show (y == x) = false by simpa using h]
  | (z, t) :: r => by
    have ih := @lookup_upd x y sl r
    unfold upd
    split
    · rename_i hz
      have e := beq_iff_eq.mp hz
      subst e
      rw [List.lookup_cons, List.lookup_cons]
      by_cases h : y = z
      · subst h; rw [beq_self_eq_true, if_pos rfl]
      · rw [if_neg h, show (y == z) = false by simpa using h]
    · rename_i hz
      rw [List.lookup_cons, List.lookup_cons]
      cases hy : y == z with
      | true =>
        have e := beq_iff_eq.mp hy
        subst e
        have : y ≠ x := by simpa using hz
        rw [if_neg this]
      | false => exact ih
section
variable {g : Gd} {env : Env} {Sc F : Addr → Prop} {ρ : Rho} {O : Str → Option Addr} {s : Shared} {A : Around} {E : Value → Shared → Prop}
/- one place of this frame changes; all else stays -/
theorem FrOk.place (X : FrOk g env Sc F ρ O s) {a : Addr} (ha : F a) (ht : ¬ g.Tb a) (hg : ∀ o, g.h₀.get? a = some o → False) (hgc : ∀ c P, (c, P) ∈ g.T → c ≠ a) {h' : Heap} {tk : Nat} (hs : Heap.SameBut a s.heap h') :
    Bs g { s with heap := h', toks := tk } ∧ Kp F s { s with heap := h', toks := tk } := by
  have k : Kp (fun b => b = a) s { s with heap := h', toks := tk } := ⟨fun b o n e => (hs.2 b n).trans e, Nat.le_of_eq hs.1.symm, fun _ _ e => e, rfl⟩
  refine ⟨X.bs.kp k (fun b o e q => by subst e; exact hg o q) (fun cc P m => ⟨hgc cc P m, fun e => ht (e ▸ ⟨cc, m⟩)⟩) X.bs.bare, k.weaken fun b e => e ▸ ha⟩
def dropO (x : Str) (O : Str → Option Addr) : Str → Option Addr := fun y => if y = x then none else O y
theorem SlotOk.place {h h' : Heap} {a : Addr} {O' : Str → Option Addr} {y : Str} {v : Value} {sl : Slot} (r : SlotOk g F Sc h env O y v sl) (ha : F a) (hs : Heap.SameBut a h h') (hO : ∀ b, O y = some b → b ≠ a ∧ O' y = some b) : SlotOk g F Sc h' env O' y v sl := by
  have hk : ∀ b o, ¬ Sx F Sc b → h.get? b = some o → h'.get? b = some o := fun b o n e => (hs.2 b fun q => n (.inl (q ▸ ha))).trans e
  cases r with
  | val r => exact .val (r.mono hk fun _ _ q => q)
  | own o r => exact .own (hO _ o).2 (r.mono hk (fun _ _ q => q) fun ob e => (hs.2 _ (hO _ o).1).trans e)
  | ini o r => exact .ini (hO _ o).2 (r.mono hk (fun _ _ q => q) fun ob e => (hs.2 _ (hO _ o).1).trans e)
/- what owning must say -/
def OwnOk (g : Gd) (env : Env) (Sc F : Addr → Prop) (O : Str → Option Addr) : Prop :=
  ∀ x a, O x = some a → F a ∧ ¬ g.Tb a ∧ a ≠ env.locals ∧ (∀ y c, env.cells.lookup y = some c → a ≠ c) ∧ (∀ y, O y = some a → y = x) ∧ ¬ Sc a
theorem OwnOk.drop {g : Gd} {env : Env} {Sc F : Addr → Prop} {O : Str → Option Addr} (X : OwnOk g env Sc F O) (x : Str) : OwnOk g env Sc F (dropO x O) := by
  intro y a h
  unfold dropO at h
  split at h
  · cases h
  · obtain ⟨h1, h2, h3, h4, h5⟩ := X y a h
    refine ⟨h1, h2, h3, h4, (fun z hz => ?_), h5.2⟩
    unfold dropO at hz
    split at hz
    · cases hz
    · exact h5.1 z hz
theorem FrOk.put' {x : Str} {v : Value} {sl₀ : Slot} {O₂ : Str → Option Addr} {Q : Unit → Shared → Prop} (X : FrOk g env Sc F ρ O s) (hx : env.kindOf x = some .local ∨ (env.kindOf x = some .cell ∧ (env.cells.lookup x).isSome = true))
    (own₂ : OwnOk g env Sc F O₂) (hsame : ∀ y, y ≠ x → ∀ b, O y = some b → O₂ y = some b) (r : SlotOk g F Sc s.heap env O₂ x v sl₀)
    (q : ∀ s', FrOk g env Sc F (upd x sl₀ ρ) O₂ s' → Kp F s s' → s.heap.objs.size ≤ s'.heap.objs.size → (env.kindOf x = some .local → Kp (fun b => b = env.locals) s s') → Q () s') : wpAny g.M A (storeName env x v) Q E s := by
  obtain ⟨m, hn, hm⟩ := X.at_
  have key : ∀ (a : Addr) (h' : Heap) (tk : Nat) (m' : Str → Option Value), F a → ¬ g.Tb a → (env.kindOf x = some .local → a = env.locals) → Heap.SameBut a s.heap h' → (∀ y b, O y = some b → b ≠ a) → (∀ y b, O₂ y = some b → b ≠ a) → h'.Ns env.locals m' → (∀ y c, env.cells.lookup y = some c → ∃ v₀, h'.IsCell c v₀) → At env h' m' x v →
      (∀ y u, y ≠ x → At env s.heap m y u → At env h' m' y u) → Q () { s with heap := h', toks := tk } := by
    intro a h' tk m' ha ht hal hs hO hO₂ hn' hc hx' hat
    obtain ⟨n1, n2⟩ := X.nw a ha ht
    obtain ⟨B', k⟩ := X.place ha ht n1 n2 (h' := h') (tk := tk) hs
    refine q _ ⟨B', X.kind, X.gl, X.bi, X.tF, fun b t => by rw [hs.1]; exact X.tS b t, fun b t => by rw [hs.1]; exact X.fS b t, X.L, own₂, X.cL, X.lT, X.nw, fun y cc e => ⟨(X.cF y cc e).1, hc y cc e⟩, m', hn', fun y sl e => ?_⟩ k (Nat.le_of_eq hs.1.symm) (fun hl => hal hl ▸ ⟨fun b o n e => (hs.2 b n).trans e, Nat.le_of_eq hs.1.symm, fun _ _ e => e, rfl⟩)
    rw [lookup_upd] at e
    split at e
    · rename_i hy
      subst hy
      cases e
      exact ⟨v, hx', r.place ha hs fun b hb => ⟨hO₂ _ b hb, hb⟩⟩
    · rename_i hy
      obtain ⟨u, hu, hsl⟩ := hm y sl e
      exact ⟨u, hat y u hy hu, hsl.place ha hs fun b hb => ⟨hO y b hb, hsame y hy b hb⟩⟩
  have hp : (env.scope.kind == .class || (env.scope.kind == .module && env.locals != env.globals)) = false := by rw [X.kind]; rfl
  rcases hx with hl | ⟨hl, hc⟩
  · refine wpAny_storeName_local hl hn (fun h' hn' hs => ?_) hp
    refine key env.locals h' _ _ X.L X.lT (fun _ => rfl) hs (fun y b hb => (X.own y b hb).2.2.1) (fun y b hb => (own₂ y b hb).2.2.1) hn' ?_ (.loc hl (if_pos rfl)) ?_
    · intro y c e
      obtain ⟨v₀, hv⟩ := (X.cF y c e).2
      exact ⟨v₀, hv.sameBut hs (X.cL y c e).1⟩
    · intro y u hy hu
      cases hu with
      | loc a b => exact .loc a ((if_neg hy).trans b)
      | cell a b cc => exact .cell a b (cc.sameBut hs (X.cL _ _ b).1)
      | free a n b cc => exact .free a n b (cc.sameBut hs (X.cL _ _ b).1)
  · obtain ⟨c, hc⟩ := Option.isSome_iff_exists.mp hc
    obtain ⟨hFc, v₀, hv⟩ := X.cF x c hc
    refine wpAny_storeName_cell X.kind hl hc hv fun h' hcell hs => ?_
    refine key c h' s.toks m hFc (X.cL x c hc).2.1 (fun h => by rw [h] at hl; cases hl) hs (fun y b hb => (X.own y b hb).2.2.2.1 x c hc) (fun y b hb => (own₂ y b hb).2.2.2.1 x c hc) (hn.sameBut hs (Ne.symm (X.cL x c hc).1)) ?_ (.cell hl hc hcell) ?_
    · intro y c' e
      by_cases h : c' = c
      · subst h; exact ⟨_, hcell⟩
      · obtain ⟨v₁, hv₁⟩ := (X.cF y c' e).2
        exact ⟨v₁, hv₁.sameBut hs h⟩
    · intro y u hy hu
      have ne : ∀ {c'}, env.cells.lookup y = some c' → c' ≠ c := fun {c'} e h => by
        subst h
        exact hy ((X.cL x c' hc).2.2 y e)
      cases hu with
      | loc a b => exact .loc a b
      | cell a b cc => exact .cell a b (cc.sameBut hs (ne b))
      | free a n b cc => exact .free a n b (cc.sameBut hs (ne b))
theorem FrOk.put {x : Str} {v : Value} {sl₀ : Slot} {O₂ : Str → Option Addr} {Q : Unit → Shared → Prop} (X : FrOk g env Sc F ρ O s) (hx : env.kindOf x = some .local ∨ (env.kindOf x = some .cell ∧ (env.cells.lookup x).isSome = true))
    (own₂ : OwnOk g env Sc F O₂) (hsame : ∀ y, y ≠ x → ∀ b, O y = some b → O₂ y = some b) (r : SlotOk g F Sc s.heap env O₂ x v sl₀)
    (q : ∀ s', FrOk g env Sc F (upd x sl₀ ρ) O₂ s' → Kp F s s' → s.heap.objs.size ≤ s'.heap.objs.size → Q () s') : wpAny g.M A (storeName env x v) Q E s :=
  FrOk.put' X hx own₂ hsame r fun s' a b c _ => q s' a b c
theorem FrOk.storeL {x : Str} {v : Value} {d : D} {Q : Unit → Shared → Prop} (X : FrOk g env Sc F ρ O s) (hx : env.kindOf x = some .local) (r : Rep g (Sx F Sc) s.heap v d)
    (q : ∀ s', FrOk g env Sc F (upd x (.val d) ρ) (dropO x O) s' → Kp (fun b => b = env.locals) s s' → Q () s') : wpAny g.M A (storeName env x v) Q E s :=
  FrOk.put' X (.inl hx) (OwnOk.drop X.own x) (fun y hy b hb => by unfold dropO; rw [if_neg hy]; exact hb) (.val r) fun s' a _ _ d => q s' a (d hx)
theorem FrOk.store {x : Str} {v : Value} {d : D} {Q : Unit → Shared → Prop} (X : FrOk g env Sc F ρ O s) (hx : env.kindOf x = some .local ∨ (env.kindOf x = some .cell ∧ (env.cells.lookup x).isSome = true)) (r : Rep g (Sx F Sc) s.heap v d)
    (q : ∀ s', FrOk g env Sc F (upd x (.val d) ρ) (dropO x O) s' → Kp F s s' → s.heap.objs.size ≤ s'.heap.objs.size → Q () s') : wpAny g.M A (storeName env x v) Q E s :=
  FrOk.put X hx (OwnOk.drop X.own x) (fun y hy b hb => by unfold dropO; rw [if_neg hy]; exact hb) (.val r) q
/- a new object that this frame owns -/
theorem FrOk.alloc (X : FrOk g env Sc F ρ O s) (o : Obj) (tk : Nat) : FrOk g env Sc (fun b => F b ∨ b = s.heap.objs.size) ρ O { s with heap := s.heap.push o, toks := tk } := by
  have k := Kp.push (T := g.Tb) s o tk
  have X' := X.kp k (X.bs.fresh (Kp.push s o tk) X.bs.bare)
  have hsz : (s.heap.push o).objs.size = s.heap.objs.size + 1 := Heap.size_push ..
  obtain ⟨m, hn, hm⟩ := X.at_
  obtain ⟨m', hn', hm'⟩ := X'.at_
  refine ⟨X'.bs, X.kind, X.gl, X.bi, fun b t => .inl (X.tF b t), X'.tS, ?_, .inl X.L, fun y a h => let ⟨h1, r⟩ := X.own y a h; ⟨.inl h1, r⟩, X.cL, X.lT, ?_, fun y cc e => ⟨.inl (X.cF y cc e).1, (X'.cF y cc e).2⟩, m, hn.push o, fun y sl e => ?_⟩
  · rintro b (t | rfl)
    · exact X'.fS b t
    · show _ < (s.heap.push o).objs.size; rw [hsz]; exact Nat.lt_succ_self _
  · rintro b (t | rfl) nt
    · exact X.nw b t nt
    · exact (X.bs.new (Nat.le_refl _)).2
  · obtain ⟨v, ha, hs⟩ := hm y sl e
    have hk : ∀ b o', ¬ Sx F Sc b → s.heap.get? b = some o' → (s.heap.push o).get? b = some o' := fun b o' _ e => Heap.get?_push_of_some _ e
    have hS : ∀ b, b < s.heap.objs.size → Sx (fun b => F b ∨ b = s.heap.objs.size) Sc b → Sx F Sc b := by
      rintro b hb ((t | rfl) | t)
      · exact .inl t
      · exact absurd hb (Nat.lt_irrefl _)
      · exact .inr t
    refine ⟨v, ha.keep fun _ _ _ _ e => Heap.get?_push_of_some _ e, ?_⟩
    cases hs with
    | val r => exact .val (r.mono hk hS)
    | own o' r => exact .own o' (r.mono hk hS fun _ e => Heap.get?_push_of_some _ e)
    | ini o' r => exact .ini o' (r.mono hk hS fun _ e => Heap.get?_push_of_some _ e)
end
end J5
end
section
open PySem PySem.W PySem.W.X PyProof.Rows Builtin
set_option Elab.async false
set_option maxRecDepth 100000
set_option linter.unusedVariables false
namespace J5
section
variable {c : Cx}
def Cx.with (c : Cx) (F : Addr → Prop) (ρ : Rho) (O : Str → Option Addr) : Cx := ⟨c.g, c.A, c.env, c.Sc, F, ρ, O⟩
theorem Cx.At.kF {s s' : Shared} (X : c.At s) (k : Kp c.g.Tb s s') : Kp c.F s s' := k.weaken X.tF
theorem St.nil : St c (execs [] c.env) c.ρ .next := fun s X Q E q => wpAny_execs_nil (q .next s c.F c.O X (.refl s) (fun b h => .inl h) .next)
theorem St.cons {st : Stmt} {rest : List Stmt} {ρ₁ ρ₂ : Rho} {fl : Fl} (h₁ : St c (exec st c.env) ρ₁ .next) (h₂ : ∀ F' O', St (c.with F' ρ₁ O') (execs rest c.env) ρ₂ fl) : St c (execs (st :: rest) c.env) ρ₂ fl := by
  intro s X Q E q
  refine wpAny_execs_cons (h₁ s X _ _ fun f s₁ F₁ O₁ X₁ k₁ g₁ r₁ => ?_)
  cases r₁
  refine h₂ F₁ O₁ s₁ X₁ Q E fun f s₂ F₂ O₂ X₂ k₂ g₂ r₂ => ?_
  refine q f s₂ F₂ O₂ X₂ ?_ ?_ r₂
  · exact Kp.of_new ((k₁.weaken fun b t => .inl t).trans (k₂.weaken g₁))
  · intro b t
    rcases g₂ b t with t | t
    · exact g₁ b t
    · exact .inr (Nat.le_trans k₁.size t)
theorem St.stop {st : Stmt} {rest : List Stmt} {ρ₁ : Rho} {fl : Fl} (h₁ : St c (exec st c.env) ρ₁ fl) (hne : (match fl with | .next => False | _ => True)) : St c (execs (st :: rest) c.env) ρ₁ fl := by
  intro s X Q E q
  refine wpAny_execs_cons (h₁ s X _ _ fun f s₁ F₁ O₁ X₁ k₁ g₁ r₁ => ?_)
  cases r₁ with
  | next => exact hne.elim
  | brk => exact q _ s₁ F₁ O₁ X₁ k₁ g₁ .brk
  | cont => exact q _ s₁ F₁ O₁ X₁ k₁ g₁ .cont
  | ret r => exact q _ s₁ F₁ O₁ X₁ k₁ g₁ (.ret r)
/- a step of expressions ahead of a statement -/
theorem Cx.At.ahead {s s₁ : Shared} (X : c.At s) {Q : Flow → Shared → Prop} {ρ' : Rho} {fl : Fl}
    (q : ∀ f s' F' O', FrOk c.g c.env c.Sc F' ρ' O' s' → Kp c.F s s' → (∀ b, F' b → c.F b ∨ s.heap.objs.size ≤ b) → FlR c.g (Sx F' c.Sc) s'.heap f fl → Q f s') (k : Kp c.g.Tb s s₁) :
    ∀ f s' F' O', FrOk c.g c.env c.Sc F' ρ' O' s' → Kp c.F s₁ s' → (∀ b, F' b → c.F b ∨ s₁.heap.objs.size ≤ b) → FlR c.g (Sx F' c.Sc) s'.heap f fl → Q f s' :=
  fun f s' F' O' X' k' g' r => q f s' F' O' X' ((X.kF k).trans k') (fun b t => (g' b t).imp id fun t => Nat.le_trans k.size t) r
theorem St.ifs {test : Expr} {body orelse : List Stmt} {pos : Pos} {b : Bool} {ρ' : Rho} {fl : Fl} (h : Tr c (isTrue test c.env (eval test c.env)) b) (h₁ : b = true → St c (execs body c.env) ρ' fl) (h₂ : b = false → St c (execs orelse c.env) ρ' fl) :
    St c (exec (.If test body orelse pos) c.env) ρ' fl := by
  intro s X Q E q
  refine wpAny_If (h s X _ _ fun s₁ B₁ k₁ => ?_)
  have X₁ := X.kp k₁ B₁
  cases b with
  | true => exact h₁ rfl s₁ X₁ Q E (X.ahead q k₁)
  | false => exact h₂ rfl s₁ X₁ Q E (X.ahead q k₁)
theorem St.ret {e : Expr} {pos : Pos} {d : D} (h : Ev c (eval e c.env) d) : St c (exec (.Return (some e) pos) c.env) c.ρ (.ret d) := by
  intro s X Q E q
  refine wpAny_Return_some (h s X _ _ fun v s₁ B₁ k₁ r₁ => ?_)
  exact q _ s₁ c.F c.O (X.kp k₁ B₁) (X.kF k₁) (fun b t => .inl t) (.ret r₁)
def stores (env : Env) (x : Str) : Bool := env.kindOf x == some .local || (env.kindOf x == some .cell && (env.cells.lookup x).isSome)
theorem stores_open {env : Env} {x : Str} (h : stores env x = true) : env.kindOf x = some .local ∨ (env.kindOf x = some .cell ∧ (env.cells.lookup x).isSome = true) := by
  unfold stores at h
  simpa only [Bool.or_eq_true, Bool.and_eq_true, beq_iff_eq] using h
theorem St.assign {x : Str} {p pos : Pos} {value : Expr} {d : D} (h : Ev c (eval value c.env) d) (hx : stores c.env x = true) (hs : swapsWith value (some (.Name x p)) pos.line c.env = pure false) :
    St c (exec (.Assign [.Name x p] value pos) c.env) (upd x (.val d) c.ρ) .next := by
  intro s X Q E q
  refine wpAny_Assign_Name (h s X _ _ fun v s₁ B₁ k₁ r₁ => ?_) hs
  refine FrOk.store (X.kp k₁ B₁) (stores_open hx) r₁ fun s₂ X₂ k₂ _ => ?_
  exact X.ahead q k₁ _ s₂ c.F _ X₂ k₂ (fun b t => .inl t) .next
theorem St.pass {pos : Pos} : St c (exec (.Pass pos) c.env) c.ρ .next := fun s X Q E q => wpAny_Pass (q .next s c.F c.O X (.refl s) (fun b h => .inl h) .next)
theorem St.cont {pos : Pos} : St c (exec (.Continue pos) c.env) c.ρ .cont := fun s X Q E q => wpAny_bind (wpAny_standAt (wpAny_pure (q .cont s c.F c.O X (.refl s) (fun b h => .inl h) .cont)))
/- x += e -/
def augD (op : Operator) (a b : D) : Rs D := match op, a, b with
  | .Add, .str x, .str y => chk (x ++ y)
  | .Add, .int a, .int b => ok (.int (a + b))
  | _, _, _ => none
theorem augD_sound {s : Shared} {op : Operator} {a b d : D} {p : Prop} {u v : Value} (e : augD op a b = some (p, d)) (hp : p) (B : Bs c.g s) (ra : Rep c.g c.S s.heap u a) (rb : Rep c.g c.S s.heap v b) : Gives c.g c.A c.S s (inplaceOp op u v) d := by
  unfold augD at e
  split at e <;> (first | (cases e; done) | skip)
  · cases e
    cases ra with | str x t => cases rb with | str y t' =>
    exact fun Q E q => SBL.iadd (fun t' k _ => q _ _ (B.toks k) (Kp.tok s k) (by show Rep c.g _ _ (.str (S? _ ++ S? _) _) _; rw [S?_append]; exact .str _ _)) (by rw [show ∀ z : List Nat, (⟨z.toArray⟩ : Str).length = z.length from S?_length, show ∀ z : List Nat, (⟨z.toArray⟩ : Str).length = z.length from S?_length, ← List.length_append]; exact hp)
  · cases e
    cases ra with | int x t => cases rb with | int y t' => exact .atTok B _ (.int _ _) fun Q E q => P.iadd_int q
theorem Ev.load {x : Str} {d : D} (e : c.ρ.lookup x = some (.val d)) : Ev c (loadName c.env x) d := by
  intro s X Q E q
  obtain ⟨m, hn, hx⟩ := X.at_
  obtain ⟨v, ha, hs⟩ := hx x _ e
  cases hs with
  | val r =>
    have Y := q v s X.bs (.refl s) r
    cases ha with
    | loc hk hv => exact wpAny_loadName_local X.kind hk hn hv Y
    | cell hk hc hv => exact wpAny_loadName_cell X.kind hk hc hv Y
    | free hk hcd hc hv => exact wpAny_loadName_free X.kind hk hc hv Y hcd
theorem St.aug {x : Str} {p pos : Pos} {op : Operator} {value : Expr} {a b d : D} {z : Prop} (h₁ : c.ρ.lookup x = some (.val a)) (h₂ : Ev c (eval value c.env) b) (e : augD op a b = some (z, d)) (hz : z) (hx : stores c.env x = true) :
    St c (exec (.AugAssign (.Name x p) op value pos) c.env) (upd x (.val d) c.ρ) .next := by
  intro s X Q E q
  refine wpAny_AugAssign_Name (Ev.load h₁ s X _ _ fun u s₁ B₁ k₁ r₁ => ?_)
  have X₁ := X.kp k₁ B₁
  refine h₂ s₁ X₁ _ _ fun v s₂ B₂ k₂ r₂ => ?_
  have X₂ := X₁.kp k₂ B₂
  refine augD_sound e hz B₂ (X₁.rep k₂ r₁) r₂ _ _ fun w s₃ B₃ k₃ r₃ => ?_
  have X₃ := X₂.kp k₃ B₃
  refine FrOk.store X₃ (stores_open hx) r₃ fun s₄ X₄ k₄ _ => ?_
  exact X.ahead q ((k₁.trans k₂).trans k₃) _ s₄ c.F _ X₄ k₄ (fun b t => .inl t) .next
/- x = [] : a list of this frame's own -/
theorem St.newlist {x : Str} {p lp pos : Pos} (hx : stores c.env x = true) : St c (exec (.Assign [.Name x p] (.List [] lp) pos) c.env) (upd x (.own (.list [])) c.ρ) .next := by
  intro s X Q E q
  refine wpAny_Assign_Name ?_ rfl
  refine PyProof.Rows.List_ (Calls.spliced_nil (wpAny_newObj_type ?_ (by show (#[] : Array Value).size ≤ sizeLine; exact Nat.zero_le _)))
  have X₁ := FrOk.alloc X { cls := .type "list", data := .seq ([] : List Value).toArray } s.toks
  have hnew := X.bs.new (b := s.heap.objs.size) (Nat.le_refl _)
  have hL : s.heap.objs.size ≠ c.env.locals := Nat.ne_of_gt (X.fS _ X.L)
  have hC : ∀ y cc, c.env.cells.lookup y = some cc → s.heap.objs.size ≠ cc := fun y cc e => Nat.ne_of_gt (X.fS _ (X.cF y cc e).1)
  refine FrOk.put (O₂ := fun y => if y = x then some s.heap.objs.size else c.O y) (sl₀ := .own (.list [])) X₁ (stores_open hx) ?_ (fun y hy b hb => (if_neg hy).trans hb) (.own (if_pos rfl) (.list (vs := []) (n := 0) (Heap.get?_push_size _ rfl) .nil)) fun s₂ X₂ k₂ _ => ?_
  · intro y a h
    dsimp only at h
    split at h
    · rename_i hy
      cases h
      refine ⟨.inr rfl, hnew.1, hL, hC, (fun z hz => ?_), fun t => Nat.lt_irrefl _ (X.tS _ t)⟩
      dsimp only at hz
      split at hz
      · rename_i h2; rw [h2, hy]
      · exact absurd (X.fS _ (X.own z _ hz).1) (Nat.lt_irrefl _)
    · rename_i hy
      obtain ⟨h1, h2, h3, h4, h5⟩ := X.own y a h
      refine ⟨.inl h1, h2, h3, h4, (fun z hz => ?_), h5.2⟩
      dsimp only at hz
      split at hz
      · cases hz; exact absurd (X.fS _ h1) (Nat.lt_irrefl _)
      · exact h5.1 z hz
  · have k₁ : Kp c.F s { s with heap := s.heap.push { cls := .type "list", data := .seq ([] : List Value).toArray } } := Kp.push s _ s.toks
    refine q .next s₂ _ _ X₂ (Kp.of_new ((k₁.weaken fun b t => .inl t).trans (k₂.weaken ?_))) ?_ .next
    · rintro b (t | rfl)
      · exact .inl t
      · exact .inr (Nat.le_refl _)
    · rintro b (t | rfl)
      · exact .inl t
      · exact .inr (Nat.le_refl _)
theorem FrOk.mutate {g : Gd} {env : Env} {Sc F : Addr → Prop} {ρ : Rho} {O : Str → Option Addr} {s : Shared} {x : Str} {a : Addr} {d d' : D} (X : FrOk g env Sc F ρ O s) (ho : O x = some a) (hr : ρ.lookup x = some (.own d)) {h' : Heap} (tk : Nat) (hs : Heap.SameBut a s.heap h')
    (hnew : ∀ v, Owns g (Sx F Sc) s.heap v a d → Owns g (Sx F Sc) h' v a d') : FrOk g env Sc F (upd x (.own d') ρ) O { s with heap := h', toks := tk } ∧ Kp F s { s with heap := h', toks := tk } := by
  obtain ⟨ha, ht, hl, hc, hu⟩ := X.own x a ho
  obtain ⟨n1, n2⟩ := X.nw a ha ht
  obtain ⟨B', k⟩ := X.place ha ht n1 n2 (h' := h') (tk := tk) hs
  obtain ⟨m, hn, hm⟩ := X.at_
  have hat : ∀ y u, At env s.heap m y u → At env h' m y u := fun y u q => q.keep fun z cc o e eo => (hs.2 cc (Ne.symm (hc z cc e))).trans eo
  refine ⟨⟨B', X.kind, X.gl, X.bi, X.tF, fun b t => by rw [hs.1]; exact X.tS b t, fun b t => by rw [hs.1]; exact X.fS b t, X.L, X.own, X.cL, X.lT, X.nw, fun y cc e => ⟨(X.cF y cc e).1, ?_⟩, m, hn.sameBut hs (Ne.symm hl), fun y sl e => ?_⟩, k⟩
  · obtain ⟨v₀, hv⟩ := (X.cF y cc e).2
    exact ⟨v₀, hv.sameBut hs (Ne.symm (hc y cc e))⟩
  · rw [lookup_upd] at e
    split at e
    · rename_i hy
      subst hy
      cases e
      obtain ⟨v, hv, hsl⟩ := hm y _ hr
      cases hsl with
      | own o' r =>
        rw [ho] at o'
        cases o'
        exact ⟨v, hat y v hv, .own ho (hnew v r)⟩
    · rename_i hy
      obtain ⟨v, hv, hsl⟩ := hm y sl e
      refine ⟨v, hat y v hv, hsl.place ha hs fun b hb => ⟨fun h => hy (hu.1 y (h ▸ hb)), hb⟩⟩
theorem FrOk.mutI {g : Gd} {env : Env} {Sc F : Addr → Prop} {ρ : Rho} {O : Str → Option Addr} {s : Shared} {x : Str} {a : Addr} {d d' : D} {w₀ : Value} (X : FrOk g env Sc F ρ O s) (ho : O x = some a) (hr : ρ.lookup x = some (.ini w₀ a d)) {h' : Heap} (tk : Nat) (hs : Heap.SameBut a s.heap h')
    (hnew : Owns g (Sx F Sc) s.heap w₀ a d → Owns g (Sx F Sc) h' w₀ a d') : FrOk g env Sc F (upd x (.ini w₀ a d') ρ) O { s with heap := h', toks := tk } ∧ Kp F s { s with heap := h', toks := tk } := by
  obtain ⟨ha, ht, hl, hc, hu⟩ := X.own x a ho
  obtain ⟨n1, n2⟩ := X.nw a ha ht
  obtain ⟨B', k⟩ := X.place ha ht n1 n2 (h' := h') (tk := tk) hs
  obtain ⟨m, hn, hm⟩ := X.at_
  have hat : ∀ y u, At env s.heap m y u → At env h' m y u := fun y u q => q.keep fun z cc o e eo => (hs.2 cc (Ne.symm (hc z cc e))).trans eo
  refine ⟨⟨B', X.kind, X.gl, X.bi, X.tF, fun b t => by rw [hs.1]; exact X.tS b t, fun b t => by rw [hs.1]; exact X.fS b t, X.L, X.own, X.cL, X.lT, X.nw, fun y cc e => ⟨(X.cF y cc e).1, ?_⟩, m, hn.sameBut hs (Ne.symm hl), fun y sl e => ?_⟩, k⟩
  · obtain ⟨v₀, hv⟩ := (X.cF y cc e).2
    exact ⟨v₀, hv.sameBut hs (Ne.symm (hc y cc e))⟩
  · rw [lookup_upd] at e
    split at e
    · rename_i hy
      subst hy
      cases e
      obtain ⟨v, hv, hsl⟩ := hm y _ hr
      cases hsl with
      | ini o' r =>
        exact ⟨_, hat y _ hv, .ini ho (hnew r)⟩
    · rename_i hy
      obtain ⟨v, hv, hsl⟩ := hm y sl e
      refine ⟨v, hat y v hv, hsl.place ha hs fun b hb => ⟨fun h => hy (hu.1 y (h ▸ hb)), hb⟩⟩
end
end J5
end
section
open PySem PySem.W PySem.W.X PyProof.Rows Builtin
set_option Elab.async false
set_option maxRecDepth 100000
set_option linter.unusedVariables false
namespace J5
section
variable {c : Cx}
/- x.append(e) on an own list -/
theorem St.append {x : Str} {p apos pos spos : Pos} {e : Expr} {ds : List D} {d : D} (hr : c.ρ.lookup x = some (.own (.list ds))) (h : Ev c (eval e c.env) d) (hn : noStar e = true) (hd : (x == ("__debug__" : Str)) = false) (hl : (apos.endLine == pos.line) = true)
    (hi : interactive c.env = false) (hz : ds.length ≤ sizeLine) : St c (exec (.Expr (.Call (.Attribute (.Name x p) "append" apos) [e] [] pos) spos) c.env) (upd x (.own (.list (ds ++ [d]))) c.ρ) .next := by
  intro s X Q E q
  refine wpAny_Expr ?_ hi rfl
  obtain ⟨m, hn', hm⟩ := X.at_
  obtain ⟨v, ha, hs⟩ := hm x _ hr
  cases hs with
  | own ho r =>
    rename_i a
    cases r with
    | list g1 r1 =>
      rename_i vs n
      show wpAny _ _ (do
        let ov ← eval (.Name x p) c.env
        standAt apos.atName
        methodCall (.Name x p) "append" apos pos c.env ov 1 (backTo pos (starEach [e] c.env)) (backToKw pos (keywordEach [] c.env))) _ E s
      have ld : ∀ (Q : Value → Shared → Prop), Q (.ref a) s → wpAny c.g.M c.A (eval (.Name x p) c.env) Q E s := fun Q Y => by
        refine wpAny_Name ?_ hd
        cases ha with
        | loc hk hv => exact wpAny_loadName_local X.kind hk hn' hv Y
        | cell hk hc hv => exact wpAny_loadName_cell X.kind hk hc hv Y
        | free hk hcd hc hv => exact wpAny_loadName_free X.kind hk hc hv Y hcd
      refine wpAny_bind (ld _ (wpAny_bind (wpAny_standAt ?_)))
      have few : methodCallForm 1 (backTo pos (starEach [e] c.env)) (backToKw pos (keywordEach [] c.env)) = true := by
        rw [starEach_cons hn]; rfl
      unfold methodCall
      rw [few]
      refine wpAny_bind (wpAny_holding ?_)
      show wpAny _ _ (getMethod (.ref a) "append" _) _ E s
      refine Calls.getMethod_list_append g1 rfl rfl ?_
      dsimp only
      have hp : methodCallPos true (.Name x p) c.env apos pos = pure pos := by
        unfold methodCallPos
        rw [hl]; rfl
      rw [hp]
      refine wpAny_bind (wpAny_pure ?_)
      refine callWith_of (P := fun _ => True) (by rw [starEach_cons hn]; rfl) (fun _ _ => ⟨.machine, .inr (.inl rfl), .now⟩) ?_
      refine evalArgs_R (by rw [starEach_cons hn]; rfl) rfl ?_
      refine Evs.cons hn h Evs.nil s X _ _ fun us s₁ B₁ k₁ r₂ => ?_
      have X₁ := X.kp k₁ B₁
      refine wpAny_evalAll_nil ⟨trivial, ?_⟩
      cases r₂ with
      | cons ru rn =>
        cases rn
        rename_i u
        show wpAny _ _ (call (.builtin "list.append") [.ref a, u]) _ E s₁
        obtain ⟨m₁, hn₁, hm₁⟩ := X₁.at_
        obtain ⟨v₁, ha₁, hs₁⟩ := hm₁ x _ hr
        cases hs₁ with
        | own ho₁ r₁ =>
          rw [ho] at ho₁
          cases ho₁
          cases r₁ with
          | list g2 rr =>
            rename_i vs₁ n₁
            have hlen := rr.length
            refine wpAny_list_append_plain (items := vs₁.toArray) ⟨_, g2⟩ (fun h' hpl hs => ?_) (by rw [List.size_toArray, hlen]; exact hz)
            obtain ⟨n₂, g3⟩ := hpl
            have hk : ∀ b o, ¬ c.S b → s₁.heap.get? b = some o → h'.get? b = some o := fun b o nb eo => (hs.2 b fun q' => nb (.inl (q' ▸ (X.own x a ho).1))).trans eo
            have Y := FrOk.mutate (d' := .list (ds ++ [d])) X₁ ho hr s₁.toks hs fun w rw_ => by
              cases rw_ with
              | list g4 r4 =>
                rw [g2] at g4
                cases g4
                refine .list (vs := vs₁ ++ [u]) (n := n₂) (by rw [g3]; simp) ?_
                exact ((rr.mono hk fun _ _ q => q).append (.cons (ru.mono hk fun _ _ q => q) .nil))
            exact X.ahead q k₁ .next _ c.F c.O Y.1 Y.2 (fun b t => .inl t) .next
end
end J5
end
section
open PySem PySem.W PySem.W.X PyProof.Rows Builtin
set_option Elab.async false
set_option maxRecDepth 100000
set_option linter.unusedVariables false
namespace J5
section
variable {g : Gd} {env : Env} {Sc F : Addr → Prop} {ρ : Rho} {O : Str → Option Addr} {s s' : Shared}
/- new places that something around the body changes -/
theorem FrOk.grow (X : FrOk g env Sc F ρ O s) (k : Kp g.Tb s s') (B : Bs g s') {W : Addr → Prop} (hW : ∀ b, W b → s.heap.objs.size ≤ b ∧ b < s'.heap.objs.size) : FrOk g env (fun b => Sc b ∨ W b) F ρ O s' := by
  have X' := X.kp k B
  obtain ⟨m, hn, hm⟩ := X.at_
  refine ⟨B, X.kind, X.gl, X.bi, X.tF, ?_, X'.fS, X.L, (fun x a h => let ⟨h1, h2, h3, h4, h5, h6⟩ := X.own x a h; ⟨h1, h2, h3, h4, h5, fun t => t.elim h6 fun w => Nat.lt_irrefl _ (Nat.lt_of_lt_of_le (X.fS _ h1) (hW _ w).1)⟩), X.cL, X.lT, X.nw, X'.cF, m, Heap.Ns.keepAt hn fun o e => k.heap _ o X.lT e, fun x sl e => ?_⟩
  · rintro b (t | t)
    · exact X'.tS b t
    · exact (hW b t).2
  · obtain ⟨v, a, b⟩ := hm x sl e
    refine ⟨v, a.keep fun y c o h e => k.heap c o (X.cL y c h).2.1 e, ?_⟩
    have hk : ∀ b o, ¬ Sx F Sc b → s.heap.get? b = some o → s'.heap.get? b = some o := fun b o n e => k.heap b o (fun t => n (.inl (X.tF b t))) e
    have hS : ∀ b, b < s.heap.objs.size → Sx F (fun b => Sc b ∨ W b) b → Sx F Sc b := by
      rintro b hb (t | t | t)
      · exact .inl t
      · exact .inr t
      · exact absurd hb (Nat.not_lt.mpr (hW b t).1)
    cases b with
    | val r => exact .val (r.mono hk hS)
    | own o r => exact .own o (r.mono hk hS fun ob e => k.heap _ ob (X.own _ _ o).2.1 e)
    | ini o r => exact .ini o (r.mono hk hS fun ob e => k.heap _ ob (X.own _ _ o).2.1 e)
theorem FrOk.dropS (X : FrOk g env Sc F ρ O s) {Sc' : Addr → Prop} (h : ∀ b, Sc' b → Sc b) : FrOk g env Sc' F ρ O s := by
  obtain ⟨m, hn, hm⟩ := X.at_
  refine ⟨X.bs, X.kind, X.gl, X.bi, X.tF, fun b t => X.tS b (h b t), X.fS, X.L, (fun x a ho => let ⟨h1, h2, h3, h4, h5, h6⟩ := X.own x a ho; ⟨h1, h2, h3, h4, h5, fun t => h6 (h _ t)⟩), X.cL, X.lT, X.nw, X.cF, m, hn, fun x sl e => ?_⟩
  obtain ⟨v, a, b⟩ := hm x sl e
  have hS : ∀ b, b < s.heap.objs.size → Sx F Sc' b → Sx F Sc b := fun b _ t => t.imp id (h b)
  refine ⟨v, a, ?_⟩
  cases b with
  | val r => exact .val (r.mono (fun _ _ _ e => e) hS)
  | own o r => exact .own o (r.mono (fun _ _ _ e => e) hS fun _ e => e)
  | ini o r => exact .ini o (r.mono (fun _ _ _ e => e) hS fun _ e => e)
/- what is around the body steps on -/
theorem FrOk.around (X : FrOk g env Sc F ρ O s) {W : Addr → Prop} (k : Kp W s s') (hb : AllBare s'.gens) (hW : ∀ b, W b → Sc b ∧ ¬ F b ∧ (∀ o, g.h₀.get? b = some o → False) ∧ ∀ c P, (c, P) ∈ g.T → c ≠ b ∧ P ≠ b) : FrOk g env Sc F ρ O s' := by
  obtain ⟨m, hn, hm⟩ := X.at_
  have nF : ∀ b, F b → ¬ W b := fun b f w => (hW b w).2.1 f
  have B' : Bs g s' := X.bs.kp k (fun b o w e => (hW b w).2.2.1 o e) (fun c P m => ⟨fun w => ((hW _ w).2.2.2 c P m).1 rfl, fun w => ((hW _ w).2.2.2 c P m).2 rfl⟩) hb
  refine ⟨B', X.kind, X.gl, X.bi, X.tF, fun b t => Nat.lt_of_lt_of_le (X.tS b t) k.size, fun b t => Nat.lt_of_lt_of_le (X.fS b t) k.size, X.L, X.own, X.cL, X.lT, X.nw,
    fun y c e => ⟨(X.cF y c e).1, let ⟨v₀, o, p, q⟩ := (X.cF y c e).2; ⟨v₀, o, k.heap _ _ (nF _ (X.cF y c e).1) p, q⟩⟩, m, Heap.Ns.keepAt hn fun o e => k.heap _ o (nF _ X.L) e, fun x sl e => ?_⟩
  obtain ⟨v, a, b⟩ := hm x sl e
  refine ⟨v, a.keep fun y c o h e => k.heap c o (nF _ (X.cF y c h).1) e, ?_⟩
  have hk : ∀ b o, ¬ Sx F Sc b → s.heap.get? b = some o → s'.heap.get? b = some o := fun b o n e => k.heap b o (fun w => n (.inr (hW b w).1)) e
  cases b with
  | val r => exact .val (r.mono hk fun _ _ q => q)
  | own o r => exact .own o (r.mono hk (fun _ _ q => q) fun ob e => k.heap _ ob (nF _ (X.own _ _ o).1) e)
  | ini o r => exact .ini o (r.mono hk (fun _ _ q => q) fun ob e => k.heap _ ob (nF _ (X.own _ _ o).1) e)
end
section
variable {c : Cx}
/- going through u gives ds -/
def Iters (c : Cx) (s : Shared) (u : Value) (ds : List D) : Prop :=
  ∀ (Q : Value → Shared → Prop) (E : Value → Shared → Prop), (∀ I fp wr P St s', Bs c.g s' → Kp c.g.Tb s s' → Walks c.g.prog c.g.w c.A I fp wr ds.length P St → St 0 s'.heap → (∀ b ∈ fp, b < s'.heap.objs.size ∧ ¬ c.S b) → (∀ b ∈ wr, s.heap.objs.size ≤ b) →
    (∀ i v d, ds[i]? = some d → P i v → Rep c.g c.S s.heap v d) → Q (.ref I) s') → wpAny c.g.M c.A (pyIter u) Q E s
theorem St.for {x : Str} {p pos : Pos} {iter : Expr} {body : List Stmt} {a : D} {ds : List D} (ρs : Nat → Rho) (h : Ev c (eval iter c.env) a) (hit : ∀ s u, c.At s → Rep c.g c.S s.heap u a → Iters c s u ds) (hx : stores c.env x = true) (h0 : ρs 0 = c.ρ)
    (turn : ∀ i d, ds[i]? = some d → ∀ F' O' Sc', ∃ fl, (fl = .next ∨ fl = .cont) ∧ St ⟨c.g, c.A, c.env, Sc', F', upd x (.val d) (ρs i), O'⟩ (execs body c.env) (ρs (i + 1)) fl)
    (hs : ∀ v, foldedSetIterable iter c.env v = pure v) : St c (exec (.For (.Name x p) iter body [] pos) c.env) (ρs ds.length) .next := by
  intro s X Q E q
  rw [exec_For]
  refine wpAny_bind (wpAny_standAt ?_)
  refine wpAny_bind (h s X _ _ fun u s₁ B₁ k₁ r₁ => ?_)
  have X₁ := X.kp k₁ B₁
  refine wpAny_bind (wpAny_of_eq (hs u) (wpAny_bind (wpAny_standAt (wpAny_bind (wpAny_holding ?_)))))
  refine hit s₁ u X₁ r₁ _ _ fun I fp wr P St' s₂ B₂ k₂ W st hfp hwr hit' => ?_
  have hwfp : ∀ b ∈ wr, b ∈ fp := W.sub
  have X₂ := FrOk.grow X₁ k₂ B₂ (W := fun b => b ∈ wr) fun b hb => ⟨hwr b hb, (hfp b (hwfp b hb)).1⟩
  refine wpAny_runOwn ?_
  refine codeAny_forLoop (fun k s' => ∃ i F' O', k = ds.length + 1 - i ∧ i ≤ ds.length ∧ FrOk c.g c.env (fun b => c.Sc b ∨ b ∈ wr) F' (ρs i) O' s' ∧ St' i s'.heap ∧ Kp (fun b => c.F b ∨ b ∈ wr ∨ s₂.heap.objs.size ≤ b) s₂ s' ∧ (∀ b, F' b → c.F b ∨ s₂.heap.objs.size ≤ b)) ?_ (ds.length + 1)
    ⟨0, c.F, c.O, rfl, Nat.zero_le _, by rw [h0]; exact X₂, st, .refl _, fun b t => .inl t⟩
  rintro k s' ⟨i, F', O', rfl, hi, X', st', kk, hF⟩
  have hWF : ∀ b, b ∈ wr → ¬ F' b := by
    intro b hb t
    rcases hF b t with t | t
    · exact (hfp b (hwfp b hb)).2 (.inl t)
    · exact absurd (hfp b (hwfp b hb)).1 (Nat.not_lt.mpr t)
  have hW : ∀ b, b ∈ wr → (c.Sc b ∨ b ∈ wr) ∧ ¬ F' b ∧ (∀ o, c.g.h₀.get? b = some o → False) ∧ ∀ cc P, (cc, P) ∈ c.g.T → cc ≠ b ∧ P ≠ b := by
    intro b hb
    obtain ⟨n1, n2, n3⟩ := B₁.new (hwr b hb)
    exact ⟨.inr hb, hWF b hb, n2, fun cc P m => ⟨n3 cc P m, fun e => n1 (e ▸ ⟨cc, m⟩)⟩⟩
  have hs12 := k₂.size
  have hs2' := kk.size
  have wk : ∀ b, F' b → c.F b ∨ b ∈ wr ∨ s₂.heap.objs.size ≤ b := fun b t => (hF b t).imp id .inr
  have fpF : ∀ b ∈ fp, ¬ F' b := by
    intro b hb t
    rcases hF b t with t | t
    · exact (hfp b hb).2 (.inl t)
    · exact absurd (hfp b hb).1 (Nat.not_lt.mpr t)
  by_cases hlt : i < ds.length
  · refine with_size (W.item i s' _ _ hlt st' fun v h' tk hP st'' hk hsz => ?_)
    have kW : Kp (fun b => b ∈ wr) s' { s' with heap := h', toks := tk } := ⟨fun b o n e => hk b o n e, hsz, fun _ _ e => e, rfl⟩
    have X'' := FrOk.around X' kW X'.bs.bare hW
    obtain ⟨d, hd⟩ : ∃ d, ds[i]? = some d := ⟨ds[i], List.getElem?_eq_getElem hlt⟩
    have rv := hit' i v d hd hP
    have rv'' : Rep c.g (Sx F' (fun b => c.Sc b ∨ b ∈ wr)) h' v d := by
      refine rv.mono (fun b o nb e => ?_) ?_
      · have hb := Heap.lt_size e
        have nw : b ∉ wr := fun h => absurd hb (Nat.not_lt.mpr (hwr b h))
        refine hk b o nw (kk.heap b o ?_ (k₂.heap b o (fun t => nb (.inl (X.tF b t))) e))
        rintro (t | t | t)
        · exact nb (.inl t)
        · exact nw t
        · exact absurd hb (Nat.not_lt.mpr (Nat.le_trans k₂.size t))
      · rintro b hb (t | t | t)
        · rcases hF b t with t | t
          · exact .inl t
          · exact absurd hb (Nat.not_lt.mpr (Nat.le_trans k₂.size t))
        · exact .inr t
        · exact absurd hb (Nat.not_lt.mpr (hwr b t))
    refine wpAny_assign_Name (FrOk.store X'' (stores_open hx) rv'' fun s₄ X₄ k₄ hsz4 => ?_)
    obtain ⟨fl, hfl, hb⟩ := turn i d hd F' (dropO x O') (fun b => c.Sc b ∨ b ∈ wr)
    refine hb s₄ X₄ _ _ fun f s₅ F₅ O₅ X₅ k₅ g₅ r₅ => ?_
    have inv : ∃ m, m < ds.length + 1 - i ∧ ∃ i F' O', m = ds.length + 1 - i ∧ i ≤ ds.length ∧ FrOk c.g c.env (fun b => c.Sc b ∨ b ∈ wr) F' (ρs i) O' s₅ ∧ St' i s₅.heap ∧ Kp (fun b => c.F b ∨ b ∈ wr ∨ s₂.heap.objs.size ≤ b) s₂ s₅ ∧ (∀ b, F' b → c.F b ∨ s₂.heap.objs.size ≤ b) := by
      refine ⟨ds.length + 1 - (i + 1), by omega, i + 1, F₅, O₅, rfl, hlt, X₅, ?_, ?_, ?_⟩
      · exact W.frame (i + 1) h' s₅.heap st'' fun b hb o e => k₅.heap b o (fpF b hb) (k₄.heap b o (fpF b hb) e)
      · exact ((kk.trans (kW.weaken fun b t => .inr (.inl t))).trans (k₄.weaken wk)).trans (k₅.weaken wk)
      · intro b t
        rcases g₅ b t with t | t
        · exact hF b t
        · exact .inr (Nat.le_trans (Nat.le_trans hs2' (Nat.le_trans hsz hsz4)) t)
    rcases hfl with rfl | rfl <;> cases r₅ <;> exact inv
  · have hin : i = ds.length := by omega
    subst hin
    refine with_size (W.done s' _ _ st' fun h' tk hk hsz => ?_)
    have kW : Kp (fun b => b ∈ wr) s' { s' with heap := h', toks := tk } := ⟨fun b o n e => hk b o n e, hsz, fun _ _ e => e, rfl⟩
    have X'' := FrOk.around X' kW X'.bs.bare hW
    have X3 := X''.dropS (Sc' := c.Sc) fun b t => .inl t
    refine wpAny_execs_nil (q .next _ F' O' X3 ?_ ?_ .next)
    · refine Kp.of_new ?_
      have a1 : Kp (fun b => c.F b ∨ s.heap.objs.size ≤ b) s s₂ := (k₁.trans k₂).weaken fun b t => .inl (X.tF b t)
      have a2 : ∀ b, (c.F b ∨ b ∈ wr ∨ s₂.heap.objs.size ≤ b) → c.F b ∨ s.heap.objs.size ≤ b := by
        rintro b (t | t | t)
        · exact .inl t
        · exact .inr (Nat.le_trans k₁.size (hwr b t))
        · exact .inr (Nat.le_trans (Nat.le_trans k₁.size k₂.size) t)
      exact (a1.trans (kk.weaken a2)).trans (kW.weaken fun b t => a2 b (.inr (.inl t)))
    · intro b t
      rcases hF b t with t | t
      · exact .inl t
      · exact .inr (Nat.le_trans (Nat.le_trans k₁.size k₂.size) t)
end
end J5
end
section
open PySem PySem.W PySem.W.X PyProof.Rows Builtin
set_option Elab.async false
set_option maxRecDepth 100000
set_option linter.unusedVariables false
namespace J5
section
variable {c : Cx}
theorem Reps.at {g : Gd} {S : Addr → Prop} {h : Heap} : ∀ {vs : List Value} {ds : List D}, Reps g S h vs ds → ∀ {k : Nat} {v : Value} {d : D}, vs[k]? = some v → ds[k]? = some d → Rep g S h v d
  | _, _, .nil, _, _, _, e, _ => by cases e
  | _, _, .cons a b, 0, _, _, e, e' => by cases e; cases e'; exact a
  | _, _, .cons a b, k + 1, _, _, e, e' => b.at (k := k) e e'
theorem Iters.list {s : Shared} {u : Value} {ds : List D} (X : c.At s) (hh : c.A.handled = none) (r : Rep c.g c.S s.heap u (.list ds)) : Iters c s u ds := by
  intro Q E q
  cases r with
  | list n1 g1 rr =>
    rename_i a vs n
    have hl : s.heap.IsList a vs.toArray := isList_of g1
    have hlt : a < s.heap.objs.size := Heap.lt_size g1
    refine wpAny_pyIter_list hl ?_
    have hsz : vs.toArray.size = ds.length := by rw [List.size_toArray]; exact rr.length
    refine q s.heap.objs.size [s.heap.objs.size, a] [s.heap.objs.size] _ _ _ (X.push _) (Kp.push s _ s.toks) (hsz ▸ Walks.list hh _ _ (Nat.ne_of_lt hlt) vs.toArray) ⟨⟨_, Heap.get?_push_size _ rfl, rfl, rfl⟩, hl.push _⟩ ?_ ?_ ?_
    · intro b hb
      rcases List.mem_cons.mp hb with rfl | hb
      · exact ⟨by show _ < (s.heap.push _).objs.size; rw [Heap.size_push]; exact Nat.lt_succ_self _, X.new⟩
      · rw [List.mem_singleton.mp hb]
        exact ⟨by show _ < (s.heap.push _).objs.size; rw [Heap.size_push]; exact Nat.lt_succ_of_lt hlt, n1⟩
    · intro b hb; rw [List.mem_singleton.mp hb]; exact Nat.le_refl _
    · intro i v d hd hP
      exact rr.at (by simpa using hP) hd
theorem Iters.str {s : Shared} {u : Value} {x : List Nat} (X : c.At s) (hh : c.A.handled = none) (r : Rep c.g c.S s.heap u (.str x)) : Iters c s u (x.map fun n => .str [n]) := by
  intro Q E q
  cases r with
  | str _ t =>
    refine wpAny_pyIter_str fun o St W st => ?_
    have hsz : (⟨x.toArray⟩ : Str).cps.size = (x.map fun n => D.str [n]).length := by simp
    refine q s.heap.objs.size [s.heap.objs.size] [s.heap.objs.size] _ _ _ (X.push _) (Kp.push s _ s.toks) (hsz ▸ W c.A hh) st ?_ ?_ ?_
    · intro b hb
      rw [List.mem_singleton.mp hb]
      exact ⟨by show _ < (s.heap.push _).objs.size; rw [Heap.size_push]; exact Nat.lt_succ_self _, X.new⟩
    · intro b hb; rw [List.mem_singleton.mp hb]; exact Nat.le_refl _
    · rintro i v d hd ⟨cc, uu, hc, rfl⟩
      rw [List.getElem?_map] at hd
      have hc' : x[i]? = some cc := by simpa using hc
      rw [hc'] at hd
      cases hd
      exact .str [cc] uu
end
end J5
end
section
open PySem PySem.W PySem.W.X PyProof.Rows Builtin
set_option Elab.async false
set_option maxRecDepth 100000
set_option linter.unusedVariables false
namespace J5
/- contracts of builtins -/
theorem CallOk.ord {g : Gd} {x : Nat} : CallOk g 1 (.builtin "ord") [.str [x]] [] [] (.int x) := by
  intro A S s vs kvs R B hS hz ra rk
  cases ra with
  | cons r rn =>
    cases rn; cases rk
    cases r with
    | str _ t => exact .atTok B _ (.int _ _) fun Q E q => P.ord_of_char q
theorem CallOk.len_str {g : Gd} {x : List Nat} (h : x.length ≤ sizeLine) : CallOk g 1 (.builtin "len") [.str x] [] [] (.int x.length) := by
  intro A S s vs kvs R B hS hz ra rk
  cases ra with
  | cons r rn =>
    cases rn; cases rk
    cases r with
    | str _ t =>
      refine .atTok B (s.toks + 1 + 1) (v := .int (S? x).length (s.toks + 1)) (by rw [S?_length]; exact .int _ _) fun Q E q => P.len_str ?_ q
      have := line_fits h
      show ¬ (((S? x).length : Nat) : Int) ≥ 2 ^ 63
      rw [S?_length]; omega
theorem CallOk.len_list {g : Gd} {ds : List D} (h : ds.length ≤ sizeLine) : CallOk g 1 (.builtin "len") [.list ds] [] [] (.int ds.length) := by
  intro A S s vs kvs R B hS hz ra rk
  cases ra with
  | cons r rn =>
    cases rn; cases rk
    cases r with
    | list n1 g1 rr =>
      have hl := rr.length
      refine .atTok B (s.toks + 1 + 1) (v := .int (((_ : List Value).toArray.size : Nat) : Int) (s.toks + 1)) (by rw [List.size_toArray, hl]; exact .int _ _) fun Q E q => Calls.call_len_list (isList_of g1) (by rw [List.size_toArray, hl]; exact line_fits h) q
end J5
end
section
open PySem PySem.W PySem.W.X PyProof.Rows Builtin
set_option Elab.async false
set_option maxRecDepth 100000
set_option linter.unusedVariables false
namespace J5
def joinL (sep : List Nat) : List (List Nat) → List Nat
  | [] => []
  | [x] => x
  | x :: y :: r => x ++ sep ++ joinL sep (y :: r)
theorem strs_of {g : Gd} {S : Addr → Prop} {h : Heap} : ∀ {vs : List Value} {xs : List (List Nat)}, Reps g S h vs (xs.map .str) → StrsAre vs (xs.map S?)
  | _, [], .nil => .nil
  | _, x :: xs, .cons (.str _ t) b => .cons (S? x) t (strs_of b)
theorem Mth.join {c : Cx} {x : List Nat} : Mth c (.str x) "join" (.builtin "str.join") := by
  intro s X u r pl Q E q
  cases r with
  | str _ t => exact GM.join q
theorem join_L (sep : List Nat) : ∀ xs : List (List Nat), Str.join (S? sep) (xs.map S?) = S? (joinL sep xs)
  | [] => rfl
  | [x] => rfl
  | x :: y :: r => by
    have ih := join_L sep (y :: r)
    show S? x ++ S? sep ++ Str.join (S? sep) ((y :: r).map S?) = S? (x ++ sep ++ joinL sep (y :: r))
    rw [ih, S?_append, S?_append]
theorem CallOk.join {g : Gd} {sep : List Nat} {xs : List (List Nat)} (h : (xs.map List.length).sum + xs.length * sep.length ≤ sizeLine) : CallOk g 1 (.builtin "str.join") [.str sep, .list (xs.map .str)] [] [] (.str (joinL sep xs)) := by
  intro A S s vs kvs R B hS hz ra rk
  cases ra with
  | cons r rn =>
    cases rn with
    | cons r2 rn =>
      cases rn; cases rk
      cases r with
      | str _ t =>
        cases r2 with
        | list n1 g1 rr =>
          intro Q E q
          refine join_list (isList_of g1) (strs_of rr) ?_ fun t' k => ?_
          · have e1 : ((xs.map S?).map (·.length)).sum = (xs.map List.length).sum := by
              rw [List.map_map]; congr 1
            have e2 : (⟨sep.toArray⟩ : Str).length = sep.length := S?_length sep
            rw [e1, e2, List.length_map]
            exact h
          · have e3 : Txt.join (⟨sep.toArray⟩ : Str) (xs.map S?) = S? (joinL sep xs) := (StrLaws.glued_eq_join _ _).trans (join_L sep xs)
            rw [e3]
            exact q _ _ (B.toks k) (Kp.tok s k) (.str _ t')
end J5
end
section
open PySem PySem.W PySem.W.X PyProof.Rows Builtin
set_option Elab.async false
set_option maxRecDepth 100000
set_option linter.unusedVariables false
namespace J5
section
variable {c : Cx}
theorem Iters.tuple {s : Shared} {u : Value} {ds : List D} (X : c.At s) (hh : c.A.handled = none) (r : Rep c.g c.S s.heap u (.tup ds)) : Iters c s u ds := by
  intro Q E q
  cases r with
  | tup n1 g1 rr =>
    rename_i a vs
    have hl : s.heap.IsTuple a vs.toArray := ⟨_, g1, rfl, _, rfl⟩
    have hlt : a < s.heap.objs.size := Heap.lt_size g1
    refine wpAny_pyIter_tuple hl ?_
    have hsz : vs.toArray.size = ds.length := by rw [List.size_toArray]; exact rr.length
    refine q s.heap.objs.size [s.heap.objs.size, a] [s.heap.objs.size] _ _ _ (X.push _) (Kp.push s _ s.toks) (hsz ▸ Walks.tuple hh _ _ (Nat.ne_of_lt hlt) vs.toArray) ⟨⟨_, Heap.get?_push_size _ rfl, rfl, rfl⟩, ⟨_, Heap.get?_push_of_some _ g1, rfl, _, rfl⟩⟩ ?_ ?_ ?_
    · intro b hb
      rcases List.mem_cons.mp hb with rfl | hb
      · exact ⟨by show _ < (s.heap.push _).objs.size; rw [Heap.size_push]; exact Nat.lt_succ_self _, X.new⟩
      · rw [List.mem_singleton.mp hb]
        exact ⟨by show _ < (s.heap.push _).objs.size; rw [Heap.size_push]; exact Nat.lt_succ_of_lt hlt, n1⟩
    · intro b hb; rw [List.mem_singleton.mp hb]; exact Nat.le_refl _
    · intro i v d hd hP
      exact rr.at (by simpa using hP) hd
/- keys of a dict: texts -/
theorem keyRep {g : Gd} {S : Addr → Prop} {h : Heap} {kvs : List (Str × Value)} {ks : List D} (e : kvs.map (fun p => some p.1) = ks.map kyD) {i : Nat} {k : Str} {x v : Value} {d : D} (hk : kvs[i]? = some (k, x)) (hd : ks[i]? = some d) (hv : g.kd.is k v = true) : Rep g S h v d := by
  have e1 : (kvs.map (fun p => some p.1))[i]? = (ks.map kyD)[i]? := by rw [e]
  rw [List.getElem?_map, List.getElem?_map, hk, hd] at e1
  simp only [Option.map_some, Option.some.injEq] at e1
  obtain ⟨t, rfl⟩ := Value.isStrOf_shape (show Value.isStrOf k v = true from hv)
  cases d <;> (first | (cases e1; done) | skip)
  rename_i y
  have : k = ⟨y.toArray⟩ := by cases e1; rfl
  subst this
  exact .str y t
theorem Iters.dict {s : Shared} {u : Value} {ks vs : List D} (X : c.At s) (hh : c.A.handled = none) (r : Rep c.g c.S s.heap u (.dict ks vs)) : Iters c s u ks := by
  intro Q E q
  cases r with
  | dict n1 n2 h1 h2 rr =>
    rename_i a kvs
    obtain ⟨ep, hm⟩ := h1.dictAt
    have hlt := DictOf.lt h1
    refine wpAny_pyIter_dict n2 hm ?_
    have hsz : kvs.length = ks.length := by have := congrArg List.length h2; simpa using this
    refine q s.heap.objs.size [s.heap.objs.size, a] [s.heap.objs.size] _ _ _ (X.push _) (Kp.push s _ s.toks) (Eq.mp (congrArg (fun n => Walks c.g.prog c.g.w c.A _ _ _ n _ _) hsz) (Walks.dictKeys hh _ _ (Nat.ne_of_lt hlt) kvs ep)) ⟨⟨_, Heap.get?_push_size _ rfl, rfl, rfl⟩, hm.at' fun o e => Heap.get?_push_of_some _ e⟩ ?_ ?_ ?_
    · intro b hb
      rcases List.mem_cons.mp hb with rfl | hb
      · exact ⟨by show _ < (s.heap.push _).objs.size; rw [Heap.size_push]; exact Nat.lt_succ_self _, X.new⟩
      · rw [List.mem_singleton.mp hb]
        exact ⟨by show _ < (s.heap.push _).objs.size; rw [Heap.size_push]; exact Nat.lt_succ_of_lt hlt, n1⟩
    · intro b hb; rw [List.mem_singleton.mp hb]; exact Nat.le_refl _
    · rintro i v d hd ⟨k, x, hk, hv⟩
      exact keyRep h2 hk hd hv
end
end J5
end
section
open PySem PySem.W PySem.W.X PyProof.Rows Builtin
set_option Elab.async false
set_option maxRecDepth 100000
set_option linter.unusedVariables false
namespace J5
/- the class of a value, by name -/
def tyD : D → Option String
  | .none => some "NoneType"
  | .bool _ => some "bool"
  | .int _ => some "int"
  | .str _ => some "str"
  | .tup _ => some "tuple"
  | .list _ => some "list"
  | .dict _ _ => some "dict"
  | .set _ => some "set"
  | _ => none
theorem tyD_sound {g : Gd} {S : Addr → Prop} {s : Shared} {u : Value} {d : D} {T : String} (e : tyD d = some T) (r : Rep g S s.heap u d) : s.TypeIs u T := by
  cases r <;> cases e
  · rfl
  · rfl
  · rfl
  · rfl
  · exact (isTup_of (by assumption)).typeIs
  · exact (isList_of (by assumption)).typeIs
  · exact ⟨_, by assumption, rfl⟩
  · exact Heap.DictOf.typeIs (by assumption)
theorem CallOk.isi_true {g : Gd} {d : D} {Tx T : String} (e : tyD d = some Tx) (hty : typeOf (.type T) = pure (.type "type")) (hsub : isSubtype (.type Tx) (.type T) = pure true) : CallOk g 1 (.builtin "isinstance") [d, .at (.type T)] [] [] (.bool true) := by
  intro A S s vs kvs R B hS hz ra rk
  cases ra with
  | cons r rn =>
    cases rn with
    | cons r2 rn =>
      cases rn; cases rk
      cases r2
      exact .same B (.bool true) fun Q E q => call_isinstance (isinstance_true hty hsub) ⟨tyD_sound e r, q⟩
theorem CallOk.isi_false {g : Gd} {d : D} {Tx T : String} (e : tyD d = some Tx) (hne : (Value.type Tx == Value.type T) = false) (hty : typeOf (.type T) = pure (.type "type")) (hsub : isSubtype (.type Tx) (.type T) = pure false) : CallOk g 1 (.builtin "isinstance") [d, .at (.type T)] [] [] (.bool false) := by
  intro A S s vs kvs R B hS hz ra rk
  cases ra with
  | cons r rn =>
    cases rn with
    | cons r2 rn =>
      cases rn; cases rk
      cases r2
      have ht := tyD_sound e r
      cases r <;> cases e
      · exact .atTok B _ (.bool false) fun Q E q => call_isinstance (isinstance_false_none hne hty hsub) q
      · exact .atTok B _ (.bool false) fun Q E q => call_isinstance (isinstance_false_bool hne hty hsub) q
      · exact .atTok B _ (.bool false) fun Q E q => call_isinstance (isinstance_false_int hne hty hsub) q
      · exact .atTok B _ (.bool false) fun Q E q => call_isinstance (isinstance_false_str hne hty hsub) q
      · exact .atTok B _ (.bool false) fun Q E q => call_isinstance (isinstance_false_tuple hne hty hsub) ⟨ht, q⟩
      · exact .atTok B _ (.bool false) fun Q E q => call_isinstance (isinstance_false_list hne hty hsub) ⟨ht, q⟩
      · exact .atTok B _ (.bool false) fun Q E q => call_isinstance (isinstance_false_set hne hty hsub) ⟨ht, q⟩
      · exact .atTok B _ (.bool false) fun Q E q => call_isinstance (isinstance_false_dict hne hty hsub) ⟨ht, q⟩
end J5
end
section
open PySem PySem.W PySem.W.X PyProof.Rows Builtin
set_option Elab.async false
set_option maxRecDepth 100000
set_option linter.unusedVariables false
namespace J5
section
variable {c : Cx}
theorem St.forRet {x : Str} {p pos : Pos} {iter : Expr} {body : List Stmt} {a d₀ d₁ : D} {ds : List D} {ρr : Rho} (k₀ : Nat) (ρs : Nat → Rho) (h : Ev c (eval iter c.env) a) (hit : ∀ s u, c.At s → Rep c.g c.S s.heap u a → Iters c s u ds) (hx : stores c.env x = true) (h0 : ρs 0 = c.ρ)
    (turn : ∀ i d, i < k₀ → ds[i]? = some d → ∀ F' O' Sc', ∃ fl, (fl = .next ∨ fl = .cont) ∧ St ⟨c.g, c.A, c.env, Sc', F', upd x (.val d) (ρs i), O'⟩ (execs body c.env) (ρs (i + 1)) fl)
    (hd₁ : ds[k₀]? = some d₁) (last : ∀ F' O' Sc', St ⟨c.g, c.A, c.env, Sc', F', upd x (.val d₁) (ρs k₀), O'⟩ (execs body c.env) ρr (.ret d₀))
    (hs : ∀ v, foldedSetIterable iter c.env v = pure v) : St c (exec (.For (.Name x p) iter body [] pos) c.env) ρr (.ret d₀) := by
  intro s X Q E q
  rw [exec_For]
  refine wpAny_bind (wpAny_standAt ?_)
  refine wpAny_bind (h s X _ _ fun u s₁ B₁ k₁ r₁ => ?_)
  have X₁ := X.kp k₁ B₁
  refine wpAny_bind (wpAny_of_eq (hs u) (wpAny_bind (wpAny_standAt (wpAny_bind (wpAny_holding ?_)))))
  refine hit s₁ u X₁ r₁ _ _ fun I fp wr P St' s₂ B₂ k₂ W st hfp hwr hit' => ?_
  have hwfp : ∀ b ∈ wr, b ∈ fp := W.sub
  have X₂ := FrOk.grow X₁ k₂ B₂ (W := fun b => b ∈ wr) fun b hb => ⟨hwr b hb, (hfp b (hwfp b hb)).1⟩
  refine wpAny_runOwn ?_
  refine codeAny_forLoop (fun k s' => ∃ i F' O', k = ds.length + 1 - i ∧ i ≤ k₀ ∧ FrOk c.g c.env (fun b => c.Sc b ∨ b ∈ wr) F' (ρs i) O' s' ∧ St' i s'.heap ∧ Kp (fun b => c.F b ∨ b ∈ wr ∨ s₂.heap.objs.size ≤ b) s₂ s' ∧ (∀ b, F' b → c.F b ∨ s₂.heap.objs.size ≤ b)) ?_ (ds.length + 1)
    ⟨0, c.F, c.O, rfl, Nat.zero_le _, by rw [h0]; exact X₂, st, .refl _, fun b t => .inl t⟩
  rintro k s' ⟨i, F', O', rfl, hi, X', st', kk, hF⟩
  have hWF : ∀ b, b ∈ wr → ¬ F' b := by
    intro b hb t
    rcases hF b t with t | t
    · exact (hfp b (hwfp b hb)).2 (.inl t)
    · exact absurd (hfp b (hwfp b hb)).1 (Nat.not_lt.mpr t)
  have hW : ∀ b, b ∈ wr → (c.Sc b ∨ b ∈ wr) ∧ ¬ F' b ∧ (∀ o, c.g.h₀.get? b = some o → False) ∧ ∀ cc P, (cc, P) ∈ c.g.T → cc ≠ b ∧ P ≠ b := by
    intro b hb
    obtain ⟨n1, n2, n3⟩ := B₁.new (hwr b hb)
    exact ⟨.inr hb, hWF b hb, n2, fun cc P m => ⟨n3 cc P m, fun e => n1 (e ▸ ⟨cc, m⟩)⟩⟩
  have hs12 := k₂.size
  have hs2' := kk.size
  have wk : ∀ b, F' b → c.F b ∨ b ∈ wr ∨ s₂.heap.objs.size ≤ b := fun b t => (hF b t).imp id .inr
  have fpF : ∀ b ∈ fp, ¬ F' b := by
    intro b hb t
    rcases hF b t with t | t
    · exact (hfp b hb).2 (.inl t)
    · exact absurd (hfp b hb).1 (Nat.not_lt.mpr t)
  have hk₀ : k₀ < ds.length := lt_of_getElem? hd₁
  have hlt : i < ds.length := by omega
  refine with_size (W.item i s' _ _ hlt st' fun v h' tk hP st'' hk hsz => ?_)
  have kW : Kp (fun b => b ∈ wr) s' { s' with heap := h', toks := tk } := ⟨fun b o n e => hk b o n e, hsz, fun _ _ e => e, rfl⟩
  have X'' := FrOk.around X' kW X'.bs.bare hW
  obtain ⟨d, hd⟩ : ∃ d, ds[i]? = some d := ⟨ds[i], List.getElem?_eq_getElem hlt⟩
  have rv := hit' i v d hd hP
  have rv'' : Rep c.g (Sx F' (fun b => c.Sc b ∨ b ∈ wr)) h' v d := by
    refine rv.mono (fun b o nb e => ?_) ?_
    · have hb := Heap.lt_size e
      have nw : b ∉ wr := fun h => absurd hb (Nat.not_lt.mpr (hwr b h))
      refine hk b o nw (kk.heap b o ?_ (k₂.heap b o (fun t => nb (.inl (X.tF b t))) e))
      rintro (t | t | t)
      · exact nb (.inl t)
      · exact nw t
      · exact absurd hb (Nat.not_lt.mpr (Nat.le_trans k₂.size t))
    · rintro b hb (t | t | t)
      · rcases hF b t with t | t
        · exact .inl t
        · exact absurd hb (Nat.not_lt.mpr (Nat.le_trans k₂.size t))
      · exact .inr t
      · exact absurd hb (Nat.not_lt.mpr (hwr b t))
  refine wpAny_assign_Name (FrOk.store X'' (stores_open hx) rv'' fun s₄ X₄ k₄ hsz4 => ?_)
  by_cases hik : i < k₀
  · obtain ⟨fl, hfl, hb⟩ := turn i d hik hd F' (dropO x O') (fun b => c.Sc b ∨ b ∈ wr)
    refine hb s₄ X₄ _ _ fun f s₅ F₅ O₅ X₅ k₅ g₅ r₅ => ?_
    have inv : ∃ m, m < ds.length + 1 - i ∧ ∃ i F' O', m = ds.length + 1 - i ∧ i ≤ k₀ ∧ FrOk c.g c.env (fun b => c.Sc b ∨ b ∈ wr) F' (ρs i) O' s₅ ∧ St' i s₅.heap ∧ Kp (fun b => c.F b ∨ b ∈ wr ∨ s₂.heap.objs.size ≤ b) s₂ s₅ ∧ (∀ b, F' b → c.F b ∨ s₂.heap.objs.size ≤ b) := by
      refine ⟨ds.length + 1 - (i + 1), by omega, i + 1, F₅, O₅, rfl, hik, X₅, ?_, ?_, ?_⟩
      · exact W.frame (i + 1) h' s₅.heap st'' fun b hb o e => k₅.heap b o (fpF b hb) (k₄.heap b o (fpF b hb) e)
      · exact ((kk.trans (kW.weaken fun b t => .inr (.inl t))).trans (k₄.weaken wk)).trans (k₅.weaken wk)
      · intro b t
        rcases g₅ b t with t | t
        · exact hF b t
        · exact .inr (Nat.le_trans (Nat.le_trans hs2' (Nat.le_trans hsz hsz4)) t)
    rcases hfl with rfl | rfl <;> cases r₅ <;> exact inv
  · have hin : i = k₀ := by omega
    subst hin
    rw [hd₁] at hd
    cases hd
    refine last F' (dropO x O') (fun b => c.Sc b ∨ b ∈ wr) s₄ X₄ _ _ fun f s₅ F₅ O₅ X₅ k₅ g₅ r₅ => ?_
    cases r₅ with
    | ret rv5 =>
      have X6 := FrOk.dropS X₅ (Sc' := c.Sc) fun b t => .inl t
      have a1 : Kp (fun b => c.F b ∨ s.heap.objs.size ≤ b) s s₂ := (k₁.trans k₂).weaken fun b t => .inl (X.tF b t)
      have a2 : ∀ b, (c.F b ∨ b ∈ wr ∨ s₂.heap.objs.size ≤ b) → c.F b ∨ s.heap.objs.size ≤ b := by
        rintro b (t | t | t)
        · exact .inl t
        · exact .inr (Nat.le_trans k₁.size (hwr b t))
        · exact .inr (Nat.le_trans (Nat.le_trans k₁.size k₂.size) t)
      have a3 := (((kk.trans (kW.weaken fun b t => .inr (.inl t))).trans (k₄.weaken wk)).trans (k₅.weaken wk)).weaken a2
      refine q _ s₅ F₅ O₅ X6 (Kp.of_new (a1.trans a3)) ?_ (.ret (rv5.mono (fun _ _ _ e => e) fun b _ t => t.imp id .inl))
      intro b t
      rcases g₅ b t with t | t
      · rcases hF b t with t | t
        · exact .inl t
        · exact .inr (Nat.le_trans (Nat.le_trans k₁.size k₂.size) t)
      · exact .inr (Nat.le_trans (Nat.le_trans k₁.size k₂.size) (Nat.le_trans (Nat.le_trans hs2' (Nat.le_trans hsz hsz4)) t))
end
end J5
end
section
open PySem PySem.W PySem.W.X PyProof.Rows Builtin
set_option Elab.async false
set_option maxRecDepth 100000
set_option linter.unusedVariables false
namespace J5
section
variable {c : Cx}
def rngL (a b : Int) : List D := (List.range (b - a).toNat).map fun i : Nat => .int (a + (i : Int))
theorem Iters.range {s : Shared} {u : Value} {a b : Int} (X : c.At s) (hh : c.A.handled = none) (hsm : Builtin.Range.small a b 1 = true) (hsz : Builtin.Range.rangeSize a b 1 = ((b - a).toNat : Int)) (r : Rep c.g c.S s.heap u (.rng a b)) : Iters c s u (rngL a b) := by
  intro Q E q
  cases r with
  | rng n1 hr =>
    refine wpAny_pyIter_range hr hsm ?_
    have hlen : (rngL a b).length = (b - a).toNat := by simp [rngL]
    refine q s.heap.objs.size [s.heap.objs.size] [s.heap.objs.size] _ _ _ (X.push _) (Kp.push s _ s.toks) (Eq.mp (congrArg (fun n => Walks c.g.prog c.g.w c.A _ _ _ n _ _) hlen.symm) (Walks.range hh s.heap.objs.size a 1 (b - a).toNat)) (by show IsRangeIter _ _ _ _ _; rw [hsz]; simpa using Heap.get?_push_size _ rfl) ?_ ?_ ?_
    · intro b hb
      rw [List.mem_singleton.mp hb]
      exact ⟨by show _ < (s.heap.push _).objs.size; rw [Heap.size_push]; exact Nat.lt_succ_self _, X.new⟩
    · intro b hb; rw [List.mem_singleton.mp hb]; exact Nat.le_refl _
    · rintro i v d hd ⟨t, rfl⟩
      unfold rngL at hd
      rw [List.getElem?_map] at hd
      obtain ⟨j, hj, rfl⟩ := Option.map_eq_some_iff.mp hd
      rw [List.getElem?_range] at hj
      · cases hj
        rw [Int.mul_one]
        exact .int _ t
      · cases h : decide (i < (b - a).toNat) with
        | true => exact of_decide_eq_true h
        | false =>
          rw [List.getElem?_eq_none (by simpa using h)] at hj
          cases hj
end
end J5
end
section
open PySem PySem.W PySem.W.X PyProof.Rows Builtin
set_option Elab.async false
set_option maxRecDepth 100000
set_option linter.unusedVariables false
namespace J5
section
variable {prog : Program} {w : World} {A : Around} {E : Value → Shared → Prop} {s : Shared} {K : Frag} {x C dx : Addr} {R : Result → Shared → Prop}
/- storing an attribute of an instance whose dict is at hand -/
theorem osa_R {ox : Obj} {name : Str} {tk : Tok} {v : Value} {es : List DictEntry} {n : Nat} (X : K.In s.heap) (I : InstAt s.heap x ox C (some (dictOf es n))) (hd : ox.dict = some dx) (hp : plainOver K C = true) (ht : takerIn K C name = some none) (hh : (clsIn K C).any (·.hasDict) = true)
    (hl : (getL name es).isSome = true) (D : s.heap.get? dx = some (dictOf es n)) (hz : es.length ≤ 999)
    (h : ∀ h', h'.get? dx = some (dictOf (putL name (PyData.keyHash w.params name) (.str name s.toks) v es) (putN name es n)) → Heap.SameBut dx s.heap h' → R (.ok (.ret .none)) { s with heap := h', toks := s.toks + 1 }) :
    codeAny (model prog w) A (.call (.builtin "object.__setattr__") ⟨[.ref x, .str name tk, v], []⟩) R s := by
  refine osa_open X I hp ht fun b => ?_
  obtain ⟨cd, hc, hd'⟩ := any_some hh
  obtain ⟨hx, hcl, hn, -⟩ := I
  obtain ⟨oc, odi, oda, osl⟩ := ox
  dsimp only at hcl hd
  subst hcl hd
  have D' : (s.heap.update dx (Obj.putName name (PyData.keyHash w.params name) (.str name s.toks) v)).get? dx = some (dictOf (putL name (PyData.keyHash w.params name) (.str name s.toks) v es) (putN name es n)) := by
    rw [Heap.get?_update_self _ D (by rw [putName_dict]; rfl), putName_dict]
  refine wpAny_bind (wpAny_pure (wpAny_bind (wpAny_bind (wpAny_loadPart hx (wpAny_bind ((looks_clsIn X hc).here ?_))))))
  rw [hd']
  refine wpAny_pure (a := some dx) (wpAny_bind (wpAny_pure (wpAny_bind ?_)))
  unfold nsSet
  refine wpAny_bind (wpAny_bind (wpAny_askSetting (wpAny_pure (wpAny_bind (wpAny_mkText (wpAny_bind (wpAny_loadPart D ?_)))))))
  have cc : (!es.toArray.any (·.key.isStr name) && es.toArray.any (·.refKey)) = false := by
    rw [← Array.any_toList, ← Array.any_toList]
    unfold getL at hl
    split at hl
    · rename_i en he
      rw [List.any_eq_true.mpr ⟨en, List.mem_of_find?_eq_some he, List.find?_some he⟩]; rfl
    · split at hl
      · cases hl
      · rename_i z; rw [Bool.not_eq_true] at z; rw [z, Bool.and_false]
  dsimp only
  rw [aRefKeyMayBeTheName_at, cc]
  refine wpAny_updatePart D ?_
  have hlen : (putL name (PyData.keyHash w.params name) (.str name s.toks) v es).length ≤ 1000 := by
    have : ∀ l : List DictEntry, (putL name (PyData.keyHash w.params name) (.str name s.toks) v l).length ≤ l.length + 1 := by
      intro l
      induction l with
      | nil => exact Nat.le_refl _
      | cons e r ih =>
        unfold putL
        split
        · exact Nat.le_succ _
        · exact Nat.succ_le_succ ih
    have := this es
    omega
  refine wpAny_bind (wpAny_lookBehind D' (by exact pastItsLine_dict (by rw [List.size_toArray, sizeLine_eq]; omega)) ?_)
  exact wpAny_pure (h _ D' (Heap.SameBut.update ..))
end
end J5
end
section
open PySem PySem.W PySem.W.X PyProof.Rows Builtin
set_option Elab.async false
set_option maxRecDepth 100000
set_option linter.unusedVariables false
namespace J5
section
variable {c : Cx}
def attrSets (K : Frag) (C : Addr) (name : Str) : Bool :=
  findIn K (.ref C) "__setattr__" == some (some (.builtin "object.__setattr__")) && plainOver K C && takerIn K C name == some none && (clsIn K C).any (·.hasDict)
theorem putL_new {name : Str} {hsh : Int} {key v : Value} : ∀ {es : List DictEntry} {ns : List Str}, NamesAre es ns → ns.contains name = false → putL name hsh key v es = es ++ [⟨hsh, key, v⟩] ∧ (getL name es).isSome = true
  | [], _, _, _ => ⟨rfl, rfl⟩
  | e :: es, [], h, _ => by cases h.1
  | e :: es, n :: ns, h, hno => by
    obtain ⟨hl, hz⟩ := h
    obtain ⟨t, ht⟩ := hz (e, n) List.mem_cons_self
    dsimp only at ht
    simp only [List.contains_cons, Bool.or_eq_false_iff] at hno
    obtain ⟨i1, i2⟩ := putL_new (name := name) (hsh := hsh) (key := key) (v := v) (es := es) (ns := ns) ⟨by simpa using hl, fun p hp => hz p (List.mem_cons_of_mem _ hp)⟩ hno.2
    have hk : e.key.isStr name = false := by
      rw [ht]
      show (n == name) = false
      rw [Bool.eq_false_iff]
      intro h
      have := beq_iff_eq.mp h
      subst this
      simp at hno
    refine ⟨?_, ?_⟩
    · unfold putL
      rw [if_neg (by rw [hk]; exact Bool.false_ne_true), i1]; rfl
    · unfold getL at i2 ⊢
      rw [List.find?_cons, hk, List.any_cons]
      have hr : e.refKey = false := by unfold DictEntry.refKey; rw [ht]
      rw [hr, Bool.false_or]
      exact i2
theorem NamesAre.snoc {es : List DictEntry} {ns : List Str} {name : Str} {hsh : Int} {t : Tok} {v : Value} (h : NamesAre es ns) : NamesAre (es ++ [⟨hsh, .str name t, v⟩]) (ns ++ [name]) := by
  obtain ⟨hl, hz⟩ := h
  refine ⟨by simp [hl], fun p hp => ?_⟩
  rw [List.zip_append hl] at hp
  rcases List.mem_append.mp hp with hp | hp
  · exact hz p hp
  · simp only [List.zip_cons_cons, List.zip_nil_left, List.mem_singleton] at hp
    subst hp
    exact ⟨t, rfl⟩
/- one step of an assignment -/
def Asg (c : Cx) (t : Value → Sem Unit) (d : D) (ρ' : Rho) : Prop :=
  ∀ s, c.At s → ∀ v, Rep c.g c.S s.heap v d → ∀ (Q : Unit → Shared → Prop) (E : Value → Shared → Prop), (∀ s' O', FrOk c.g c.env c.Sc c.F ρ' O' s' → Kp c.F s s' → Q () s') → wpAny c.g.M c.A (t v) Q E s
theorem Asg.name {x : Str} {p : Pos} {d : D} (hx : stores c.env x = true) : Asg c (assign (.Name x p) c.env) d (upd x (.val d) c.ρ) :=
  fun s X v r Q E q => wpAny_assign_Name (FrOk.store X (stores_open hx) r fun s₂ X₂ k₂ _ => q s₂ _ X₂ k₂)
theorem Asg.attr {x name : Str} {p ap : Pos} {C : Addr} {ns : List Str} {vs : List D} {d : D} {w₀ : Value} {a₀ : Addr} (G : Gok c.g) (hr : c.ρ.lookup x = some (.ini w₀ a₀ (.inst C ns vs))) (hd : (x == ("__debug__" : Str)) = false)
    (hk : attrSets c.g.K C name = true) (hno : ns.contains name = false) (hz : ns.length ≤ 900) :
    Asg c (assign (.Attribute (.Name x p) name ap) c.env) d (upd x (.ini w₀ a₀ (.inst C (ns ++ [name]) (vs ++ [d]))) c.ρ) := by
  intro s₁ X₁ u r₁ Q E q
  obtain ⟨m, hn', hm⟩ := X₁.at_
  obtain ⟨v, ha, hsl⟩ := hm x _ hr
  cases hsl with
  | ini ho r =>
    cases r with
    | inst na g1 g2 hnm rr =>
      rename_i a es n
      have ld : ∀ (Q : Value → Shared → Prop), Q (.ref a) s₁ → wpAny c.g.M c.A (eval (.Name x p) c.env) Q E s₁ := fun Q Y => by
        refine wpAny_Name ?_ hd
        cases ha with
        | loc hk hv => exact wpAny_loadName_local X₁.kind hk hn' hv Y
        | cell hk hc hv => exact wpAny_loadName_cell X₁.kind hk hc hv Y
        | free hk hcd hc hv => exact wpAny_loadName_free X₁.kind hk hc hv Y hcd
      rw [PySem.assign_Attribute]
      refine wpAny_bind (wpAny_holding (ld _ (wpAny_bind (wpAny_standAt (wpAny_bind (wpAny_holding ?_))))))
      unfold attrSets at hk
      simp only [Bool.and_eq_true, beq_iff_eq] at hk
      obtain ⟨⟨⟨h1, h2⟩, h3⟩, h4⟩ := hk
      have I : InstAt s₁.heap a ⟨.ref C, some a₀, .plain, #[]⟩ C (some (dictOf es n)) := ⟨g1, rfl, rfl, g2⟩
      have hlen : es.length = ns.length := hnm.1
      refine set_plain (X₁.bs.K G) I h1 ?_
      refine osa_R (s := { s₁ with toks := s₁.toks + 1 }) ((X₁.bs.toks _).K G) I rfl h2 h3 h4 (putL_new (hsh := 0) (key := .none) (v := .none) hnm hno).2 g2 (by omega) fun h' e' hsb => ?_
      rw [(putL_new hnm hno).1] at e'
      have hkk : ∀ b o, ¬ c.S b → s₁.heap.get? b = some o → h'.get? b = some o := fun b o nb eo => (hsb.2 b fun q' => nb (.inl (q' ▸ (X₁.own x a₀ ho).1))).trans eo
      have Y := FrOk.mutI (d' := .inst C (ns ++ [name]) (vs ++ [d])) X₁ ho hr (s₁.toks + 1 + 1) hsb fun rw_ => by
        cases rw_ with
        | inst nb f1 f2 fn fr =>
          rw [g2] at f2
          cases f2
          refine .inst nb (hkk _ _ nb f1) e' hnm.snoc ?_
          rw [List.map_append]
          exact (rr.mono hkk fun _ _ q => q).append (.cons (r₁.mono hkk fun _ _ q => q) .nil)
      exact wpAny_release (q _ _ Y.1 Y.2)
theorem St.attr {x name : Str} {p ap pos : Pos} {value : Expr} {C : Addr} {ns : List Str} {vs : List D} {d : D} {w₀ : Value} {a₀ : Addr} (G : Gok c.g) (hr : c.ρ.lookup x = some (.ini w₀ a₀ (.inst C ns vs))) (h : Ev c (eval value c.env) d) (hd : (x == ("__debug__" : Str)) = false)
    (hk : attrSets c.g.K C name = true) (hno : ns.contains name = false) (hz : ns.length ≤ 900) (hs : swapsWith value (some (.Attribute (.Name x p) name ap)) pos.line c.env = pure false) :
    St c (exec (.Assign [.Attribute (.Name x p) name ap] value pos) c.env) (upd x (.ini w₀ a₀ (.inst C (ns ++ [name]) (vs ++ [d]))) c.ρ) .next := by
  intro s X Q E q
  rw [plainObj_exec_Assign_Attribute _ _ _ _ _ hs]
  refine wpAny_bind (wpAny_standAt (wpAny_bind (h s X _ _ fun u s₁ B₁ k₁ r₁ => ?_)))
  refine wpAny_bind (Asg.attr (p := p) (ap := ap) G hr hd hk hno hz s₁ (X.kp k₁ B₁) u r₁ _ _ fun s₂ O₂ X₂ k₂ => ?_)
  exact wpAny_pure (X.ahead q k₁ .next _ c.F O₂ X₂ k₂ (fun b t => .inl t) .next)
end
end J5
end
section
open PySem PySem.W PySem.W.X PyProof.Rows Builtin
set_option Elab.async false
set_option maxRecDepth 100000
set_option linter.unusedVariables false
namespace J5
/- a thing around the frame becomes the frame's own: what __init__ does with self -/
theorem FrOk.adopt {g : Gd} {env : Env} {Sc Sc' F : Addr → Prop} {ρ : Rho} {O : Str → Option Addr} {s : Shared} {x : Str} {a dx C : Addr} {n : Nat} (X : FrOk g env Sc F ρ O s) (hr : ρ.lookup x = some (.val (.at (.ref a)))) (hO : ∀ y, O y = none) (hs : Sc dx) (hs' : ∀ b, Sc' b → Sc b) (hd : ¬ Sc' dx) (hF : ¬ F dx) (ht : ¬ g.Tb dx)
    (hn : (∀ o, g.h₀.get? dx = some o → False) ∧ ∀ c P, (c, P) ∈ g.T → c ≠ dx) (h1 : ¬ Sx F Sc a) (g1 : s.heap.get? a = some ⟨.ref C, some dx, .plain, #[]⟩) (g2 : s.heap.get? dx = some (dictOf [] n)) :
    FrOk g env Sc' (fun b => F b ∨ b = dx) (upd x (.ini (.ref a) dx (.inst C [] [])) ρ) (fun y => if y = x then some dx else none) s := by
  obtain ⟨m, hm, hx⟩ := X.at_
  have hS : ∀ b, Sx (fun b => F b ∨ b = dx) Sc' b → Sx F Sc b := by
    rintro b ((t | rfl) | t)
    · exact .inl t
    · exact .inr hs
    · exact .inr (hs' b t)
  have hL : dx ≠ env.locals := fun h => hF (h ▸ X.L)
  have hC : ∀ y c, env.cells.lookup y = some c → dx ≠ c := fun y c e h => hF (h ▸ (X.cF y c e).1)
  refine ⟨X.bs, X.kind, X.gl, X.bi, fun b t => .inl (X.tF b t), fun b t => X.tS b (hs' b t), ?_, .inl X.L, ?_, X.cL, X.lT, ?_, fun y c e => ⟨.inl (X.cF y c e).1, (X.cF y c e).2⟩, m, hm, fun y sl e => ?_⟩
  · rintro b (t | rfl)
    · exact X.fS b t
    · exact X.tS _ hs
  · intro y b h
    split at h
    · rename_i hy
      cases h
      refine ⟨.inr rfl, ht, hL, hC, (fun z hz => ?_), hd⟩
      split at hz
      · rename_i h2; rw [h2, hy]
      · cases hz
    · cases h
  · rintro b (t | rfl) nt
    · exact X.nw b t nt
    · exact hn
  · rw [lookup_upd] at e
    split at e
    · rename_i hy
      subst hy
      cases e
      obtain ⟨v, ha, hsl⟩ := hx y _ hr
      cases hsl with
      | val r =>
        cases r
        exact ⟨_, ha, .ini (if_pos rfl) (.inst (es := []) (fun q => h1 (hS _ q)) g1 g2 ⟨rfl, fun _ hp => by cases hp⟩ .nil)⟩
    · obtain ⟨v, ha, hsl⟩ := hx y sl e
      refine ⟨v, ha, ?_⟩
      cases hsl with
      | val r => exact .val (r.mono (fun _ _ _ e => e) fun b _ t => hS b t)
      | own o r => rw [hO y] at o; cases o
      | ini o r => rw [hO y] at o; cases o
end J5
end
section
open PySem PySem.W PySem.W.X PyProof.Rows Builtin
set_option Elab.async false
set_option maxRecDepth 100000
set_option linter.unusedVariables false
namespace J5
theorem made_frames {C : Addr} {rest : List Value} {kw : List (Str × Value)} : (Code.builtin "type.__call__" ⟨.ref C :: rest, kw⟩).frames = 0 := rfl
theorem made_isG {C : Addr} {rest : List Value} {kw : List (Str × Value)} : (Code.builtin "type.__call__" ⟨.ref C :: rest, kw⟩).isGuard = false := by
  show guardIds.contains "type.__call__" = false
  decide +kernel
theorem made_weight {C : Addr} {rest : List Value} {kw : List (Str × Value)} : (Code.builtin "type.__call__" ⟨.ref C :: rest, kw⟩).weight = 1 := by
  unfold Code.weight
  rw [made_frames, made_isG]
  rfl
theorem made_units {C : Addr} {rest : List Value} {kw : List (Str × Value)} : (Code.builtin "type.__call__" ⟨.ref C :: rest, kw⟩).cUnits = 1 := by
  show 1 + 3 * (Code.builtin "type.__call__" ⟨.ref C :: rest, kw⟩).frames = 1
  rw [made_frames]
theorem Room.made {A : Around} {n : Nat} {C : Addr} {rest : List Value} {kw : List (Str × Value)} (R : Room A (n + 1)) : Room (A.under (.builtin "type.__call__" ⟨.ref C :: rest, kw⟩)) n := by
  refine ⟨?_, ?_, R.hand⟩
  · show A.units + Code.cUnits _ + 10 * n < cLine
    rw [made_units]; have := R.units; omega
  · show A.depth + Code.weight _ + n < recursionLimit
    rw [made_weight]; have := R.depth; omega
/- the body of __init__ -/
def InitOk (g : Gd) (n : Nat) (fd : FuncData) (body : List Stmt) (self : Str) (bs : List (Str × D)) (C : Addr) (ns : List Str) (vs : List D) : Prop :=
  ∀ (A : Around) (L f : Addr) (Sc F : Addr → Prop) (O : Str → Option Addr) (w₀ : Value) (a₀ : Addr), Room A n → ∃ ρ', ρ'.lookup self = some (.ini w₀ a₀ (.inst C ns vs)) ∧ St ⟨g, A, callEnvC fd L f, Sc, F, (self, .ini w₀ a₀ (.inst C [] [])) :: frame0 bs, O⟩ (execs body (callEnvC fd L f)) ρ' .next
structure ClsAt (K : Frag) (C fi : Addr) : Prop where
  makes : makesIn K C = true
  init : findIn K (.ref C) "__init__" = some (some (.ref fi))
  fn : typeIn K (.ref fi) = some (.type "function")
theorem CallOk.cls {g : Gd} {n : Nat} {C fi : Addr} {fd : FuncData} {body : List Stmt} {self : Str} {as : List D} {ns : List Str} {ks : List D} {bs : List (Str × D)} {fns : List Str} {fvs : List D} (G : Gok g) (HC : ClsAt g.K C fi) (H : FnAt g.K fi fd body)
    (e : ∀ x, bindD (fd.params.args.map (·.arg)) (fd.params.kwonlyargs.map (·.arg)) (dflIn g.K fd.kwdefaults) (.at (.ref x) :: as) (ns.zip ks) = some ((self, .at (.ref x)) :: bs)) (hn : (self :: bs.map (·.1)).Nodup) (hself : fd.scope.names.lookup self = some .local) (hnames : namesOk fd.scope bs = true)
    (hb : InitOk g n fd body self bs C fns fvs) :
    CallOk g (n + 2) (.ref C) as ns ks (.inst C fns fvs) := by
  intro A S s vs kvs R B hS hz ra rk Q E q
  refine wpAny_call ?_
  obtain ⟨hh, gg, dd, tt, oo⟩ := s
  refine make_core (makes_of (B.K G) HC.makes) (looks_findIn (B.K G) HC.init) (fun self => bind_fn (B.K G) self HC.fn) (.inl rfl) ?_
  have R₁ : Room (A.under (.builtin "type.__call__" ⟨.ref C :: vs, ns.zip kvs⟩)) (n + 1) := R.made
  generalize A.under (.builtin "type.__call__" ⟨.ref C :: vs, ns.zip kvs⟩) = A₁ at R₁ ⊢
  -- the state with the two new objects
  have k₀ : Kp (fun b => hh.objs.size ≤ b) ⟨hh, gg, dd, tt, oo⟩ ⟨(hh.push emptyDict).push (instObj C hh.objs.size), gg, dd, tt, oo⟩ :=
    ⟨fun b o _ e => Heap.get?_push_of_some _ (Heap.get?_push_of_some _ e), by show _ ≤ ((hh.push emptyDict).push (instObj C hh.objs.size)).objs.size; rw [Heap.size_push, Heap.size_push]; exact Nat.le_add_right _ 2, fun _ _ e => e, rfl⟩
  have B₁ := B.fresh k₀ B.bare
  have kT : Kp g.Tb ⟨hh, gg, dd, tt, oo⟩ ⟨(hh.push emptyDict).push (instObj C hh.objs.size), gg, dd, tt, oo⟩ :=
    ⟨fun b o _ e => Heap.get?_push_of_some _ (Heap.get?_push_of_some _ e), k₀.size, fun _ _ e => e, rfl⟩
  have hsz : ((hh.push emptyDict).push (instObj C hh.objs.size)).objs.size = hh.objs.size + 2 := by rw [Heap.size_push, Heap.size_push]
  have gx : ((hh.push emptyDict).push (instObj C hh.objs.size)).get? (hh.objs.size + 1) = some (instObj C hh.objs.size) := by heap_get
  have gd : ((hh.push emptyDict).push (instObj C hh.objs.size)).get? hh.objs.size = some emptyDict := by heap_get
  generalize hs₁ : (⟨(hh.push emptyDict).push (instObj C hh.objs.size), gg, dd, tt, oo⟩ : Shared) = s₁ at *
  have hheap : s₁.heap = (hh.push emptyDict).push (instObj C hh.objs.size) := by rw [← hs₁]
  rw [← hheap] at hsz gx gd
  obtain ⟨oc, od, sl, ho⟩ := H.at_
  let S₁ : Addr → Prop := fun b => S b ∨ b = hh.objs.size
  have hS₁ : ∀ b, g.Tb b → S₁ b := fun b t => .inl (hS b t)
  have hz₁ : ∀ b, S₁ b → b < s₁.heap.objs.size := by
    rintro b (t | rfl)
    · have h1 : b < hh.objs.size := hz b t
      rw [hsz]; exact Nat.lt_of_lt_of_le h1 (Nat.le_add_right _ 2)
    · rw [hsz]; exact Nat.lt_add_of_pos_right (by decide)
  have mono : ∀ b o, ¬ S b → hh.get? b = some o → s₁.heap.get? b = some o := fun b o _ e => by rw [hheap]; exact Heap.get?_push_of_some _ (Heap.get?_push_of_some _ e)
  have hS10 : ∀ b, b < hh.objs.size → S₁ b → S b := by
    rintro b hb (t | rfl)
    · exact t
    · exact absurd hb (Nat.lt_irrefl _)
  have ra₁ : Reps g S₁ s₁.heap vs as := Reps.mono mono hS10 ra
  have rk₁ : Reps g S₁ s₁.heap kvs ks := Reps.mono mono hS10 rk
  have rx : Rep g S₁ s₁.heap (.ref (hh.objs.size + 1)) (.at (.ref (hh.objs.size + 1))) := .at rfl
  refine codeAny_call_function (o := ⟨oc, od, .func fd, sl⟩) (fd := fd) (body := body) (by have := R₁.depth; omega) (B₁.K G _ _ ho) rfl H.co H.gen H.body (codeRec_of (B₁.K G) H.code) ?_
  refine bind_R (A := A₁.in1) G B₁ H.po rfl rfl H.va H.kw H.df (Reps.cons rx ra₁) (SlR.zip rk₁) (e _) fun bv rb => ?_
  rw [H.clo]
  have hnames' : namesOk fd.scope ((self, .at (.ref (hh.objs.size + 1))) :: bs) = true := by
    unfold namesOk at hnames ⊢
    rw [List.all_cons, hnames, hself]; rfl
  have hn' : (((self, D.at (.ref (hh.objs.size + 1))) :: bs).map (·.1)).Nodup := hn
  have hkv : ∀ x ∈ bv, fd.scope.names.lookup x.1 = some .local ∨ (fd.scope.names.lookup x.1 = some .cell ∧ ((cellsFrom (s₁.heap.objs.size + 1) fd.scope.names []).lookup x.1).isSome = true) := by
    intro x hx
    have hm : x.1 ∈ ((self, D.at (.ref (hh.objs.size + 1))) :: bs).map (·.1) := rb.1 ▸ List.mem_map_of_mem hx
    obtain ⟨p, hp, hpe⟩ := List.mem_map.mp hm
    have hkind := List.all_eq_true.mp hnames' _ hp
    simp only [Bool.or_eq_true, Bool.and_eq_true, beq_iff_eq, hpe] at hkind
    rcases hkind with hl | ⟨hl, hc⟩
    · exact .inl hl
    · exact .inr ⟨hl, by rw [← hc]; exact lookup_isSome_names (cellsFrom_names _ _ _ _ _ rfl)⟩
  refine wpAny_newFunctionEnv_cells H.kind hkv fun env he s' x => ?_
  have he' : env = callEnvC fd s₁.heap.objs.size fi := he
  subst he'
  obtain ⟨F, X, k, hF⟩ := FrOk.enter B₁ hS₁ hz₁ rb hn' H.kind H.gl H.bi hnames' x
  refine ⟨X.bs.nl G, codeAny_func ?_⟩
  have R' : Room (A₁.deeper (callEnvC fd s₁.heap.objs.size fi)) n := ⟨by have := R₁.units; show A₁.units + 3 + _ < _; omega, by have := R₁.depth; show A₁.depth + 1 + n < _; omega, R₁.hand⟩
  have nTd : ¬ g.Tb hh.objs.size := fun t => absurd (hz _ (hS _ t)) (Nat.lt_irrefl _)
  have nFd : ¬ F hh.objs.size := fun f => (hF _ f).elim nTd fun h => by omega
  have nFx : ¬ F (hh.objs.size + 1) := fun f => (hF _ f).elim (fun t => absurd (hz _ (hS _ t)) (by show ¬ _ < hh.objs.size; omega)) fun h => by omega
  have nSx : ¬ Sx F S₁ (hh.objs.size + 1) := by
    rintro (f | t | t)
    · exact nFx f
    · exact absurd (hz _ t) (by show ¬ _ < hh.objs.size; omega)
    · exact absurd t (Nat.succ_ne_self _)
  have Y := FrOk.adopt (x := self) (C := C) (n := 0) X (by unfold frame0; rw [List.map_cons, List.lookup_cons, beq_self_eq_true]) (fun _ => rfl) (.inr rfl) (Sc' := S) (fun b t => .inl t) (fun t => Nat.lt_irrefl _ (hz _ t)) nFd nTd (B.new (s := ⟨hh, gg, dd, tt, oo⟩) (Nat.le_refl _)).2 nSx
    (k.heap _ _ (fun t => absurd (hz _ (hS _ t)) (by show ¬ _ < hh.objs.size; omega)) gx) (k.heap _ _ nTd gd)
  have hupd : upd self (.ini (.ref (hh.objs.size + 1)) hh.objs.size (.inst C [] [])) (frame0 ((self, .at (.ref (hh.objs.size + 1))) :: bs)) = (self, .ini (.ref (hh.objs.size + 1)) hh.objs.size (.inst C [] [])) :: frame0 bs := by
    unfold frame0; rw [List.map_cons]; unfold upd; rw [beq_self_eq_true, if_pos rfl]
  rw [hupd] at Y
  obtain ⟨ρ', hl, h2⟩ := hb _ s₁.heap.objs.size fi S (fun b => F b ∨ b = hh.objs.size) (fun y => if y = self then some hh.objs.size else none) (.ref (hh.objs.size + 1)) hh.objs.size R'
  refine h2 s' Y _ _ fun fl s₂ F' O' X₂ k₂ g₂ r => ?_
  cases r
  show InitBack _ _ _ _
  refine ⟨rfl, ?_⟩
  have kk : Kp g.Tb ⟨hh, gg, dd, tt, oo⟩ s₂ := by
    refine Kp.of_new ?_
    have k₃ : Kp (fun b => g.Tb b ∨ hh.objs.size ≤ b) s' s₂ := k₂.weaken fun b t => by
      rcases t with t | rfl
      · rcases hF b t with t | t
        · exact .inl t
        · exact .inr (Nat.le_trans (Nat.le_add_right _ 2) (hsz ▸ t))
      · exact .inr (Nat.le_refl _)
    exact ((kT.trans k).weaken fun b t => .inl t).trans k₃
  have hv : Owns g (Sx F' S) s₂.heap (.ref (hh.objs.size + 1)) (hh.objs.size) (.inst C fns fvs) := by
    obtain ⟨m, _, hm⟩ := X₂.at_
    obtain ⟨v, _, hsl⟩ := hm _ _ hl
    cases hsl with
    | ini _ r => exact r
  refine q _ s₂ X₂.bs kk ?_
  refine hv.freeze ?_ fun t => absurd (hz _ t) (Nat.lt_irrefl _)
  exact fun b _ t => .inr t
end J5
end
section
open PySem PySem.W PySem.W.X PyProof.Rows Builtin
set_option Elab.async false
set_option maxRecDepth 100000
set_option linter.unusedVariables false
namespace J5
theorem Reps.rev {g : Gd} {S : Addr → Prop} {h : Heap} : ∀ {vs : List Value} {ds : List D}, Reps g S h vs ds → Reps g S h vs.reverse ds.reverse
  | _, _, .nil => .nil
  | _, _, .cons a b => by rw [List.reverse_cons, List.reverse_cons]; exact b.rev.append (.cons a .nil)
section
variable {c : Cx}
/- several targets, in order -/
def AsgN (c : Cx) (ts : List (Value → Sem Unit)) (ds : List D) (ρ' : Rho) : Prop :=
  ∀ s, c.At s → ∀ vs, Reps c.g c.S s.heap vs ds → ∀ (Q : Unit → Shared → Prop) (E : Value → Shared → Prop), (∀ s' O', FrOk c.g c.env c.Sc c.F ρ' O' s' → Kp c.F s s' → Q () s') → wpAny c.g.M c.A (assignInOrder ts vs) Q E s
theorem AsgN.nil : AsgN c [] [] c.ρ := fun s X vs r Q E q => wpAny_pure (q s c.O X (.refl s))
theorem AsgN.cons {t : Value → Sem Unit} {ts : List (Value → Sem Unit)} {d : D} {ds : List D} {ρ₁ ρ₂ : Rho} (h : Asg c t d ρ₁) (hr : ∀ O', AsgN ⟨c.g, c.A, c.env, c.Sc, c.F, ρ₁, O'⟩ ts ds ρ₂) : AsgN c (t :: ts) (d :: ds) ρ₂ := by
  intro s X vs r Q E q
  cases r with
  | cons a b =>
    refine wpAny_bind (wpAny_holding (h s X _ a _ _ fun s₁ O₁ X₁ k₁ => ?_))
    exact hr O₁ s₁ X₁ _ (b.kept k₁ fun b t => .inl t) Q E fun s₂ O₂ X₂ k₂ => q s₂ O₂ X₂ (k₁.trans k₂)
theorem unpack_R {s : Shared} (C : c.A.handled = none) (X : c.At s) {t : Value} {ds : List D} (r : Rep c.g c.S s.heap t (.tup ds)) {Q : List Value → Shared → Prop} {E : Value → Shared → Prop} {n : Nat} (hn : n = ds.length)
    (q : ∀ vs s', c.At s' → Kp c.F s s' → Reps c.g c.S s'.heap vs ds → Q vs s') : wpAny c.g.M c.A (unpackItems t n none) Q E s := by
  subst hn
  cases r with
  | tup n1 g1 rr =>
    rename_i a vs
    have hl := rr.length
    rw [← hl, ← List.size_toArray]
    refine with_size (unpackItems_tuple C (isTup_of g1) fun h' he hsz => ?_)
    have k₁ : Kp (fun b => s.heap.objs.size ≤ b) s { s with heap := h' } := ⟨fun b o n e => he b o (fun h => n (Nat.le_of_eq h.symm)) e, hsz, fun _ _ e => e, rfl⟩
    have B := X.bs.fresh k₁ X.bs.bare
    have k₂ : Kp c.g.Tb s { s with heap := h' } := Kp.of_new (k₁.weaken fun b t => .inr t)
    exact q _ _ (X.kp k₂ B) (X.kF k₂) (X.reps k₂ rr)
theorem Asg.tuple {elts : List Expr} {k : Nat} {pos : Pos} {ds : List D} {ρ' : Rho} (C : c.A.handled = none) (hn : (assignEach elts c.env).length = ds.length) (hs : (assignEach elts c.env).findIdx? (·.1) = none)
    (h : AsgN c ((assignEach elts c.env).map (·.2)) ds ρ') : Asg c (assign (.Tuple elts k pos) c.env) (.tup ds) ρ' := by
  intro s X v r Q E q
  rw [PySem.arm_assign_Tuple]
  refine wpAny_bind (wpAny_standAt ?_)
  unfold unpack
  rw [hn, hs]
  refine wpAny_bind (wpAny_holding (unpack_R C X r rfl fun vs s₁ X₁ k₁ r₁ => ?_))
  exact h s₁ X₁ vs r₁ Q E fun s₂ O₂ X₂ k₂ => q s₂ O₂ X₂ (k₁.trans k₂)
theorem St.unpackT {elts : List Expr} {k : Nat} {tpos pos : Pos} {value : Expr} {ds : List D} {ρ' : Rho} (h : Ev c (eval value c.env) (.tup ds)) (ht : Asg c (PySem.assign (Expr.Tuple elts k tpos) c.env) (.tup ds) ρ')
    (hs : swapsWithSole [.Tuple elts k tpos] value pos.line c.env = pure false) (hw : swappedStores [.Tuple elts k tpos] value c.env = pure none) : St c (exec (.Assign [.Tuple elts k tpos] value pos) c.env) ρ' .next := by
  intro s X Q E q
  refine PyProof.Rows.Assign_Tuple (h s X _ _ fun u s₁ B₁ k₁ r₁ => ?_) hs hw
  exact ht s₁ (X.kp k₁ B₁) u r₁ _ _ fun s₂ O₂ X₂ k₂ => X.ahead q k₁ .next _ c.F O₂ X₂ k₂ (fun b t => .inl t) .next
theorem St.unpackSwap {elts : List Expr} {k : Nat} {tpos pos : Pos} {value : Expr} {ds : List D} {ρ' : Rho} {names : List Str} (C : c.A.handled = none) (h : Ev c (eval value c.env) (.tup ds)) (hn : names.length = ds.length)
    (ht : AsgN c (names.reverse.map fun n => bindName c.env n) ds.reverse ρ')
    (hs : swapsWithSole [.Tuple elts k tpos] value pos.line c.env = pure false) (hw : swappedStores [.Tuple elts k tpos] value c.env = pure (some names)) : St c (exec (.Assign [.Tuple elts k tpos] value pos) c.env) ρ' .next := by
  intro s X Q E q
  refine PyProof.Rows.Assign_Tuple_swapped (h s X _ _ fun u s₁ B₁ k₁ r₁ => ?_) hs hw
  refine unpack_R C (X.kp k₁ B₁) r₁ hn fun vs s₂ X₂ k₂ r₂ => ?_
  exact ht s₂ X₂ _ r₂.rev _ _ fun s₃ O₃ X₃ k₃ => X.ahead q k₁ .next _ c.F O₃ X₃ (k₂.trans k₃) (fun b t => .inl t) .next
theorem Asg.bind {x : Str} {d : D} (hx : stores c.env x = true) : Asg c (bindName c.env x) d (upd x (.val d) c.ρ) :=
  fun s X v r Q E q => wpAny_bindName (FrOk.store X (stores_open hx) r fun s₂ X₂ k₂ _ => q s₂ _ X₂ k₂)
end
/- no more own -/
theorem FrOk.freeze {g : Gd} {env : Env} {Sc F : Addr → Prop} {ρ : Rho} {O : Str → Option Addr} {s : Shared} {x : Str} {a : Addr} {d : D} (X : FrOk g env Sc F ρ O s) (ho : O x = some a) (hr : ρ.lookup x = some (.own d)) :
    FrOk g env Sc (fun b => F b ∧ b ≠ a) (upd x (.val d) ρ) (dropO x O) s := by
  obtain ⟨hFa, hTa, hLa, hCa, hUa, ha⟩ := X.own x a ho
  have hS : ∀ b, Sx (fun b => F b ∧ b ≠ a) Sc b → Sx F Sc b := fun b t => t.imp (·.1) id
  obtain ⟨m, hm, hx⟩ := X.at_
  refine ⟨X.bs, X.kind, X.gl, X.bi, fun b t => ⟨X.tF b t, fun e => hTa (e ▸ t)⟩, X.tS, fun b t => X.fS b t.1, ⟨X.L, Ne.symm hLa⟩, ?_, X.cL, X.lT, fun b t => X.nw b t.1, fun y c e => ⟨⟨(X.cF y c e).1, fun h => hCa y c e h.symm⟩, (X.cF y c e).2⟩, m, hm, fun y sl e => ?_⟩
  · intro y b h
    unfold dropO at h
    split at h
    · cases h
    · rename_i hy
      obtain ⟨h1, h2, h3, h4, h5, h6⟩ := X.own y b h
      refine ⟨⟨h1, fun e => hy (hUa y (e ▸ h))⟩, h2, h3, h4, (fun z hz => ?_), h6⟩
      unfold dropO at hz
      split at hz
      · cases hz
      · exact h5 z hz
  · rw [lookup_upd] at e
    split at e
    · rename_i hy
      subst hy
      cases e
      obtain ⟨v, hv, hsl⟩ := hx y _ hr
      cases hsl with
      | own o' r =>
        rw [ho] at o'
        cases o'
        refine ⟨v, hv, .val (r.freeze (fun b _ t => hS b t) ?_)⟩
        rintro (⟨_, t⟩ | t)
        · exact t rfl
        · exact ha t
    · rename_i hy
      obtain ⟨v, hv, hsl⟩ := hx y sl e
      refine ⟨v, hv, ?_⟩
      cases hsl with
      | val r => exact .val (r.mono (fun _ _ _ e => e) fun b _ t => hS b t)
      | own o r => exact .own (by unfold dropO; rw [if_neg hy]; exact o) (r.mono (fun _ _ _ e => e) (fun b _ t => hS b t) fun _ e => e)
      | ini o r => exact .ini (by unfold dropO; rw [if_neg hy]; exact o) (r.mono (fun _ _ _ e => e) (fun b _ t => hS b t) fun _ e => e)
/- one may stop owning at any time -/
theorem St.freeze {c : Cx} {t : Sem Flow} {x : Str} {d : D} {ρ' : Rho} {fl : Fl} (hr : c.ρ.lookup x = some (.own d)) (h : ∀ F' O', St ⟨c.g, c.A, c.env, c.Sc, F', upd x (.val d) c.ρ, O'⟩ t ρ' fl) : St c t ρ' fl := by
  intro s X Q E q
  obtain ⟨m, _, hm⟩ := X.at_
  obtain ⟨v, _, hsl⟩ := hm x _ hr
  cases hsl with
  | own ho _ =>
    have X' := FrOk.freeze X ho hr
    refine h _ _ s X' Q E fun f s' F' O' X₂ k₂ g₂ r₂ => q f s' F' O' X₂ (k₂.weaken fun b t => t.1) (fun b t => (g₂ b t).imp (·.1) id) r₂
end J5
end
section
open PySem PySem.W PySem.W.X PyProof.Rows Builtin
set_option Elab.async false
set_option maxRecDepth 100000
set_option linter.unusedVariables false
namespace J5
theorem letGo_list {prog : Program} {w : World} {A : Around} {E : Value → Shared → Prop} {s : Shared} {elts : List Expr} {k : Nat} {pos : Pos} {I l : Addr} {v : Value} {i : Nat} {Q : Unit → Shared → Prop} (hit : s.heap.IsListIter I l i) (hQ : Q () s) :
    wpAny (model prog w) A (letOwnedTupleGo (.Tuple elts k pos) (.ref I) v) Q E s := by
  cases v <;> first | exact wpAny_letOwnedTupleGo_listiter hit hQ | exact wpAny_pure hQ
section
variable {c : Cx}
theorem St.forT {elts : List Expr} {kk₀ : Nat} {p pos : Pos} {iter : Expr} {body : List Stmt} {ds : List D} (ρs : Nat → Rho) (hh : c.A.handled = none) (h : Ev c (eval iter c.env) (.list ds)) (h0 : ρs 0 = c.ρ)
    (turn : ∀ i d, ds[i]? = some d → ∀ F' O' Sc', ∃ ρ₁ fl, (fl = .next ∨ fl = .cont) ∧ Asg ⟨c.g, c.A, c.env, Sc', F', ρs i, O'⟩ (PySem.assign (Expr.Tuple elts kk₀ p) c.env) d ρ₁ ∧ ∀ O'', St ⟨c.g, c.A, c.env, Sc', F', ρ₁, O''⟩ (execs body c.env) (ρs (i + 1)) fl)
    (hs : ∀ v, foldedSetIterable iter c.env v = pure v) : St c (exec (.For (.Tuple elts kk₀ p) iter body [] pos) c.env) (ρs ds.length) .next := by
  intro s X Q E q
  rw [exec_For]
  refine wpAny_bind (wpAny_standAt ?_)
  refine wpAny_bind (h s X _ _ fun u s₁ B₁ k₁ r₁ => ?_)
  have X₁ := X.kp k₁ B₁
  refine wpAny_bind (wpAny_of_eq (hs u) (wpAny_bind (wpAny_standAt (wpAny_bind (wpAny_holding ?_)))))
  cases r₁ with
  | list n1 g1 rr =>
  rename_i a vs nn
  have hl : s₁.heap.IsList a vs.toArray := isList_of g1
  have hlt0 : a < s₁.heap.objs.size := Heap.lt_size g1
  refine wpAny_pyIter_list hl ?_
  have hszv : vs.toArray.size = ds.length := by rw [List.size_toArray]; exact rr.length
  obtain ⟨I, hI⟩ : ∃ I, I = s₁.heap.objs.size := ⟨_, rfl⟩
  have W := hszv ▸ Walks.list (prog := c.g.prog) (w := c.g.w) hh I a (hI ▸ Nat.ne_of_lt hlt0) vs.toArray
  obtain ⟨s₂, hs₂⟩ : ∃ s₂, s₂ = { s₁ with heap := s₁.heap.push { cls := .type "list_iterator", data := .fields #[.ref a, .int 0 0] } } := ⟨_, rfl⟩
  have B₂ : Bs c.g s₂ := hs₂ ▸ X₁.push _
  have k₂ : Kp c.g.Tb s₁ s₂ := hs₂ ▸ Kp.push s₁ _ s₁.toks
  have st : s₂.heap.IsListIter I a 0 ∧ s₂.heap.IsList a vs.toArray := by subst hs₂ hI; exact ⟨⟨_, Heap.get?_push_size _ rfl, rfl, rfl⟩, hl.push _⟩
  have hsz2 : s₂.heap.objs.size = s₁.heap.objs.size + 1 := by subst hs₂; exact Heap.size_push ..
  have hfp : ∀ b ∈ [I, a], b < s₂.heap.objs.size ∧ ¬ c.S b := by
    intro b hb
    rcases List.mem_cons.mp hb with rfl | hb
    · exact ⟨by rw [hsz2, hI]; exact Nat.lt_succ_self _, hI ▸ X₁.new⟩
    · rw [List.mem_singleton.mp hb]
      exact ⟨by rw [hsz2]; exact Nat.lt_succ_of_lt hlt0, n1⟩
  have hwr : ∀ b ∈ [I], s₁.heap.objs.size ≤ b := fun b hb => by rw [List.mem_singleton.mp hb, hI]; exact Nat.le_refl _
  have hit' : ∀ i v d, ds[i]? = some d → vs.toArray[i]? = some v → Rep c.g c.S s₁.heap v d := fun i v d hd hP => rr.at (by simpa using hP) hd
  rw [show (Value.ref s₁.heap.objs.size) = .ref I by rw [hI]]
  show wpAny c.g.M c.A _ _ _ _
  rw [← hs₂]
  generalize [I] = wr at *
  generalize [I, a] = fp at *
  have hwfp : ∀ b ∈ wr, b ∈ fp := W.sub
  have X₂ := FrOk.grow X₁ k₂ B₂ (W := fun b => b ∈ wr) fun b hb => ⟨hwr b hb, (hfp b (hwfp b hb)).1⟩
  refine wpAny_runOwn ?_
  refine codeAny_forLoop_any (fun k s' => ∃ i F' O', k = ds.length + 1 - i ∧ i ≤ ds.length ∧ FrOk c.g c.env (fun b => c.Sc b ∨ b ∈ wr) F' (ρs i) O' s' ∧ (s'.heap.IsListIter I a i ∧ s'.heap.IsList a vs.toArray) ∧ Kp (fun b => c.F b ∨ b ∈ wr ∨ s₂.heap.objs.size ≤ b) s₂ s' ∧ (∀ b, F' b → c.F b ∨ s₂.heap.objs.size ≤ b)) ?_ (ds.length + 1)
    ⟨0, c.F, c.O, rfl, Nat.zero_le _, by rw [h0]; exact X₂, st, .refl _, fun b t => .inl t⟩
  rintro k s' ⟨i, F', O', rfl, hi, X', st', kk, hF⟩
  have hWF : ∀ b, b ∈ wr → ¬ F' b := by
    intro b hb t
    rcases hF b t with t | t
    · exact (hfp b (hwfp b hb)).2 (.inl t)
    · exact absurd (hfp b (hwfp b hb)).1 (Nat.not_lt.mpr t)
  have hW : ∀ b, b ∈ wr → (c.Sc b ∨ b ∈ wr) ∧ ¬ F' b ∧ (∀ o, c.g.h₀.get? b = some o → False) ∧ ∀ cc P, (cc, P) ∈ c.g.T → cc ≠ b ∧ P ≠ b := by
    intro b hb
    obtain ⟨n1, n2, n3⟩ := B₁.new (hwr b hb)
    exact ⟨.inr hb, hWF b hb, n2, fun cc P m => ⟨n3 cc P m, fun e => n1 (e ▸ ⟨cc, m⟩)⟩⟩
  have hs12 := k₂.size
  have hs2' := kk.size
  have wk : ∀ b, F' b → c.F b ∨ b ∈ wr ∨ s₂.heap.objs.size ≤ b := fun b t => (hF b t).imp id .inr
  have fpF : ∀ b ∈ fp, ¬ F' b := by
    intro b hb t
    rcases hF b t with t | t
    · exact (hfp b hb).2 (.inl t)
    · exact absurd (hfp b hb).1 (Nat.not_lt.mpr t)
  by_cases hlt : i < ds.length
  · refine with_size (W.item i s' _ _ hlt st' fun v h' tk hP st'' hk hsz => ?_)
    have kW : Kp (fun b => b ∈ wr) s' { s' with heap := h', toks := tk } := ⟨fun b o n e => hk b o n e, hsz, fun _ _ e => e, rfl⟩
    have X'' := FrOk.around X' kW X'.bs.bare hW
    obtain ⟨d, hd⟩ : ∃ d, ds[i]? = some d := ⟨ds[i], List.getElem?_eq_getElem hlt⟩
    have rv := hit' i v d hd hP
    have rv'' : Rep c.g (Sx F' (fun b => c.Sc b ∨ b ∈ wr)) h' v d := by
      refine rv.mono (fun b o nb e => ?_) ?_
      · have hb := Heap.lt_size e
        have nw : b ∉ wr := fun h => absurd hb (Nat.not_lt.mpr (hwr b h))
        refine hk b o nw (kk.heap b o ?_ (k₂.heap b o (fun t => nb (.inl (X.tF b t))) e))
        rintro (t | t | t)
        · exact nb (.inl t)
        · exact nw t
        · exact absurd hb (Nat.not_lt.mpr (Nat.le_trans k₂.size t))
      · rintro b hb (t | t | t)
        · rcases hF b t with t | t
          · exact .inl t
          · exact absurd hb (Nat.not_lt.mpr (Nat.le_trans k₂.size t))
        · exact .inr t
        · exact absurd hb (Nat.not_lt.mpr (hwr b t))
    refine letGo_list st''.1 ?_
    obtain ⟨ρ₁, fl, hfl, ha, hb⟩ := turn i d hd F' O' (fun b => c.Sc b ∨ b ∈ wr)
    refine with_size (ha _ X'' _ rv'' _ _ fun s₄ O₄ X₄ k₄ hsz4 => ?_)
    refine hb O₄ s₄ X₄ _ _ fun f s₅ F₅ O₅ X₅ k₅ g₅ r₅ => ?_
    have inv : ∃ m, m < ds.length + 1 - i ∧ ∃ i F' O', m = ds.length + 1 - i ∧ i ≤ ds.length ∧ FrOk c.g c.env (fun b => c.Sc b ∨ b ∈ wr) F' (ρs i) O' s₅ ∧ (s₅.heap.IsListIter I a i ∧ s₅.heap.IsList a vs.toArray) ∧ Kp (fun b => c.F b ∨ b ∈ wr ∨ s₂.heap.objs.size ≤ b) s₂ s₅ ∧ (∀ b, F' b → c.F b ∨ s₂.heap.objs.size ≤ b) := by
      refine ⟨ds.length + 1 - (i + 1), by omega, i + 1, F₅, O₅, rfl, hlt, X₅, ?_, ?_, ?_⟩
      · exact W.frame (i + 1) h' s₅.heap st'' fun b hb o e => k₅.heap b o (fpF b hb) (k₄.heap b o (fpF b hb) e)
      · exact ((kk.trans (kW.weaken fun b t => .inr (.inl t))).trans (k₄.weaken wk)).trans (k₅.weaken wk)
      · intro b t
        rcases g₅ b t with t | t
        · exact hF b t
        · exact .inr (Nat.le_trans (Nat.le_trans hs2' (Nat.le_trans hsz hsz4)) t)
    rcases hfl with rfl | rfl <;> cases r₅ <;> exact inv
  · have hin : i = ds.length := by omega
    subst hin
    refine with_size (W.done s' _ _ st' fun h' tk hk hsz => ?_)
    have kW : Kp (fun b => b ∈ wr) s' { s' with heap := h', toks := tk } := ⟨fun b o n e => hk b o n e, hsz, fun _ _ e => e, rfl⟩
    have X'' := FrOk.around X' kW X'.bs.bare hW
    have X3 := X''.dropS (Sc' := c.Sc) fun b t => .inl t
    refine wpAny_execs_nil (q .next _ F' O' X3 ?_ ?_ .next)
    · refine Kp.of_new ?_
      have a1 : Kp (fun b => c.F b ∨ s.heap.objs.size ≤ b) s s₂ := (k₁.trans k₂).weaken fun b t => .inl (X.tF b t)
      have a2 : ∀ b, (c.F b ∨ b ∈ wr ∨ s₂.heap.objs.size ≤ b) → c.F b ∨ s.heap.objs.size ≤ b := by
        rintro b (t | t | t)
        · exact .inl t
        · exact .inr (Nat.le_trans k₁.size (hwr b t))
        · exact .inr (Nat.le_trans (Nat.le_trans k₁.size k₂.size) t)
      exact (a1.trans (kk.weaken a2)).trans (kW.weaken fun b t => a2 b (.inr (.inl t)))
    · intro b t
      rcases hF b t with t | t
      · exact .inl t
      · exact .inr (Nat.le_trans (Nat.le_trans k₁.size k₂.size) t)
end
end J5
end
section
open PySem PySem.W PySem.W.X PyProof.Rows Builtin
set_option Elab.async false
set_option maxRecDepth 100000
set_option linter.unusedVariables false
namespace J5
section
variable {prog : Program} {w : World} {A : Around} {E : Value → Shared → Prop} {s : Shared}
theorem answers_of {g : Gd} {S : Addr → Prop} {s : Shared} {u : Value} {d : D} {Tx T : String} {r : Bool} (e : tyD d = some Tx) (ra : Rep g S s.heap u d) (hne : r = false → (Value.type Tx == Value.type T) = false) (hty : typeOf (.type T) = pure (.type "type")) (hsub : isSubtype (.type Tx) (.type T) = pure r) :
    Answers (fun s => s.TypeIs u Tx) u (.type T) r := by
  cases r with
  | true => exact .of_true hty hsub
  | false =>
    have hne := hne rfl
    cases ra <;> cases e
    · exact fun _ _ _ _ _ _ s hs => by obtain ⟨h, g, d, t, os⟩ := s; exact isinstance_nested_false_none hne hty hsub (hs.2 (t + 1))
    · exact .of_false_bool hne hty hsub
    · exact .of_false_int hne hty hsub
    · exact .of_false_str hne hty hsub
    · exact .of_false_tuple hne hty hsub
    · exact .of_false_list hne hty hsub
    · exact .of_false_set hne hty hsub
    · exact .of_false_dict hne hty hsub
end
theorem CallOk.isi_tup2 {g : Gd} {d : D} {Tx T T' : String} {r r' : Bool} (e : tyD d = some Tx) (hne : r = false → (Value.type Tx == Value.type T) = false) (hty : typeOf (.type T) = pure (.type "type")) (hsub : isSubtype (.type Tx) (.type T) = pure r)
    (hne' : r' = false → (Value.type Tx == Value.type T') = false) (hty' : typeOf (.type T') = pure (.type "type")) (hsub' : isSubtype (.type Tx) (.type T') = pure r') :
    CallOk g 1 (.builtin "isinstance") [d, .tup [.at (.type T), .at (.type T')]] [] [] (.bool (r || r')) := by
  intro A S s vs kvs R B hS hz ra rk
  cases ra with
  | cons q1 rn =>
    cases rn with
    | cons q2 rn =>
      cases rn; cases rk
      cases q2 with
      | tup n1 g1 rr =>
        cases rr with
        | cons t1 rr =>
          cases rr with
          | cons t2 rr =>
            cases rr
            cases t1; cases t2
            intro Q E q
            refine call_isinstance (isinstance_tuple (cs := [.type T, .type T']) (vs := [r, r']) (show _ ∧ _ ∧ True from ⟨answers_of e q1 hne hty hsub, answers_of e q1 hne' hty' hsub', trivial⟩)) ⟨tyD_sound e q1, g1, fun tk => ?_⟩
            have : [r, r'].any id = (r || r') := by simp
            rw [this]
            exact q _ _ (B.toks tk) (Kp.tok s tk) (.bool _)
theorem CallOk.set0 {g : Gd} : CallOk g 1 (.type "set") [] [] [] (.set []) := by
  intro A S s vs kvs R B hS hz ra rk
  cases ra; cases rk
  intro Q E q
  refine call_set_0 fun led => ?_
  refine q _ _ (B.fresh (Kp.push s _ s.toks) B.bare) (Kp.push s _ s.toks) (.set (es := []) (n := 0) (T := .fresh 0 0 led) (fun h => Nat.lt_irrefl _ (hz _ h)) (Heap.get?_push_size _ rfl) (by cases led <;> rfl) .nil)
/- keys -/
theorem meets_dict_keys {prog : Program} {w : World} {K : Type} [DecidableEq K] (knd : KeyKind prog w K) (d : Addr) (hd : (d == sysModules) = false) :
    MeetsIn prog w (Builtin.«dict.keys» ⟨[.ref d], []⟩) (fun _ R s => (∃ kvs, s.heap.DictOf knd d kvs) ∧
      R (.ok (.ret (.ref s.heap.objs.size))) { s with heap := s.heap.push { cls := .type "dict_keys", data := .fields #[.ref d] } }) :=
  .of_wp fun A R s ⟨⟨kvs, hm⟩, h⟩ => by
    refine wpAny_bind ?_
    unfold Builtin.Dict.noArgs
    refine wpAny_bind (wpAny_notOrdered_dict hm.typeIs ?_)
    show wpAny _ _ (pure d) _ _ s
    refine wpAny_pure ?_
    show wpAny _ _ (Builtin.Dict.showsAll d >>= _) _ _ s
    unfold Builtin.Dict.showsAll
    rw [if_neg (by rw [hd]; exact Bool.false_ne_true)]
    refine wpAny_bind (wpAny_pure ?_)
    exact wpAny_bind (wpAny_newObj_type (wpAny_pure ⟨_, rfl, h⟩))
theorem Mth.keys {c : Cx} {ks vs : List D} : Mth c (.dict ks vs) "keys" (.builtin "dict.keys") := by
  intro s X u r pl Q E q
  cases r with
  | dict n1 n2 h1 h2 rr => exact getMethod_builtin h1.typeIs PySem.F.plainAttrs_dict PySem.F.slot_dict_keys PySem.F.type_dict_keys (fun a e => by cases e; obtain ⟨o, _, _, ho, hx, _⟩ := h1; exact ⟨o, ho, hx.2.1⟩) q
theorem CallOk.keys {g : Gd} {ks vs : List D} : CallOk g 1 (.builtin "dict.keys") [.dict ks vs] [] [] (.keys ks vs) := by
  intro A S s us kvs R B hS hz ra rk
  cases ra with
  | cons q1 rn =>
    cases rn; cases rk
    cases q1 with
    | dict n1 n2 h1 h2 rr =>
      rename_i a kvs'
      intro Q E q
      refine call_meetsIn PySem.F.slot_dict_keys h1.typeIs PySem.F.entry_dict_keys (PySem.F.args_dict_keys_1 _) (meets_dict_keys g.kd _ n2) ⟨⟨_, h1⟩, ?_⟩
      have k := Kp.push (T := g.Tb) s { cls := .type "dict_keys", data := .fields #[.ref a] } s.toks
      exact q _ _ (B.fresh (Kp.push s _ s.toks) B.bare) k (.keys (fun h => Nat.lt_irrefl _ (hz _ h)) n1 n2 (Heap.get?_push_size _ rfl) (DictOf.keepAt h1 fun o e => Heap.get?_push_of_some _ e) h2 (rr.kept k hS))
theorem slot_keys_iter : PySem.Slot "dict_keys" "__iter__" "dict_keys.__iter__" :=
  .of (owner := "dict_keys") (n := "__iter__") (by rw [typeLookup_type, builtinLookup_eq_fast]; kernel_rfl) (by decide +kernel) (by decide +kernel) (by decide +kernel)
    (by first | exact .inl (by decide +kernel) | exact .inr (by decide +kernel)) (by rw [isSubtype_type]; kernel_rfl)
theorem entry_keys_iter : entryFor table "dict_keys.__iter__" = some Builtin.«dict_keys.__iter__» := entryFor_of_tree (by kernel_rfl)
theorem args_keys_iter (a : Value) : argsOk "dict_keys.__iter__" ⟨[a], []⟩ := by unfold argsOk; kernel_rfl
section
variable {prog : Program} {w : World} {K : Type} [DecidableEq K] {knd : KeyKind prog w K} {A : Around} {E : Value → Shared → Prop} {s : Shared}
theorem wpAny_pyIter_keys {v d : Addr} {kvs : List (K × Value)} {ep : Nat} {Q : Value → Shared → Prop} (hv : s.heap.get? v = some { cls := .type "dict_keys", data := .fields #[.ref d] }) (hm : s.heap.DictAt knd d kvs ep)
    (hQ : Q (.ref s.heap.objs.size) { s with heap := s.heap.push { cls := .type "dict_keyiterator", data := .fields #[.ref d, .int 0 0, .int kvs.length 0, .int ep 0] } }) :
    wpAny (model prog w) A (pyIter (.ref v)) Q E s := by
  obtain ⟨o, es, ho, hc, hdat, hk, hp, hn⟩ := id hm
  have hT : s.TypeIs (.ref v) "dict_keys" := ⟨_, hv, rfl⟩
  refine wpAny_pyIter_slot hT slot_keys_iter (wpAny_call_entry slot_keys_iter hT entry_keys_iter ?_ (args_keys_iter _))
  unfold Builtin.«dict_keys.__iter__»
  refine wpAny_bind (wpAny_pure ?_)
  refine wpAny_bind ?_
  unfold Builtin.Dict_items.dictOf
  refine wpAny_bind (wpAny_field hv rfl (x := .ref d) rfl (wpAny_pure ?_))
  refine wpAny_bind ?_
  unfold Builtin.Dict_items.newIterator
  refine wpAny_bind (wpAny_dictEntries ho hdat ?_)
  refine wpAny_bind (wpAny_dictEpoch ho hdat ?_)
  have hsz : es.size = kvs.length := by rw [← hp.length]; simp
  have hown : Builtin.Dict_items.ownsTuple "dict_keyiterator" = false := by decide
  simp only [hown, Bool.false_eq_true, if_false]
  refine wpAny_newObj_type (wpAny_pure ⟨_, rfl, "dict_keyiterator", _, ⟨_, Heap.get?_push_size _ rfl, rfl⟩, F.slot_dict_keyiterator_next.lookup, ?_⟩)
  simpa [rawInt, hsz] using hQ
end
section
variable {c : Cx}
theorem Iters.keys {s : Shared} {u : Value} {ks vs : List D} (X : c.At s) (hh : c.A.handled = none) (r : Rep c.g c.S s.heap u (.keys ks vs)) : Iters c s u ks := by
  intro Q E q
  cases r with
  | keys n0 n1 n2 g0 h1 h2 rr =>
    rename_i v a kvs
    obtain ⟨ep, hm⟩ := h1.dictAt
    have hlt := DictOf.lt h1
    refine wpAny_pyIter_keys g0 hm ?_
    have hsz : kvs.length = ks.length := by have := congrArg List.length h2; simpa using this
    refine q s.heap.objs.size [s.heap.objs.size, a] [s.heap.objs.size] _ _ _ (X.push _) (Kp.push s _ s.toks) (Eq.mp (congrArg (fun n => Walks c.g.prog c.g.w c.A _ _ _ n _ _) hsz) (Walks.dictKeys hh _ _ (Nat.ne_of_lt hlt) kvs ep)) ⟨⟨_, Heap.get?_push_size _ rfl, rfl, rfl⟩, hm.at' fun o e => Heap.get?_push_of_some _ e⟩ ?_ ?_ ?_
    · intro b hb
      rcases List.mem_cons.mp hb with rfl | hb
      · exact ⟨by show _ < (s.heap.push _).objs.size; rw [Heap.size_push]; exact Nat.lt_succ_self _, X.new⟩
      · rw [List.mem_singleton.mp hb]
        exact ⟨by show _ < (s.heap.push _).objs.size; rw [Heap.size_push]; exact Nat.lt_succ_of_lt hlt, n1⟩
    · intro b hb; rw [List.mem_singleton.mp hb]; exact Nat.le_refl _
    · rintro i v d hd ⟨k, x, hk, hv⟩
      exact keyRep h2 hk hd hv
end
/- d.get(k, x) -/
theorem Mth.get {c : Cx} {ks vs : List D} : Mth c (.dict ks vs) "get" (.builtin "dict.get") := by
  intro s X u r pl Q E q
  cases r with
  | dict n1 n2 h1 h2 rr => exact getMethod_builtin h1.typeIs PySem.F.plainAttrs_dict PySem.F.slot_dict_get PySem.F.type_dict_get (fun a e => by cases e; obtain ⟨o, _, _, ho, hx, _⟩ := h1; exact ⟨o, ho, hx.2.1⟩) q
theorem lookD_none {g : Gd} {S : Addr → Prop} {s : Shared} {k : List Nat} : ∀ {kvs : List (Str × Value)} {ks vs : List D}, kvs.map (fun p => some p.1) = ks.map kyD → Reps g S s.heap (kvs.map (·.2)) vs → lookD k ks vs = none → valueAt kvs (S? k) = none
  | [], ks, vs, e, r, h => rfl
  | (n, v) :: kvs, ks, vs, e, r, h => by
    cases ks with
    | nil => cases e
    | cons kd ks =>
      simp only [List.map_cons, List.cons.injEq] at e
      obtain ⟨e1, e2⟩ := e
      cases r with
      | cons r1 r2 =>
        cases kd <;> (first | (cases e1; done) | skip)
        rename_i x
        have en : n = S? x := by cases e1; rfl
        subst en
        unfold lookD at h
        split at h
        · cases h
        · rename_i hx
          unfold valueAt
          rw [List.find?_cons]
          have : decide (S? x = S? k) = false := by
            rw [decide_eq_false_iff_not]
            intro e
            have := Str_beq x k
            rw [e, beq_self_eq_true] at this
            exact hx this.symm
          dsimp only
          rw [this]
          exact lookD_none e2 r2 h
theorem CallOk.get2 {g : Gd} {ks vs : List D} {k : List Nat} {z : D} : CallOk g 1 (.builtin "dict.get") [.dict ks vs, .str k, z] [] [] ((lookD k ks vs).getD z) := by
  intro A S s us kvs R B hS hz ra rk
  cases ra with
  | cons q1 rn =>
    cases rn with
    | cons q2 rn =>
      cases rn with
      | cons q3 rn =>
        cases rn; cases rk
        cases q1 with
        | dict n1 n2 h1 h2 rr =>
          cases q2 with
          | str _ t =>
            intro Q E q
            refine call_meetsIn PySem.F.slot_dict_get h1.typeIs PySem.F.entry_dict_get (PySem.F.args_dict_get_3 _ _ _) (meets_dict_get_default g.kd (k := S? k) _ (by show (S? k == S? k) = true; exact beq_self_eq_true _) n2 _) ⟨_, h1.mapOf, ?_⟩
            have fin : ∀ v, Rep g S s.heap v ((lookD k ks vs).getD z) → wants Q E (.ok (.ret v)) { s with toks := s.toks + 1 } := fun v r => q v _ (B.toks _) (Kp.tok s _) r
            refine fin _ ?_
            cases hl : lookD k ks vs with
            | some d =>
              obtain ⟨v, hv, rv⟩ := lookD_sound h2 rr hl
              rw [hv]; exact rv
            | none =>
              rw [lookD_none h2 rr hl]; exact q3
end J5
end
section
open PySem PySem.W PySem.W.X PyProof.Rows Builtin
set_option Elab.async false
set_option maxRecDepth 100000
set_option linter.unusedVariables false
namespace J5
section
variable {c : Cx}
/- x[i:] of a text -/
theorem slice_from (x : List Nat) (i : Nat) (h : i ≤ x.length) : Txt.slice (S? x) (some (i : Int)) none = S? (x.drop i) := by
  have e : Txt.slice (S? x) (some (i : Int)) none = Txt.slice (S? x) (some (i : Int)) (some ((S? x).length : Int)) := by
    unfold Txt.slice
    rw [StrLaws.sliceIdx_none_hi]
  rw [e]
  have e2 : Txt.slice (S? x) (some (i : Int)) (some ((S? x).length : Int)) = StrLaws.sliceText (S? x) (some (i : Int)) (some ((S? x).length : Int)) := rfl
  rw [e2, StrLaws.sliceText_nat (S? x) (a := i) (b := (S? x).length) (by rw [S?_length]; exact h) (Nat.le_refl _), S?_length]
  show (⟨((x.drop i).take (x.length - i)).toArray⟩ : Str) = ⟨(x.drop i).toArray⟩
  rw [List.take_of_length_le (by simp)]
theorem Ev.sliceFrom {value l : Expr} {p pos : Pos} {x : List Nat} {i : Nat} (h₁ : Ev c (eval value c.env) (.str x)) (h₂ : Ev c (eval l c.env) (.int i)) (hi : i ≤ x.length) (hx : x.length ≤ sizeLine)
    (ht : ∀ o r, letTemporaryGo value o r = pure ()) : Ev c (eval (.Subscript value (.Slice (some l) none none p) pos) c.env) (.str (x.drop i)) := by
  intro s X Q E q
  refine Subscript_Slice ?_ ht
  refine h₁ s X _ _ fun u s₁ B₁ k₁ r₁ => ?_
  have X₁ := X.kp k₁ B₁
  refine wpAny_Slice (h₂ s₁ X₁ _ _ fun v s₂ B₂ k₂ r₂ => wpAny_pure (wpAny_pure ?_))
  have X₂ := X₁.kp k₂ B₂
  cases r₁ with
  | str _ t =>
    cases r₂ with
    | int _ u =>
      have k₃ := Kp.push (T := c.g.Tb) s₂ { cls := .type "slice", data := .fields #[.int i u, .none, .none] } s₂.toks
      refine ⟨"str", _, F.slot_str_getitem.lookup, typeIs_str _ _ _, wpAny_getItem_str_slice (l := some (i, u)) (u := none) (st := none) ⟨_, Heap.get?_push_size _ rfl, rfl, rfl⟩ rfl
        (post_val_or_str ⟨Nat.le_trans (Txt.slice_le (S? x) (some (i : Int)) none) (by rw [S?_length]; exact hx), fun t' k => ?_⟩)⟩
      refine q _ _ ((X₂.push _).toks _) ((k₁.trans k₂).trans (k₃.trans (Kp.tok _ _))) ?_
      show Rep _ _ _ (.str (Txt.slice (S? x) (some (i : Int)) none) t') _
      rw [slice_from x i hi]
      exact .str _ _
/- {k: v, ..} -/
def Prs (c : Cx) (t : List (Sem Value × Sem Value)) (ks vs : List D) : Prop :=
  ∀ s, c.At s → ∀ (Q : List (Value × Value) → Shared → Prop) (E : Value → Shared → Prop), (∀ l s', Bs c.g s' → Kp c.g.Tb s s' → Reps c.g c.S s'.heap (l.map (·.1)) ks → Reps c.g c.S s'.heap (l.map (·.2)) vs → Q l s') → wpAny c.g.M c.A (evalPairs t) Q E s
theorem Prs.nil : Prs c [] [] [] := fun s X Q E q => wpAny_pure (q [] s X.bs (.refl s) .nil .nil)
theorem Prs.cons {a b : Sem Value} {rest : List (Sem Value × Sem Value)} {k v : D} {ks vs : List D} (h₁ : Ev c a k) (h₂ : Ev c b v) (hr : Prs c rest ks vs) : Prs c ((a, b) :: rest) (k :: ks) (v :: vs) := by
  intro s X Q E q
  refine evalPairs_cons ?_
  refine h₁ s X _ _ fun u s₁ B₁ k₁ r₁ => ?_
  have X₁ := X.kp k₁ B₁
  refine h₂ s₁ X₁ _ _ fun u₂ s₂ B₂ k₂ r₂ => ?_
  have X₂ := X₁.kp k₂ B₂
  refine hr s₂ X₂ _ _ fun l s₃ B₃ k₃ q₁ q₂ => ?_
  exact q _ s₃ B₃ ((k₁.trans k₂).trans k₃) (.cons (X₂.rep k₃ (X₁.rep k₂ r₁)) q₁) (.cons (X₂.rep k₃ r₂) q₂)
/- a value that is evaluated and then stood at -/
theorem Ev.stood {t : Sem Value} {pos : Pos} {d : D} (h : Ev c t d) : Ev c (do let x ← t; standAt pos; pure x) d := by
  intro s X Q E q
  exact wpAny_bind (h s X _ _ fun u s₁ B₁ k₁ r₁ => wpAny_bind (wpAny_standAt (wpAny_pure (q u s₁ B₁ k₁ r₁))))
theorem carries_of {g : Gd} {S : Addr → Prop} {h : Heap} : ∀ {l : List (Value × Value)} {ks : List (List Nat)} {vs : List D}, Reps g S h (l.map (·.1)) (ks.map .str) → Reps g S h (l.map (·.2)) vs → Carries g.kd l ((ks.map S?).zip (l.map (·.2)))
  | [], ks, vs, a, b => by
    cases ks with
    | nil => trivial
    | cons _ _ => cases a
  | (u, v) :: l, ks, vs, a, b => by
    cases ks with
    | nil => cases a
    | cons k ks =>
      cases a with
      | cons a1 a2 =>
        cases b with
        | cons b1 b2 =>
          cases a1 with
          | str _ t => exact ⟨by show (S? k == S? k) = true; exact beq_self_eq_true _, rfl, carries_of a2 b2⟩
theorem Ev.dict {keys : List (Option Expr)} {values : List Expr} {pos : Pos} {pairs : List (Sem Value × Sem Value)} {ks : List (List Nat)} {vs : List D} (G : Gok c.g)
    (hshape : (evalEachOpt keys c.env).zip ((evalEach values c.env).map fun v => do let x ← v; standAt pos; pure x) = pairs.map fun p => (some p.1, p.2)) (h0 : pairs ≠ []) (hlen : pairs.length ≤ 15)
    (h : ∀ Sc', Prs ⟨c.g, c.A, c.env, Sc', c.F, c.ρ, c.O⟩ pairs (ks.map .str) vs) (hd : ks.Nodup) : Ev c (eval (.Dict keys values pos) c.env) (.dict (ks.map .str) vs) := by
  intro s X Q E q
  refine wpAny_Dict_pairs (knd := c.g.kd) hshape h0 hlen ?_
  have k₁ := Kp.push (T := c.g.Tb) s { cls := .type "dict", data := .dict #[] } s.toks
  have hsz : (s.heap.push { cls := .type "dict", data := .dict #[] }).objs.size = s.heap.objs.size + 1 := Heap.size_push ..
  have X₁ : FrOk c.g c.env (fun b => c.Sc b ∨ b = s.heap.objs.size) c.F c.ρ c.O { s with heap := s.heap.push { cls := .type "dict", data := .dict #[] } } :=
    FrOk.grow X k₁ (X.push _) (W := fun b => b = s.heap.objs.size) fun b e => by subst e; exact ⟨Nat.le_refl _, by show _ < (s.heap.push _).objs.size; rw [hsz]; exact Nat.lt_succ_self _⟩
  have g0 : ({ s with heap := s.heap.push { cls := .type "dict", data := .dict #[] } } : Shared).heap.get? s.heap.objs.size = some { cls := .type "dict", data := .dict #[] } := Heap.get?_push_size _ rfl
  have nT : ¬ c.g.Tb s.heap.objs.size := fun t => Nat.lt_irrefl _ (X.fS _ (X.tF _ t))
  have hz1 : s.heap.objs.size < ({ s with heap := s.heap.push { cls := .type "dict", data := .dict #[] } } : Shared).heap.objs.size := by show _ < (s.heap.push _).objs.size; rw [hsz]; exact Nat.lt_succ_self _
  refine h (fun b => c.Sc b ∨ b = s.heap.objs.size) _ X₁ _ _ fun l s₂ B₂ k₂ q₁ q₂ => ?_
  have hl : (l.map (·.2)).length = (ks.map S?).length := by have := q₁.length; simp at this ⊢; exact this
  have hmap1 : ((ks.map S?).zip (l.map (·.2))).map (·.1) = ks.map S? := List.map_fst_zip (by omega)
  have hmap2 : ((ks.map S?).zip (l.map (·.2))).map (·.2) = l.map (·.2) := List.map_snd_zip (by omega)
  have hnd : (((ks.map S?).zip (l.map (·.2))).map (·.1)).Nodup := by
    rw [hmap1]
    refine List.Pairwise.map _ (fun a b hab e => hab ?_) hd
    have := congrArg (fun z : Str => z.cps.toList) e
    simpa [S?] using this
  refine ⟨(ks.map S?).zip (l.map (·.2)), carries_of q₁ q₂, ⟨_, #[], 0, k₂.heap _ _ nT g0, ⟨rfl, rfl, rfl⟩, rfl, ?_, ?_, List.nodup_nil⟩, fun h' hdict hsb => ?_⟩
  · exact fun e he => absurd he (by simp)
  · first | trivial | exact .nil | constructor
  · have kk : Kp c.g.Tb s { s₂ with heap := h', toks := s₂.toks + l.length } := by
      refine Kp.of_new ?_
      have k₃ : Kp (fun b => c.g.Tb b ∨ s.heap.objs.size ≤ b) s₂ { s₂ with heap := h', toks := s₂.toks + l.length } := ⟨fun b o n e => (hsb.2 b fun q => n (.inr (Nat.le_of_eq q.symm))).trans e, Nat.le_of_eq hsb.1.symm, fun _ _ e => e, rfl⟩
      exact ((k₁.trans k₂).weaken fun b t => .inl t).trans k₃
    have kF : Kp (fun b => b = s.heap.objs.size) s₂ { s₂ with heap := h', toks := s₂.toks + l.length } := ⟨fun b o n e => (hsb.2 b n).trans e, Nat.le_of_eq hsb.1.symm, fun _ _ e => e, rfl⟩
    have hnew := X.bs.new (b := s.heap.objs.size) (Nat.le_refl _)
    refine q _ _ (B₂.kp kF (fun b o e q => by subst e; exact hnew.2.1 o q) (fun cc P m => ⟨hnew.2.2 cc P m, fun e => hnew.1 (e ▸ ⟨cc, m⟩)⟩) B₂.bare) kk ?_
    rw [merged_nil_of_nodup _ hnd] at hdict
    refine .dict X.new (beq_eq_false_iff_ne.mpr (Nat.ne_of_gt (modules_low (X.bs.nl G)))) hdict ?_ ?_
    · have : ((ks.map S?).zip (l.map (·.2))).map (fun p => some p.1) = (((ks.map S?).zip (l.map (·.2))).map (·.1)).map some := by rw [List.map_map]; rfl
      rw [this, hmap1, List.map_map, List.map_map]; rfl
    · rw [hmap2]
      refine q₂.mono (fun b o nb e => ?_) ?_
      · refine (hsb.2 b fun e => ?_).trans e
        exact nb (.inr (.inr e))
      · rintro b _ (t | t)
        · exact .inl t
        · exact .inr (.inl t)
end
end J5
end
section
open PySem PySem.W PySem.W.X PyProof.Rows Builtin
set_option Elab.async false
set_option maxRecDepth 100000
set_option linter.unusedVariables false
namespace J5
theorem A_ne {a b c : Nat} (h : a < b) (h2 : b ≤ c) : a ≠ c := by omega
theorem A_ne' {a b c : Nat} (h : a < b) (h2 : b ≤ c) : c ≠ a := by omega
theorem A_no {a b c : Nat} {p : Prop} (h : a < b) (h2 : b ≤ c) (e : a = c) : p := by omega
theorem A_nl {a b c : Nat} {p : Prop} (h : a < b) (h2 : b ≤ c) (h3 : c ≤ a) : p := by omega
theorem FrOk.forget {g : Gd} {env : Env} {Sc F : Addr → Prop} {ρ ρ' : Rho} {O : Str → Option Addr} {s : Shared} (X : FrOk g env Sc F ρ O s) (h : ∀ x sl, ρ'.lookup x = some sl → ρ.lookup x = some sl) : FrOk g env Sc F ρ' O s :=
  let ⟨m, hm, hx⟩ := X.at_
  ⟨X.bs, X.kind, X.gl, X.bi, X.tF, X.tS, X.fS, X.L, X.own, X.cL, X.lT, X.nw, X.cF, m, hm, fun x sl e => hx x sl (h x sl e)⟩
/- names that a block within takes from around it -/
def Taken (env env' : Env) (ρ ρc : Rho) : Prop :=
  ∀ y sl, ρc.lookup y = some sl → ∃ d cc, sl = .val d ∧ ρ.lookup y = some (.val d) ∧ env.kindOf y ≠ some .local ∧ env.cells.lookup y = some cc ∧ env'.cells.lookup y = some cc ∧ (env'.kindOf y = some .cell ∨ (env'.kindOf y = some .free ∧ (y == ("__classdict__" : Str)) = false))
/- the frame of a block within -/
def innerF (g : Gd) (env' : Env) : Addr → Prop := fun b => g.Tb b ∨ b = env'.locals ∨ ∃ y, env'.cells.lookup y = some b
theorem FrOk.inner {g : Gd} {env env' : Env} {Sc F : Addr → Prop} {ρ ρc : Rho} {O : Str → Option Addr} {s : Shared} {m' : Str → Option Value} (X : FrOk g env Sc F ρ O s) (hk : env'.scope.kind = .function) (hgl : env'.globals = mainGlobals) (hbi : env'.builtins = builtinsNs)
    (hS : Sc env'.locals) (hF : ¬ F env'.locals) (hT : ¬ g.Tb env'.locals) (hn : (∀ o, g.h₀.get? env'.locals = some o → False) ∧ ∀ c P, (c, P) ∈ g.T → c ≠ env'.locals) (hns : s.heap.Ns env'.locals m') (hc : ∀ y cc, env'.cells.lookup y = some cc → env.cells.lookup y = some cc)
    (ht : Taken env env' ρ ρc) : FrOk g env' (Sx F Sc) (innerF g env') ρc (fun _ => none) s := by
  obtain ⟨m, hm, hx⟩ := X.at_
  refine ⟨X.bs, hk, hgl, hbi, fun b t => .inl t, fun b t => t.elim (X.fS b) (X.tS b), ?_, .inr (.inl rfl), (fun _ _ h => by cases h), ?_, hT, ?_, fun y cc e => ⟨.inr (.inr ⟨y, e⟩), (X.cF y cc (hc y cc e)).2⟩, m', hns, ?_⟩
  · rintro b (t | rfl | ⟨y, e⟩)
    · exact X.fS b (X.tF b t)
    · exact X.tS _ hS
    · exact X.fS b (X.cF y b (hc y b e)).1
  · intro y cc e
    obtain ⟨h1, h2, h3⟩ := X.cL y cc (hc y cc e)
    exact ⟨fun q => hF (q ▸ (X.cF y cc (hc y cc e)).1), h2, fun z hz => h3 z (hc z cc hz)⟩
  · rintro b (t | rfl | ⟨y, e⟩) nt
    · exact absurd t nt
    · exact hn
    · exact X.nw b (X.cF y b (hc y b e)).1 nt
  · intro y sl e
    obtain ⟨d, cc, rfl, h1, h2, h3, h4, h5⟩ := ht y sl e
    obtain ⟨v, ha, hsl⟩ := hx y _ h1
    have hcell : s.heap.IsCell cc (some v) := by
      cases ha with
      | loc a b => exact absurd a h2
      | cell a b q => rw [h3] at b; cases b; exact q
      | free a n b q => rw [h3] at b; cases b; exact q
    refine ⟨v, ?_, ?_⟩
    · rcases h5 with h | ⟨h, h'⟩
      · exact .cell h h4 hcell
      · exact .free h h' h4 hcell
    · cases hsl with
      | val r =>
        refine .val (r.mono (fun _ _ _ e => e) ?_)
        rintro b _ ((t | rfl | ⟨y, e⟩) | t)
        · exact .inl (X.tF b t)
        · exact .inr hS
        · exact .inl (X.cF y b (hc y b e)).1
        · exact t
section
variable {c : Cx}
/- tests of a comprehension -/
def TrAll (c : Cx) (ifs : List Expr) (b : Bool) : Prop :=
  ∀ s, c.At s → ∀ (Q : Bool → Shared → Prop) (E : Value → Shared → Prop), (∀ s', Bs c.g s' → Kp c.g.Tb s s' → Q b s') →
    wpAny c.g.M c.A (forIn ifs true fun t r => if r = true then do let ok ← isTrue t c.env (eval t c.env); pure (ForInStep.yield ok) else pure (ForInStep.yield r)) Q E s
theorem TrAll.nil : TrAll c [] true := fun s X Q E q => wpAny_tests_nil (q s X.bs (.refl s))
theorem TrAll.one {t : Expr} {b : Bool} (h : Tr c (isTrue t c.env (eval t c.env)) b) : TrAll c [t] b := fun s X Q E q => wpAny_tests_one (h s X Q E q)
theorem Ev.listcomp {elt iter : Expr} {x : Str} {px pos : Pos} {ifs : List Expr} {scope : Scope} {cl : List (Str × Addr)} {a : D} {ds : List D} (okf : D → Bool) (f : D → D) (ρc : Rho) (G : Gok c.g)
    (h : Ev c (eval iter c.env) a) (hit : ∀ s u, c.At s → Rep c.g c.S s.heap u a → Iters c s u ds) (hlen : ds.length ≤ sizeLine)
    (hclos : closureFor scope c.env = pure cl) (hcell : ∀ y ∈ scope.names, y.2 ≠ .cell) (hkind : scope.kind = .function) (hnames : ∀ y ∈ scope.names, y.2 = .local → scope.names.lookup y.1 = some .local) (hx : scope.names.lookup x = some .local)
    (hc : ∀ y cc, cl.lookup y = some cc → c.env.cells.lookup y = some cc) (ht : ∀ L', Taken c.env (compEnvC scope cl L' c.env) c.ρ ρc) (hρx : ρc.lookup x = none)
    (turn : ∀ (i : Nat) d, ds[i]? = some d → ∀ L' Sc' F' O', TrAll ⟨c.g, c.A, compEnvC scope cl L' c.env, Sc', F', upd x (.val d) ρc, O'⟩ ifs (okf d) ∧ (okf d = true → Ev ⟨c.g, c.A, compEnvC scope cl L' c.env, Sc', F', upd x (.val d) ρc, O'⟩ (eval elt (compEnvC scope cl L' c.env)) (f d)))
    (hs : ∀ v, foldedSetIterable iter c.env v = pure v) : Ev c (eval (.ListComp elt [⟨.Name x px, iter, ifs, 0⟩] scope pos) c.env) (.list ((ds.filter okf).map f)) := by
  intro s X Q E q
  rw [eval_ListComp]
  refine wpAny_comprehension_free (use := none) rfl hs hclos hkind hnames (h s X _ _ fun u s₁ B₁ k₁ r₁ => ?_)
  have X₁ := X.kp k₁ B₁
  refine hit s₁ u X₁ r₁ _ _ fun I fp wr P St' s₂ B₂ k₂ W st hfp hwr hit' => ?_
  have hwfp : ∀ b ∈ wr, b ∈ fp := W.sub
  refine wpAny_newObj_type (wpAny_newFunctionEnv hcell (by intro y hy; simp at hy) (fun h₁ hns₁ hsb₁ => ?_) hkind)
  dsimp only at hns₁ hsb₁ ⊢
  -- D, C
  obtain ⟨D, hD⟩ : ∃ D, D = s₂.heap.objs.size := ⟨_, rfl⟩
  have hCs : (s₂.heap.push { cls := .type "list", data := .seq ([] : List Value).toArray }).objs.size = D + 1 := by rw [Heap.size_push, hD]
  obtain ⟨C, hC⟩ : ∃ C, C = D + 1 := ⟨_, rfl⟩
  rw [hCs, ← hC] at hns₁ hsb₁
  have hs12 := k₂.size
  have hz₁ : h₁.objs.size = D + 2 := by rw [hsb₁.1, Heap.size_push, hCs]
  obtain ⟨s₄, hs₄⟩ : ∃ s₄ : Shared, s₄ = { s₂ with heap := h₁, toks := s₂.toks + ([] : List (Str × Value)).length } := ⟨_, rfl⟩
  have old : ∀ b o, s₂.heap.get? b = some o → h₁.get? b = some o := fun b o e => by
    have hb := Heap.lt_size e
    exact (hsb₁.2 b (A_ne hb (by omega))).trans (Heap.get?_push_of_some _ (Heap.get?_push_of_some _ e))
  have k₄ : Kp (fun b => s₂.heap.objs.size ≤ b) s₂ s₄ := by
    subst hs₄
    exact ⟨fun b o _ e => old b o e, by show s₂.heap.objs.size ≤ h₁.objs.size; omega, fun _ _ e => e, rfl⟩
  have hh4 : s₄.heap = h₁ := by rw [hs₄]
  have B₄ : Bs c.g s₄ := B₂.fresh k₄ (by rw [hs₄]; exact B₂.bare)
  have k₄' : Kp c.g.Tb s₂ s₄ := Kp.of_new (k₄.weaken fun b t => .inr t)
  have gD : s₄.heap.get? D = some { cls := .type "list", data := .seq ([] : List Value).toArray } := by
    rw [hh4, hsb₁.2 D (A_ne (Nat.lt_succ_self D) (Nat.le_of_eq hC.symm)), hD]
    exact Heap.get?_push_of_some _ (Heap.get?_push_size _ rfl)
  have hD1 : s₁.heap.objs.size ≤ D := hD ▸ hs12
  have hC1 : s₁.heap.objs.size ≤ C := hC ▸ Nat.le_succ_of_le hD1
  have hz4 : s₄.heap.objs.size = D + 2 := by rw [hh4, hz₁]
  have hD4 : D < s₄.heap.objs.size := by rw [hz4]; exact Nat.lt_succ_of_lt (Nat.lt_succ_self D)
  have hC4 : C < s₄.heap.objs.size := by rw [hz4, hC]; exact Nat.lt_succ_self _
  have hDC : D < C := by rw [hC]; exact Nat.lt_succ_self _
  have hwD : ∀ b ∈ fp, b < D := fun b hb => hD ▸ (hfp b hb).1
  have XG := FrOk.grow X₁ (k₂.trans k₄') B₄ (W := fun b => b ∈ wr ∨ b = D ∨ b = C) (by
    rintro b (hb | rfl | rfl)
    · exact ⟨hwr b hb, Nat.lt_trans (hwD b (hwfp b hb)) hD4⟩
    · exact ⟨hD1, hD4⟩
    · exact ⟨hC1, hC4⟩)
  have nC := B₁.new (b := C) hC1
  have nD := B₁.new (b := D) hD1
  have hFlt : ∀ b, c.F b → b < s₁.heap.objs.size := X₁.fS
  have hCF : ¬ c.F C := fun t => A_nl (hFlt _ t) hC1 (Nat.le_refl _)
  have hDF : ¬ c.F D := fun t => A_nl (hFlt _ t) hD1 (Nat.le_refl _)
  have XI : FrOk c.g (compEnvC scope cl C c.env) (Sx c.F fun b => c.Sc b ∨ b ∈ wr ∨ b = D ∨ b = C) (innerF c.g (compEnvC scope cl C c.env)) ρc (fun _ => none) s₄ :=
    FrOk.inner XG (by show (relabel scope c.env).kind = _; exact hkind) X.gl X.bi (.inr (.inr (.inr rfl))) hCF nC.1 nC.2 (by rw [hh4]; exact hns₁) hc (ht C)
  have st₄ : St' 0 s₄.heap := W.frame 0 _ _ st fun b _ o e => by rw [hh4]; exact old b o e
  have inF : ∀ b, innerF c.g (compEnvC scope cl C c.env) b → c.F b ∨ b = C := by
    rintro b (t | t | ⟨y, e⟩)
    · exact .inl (X.tF b t)
    · exact .inr t
    · exact .inl (X.cF y b (hc y b e)).1
  have loop : codeAny c.g.M c.A (.compLoop (.ListComp elt [⟨.Name x px, iter, ifs, 0⟩] scope pos) 0 (.ref I) (.ref D) (compEnvC scope cl C c.env))
      (compPost c.g.M c.A E none Q (.ref D) C) s₄ := by
    refine codeAny_compLoop_tests (fun k s' => ∃ i vs nn O', k = ds.length + 1 - i ∧ i ≤ ds.length ∧ FrOk c.g (compEnvC scope cl C c.env) (Sx c.F fun b => c.Sc b ∨ b ∈ wr ∨ b = D ∨ b = C) (innerF c.g (compEnvC scope cl C c.env)) ρc O' s' ∧ St' i s'.heap ∧
        s'.heap.get? D = some { cls := .type "list", data := .seq vs.toArray nn } ∧ Reps c.g (Sx c.F fun b => c.Sc b ∨ b ∈ wr ∨ b = D ∨ b = C) s'.heap vs (((ds.take i).filter okf).map f) ∧ Kp (fun b => c.g.Tb b ∨ s₁.heap.objs.size ≤ b) s₁ s') ?_ (ds.length + 1)
      ⟨0, [], 0, _, rfl, Nat.zero_le _, XI, st₄, gD, .nil, (k₂.trans k₄').weaken fun b t => .inl t⟩
    rintro k s' ⟨i, vs, nn, O', rfl, hi, X', st', gD', rvs, kk⟩
    have fpF : ∀ b ∈ fp, ¬ innerF c.g (compEnvC scope cl C c.env) b := by
      intro b hb t
      rcases inF b t with t | t
      · exact (hfp b hb).2 (.inl t)
      · exact A_no (hwD b hb) (Nat.le_of_lt hDC) t
    have hWw : ∀ b, b ∈ wr → (Sx c.F (fun b => c.Sc b ∨ b ∈ wr ∨ b = D ∨ b = C)) b ∧ ¬ innerF c.g (compEnvC scope cl C c.env) b ∧ (∀ o, c.g.h₀.get? b = some o → False) ∧ ∀ cc P, (cc, P) ∈ c.g.T → cc ≠ b ∧ P ≠ b := by
      intro b hb
      obtain ⟨n1, n2, n3⟩ := B₁.new (hwr b hb)
      exact ⟨.inr (.inr (.inl hb)), fpF b (hwfp b hb), n2, fun cc P m => ⟨n3 cc P m, fun e => n1 (e ▸ ⟨cc, m⟩)⟩⟩
    have hWD : ∀ b, b = D → (Sx c.F (fun b => c.Sc b ∨ b ∈ wr ∨ b = D ∨ b = C)) b ∧ ¬ innerF c.g (compEnvC scope cl C c.env) b ∧ (∀ o, c.g.h₀.get? b = some o → False) ∧ ∀ cc P, (cc, P) ∈ c.g.T → cc ≠ b ∧ P ≠ b := by
      rintro b rfl
      refine ⟨.inr (.inr (.inr (.inl rfl))), fun t => ?_, nD.2.1, fun cc P m => ⟨nD.2.2 cc P m, fun e => nD.1 (e ▸ ⟨cc, m⟩)⟩⟩
      rcases inF b t with t | t
      · exact hDF t
      · exact A_no hDC (Nat.le_refl _) t
    have hDfp : D ∉ fp := fun hb => Nat.lt_irrefl _ (hwD D hb)
    have hDwr : D ∉ wr := fun hb => hDfp (hwfp D hb)
    have nTlt : ∀ b, c.g.Tb b → b < s₁.heap.objs.size := fun b t => hFlt b (X.tF b t)
    have hk12 : ∀ b, b < s₁.heap.objs.size → ¬ c.g.Tb b → ∀ o, s₁.heap.get? b = some o → s'.heap.get? b = some o := fun b hb nt o e => kk.heap b o (fun t => t.elim nt fun t => absurd hb (Nat.not_lt.mpr t)) e
    by_cases hlt : i < ds.length
    · refine with_size (W.item i s' _ _ hlt st' fun v h' tk hP st'' hk hsz => ?_)
      have kW : Kp (fun b => b ∈ wr) s' { s' with heap := h', toks := tk } := ⟨fun b o n e => hk b o n e, hsz, fun _ _ e => e, rfl⟩
      have X'' := FrOk.around X' kW X'.bs.bare hWw
      obtain ⟨d, hd⟩ : ∃ d, ds[i]? = some d := ⟨ds[i], List.getElem?_eq_getElem hlt⟩
      have rv := hit' i v d hd hP
      have rv'' : Rep c.g (Sx (innerF c.g (compEnvC scope cl C c.env)) (Sx c.F fun b => c.Sc b ∨ b ∈ wr ∨ b = D ∨ b = C)) h' v d := by
        refine rv.mono (fun b o nb e => ?_) ?_
        · have hb := Heap.lt_size e
          have nw : b ∉ wr := fun h => absurd hb (Nat.not_lt.mpr (hwr b h))
          exact hk b o nw (hk12 b hb (fun t => nb (.inl (X.tF b t))) o e)
        · rintro b hb (t | t | t | t | t | t)
          · rcases inF b t with t | t
            · exact .inl t
            · exact A_no hb hC1 t
          · exact .inl t
          · exact .inr t
          · exact absurd hb (Nat.not_lt.mpr (hwr b t))
          · exact A_no hb hD1 t
          · exact A_no hb hC1 t
      refine wpAny_assign_Name (FrOk.storeL X'' (lookup_relabel_local hx) rv'' fun s₅ X₅ k₅ => ?_)
      obtain ⟨tt, te⟩ := turn i d hd C _ _ (dropO x O')
      refine tt s₅ X₅ _ _ fun s₆ B₆ k₆ => ?_
      have X₆ := X₅.kp k₆ B₆
      have gD6 : s₆.heap.get? D = some { cls := .type "list", data := .seq vs.toArray nn } := k₆.heap D _ nD.1 (k₅.heap D _ (A_ne hDC (Nat.le_refl _)) (hk D _ hDwr gD'))
      have rvs6 : Reps c.g (Sx c.F fun b => c.Sc b ∨ b ∈ wr ∨ b = D ∨ b = C) s₆.heap vs (((ds.take i).filter okf).map f) :=
        ((rvs.kept kW fun b t => .inr (.inr (.inl t))).kept k₅ fun b t => .inr (.inr (.inr (.inr t)))).kept k₆ fun b t => .inl (X.tF b t)
      have hCfp : ∀ b ∈ fp, b ≠ C := fun b hb => A_ne (hwD b hb) (Nat.le_of_lt hDC)
      have st6 : St' (i + 1) s₆.heap := W.frame (i + 1) h' s₆.heap st'' fun b hb o e => k₆.heap b o (fun t => fpF b hb (.inl t)) (k₅.heap b o (hCfp b hb) e)
      have kk6 : Kp (fun b => c.g.Tb b ∨ s₁.heap.objs.size ≤ b) s₁ s₆ :=
        ((kk.trans (kW.weaken fun b t => .inr (hwr b t))).trans (k₅.weaken fun b t => .inr (by rw [show b = C from t]; exact hC1))).trans (k₆.weaken fun b t => .inl t)
      have X6' : FrOk c.g (compEnvC scope cl C c.env) (Sx c.F fun b => c.Sc b ∨ b ∈ wr ∨ b = D ∨ b = C) (innerF c.g (compEnvC scope cl C c.env)) ρc (dropO x O') s₆ := FrOk.forget X₆ fun y sl e => by
        rw [lookup_upd, if_neg]
        · exact e
        · rintro rfl; rw [hρx] at e; cases e
      have htake : ((ds.take (i + 1)).filter okf).map f = ((ds.take i).filter okf).map f ++ (if okf d then [f d] else []) := by
        rw [take_succ_filter okf ds i d hd, List.map_append]
        cases okf d <;> rfl
      cases hok : okf d with
      | false =>
        simp only [Bool.false_eq_true, if_false]
        exact ⟨ds.length + 1 - (i + 1), by omega, i + 1, vs, nn, _, rfl, hlt, X6', st6, gD6, by rw [htake, hok]; simpa using rvs6, kk6⟩
      | true =>
        simp only [if_true]
        refine te hok s₆ X₆ _ _ fun y s₇ B₇ k₇ r₇ => ?_
        have X7 := FrOk.kp X6' k₇ B₇
        have gD7 := k₇.heap D _ nD.1 gD6
        have rvs7 := rvs6.kept k₇ fun b t => .inl (X.tF b t)
        have st7 : St' (i + 1) s₇.heap := W.frame (i + 1) _ s₇.heap st6 fun b hb o e => k₇.heap b o (fun t => fpF b hb (.inl t)) e
        have r7' : Rep c.g (Sx c.F fun b => c.Sc b ∨ b ∈ wr ∨ b = D ∨ b = C) s₇.heap y (f d) := r₇.mono (fun _ _ _ e => e) fun b _ t => .inr t
        have hvl : vs.length ≤ ds.length := by
          rw [rvs.length, List.length_map]
          exact Nat.le_trans (List.length_filter_le _ _) (by rw [List.length_take]; exact Nat.min_le_right _ _)
        refine wpAny_list_append_plain (items := vs.toArray) ⟨_, gD7⟩ (fun h₈ hpl hs₈ => ?_) (by rw [List.size_toArray]; exact Nat.le_trans hvl hlen)
        obtain ⟨n₈, g8⟩ := hpl
        have kD : Kp (fun b => b = D) s₇ { s₇ with heap := h₈ } := ⟨fun b o n e => (hs₈.2 b n).trans e, Nat.le_of_eq hs₈.1.symm, fun _ _ e => e, rfl⟩
        have X8 := FrOk.around X7 kD X7.bs.bare hWD
        refine ⟨ds.length + 1 - (i + 1), by omega, i + 1, vs ++ [y], n₈, _, rfl, hlt, X8, W.frame (i + 1) _ h₈ st7 fun b hb o e => kD.heap b o (fun q => hDfp (q ▸ hb)) e, by rw [g8]; simp, ?_, (kk6.trans (k₇.weaken fun b t => .inl t)).trans (kD.weaken fun b t => .inr (by rw [show b = D from t]; exact hD1))⟩
        rw [htake, hok]
        simp only [if_true]
        exact (rvs7.kept kD fun b t => .inr (.inr (.inr (.inl t)))).append (.cons (r7'.kept kD fun b t => .inr (.inr (.inr (.inl t)))) .nil)
    · have hin : i = ds.length := by omega
      subst hin
      refine with_size (W.done s' _ _ st' fun h' tk hk hsz => ?_)
      have kW : Kp (fun b => b ∈ wr) s' { s' with heap := h', toks := tk } := ⟨fun b o n e => hk b o n e, hsz, fun _ _ e => e, rfl⟩
      have X'' := FrOk.around X' kW X'.bs.bare hWw
      obtain ⟨m, hm, _⟩ := X''.at_
      refine ⟨m, hm, fun h₈ hs₈ => ?_⟩
      have k8 : Kp (fun b => b = C) { s' with heap := h', toks := tk } { s' with heap := h₈, toks := tk } := ⟨fun b o n e => (hs₈.2 b n).trans e, Nat.le_of_eq hs₈.1.symm, fun _ _ e => e, rfl⟩
      have kall : Kp c.g.Tb s₁ { s' with heap := h₈, toks := tk } := Kp.of_new ((kk.trans (kW.weaken fun b t => .inr (hwr b t))).trans (k8.weaken fun b t => .inr (by rw [show b = C from t]; exact hC1)))
      have B8 : Bs c.g { s' with heap := h₈, toks := tk } := X''.bs.kp k8 (fun b o e q => nC.2.1 o (by rw [← show b = C from e]; exact q)) (fun cc P m => ⟨nC.2.2 cc P m, fun e => nC.1 (e ▸ ⟨cc, m⟩)⟩) X''.bs.bare
      refine q (.ref D) _ B8 (k₁.trans kall) ?_
      rw [List.take_length] at rvs
      have rf := (rvs.kept kW fun b t => .inr (.inr (.inl t))).kept k8 fun b t => .inr (.inr (.inr (.inr t)))
      refine .list (n := nn) (fun t => ?_) (k8.heap D _ (A_ne hDC (Nat.le_refl _)) (kW.heap D _ hDwr gD')) (rf.mono (fun _ _ _ e => e) fun b _ t => t.imp id .inl)
      exact t.elim (fun t => A_nl (hFlt _ t) hD1 (Nat.le_refl _)) fun t => A_nl (X₁.tS _ t) hD1 (Nat.le_refl _)
  have fin := codeAny_compStart_list (loop) (W.self 0 _ _ _ st₄ loop)
  rw [← hs₄, hCs, ← hC, ← hD]
  exact fin
end
end J5
end
section
open PySem PySem.W PySem.W.X PyProof.Rows Builtin
set_option Elab.async false
set_option maxRecDepth 100000
set_option linter.unusedVariables false
namespace J5
/- all kept but at T; of the generators all but γ -/
structure Kg (γ : Nat) (T : Addr → Prop) (s s' : Shared) : Prop where
  heap : ∀ b o, ¬ T b → s.heap.get? b = some o → s'.heap.get? b = some o
  size : s.heap.objs.size ≤ s'.heap.objs.size
  gens : ∀ (i : Nat) x, i ≠ γ → s.gens[i]? = some x → s'.gens[i]? = some x
  os : s'.os = s.os
theorem Kp.kg {γ : Nat} {T : Addr → Prop} {s s' : Shared} (k : Kp T s s') : Kg γ T s s' := ⟨k.heap, k.size, fun i x _ e => k.gens i x e, k.os⟩
theorem Kg.trans {γ : Nat} {T : Addr → Prop} {s s' s'' : Shared} (a : Kg γ T s s') (b : Kg γ T s' s'') : Kg γ T s s'' :=
  ⟨fun c o n e => b.heap c o n (a.heap c o n e), Nat.le_trans a.size b.size, fun i x n e => b.gens i x n (a.gens i x n e), b.os.trans a.os⟩
theorem Kg.weaken {γ : Nat} {T T' : Addr → Prop} {s s' : Shared} (a : Kg γ T s s') (h : ∀ b, T b → T' b) : Kg γ T' s s' := ⟨fun b o n e => a.heap b o (fun t => n (h b t)) e, a.size, a.gens, a.os⟩
theorem Kg.setGen {γ : Nat} {T : Addr → Prop} {s s' : Shared} (a : Kg γ T s s') (x : GenState) : Kg γ T s (s'.setGen γ x) :=
  ⟨a.heap, a.size, fun i y n e => by have := a.gens i y n e; simpa [Shared.setGen, Ne.symm n] using this, a.os⟩
theorem AllBare.setGen {s : Shared} {γ : Nat} {x : GenState} (h : AllBare s.gens) (hx : x.bare = true) : AllBare (s.setGen γ x).gens := by
  intro y hy
  obtain ⟨i, hi, rfl⟩ := Array.mem_iff_getElem.mp hy
  have hi' : i < s.gens.size := by simpa [Shared.setGen] using hi
  by_cases e : γ = i
  · subst e; simpa [Shared.setGen] using hx
  · have : (s.setGen γ x).gens[i] = s.gens[i] := by
      apply Option.some.inj
      rw [← Array.getElem?_eq_getElem, ← Array.getElem?_eq_getElem]
      simp [Shared.setGen, e]
    rw [this]; exact h _ (Array.getElem_mem hi')
theorem Bs.setGen {g : Gd} {s : Shared} {γ : Nat} {x : GenState} (B : Bs g s) (hx : x.bare = true) : Bs g (s.setGen γ x) := ⟨B.keep, B.tabs, AllBare.setGen B.bare hx, B.os⟩
theorem FrOk.re {g : Gd} {env : Env} {Sc F : Addr → Prop} {ρ : Rho} {O : Str → Option Addr} {s s' : Shared} (X : FrOk g env Sc F ρ O s) (h : s'.heap = s.heap) (B : Bs g s') : FrOk g env Sc F ρ O s' := by
  obtain ⟨h1, g1, d1, t1, o1⟩ := s
  obtain ⟨h2, g2, d2, t2, o2⟩ := s'
  dsimp only at h
  subst h
  exact ⟨B, X.kind, X.gl, X.bi, X.tF, X.tS, X.fS, X.L, X.own, X.cL, X.lT, X.nw, X.cF, X.at_⟩
/- a generator expression under way: what stays -/
structure Gn where
  g : Gd
  env : Env
  Sc : Addr → Prop
  ρc : Rho
  I : Addr
  fp : List Addr
  wr : List Addr
  P : Nat → Value → Prop
  St : Nat → Heap → Prop
  x : Str
  ds : List D
  xs : List (List Nat)
  s₁ : Shared
  S₁ : Addr → Prop
  γ : Nat
abbrev Gn.F (z : Gn) : Addr → Prop := innerF z.g z.env
abbrev Gn.Tn (z : Gn) : Addr → Prop := fun b => z.g.Tb b ∨ z.s₁.heap.objs.size ≤ b
structure Gn.Ok (z : Gn) : Prop where
  W : ∀ A' : Around, A'.handled = none → Walks z.g.prog z.g.w A' z.I z.fp z.wr z.ds.length z.P z.St
  wrS : ∀ b ∈ z.wr, z.Sc b ∧ z.s₁.heap.objs.size ≤ b ∧ (∀ o, z.g.h₀.get? b = some o → False) ∧ ∀ c P, (c, P) ∈ z.g.T → c ≠ b ∧ P ≠ b
  fpF : ∀ b ∈ z.fp, ¬ z.F b
  C1 : z.s₁.heap.objs.size ≤ z.env.locals
  SS : ∀ b, b < z.s₁.heap.objs.size → Sx z.F z.Sc b → z.S₁ b
  TS : ∀ b, z.g.Tb b → z.S₁ b
  hit : ∀ i v d, z.ds[i]? = some d → z.P i v → Rep z.g z.S₁ z.s₁.heap v d
  hx : z.env.kindOf z.x = some .local
  ρx : z.ρc.lookup z.x = none
  len : z.xs.length = z.ds.length
  co : z.env.scope.isCoroutine = false
def Gn.Ready₀ (z : Gn) (s : Shared) : Prop := (∃ O', FrOk z.g z.env z.Sc z.F z.ρc O' s) ∧ Kg z.γ z.Tn z.s₁ s
def Gn.Ready (z : Gn) (i : Nat) (s : Shared) : Prop := z.Ready₀ s ∧ z.St i s.heap
def Gn.Step (z : Gn) (s₀ s : Shared) : Prop := Kp (fun b => z.g.Tb b ∨ b = z.env.locals ∨ b ∈ z.wr) s₀ s
def Gn.Y (z : Gn) : Protocol := fun m s₀ v s kap => (∃ i x t, m + 1 + i = z.ds.length ∧ z.xs[i]? = some x ∧ v = .str (S? x) t ∧ z.Ready (i + 1) s ∧ ∀ s'', z.Ready (i + 1) s'' → kap (.send .none) s'') ∧ z.Step s₀ s
def Gn.Pn (z : Gn) : Nat → Shared → Shared → Prop := fun n s₀ s => n = 0 ∧ z.Step s₀ s ∧ z.Ready₀ s
def Gn.R (z : Gn) : GenEnd := fun n s₀ r s => r = .ok .next ∧ z.Pn n s₀ s
theorem Gn.stepTn {z : Gn} (Z : z.Ok) {s s' : Shared} (k : z.Step s s') : Kp z.Tn s s' := k.weaken fun b t => by
  rcases t with t | rfl | t
  · exact .inl t
  · exact .inr Z.C1
  · exact .inr (Z.wrS b t).2.1
theorem room_loop {A : Around} {n : Nat} (R : Room A (n + 1)) (elt : Expr) (gs : List Comprehension) (scope : Scope) (pos : Pos) (it acc : Value) (env : Env) : Room (A.over (.compLoop (.GeneratorExp elt gs scope pos) 0 it acc env) []) n := by
  refine ⟨?_, ?_, R.hand⟩
  · show A.units + 0 + 3 * (Code.compLoop (.GeneratorExp elt gs scope pos) 0 it acc env).frames + _ < _
    have : (Code.compLoop (.GeneratorExp elt gs scope pos) 0 it acc env).frames = 1 := rfl
    rw [this]; have := R.units; omega
  · show A.depth + 0 + (Code.compLoop (.GeneratorExp elt gs scope pos) 0 it acc env).weight + _ < _
    have : (Code.compLoop (.GeneratorExp elt gs scope pos) 0 it acc env).weight = 1 := rfl
    rw [this]; have := R.depth; omega
section
variable {z : Gn} {A : Around} {n : Nat} {elt iter : Expr} {px pos : Pos} {scope : Scope}
theorem seg_loopG (Z : z.Ok) (R : Room A (n + 1)) (turn : ∀ A' : Around, Room A' n → ∀ (i : Nat) d x, z.ds[i]? = some d → z.xs[i]? = some x → ∀ O', Ev ⟨z.g, A', z.env, z.Sc, z.F, upd z.x (.val d) z.ρc, O'⟩ (eval elt z.env) (.str x)) :
    ∀ (k i : Nat) (s₀ s : Shared), z.ds.length - i = k → i ≤ z.ds.length → z.Ready i s → z.Step s₀ s →
      Seg z.g.M A z.R z.Y (z.ds.length - i) s₀ (.compLoop (.GeneratorExp elt [⟨.Name z.x px, iter, [], 0⟩] scope pos) 0 (.ref z.I) .none z.env)
        (z.g.M.den (.compLoop (.GeneratorExp elt [⟨.Name z.x px, iter, [], 0⟩] scope pos) 0 (.ref z.I) .none z.env)) [] s := by
  have R' := room_loop R elt [⟨.Name z.x px, iter, [], 0⟩] scope pos (.ref z.I) .none z.env
  have wrF : ∀ b ∈ z.wr, ¬ z.F b := fun b hb => Z.fpF b ((Z.W A R.hand).sub b hb)
  have hW : ∀ b, b ∈ z.wr → z.Sc b ∧ ¬ z.F b ∧ (∀ o, z.g.h₀.get? b = some o → False) ∧ ∀ cc P, (cc, P) ∈ z.g.T → cc ≠ b ∧ P ≠ b := fun b hb =>
    let ⟨h1, _, h2, h3⟩ := Z.wrS b hb; ⟨h1, wrF b hb, h2, h3⟩
  intro k
  induction k with
  | zero =>
    intro i s₀ s hk hi hr hs
    have hin : i = z.ds.length := by omega
    subst hin
    obtain ⟨⟨⟨O', X⟩, kg⟩, st⟩ := hr
    show Seg _ A _ _ _ s₀ _ ((compTurn (.GeneratorExp elt [⟨.Name z.x px, iter, [], 0⟩] scope pos) 0 (.ref z.I) .none z.env).onRaise (leaving z.env)) [] s
    rw [compTurn_gen, Sem.onRaise_eq_wrap]
    refine seg_bind_wrap (wpAny_standAt ?_)
    refine seg_bind_wrap (with_size ((Z.W _ R'.hand).done s _ _ st fun h' tk hk' hsz => ?_))
    have kW : Kp (fun b => b ∈ z.wr) s { s with heap := h', toks := tk } := ⟨fun b o n e => hk' b o n e, hsz, fun _ _ e => e, rfl⟩
    have kS : z.Step s { s with heap := h', toks := tk } := kW.weaken fun b t => .inr (.inr t)
    exact seg_end (.ok .next) ⟨rfl, Nat.sub_self _, Kp.trans hs kS, ⟨O', FrOk.around X kW X.bs.bare hW⟩, kg.trans (Kp.kg (Gn.stepTn Z kS))⟩
  | succ k ih =>
    intro i s₀ s hk hi hr hs
    have hlt : i < z.ds.length := by omega
    obtain ⟨⟨⟨O', X⟩, kg⟩, st⟩ := hr
    show Seg _ A _ _ _ s₀ _ ((compTurn (.GeneratorExp elt [⟨.Name z.x px, iter, [], 0⟩] scope pos) 0 (.ref z.I) .none z.env).onRaise (leaving z.env)) [] s
    rw [compTurn_gen, Sem.onRaise_eq_wrap]
    refine seg_bind_wrap (wpAny_standAt ?_)
    refine seg_bind_wrap (with_size ((Z.W _ R'.hand).item i s _ _ hlt st fun v h₁ tk₁ hP st₁ hk₁ hsz => ?_))
    have kW : Kp (fun b => b ∈ z.wr) s { s with heap := h₁, toks := tk₁ } := ⟨fun b o n e => hk₁ b o n e, hsz, fun _ _ e => e, rfl⟩
    have kS : z.Step s { s with heap := h₁, toks := tk₁ } := kW.weaken fun b t => .inr (.inr t)
    have X₁ := FrOk.around X kW X.bs.bare hW
    have kg₁ := kg.trans (Kp.kg (Gn.stepTn Z kS))
    obtain ⟨d, hd⟩ : ∃ d, z.ds[i]? = some d := ⟨z.ds[i], List.getElem?_eq_getElem hlt⟩
    obtain ⟨x, hxi⟩ : ∃ x, z.xs[i]? = some x := ⟨z.xs[i]'(by rw [Z.len]; exact hlt), List.getElem?_eq_getElem _⟩
    have rv : Rep z.g (Sx z.F z.Sc) h₁ v d := (Z.hit i v d hd hP).mono (fun b o nb e => kg₁.heap b o (fun t => t.elim (fun t => nb (Z.TS b t)) fun t => absurd (Heap.lt_size e) (Nat.not_lt.mpr t)) e) fun b hb t => Z.SS b hb t
    refine seg_bind_wrap (wpAny_of_eq (rfl : letOwnedTupleGo (.Name z.x px) (.ref z.I) v = pure ()) ?_)
    refine seg_bind_wrap (wpAny_assign_Name (FrOk.storeL X₁ Z.hx rv fun s₂ X₂ k₂ => ?_))
    have kS₂ : z.Step { s with heap := h₁, toks := tk₁ } s₂ := k₂.weaken fun b t => .inr (.inl t)
    refine seg_bind_wrap (wpAny_tests_nil ?_)
    simp only [if_true]
    have hy : ∀ v, yieldOut z.env v = yieldValue v := fun v => by simp only [yieldOut, Z.co, Bool.false_eq_true, if_false]
    simp only [hy]
    rw [Sem.bind_eq_wrap', Sem.bind_eq_wrap', Sem.wrap_wrap, Sem.wrap_wrap]
    have hn : z.ds.length - i = (z.ds.length - (i + 1)) + 1 := by omega
    rw [hn]
    refine seg_wrap (turn _ R' i d x hd hxi _ s₂ X₂ _ _ fun y s₃ B₃ k₃ r₃ => ?_)
    have kS₃ : z.Step s₂ s₃ := k₃.weaken fun b t => .inl t
    have X₃ := FrOk.forget (FrOk.kp X₂ k₃ B₃) (ρ' := z.ρc) fun y sl e => by
      rw [lookup_upd, if_neg]
      · exact e
      · rintro rfl; rw [Z.ρx] at e; cases e
    have hCfp : ∀ b ∈ z.fp, b ≠ z.env.locals := fun b hb e => Z.fpF b hb (.inr (.inl e))
    have st₃ : z.St (i + 1) s₃.heap := (Z.W A R.hand).frame (i + 1) _ _ st₁ fun b hb o e => k₃.heap b o (fun t => Z.fpF b hb (.inl t)) (k₂.heap b o (hCfp b hb) e)
    have rdy : z.Ready (i + 1) s₃ := ⟨⟨⟨_, X₃⟩, (kg₁.trans (Kp.kg (Gn.stepTn Z kS₂))).trans (Kp.kg (Gn.stepTn Z kS₃))⟩, st₃⟩
    cases r₃ with
    | str _ t =>
      refine seg_at (seg_yield rfl rfl rfl ⟨⟨i, x, t, by omega, hxi, rfl, rdy, fun s'' hal => ?_⟩, ((Kp.trans hs kS).trans kS₂).trans kS₃⟩)
      exact seg_again rfl (ih (i + 1) s'' s'' (by omega) hlt hal (Kp.refl _))
theorem seg_startG (Z : z.Ok) (R : Room A (n + 1)) (turn : ∀ A' : Around, Room A' n → ∀ (i : Nat) d x, z.ds[i]? = some d → z.xs[i]? = some x → ∀ O', Ev ⟨z.g, A', z.env, z.Sc, z.F, upd z.x (.val d) z.ρc, O'⟩ (eval elt z.env) (.str x))
    (s : Shared) (hr : z.Ready 0 s) : Seg z.g.M A z.R z.Y z.ds.length s (.compStart (.GeneratorExp elt [⟨.Name z.x px, iter, [], 0⟩] scope pos) 0 (.ref z.I) .none z.env)
      (z.g.M.den (.compStart (.GeneratorExp elt [⟨.Name z.x px, iter, [], 0⟩] scope pos) 0 (.ref z.I) .none z.env)) [] s := by
  have hh' : (A.over (.compStart (.GeneratorExp elt [⟨.Name z.x px, iter, [], 0⟩] scope pos) 0 (.ref z.I) .none z.env) []).handled = none := R.hand
  have loop := seg_loopG (px := px) (iter := iter) (scope := scope) (pos := pos) Z R turn z.ds.length 0 s s (Nat.sub_zero _) (Nat.zero_le _) hr (Kp.refl _)
  rw [Nat.sub_zero] at loop
  show Seg _ A _ _ _ s _ ((compStart (.GeneratorExp elt [⟨.Name z.x px, iter, [], 0⟩] scope pos) 0 (.ref z.I) .none z.env).onRaise (leaving z.env)) [] s
  unfold compStart
  rw [Sem.onRaise_eq_wrap]
  show Seg _ A _ _ _ s _ ((ask >>= _).wrap _ _ _ _) [] s
  refine seg_bind_wrap (wpAny_askSetting ?_)
  split
  · exact seg_again rfl loop
  · first
      | exact seg_bind_wrap (wpAny_rule (seg_bind_wrap (wpAny_standAt (seg_bind_wrap ((Z.W _ hh').self 0 s _ _ hr.2 (seg_again rfl loop))))))
      | (refine seg_bind_wrap (wpAny_rule ?_); show Seg _ A _ _ _ s _ ((standAt iter.pos >>= _).wrap _ _ _ _) [] s; exact seg_bind_wrap (wpAny_standAt (seg_bind_wrap ((Z.W _ hh').self 0 s _ _ hr.2 (seg_again rfl loop)))))
/- the generator, asked for its next -/
def Gn.At (z : Gn) (A : Around) (a : Addr) (i : Nat) (s : Shared) : Prop :=
  s.heap.IsGen a z.γ ∧ z.Ready i s ∧ ∃ gs, s.gens[z.γ]? = some gs ∧ gs.bare = true ∧ ∀ s'' : Shared, z.Ready i s'' → gs.Goes z.g.M A.in1 z.R z.Y (z.ds.length - i) (.send .none) s''
theorem Gn.Ready.setGen {z : Gn} {i : Nat} {s : Shared} {x : GenState} (h : z.Ready i s) (hx : x.bare = true) : z.Ready i (s.setGen z.γ x) := by
  obtain ⟨⟨⟨O', X⟩, kg⟩, st⟩ := h
  exact ⟨⟨⟨O', FrOk.re X rfl (X.bs.setGen hx)⟩, kg.setGen x⟩, st⟩
theorem next_item (G : Gok z.g) (Z : z.Ok) {a : Addr} {i : Nat} {s : Shared} {Q : Option Value → Shared → Prop} {E : Value → Shared → Prop} (hh : A.handled = none) (hd : A.depth < recursionLimit) (ha : ¬ z.g.Tb a ∧ a ≠ z.env.locals ∧ a ∉ z.wr) (hi : i < z.ds.length) (h : z.At A a i s)
    (q : ∀ x t s', z.xs[i]? = some x → z.At A a (i + 1) s' → Kg z.γ (fun b => z.g.Tb b ∨ b = z.env.locals ∨ b ∈ z.wr) s s' → Q (some (.str (S? x) t)) s') : wpAny z.g.M A (pyNext (.ref a)) Q E s := by
  obtain ⟨hg, hr, gs, hgs, hb, hgo⟩ := h
  obtain ⟨O', X⟩ := hr.1.1
  obtain ⟨m, hm⟩ : ∃ m, z.ds.length - i = m + 1 := ⟨z.ds.length - i - 1, by omega⟩
  rw [hm] at hgo
  refine wpAny_pyNext_genexpQ (P := z.Pn) hh (X.bs.nl G) hd hg hgs (hgo _ (hr.setGen (x := .running) rfl)) (fun v s₁ gs' hb' hv => ?_) (fun s₁ hp h' hk => ?_)
  · obtain ⟨⟨j, x, t, hj, hxj, rfl, hr₁, hkap⟩, hst⟩ := hv
    have hij : j = i := by omega
    subst hij
    have kg : Kg z.γ (fun b => z.g.Tb b ∨ b = z.env.locals ∨ b ∈ z.wr) s (s₁.setGen z.γ gs') := by
      have a1 : Kg z.γ (fun b => z.g.Tb b ∨ b = z.env.locals ∨ b ∈ z.wr) s (s.setGen z.γ .running) := Kg.setGen (Kp.kg (Kp.refl s)) _
      exact (a1.trans (Kp.kg hst)).setGen _
    refine q x t _ hxj ⟨?_, hr₁.setGen hb', gs', ?_, hb', fun s'' hal => ?_⟩ kg
    · obtain ⟨o, nm, qn, ho, r⟩ := hg
      exact ⟨o, nm, qn, hst.heap a o (by rintro (t | t | t); exact ha.1 t; exact ha.2.1 t; exact ha.2.2 t) ho, r⟩
    · have h1 : (s.setGen z.γ .running).gens[z.γ]? = some .running := setGen_self hgs
      exact setGen_self (hst.gens z.γ _ h1)
    · have : z.ds.length - (j + 1) = m := by omega
      rw [this]
      exact hkap s'' hal
  · exact absurd hp.1 (Nat.succ_ne_zero m)
theorem next_done (G : Gok z.g) (Z : z.Ok) {a : Addr} {s : Shared} {Q : Option Value → Shared → Prop} {E : Value → Shared → Prop} (hh : A.handled = none) (hd : A.depth < recursionLimit) (h : z.At A a z.ds.length s)
    (q : ∀ s', Bs z.g s' → Kg z.γ z.Tn z.s₁ s' → Kg z.γ (fun b => z.g.Tb b ∨ b = z.env.locals ∨ b ∈ z.wr) s s' → Q none s') : wpAny z.g.M A (pyNext (.ref a)) Q E s := by
  obtain ⟨hg, hr, gs, hgs, hb, hgo⟩ := h
  obtain ⟨O', X⟩ := hr.1.1
  rw [Nat.sub_self] at hgo
  refine with_size (wpAny_pyNext_genexpQ (P := z.Pn) hh (X.bs.nl G) hd hg hgs (hgo _ (hr.setGen (x := .running) rfl)) (fun v s₁ gs' hb' hv => ?_) (fun s₁ hp h' hk hsz => ?_))
  · obtain ⟨⟨j, x, t, hj, hxj, rfl, hr₁, hkap⟩, hst⟩ := hv
    exact (hkap s₁ hr₁).elim
  · obtain ⟨_, hst, ⟨O₁, X₁⟩, kg₁⟩ := hp
    have hsz' : s.heap.objs.size ≤ h'.objs.size := hsz
    have kg : Kg z.γ (fun b => z.g.Tb b ∨ b = z.env.locals ∨ b ∈ z.wr) s { s₁.setGen z.γ .finished with heap := h' } := by
      have a1 : Kg z.γ (fun b => z.g.Tb b ∨ b = z.env.locals ∨ b ∈ z.wr) s (s.setGen z.γ .running) := Kg.setGen (Kp.kg (Kp.refl s)) _
      have a2 := (a1.trans (Kp.kg hst)).setGen .finished
      exact ⟨fun b o n e => hk b o (a2.heap b o n e), hsz', a2.gens, a2.os⟩
    have kgT : Kg z.γ z.Tn z.s₁ { s₁.setGen z.γ .finished with heap := h' } := by
      have a2 := kg₁.setGen .finished
      exact ⟨fun b o n e => hk b o (a2.heap b o n e), Nat.le_trans hr.1.2.size hsz', a2.gens, a2.os⟩
    refine q _ ?_ kgT kg
    have B₁ := X₁.bs.setGen (γ := z.γ) (x := .finished) rfl
    refine ⟨fun b o n e => hk b o (B₁.keep b o n e), fun c P m => ?_, B₁.bare, B₁.os⟩
    obtain ⟨ps, more, h1, h2, h3⟩ := B₁.tabs c P m
    obtain ⟨o, vs, file, tf, flags, tg, inF, text, tt, op, ho, hd, h11, h2, h7, h9, h10, hop, hpd, htr, hne⟩ := h2
    exact ⟨ps, more, h1, ⟨o, vs, file, tf, flags, tg, inF, text, tt, op, hk _ _ ho, hd, h11, h2, h7, h9, h10, hk _ _ hop, hpd, htr, hne⟩, Heap.TableAt.keeps h3 hk⟩
end
end J5
end
section
open PySem PySem.W PySem.W.X PyProof.Rows Builtin
set_option Elab.async false
set_option maxRecDepth 100000
set_option linter.unusedVariables false
namespace J5
/- the code of a generator expression: the table of its function may grow -/
theorem genCode_R {g : Gd} {A : Around} {E : Value → Shared → Prop} {s : Shared} {env : Env} {cc P : Addr} {pos : Pos} {qual : Str} {scope : Scope} {Q : Value → Shared → Prop} (G : Gok g) (B : Bs g s) (hc : env.code = .ref cc) (hT : (cc, P) ∈ g.T)
    (q : ∀ code s', Bs g s' → Kp g.Tb s s' → Q code s') : wpAny g.M A (genexprCode env pos qual scope) Q E s := by
  obtain ⟨ps₀, more, h1, hok, htab⟩ := B.tabs cc P hT
  cases hnf : codeAmong pos (ps₀ ++ more).toList with
  | some cv =>
    obtain ⟨o, vs, file, tf, flags, tg, inF, text, tt, op, ho, hd, h11, h2, h7, h9, h10, hop, hpd, htr, hne⟩ := id hok
    unfold genexprCode codeAt
    rw [hc, if_neg (show ¬ ((Value.ref cc == Value.none) = true) from Bool.false_ne_true)]
    refine wpAny_bind (wpAny_fieldsOf ho hd ?_)
    rw [h11]
    refine wpAny_bind (wpAny_fieldsOf hop hpd ?_)
    rw [hnf]
    exact wpAny_pure (q cv s B (Kp.refl s))
  | none =>
    refine with_size (wpAny_genexprCodeX hc hok htab hnf fun c' h' tk hx hge hlt hok' hrec htab' _ hsz => ?_)
    have hTb : g.Tb P := ⟨cc, hT⟩
    have k : Kp g.Tb s { s with heap := h', toks := tk } := ⟨fun b o n e => hx b o (fun e => n (e ▸ hTb)) e, hsz, fun _ _ e => e, rfl⟩
    refine q _ _ ⟨fun b o n e => k.heap b o n (B.keep b o n e), fun c P' m => ?_, B.bare, B.os⟩ k
    by_cases hPP : P' = P
    · subst hPP
      have := G.tU c cc P' m hT
      subst this
      exact ⟨ps₀, _, h1, by rw [← Array.append_assoc]; exact hok', by rw [← Array.append_assoc]; exact htab'⟩
    · obtain ⟨ps, mr, h1, ⟨o, vs, file, tf, flags, tg, inF, text, tt, op, ho, hd, h11, h2, h7, h9, h10, hop, hpd, htr, hne⟩, ht⟩ := B.tabs c P' m
      have hcP : c ≠ P := fun e => G.cT c P' m (e ▸ hTb)
      exact ⟨ps, mr, h1, ⟨o, vs, file, tf, flags, tg, inF, text, tt, op, hx _ _ hcP ho, hd, h11, h2, h7, h9, h10, hx _ _ hPP hop, hpd, htr, hne⟩, Heap.TableAt.extBut ht hx hcP hPP⟩
structure GBm (g : Gd) : Prop where
  bm : ∃ bm o, g.mg "__builtins__" = some (.ref bm) ∧ bm ≠ builtinsNs ∧ g.K.lookup bm = some o ∧ o.cls = .type "module" ∧ o.dict = some builtinsNs ∧ o.data = .plain
theorem builtinsFor_R {g : Gd} {A : Around} {E : Value → Shared → Prop} {s : Shared} {running : Addr} {Q : Addr → Shared → Prop} (G : Gok g) (H : GBm g) (B : Bs g s) (q : Q builtinsNs s) : wpAny g.M A (builtinsFor mainGlobals running) Q E s := by
  obtain ⟨bm, o, h1, h2, h3, h4, h5, h6⟩ := H.bm
  exact wpAny_builtinsFor (B.hg G) h1 h2 (B.K G _ _ h3) h4 h5 h6 q
section
variable {z : Gn} {A : Around} {E : Value → Shared → Prop}
/- a place that the one around the generator changes -/
structure Gn.Out (z : Gn) (a S : Addr) : Prop where
  Sc : z.Sc S
  F : ¬ z.F S
  fp : S ∉ z.fp
  n1 : z.s₁.heap.objs.size ≤ S
  h₀ : (∀ o, z.g.h₀.get? S = some o → False) ∧ ∀ c P, (c, P) ∈ z.g.T → c ≠ S ∧ P ≠ S
  a : a ≠ S
theorem Gn.At.place {a S : Addr} {i : Nat} {s : Shared} {h' : Heap} {tk : Nat} (Z : z.Ok) (hh : A.handled = none) (o : z.Out a S) (h : z.At A a i s) (hs : Heap.SameBut S s.heap h') : z.At A a i { s with heap := h', toks := tk } := by
  obtain ⟨⟨ob, nm, qn, ho, r⟩, ⟨⟨⟨O', X⟩, kg⟩, st⟩, gs, hgs, hb, hgo⟩ := h
  have k : Kp (fun b => b = S) s { s with heap := h', toks := tk } := ⟨fun b o n e => (hs.2 b n).trans e, Nat.le_of_eq hs.1.symm, fun _ _ e => e, rfl⟩
  refine ⟨⟨ob, nm, qn, k.heap a ob o.a ho, r⟩, ⟨⟨⟨O', FrOk.around X k X.bs.bare ?_⟩, kg.trans (Kp.kg (k.weaken fun b t => .inr (by rw [show b = S from t]; exact o.n1)))⟩, ?_⟩, gs, hgs, hb, hgo⟩
  · rintro b rfl
    exact ⟨o.Sc, o.F, o.h₀⟩
  · exact (Z.W A hh).frame i _ _ st fun b hb ob e => k.heap b ob (fun e => o.fp (e ▸ hb)) e
theorem extendG (G : Gok z.g) (Z : z.Ok) {a S : Addr} (o : z.Out a S) (hh : A.handled = none) (hd : A.depth < recursionLimit) (ha : ¬ z.g.Tb a ∧ a ≠ z.env.locals ∧ a ∉ z.wr) (hn : z.ds.length ≤ sizeLine) (res : Value) {R : Result → Shared → Prop} :
    ∀ (k i : Nat) (s : Shared) (l : List (Str × Tok)), z.ds.length - i = k → i ≤ z.ds.length → z.At A.in1 a i s → (∃ n₀, s.heap.get? S = some { cls := .type "list", data := .seq (strValues l).toArray n₀ }) → l.map (·.1) = (z.xs.take i).map S? →
      (∀ s' (l : List (Str × Tok)) n₁, Bs z.g s' → Kg z.γ z.Tn z.s₁ s' → s'.heap.get? S = some { cls := .type "list", data := .seq (strValues l).toArray n₁ } → l.map (·.1) = z.xs.map S? → R (.ok (.ret res)) s') →
      codeAny z.g.M A (.builtin "list.extend.loop" ⟨[.ref S, .ref a, res], []⟩) R s := by
  have hSst : ∀ b, b = S → ¬ (z.g.Tb b ∨ b = z.env.locals ∨ b ∈ z.wr) := by
    rintro b rfl (t | t | t)
    · exact o.F (.inl t)
    · exact o.F (.inr (.inl t))
    · exact o.fp ((Z.W A hh).sub _ t)
  intro k
  induction k with
  | zero =>
    rintro i s l hk hi hat ⟨n₀, hS⟩ hl hR
    have hin : i = z.ds.length := by omega
    subst hin
    refine codeAny_builtin F.entry_extend_loop ?_
    rw [Around.under_plainId F.plain_extend_loop _]
    show wpAny _ A.in1 (pyNext (.ref a) >>= _) _ _ s
    refine wpAny_bind (next_done G Z hh hd hat fun s' B' kg ks => ?_)
    refine wpAny_pure (hR s' l n₀ B' kg (ks.heap S _ (hSst S rfl) hS) ?_)
    rw [hl, List.take_of_length_le (by rw [Z.len]; exact Nat.le_refl _)]
  | succ k ih =>
    rintro i s l hk hi hat ⟨n₀, hS⟩ hl hR
    have hlt : i < z.ds.length := by omega
    refine codeAny_builtin F.entry_extend_loop ?_
    rw [Around.under_plainId F.plain_extend_loop _]
    show wpAny _ A.in1 (pyNext (.ref a) >>= _) _ _ s
    refine wpAny_bind (next_item G Z hh hd ha hlt hat fun x t s' hx hat' ks => ?_)
    have hS' := ks.heap S _ (hSst S rfl) hS
    have hlen : l.length = i := by
      have := congrArg List.length hl
      rw [List.length_map, List.length_map, List.length_take, Z.len] at this
      omega
    show wpAny _ A.in1 (updateSeq S (·.push (.str (S? x) t)) >>= _) _ _ _
    refine wpAny_bind ?_
    have hsv : ((strValues l).toArray.push (.str (S? x) t)) = (strValues (l ++ [(S? x, t)])).toArray := by simp [strValues]
    have hszv : (strValues l).toArray.size = i := by simp [strValues, hlen]
    refine wpAny_updateSeq hS' rfl (wpAny_pure ⟨plainId_quiet F.plain_extend_loop _, ih (i + 1) _ (l ++ [(S? x, t)]) (by omega) hlt (hat'.place Z (A := A.in1) hh o (Heap.SameBut.update ..)) ?_ ?_ hR⟩)
      (by show (strValues l).toArray.size ≤ _; rw [hszv]; omega) (by show ((strValues l).toArray.push _).size ≤ _; rw [Array.size_push, hszv]; omega)
    · have := Heap.get?_update_self (h := s'.heap) (Obj.mapSeq (·.push (Value.str (S? x) t))) hS' rfl
      rw [← hsv]
      exact ⟨_, this⟩
    · rw [List.map_append, hl, List.take_add_one, hx, List.map_append]; rfl
end
end J5
end
section
open PySem PySem.W PySem.W.X PyProof.Rows Builtin Builtin.Str
set_option Elab.async false
set_option maxRecDepth 100000
set_option linter.unusedVariables false
namespace J5
section
variable {z : Gn} {A : Around} {E : Value → Shared → Prop}
theorem collectG (G : Gok z.g) (Z : z.Ok) {a : Addr} {s : Shared} {Q : List Value → Shared → Prop} (o : z.Out a s.heap.objs.size) (hh : A.handled = none) (hd : A.depth < recursionLimit) (ha : ¬ z.g.Tb a ∧ a ≠ z.env.locals ∧ a ∉ z.wr) (hn : z.ds.length ≤ sizeLine)
    (h0 : z.At A.in1 a 0 { s with heap := s.heap.push { cls := .type "list", data := .seq ([] : List Value).toArray } })
    (q : ∀ s' (l : List (Str × Tok)), Bs z.g s' → Kg z.γ z.Tn z.s₁ s' → l.map (·.1) = z.xs.map S? → Q (strValues l) s') : wpAny z.g.M A (collect (.ref a)) Q E s := by
  unfold collect
  refine wpAny_bind (wpAny_runValue (codeAny_builtin F.entry_proto_collect ?_))
  rw [Around.under_plainId F.plain_proto_collect _]
  show wpAny _ A.in1 (newList [] >>= fun l => again (.builtin "list.__iadd__" ⟨[l, .ref a], []⟩)) _ _ s
  refine wpAny_bind (wpAny_newObj_type ?_)
  refine wpAny_pure ⟨plainId_quiet F.plain_list_iadd _, codeAny_builtin F.entry_list_iadd ?_⟩
  rw [Around.under_plainId F.plain_list_iadd _]
  show wpAny _ A.in1 (Builtin.List.listExtendWith (.ref s.heap.objs.size) (.ref a) (.ref s.heap.objs.size)) _ _ _
  unfold Builtin.List.listExtendWith
  refine wpAny_bind (wpAny_typeOf h0.1.typeIs ?_)
  have h1 : Builtin.List.listSameRef (.ref s.heap.objs.size) (.ref a) = false := by simp [Builtin.List.listSameRef, Ne.symm o.a]
  have h2 : (Value.type "generator" == Value.type "list") = false := by decide
  have h3 : (Value.type "generator" == Value.type "tuple") = false := by decide
  simp only [h1, h2, h3, Bool.or_false, Bool.false_eq_true, if_false]
  refine wpAny_bind (wpAny_pyIter_gen h0.1 ?_)
  refine wpAny_bind (wpAny_holding ?_)
  unfold Builtin.List.listLengthHint
  refine wpAny_bind (wpAny_specialOf h0.1.typeIs F.gen_no_len ?_)
  show wpAny _ A.in1 (specialOf (Value.ref a) (Str.ofString "__length_hint__") >>= _) _ _ _
  refine wpAny_bind (wpAny_specialOf h0.1.typeIs F.gen_no_hint ?_)
  refine wpAny_pure ?_
  show wpAny _ A.in1 (rule "list.extend.makes-room" >>= fun _ => Builtin.List.listTouch (.ref s.heap.objs.size) >>= fun _ =>
    again (.builtin "list.extend.loop" ⟨[.ref s.heap.objs.size, .ref a, .ref s.heap.objs.size], []⟩)) _ _ _
  refine wpAny_bind (wpAny_rule ?_)
  have hS₁ : (s.heap.push { cls := .type "list", data := .seq ([] : List Value).toArray }).get? s.heap.objs.size = some { cls := .type "list", data := .seq ([] : List Value).toArray } := Heap.get?_push_size _ rfl
  refine wpAny_bind ?_
  show wpAny _ A.in1 (updateSeq s.heap.objs.size (·.push .none) >>= fun _ => updateSeq s.heap.objs.size (·.pop)) _ _ _
  refine wpAny_bind (wpAny_updateSeq hS₁ rfl ?_)
  have hS₂ := Heap.get?_update_self (Obj.mapSeq (·.push Value.none)) hS₁ rfl
  refine wpAny_updateSeq hS₂ rfl ?_
  have hS₃ := Heap.get?_update_self (Obj.mapSeq (·.pop)) hS₂ rfl
  have at₂ := (h0.place Z (A := A.in1) hh o (tk := s.toks) (Heap.SameBut.update (f := Obj.mapSeq (·.push Value.none)) ..)).place Z (A := A.in1) hh o (tk := s.toks) (Heap.SameBut.update (f := Obj.mapSeq (·.pop)) ..)
  refine wpAny_pure ⟨plainId_quiet F.plain_extend_loop _, extendG G Z o hh hd ha hn _ z.ds.length 0 _ [] (Nat.sub_zero _) (Nat.zero_le _) at₂ ⟨_, hS₃⟩ rfl fun s' l n₁ B' kg hS' hl => ?_⟩
  show wpAny _ A (load s.heap.objs.size >>= _) _ _ s'
  refine wpAny_bind (wpAny_load hS' ?_)
  exact wpAny_pure (q s' l B' kg hl)
theorem joinG (G : Gok z.g) (Z : z.Ok) {a : Addr} {s : Shared} {sep : List Nat} {t : Tok} {Q : Value → Shared → Prop} (o : z.Out a s.heap.objs.size) (hh : A.handled = none) (hd : A.depth < recursionLimit) (ha : ¬ z.g.Tb a ∧ a ≠ z.env.locals ∧ a ∉ z.wr) (hn : z.ds.length ≤ sizeLine)
    (hg : s.heap.IsGen a z.γ)
    (h0 : z.At A.in1.in1 a 0 { s with heap := s.heap.push { cls := .type "list", data := .seq ([] : List Value).toArray } }) (hsz : (z.xs.map List.length).sum + z.xs.length * sep.length ≤ sizeLine)
    (q : ∀ v s', Bs z.g s' → Kg z.γ z.Tn z.s₁ s' → (∃ t, v = .str (S? (joinL sep z.xs)) t) → Q v s') : wpAny z.g.M A (call (.builtin "str.join") [.str (S? sep) t, .ref a]) Q E s := by
  refine wpAny_call (codeAny_call_builtin F.slot_str_join.plain F.entry_str_join (F.slot_str_join.check _ _ _ _ _ _ _ _ (typeIs_str _ _ _) (F.args_str_join_2 _ _) ?_))
  rw [join_tree_other]
  refine wpAny_bind (wpAny_typeOf hg.typeIs ?_)
  show wpAny _ A.in1 ((pyIter (.ref a)).tryCatch _ >>= fun it => collect it >>= fun items => joinTail (S? sep) items) _ _ s
  refine wpAny_bind (wpAny_tryCatch (wpAny_pyIter_gen hg ?_))
  refine wpAny_bind (collectG G Z (A := A.in1) o hh hd ha hn h0 fun s' l B' kg hl => ?_)
  have e1 : ((l.map (·.1)).map (·.length)).sum = (z.xs.map List.length).sum := by
    rw [hl, List.map_map]; congr 1
  have hok : tooLong ((l.map (·.1)).toArray.foldl (· + ·.length + (S? sep).length) 0) = false := by
    rw [StrLaws.joinTotal]
    unfold tooLong
    rw [e1, S?_length, List.length_map]
    have : l.length = z.xs.length := by have := congrArg List.length hl; simpa using this
    rw [this]
    first | exact decide_eq_false (Nat.not_lt.mpr hsz) | simpa using hsz
  have g : PySem.Gives (joinTail (S? sep) (strValues l)) (joinMade (S? sep) l) := by
    have g0 := gives_joinTail (S? sep) l hok
    cases l with
    | nil => exact g0
    | cons p r => cases r with
      | nil => exact g0
      | cons q r' => exact g0
  refine g z.g.prog z.g.w A (wants Q E) s' (post_join l ⟨joinFit_length hok, fun t' k => ?_⟩)
  have e2 : Txt.join (S? sep) (l.map (·.1)) = S? (joinL sep z.xs) := by rw [hl]; exact (StrLaws.glued_eq_join _ _).trans (join_L sep z.xs)
  show Q _ _
  rw [e2]
  exact q _ _ (B'.toks k) ⟨kg.heap, kg.size, kg.gens, kg.os⟩ ⟨t', rfl⟩
end
end J5
end
section
open PySem PySem.W PySem.W.X PyProof.Rows Builtin
set_option Elab.async false
set_option maxRecDepth 100000
set_option linter.unusedVariables false
namespace J5
section
variable {c : Cx}
/- going through, wherever it is asked -/
def ItersA (c : Cx) (s : Shared) (u : Value) (ds : List D) : Prop :=
  ∀ (Q : Value → Shared → Prop) (E : Value → Shared → Prop), (∀ I fp wr P St s', Bs c.g s' → Kp c.g.Tb s s' → (∀ A' : Around, A'.handled = none → Walks c.g.prog c.g.w A' I fp wr ds.length P St) → St 0 s'.heap → (∀ b ∈ fp, b < s'.heap.objs.size ∧ ¬ c.S b) → (∀ b ∈ wr, s.heap.objs.size ≤ b) →
    (∀ i v d, ds[i]? = some d → P i v → Rep c.g c.S s.heap v d) → Q (.ref I) s') → wpAny c.g.M c.A (pyIter u) Q E s
theorem ItersA.list {s : Shared} {u : Value} {ds : List D} (X : c.At s) (r : Rep c.g c.S s.heap u (.list ds)) : ItersA c s u ds := by
  intro Q E q
  cases r with
  | list n1 g1 rr =>
    rename_i a vs n
    have hl : s.heap.IsList a vs.toArray := isList_of g1
    have hlt : a < s.heap.objs.size := Heap.lt_size g1
    refine wpAny_pyIter_list hl ?_
    have hsz : vs.toArray.size = ds.length := by rw [List.size_toArray]; exact rr.length
    refine q s.heap.objs.size [s.heap.objs.size, a] [s.heap.objs.size] _ _ _ (X.push _) (Kp.push s _ s.toks) (fun A' hh => hsz ▸ Walks.list hh _ _ (Nat.ne_of_lt hlt) vs.toArray) ⟨⟨_, Heap.get?_push_size _ rfl, rfl, rfl⟩, hl.push _⟩ ?_ ?_ ?_
    · intro b hb
      rcases List.mem_cons.mp hb with rfl | hb
      · exact ⟨by show _ < (s.heap.push _).objs.size; rw [Heap.size_push]; exact Nat.lt_succ_self _, X.new⟩
      · rw [List.mem_singleton.mp hb]
        exact ⟨by show _ < (s.heap.push _).objs.size; rw [Heap.size_push]; exact Nat.lt_succ_of_lt hlt, n1⟩
    · intro b hb; rw [List.mem_singleton.mp hb]; exact Nat.le_refl _
    · intro i v d hd hP
      exact rr.at (by simpa using hP) hd
theorem ItersA.range {s : Shared} {u : Value} {a b : Int} (X : c.At s) (hsm : Builtin.Range.small a b 1 = true) (hsz : Builtin.Range.rangeSize a b 1 = ((b - a).toNat : Int)) (r : Rep c.g c.S s.heap u (.rng a b)) : ItersA c s u (rngL a b) := by
  intro Q E q
  cases r with
  | rng n1 hr =>
    refine wpAny_pyIter_range hr hsm ?_
    have hlen : (rngL a b).length = (b - a).toNat := by simp [rngL]
    refine q s.heap.objs.size [s.heap.objs.size] [s.heap.objs.size] _ _ _ (X.push _) (Kp.push s _ s.toks) (fun A' hh => Eq.mp (congrArg (fun n => Walks c.g.prog c.g.w A' _ _ _ n _ _) hlen.symm) (Walks.range hh s.heap.objs.size a 1 (b - a).toNat)) (by show IsRangeIter _ _ _ _ _; rw [hsz]; simpa using Heap.get?_push_size _ rfl) ?_ ?_ ?_
    · intro b hb
      rw [List.mem_singleton.mp hb]
      exact ⟨by show _ < (s.heap.push _).objs.size; rw [Heap.size_push]; exact Nat.lt_succ_self _, X.new⟩
    · intro b hb; rw [List.mem_singleton.mp hb]; exact Nat.le_refl _
    · rintro i v d hd ⟨t, rfl⟩
      unfold rngL at hd
      rw [List.getElem?_map] at hd
      obtain ⟨j, hj, rfl⟩ := Option.map_eq_some_iff.mp hd
      rw [List.getElem?_range] at hj
      · cases hj
        rw [Int.mul_one]
        exact .int _ t
      · cases h : decide (i < (b - a).toNat) with
        | true => exact of_decide_eq_true h
        | false =>
          rw [List.getElem?_eq_none (by simpa using h)] at hj
          cases hj
theorem genJoin_R {s : Shared} {elt iter : Expr} {x : Str} {px gpos : Pos} {scope : Scope} {cl : List (Str × Addr)} {a : D} {ds : List D} {xs : List (List Nat)} {sep : List Nat} {t : Tok} {ρc : Rho} {n : Nat} {cc P : Addr} (G : Gok c.g) (HB : GBm c.g) (R : Room c.A (n + 3)) (X : c.At s)
    (hi : Ev c (eval iter c.env) a) (hit : ∀ s u, c.At s → Rep c.g c.S s.heap u a → ItersA c s u ds) (hlen : xs.length = ds.length) (hdl : ds.length ≤ sizeLine) (hsz : (xs.map List.length).sum + xs.length * sep.length ≤ sizeLine)
    (hclos : closureFor scope c.env = pure cl) (hco : scope.isCoroutine = false) (hcell : ∀ y ∈ scope.names, y.2 ≠ .cell) (h0 : scope.names.lookup (".0" : Str) = some NameKind.local) (hkind : scope.kind = .function) (hx : scope.names.lookup x = some .local)
    (hc : ∀ y cc, cl.lookup y = some cc → c.env.cells.lookup y = some cc) (ht : ∀ L' code, Taken c.env (genEnv scope cl L' code builtinsNs c.env) c.ρ ρc) (hρx : ρc.lookup x = none) (hcode : c.env.code = .ref cc) (hT : (cc, P) ∈ c.g.T)
    (turn : ∀ A' : Around, Room A' n → ∀ (i : Nat) d y, ds[i]? = some d → xs[i]? = some y → ∀ L' code Sc' F' O', Ev ⟨c.g, A', genEnv scope cl L' code builtinsNs c.env, Sc', F', upd x (.val d) ρc, O'⟩ (eval elt (genEnv scope cl L' code builtinsNs c.env)) (.str y))
    (hfold : ∀ v, genFold iter c.env v = pure v) {Q : Value → Shared → Prop} {E : Value → Shared → Prop} (q : ∀ v s', Bs c.g s' → Kp c.g.Tb s s' → Rep c.g c.S s'.heap v (.str (joinL sep xs)) → Q v s') :
    wpAny c.g.M c.A (eval (.GeneratorExp elt [⟨.Name x px, iter, [], 0⟩] scope gpos) c.env) (fun v s' => wpAny c.g.M c.A (call (.builtin "str.join") [.str (S? sep) t, v]) Q E s') E s := by
  have hdep : c.A.depth < recursionLimit := by have := R.depth; omega
  refine wpAny_GeneratorExp_make hco hclos hcell h0 hkind hdep (hi s X _ _ fun u s₁ B₁ k₁ r₁ => ?_) hfold
  have X₁ := X.kp k₁ B₁
  refine hit s₁ u X₁ r₁ _ _ fun I fp wr P' St' s₂ B₂ k₂ W st hfp hwr hit' => ⟨B₂.nl G, ?_⟩
  have hwfp : ∀ b ∈ wr, b ∈ fp := (W c.A R.hand).sub
  refine genCode_R G B₂ hcode hT fun code s₃ B₃ k₃ => ?_
  rw [X.gl]
  refine builtinsFor_R G HB B₃ fun h' hns hsb => ?_
  -- C, the generator's place, the list's place
  obtain ⟨C, hC⟩ : ∃ C, C = s₃.heap.objs.size := ⟨_, rfl⟩
  rw [← hC] at hns hsb ⊢
  have hs12 := k₂.size
  have hs23 := k₃.size
  have hz' : h'.objs.size = C + 1 := by rw [hsb.1, Heap.size_push, hC]
  obtain ⟨ga, hga⟩ : ∃ ga, ga = C + 1 := ⟨_, rfl⟩
  rw [hz', ← hga]
  obtain ⟨Sl, hSl⟩ : ∃ Sl, Sl = C + 2 := ⟨_, rfl⟩
  generalize hgo : ({ cls := .type "generator", data := .fields #[.int s₃.gens.size 0, .str "<genexpr>" (s₃.toks + 1), .str (c.env.qual ++ "<genexpr>") (s₃.toks + 1 + 1)] } : Obj) = go
  obtain ⟨s₄, hs₄⟩ : ∃ s₄ : Shared, s₄ = { s₃ with gens := s₃.gens.push (.fresh (.compStart (.GeneratorExp elt [⟨.Name x px, iter, [], 0⟩] scope gpos) 0 (.ref I) .none (genEnv scope cl C code builtinsNs c.env))), toks := s₃.toks + 1 + 1 + 1, heap := h'.push go } := ⟨_, rfl⟩
  show wpAny _ _ _ _ _ { s₃ with gens := s₃.gens.push (.fresh (.compStart (.GeneratorExp elt [⟨.Name x px, iter, [], 0⟩] scope gpos) 0 (.ref I) .none (genEnv scope cl C code builtinsNs c.env))), toks := s₃.toks + 1 + 1 + 1, heap := h'.push go }
  rw [← hs₄]
  have old3 : ∀ b o, s₃.heap.get? b = some o → s₄.heap.get? b = some o := fun b o e => by
    rw [hs₄]
    exact Heap.get?_push_of_some _ ((hsb.2 b (A_ne (Heap.lt_size e) (Nat.le_of_eq hC.symm))).trans (Heap.get?_push_of_some _ e))
  have hz4 : s₄.heap.objs.size = Sl := by rw [hs₄]; show (h'.push go).objs.size = _; rw [Heap.size_push, hz', hSl]
  have gens4 : ∀ (i : Nat) y, s₃.gens[i]? = some y → s₄.gens[i]? = some y := fun i y e => by
    rw [hs₄]
    show (s₃.gens.push _)[i]? = some y
    have hlt : i < s₃.gens.size := by
      rcases Nat.lt_or_ge i s₃.gens.size with h | h
      · exact h
      · rw [Array.getElem?_eq_none h] at e; cases e
    rw [Array.getElem?_push, if_neg (Nat.ne_of_lt hlt)]; exact e
  have hos4 : s₄.os = s₃.os := by rw [hs₄]
  have bare4 : AllBare s₄.gens := by rw [hs₄]; exact AllBare.push B₃.bare rfl
  have k₄ : Kp (fun b => s₃.heap.objs.size ≤ b) s₃ s₄ := ⟨fun b o _ e => old3 b o e, by rw [hz4, hSl, ← hC]; exact Nat.le_add_right _ 2, gens4, hos4⟩
  have B₄ : Bs c.g s₄ := B₃.fresh k₄ bare4
  have k₄' : Kp c.g.Tb s₃ s₄ := Kp.of_new (k₄.weaken fun b t => .inr t)
  -- with the list pushed
  obtain ⟨s₅, hs₅⟩ : ∃ s₅ : Shared, s₅ = { s₄ with heap := s₄.heap.push { cls := .type "list", data := .seq ([] : List Value).toArray } } := ⟨_, rfl⟩
  have k₅ : Kp (fun b => s₄.heap.objs.size ≤ b) s₄ s₅ := by rw [hs₅]; exact Kp.push s₄ _ s₄.toks
  have B₅ : Bs c.g s₅ := B₄.fresh k₅ (by rw [hs₅]; exact B₄.bare)
  have k₅' : Kp c.g.Tb s₄ s₅ := Kp.of_new (k₅.weaken fun b t => .inr t)
  have hz5 : s₅.heap.objs.size = Sl + 1 := by rw [hs₅]; show (s₄.heap.push _).objs.size = _; rw [Heap.size_push, hz4]
  have hC1 : s₁.heap.objs.size ≤ C := by rw [hC]; exact Nat.le_trans hs12 hs23
  have hg1 : s₁.heap.objs.size ≤ ga := by rw [hga]; exact Nat.le_succ_of_le hC1
  have hS1 : s₁.heap.objs.size ≤ Sl := by rw [hSl]; exact Nat.le_succ_of_le (Nat.le_succ_of_le hC1)
  have hCS : C < Sl := by rw [hSl]; exact Nat.lt_succ_of_lt (Nat.lt_succ_self _)
  have hgS : ga < Sl := by rw [hga, hSl]; exact Nat.lt_succ_self _
  have hCg : C < ga := by rw [hga]; exact Nat.lt_succ_self _
  have hwC : ∀ b ∈ fp, b < C := fun b hb => by rw [hC]; exact Nat.lt_of_lt_of_le (hfp b hb).1 hs23
  have kk : Kp c.g.Tb s₁ s₅ := ((k₂.trans k₃).trans k₄').trans k₅'
  have XG := FrOk.grow X₁ kk B₅ (W := fun b => b ∈ wr ∨ b = Sl ∨ b = C) (by
    rintro b (hb | rfl | rfl)
    · exact ⟨hwr b hb, by rw [hz5]; exact Nat.lt_succ_of_lt (Nat.lt_trans (hwC b (hwfp b hb)) hCS)⟩
    · exact ⟨hS1, by rw [hz5]; exact Nat.lt_succ_self _⟩
    · exact ⟨hC1, by rw [hz5]; exact Nat.lt_succ_of_lt hCS⟩)
  have nC := B₁.new (b := C) hC1
  have nS := B₁.new (b := Sl) hS1
  have hFlt : ∀ b, c.F b → b < s₁.heap.objs.size := X₁.fS
  have hCF : ¬ c.F C := fun t => A_nl (hFlt _ t) hC1 (Nat.le_refl _)
  have hSF : ¬ c.F Sl := fun t => A_nl (hFlt _ t) hS1 (Nat.le_refl _)
  have hns4 : s₄.heap.Ns C (fun y => if y = (".0" : Str) then some (.ref I) else none) := by rw [hs₄]; exact hns.push _
  have hns5 : s₅.heap.Ns C (fun y => if y = (".0" : Str) then some (.ref I) else none) := by rw [hs₅]; exact hns4.push _
  let env' := genEnv scope cl C code builtinsNs c.env
  let Sc' : Addr → Prop := Sx c.F fun b => c.Sc b ∨ b ∈ wr ∨ b = Sl ∨ b = C
  have XI : FrOk c.g env' Sc' (innerF c.g env') ρc (fun _ => none) s₅ :=
    FrOk.inner XG hkind X.gl rfl (.inr (.inr (.inr rfl))) hCF nC.1 nC.2 hns5 hc (ht C code)
  have inF : ∀ b, innerF c.g env' b → c.F b ∨ b = C := by
    rintro b (t | t | ⟨y, e⟩)
    · exact .inl (X.tF b t)
    · exact .inr t
    · exact .inl (X.cF y b (hc y b e)).1
  let z : Gn := ⟨c.g, env', Sc', ρc, I, fp, wr, P', St', x, ds, xs, s₁, c.S, s₃.gens.size⟩
  have fpF : ∀ b ∈ fp, ¬ innerF c.g env' b := by
    intro b hb t
    rcases inF b t with t | t
    · exact (hfp b hb).2 (.inl t)
    · exact A_no (hwC b hb) (Nat.le_refl _) t
  have Z : z.Ok := by
    refine ⟨W, fun b hb => ?_, fpF, hC1, ?_, fun b t => .inl (X.tF b t), hit', hx, hρx, hlen, hco⟩
    · obtain ⟨n1, n2, n3⟩ := B₁.new (hwr b hb)
      exact ⟨.inr (.inr (.inl hb)), hwr b hb, n2, fun cc P m => ⟨n3 cc P m, fun e => n1 (e ▸ ⟨cc, m⟩)⟩⟩
    · rintro b hb (t | t | t | t | t | t)
      · rcases inF b t with t | t
        · exact .inl t
        · exact A_no hb hC1 t
      · exact .inl t
      · exact .inr t
      · exact absurd hb (Nat.not_lt.mpr (hwr b t))
      · exact A_no hb hS1 t
      · exact A_no hb hC1 t
  have hfpS : Sl ∉ fp := fun hb => A_nl (hwC Sl hb) (Nat.le_of_lt hCS) (Nat.le_refl _)
  have hout : z.Out ga Sl := by
    refine ⟨.inr (.inr (.inr (.inl rfl))), fun t => ?_, hfpS, hS1, ⟨nS.2.1, fun cc P m => ⟨nS.2.2 cc P m, fun e => nS.1 (e ▸ ⟨cc, m⟩)⟩⟩, A_ne hgS (Nat.le_refl _)⟩
    rcases inF Sl t with t | t
    · exact hSF t
    · exact A_ne' hCS (Nat.le_refl _) t
  have hgen : s₄.heap.IsGen ga s₃.gens.size := by
    rw [hs₄]
    refine ⟨go, _, _, ?_, by rw [← hgo], by rw [← hgo], by rw [← hgo]⟩
    show (h'.push go).get? ga = some go
    rw [hga, ← hz']
    exact Heap.get?_push_size _ (by rw [← hgo]; rfl)
  have kk4 : Kp c.g.Tb s₁ s₄ := (k₂.trans k₃).trans k₄'
  have st5 : St' 0 s₅.heap := (W c.A R.hand).frame 0 _ _ st fun b hb o e => (k₃.trans (k₄'.trans k₅')).heap b o (fun t => (hfp b hb).2 (.inl (X.tF b t))) e
  have hready : z.Ready 0 s₅ := ⟨⟨⟨_, XI⟩, Kp.kg (kk.weaken fun b t => .inl t)⟩, st5⟩
  have Rg : Room c.A.in1.in1.in1 (n + 1) := ⟨by have := R.units; show c.A.units + 1 + 1 + 1 + _ < _; omega, by have := R.depth; show c.A.depth + _ < _; omega, R.hand⟩
  have hat : z.At c.A.in1.in1 ga 0 s₅ := by
    refine ⟨hgen.keeps fun b o e => by rw [hs₅]; exact Heap.get?_push_of_some _ e, hready, .fresh (.compStart (.GeneratorExp elt [⟨.Name x px, iter, [], 0⟩] scope gpos) 0 (.ref I) .none env'), ?_, rfl, fun s'' hal => ⟨rfl, ?_⟩⟩
    · rw [hs₅, hs₄]
      exact Array.getElem?_push_size ..
    · exact seg_startG (z := z) (A := c.A.in1.in1.in1) Z Rg (fun A' R' i d y hd hy O' => turn A' R' i d y hd hy C code Sc' (innerF c.g env') O') s'' hal
  have hga' : ¬ c.g.Tb ga ∧ ga ≠ env'.locals ∧ ga ∉ wr := ⟨(B₁.new (b := ga) hg1).1, A_ne' hCg (Nat.le_refl _), fun hb => A_nl (hwC ga (hwfp ga hb)) (Nat.le_of_lt hCg) (Nat.le_refl _)⟩
  refine joinG (z := z) (A := c.A) G Z (by rw [hz4]; exact hout) R.hand hdep hga' hdl hgen (by rw [← hs₅]; exact hat) hsz fun v s' B' kg hv => ?_
  obtain ⟨t', rfl⟩ := hv
  have kf : Kp c.g.Tb s₁ s' := by
    refine Kp.of_new ⟨kg.heap, kg.size, fun i y e => kg.gens i y ?_ e, kg.os⟩
    have h3 := k₃.gens i y (k₂.gens i y e)
    intro hi
    rw [hi, Array.getElem?_eq_none (Nat.le_refl _)] at h3
    cases h3
  exact q _ s' B' (k₁.trans kf) (.str _ t')
end
end J5
end
section
open PySem PySem.W PySem.W.X PyProof.Rows Builtin
set_option Elab.async false
set_option maxRecDepth 100000
set_option linter.unusedVariables false
namespace J5
section
variable {c : Cx}
theorem Ev.joinGen {o : Expr} {apos pos : Pos} {sep : List Nat} {elt iter : Expr} {x : Str} {px gpos : Pos} {scope : Scope} {cl : List (Str × Addr)} {a : D} {ds : List D} {xs : List (List Nat)} {ρc : Rho} {n : Nat} {cc P : Addr} (G : Gok c.g) (HB : GBm c.g) (R : Room c.A (n + 3)) (h : Ev c (eval o c.env) (.str sep))
    (hi : Ev c (eval iter c.env) a) (hit : ∀ s u, c.At s → Rep c.g c.S s.heap u a → ItersA c s u ds) (hlen : xs.length = ds.length) (hdl : ds.length ≤ sizeLine) (hsz : (xs.map List.length).sum + xs.length * sep.length ≤ sizeLine)
    (hclos : closureFor scope c.env = pure cl) (hco : scope.isCoroutine = false) (hcell : ∀ y ∈ scope.names, y.2 ≠ .cell) (h0 : scope.names.lookup (".0" : Str) = some NameKind.local) (hkind : scope.kind = .function) (hx : scope.names.lookup x = some .local)
    (hc : ∀ y cc, cl.lookup y = some cc → c.env.cells.lookup y = some cc) (ht : ∀ L' code, Taken c.env (genEnv scope cl L' code builtinsNs c.env) c.ρ ρc) (hρx : ρc.lookup x = none) (hcode : c.env.code = .ref cc) (hT : (cc, P) ∈ c.g.T)
    (turn : ∀ A' : Around, Room A' n → ∀ (i : Nat) d y, ds[i]? = some d → xs[i]? = some y → ∀ L' code Sc' F' O', Ev ⟨c.g, A', genEnv scope cl L' code builtinsNs c.env, Sc', F', upd x (.val d) ρc, O'⟩ (eval elt (genEnv scope cl L' code builtinsNs c.env)) (.str y))
    (hfold : ∀ v, genFold iter c.env v = pure v) (hb : ∀ w, attributeBase o "join" c.env w = w) (hl : (apos.endLine == pos.line) = true) :
    Ev c (eval (.Call (.Attribute o "join" apos) [.GeneratorExp elt [⟨.Name x px, iter, [], 0⟩] scope gpos] [] pos) c.env) (.str (joinL sep xs)) := by
  intro s X Q E q
  show wpAny _ _ (do
    let ov ← attributeBase o "join" c.env (eval o c.env)
    standAt apos.atName
    methodCall o "join" apos pos c.env ov 1 (backTo pos (starEach [.GeneratorExp elt [⟨.Name x px, iter, [], 0⟩] scope gpos] c.env)) (backToKw pos (keywordEach [] c.env))) Q E s
  rw [hb]
  refine wpAny_bind (h s X _ _ fun u s₁ B₁ k₁ r₁ => ?_)
  have X₁ := X.kp k₁ B₁
  refine wpAny_bind (wpAny_standAt ?_)
  have few : methodCallForm 1 (backTo pos (starEach [.GeneratorExp elt [⟨.Name x px, iter, [], 0⟩] scope gpos] c.env)) (backToKw pos (keywordEach [] c.env)) = true := by
    rw [starEach_cons rfl]; rfl
  unfold methodCall
  rw [few]
  refine wpAny_bind (wpAny_holding ?_)
  cases r₁ with
  | str _ t =>
    show wpAny _ _ (getMethod (.str ⟨sep.toArray⟩ t) "join" _) _ E s₁
    refine GM.join ?_
    dsimp only
    have hp : methodCallPos true o c.env apos pos = pure pos := by
      unfold methodCallPos
      rw [hl]; rfl
    rw [hp]
    refine wpAny_bind (wpAny_pure ?_)
    refine callWith_of (P := fun _ => True) (by rw [starEach_cons rfl]; rfl) (fun _ _ => ⟨.machine, .inr (.inl rfl), .now⟩) ?_
    refine evalArgs_R (by rw [starEach_cons rfl]; rfl) rfl ?_
    rw [starEach_cons rfl]
    show wpAny _ _ (spliced ((false, eval (.GeneratorExp elt [⟨.Name x px, iter, [], 0⟩] scope gpos) c.env) :: backTo pos (starEach [] c.env))) _ E s₁
    refine Calls.spliced_cons ?_
    refine wpAny_mono (genJoin_R (sep := sep) (t := t) G HB R X₁ hi hit hlen hdl hsz hclos hco hcell h0 hkind hx hc ht hρx hcode hT turn hfold (Q := Q) (E := E) fun v s' B' k' r' => q v s' B' (k₁.trans k') r') (fun v s' hv => ?_) fun _ _ e => e
    refine Calls.spliced_nil (wpAny_evalAll_nil ⟨trivial, ?_⟩)
    exact hv
/- try, where nothing is raised -/
theorem St.tryOk {body orelse : List Stmt} {h₀ : ExceptHandler} {hs : List ExceptHandler} {pos : Pos} {ρ₁ ρ₂ : Rho} {fl : Fl} (h₁ : St c (execs body c.env) ρ₁ .next) (h₂ : ∀ F' O', St (c.with F' ρ₁ O') (execs orelse c.env) ρ₂ fl) :
    St c (exec (.Try body (h₀ :: hs) orelse [] pos) c.env) ρ₂ fl := by
  intro s X Q E q
  refine wpAny_Try_except (h₁ s X _ _ fun f s₁ F₁ O₁ X₁ k₁ g₁ r₁ => ?_)
  cases r₁
  refine h₂ F₁ O₁ s₁ X₁ Q E fun f s₂ F₂ O₂ X₂ k₂ g₂ r₂ => ?_
  refine q f s₂ F₂ O₂ X₂ (Kp.of_new ((k₁.weaken fun b t => .inl t).trans (k₂.weaken g₁))) ?_ r₂
  intro b t
  rcases g₂ b t with t | t
  · exact g₁ b t
  · exact .inr (Nat.le_trans k₁.size t)
theorem CallOk.range1 {g : Gd} {n : Int} : CallOk g 1 (.type "range") [.int n] [] [] (.rng 0 n) := by
  intro A S s us kvs R B hS hz ra rk
  cases ra with
  | cons q1 rn =>
    cases rn; cases rk
    cases q1 with
    | int _ t =>
      intro Q E q
      refine call_range_1 ?_
      have k := Kp.push (T := g.Tb) s { cls := .type "range", data := .fields #[.int 0 s.toks, .int n t, .int 1 (s.toks + 1)] } (s.toks + 1 + 1)
      refine q _ _ (B.fresh (Kp.push s _ _) B.bare) k (.rng (fun h => Nat.lt_irrefl _ (hz _ h)) (IsRange.new _ _ _ _ _ _ _))
/- format strings -/
def Pts (c : Cx) (out : List Nat) (ts : List (Sem Value)) (x : List Nat) : Prop :=
  ∀ s, c.At s → ∀ (Q : Value → Shared → Prop) (E : Value → Shared → Prop), (∀ v s', Bs c.g s' → Kp c.g.Tb s s' → Rep c.g c.S s'.heap v (.str x) → Q v s') → wpAny c.g.M c.A (joinParts (S? out) ts) Q E s
theorem Pts.nil {out : List Nat} (h : out.length ≤ sizeLine) : Pts c out [] out := by
  intro s X Q E q
  exact joinParts_nil (q _ _ (X.bs.toks _) (Kp.tok s _) (.str out s.toks)) (by rw [S?_length]; exact h)
theorem Pts.cons {out y x : List Nat} {t : Sem Value} {ts : List (Sem Value)} (h : Ev c t (.str y)) (hl : (out ++ y).length ≤ sizeLine) (hr : Pts c (out ++ y) ts x) : Pts c out (t :: ts) x := by
  intro s X Q E q
  refine joinParts_cons (h s X _ _ fun v s₁ B₁ k₁ r₁ => ?_)
  cases r₁ with
  | str _ t =>
    show (S? out ++ S? y).length ≤ sizeLine ∧ wpAny _ _ (joinParts (S? out ++ S? y) ts) _ _ _
    rw [S?_append, S?_length]
    exact ⟨hl, hr s₁ (X.kp k₁ B₁) Q E fun v s₂ B₂ k₂ r₂ => q v s₂ B₂ (k₁.trans k₂) r₂⟩
theorem Ev.fstr {v₁ v₂ : Expr} {rest : List Expr} {pos : Pos} {x : List Nat} (h : Pts c [] (eval v₁ c.env :: eval v₂ c.env :: evalEach rest c.env) x) : Ev c (eval (.JoinedStr (v₁ :: v₂ :: rest) pos) c.env) (.str x) :=
  fun s X Q E q => JoinedStr_many (h s X Q E q)
theorem Ev.fstr1 {v : Expr} {pos : Pos} {d : D} (h : Ev c (eval v c.env) d) : Ev c (eval (.JoinedStr [v] pos) c.env) d := h
theorem Ev.fmt {value : Expr} {pos : Pos} {x : List Nat} (h : Ev c (eval value c.env) (.str x)) (hl : x.length ≤ sizeLine) : Ev c (eval (.FormattedValue value (-1) none pos) c.env) (.str x) := by
  intro s X Q E q
  refine FormattedValue_plain (h s X _ _ fun v s₁ B₁ k₁ r₁ => ?_)
  cases r₁ with
  | str _ t => exact formatField_str (fun t' tk => q _ _ (B₁.toks tk) (k₁.trans (Kp.tok _ _)) (.str x t')) (by show (S? x).length ≤ _; rw [S?_length]; exact hl)
/- a number by a format -/
def FmtOk (i : Int) (spec y : List Nat) : Prop := ∀ (prog : Program) (w : World) (A : Around) (s : Shared) (t u : Tok) (Q : Value → Shared → Prop) (E : Value → Shared → Prop), (∀ t' k, Q (.str (S? y) t') { s with toks := k }) → wpAny (model prog w) A (Builtin.«int.__format__» ⟨[.int i t, .str (S? spec) u], []⟩) (fun fin s' => ∃ v, fin = .done (.ret v) ∧ Q v s') E s
theorem Ev.fmtI {value sp : Expr} {pos : Pos} {i : Int} {spec y : List Nat} (h : Ev c (eval value c.env) (.int i)) (hs : Ev c (eval sp c.env) (.str spec)) (hf : FmtOk i spec y) (hl : spec.length ≤ sizeLine) : Ev c (eval (.FormattedValue value (-1) (some sp) pos) c.env) (.str y) := by
  intro s X Q E q
  show wpAny _ _ (do let v ← eval value c.env; standAt pos; formatted pos (← holding [v] (converted (-1) v)) (some (eval sp c.env))) Q E s
  refine wpAny_bind (h s X _ _ fun v s₁ B₁ k₁ r₁ => ?_)
  have X₁ := X.kp k₁ B₁
  cases r₁ with
  | int _ t =>
    refine wpAny_bind (wpAny_standAt ?_)
    show wpAny _ _ (do let v' ← holding [.int i t] (pure (.int i t)); formatted pos v' (some (eval sp c.env))) Q E s₁
    refine wpAny_bind (wpAny_holding (wpAny_pure ?_))
    unfold formatted
    refine wpAny_bind (wpAny_holding (hs s₁ X₁ _ _ fun v s₂ B₂ k₂ r₂ => ?_))
    cases r₂ with
    | str _ u =>
      refine wpAny_bind (wpAny_standAt ?_)
      show wpAny _ _ (holding [.int i t] (pyFormat (.int i t) (S? spec))) Q E s₂
      refine wpAny_holding ?_
      unfold pyFormat
      refine wpAny_bind (wpAny_mkStr ?_ (by rw [S?_length]; exact hl))
      refine wpAny_bind (m := callSpecial? (.int i t) (Str.ofString "__format__") [.str (S? spec) s₂.toks]) (wpAny_callSpecial?_slot (name := Str.ofString "__format__") (typeIs_int _ i t) slot_int_format ?_)
      refine wpAny_call (codeAny_call_builtin slot_int_format.plain entry_int_format (slot_int_format.check _ _ _ _ _ _ _ _ (typeIs_int _ i t) (args_int_format _ _) ?_))
      refine wpAny_mono (hf _ _ c.A.in1 _ t s₂.toks (fun v s' => wpAny c.g.M c.A (do if ← isInstance v (.type "str") then return v else (do rule "format.no-str"; raiseError "TypeError" s!"__format__ must return a str, not {← typeNameOf v}")) Q E s') (fun e s' => E e s') fun t' k => ?_) (fun fin s' hfin => ?_) fun _ _ e => e
      · refine wpAny_bind (wpAny_isInstance (typeIs_str _ _ _) isSubtype_str_str (wpAny_pure ?_))
        exact q _ _ ((B₂.toks _)) (k₁.trans (k₂.trans (Kp.tok _ _))) (.str y t')
      · obtain ⟨v, rfl, hv⟩ := hfin
        exact hv
/- category -/
theorem kind_category : builtinKind "unicodedata.category" = none := by decide +kernel
theorem plain_category : plainId "unicodedata.category" = true := by decide +kernel
theorem entry_category : entryFor table "unicodedata.category" = some Builtin.«unicodedata.category» := entryFor_of_tree (by kernel_rfl)
theorem args_category (a : Value) : argsOk "unicodedata.category" ⟨[a], []⟩ := by unfold argsOk; kernel_rfl
theorem CallOk.category {g : Gd} {x : Nat} {y : List Nat} (h : (Unicodedata.categoryOf x : Str) = S? y) (hl : y.length ≤ 10) : CallOk g 1 (.builtin "unicodedata.category") [.str [x]] [] [] (.str y) := by
  intro A S s us kvs R B hS hz ra rk
  cases ra with
  | cons q1 rn =>
    cases rn; cases rk
    cases q1 with
    | str _ t =>
      intro Q E q
      refine Calls.call_function_entry kind_category plain_category entry_category (args_category _) ?_
      show wpAny _ _ (retStr (Unicodedata.categoryOf x)) _ _ _
      unfold retStr
      rw [h]
      refine wpAny_bind (wpAny_mkStr (wpAny_pure ⟨_, rfl, q _ _ (B.toks _) (Kp.tok s _) (.str y s.toks)⟩) (by rw [S?_length, sizeLine_eq]; omega))
end
end J5
end
section
open PySem PySem.W PySem.W.X PyProof.Rows Builtin
set_option Elab.async false
set_option maxRecDepth 100000
set_option linter.unusedVariables false
namespace J5
/- an evaluator: what a stretch of code gives, and what is still to be shown -/
abbrev Zs (α : Type) := Option (List Prop × α)
def All : List Prop → Prop
  | [] => True
  | p :: ps => p ∧ All ps
theorem All.append : ∀ {p q : List Prop}, All (p ++ q) → All p ∧ All q
  | [], _, h => ⟨trivial, h⟩
  | _ :: _, _, ⟨a, b⟩ => let ⟨c, d⟩ := All.append b; ⟨⟨a, c⟩, d⟩
def Zs.b {α β : Type} (x : Zs α) (f : α → Zs β) : Zs β := match x with
  | none => none
  | some (p, a) => match f a with
    | none => none
    | some (q, b) => some (p ++ q, b)
theorem Zs.b_some {α β : Type} {x : Zs α} {f : α → Zs β} {r : List Prop} {b : β} (e : x.b f = some (r, b)) (hr : All r) : ∃ p a q, x = some (p, a) ∧ f a = some (q, b) ∧ All p ∧ All q := by
  unfold Zs.b at e
  split at e
  · cases e
  · rename_i p a
    split at e
    · cases e
    · rename_i q b' hf
      cases e
      obtain ⟨h1, h2⟩ := hr.append
      exact ⟨p, a, q, rfl, hf, h1, h2⟩
def evR {α : Type} : Rs α → Zs α
  | none => none
  | some (p, a) => some ([p], a)
theorem evR_some {α : Type} {x : Rs α} {r : List Prop} {a : α} (e : evR x = some (r, a)) (hr : All r) : ∃ p, x = some (p, a) ∧ p := by
  cases x with
  | none => cases e
  | some pa => obtain ⟨p, a'⟩ := pa; cases e; exact ⟨p, rfl, hr.1⟩
def evO {α : Type} : Option α → Zs α
  | none => none
  | some a => some ([], a)
theorem evO_some {α : Type} {x : Option α} {r : List Prop} {a : α} (e : evO x = some (r, a)) : x = some a := by
  cases x with
  | none => cases e
  | some a' => cases e; rfl
def evG {α : Type} (b : Bool) (x : Zs α) : Zs α := if b then x else none
theorem evG_some {α : Type} {b : Bool} {x : Zs α} {r : List Prop} {a : α} (e : evG b x = some (r, a)) : b = true ∧ x = some (r, a) := by
  unfold evG at e
  split at e
  · rename_i h; exact ⟨h, e⟩
  · cases e
structure Zx where
  K : Frag
  names : List (Str × NameKind)
  cells : List Str
  gl : Str → Option (Option Value)
  orc : Value → List D → List Str → List D → Zs D
  spc : Nat → Nat → Option D
  spt : Nat → Nat → Option Bool
  sst : Nat → Rho → Option (Rho × Fl)
structure Zok (z : Zx) (n : Nat) (g : Gd) (A : Around) (env : Env) : Prop where
  G : Gok g
  K : g.K = z.K
  R : Room A n
  n10 : 11 ≤ n
  kind : ∀ x, env.kindOf x = z.names.lookup x
  cells : ∀ x, z.cells.contains x = true → (env.cells.lookup x).isSome = true
  gl : ∀ x v, z.gl x = some v → g.mg x = v
  orc : ∀ f as ns ks ps d, z.orc f as ns ks = some (ps, d) → All ps → CallOk g n f as ns ks d
  notM : interactive env = false
theorem CallOk.up {g : Gd} {m n : Nat} {f : Value} {as : List D} {ns : List Str} {ks : List D} {d : D} (h : CallOk g m f as ns ks d) (hm : m ≤ n) : CallOk g n f as ns ks d :=
  fun A S s vs kvs R B hS hz ra rk => h A S s vs kvs ⟨by have := R.units; omega, by have := R.depth; omega, R.hand⟩ B hS hz ra rk
/- builtins -/
def strsD : List D → Option (List (List Nat))
  | [] => some []
  | .str x :: r => (strsD r).map (x :: ·)
  | _ => none
theorem strsD_some : ∀ {ds : List D} {xs : List (List Nat)}, strsD ds = some xs → ds = xs.map .str
  | [], _, e => by cases e; rfl
  | d :: r, xs, e => by
    cases d <;> (first | (cases e; done) | skip)
    obtain ⟨ys, hy, rfl⟩ := Option.map_eq_some_iff.mp e
    rw [strsD_some hy]; rfl
def plainTypes : List String := ["str", "int", "float", "dict", "list", "tuple"]
theorem plainTypes_type : ∀ T ∈ plainTypes, typeOf (.type T) = pure (.type "type") := by
  intro T h
  simp only [plainTypes, List.mem_cons, List.not_mem_nil, or_false] at h
  rcases h with rfl | rfl | rfl | rfl | rfl | rfl <;> kernel_rfl
def subD (Tx T : String) : Option Bool := if plainTypes.contains T then (match fastBuiltinMro Tx with
    | some l => let r := l.contains (.type T); if r || !(Value.type Tx == Value.type T) then some r else none
    | none => none) else none
theorem subD_some {Tx T : String} {r : Bool} (e : subD Tx T = some r) : (r = false → (Value.type Tx == Value.type T) = false) ∧ typeOf (.type T) = pure (.type "type") ∧ isSubtype (.type Tx) (.type T) = pure r := by
  unfold subD at e
  split at e
  · rename_i hT
    split at e
    · rename_i l hl
      dsimp only at e
      split at e
      · rename_i hr
        cases e
        refine ⟨fun h => ?_, plainTypes_type T (by simpa using hT), by rw [isSubtype_type, hl]⟩
        rw [h, Bool.false_or] at hr
        simpa using hr
      · cases e
    · cases e
  · cases e
def isiD : List D → Zs D
  | [d, .at (.type T)] => (match tyD d with
    | some Tx => (evO (subD Tx T)).b fun r => some ([], .bool r)
    | none => none)
  | [d, .tup [.at (.type T), .at (.type T')]] => (match tyD d with
    | some Tx => (evO (subD Tx T)).b fun r => (evO (subD Tx T')).b fun r' => some ([], .bool (r || r'))
    | none => none)
  | _ => none
def bltD (i : String) (as : List D) : Zs D :=
  if i == "len" then (match as with | [.str x] => some ([x.length ≤ sizeLine], .int x.length) | [.list ds] => some ([ds.length ≤ sizeLine], .int ds.length) | _ => none)
  else if i == "ord" then (match as with | [.str [x]] => some ([], .int x) | _ => none)
  else if i == "isinstance" then isiD as
  else if i == "str.join" then (match as with | [.str sep, .list ds] => (match strsD ds with | some xs => some ([(xs.map List.length).sum + xs.length * sep.length ≤ sizeLine], .str (joinL sep xs)) | none => none) | _ => none)
  else if i == "dict.get" then (match as with | [.dict ks vs, .str k, z] => some ([], (lookD k ks vs).getD z) | _ => none)
  else if i == "dict.keys" then (match as with | [.dict ks vs] => some ([], .keys ks vs) | _ => none)
  else if i == "unicodedata.category" then (match as with | [.str [x]] => (let y := (Unicodedata.categoryOf x : Str).cps.toList; evG (decide (y.length ≤ 10)) (some ([], .str y))) | _ => none)
  else none
theorem CallOk.blt {g : Gd} {i : String} {as : List D} {ps : List Prop} {d : D} (e : bltD i as = some (ps, d)) (hp : All ps) : CallOk g 1 (.builtin i) as [] [] d := by
  unfold bltD at e
  split at e
  · rename_i h; rw [beq_iff_eq] at h; subst h
    split at e <;> cases e
    · exact .len_str hp.1
    · exact .len_list hp.1
  split at e
  · rename_i h; rw [beq_iff_eq] at h; subst h
    split at e <;> cases e
    exact .ord
  split at e
  · rename_i h; rw [beq_iff_eq] at h; subst h
    unfold isiD at e
    split at e
    · split at e
      · rename_i Tx hTx
        obtain ⟨_, r, _, h1, h2, _, _⟩ := Zs.b_some e hp
        cases h2
        obtain ⟨a1, a2, a3⟩ := subD_some (evO_some h1)
        cases r with
        | true => exact .isi_true hTx a2 a3
        | false => exact .isi_false hTx (a1 rfl) a2 a3
      · cases e
    · split at e
      · rename_i Tx hTx
        obtain ⟨_, r, _, h1, h2, _, q2⟩ := Zs.b_some e hp
        obtain ⟨_, r', _, h3, h4, _, _⟩ := Zs.b_some h2 q2
        cases h4
        obtain ⟨a1, a2, a3⟩ := subD_some (evO_some h1)
        obtain ⟨b1, b2, b3⟩ := subD_some (evO_some h3)
        exact .isi_tup2 hTx a1 a2 a3 b1 b2 b3
      · cases e
    · cases e
  split at e
  · rename_i h; rw [beq_iff_eq] at h; subst h
    split at e
    · split at e
      · rename_i xs hxs
        cases e
        rw [strsD_some hxs]
        exact .join hp.1
      · cases e
    · cases e
  split at e
  · rename_i h; rw [beq_iff_eq] at h; subst h
    split at e <;> cases e
    exact .get2
  split at e
  · rename_i h; rw [beq_iff_eq] at h; subst h
    split at e <;> cases e
    exact .keys
  split at e
  · rename_i h; rw [beq_iff_eq] at h; subst h
    split at e
    · obtain ⟨hl, e⟩ := evG_some e
      cases e
      exact .category (by simp [S?]) (by simpa using hl)
    · cases e
  · cases e
def typD (T : String) (as : List D) : Zs D :=
  if T == "set" then (match as with | [] => some ([], .set []) | _ => none)
  else if T == "range" then (match as with | [.int n] => some ([], .rng 0 n) | _ => none)
  else none
theorem CallOk.typ {g : Gd} {T : String} {as : List D} {ps : List Prop} {d : D} (e : typD T as = some (ps, d)) : CallOk g 1 (.type T) as [] [] d := by
  unfold typD at e
  split at e
  · rename_i h; rw [beq_iff_eq] at h; subst h
    split at e <;> cases e
    exact .set0
  split at e
  · rename_i h; rw [beq_iff_eq] at h; subst h
    split at e <;> cases e
    exact .range1
  · cases e
def callD (z : Zx) (f : Value) (as : List D) (ns : List Str) (ks : List D) : Zs D := match z.orc f as ns ks with
  | some r => some r
  | none => match f, ns, ks with
    | .builtin i, [], [] => bltD i as
    | .type T, [], [] => typD T as
    | _, _, _ => none
theorem callD_some {z : Zx} {n : Nat} {g : Gd} {A : Around} {env : Env} (Z : Zok z n g A env) {f : Value} {as : List D} {ns : List Str} {ks : List D} {ps : List Prop} {d : D} (e : callD z f as ns ks = some (ps, d)) (hp : All ps) : CallOk g n f as ns ks d := by
  have := Z.n10
  unfold callD at e
  split at e
  · rename_i r hr; cases e; exact Z.orc _ _ _ _ _ _ hr hp
  · split at e
    · exact (CallOk.blt e hp).up (by omega)
    · exact (CallOk.typ e).up (by omega)
    · cases e
def keepD (K : Frag) : Value → Bool
  | .builtin _ => true
  | .type _ => true
  | f => keepIn K f
theorem keepD_some {g : Gd} {f : Value} (h : keepD g.K f = true) : Keepf g f := by
  unfold keepD at h
  split at h
  · exact .builtin
  · exact .type
  · exact .K h
def mthD (K : Frag) (a : D) (nm : Str) : Option Value := match a with
  | .inst C ns vs => if plainGet K C nm && !ns.contains nm then (match findIn K (.ref C) nm with
      | some (some (.ref fa)) => if isFn K (.ref fa) then some (.ref fa) else none
      | _ => none) else none
  | .str _ => if nm == "join" then some (.builtin "str.join") else none
  | .dict _ _ => if nm == "keys" then some (.builtin "dict.keys") else if nm == "get" then some (.builtin "dict.get") else none
  | _ => none
theorem mthD_some {c : Cx} (G : Gok c.g) {a : D} {nm : Str} {f : Value} (h : mthD c.g.K a nm = some f) : Mth c a nm f := by
  unfold mthD at h
  split at h
  · split at h
    · rename_i hh
      simp only [Bool.and_eq_true, Bool.not_eq_true'] at hh
      split at h
      · rename_i fa hfa
        split at h
        · rename_i ht; cases h; exact .inst G hh.1 hfa ht hh.2
        · cases h
      · cases h
    · cases h
  · split at h
    · rename_i hn; rw [beq_iff_eq] at hn; subst hn; cases h; exact .join
    · cases h
  · split at h
    · rename_i hn; rw [beq_iff_eq] at hn; subst hn; cases h; exact .keys
    · split at h
      · rename_i hn; rw [beq_iff_eq] at hn; subst hn; cases h; exact .get
      · cases h
  · cases h
end J5
end
section
open PySem PySem.W PySem.W.X PyProof.Rows Builtin
set_option Elab.async false
set_option maxRecDepth 100000
set_option linter.unusedVariables false
namespace J5
/- the context of an expression, whatever the frame may change -/
abbrev Cx.at (c : Cx) (ρ : Rho) (Sc F : Addr → Prop) (O : Str → Option Addr) : Cx := ⟨c.g, c.A, c.env, Sc, F, ρ, O⟩
def EvA (c : Cx) (ρ : Rho) (e : Expr) (d : D) : Prop := ∀ S F O, Ev (c.at ρ S F O) (eval e c.env) d
def TrA (c : Cx) (ρ : Rho) (e : Expr) (b : Bool) : Prop := ∀ S F O, Tr (c.at ρ S F O) (isTrue e c.env (eval e c.env)) b
def SndE (c : Cx) (ρ : Rho) (r : Expr → Zs D) : Prop := ∀ e ps d, r e = some (ps, d) → All ps → EvA c ρ e d
def SndT (c : Cx) (ρ : Rho) (r : Expr → Zs Bool) : Prop := ∀ e ps b, r e = some (ps, b) → All ps → TrA c ρ e b
def evName (z : Zx) (ρ : Rho) (x : Str) : Zs D := if x == ("__debug__" : Str) then none else match ρ.lookup x with
  | some (.val d) => some ([], d)
  | some _ => none
  | none => if z.names.lookup x == some .globalImplicit then (match z.gl x with
      | some (some v) => if stat v then some ([], .at v) else none
      | some none => if x == ("__name__" : Str) then none else (match bootBuiltins x with
        | some v => if stat v then some ([], .at v) else none
        | none => none)
      | none => none) else none
def evEs (r : Expr → Zs D) : List Expr → Zs (List D)
  | [] => some ([], [])
  | e :: es => evG (noStar e) ((r e).b fun d => (evEs r es).b fun ds => some ([], d :: ds))
def evKw (r : Expr → Zs D) : List Keyword → Zs (List Str × List D)
  | [] => some ([], [], [])
  | ⟨some n, e, _⟩ :: ks => (r e).b fun d => (evKw r ks).b fun q => some ([], n :: q.1, d :: q.2)
  | _ => none
def evPr (r : Expr → Zs D) : List (Option Expr) → List Expr → Zs (List (List Nat) × List D)
  | [], [] => some ([], [], [])
  | some k :: ks, v :: vs => (r k).b fun kd => (match kd with
      | .str x => (r v).b fun vd => (evPr r ks vs).b fun q => some ([], x :: q.1, vd :: q.2)
      | _ => none)
  | _, _ => none
def evPt (r : Expr → Zs D) : List Nat → List Expr → Zs (List Nat)
  | out, [] => some ([out.length ≤ sizeLine], out)
  | out, e :: es => (r e).b fun d => (match d with
      | .str y => Zs.b (some ([(out ++ y).length ≤ sizeLine], ())) fun _ => evPt r (out ++ y) es
      | _ => none)
def evBo (r : Expr → Zs D) (op : BoolOp) : List Expr → Zs D
  | [] => none
  | [x] => r x
  | x :: y :: rest => (r x).b fun a => (evR (truD a)).b fun b => (match op, b with
      | .And, false => some ([], a)
      | .Or, true => some ([], a)
      | _, _ => evBo r op (y :: rest))
def evAll (t : Expr → Zs Bool) (op : BoolOp) : List Expr → Zs Bool
  | [] => some ([], op == .And)
  | x :: rest => (t x).b fun b => (match op, b with
      | .And, false => some ([], false)
      | .Or, true => some ([], true)
      | _, _ => evAll t op rest)
def isNm : Expr → Bool
  | .Name _ _ => true
  | _ => false
def isSl : Expr → Bool
  | .Slice .. => true
  | _ => false
def baseOk : Expr → Bool
  | .Name .. => true
  | .Constant .. => true
  | .Attribute .. => true
  | .Subscript .. => true
  | _ => false
def attrD (K : Frag) (a : D) (nm : Str) : Zs D := match a with
  | .inst C ns vs => if instGet K C nm then (match fldD nm ns vs with
      | some d => if handD d then some ([], d) else none
      | none => none) else none
  | .at (.ref C) => (match typeIn K (.ref C) with
      | some mc => if readsIn K C mc then (match findCls K (.ref C) mc nm with
        | some (.val v) => if handedIn v && stat v then some ([], .at v) else none
        | _ => none) else none
      | none => none)
  | _ => none
def hexd (n : Nat) : Nat := if n < 10 then 48 + n else 87 + n
def hex4 (n : Nat) : List Nat := [hexd (n / 4096 % 16), hexd (n / 256 % 16), hexd (n / 16 % 16), hexd (n % 16)]
def fmtD (i : Int) (spec : List Nat) : Option (List Nat) := if spec == [48, 52, 120] && decide (0 ≤ i) && decide (i < 65536) then some (hex4 i.toNat) else none
def stepE (z : Zx) (c : Cx) (ρ : Rho) (r : Expr → Zs D) (t : Expr → Zs Bool) (e : Expr) : Zs D := match e with
  | .Constant k _ _ => evO (conD k)
  | .Name x _ => evName z ρ x
  | .BinOp l op rr _ => (r l).b fun a => (r rr).b fun b => evR (opD op a b)
  | .Subscript v (.Slice (some l) none none _) _ => evG (isNm v) ((r v).b fun a => (r l).b fun i => (match a, i with
      | .str x, .int k => if 0 ≤ k then some ([k.toNat ≤ x.length, x.length ≤ sizeLine], .str (x.drop k.toNat)) else none
      | _, _ => none))
  | .Subscript v s pos => (match z.spc pos.line pos.col with
      | some d => some ([EvA c ρ e d], d)
      | none => evG (!isSl s) ((r v).b fun a => (r s).b fun b => evR (getD a b)))
  | .Compare l [op] [rr] _ => evG (!behindInMarks op rr) ((r l).b fun a => (r rr).b fun b => (evO (cmpD z.K op a b)).b fun q => some ([], .bool q))
  | .IfExp test body orelse _ => (t test).b fun b => if b then r body else r orelse
  | .BoolOp op vs _ => evBo r op vs
  | .UnaryOp .Not x _ => (r x).b fun a => (evR (truD a)).b fun b => some ([], .bool (!b))
  | .Tuple es _ _ => (evEs r es).b fun ds => some ([ds.length ≤ sizeLine], .tup ds)
  | .List es _ => (evEs r es).b fun ds => some ([ds.length ≤ sizeLine], .list ds)
  | .Attribute (.Name x xp) nm _ => (r (.Name x xp)).b fun a => attrD z.K a nm
  | .Call (.Name f fp) args kws pos => (match z.spc pos.line pos.col with
      | some d => some ([EvA c ρ e d], d)
      | none => (r (.Name f fp)).b fun fv => (match fv with
        | .at v => evG (keepD z.K v) ((evEs r args).b fun ds => (evKw r kws).b fun q => callD z v ds q.1 q.2)
        | _ => none))
  | .Call (.Attribute o nm apos) args kws pos => (match z.spc pos.line pos.col with
      | some d => some ([EvA c ρ e d], d)
      | none => evG (baseOk o && (apos.endLine == pos.line) && decide (args.length + kws.length < 29)) ((r o).b fun a => (match mthD z.K a nm with
        | some f => evG (keepD z.K f) ((evEs r args).b fun ds => (evKw r kws).b fun q => callD z f (a :: ds) q.1 q.2)
        | none => none)))
  | .Dict keys values _ => evG (decide (1 ≤ keys.length) && decide (keys.length ≤ 15)) ((evPr r keys values).b fun q => some ([q.1.Nodup], .dict (q.1.map .str) q.2))
  | .JoinedStr (v₁ :: v₂ :: rest) _ => (evPt r [] (v₁ :: v₂ :: rest)).b fun x => some ([], .str x)
  | .JoinedStr [v] _ => r v
  | .FormattedValue v cv none _ => evG (cv == -1) ((r v).b fun a => (match a with
      | .str x => some ([x.length ≤ sizeLine], .str x)
      | _ => none))
  | .FormattedValue v cv (some sp) _ => evG (cv == -1) ((r v).b fun a => (r sp).b fun s => (match a, s with
      | .int i, .str spec => (match fmtD i spec with
        | some y => some ([FmtOk i spec y, spec.length ≤ sizeLine], .str y)
        | none => none)
      | _, _ => none))
  | .ListComp _ _ _ pos => (match z.spc pos.line pos.col with
      | some d => some ([EvA c ρ e d], d)
      | none => none)
  | _ => none
def stepT (z : Zx) (c : Cx) (ρ : Rho) (r : Expr → Zs D) (t : Expr → Zs Bool) (e : Expr) : Zs Bool := match e with
  | .BoolOp op vs pos => (match z.spt pos.line pos.col with
      | some b => some ([TrA c ρ e b], b)
      | none => evAll t op vs)
  | .UnaryOp .Not x _ => (t x).b fun b => some ([], !b)
  | .Compare l [op] [rr] pos => (match z.spt pos.line pos.col with
      | some b => some ([TrA c ρ e b], b)
      | none => evG (!behindInMarks op rr) ((r l).b fun a => (r rr).b fun b => evO (cmpD z.K op a b)))
  | .Name .. => (r e).b fun a => evR (truD a)
  | .Call .. => (r e).b fun a => evR (truD a)
  | .Attribute .. => (r e).b fun a => evR (truD a)
  | .Subscript .. => (r e).b fun a => evR (truD a)
  | _ => none
def evET (z : Zx) (c : Cx) (ρ : Rho) : Nat → (Expr → Zs D) × (Expr → Zs Bool)
  | 0 => (fun _ => none, fun _ => none)
  | k + 1 => (fun e => stepE z c ρ (evET z c ρ k).1 (evET z c ρ k).2 e, fun e => stepT z c ρ (evET z c ρ k).1 (evET z c ρ k).2 e)
section
variable {z : Zx} {c : Cx} {ρ : Rho} {n : Nat} {r : Expr → Zs D} {t : Expr → Zs Bool}
theorem Zok.ok (Z : Zok z n c.g c.A c.env) (S F O) : (c.at ρ S F O).Ok := ⟨Z.G, by have := Z.R.units; have := Z.n10; show c.A.units + 100 < cLine; omega, by have := Z.R.depth; have := Z.n10; show c.A.depth + 10 < recursionLimit; omega, Z.R.hand⟩
theorem evName_sound (Z : Zok z n c.g c.A c.env) {x : Str} {ps : List Prop} {d : D} (e : evName z ρ x = some (ps, d)) (pos : Pos) : EvA c ρ (.Name x pos) d := by
  intro S F O
  unfold evName at e
  split at e
  · cases e
  · rename_i hdb
    rw [Bool.not_eq_true] at hdb
    split at e
    · rename_i d' hl; cases e; exact Ev.name hl hdb
    · cases e
    · rename_i hn
      split at e
      · rename_i hk
        rw [beq_iff_eq] at hk
        have hk' : (c.at ρ S F O).env.kindOf x = some .globalImplicit := (Z.kind x).trans hk
        split at e
        · rename_i v hv
          split at e
          · rename_i hs; cases e; exact Ev.global Z.G hk' (Z.gl _ _ hv) hs hdb
          · cases e
        · rename_i hv
          split at e
          · cases e
          · rename_i hnm
            split at e
            · rename_i v hb
              split at e
              · rename_i hs; cases e; exact Ev.builtin Z.G hk' (Z.gl _ _ hv) hb (by simpa using hnm) hs hdb
              · cases e
            · cases e
        · cases e
      · cases e
theorem evEs_sound (hr : SndE c ρ r) (pos : Pos) : ∀ {es : List Expr} {ps : List Prop} {ds : List D}, evEs r es = some (ps, ds) → All ps → es.all noStar = true ∧ ∀ S F O, Evs (c.at ρ S F O) (spliced (backTo pos (starEach es c.env))) ds
  | [], ps, ds, e, hp => by cases e; exact ⟨rfl, fun S F O => Evs.nil⟩
  | x :: es, ps, ds, e, hp => by
    unfold evEs at e
    obtain ⟨hn, e⟩ := evG_some e
    obtain ⟨p, d, q, h1, h2, a1, a2⟩ := Zs.b_some e hp
    obtain ⟨p', ds', q', h3, h4, a3, a4⟩ := Zs.b_some h2 a2
    cases h4
    obtain ⟨i1, i2⟩ := evEs_sound hr pos h3 a3
    exact ⟨by rw [List.all_cons, hn, i1]; rfl, fun S F O => Evs.cons hn (hr _ _ _ h1 a1 S F O) (i2 S F O)⟩
theorem evEs_noStar : ∀ {es : List Expr} {ps : List Prop} {ds : List D}, evEs r es = some (ps, ds) → es.all noStar = true
  | [], _, _, _ => rfl
  | x :: es, ps, ds, e => by
    unfold evEs at e
    obtain ⟨hn, e⟩ := evG_some e
    cases hx : r x with
    | none => rw [hx] at e; cases e
    | some pd =>
      cases hy : evEs r es with
      | none => rw [hx, hy] at e; cases e
      | some qd => rw [List.all_cons, hn, evEs_noStar (ps := qd.1) (ds := qd.2) hy]; rfl
theorem evKw_sound (hr : SndE c ρ r) (pos : Pos) : ∀ {kws : List Keyword} {ps : List Prop} {q : List Str × List D}, evKw r kws = some (ps, q) → All ps → ∀ S F O, Kws (c.at ρ S F O) pos kws q.1 q.2
  | [], ps, q, e, hp => by cases e; exact fun S F O => Kws.nil
  | ⟨none, _, _⟩ :: _, ps, q, e, hp => by cases e
  | ⟨some n, x, p⟩ :: ks, ps, q, e, hp => by
    unfold evKw at e
    obtain ⟨_, d, _, h1, h2, a1, a2⟩ := Zs.b_some e hp
    obtain ⟨_, q', _, h3, h4, a3, a4⟩ := Zs.b_some h2 a2
    cases h4
    exact fun S F O => Kws.cons (hr _ _ _ h1 a1 S F O) (evKw_sound hr pos h3 a3 S F O)
theorem evPr_sound (hr : SndE c ρ r) (pos : Pos) : ∀ {keys : List (Option Expr)} {values : List Expr} {ps : List Prop} {q : List (List Nat) × List D}, evPr r keys values = some (ps, q) → All ps →
    ∃ pairs : List (Sem Value × Sem Value), pairs.length = keys.length ∧ (evalEachOpt keys c.env).zip ((evalEach values c.env).map fun v => do let x ← v; standAt pos; pure x) = pairs.map (fun p => (some p.1, p.2)) ∧
      ∀ S F O, Prs (c.at ρ S F O) pairs (q.1.map .str) q.2
  | [], values, ps, q, e, hp => by
    cases values with
    | nil => cases e; exact ⟨[], rfl, rfl, fun _ _ _ => Prs.nil⟩
    | cons _ _ => cases e
  | k :: ks, values, ps, q, e, hp => by
    cases values with
    | nil => cases k <;> cases e
    | cons v vs =>
      cases k with
      | none => cases e
      | some k =>
        unfold evPr at e
        obtain ⟨_, kd, _, h1, h2, a1, a2⟩ := Zs.b_some e hp
        split at h2
        · rename_i x
          obtain ⟨_, vd, _, h3, h4, a3, a4⟩ := Zs.b_some h2 a2
          obtain ⟨_, q', _, h5, h6, a5, a6⟩ := Zs.b_some h4 a4
          cases h6
          obtain ⟨pairs, i1, i2, i3⟩ := evPr_sound hr pos h5 a5
          refine ⟨(eval k c.env, do let x ← eval v c.env; standAt pos; pure x) :: pairs, by rw [List.length_cons, List.length_cons, i1], ?_, fun S F O => Prs.cons (hr _ _ _ h1 a1 S F O) (Ev.stood (hr _ _ _ h3 a3 S F O)) (i3 S F O)⟩
          show (some (eval k c.env), _) :: (evalEachOpt ks c.env).zip _ = _
          rw [List.map_cons]
          exact congrArg _ i2
        · cases h2
theorem evPt_sound (hr : SndE c ρ r) : ∀ {es : List Expr} {out : List Nat} {ps : List Prop} {x : List Nat}, evPt r out es = some (ps, x) → All ps → ∀ S F O, Pts (c.at ρ S F O) out (evalEach es c.env) x
  | [], out, ps, x, e, hp => by cases e; exact fun S F O => Pts.nil hp.1
  | y :: es, out, ps, x, e, hp => by
    unfold evPt at e
    obtain ⟨_, d, _, h1, h2, a1, a2⟩ := Zs.b_some e hp
    split at h2
    · obtain ⟨_, _, _, h3, h4, a3, a4⟩ := Zs.b_some h2 a2
      cases h3
      exact fun S F O => Pts.cons (hr _ _ _ h1 a1 S F O) a3.1 (evPt_sound hr h4 a4 S F O)
    · cases h2
theorem evBo_sound (hr : SndE c ρ r) (op : BoolOp) (pos : Pos) : ∀ {es : List Expr} {ps : List Prop} {d : D}, evBo r op es = some (ps, d) → All ps → ∀ S F O, Ev (c.at ρ S F O) (boolOp pos op (evalEach es c.env)) d
  | [], ps, d, e, hp => by cases e
  | [x], ps, d, e, hp => fun S F O => Ev.bool_one (hr _ _ _ e hp S F O)
  | x :: y :: rest, ps, d, e, hp => by
    unfold evBo at e
    obtain ⟨_, a, _, h1, h2, a1, a2⟩ := Zs.b_some e hp
    obtain ⟨_, b, _, h3, h4, a3, a4⟩ := Zs.b_some h2 a2
    obtain ⟨p, h3, hp3⟩ := evR_some h3 a3
    intro S F O
    refine Ev.bool_cons (hr _ _ _ h1 a1 S F O) h3 hp3 ?_
    cases op <;> cases b <;> dsimp only at h4 ⊢
    · cases h4; rfl
    · exact evBo_sound hr .And pos h4 a4 S F O
    · exact evBo_sound hr .Or pos h4 a4 S F O
    · cases h4; rfl
theorem evAll_sound (ht : SndT c ρ t) (op : BoolOp) : ∀ {es : List Expr} {ps : List Prop} {b : Bool}, evAll t op es = some (ps, b) → All ps → ∀ S F O, Tr (c.at ρ S F O) (allTrue op es c.env) b
  | [], ps, b, e, hp => by cases e; exact fun S F O => Tr.all_nil op
  | x :: rest, ps, b, e, hp => by
    unfold evAll at e
    obtain ⟨_, b', _, h1, h2, a1, a2⟩ := Zs.b_some e hp
    intro S F O
    refine Tr.all_cons (ht _ _ _ h1 a1 S F O) ?_
    cases op <;> cases b' <;> dsimp only at h2 ⊢
    · cases h2; rfl
    · exact evAll_sound ht .And h2 a2 S F O
    · exact evAll_sound ht .Or h2 a2 S F O
    · cases h2; rfl
theorem attrD_sound (Z : Zok z n c.g c.A c.env) {x nm : Str} {xp pos : Pos} {a d : D} {ps : List Prop} (h : EvA c ρ (.Name x xp) a) (e : attrD z.K a nm = some (ps, d)) : EvA c ρ (.Attribute (.Name x xp) nm pos) d := by
  intro S F O
  unfold attrD at e
  rw [← Z.K] at e
  split at e
  · split at e
    · rename_i hi
      split at e
      · rename_i d' hf
        split at e
        · rename_i hh; cases e; exact Ev.fld Z.G (h S F O) hf hi hh
        · cases e
      · cases e
    · cases e
  · split at e
    · rename_i mc hmc
      split at e
      · rename_i hr
        split at e
        · rename_i v hv
          split at e
          · rename_i hh
            simp only [Bool.and_eq_true] at hh
            cases e
            exact Ev.clsattr Z.G (h S F O) hr hv hh.1 hh.2
          · cases e
        · cases e
      · cases e
    · cases e
  · cases e
theorem attrBase_ok {o : Expr} {nm : Str} {env : Env} (h : baseOk o = true) : ∀ w, attributeBase o nm env w = w := by
  cases o <;> first | (cases h; done) | (intro w; rfl)
theorem subscripted_ok {s : Expr} (h : isSl s = false) : ∀ o i : Value, subscripted s false o i = operate [o, i] (getItem o i) := by
  cases s <;> first | (cases h; done) | (intro o i; rfl)
theorem tmp_ok {v : Expr} (h : isNm v = true) : ∀ o r, letTemporaryGo v o r = pure () := by
  cases v <;> first | (cases h; done) | (intro o r; rfl)
theorem stepE_sound (Z : Zok z n c.g c.A c.env) (hr : SndE c ρ r) (ht : SndT c ρ t) : SndE c ρ (stepE z c ρ r t) := by
  intro e ps d he hp
  have RR : ∀ S F O, Room (c.at ρ S F O).A n := fun S F O => Z.R
  unfold stepE at he
  split at he
  · exact fun S F O => Ev.const (evO_some he)
  · exact evName_sound Z he _
  · obtain ⟨_, a, _, h1, h2, a1, a2⟩ := Zs.b_some he hp
    obtain ⟨_, b, _, h3, h4, a3, a4⟩ := Zs.b_some h2 a2
    obtain ⟨p, h5, hp5⟩ := evR_some h4 a4
    exact fun S F O => Ev.binop (hr _ _ _ h1 a1 S F O) (hr _ _ _ h3 a3 S F O) h5 hp5
  · obtain ⟨hn, he⟩ := evG_some he
    obtain ⟨_, a, _, h1, h2, a1, a2⟩ := Zs.b_some he hp
    obtain ⟨_, i, _, h3, h4, a3, a4⟩ := Zs.b_some h2 a2
    split at h4
    · rename_i x k
      split at h4
      · rename_i hk
        cases h4
        refine fun S F O => Ev.sliceFrom (hr _ _ _ h1 a1 S F O) (i := k.toNat) ?_ a4.1 a4.2.1 (tmp_ok hn)
        have := hr _ _ _ h3 a3 S F O
        rwa [show ((k.toNat : Nat) : Int) = k from Int.toNat_of_nonneg hk]
      · cases h4
    · cases h4
  · split at he
    · cases he; exact hp.1
    obtain ⟨hn, he⟩ := evG_some he
    obtain ⟨_, a, _, h1, h2, a1, a2⟩ := Zs.b_some he hp
    obtain ⟨_, b, _, h3, h4, a3, a4⟩ := Zs.b_some h2 a2
    obtain ⟨p, h5, hp5⟩ := evR_some h4 a4
    exact fun S F O => Ev.sub (hr _ _ _ h1 a1 S F O) (hr _ _ _ h3 a3 S F O) h5 hp5 (subscripted_ok (by simpa using hn))
  · obtain ⟨hm, he⟩ := evG_some he
    obtain ⟨_, a, _, h1, h2, a1, a2⟩ := Zs.b_some he hp
    obtain ⟨_, b, _, h3, h4, a3, a4⟩ := Zs.b_some h2 a2
    obtain ⟨_, q, _, h5, h6, _, _⟩ := Zs.b_some h4 a4
    cases h6
    exact fun S F O => Ev.cmp (Z.ok S F O) (hr _ _ _ h1 a1 S F O) (hr _ _ _ h3 a3 S F O) (by show cmpD c.g.K _ _ _ = _; rw [Z.K]; exact evO_some h5) (by simpa using hm)
  · obtain ⟨_, b, _, h1, h2, a1, a2⟩ := Zs.b_some he hp
    intro S F O
    refine Ev.ifexp (ht _ _ _ h1 a1 S F O) (fun hb => ?_) fun hb => ?_
    · subst hb; exact hr _ _ _ h2 a2 S F O
    · subst hb; exact hr _ _ _ h2 a2 S F O
  · exact fun S F O => Ev.boolop (evBo_sound hr _ _ he hp S F O)
  · obtain ⟨_, a, _, h1, h2, a1, a2⟩ := Zs.b_some he hp
    obtain ⟨_, b, _, h3, h4, a3, a4⟩ := Zs.b_some h2 a2
    cases h4
    obtain ⟨p, h5, hp5⟩ := evR_some h3 a3
    exact fun S F O => Ev.not (hr _ _ _ h1 a1 S F O) h5 hp5
  · obtain ⟨_, ds, _, h1, h2, a1, a2⟩ := Zs.b_some he hp
    cases h2
    exact fun S F O => Ev.tuple ((evEs_sound hr _ h1 a1).2 S F O) a2.1
  · obtain ⟨_, ds, _, h1, h2, a1, a2⟩ := Zs.b_some he hp
    cases h2
    exact fun S F O => Ev.list ((evEs_sound hr _ h1 a1).2 S F O) a2.1
  · obtain ⟨_, a, _, h1, h2, a1, a2⟩ := Zs.b_some he hp
    exact attrD_sound Z (hr _ _ _ h1 a1) h2
  · split at he
    · cases he; exact hp.1
    · obtain ⟨_, fv, _, h1, h2, a1, a2⟩ := Zs.b_some he hp
      split at h2
      · rename_i v
        obtain ⟨hk, h2⟩ := evG_some h2
        obtain ⟨_, ds, _, h3, h4, a3, a4⟩ := Zs.b_some h2 a2
        obtain ⟨_, q, _, h5, h6, a5, a6⟩ := Zs.b_some h4 a4
        rw [← Z.K] at hk
        exact fun S F O => Ev.call Z.G (RR S F O) (hr _ _ _ h1 a1 S F O) (keepD_some hk) (evEs_noStar h3) ((evEs_sound hr _ h3 a3).2 S F O) (evKw_sound hr _ h5 a5 S F O) (callD_some Z h6 a6)
      · cases h2
  · split at he
    · cases he; exact hp.1
    · obtain ⟨hg, he⟩ := evG_some he
      simp only [Bool.and_eq_true, decide_eq_true_eq] at hg
      obtain ⟨⟨hb, hl⟩, hz⟩ := hg
      obtain ⟨_, a, _, h1, h2, a1, a2⟩ := Zs.b_some he hp
      split at h2
      · rename_i f hf
        obtain ⟨hk, h2⟩ := evG_some h2
        obtain ⟨_, ds, _, h3, h4, a3, a4⟩ := Zs.b_some h2 a2
        obtain ⟨_, q, _, h5, h6, a5, a6⟩ := Zs.b_some h4 a4
        rw [← Z.K] at hk hf
        exact fun S F O => Ev.method Z.G (RR S F O) (hr _ _ _ h1 a1 S F O) (mthD_some (c := c.at ρ S F O) Z.G hf) (keepD_some hk) (evEs_noStar h3) ((evEs_sound hr _ h3 a3).2 S F O) (evKw_sound hr _ h5 a5 S F O) (callD_some Z h6 a6) (attrBase_ok hb) hl hz
      · cases h2
  · obtain ⟨hg, he⟩ := evG_some he
    simp only [Bool.and_eq_true, decide_eq_true_eq] at hg
    obtain ⟨_, q, _, h1, h2, a1, a2⟩ := Zs.b_some he hp
    cases h2
    exact fun S F O => (fun ⟨pairs, i1, i2, i3⟩ => Ev.dict Z.G i2 (by rintro rfl; rw [List.length_nil] at i1; omega) (by omega) (fun Sc' => i3 Sc' F O) a2.1) (evPr_sound hr _ h1 a1)
  · obtain ⟨_, x, _, h1, h2, a1, a2⟩ := Zs.b_some he hp
    cases h2
    exact fun S F O => Ev.fstr (evPt_sound hr h1 a1 S F O)
  · exact fun S F O => Ev.fstr1 (hr _ _ _ he hp S F O)
  · obtain ⟨hc, he⟩ := evG_some he
    obtain ⟨_, a, _, h1, h2, a1, a2⟩ := Zs.b_some he hp
    rw [beq_iff_eq] at hc
    subst hc
    split at h2
    · cases h2
      exact fun S F O => Ev.fmt (hr _ _ _ h1 a1 S F O) a2.1
    · cases h2
  · obtain ⟨hc, he⟩ := evG_some he
    obtain ⟨_, a, _, h1, h2, a1, a2⟩ := Zs.b_some he hp
    obtain ⟨_, s, _, h3, h4, a3, a4⟩ := Zs.b_some h2 a2
    rw [beq_iff_eq] at hc
    subst hc
    split at h4
    · split at h4
      · cases h4
        exact fun S F O => Ev.fmtI (hr _ _ _ h1 a1 S F O) (hr _ _ _ h3 a3 S F O) a4.1 a4.2.1
      · cases h4
    · cases h4
  · split at he
    · cases he; exact hp.1
    · cases he
  · cases he
theorem stepT_sound (Z : Zok z n c.g c.A c.env) (hr : SndE c ρ r) (ht : SndT c ρ t) : SndT c ρ (stepT z c ρ r t) := by
  intro e ps b he hp
  unfold stepT at he
  split at he
  · split at he
    · cases he; exact hp.1
    · exact fun S F O => Tr.boolop _ (evAll_sound ht _ he hp S F O)
  · obtain ⟨_, b', _, h1, h2, a1, a2⟩ := Zs.b_some he hp
    cases h2
    exact fun S F O => Tr.not (ht _ _ _ h1 a1 S F O) _
  · split at he
    · cases he; exact hp.1
    obtain ⟨hm, he⟩ := evG_some he
    obtain ⟨_, a, _, h1, h2, a1, a2⟩ := Zs.b_some he hp
    obtain ⟨_, b', _, h3, h4, a3, a4⟩ := Zs.b_some h2 a2
    exact fun S F O => Tr.cmp (Z.ok S F O) _ (hr _ _ _ h1 a1 S F O) (hr _ _ _ h3 a3 S F O) (by show cmpD c.g.K _ _ _ = _; rw [Z.K]; exact evO_some h4) (by simpa using hm)
  all_goals first | (cases he; done) | skip
  all_goals
    obtain ⟨_, a, _, h1, h2, a1, a2⟩ := Zs.b_some he hp
    obtain ⟨p, h5, hp5⟩ := evR_some h2 a2
    exact fun S F O => Tr.plain (hr _ _ _ h1 a1 S F O) h5 hp5 fun w => rfl
theorem evET_sound (Z : Zok z n c.g c.A c.env) : ∀ k, SndE c ρ (evET z c ρ k).1 ∧ SndT c ρ (evET z c ρ k).2
  | 0 => ⟨(fun _ _ _ h => (nomatch h)), (fun _ _ _ h => (nomatch h))⟩
  | k + 1 => let ⟨a, b⟩ := evET_sound Z k; ⟨stepE_sound Z a b, stepT_sound Z a b⟩
end
end J5
end
section
open PySem PySem.W PySem.W.X PyProof.Rows Builtin
set_option Elab.async false
set_option maxRecDepth 100000
set_option linter.unusedVariables false
namespace J5
/- statements -/
def StA (c : Cx) (ρ : Rho) (t : Sem Flow) (ρ' : Rho) (fl : Fl) : Prop := ∀ S F O, St (c.at ρ S F O) t ρ' fl
def stoZ (z : Zx) (x : Str) : Bool := z.names.lookup x == some .local || (z.names.lookup x == some .cell && z.cells.contains x)
def noComp : Expr → Bool
  | .ListComp .. => false
  | .SetComp .. => false
  | .DictComp .. => false
  | _ => true
def noTup : Expr → Bool
  | .Tuple .. => false
  | _ => true
def iniZ (z : Zx) (ρ : Rho) (x nm : Str) (d : D) : Option Rho := match ρ.lookup x with
  | some (.ini w a (.inst C ns vs)) => if !(x == ("__debug__" : Str)) && attrSets z.K C nm && !ns.contains nm && decide (ns.length ≤ 900) then some (upd x (.ini w a (.inst C (ns ++ [nm]) (vs ++ [d]))) ρ) else none
  | _ => none
def asgZ (z : Zx) : Rho → List Expr → List D → Option Rho
  | ρ, [], [] => some ρ
  | ρ, .Name x _ :: es, d :: ds => if stoZ z x then asgZ z (upd x (.val d) ρ) es ds else none
  | ρ, .Attribute (.Name x _) nm _ :: es, d :: ds => (match iniZ z ρ x nm d with
      | some ρ' => asgZ z ρ' es ds
      | none => none)
  | _, _, _ => none
def frzL : List Str → Rho → Rho
  | [], ρ => ρ
  | x :: xs, ρ => (match ρ.lookup x with
      | some (.own d) => frzL xs (upd x (.val d) ρ)
      | _ => frzL xs ρ)
def frz (ρ : Rho) : Rho := frzL (ρ.map (·.1)) ρ
def isEmptyList : Expr → Bool
  | .List [] _ => true
  | _ => false
def stepS (z : Zx) (c : Cx) (fu : Nat) (rs : Rho → List Stmt → Zs (Rho × Fl)) (ρ : Rho) (st : Stmt) : Zs (Rho × Fl) := match st with
  | .Assign [.Name x _] v _ => evG (stoZ z x && noComp v) (if isEmptyList v then some ([], upd x (.own (.list [])) ρ, .next) else ((evET z c ρ fu).1 v).b fun d => some ([], upd x (.val d) ρ, .next))
  | .Assign [.Attribute (.Name x _) nm _] v _ => evG (noComp v) (((evET z c ρ fu).1 v).b fun d => (evO (iniZ z ρ x nm d)).b fun ρ' => some ([], ρ', .next))
  | .Assign [.Tuple elts _ _] v pos => (match z.sst pos.line ρ with
      | some q => some ([StA c ρ (exec st c.env) q.1 q.2], q)
      | none => evG (noComp v && noTup v) (((evET z c ρ fu).1 v).b fun d => (match d with
        | .tup ds => (evO (asgZ z ρ elts ds)).b fun ρ' => some ([], ρ', .next)
        | _ => none)))
  | .AugAssign (.Name x _) op v _ => evG (stoZ z x) (match ρ.lookup x with
      | some (.val a) => ((evET z c ρ fu).1 v).b fun b => (evR (augD op a b)).b fun d => some ([], upd x (.val d) ρ, .next)
      | _ => none)
  | .If test body orelse _ => ((evET z c ρ fu).2 test).b fun b => if b then rs ρ body else rs ρ orelse
  | .Return (some e) _ => ((evET z c (frz ρ) fu).1 e).b fun d => some ([], frz ρ, .ret d)
  | .Expr (.Call (.Attribute (.Name x _) nm apos) [e] [] pos) _ => evG (nm == ("append" : Str) && noStar e && !(x == ("__debug__" : Str)) && (apos.endLine == pos.line)) (match ρ.lookup x with
      | some (.own (.list ds)) => ((evET z c ρ fu).1 e).b fun d => some ([ds.length ≤ sizeLine], upd x (.own (.list (ds ++ [d]))) ρ, .next)
      | _ => none)
  | .Pass _ => some ([], ρ, .next)
  | .Continue _ => some ([], ρ, .cont)
  | .Try body (_ :: _) orelse [] _ => (rs ρ body).b fun q => (match q.2 with
      | .next => rs q.1 orelse
      | _ => none)
  | .For _ _ _ _ pos => (match z.sst pos.line ρ with
      | some q => some ([StA c ρ (exec st c.env) q.1 q.2], q)
      | none => none)
  | _ => none
def evS (z : Zx) (c : Cx) (fu : Nat) : Nat → Rho → List Stmt → Zs (Rho × Fl)
  | 0, _, _ => none
  | _ + 1, ρ, [] => some ([], ρ, .next)
  | k + 1, ρ, st :: rest => (stepS z c fu (evS z c fu k) ρ st).b fun q => (match q.2 with
      | .next => evS z c fu k q.1 rest
      | _ => some ([], q))
section
variable {z : Zx} {c : Cx} {n : Nat}
theorem stoZ_ok (Z : Zok z n c.g c.A c.env) {x : Str} (h : stoZ z x = true) : stores c.env x = true := by
  unfold stoZ at h
  unfold stores
  rw [Z.kind]
  simp only [Bool.or_eq_true, Bool.and_eq_true, beq_iff_eq] at h ⊢
  exact h.imp id fun h => ⟨h.1, Z.cells x h.2⟩
theorem noComp_swaps {v : Expr} (h : noComp v = true) (t : Option Expr) (l : Nat) (env : Env) : swapsWith v t l env = pure false := by
  cases v <;> first | (cases h; done) | rfl
theorem noTup_swapped {v : Expr} (h : noTup v = true) (elts : List Expr) (k : Nat) (tp : Pos) (env : Env) : swappedStores [.Tuple elts k tp] v env = pure none := by
  cases v <;> first | (cases h; done) | rfl
theorem frz_sound {t : Sem Flow} {ρ' : Rho} {fl : Fl} : ∀ (xs : List Str) (ρ : Rho), StA c (frzL xs ρ) t ρ' fl → StA c ρ t ρ' fl
  | [], _, h => h
  | x :: xs, ρ, h => by
    unfold frzL at h
    split at h
    · rename_i d hd
      exact fun S F O => St.freeze hd fun F' O' => frz_sound xs _ h S F' O'
    · exact frz_sound xs _ h
theorem iniZ_asg (Z : Zok z n c.g c.A c.env) {ρ ρ' : Rho} {x nm : Str} {d : D} {p ap : Pos} (e : iniZ z ρ x nm d = some ρ') : ∀ S F O, Asg (c.at ρ S F O) (PySem.assign (.Attribute (.Name x p) nm ap) c.env) d ρ' := by
  unfold iniZ at e
  split at e
  · rename_i w a C ns vs hl
    split at e
    · rename_i hc
      simp only [Bool.and_eq_true, Bool.not_eq_true', decide_eq_true_eq] at hc
      obtain ⟨⟨⟨h1, h2⟩, h3⟩, h4⟩ := hc
      cases e
      rw [← Z.K] at h2
      exact fun S F O => Asg.attr Z.G hl h1 h2 h3 h4
    · cases e
  · cases e
theorem asgZ_sound (Z : Zok z n c.g c.A c.env) : ∀ {es : List Expr} {ds : List D} {ρ ρ' : Rho}, asgZ z ρ es ds = some ρ' →
    (assignEach es c.env).length = ds.length ∧ (assignEach es c.env).findIdx? (·.1) = none ∧ ∀ S F O, AsgN (c.at ρ S F O) ((assignEach es c.env).map (·.2)) ds ρ'
  | [], [], ρ, ρ', e => by cases e; exact ⟨rfl, rfl, fun S F O => AsgN.nil⟩
  | [], _ :: _, ρ, ρ', e => by cases e
  | x :: es, [], ρ, ρ', e => by unfold asgZ at e; split at e <;> first | (cases e; done) | (rename_i h _; cases h; done) | (rename_i h; cases h; done)
  | x :: es, d :: ds, ρ, ρ', e => by
    cases x with
    | Name x p =>
      have e' : (if stoZ z x then asgZ z (upd x (.val d) ρ) es ds else none) = some ρ' := e
      split at e'
      · rename_i hs
        obtain ⟨i1, i2, i3⟩ := asgZ_sound Z e'
        refine ⟨by show (_ :: assignEach es c.env).length = _; rw [List.length_cons, List.length_cons, i1], ?_, fun S F O => AsgN.cons (Asg.name (stoZ_ok Z hs)) fun O' => i3 S F O'⟩
        show ((false, _) :: assignEach es c.env).findIdx? (·.1) = none
        rw [List.findIdx?_cons]; simp [i2]
      · cases e'
    | Attribute o nm ap =>
      cases o with
      | Name x p =>
        have e' : (match iniZ z ρ x nm d with | some ρ' => asgZ z ρ' es ds | none => none) = some ρ' := e
        split at e'
        · rename_i ρ₁ h1
          obtain ⟨i1, i2, i3⟩ := asgZ_sound Z e'
          refine ⟨by show (_ :: assignEach es c.env).length = _; rw [List.length_cons, List.length_cons, i1], ?_, fun S F O => AsgN.cons (iniZ_asg Z h1 S F O) fun O' => i3 S F O'⟩
          show ((false, _) :: assignEach es c.env).findIdx? (·.1) = none
          rw [List.findIdx?_cons]; simp [i2]
        · cases e'
      | _ => cases e
    | _ => cases e
theorem stepS_sound (Z : Zok z n c.g c.A c.env) (fu : Nat) {rs : Rho → List Stmt → Zs (Rho × Fl)} (hs : ∀ ρ b ps q, rs ρ b = some (ps, q) → All ps → StA c ρ (execs b c.env) q.1 q.2) {ρ : Rho} {st : Stmt} {ps : List Prop} {q : Rho × Fl}
    (e : stepS z c fu rs ρ st = some (ps, q)) (hp : All ps) : StA c ρ (exec st c.env) q.1 q.2 := by
  have hE := fun ρ => (evET_sound (ρ := ρ) Z fu).1
  have hT := fun ρ => (evET_sound (ρ := ρ) Z fu).2
  unfold stepS at e
  split at e
  · obtain ⟨hg, e⟩ := evG_some e
    simp only [Bool.and_eq_true] at hg
    split at e
    · rename_i hl
      cases e
      rename_i v _
      cases v <;> first | (cases hl; done) | skip
      rename_i es lp
      cases es with
      | nil => exact fun S F O => St.newlist (stoZ_ok Z hg.1)
      | cons _ _ => cases hl
    · obtain ⟨_, d, _, h1, h2, a1, a2⟩ := Zs.b_some e hp
      cases h2
      exact fun S F O => St.assign (hE _ _ _ _ h1 a1 S F O) (stoZ_ok Z hg.1) (noComp_swaps hg.2 _ _ _)
  · obtain ⟨hg, e⟩ := evG_some e
    obtain ⟨_, d, _, h1, h2, a1, a2⟩ := Zs.b_some e hp
    obtain ⟨_, ρ', _, h3, h4, a3, a4⟩ := Zs.b_some h2 a2
    cases h4
    have h3 := evO_some h3
    unfold iniZ at h3
    split at h3
    · rename_i w a C ns vs hl
      split at h3
      · rename_i hc
        simp only [Bool.and_eq_true, Bool.not_eq_true', decide_eq_true_eq] at hc
        obtain ⟨⟨⟨b1, b2⟩, b3⟩, b4⟩ := hc
        cases h3
        rw [← Z.K] at b2
        exact fun S F O => St.attr Z.G hl (hE _ _ _ _ h1 a1 S F O) b1 b2 b3 b4 (noComp_swaps hg _ _ _)
      · cases h3
    · cases h3
  · split at e
    · cases e; exact hp.1
    obtain ⟨hg, e⟩ := evG_some e
    simp only [Bool.and_eq_true] at hg
    obtain ⟨_, d, _, h1, h2, a1, a2⟩ := Zs.b_some e hp
    split at h2
    · obtain ⟨_, ρ', _, h3, h4, a3, a4⟩ := Zs.b_some h2 a2
      cases h4
      obtain ⟨i1, i2, i3⟩ := asgZ_sound Z (evO_some h3)
      exact fun S F O => St.unpackT (hE _ _ _ _ h1 a1 S F O) (Asg.tuple Z.R.hand i1 i2 (i3 S F O)) ((show ∀ (v : Expr) (tg : Expr) (l : Nat) (env : Env), swapsWithSole [tg] v l env = swapsWith v (some tg) l env from fun _ _ _ _ => rfl) _ _ _ _ ▸ noComp_swaps hg.1 _ _ _) (noTup_swapped hg.2 _ _ _ _)
    · cases h2
  · obtain ⟨hg, e⟩ := evG_some e
    split at e
    · rename_i a hl
      obtain ⟨_, b, _, h1, h2, a1, a2⟩ := Zs.b_some e hp
      obtain ⟨_, d, _, h3, h4, a3, a4⟩ := Zs.b_some h2 a2
      cases h4
      obtain ⟨p, h5, hp5⟩ := evR_some h3 a3
      exact fun S F O => St.aug hl (hE _ _ _ _ h1 a1 S F O) h5 hp5 (stoZ_ok Z hg)
    · cases e
  · obtain ⟨_, b, _, h1, h2, a1, a2⟩ := Zs.b_some e hp
    refine fun S F O => St.ifs (hT _ _ _ _ h1 a1 S F O) (fun hb => ?_) fun hb => ?_
    · subst hb; exact hs _ _ _ _ h2 a2 S F O
    · subst hb; exact hs _ _ _ _ h2 a2 S F O
  · obtain ⟨_, d, _, h1, h2, a1, a2⟩ := Zs.b_some e hp
    cases h2
    exact frz_sound _ _ fun S F O => St.ret (hE _ _ _ _ h1 a1 S F O)
  · obtain ⟨hg, he⟩ := evG_some e
    clear e
    simp only [Bool.and_eq_true, Bool.not_eq_true', beq_iff_eq] at hg
    obtain ⟨⟨⟨g1, g2⟩, g3⟩, g4⟩ := hg
    subst g1
    split at he
    · rename_i ds hl
      obtain ⟨_, d, _, h1, h2, a1, a2⟩ := Zs.b_some he hp
      cases h2
      exact fun S F O => St.append hl (hE _ _ _ _ h1 a1 S F O) g2 g3 (by simpa using g4) Z.notM a2.1
    · cases he
  · cases e; exact fun S F O => St.pass
  · cases e; exact fun S F O => St.cont
  · obtain ⟨_, q', _, h1, h2, a1, a2⟩ := Zs.b_some e hp
    split at h2
    · rename_i hq
      have h1' := hs _ _ _ _ h1 a1
      rw [hq] at h1'
      exact fun S F O => St.tryOk (h1' S F O) fun F' O' => hs _ _ _ _ h2 a2 S F' O'
    · cases h2
  · split at e
    · cases e; exact hp.1
    · cases e
  · cases e
theorem evS_sound (Z : Zok z n c.g c.A c.env) (fu : Nat) : ∀ (k : Nat) (ρ : Rho) (b : List Stmt) (ps : List Prop) (q : Rho × Fl), evS z c fu k ρ b = some (ps, q) → All ps → StA c ρ (execs b c.env) q.1 q.2
  | 0, _, _, _, _, e, _ => by cases e
  | _ + 1, ρ, [], _, _, e, _ => by cases e; exact fun S F O => St.nil
  | k + 1, ρ, st :: rest, ps, q, e, hp => by
    unfold evS at e
    obtain ⟨_, q', _, h1, h2, a1, a2⟩ := Zs.b_some e hp
    have s1 := stepS_sound Z fu (fun ρ b ps q h a => evS_sound Z fu k ρ b ps q h a) h1 a1
    split at h2
    · rename_i hq
      rw [hq] at s1
      exact fun S F O => St.cons (s1 S F O) fun F' O' => evS_sound Z fu k _ _ _ _ h2 a2 S F' O'
    · rename_i hq
      cases h2
      obtain ⟨ρ', fl⟩ := q
      refine fun S F O => St.stop (s1 S F O) ?_
      cases fl <;> first | exact trivial | exact absurd rfl hq
end
end J5
end
section
open PySem PySem.W PySem.W.X PyProof.Rows Builtin
set_option Elab.async false
set_option maxRecDepth 100000
set_option linter.unusedVariables false
namespace J5
/- a function's contract by the evaluator -/
def mkZ (K : Frag) (gl : Str → Option (Option Value)) (sc : Scope) (orc : Value → List D → List Str → List D → Zs D) (spc : Nat → Nat → Option D) (spt : Nat → Nat → Option Bool) (sst : Nat → Rho → Option (Rho × Fl)) : Zx :=
  ⟨K, sc.names, (cellsFrom 0 sc.names []).map (·.1), gl, orc, spc, spt, sst⟩
def fdOf (o : Obj) : FuncData := match o.data with
  | .func fd => fd
  | _ => { name := "", qualname := "", params := default, body := .stmts [], scope := default, globals := 0, closure := [], defaults := .none, kwdefaults := .none, doc := .none, pyModule := .none, annotations := none, code := .none, closureTuple := .none, builtins := 0 }
structure Gz (g : Gd) (K : Frag) (gl : Str → Option (Option Value)) : Prop where
  G : Gok g
  K : g.K = K
  gl : ∀ x v, gl x = some v → g.mg x = v
theorem lookup_contains {α : Type} : ∀ {l : List (Str × α)} {x : Str}, (l.map (·.1)).contains x = true → (l.lookup x).isSome = true
  | [], x, h => by cases h
  | (y, a) :: l, x, h => by
    rw [List.lookup_cons]
    cases hx : x == y with
    | true => rfl
    | false =>
      rw [List.map_cons, List.contains_cons, hx, Bool.false_or] at h
      exact lookup_contains h
theorem Zok.of {g : Gd} {K : Frag} {gl : Str → Option (Option Value)} {fd : FuncData} {orc : Value → List D → List Str → List D → Zs D} {spc spt sst} {A : Around} {L f : Addr} {n : Nat} (H : Gz g K gl) (hk : fd.scope.kind = .function) (R : Room A n) (hn : 11 ≤ n)
    (ho : ∀ f as ns ks ps d, orc f as ns ks = some (ps, d) → All ps → CallOk g n f as ns ks d) : Zok (mkZ K gl fd.scope orc spc spt sst) n g A (callEnvC fd L f) :=
  ⟨H.G, H.K, R, hn, fun x => rfl, fun x hx => by
    have := lookup_contains hx
    rw [← this]
    exact lookup_isSome_names (cellsFrom_names _ _ _ _ _ rfl), H.gl, ho, by show (fd.scope.kind == .module && _) = false; rw [hk]; rfl⟩
abbrev cx0 (g : Gd) (A : Around) (fd : FuncData) (L f : Addr) : Cx := ⟨g, A, callEnvC fd L f, fun _ => False, fun _ => False, [], fun _ => none⟩
def outS (x : Zs (Rho × Fl)) : Option (List Prop × Fl) := match x with
  | some (p, _, fl) => some (p, fl)
  | none => none
theorem outS_some {x : Zs (Rho × Fl)} {p : List Prop} {fl : Fl} (h : outS x = some (p, fl)) : ∃ ρ', x = some (p, ρ', fl) := by
  unfold outS at h
  split at h
  · cases h; exact ⟨_, rfl⟩
  · cases h
theorem CallOk.ev {g : Gd} {K : Frag} {gl : Str → Option (Option Value)} {n : Nat} {f : Addr} {fd : FuncData} {body : List Stmt} {as : List D} {ns : List Str} {ks : List D} {d : D} (H : Gz g K gl) (hf : FnAt K f fd body) (hn : 11 ≤ n) (bs : List (Str × D))
    (e : bindD (fd.params.args.map (·.arg)) (fd.params.kwonlyargs.map (·.arg)) (dflIn K fd.kwdefaults) as (ns.zip ks) = some bs) (hnd : decide (bs.map (·.1)).Nodup = true) (hnames : namesOk fd.scope bs = true)
    (orc : Value → List D → List Str → List D → Zs D) (spc spt sst) (ho : ∀ f as ns ks ps d, orc f as ns ks = some (ps, d) → All ps → CallOk g n f as ns ks d)
    (ps : Around → Addr → Addr → List Prop) (fl : Fl) (hfl : fl = .ret d ∨ (d = .none ∧ fl = .next))
    (h : ∀ A L f', outS (evS (mkZ K gl fd.scope orc spc spt sst) (cx0 g A fd L f') 30 50 (frame0 bs) body) = some (ps A L f', fl))
    (hp : ∀ A L f', Room A n → All (ps A L f')) : CallOk g (n + 1) (.ref f) as ns ks d := by
  refine CallOk.def H.G (H.K ▸ hf) (by rw [H.K]; exact e) (by simpa using hnd) hnames fun A L f' Sc F R => ?_
  obtain ⟨ρ', h'⟩ := outS_some (h A L f')
  refine ⟨ρ', ?_⟩
  have s := evS_sound (c := cx0 g A fd L f') (Zok.of H hf.kind R hn ho) 30 50 _ _ _ _ h' (hp A L f' R) Sc F (fun _ => none)
  rcases hfl with rfl | ⟨rfl, rfl⟩
  · exact .inl s
  · exact .inr ⟨rfl, s⟩
/- no calls -/
def noOrc : Value → List D → List Str → List D → Zs D := fun _ _ _ _ => none
theorem noOrc_ok {g : Gd} {n : Nat} : ∀ f as ns ks ps d, noOrc f as ns ks = some (ps, d) → All ps → CallOk g n f as ns ks d := fun _ _ _ _ _ _ h => by cases h
end J5
end
section
open PySem PySem.W PySem.W.X PyProof.Rows Builtin
set_option Elab.async false
set_option maxRecDepth 100000
set_option linter.unusedVariables false
namespace J5
/- parts of statements, by place -/
def stAt (b : List Stmt) (i : Nat) : Stmt := b[i]?.getD (.Pass ⟨0, 0, 0, 0⟩)
def forTp : Stmt → Pos
  | .For t _ _ _ _ => t.pos
  | _ => ⟨0, 0, 0, 0⟩
def forIt : Stmt → Expr
  | .For _ i _ _ _ => i
  | _ => .Name "" ⟨0, 0, 0, 0⟩
def forBd : Stmt → List Stmt
  | .For _ _ b _ _ => b
  | _ => []
def forPs : Stmt → Pos
  | .For _ _ _ _ p => p
  | _ => ⟨0, 0, 0, 0⟩
def noSet : Expr → Bool
  | .Set .. => false
  | _ => true
theorem noSet_folded {e : Expr} (h : noSet e = true) (env : Env) : ∀ v, foldedSetIterable e env v = pure v := by
  cases e <;> first | (cases h; done) | (intro v; rfl)
theorem St.weak {c : Cx} {t : Sem Flow} {ρ₁ ρ₂ : Rho} {fl : Fl} (h : St c t ρ₁ fl) (hs : ∀ x sl, ρ₂.lookup x = some sl → ρ₁.lookup x = some sl) : St c t ρ₂ fl :=
  fun s X Q E q => h s X Q E fun f s' F' O' X' k g r => q f s' F' O' (FrOk.forget X' hs) k g r
theorem StA.weak {c : Cx} {ρ : Rho} {t : Sem Flow} {ρ₁ ρ₂ : Rho} {fl : Fl} (h : StA c ρ t ρ₁ fl) (hs : ∀ x sl, ρ₂.lookup x = some sl → ρ₁.lookup x = some sl) : StA c ρ t ρ₂ fl := fun S F O => (h S F O).weak hs
theorem StA.less {c : Cx} {ρ₀ ρ : Rho} {t : Sem Flow} {ρ₁ : Rho} {fl : Fl} (h : StA c ρ t ρ₁ fl) (hs : ∀ x sl, ρ.lookup x = some sl → ρ₀.lookup x = some sl) : StA c ρ₀ t ρ₁ fl :=
  fun S F O s X Q E q => h S F O s (FrOk.forget X hs) Q E q
/- the first names of a frame -/
theorem sub_take {ρ ρ' : Rho} (h : ρ = ρ'.take ρ.length) (hn : decide (ρ'.map (·.1)).Nodup = true) : ∀ x sl, ρ.lookup x = some sl → ρ'.lookup x = some sl := by
  have key : ∀ (l m : Rho) (x : Str) (sl : Slot), l.lookup x = some sl → (l ++ m).lookup x = some sl := by
    intro l
    induction l with
    | nil => intro m x sl h; cases h
    | cons p l ih =>
      intro m x sl h
      obtain ⟨y, t⟩ := p
      rw [List.cons_append, List.lookup_cons]
      rw [List.lookup_cons] at h
      cases hx : x == y with
      | true => rw [hx] at h; exact h
      | false => rw [hx] at h; exact ih m x sl h
  intro x sl hl
  have : ρ' = ρ ++ ρ'.drop ρ.length := by conv => lhs; rw [← List.take_append_drop ρ.length ρ', ← h]
  rw [this]
  exact key _ _ _ _ hl
theorem StA.for {c : Cx} {st : Stmt} {x : Str} {a : D} {ds : List D} (ρs : Nat → Rho) (hst : st = .For (.Name x (forTp st)) (forIt st) (forBd st) [] (forPs st)) (hns : noSet (forIt st) = true) (h : EvA c (ρs 0) (forIt st) a)
    (hit : ∀ S F O s u, (c.at (ρs 0) S F O).At s → Rep c.g (c.at (ρs 0) S F O).S s.heap u a → Iters (c.at (ρs 0) S F O) s u ds) (hx : stores c.env x = true)
    (turn : ∀ i d, ds[i]? = some d → ∃ fl, (fl = .next ∨ fl = .cont) ∧ StA c (upd x (.val d) (ρs i)) (execs (forBd st) c.env) (ρs (i + 1)) fl) : StA c (ρs 0) (exec st c.env) (ρs ds.length) .next := by
  intro S F O
  rw [hst]
  exact St.for (c := c.at (ρs 0) S F O) ρs (h S F O) (hit S F O) hx rfl (fun i d hd F' O' Sc' => let ⟨fl, a, b⟩ := turn i d hd; ⟨fl, a, b Sc' F' O'⟩) (noSet_folded hns _)
theorem StA.forRet {c : Cx} {st : Stmt} {x : Str} {a d₀ d₁ : D} {ds : List D} {ρr : Rho} (k₀ : Nat) (ρs : Nat → Rho) (hst : st = .For (.Name x (forTp st)) (forIt st) (forBd st) [] (forPs st)) (hns : noSet (forIt st) = true) (h : EvA c (ρs 0) (forIt st) a)
    (hit : ∀ S F O s u, (c.at (ρs 0) S F O).At s → Rep c.g (c.at (ρs 0) S F O).S s.heap u a → Iters (c.at (ρs 0) S F O) s u ds) (hx : stores c.env x = true)
    (turn : ∀ i d, i < k₀ → ds[i]? = some d → ∃ fl, (fl = .next ∨ fl = .cont) ∧ StA c (upd x (.val d) (ρs i)) (execs (forBd st) c.env) (ρs (i + 1)) fl) (hd₁ : ds[k₀]? = some d₁)
    (last : StA c (upd x (.val d₁) (ρs k₀)) (execs (forBd st) c.env) ρr (.ret d₀)) : StA c (ρs 0) (exec st c.env) ρr (.ret d₀) := by
  intro S F O
  rw [hst]
  exact St.forRet (c := c.at (ρs 0) S F O) k₀ ρs (h S F O) (hit S F O) hx rfl (fun i d hi hd F' O' Sc' => let ⟨fl, a, b⟩ := turn i d hi hd; ⟨fl, a, b Sc' F' O'⟩) hd₁ (fun F' O' Sc' => last Sc' F' O') (noSet_folded hns _)
theorem TrA.and2 {c : Cx} {ρ : Rho} {e₁ e₂ : Expr} {pos : Pos} {b₁ b₂ : Bool} (h₁ : TrA c ρ e₁ b₁) (h₂ : b₁ = true → TrA c ρ e₂ b₂) : TrA c ρ (.BoolOp .And [e₁, e₂] pos) (b₁ && b₂) := by
  intro S F O
  refine Tr.boolop _ (Tr.all_cons (h₁ S F O) ?_)
  cases b₁ with
  | false => rfl
  | true =>
    dsimp only
    refine Tr.all_cons (h₂ rfl S F O) ?_
    cases b₂ with
    | false => rfl
    | true => exact Tr.all_nil _
/- what the evaluator says of one expression, test, block -/
theorem EvA.ev {z : Zx} {c : Cx} {ρ : Rho} {n : Nat} {e : Expr} {ps : List Prop} {d : D} (Z : Zok z n c.g c.A c.env) (h : (evET z c ρ 30).1 e = some (ps, d)) (hp : All ps) : EvA c ρ e d := (evET_sound Z 30).1 e ps d h hp
theorem TrA.ev {z : Zx} {c : Cx} {ρ : Rho} {n : Nat} {e : Expr} {ps : List Prop} {b : Bool} (Z : Zok z n c.g c.A c.env) (h : (evET z c ρ 30).2 e = some (ps, b)) (hp : All ps) : TrA c ρ e b := (evET_sound Z 30).2 e ps b h hp
theorem StA.ev {z : Zx} {c : Cx} {ρ ρ' : Rho} {n : Nat} {b : List Stmt} {ps : List Prop} {fl : Fl} (Z : Zok z n c.g c.A c.env) (h : evS z c 30 50 ρ b = some (ps, ρ', fl)) (hp : All ps) : StA c ρ (execs b c.env) ρ' fl := evS_sound Z 30 50 ρ b ps (ρ', fl) h hp
/- a block, of which the first names alone are told -/
def cutS (k : Nat) (x : Zs (Rho × Fl)) : Option (List Prop × Rho × Fl) := match x with
  | some (p, ρ, fl) => if decide (ρ.map (·.1)).Nodup then some (p, ρ.take k, fl) else none
  | none => none
theorem StA.cut {z : Zx} {c : Cx} {ρ ρ' : Rho} {n : Nat} {b : List Stmt} {ps : List Prop} {fl : Fl} (k : Nat) (Z : Zok z n c.g c.A c.env) (h : cutS k (evS z c 30 50 ρ b) = some (ps, ρ', fl)) (hp : All ps) : StA c ρ (execs b c.env) ρ' fl := by
  unfold cutS at h
  split at h
  · rename_i p ρ₁ fl₁ he
    split at h
    · rename_i hn
      cases h
      have s := evS_sound Z 30 50 ρ b _ _ he hp
      refine StA.weak s (sub_take ?_ hn)
      rw [List.length_take, List.take_eq_take_min]
    · cases h
  · cases h
/- parts of expressions -/
def clO : Expr → Expr
  | .Call (.Attribute o _ _) _ _ _ => o
  | e => e
def clAp : Expr → Pos
  | .Call (.Attribute _ _ p) _ _ _ => p
  | e => e.pos
def clA : Expr → Expr
  | .Call _ (a :: _) _ _ => a
  | e => e
def clP : Expr → Pos
  | .Call _ _ _ p => p
  | e => e.pos
theorem EvA.joinList {z : Zx} {c : Cx} {ρ : Rho} {n : Nat} {e : Expr} {sep : List Nat} {xs : List (List Nat)} (Z : Zok z n c.g c.A c.env) (he : e = .Call (.Attribute (clO e) "join" (clAp e)) [clA e] [] (clP e)) (hb : baseOk (clO e) = true) (hl : ((clAp e).endLine == (clP e).line) = true) (hn : noStar (clA e) = true)
    (ho : EvA c ρ (clO e) (.str sep)) (ha : EvA c ρ (clA e) (.list (xs.map .str))) (hz : (xs.map List.length).sum + xs.length * sep.length ≤ sizeLine) : EvA c ρ e (.str (joinL sep xs)) := by
  intro S F O
  rw [he]
  exact Ev.method (n := 1) Z.G ⟨by have := Z.R.units; have := Z.n10; show c.A.units + _ < _; omega, by have := Z.R.depth; have := Z.n10; show c.A.depth + _ < _; omega, Z.R.hand⟩ (ho S F O) Mth.join .builtin (by rw [List.all_cons, hn]; rfl) (Evs.cons hn (ha S F O) Evs.nil) Kws.nil (.join hz) (attrBase_ok hb) hl (show 1 + 0 < 29 by decide)
def ifT : Stmt → Expr
  | .If t _ _ _ => t
  | _ => .Name "" ⟨0, 0, 0, 0⟩
def ifB : Stmt → List Stmt
  | .If _ b _ _ => b
  | _ => []
def rtE : Stmt → Expr
  | .Return (some e) _ => e
  | .Assign _ e _ => e
  | .Expr e _ => e
  | _ => .Name "" ⟨0, 0, 0, 0⟩
def bnL : Expr → Expr
  | .BinOp l _ _ _ => l
  | e => e
def bnR : Expr → Expr
  | .BinOp _ _ r _ => r
  | e => e
def boN (i : Nat) : Expr → Expr
  | .BoolOp _ es _ => es[i]?.getD (.Name "" ⟨0, 0, 0, 0⟩)
  | e => e
end J5
end
section
open PySem PySem.W PySem.W.X PyProof.Rows Builtin
set_option Elab.async false
set_option maxRecDepth 100000
set_option linter.unusedVariables false
namespace J5
/- what a block within takes along -/
def clPs (cells : List (Str × Addr)) : List (Str × NameKind) → List (Str × Addr) → List (Str × Addr)
  | [], cs => cs
  | (n, k) :: r, cs => if k == .free then (match cells.lookup n with
      | some c => clPs cells r ((n, c) :: cs)
      | none => clPs cells r cs) else clPs cells r cs
theorem clPs_lookup {cells : List (Str × Addr)} : ∀ {ns : List (Str × NameKind)} {cs : List (Str × Addr)}, (∀ y c, cs.lookup y = some c → cells.lookup y = some c) → ∀ y c, (clPs cells ns cs).lookup y = some c → cells.lookup y = some c
  | [], cs, h => h
  | (n, k) :: r, cs, h => by
    unfold clPs
    split
    · split
      · rename_i c hc
        refine clPs_lookup fun y c' e => ?_
        rw [List.lookup_cons] at e
        cases hy : y == n with
        | true => rw [hy] at e; cases e; rw [beq_iff_eq.mp hy]; exact hc
        | false => rw [hy] at e; exact h y c' e
      · exact clPs_lookup h
    · exact clPs_lookup h
theorem Taken.of {env env' : Env} {ρ ρc : Rho} (h : ∀ p ∈ ρc, ∃ d cc, p.2 = .val d ∧ ρ.lookup p.1 = some (.val d) ∧ (env.kindOf p.1 == some .local) = false ∧ env.cells.lookup p.1 = some cc ∧ env'.cells.lookup p.1 = some cc ∧ (env'.kindOf p.1 = some .cell ∨ (env'.kindOf p.1 = some .free ∧ (p.1 == ("__classdict__" : Str)) = false))) : Taken env env' ρ ρc :=
  fun y sl e => let ⟨d, cc, a1, a2, a3, a4⟩ := h (y, sl) (mem_of_lookup e); ⟨d, cc, a1, a2, by simpa using a3, a4⟩
/- an evaluator for blocks within -/
def mkG (K : Frag) (gl : Str → Option (Option Value)) (names : List (Str × NameKind)) (orc : Value → List D → List Str → List D → Zs D) (spc : Nat → Nat → Option D) (spt : Nat → Nat → Option Bool) (sst : Nat → Rho → Option (Rho × Fl)) : Zx := ⟨K, names, [], gl, orc, spc, spt, sst⟩
theorem Zok.env {g : Gd} {K : Frag} {gl : Str → Option (Option Value)} {env : Env} {orc : Value → List D → List Str → List D → Zs D} {spc spt sst} {A : Around} {n : Nat} (H : Gz g K gl) (hk : env.scope.kind = .function) (R : Room A n) (hn : 11 ≤ n)
    (ho : ∀ f as ns ks ps d, orc f as ns ks = some (ps, d) → All ps → CallOk g n f as ns ks d) : Zok (mkG K gl env.scope.names orc spc spt sst) n g A env :=
  ⟨H.G, H.K, R, hn, (fun x => rfl), (fun x hx => absurd hx (by simp [mkG])), H.gl, ho, (by show (env.scope.kind == .module && _) = false; rw [hk]; rfl)⟩
/- parts of a generator expression, of a list comprehension -/
def geE : Expr → Expr
  | .GeneratorExp e _ _ _ => e
  | .ListComp e _ _ _ => e
  | e => e
def geC : Expr → Comprehension
  | .GeneratorExp _ (g :: _) _ _ => g
  | .ListComp _ (g :: _) _ _ => g
  | e => ⟨e, e, [], 0⟩
def geS : Expr → Scope
  | .GeneratorExp _ _ s _ => s
  | .ListComp _ _ s _ => s
  | _ => default
def geP : Expr → Pos
  | .GeneratorExp _ _ _ p => p
  | .ListComp _ _ _ p => p
  | e => e.pos
theorem EvA.joinGen {c : Cx} {ρ : Rho} {e : Expr} {x : Str} {sep : List Nat} {a : D} {ds : List D} {xs : List (List Nat)} {ρc : Rho} {n : Nat} {cc P : Addr} (G : Gok c.g) (HB : GBm c.g) (R : Room c.A (n + 3))
    (he : e = .Call (.Attribute (clO e) "join" (clAp e)) [.GeneratorExp (geE (clA e)) [⟨.Name x (geC (clA e)).target.pos, (geC (clA e)).iter, [], 0⟩] (geS (clA e)) (geP (clA e))] [] (clP e)) (hb : baseOk (clO e) = true) (hl : ((clAp e).endLine == (clP e).line) = true)
    (ho : EvA c ρ (clO e) (.str sep)) (hi : EvA c ρ (geC (clA e)).iter a) (hit : ∀ S F O s u, (c.at ρ S F O).At s → Rep c.g (c.at ρ S F O).S s.heap u a → ItersA (c.at ρ S F O) s u ds) (hlen : xs.length = ds.length) (hdl : ds.length ≤ sizeLine) (hsz : (xs.map List.length).sum + xs.length * sep.length ≤ sizeLine)
    (hclos : closureFor (geS (clA e)) c.env = pure (clPs c.env.cells (geS (clA e)).names [])) (hco : (geS (clA e)).isCoroutine = false) (hcell : (geS (clA e)).names.all (fun y => !(y.2 == .cell)) = true) (h0 : (geS (clA e)).names.lookup (".0" : Str) = some NameKind.local) (hkind : (geS (clA e)).kind = .function) (hx : (geS (clA e)).names.lookup x = some .local)
    (ht : ∀ L' code, ∀ p ∈ ρc, ∃ d cc, p.2 = .val d ∧ ρ.lookup p.1 = some (.val d) ∧ (c.env.kindOf p.1 == some .local) = false ∧ c.env.cells.lookup p.1 = some cc ∧ (genEnv (geS (clA e)) (clPs c.env.cells (geS (clA e)).names []) L' code builtinsNs c.env).cells.lookup p.1 = some cc ∧
      ((genEnv (geS (clA e)) (clPs c.env.cells (geS (clA e)).names []) L' code builtinsNs c.env).kindOf p.1 = some .cell ∨ ((genEnv (geS (clA e)) (clPs c.env.cells (geS (clA e)).names []) L' code builtinsNs c.env).kindOf p.1 = some .free ∧ (p.1 == ("__classdict__" : Str)) = false)))
    (hρx : ρc.lookup x = none) (hcode : c.env.code = .ref cc) (hT : (cc, P) ∈ c.g.T)
    (turn : ∀ A' : Around, Room A' n → ∀ (i : Nat) d y, ds[i]? = some d → xs[i]? = some y → ∀ L' code, EvA ⟨c.g, A', genEnv (geS (clA e)) (clPs c.env.cells (geS (clA e)).names []) L' code builtinsNs c.env, fun _ => False, fun _ => False, [], fun _ => none⟩ (upd x (.val d) ρc) (geE (clA e)) (.str y))
    (hfold : noSet (geC (clA e)).iter = true) (hfold2 : (match (geC (clA e)).iter with | .List .. => false | _ => true) = true) : EvA c ρ e (.str (joinL sep xs)) := by
  intro S F O
  rw [he]
  refine Ev.joinGen (c := c.at ρ S F O) (n := n) G HB R (ho S F O) (hi S F O) (hit S F O) hlen hdl hsz hclos hco (fun y hy => ?_) h0 hkind hx (clPs_lookup fun y c e => by cases e) (fun L' code => Taken.of (ht L' code)) hρx hcode hT (fun A' R' i d y hd hy L' code Sc' F' O' => turn A' R' i d y hd hy L' code Sc' F' O') (fun v => ?_) (attrBase_ok hb) hl
  · have := List.all_eq_true.mp hcell y hy
    simpa using this
  · revert hfold2 hfold
    generalize (geC (clA e)).iter = it
    intro hf1 hf2
    cases it <;> first | (cases hf2; done) | exact noSet_folded hf1 c.env v
end J5
end
section
open PySem PySem.W PySem.W.X PyProof.Rows Builtin
set_option Elab.async false
set_option maxRecDepth 100000
set_option linter.unusedVariables false
namespace J5
theorem EvA.listcomp {c : Cx} {ρ : Rho} {e : Expr} {x : Str} {a : D} {ds : List D} (okf : D → Bool) (f : D → D) (ρc : Rho) (G : Gok c.g)
    (he : e = .ListComp (geE e) [⟨.Name x (geC e).target.pos, (geC e).iter, (geC e).ifs, 0⟩] (geS e) (geP e))
    (hi : EvA c ρ (geC e).iter a) (hit : ∀ S F O s u, (c.at ρ S F O).At s → Rep c.g (c.at ρ S F O).S s.heap u a → Iters (c.at ρ S F O) s u ds) (hdl : ds.length ≤ sizeLine)
    (hclos : closureFor (geS e) c.env = pure (clPs c.env.cells (geS e).names [])) (hcell : (geS e).names.all (fun y => !(y.2 == .cell)) = true) (hkind : (geS e).kind = .function) (hnames : (geS e).names.all (fun y => !(y.2 == .local) || (geS e).names.lookup y.1 == some .local) = true) (hx : (geS e).names.lookup x = some .local)
    (ht : ∀ L', ∀ p ∈ ρc, ∃ d cc, p.2 = .val d ∧ ρ.lookup p.1 = some (.val d) ∧ (c.env.kindOf p.1 == some .local) = false ∧ c.env.cells.lookup p.1 = some cc ∧ (compEnvC (geS e) (clPs c.env.cells (geS e).names []) L' c.env).cells.lookup p.1 = some cc ∧
      ((compEnvC (geS e) (clPs c.env.cells (geS e).names []) L' c.env).kindOf p.1 = some .cell ∨ ((compEnvC (geS e) (clPs c.env.cells (geS e).names []) L' c.env).kindOf p.1 = some .free ∧ (p.1 == ("__classdict__" : Str)) = false)))
    (hρx : ρc.lookup x = none)
    (turn : ∀ (i : Nat) d, ds[i]? = some d → ∀ L', (∀ S F O, TrAll ⟨c.g, c.A, compEnvC (geS e) (clPs c.env.cells (geS e).names []) L' c.env, S, F, upd x (.val d) ρc, O⟩ (geC e).ifs (okf d)) ∧
      (okf d = true → EvA ⟨c.g, c.A, compEnvC (geS e) (clPs c.env.cells (geS e).names []) L' c.env, fun _ => False, fun _ => False, [], fun _ => none⟩ (upd x (.val d) ρc) (geE e) (f d)))
    (hs : noSet (geC e).iter = true) : EvA c ρ e (.list ((ds.filter okf).map f)) := by
  intro S F O
  rw [he]
  refine Ev.listcomp (c := c.at ρ S F O) okf f ρc G (hi S F O) (hit S F O) hdl hclos (fun y hy => ?_) hkind (fun y hy hl => ?_) hx (clPs_lookup fun y c e => by cases e) (fun L' => Taken.of (ht L')) hρx (fun i d hd L' Sc' F' O' => ⟨(turn i d hd L').1 Sc' F' O', fun ho => (turn i d hd L').2 ho Sc' F' O'⟩) (noSet_folded hs _)
  · have := List.all_eq_true.mp hcell y hy
    simpa using this
  · have := List.all_eq_true.mp hnames y hy
    rw [hl] at this
    simpa using this
/- a loop over a list of tuples -/
def forTgE : Stmt → List Expr
  | .For (.Tuple es _ _) _ _ _ _ => es
  | _ => []
def forTgK : Stmt → Nat
  | .For (.Tuple _ k _) _ _ _ _ => k
  | _ => 0
theorem StA.forT {c : Cx} {st : Stmt} {ds : List D} (ρs : Nat → Rho) (hh : c.A.handled = none) (hst : st = .For (.Tuple (forTgE st) (forTgK st) (forTp st)) (forIt st) (forBd st) [] (forPs st)) (hns : noSet (forIt st) = true) (h : EvA c (ρs 0) (forIt st) (.list ds))
    (turn : ∀ i d, ds[i]? = some d → ∃ ρ₁ fl, (fl = .next ∨ fl = .cont) ∧ (∀ S F O, Asg (c.at (ρs i) S F O) (PySem.assign (Expr.Tuple (forTgE st) (forTgK st) (forTp st)) c.env) d ρ₁) ∧ StA c ρ₁ (execs (forBd st) c.env) (ρs (i + 1)) fl) : StA c (ρs 0) (exec st c.env) (ρs ds.length) .next := by
  intro S F O
  rw [hst]
  exact St.forT (c := c.at (ρs 0) S F O) ρs hh (h S F O) rfl (fun i d hd F' O' Sc' => let ⟨ρ₁, fl, a, b, d'⟩ := turn i d hd; ⟨ρ₁, fl, a, b Sc' F' O', fun O'' => d' Sc' F' O''⟩) (noSet_folded hns _)
/- two stores at once -/
def asT : Stmt → List Expr
  | .Assign [.Tuple es _ _] _ _ => es
  | _ => []
def asK' : Stmt → Nat
  | .Assign [.Tuple _ k _] _ _ => k
  | _ => 0
def asTp : Stmt → Pos
  | .Assign (t :: _) _ _ => t.pos
  | _ => ⟨0, 0, 0, 0⟩
def asP : Stmt → Pos
  | .Assign _ _ p => p
  | _ => ⟨0, 0, 0, 0⟩
theorem StA.swap2 {c : Cx} {ρ : Rho} {st : Stmt} {x y : Str} {a b : D} (hh : c.A.handled = none) (hst : st = .Assign [.Tuple (asT st) (asK' st) (asTp st)] (rtE st) (asP st)) (hv : noComp (rtE st) = true) (h : EvA c ρ (rtE st) (.tup [a, b])) (hw : swappedStores [.Tuple (asT st) (asK' st) (asTp st)] (rtE st) c.env = pure (some [x, y]))
    (hx : stores c.env x = true) (hy : stores c.env y = true) : StA c ρ (exec st c.env) (upd x (.val a) (upd y (.val b) ρ)) .next := by
  intro S F O
  rw [hst]
  refine St.unpackSwap (c := c.at ρ S F O) hh (h S F O) rfl ?_ ((show ∀ (v : Expr) (tg : Expr) (l : Nat) (env : Env), swapsWithSole [tg] v l env = swapsWith v (some tg) l env from fun _ _ _ _ => rfl) _ _ _ _ ▸ noComp_swaps hv _ _ _) hw
  exact AsgN.cons (Asg.bind (c := c.at ρ S F O) hy) fun O' => AsgN.cons (Asg.bind (c := c.at (upd y (.val b) ρ) S F O') hx) fun O'' => AsgN.nil
end J5
end
section
open PySem PySem.W PySem.W.X PyProof.Rows Builtin J5
set_option Elab.async false
set_option maxRecDepth 100000
set_option linter.unusedVariables false
namespace J5
/- the ground of this law: what is kept for good -/
def tabs3 : List (Addr × Addr) := [(880, 878), (814, 810)]
def KQ (P : Params) : Frag := (KK P).filter fun p => !(p.1 == 878 || p.1 == 810)
def glQ (P : Params) (x : Str) : Option (Option Value) := nsIn (KQ P) 3 x
structure G3 (g : Gd) : Prop where
  z : Gz g (KQ g.w.params) (glQ g.w.params)
  HB : GBm g
  T : g.T = tabs3
abbrev d_723 (P : Params) : FuncData := fdOf (f723 P)
theorem fn723 (P : Params) : FnAt (KQ P) 723 (d_723 P) (fBody [13]) := ⟨⟨.type "function", none, #[], by kernel_rfl⟩, by kernel_rfl, by kernel_rfl, by kernel_rfl, by kernel_rfl, by kernel_rfl, by kernel_rfl, by kernel_rfl, by kernel_rfl, by kernel_rfl, by kernel_rfl, by kernel_rfl, by kernel_rfl⟩
abbrev d_738 (P : Params) : FuncData := fdOf (f738 P)
theorem fn738 (P : Params) : FnAt (KQ P) 738 (d_738 P) (fBody [14, 0]) := ⟨⟨.type "function", none, #[], by kernel_rfl⟩, by kernel_rfl, by kernel_rfl, by kernel_rfl, by kernel_rfl, by kernel_rfl, by kernel_rfl, by kernel_rfl, by kernel_rfl, by kernel_rfl, by kernel_rfl, by kernel_rfl, by kernel_rfl⟩
abbrev d_745 (P : Params) : FuncData := fdOf (f745 P)
theorem fn745 (P : Params) : FnAt (KQ P) 745 (d_745 P) (fBody [14, 1]) := ⟨⟨.type "function", none, #[], by kernel_rfl⟩, by kernel_rfl, by kernel_rfl, by kernel_rfl, by kernel_rfl, by kernel_rfl, by kernel_rfl, by kernel_rfl, by kernel_rfl, by kernel_rfl, by kernel_rfl, by kernel_rfl, by kernel_rfl⟩
abbrev d_752 (P : Params) : FuncData := fdOf (f752 P)
theorem fn752 (P : Params) : FnAt (KQ P) 752 (d_752 P) (fBody [14, 2]) := ⟨⟨.type "function", none, #[], by kernel_rfl⟩, by kernel_rfl, by kernel_rfl, by kernel_rfl, by kernel_rfl, by kernel_rfl, by kernel_rfl, by kernel_rfl, by kernel_rfl, by kernel_rfl, by kernel_rfl, by kernel_rfl, by kernel_rfl⟩
abbrev d_759 (P : Params) : FuncData := fdOf (f759 P)
theorem fn759 (P : Params) : FnAt (KQ P) 759 (d_759 P) (fBody [14, 3]) := ⟨⟨.type "function", none, #[], by kernel_rfl⟩, by kernel_rfl, by kernel_rfl, by kernel_rfl, by kernel_rfl, by kernel_rfl, by kernel_rfl, by kernel_rfl, by kernel_rfl, by kernel_rfl, by kernel_rfl, by kernel_rfl, by kernel_rfl⟩
abbrev d_766 (P : Params) : FuncData := fdOf (f766 P)
theorem fn766 (P : Params) : FnAt (KQ P) 766 (d_766 P) (fBody [14, 4]) := ⟨⟨.type "function", none, #[], by kernel_rfl⟩, by kernel_rfl, by kernel_rfl, by kernel_rfl, by kernel_rfl, by kernel_rfl, by kernel_rfl, by kernel_rfl, by kernel_rfl, by kernel_rfl, by kernel_rfl, by kernel_rfl, by kernel_rfl⟩
abbrev d_780 (P : Params) : FuncData := fdOf (f780 P)
theorem fn780 (P : Params) : FnAt (KQ P) 780 (d_780 P) (fBody [14, 6]) := ⟨⟨.type "function", none, #[], by kernel_rfl⟩, by kernel_rfl, by kernel_rfl, by kernel_rfl, by kernel_rfl, by kernel_rfl, by kernel_rfl, by kernel_rfl, by kernel_rfl, by kernel_rfl, by kernel_rfl, by kernel_rfl, by kernel_rfl⟩
abbrev d_787 (P : Params) : FuncData := fdOf (f787 P)
theorem fn787 (P : Params) : FnAt (KQ P) 787 (d_787 P) (fBody [14, 7]) := ⟨⟨.type "function", none, #[], by kernel_rfl⟩, by kernel_rfl, by kernel_rfl, by kernel_rfl, by kernel_rfl, by kernel_rfl, by kernel_rfl, by kernel_rfl, by kernel_rfl, by kernel_rfl, by kernel_rfl, by kernel_rfl, by kernel_rfl⟩
abbrev d_794 (P : Params) : FuncData := fdOf (f794 P)
theorem fn794 (P : Params) : FnAt (KQ P) 794 (d_794 P) (fBody [14, 8]) := ⟨⟨.type "function", none, #[], by kernel_rfl⟩, by kernel_rfl, by kernel_rfl, by kernel_rfl, by kernel_rfl, by kernel_rfl, by kernel_rfl, by kernel_rfl, by kernel_rfl, by kernel_rfl, by kernel_rfl, by kernel_rfl, by kernel_rfl⟩
abbrev d_801 (P : Params) : FuncData := fdOf (f801 P)
theorem fn801 (P : Params) : FnAt (KQ P) 801 (d_801 P) (fBody [14, 9]) := ⟨⟨.type "function", none, #[], by kernel_rfl⟩, by kernel_rfl, by kernel_rfl, by kernel_rfl, by kernel_rfl, by kernel_rfl, by kernel_rfl, by kernel_rfl, by kernel_rfl, by kernel_rfl, by kernel_rfl, by kernel_rfl, by kernel_rfl⟩
abbrev d_808 (P : Params) : FuncData := fdOf (f808 P)
theorem fn808 (P : Params) : FnAt (KQ P) 808 (d_808 P) (fBody [14, 10]) := ⟨⟨.type "function", none, #[], by kernel_rfl⟩, by kernel_rfl, by kernel_rfl, by kernel_rfl, by kernel_rfl, by kernel_rfl, by kernel_rfl, by kernel_rfl, by kernel_rfl, by kernel_rfl, by kernel_rfl, by kernel_rfl, by kernel_rfl⟩
abbrev d_815 (P : Params) : FuncData := fdOf (f815 P)
theorem fn815 (P : Params) : FnAt (KQ P) 815 (d_815 P) (fBody [14, 11]) := ⟨⟨.type "function", none, #[], by kernel_rfl⟩, by kernel_rfl, by kernel_rfl, by kernel_rfl, by kernel_rfl, by kernel_rfl, by kernel_rfl, by kernel_rfl, by kernel_rfl, by kernel_rfl, by kernel_rfl, by kernel_rfl, by kernel_rfl⟩
abbrev d_822 (P : Params) : FuncData := fdOf (f822 P)
theorem fn822 (P : Params) : FnAt (KQ P) 822 (d_822 P) (fBody [14, 12]) := ⟨⟨.type "function", none, #[], by kernel_rfl⟩, by kernel_rfl, by kernel_rfl, by kernel_rfl, by kernel_rfl, by kernel_rfl, by kernel_rfl, by kernel_rfl, by kernel_rfl, by kernel_rfl, by kernel_rfl, by kernel_rfl, by kernel_rfl⟩
abbrev d_829 (P : Params) : FuncData := fdOf (f829 P)
theorem fn829 (P : Params) : FnAt (KQ P) 829 (d_829 P) (fBody [14, 13]) := ⟨⟨.type "function", none, #[], by kernel_rfl⟩, by kernel_rfl, by kernel_rfl, by kernel_rfl, by kernel_rfl, by kernel_rfl, by kernel_rfl, by kernel_rfl, by kernel_rfl, by kernel_rfl, by kernel_rfl, by kernel_rfl, by kernel_rfl⟩
abbrev d_836 (P : Params) : FuncData := fdOf (f836 P)
theorem fn836 (P : Params) : FnAt (KQ P) 836 (d_836 P) (fBody [14, 14]) := ⟨⟨.type "function", none, #[], by kernel_rfl⟩, by kernel_rfl, by kernel_rfl, by kernel_rfl, by kernel_rfl, by kernel_rfl, by kernel_rfl, by kernel_rfl, by kernel_rfl, by kernel_rfl, by kernel_rfl, by kernel_rfl, by kernel_rfl⟩
abbrev d_843 (P : Params) : FuncData := fdOf (f843 P)
theorem fn843 (P : Params) : FnAt (KQ P) 843 (d_843 P) (fBody [14, 15]) := ⟨⟨.type "function", none, #[], by kernel_rfl⟩, by kernel_rfl, by kernel_rfl, by kernel_rfl, by kernel_rfl, by kernel_rfl, by kernel_rfl, by kernel_rfl, by kernel_rfl, by kernel_rfl, by kernel_rfl, by kernel_rfl, by kernel_rfl⟩
abbrev d_850 (P : Params) : FuncData := fdOf (f850 P)
theorem fn850 (P : Params) : FnAt (KQ P) 850 (d_850 P) (fBody [14, 16]) := ⟨⟨.type "function", none, #[], by kernel_rfl⟩, by kernel_rfl, by kernel_rfl, by kernel_rfl, by kernel_rfl, by kernel_rfl, by kernel_rfl, by kernel_rfl, by kernel_rfl, by kernel_rfl, by kernel_rfl, by kernel_rfl, by kernel_rfl⟩
abbrev d_871 (P : Params) : FuncData := fdOf (f871 P)
theorem fn871 (P : Params) : FnAt (KQ P) 871 (d_871 P) (fBody [17]) := ⟨⟨.type "function", none, #[], by kernel_rfl⟩, by kernel_rfl, by kernel_rfl, by kernel_rfl, by kernel_rfl, by kernel_rfl, by kernel_rfl, by kernel_rfl, by kernel_rfl, by kernel_rfl, by kernel_rfl, by kernel_rfl, by kernel_rfl⟩
abbrev d_876 (P : Params) : FuncData := fdOf (f876 P)
theorem fn876 (P : Params) : FnAt (KQ P) 876 (d_876 P) (fBody [18]) := ⟨⟨.type "function", none, #[], by kernel_rfl⟩, by kernel_rfl, by kernel_rfl, by kernel_rfl, by kernel_rfl, by kernel_rfl, by kernel_rfl, by kernel_rfl, by kernel_rfl, by kernel_rfl, by kernel_rfl, by kernel_rfl, by kernel_rfl⟩
abbrev d_881 (P : Params) : FuncData := fdOf (f881 P)
theorem fn881 (P : Params) : FnAt (KQ P) 881 (d_881 P) (fBody [19]) := ⟨⟨.type "function", none, #[], by kernel_rfl⟩, by kernel_rfl, by kernel_rfl, by kernel_rfl, by kernel_rfl, by kernel_rfl, by kernel_rfl, by kernel_rfl, by kernel_rfl, by kernel_rfl, by kernel_rfl, by kernel_rfl, by kernel_rfl⟩
theorem fmt_eq (t u : Tok) : Builtin.«int.__format__» ⟨[.int 233 t, .str (S? [48, 52, 120]) u], []⟩ = (do let _ ← typeNameOf (.str (S? [48, 52, 120]) u); let _ ← typeNameOfCut 200 (.int 233 t); retStr ⟨#[48, 48, 101, 57]⟩) := by kernel_rfl
theorem fmt_e9 : FmtOk 233 [48, 52, 120] [48, 48, 101, 57] := by
  intro prog w A s t u Q E q
  rw [fmt_eq]
  refine wpAny_bind (wpAny_typeNameOf (T := "str") (typeIs_str _ _ _) (by decide) fun _ => wpAny_bind (wpAny_typeNameOfCut_int ?_))
  unfold retStr
  exact wpAny_bind (wpAny_mkStr (wpAny_pure ⟨_, rfl, q _ _⟩) (by decide))
end J5
end
section
open PySem PySem.W PySem.W.X PyProof.Rows Builtin J5
set_option Elab.async false
set_option maxRecDepth 100000
set_option linter.unusedVariables false
namespace J5
def nS : Nat → Nat → Option D := fun _ _ => none
def nT : Nat → Nat → Option Bool := fun _ _ => none
def nL : Nat → Rho → Option (Rho × Fl) := fun _ _ => none
def esc0 (n : Nat) : List Nat := if n == 34 then [92, 34] else if n == 39 then [92, 39] else if n == 92 then [92, 92] else if n == 10 then [92, 110] else [92, 117, 48, 48, 101, 57]
theorem c794 {g : Gd} (H : G3 g) (self : D) {n : Nat} (hn : n ∈ [34, 39, 92, 10, 233]) : CallOk g 12 (.ref 794) [self, .str [n]] [] [] (.str (esc0 n)) := by
  simp only [List.mem_cons, List.not_mem_nil, or_false] at hn
  rcases hn with rfl | rfl | rfl | rfl | rfl
  · exact CallOk.ev H.z (fn794 _) (by decide) [("self", self), ("ch", .str [34])] (by kernel_rfl) (by kernel_rfl) (by kernel_rfl) noOrc nS nT nL noOrc_ok (fun _ _ _ => []) _ (.inl rfl) (by intro A L f; kernel_rfl) (fun _ _ _ _ => trivial)
  · exact CallOk.ev H.z (fn794 _) (by decide) [("self", self), ("ch", .str [39])] (by kernel_rfl) (by kernel_rfl) (by kernel_rfl) noOrc nS nT nL noOrc_ok (fun _ _ _ => []) _ (.inl rfl) (by intro A L f; kernel_rfl) (fun _ _ _ _ => trivial)
  · exact CallOk.ev H.z (fn794 _) (by decide) [("self", self), ("ch", .str [92])] (by kernel_rfl) (by kernel_rfl) (by kernel_rfl) noOrc nS nT nL noOrc_ok (fun _ _ _ => []) _ (.inl rfl) (by intro A L f; kernel_rfl) (fun _ _ _ _ => trivial)
  · exact CallOk.ev H.z (fn794 _) (by decide) [("self", self), ("ch", .str [10])] (by kernel_rfl) (by kernel_rfl) (by kernel_rfl) noOrc nS nT nL noOrc_ok (fun _ _ _ => []) _ (.inl rfl) (by intro A L f; kernel_rfl) (fun _ _ _ _ => trivial)
  · exact CallOk.ev H.z (fn794 _) (by decide) [("self", self), ("ch", .str [233])] (by kernel_rfl) (by kernel_rfl) (by kernel_rfl) noOrc nS nT nL noOrc_ok (fun _ _ _ => [2 ≤ 16777216, FmtOk 233 [48, 52, 120] [48, 48, 101, 57], 3 ≤ 16777216, 6 ≤ 16777216, 6 ≤ 16777216]) _ (.inl rfl) (by intro A L f; kernel_rfl) (fun _ _ _ _ => ⟨by decide, fmt_e9, by decide, by decide, by decide, trivial⟩)
/- names -/
def isStart (n : Nat) : Bool := n == 97 || n == 110 || n == 233
theorem c836 {g : Gd} (H : G3 g) (self : D) {n : Nat} (hn : n ∈ [34, 39, 97, 92, 10, 233, 32, 110]) : CallOk g 12 (.ref 836) [self, .str [n]] [] [] (.bool (isStart n)) := by
  simp only [List.mem_cons, List.not_mem_nil, or_false] at hn
  rcases hn with rfl | rfl | rfl | rfl | rfl | rfl | rfl | rfl
  · exact CallOk.ev H.z (fn836 _) (by decide) [("self", self), ("ch", .str [34])] (by kernel_rfl) (by kernel_rfl) (by kernel_rfl) noOrc nS nT nL noOrc_ok (fun _ _ _ => [7 ≤ 16777216]) _ (.inl rfl) (by intro A L f; kernel_rfl) (fun _ _ _ _ => ⟨by decide, trivial⟩)
  · exact CallOk.ev H.z (fn836 _) (by decide) [("self", self), ("ch", .str [39])] (by kernel_rfl) (by kernel_rfl) (by kernel_rfl) noOrc nS nT nL noOrc_ok (fun _ _ _ => [7 ≤ 16777216]) _ (.inl rfl) (by intro A L f; kernel_rfl) (fun _ _ _ _ => ⟨by decide, trivial⟩)
  · exact CallOk.ev H.z (fn836 _) (by decide) [("self", self), ("ch", .str [97])] (by kernel_rfl) (by kernel_rfl) (by kernel_rfl) noOrc nS nT nL noOrc_ok (fun _ _ _ => [7 ≤ 16777216]) _ (.inl rfl) (by intro A L f; kernel_rfl) (fun _ _ _ _ => ⟨by decide, trivial⟩)
  · exact CallOk.ev H.z (fn836 _) (by decide) [("self", self), ("ch", .str [92])] (by kernel_rfl) (by kernel_rfl) (by kernel_rfl) noOrc nS nT nL noOrc_ok (fun _ _ _ => [7 ≤ 16777216]) _ (.inl rfl) (by intro A L f; kernel_rfl) (fun _ _ _ _ => ⟨by decide, trivial⟩)
  · exact CallOk.ev H.z (fn836 _) (by decide) [("self", self), ("ch", .str [10])] (by kernel_rfl) (by kernel_rfl) (by kernel_rfl) noOrc nS nT nL noOrc_ok (fun _ _ _ => [7 ≤ 16777216]) _ (.inl rfl) (by intro A L f; kernel_rfl) (fun _ _ _ _ => ⟨by decide, trivial⟩)
  · exact CallOk.ev H.z (fn836 _) (by decide) [("self", self), ("ch", .str [233])] (by kernel_rfl) (by kernel_rfl) (by kernel_rfl) noOrc nS nT nL noOrc_ok (fun _ _ _ => [7 ≤ 16777216]) _ (.inl rfl) (by intro A L f; kernel_rfl) (fun _ _ _ _ => ⟨by decide, trivial⟩)
  · exact CallOk.ev H.z (fn836 _) (by decide) [("self", self), ("ch", .str [32])] (by kernel_rfl) (by kernel_rfl) (by kernel_rfl) noOrc nS nT nL noOrc_ok (fun _ _ _ => [7 ≤ 16777216]) _ (.inl rfl) (by intro A L f; kernel_rfl) (fun _ _ _ _ => ⟨by decide, trivial⟩)
  · exact CallOk.ev H.z (fn836 _) (by decide) [("self", self), ("ch", .str [110])] (by kernel_rfl) (by kernel_rfl) (by kernel_rfl) noOrc nS nT nL noOrc_ok (fun _ _ _ => [7 ≤ 16777216]) _ (.inl rfl) (by intro A L f; kernel_rfl) (fun _ _ _ _ => ⟨by decide, trivial⟩)
theorem c843 {g : Gd} (H : G3 g) (self : D) {n : Nat} (hn : n ∈ [34, 39, 97, 92, 10, 233, 32, 110]) : CallOk g 12 (.ref 843) [self, .str [n]] [] [] (.bool (isStart n)) := by
  simp only [List.mem_cons, List.not_mem_nil, or_false] at hn
  rcases hn with rfl | rfl | rfl | rfl | rfl | rfl | rfl | rfl
  · exact CallOk.ev H.z (fn843 _) (by decide) [("self", self), ("ch", .str [34])] (by kernel_rfl) (by kernel_rfl) (by kernel_rfl) noOrc nS nT nL noOrc_ok (fun _ _ _ => [11 ≤ 16777216]) _ (.inl rfl) (by intro A L f; kernel_rfl) (fun _ _ _ _ => ⟨by decide, trivial⟩)
  · exact CallOk.ev H.z (fn843 _) (by decide) [("self", self), ("ch", .str [39])] (by kernel_rfl) (by kernel_rfl) (by kernel_rfl) noOrc nS nT nL noOrc_ok (fun _ _ _ => [11 ≤ 16777216]) _ (.inl rfl) (by intro A L f; kernel_rfl) (fun _ _ _ _ => ⟨by decide, trivial⟩)
  · exact CallOk.ev H.z (fn843 _) (by decide) [("self", self), ("ch", .str [97])] (by kernel_rfl) (by kernel_rfl) (by kernel_rfl) noOrc nS nT nL noOrc_ok (fun _ _ _ => [11 ≤ 16777216]) _ (.inl rfl) (by intro A L f; kernel_rfl) (fun _ _ _ _ => ⟨by decide, trivial⟩)
  · exact CallOk.ev H.z (fn843 _) (by decide) [("self", self), ("ch", .str [92])] (by kernel_rfl) (by kernel_rfl) (by kernel_rfl) noOrc nS nT nL noOrc_ok (fun _ _ _ => [11 ≤ 16777216]) _ (.inl rfl) (by intro A L f; kernel_rfl) (fun _ _ _ _ => ⟨by decide, trivial⟩)
  · exact CallOk.ev H.z (fn843 _) (by decide) [("self", self), ("ch", .str [10])] (by kernel_rfl) (by kernel_rfl) (by kernel_rfl) noOrc nS nT nL noOrc_ok (fun _ _ _ => [11 ≤ 16777216]) _ (.inl rfl) (by intro A L f; kernel_rfl) (fun _ _ _ _ => ⟨by decide, trivial⟩)
  · exact CallOk.ev H.z (fn843 _) (by decide) [("self", self), ("ch", .str [233])] (by kernel_rfl) (by kernel_rfl) (by kernel_rfl) noOrc nS nT nL noOrc_ok (fun _ _ _ => [11 ≤ 16777216]) _ (.inl rfl) (by intro A L f; kernel_rfl) (fun _ _ _ _ => ⟨by decide, trivial⟩)
  · exact CallOk.ev H.z (fn843 _) (by decide) [("self", self), ("ch", .str [32])] (by kernel_rfl) (by kernel_rfl) (by kernel_rfl) noOrc nS nT nL noOrc_ok (fun _ _ _ => [11 ≤ 16777216]) _ (.inl rfl) (by intro A L f; kernel_rfl) (fun _ _ _ _ => ⟨by decide, trivial⟩)
  · exact CallOk.ev H.z (fn843 _) (by decide) [("self", self), ("ch", .str [110])] (by kernel_rfl) (by kernel_rfl) (by kernel_rfl) noOrc nS nT nL noOrc_ok (fun _ _ _ => [11 ≤ 16777216]) _ (.inl rfl) (by intro A L f; kernel_rfl) (fun _ _ _ _ => ⟨by decide, trivial⟩)
end J5
end
section
open PySem PySem.W PySem.W.X PyProof.Rows Builtin J5
set_option Elab.async false
set_option maxRecDepth 100000
set_option linter.unusedVariables false
namespace J5
def Sg : List Nat := [34, 39, 97, 92, 10, 233, 32, 110]
def orc1 (f : Nat) (m : Nat → Bool) (r : Nat → D) : Value → List D → List Str → List D → Zs D := fun v as ns ks => match v with
  | .ref a => if a == f then (match as, ns, ks with
    | [_, .str [n]], [], [] => if m n then some ([], r n) else none
    | _, _, _ => none) else none
  | _ => none
theorem orc1_ok {g : Gd} {f : Nat} {m : Nat → Bool} {r : Nat → D} {k : Nat} (h : ∀ self n, m n = true → CallOk g k (.ref f) [self, .str [n]] [] [] (r n)) : ∀ v as ns ks ps d, orc1 f m r v as ns ks = some (ps, d) → All ps → CallOk g k v as ns ks d := by
  intro v as ns ks ps d e _
  unfold orc1 at e
  split at e
  · split at e
    · rename_i ha
      rw [beq_iff_eq] at ha
      split at e
      · split at e
        · rename_i hm; cases e; rw [ha]; exact h _ _ hm
        · cases e
      · cases e
    · cases e
  · cases e
/- answers of several kinds -/
abbrev Orc := Value → List D → List Str → List D → Zs D
def Snd (g : Gd) (n : Nat) (o : Orc) : Prop := ∀ f as ns ks ps d, o f as ns ks = some (ps, d) → All ps → CallOk g n f as ns ks d
def orcOr (a b : Orc) : Orc := fun f as ns ks => match a f as ns ks with
  | some r => some r
  | none => b f as ns ks
theorem Snd.or {g : Gd} {n : Nat} {a b : Orc} (ha : Snd g n a) (hb : Snd g n b) : Snd g n (orcOr a b) := by
  intro f as ns ks ps d h hp
  unfold orcOr at h
  split at h
  · rename_i r hr; cases h; exact ha _ _ _ _ _ _ hr hp
  · exact hb _ _ _ _ _ _ h hp
theorem Snd.up {g : Gd} {m n : Nat} {o : Orc} (h : Snd g m o) (hm : m ≤ n) : Snd g n o := fun f as ns ks ps d e hp => (h f as ns ks ps d e hp).up hm
def orcA : Orc := orcOr (orc1 794 (fun n => [34, 39, 92, 10, 233].contains n) fun n => .str (esc0 n)) (orcOr (orc1 836 (fun n => Sg.contains n) fun n => .bool (isStart n)) (orc1 843 (fun n => Sg.contains n) fun n => .bool (isStart n)))
theorem orcA_ok {g : Gd} (H : G3 g) : Snd g 12 orcA :=
  Snd.or (orc1_ok fun self n h => c794 H self (by simpa using h)) (Snd.or (orc1_ok fun self n h => c836 H self (by simpa [Sg] using h)) (orc1_ok fun self n h => c843 H self (by simpa [Sg] using h)))
/- an encoder as dumps makes it -/
def encNs : List Str := ["skipkeys", "ensure_ascii", "allow_nan", "indent", "separators", "item_separator", "kv_separator", "default_fn", "sort_keys", "quote_keys", "trailing_commas", "allow_duplicate_keys", "quote_style"]
def encD (q : Nat) : D := .inst 853 encNs [.bool false, .bool true, .bool true, .none, .none, .str [44, 32], .str [58, 32], .at (.ref 864), .bool false, .bool false, .bool true, .bool true, .at (.ref q)]
/- quoting -/
def escS (dbl : Bool) (n : Nat) : List Nat := if n == 34 then (if dbl then esc0 34 else [34]) else if n == 39 then (if dbl then [39] else esc0 39) else if n == 92 || n == 10 || n == 233 then esc0 n else [n]
def dblOf (q : Nat) : Bool := q == 685 || q == 689
def qR (self : D) (q : Nat) (x : List Nat) (l : List D) (a b : Int) : Rho := [("self", .val self), ("obj", .val (.str x)), ("quote_style", .val (.at (.ref q))), ("ret", .own (.list l)), ("double_quotes_seen", .val (.int a)), ("single_quotes_seen", .val (.int b)), ("sq", .val (.str [39])), ("dq", .val (.str [34]))]
def z787 (P : Params) (orc : Value → List D → List Str → List D → Zs D) (spc : Nat → Nat → Option D) (spt : Nat → Nat → Option Bool) (sst : Nat → Rho → Option (Rho × Fl)) : Zx := mkZ (KQ P) (glQ P) (d_787 P).scope orc spc spt sst
def f787s : Stmt := stAt (fBody [14, 7]) 5
def c34 (n : Nat) (a : Int) : Int := if n == 34 then a + 1 else a
def c39 (n : Nat) (a : Int) : Int := if n == 39 then a + 1 else a
def psT (n k : Nat) : List Prop := if n == 34 || n == 39 then [True, 2 ≤ sizeLine, k ≤ sizeLine] else if n == 233 then [True, k ≤ sizeLine] else [k ≤ sizeLine]
theorem psT_ok (n : Nat) {k : Nat} (h : k ≤ sizeLine) : All (psT n k) := by
  unfold psT
  split
  · exact ⟨trivial, by decide, h, trivial⟩
  split
  · exact ⟨trivial, h, trivial⟩
  · exact ⟨h, trivial⟩
theorem turn787 {g : Gd} (H : G3 g) {A : Around} {L f : Addr} (R : Room A 12) (q0 : Nat) (x : List Nat) (l : List D) (a b : Int) {q n : Nat} (hq : q ∈ [685, 687, 689, 691]) (hn : n ∈ Sg) (hl : l.length ≤ sizeLine) :
    StA (cx0 g A (d_787 g.w.params) L f) (upd "ch" (.val (.str [n])) (qR (encD q0) q x l a b)) (execs (forBd f787s) (callEnvC (d_787 g.w.params) L f)) (qR (encD q0) q x (l ++ [.str (escS (dblOf q) n)]) (c34 n a) (c39 n b)) .next := by
  have Z : Zok (z787 g.w.params orcA nS nT nL) 12 g A (callEnvC (d_787 g.w.params) L f) := Zok.of H.z (fn787 _).kind R (by decide) (orcA_ok H)
  refine StA.cut 8 Z (ps := psT n l.length) ?_ (psT_ok n hl)
  simp only [Sg, List.mem_cons, List.not_mem_nil, or_false] at hq hn
  rcases hq with rfl | rfl | rfl | rfl <;> rcases hn with rfl | rfl | rfl | rfl | rfl | rfl | rfl | rfl
  all_goals kernel_rfl
def c34s (x : List Nat) : Int := x.foldl (fun a n => c34 n a) 0
def c39s (x : List Nat) : Int := x.foldl (fun a n => c39 n a) 0
def qs787 (q0 q : Nat) (x y : List Nat) : Rho := qR (encD q0) q x (y.map fun n => .str (escS (dblOf q) n)) (c34s y) (c39s y)
theorem for787_is : f787s = .For (.Name "ch" (forTp f787s)) (forIt f787s) (forBd f787s) [] (forPs f787s) := by kernel_rfl
theorem loop787 {g : Gd} (H : G3 g) {A : Around} {L f : Addr} (R : Room A 12) (q0 : Nat) {x : List Nat} {q : Nat} (hq : q ∈ [685, 687, 689, 691]) (hx : ∀ n ∈ x, n ∈ Sg) (hl : x.length ≤ sizeLine) :
    StA (cx0 g A (d_787 g.w.params) L f) (qR (encD q0) q x [] 0 0) (exec f787s (callEnvC (d_787 g.w.params) L f)) (qs787 q0 q x x) .next := by
  have Z : Zok (z787 g.w.params orcA nS nT nL) 12 g A (callEnvC (d_787 g.w.params) L f) := Zok.of H.z (fn787 _).kind R (by decide) (orcA_ok H)
  have h := StA.for (c := cx0 g A (d_787 g.w.params) L f) (st := f787s) (a := .str x) (ds := x.map fun n => .str [n]) (fun i => qs787 q0 q x (x.take i)) for787_is (by kernel_rfl) (EvA.ev Z (ps := []) (by kernel_rfl) trivial)
    (fun S F O s u X r => Iters.str X R.hand r) (by kernel_rfl) (fun i d hd => ?_)
  · rw [List.length_map, List.take_length] at h
    exact h
  · rw [List.getElem?_map] at hd
    obtain ⟨n, hn, rfl⟩ := Option.map_eq_some_iff.mp hd
    have hi : i < x.length := lt_of_getElem? hn
    refine ⟨.next, .inl rfl, ?_⟩
    have t := turn787 (L := L) (f := f) H R q0 x ((x.take i).map fun n => .str (escS (dblOf q) n)) (c34s (x.take i)) (c39s (x.take i)) hq (hx n (List.mem_of_getElem? hn)) (by rw [List.length_map, List.length_take]; omega)
    have e : qs787 q0 q x (x.take (i + 1)) = qR (encD q0) q x (((x.take i).map fun n => .str (escS (dblOf q) n)) ++ [.str (escS (dblOf q) n)]) (c34 n (c34s (x.take i))) (c39 n (c39s (x.take i))) := by
      unfold qs787 c34s c39s
      rw [List.take_add_one, hn]
      simp only [Option.toList_some, List.map_append, List.map_cons, List.map_nil, List.foldl_append, List.foldl_cons, List.foldl_nil]
    show StA _ (upd "ch" (.val (.str [n])) (qs787 q0 q x (x.take i))) _ _ _
    rw [e]
    exact t
end J5
end
section
open PySem PySem.W PySem.W.X PyProof.Rows Builtin J5
set_option Elab.async false
set_option maxRecDepth 100000
set_option linter.unusedVariables false
namespace J5
def quoS (dbl : Bool) (x : List Nat) : List Nat := joinL [] (x.map (escS dbl))
def res787 (dbl : Bool) (x : List Nat) : List Nat := if dbl then (34 :: quoS dbl x) ++ [34] else (39 :: quoS dbl x) ++ [39]
def spc787 (y : List Nat) : Nat → Nat → Option D := fun l c => if (l == 480 && c == 25) || (l == 481 && c == 21) then some (.str y) else none
def spt787 (b₁ b₂ : Bool) : Nat → Nat → Option Bool := fun l c => if l == 475 && c == 11 then some b₁ else if l == 477 && c == 11 then some b₂ else none
def sst787 (ρ : Rho) : Nat → Rho → Option (Rho × Fl) := fun l _ => if l == 451 then some (ρ, .next) else none
def e475 : Expr := ifT (stAt (fBody [14, 7]) 6)
def e477 : Expr := ifT (stAt (fBody [14, 7]) 7)
def eJ (dbl : Bool) : Expr := if dbl then bnR (bnL (rtE (stAt (ifB (stAt (fBody [14, 7]) 8)) 0))) else bnR (bnL (rtE (stAt (fBody [14, 7]) 9)))
def cond1 (q : Nat) (x : List Nat) : Bool := decide (c34s x > c39s x) && (q == 689)
def cond2 (q : Nat) (x : List Nat) : Bool := decide (c39s x > c34s x) && (q == 691)
theorem e475_is : e475 = .BoolOp .And [boN 0 e475, boN 1 e475] e475.pos := by kernel_rfl
theorem e477_is : e477 = .BoolOp .And [boN 0 e477, boN 1 e477] e477.pos := by kernel_rfl
section
variable {g : Gd} {A : Around} {L f : Addr}
theorem t475 (H : G3 g) (R : Room A 12) (q0 : Nat) {q : Nat} (x : List Nat) (hq : q ∈ [685, 687, 689, 691]) : TrA (cx0 g A (d_787 g.w.params) L f) (qs787 q0 q x x) e475 (cond1 q x) := by
  have Z : Zok (z787 g.w.params orcA nS nT nL) 12 g A (callEnvC (d_787 g.w.params) L f) := Zok.of H.z (fn787 _).kind R (by decide) (orcA_ok H)
  rw [e475_is]
  refine TrA.and2 (TrA.ev Z (ps := []) (by kernel_rfl) trivial) fun _ => ?_
  refine TrA.ev Z (ps := []) ?_ trivial
  simp only [List.mem_cons, List.not_mem_nil, or_false] at hq
  rcases hq with rfl | rfl | rfl | rfl <;> kernel_rfl
theorem t477 (H : G3 g) (R : Room A 12) (q0 : Nat) {q : Nat} (x : List Nat) (hq : q ∈ [685, 687, 689, 691]) : TrA (cx0 g A (d_787 g.w.params) L f) (qs787 q0 q x x) e477 (cond2 q x) := by
  have Z : Zok (z787 g.w.params orcA nS nT nL) 12 g A (callEnvC (d_787 g.w.params) L f) := Zok.of H.z (fn787 _).kind R (by decide) (orcA_ok H)
  rw [e477_is]
  refine TrA.and2 (TrA.ev Z (ps := []) (by kernel_rfl) trivial) fun _ => ?_
  refine TrA.ev Z (ps := []) ?_ trivial
  simp only [List.mem_cons, List.not_mem_nil, or_false] at hq
  rcases hq with rfl | rfl | rfl | rfl <;> kernel_rfl
/- the frame behind the loop, with ret no more own -/
def qf787 (q0 q : Nat) (x : List Nat) : Rho := [("self", .val (encD q0)), ("obj", .val (.str x)), ("quote_style", .val (.at (.ref q))), ("ret", .val (.list (x.map fun n => .str (escS (dblOf q) n)))), ("double_quotes_seen", .val (.int (c34s x))), ("single_quotes_seen", .val (.int (c39s x))), ("sq", .val (.str [39])), ("dq", .val (.str [34]))]
theorem esc_len (dbl : Bool) (n : Nat) : (escS dbl n).length ≤ 6 := by
  unfold escS esc0
  repeat' split
  all_goals simp
theorem sum_le {l : List Nat} {B : Nat} (h : ∀ k ∈ l, k ≤ B) : l.sum ≤ l.length * B := by
  induction l with
  | nil => exact Nat.zero_le _
  | cons a l ih =>
    rw [List.sum_cons, List.length_cons, Nat.succ_mul]
    have := ih fun k hk => h k (List.mem_cons_of_mem _ hk)
    have := h a List.mem_cons_self
    omega
theorem join_len : ∀ (xs : List (List Nat)), (joinL [] xs).length = (xs.map List.length).sum
  | [] => rfl
  | [x] => by simp [joinL]
  | x :: y :: r => by
    have := join_len (y :: r)
    show (x ++ [] ++ joinL [] (y :: r)).length = _
    rw [List.length_append, List.length_append, this]; simp
theorem quo_len (dbl : Bool) (x : List Nat) : (quoS dbl x).length ≤ x.length * 6 := by
  unfold quoS
  rw [join_len, List.map_map]
  have := sum_le (l := x.map (List.length ∘ escS dbl)) (B := 6) (fun k hk => by
    obtain ⟨n, _, rfl⟩ := List.mem_map.mp hk
    exact esc_len dbl n)
  simpa using this
theorem j787 (H : G3 g) (R : Room A 12) (q0 : Nat) {q : Nat} {x : List Nat} (hq : q ∈ [685, 687, 689, 691]) (hl : x.length ≤ 1000) : EvA (cx0 g A (d_787 g.w.params) L f) (qf787 q0 q x) (eJ (dblOf q)) (.str (quoS (dblOf q) x)) := by
  have Z : Zok (z787 g.w.params orcA nS nT nL) 12 g A (callEnvC (d_787 g.w.params) L f) := Zok.of H.z (fn787 _).kind R (by decide) (orcA_ok H)
  have hz : ((x.map (escS (dblOf q))).map List.length).sum + (x.map (escS (dblOf q))).length * ([] : List Nat).length ≤ sizeLine := by
    have := quo_len (dblOf q) x
    unfold quoS at this
    rw [join_len] at this
    rw [List.length_nil, Nat.mul_zero, sizeLine_eq]
    omega
  have e : (x.map fun n => D.str (escS (dblOf q) n)) = (x.map (escS (dblOf q))).map .str := by rw [List.map_map]; rfl
  cases hd : dblOf q with
  | true =>
    rw [hd] at hz e
    refine EvA.joinList Z (by kernel_rfl) (by kernel_rfl) (by kernel_rfl) (by kernel_rfl) (EvA.ev Z (ps := []) (by kernel_rfl) trivial) ?_ hz
    unfold qf787
    rw [hd, ← e]
    exact EvA.ev Z (ps := []) (by kernel_rfl) trivial
  | false =>
    rw [hd] at hz e
    refine EvA.joinList Z (by kernel_rfl) (by kernel_rfl) (by kernel_rfl) (by kernel_rfl) (EvA.ev Z (ps := []) (by kernel_rfl) trivial) ?_ hz
    unfold qf787
    rw [hd, ← e]
    exact EvA.ev Z (ps := []) (by kernel_rfl) trivial
end
def ps787 (g : Gd) (q0 q : Nat) (x : List Nat) (A : Around) (L f : Addr) : List Prop :=
  [StA (cx0 g A (d_787 g.w.params) L f) (qR (encD q0) q x [] 0 0) (exec f787s (callEnvC (d_787 g.w.params) L f)) (qs787 q0 q x x) .next,
   TrA (cx0 g A (d_787 g.w.params) L f) (qs787 q0 q x x) e475 false, TrA (cx0 g A (d_787 g.w.params) L f) (qs787 q0 q x x) e477 false, 2 ≤ sizeLine,
   EvA (cx0 g A (d_787 g.w.params) L f) (qf787 q0 q x) (eJ (dblOf q)) (.str (quoS (dblOf q) x)), (quoS (dblOf q) x).length + 1 ≤ sizeLine, ((if dblOf q then (34 :: quoS (dblOf q) x) ++ [34] else (39 :: quoS (dblOf q) x) ++ [39]).length) ≤ sizeLine]
theorem c787a {g : Gd} (H : G3 g) (q0 : Nat) {q : Nat} {x : List Nat} (hq : q ∈ [685, 687, 689, 691]) (hx : ∀ n ∈ x, n ∈ Sg) (hl : x.length ≤ 1000) (h1 : cond1 q x = false) (h2 : cond2 q x = false) :
    CallOk g 13 (.ref 787) [encD q0, .str x, .at (.ref q)] [] [] (.str (res787 (dblOf q) x)) := by
  refine CallOk.ev H.z (fn787 _) (by decide) [("self", encD q0), ("obj", .str x), ("quote_style", .at (.ref q))] (by kernel_rfl) (by kernel_rfl) (by kernel_rfl) orcA (spc787 (quoS (dblOf q) x)) (spt787 false false) (sst787 (qs787 q0 q x x)) (orcA_ok H) (ps787 g q0 q x) _ (.inl rfl) ?_ ?_
  · intro A L f
    simp only [List.mem_cons, List.not_mem_nil, or_false] at hq
    rcases hq with rfl | rfl | rfl | rfl <;> kernel_rfl
  · intro A L f R
    have hz := quo_len (dblOf q) x
    refine ⟨loop787 H R q0 hq hx (by rw [sizeLine_eq]; omega), h1 ▸ t475 H R q0 x hq, h2 ▸ t477 H R q0 x hq, by decide, j787 H R q0 hq hl, by rw [sizeLine_eq]; omega, ?_, trivial⟩
    rw [sizeLine_eq]
    generalize dblOf q = b at hz ⊢
    cases b <;> simp <;> omega
end J5
end
section
open PySem PySem.W PySem.W.X PyProof.Rows Builtin J5
set_option Elab.async false
set_option maxRecDepth 100000
set_option linter.unusedVariables false
namespace J5
/- which style an encoder has -/
def selfQ : D → Option Nat
  | .inst _ _ [_, _, _, _, _, _, _, _, _, _, _, _, .at (.ref q)] => some q
  | _ => none
def okTxt (x : List Nat) : Prop := (∀ n ∈ x, n ∈ Sg) ∧ x.length ≤ 1000
def orcS (f : Nat) (k : Nat → List D → List Str → List D → Zs D) : Orc := fun v as ns ks => match v with
  | .ref a => if a == f then (match as with
    | self :: rest => (match selfQ self with
      | some q0 => (match k q0 rest ns ks with
        | some (ps, d) => some ((self = encD q0) :: ps, d)
        | none => none)
      | none => none)
    | _ => none) else none
  | _ => none
theorem orcS_ok {g : Gd} {f n : Nat} {k : Nat → List D → List Str → List D → Zs D} (h : ∀ q0 rest ns ks ps d, k q0 rest ns ks = some (ps, d) → All ps → CallOk g n (.ref f) (encD q0 :: rest) ns ks d) : Snd g n (orcS f k) := by
  intro v as ns ks ps d e hp
  unfold orcS at e
  split at e
  · split at e
    · rename_i ha
      rw [beq_iff_eq] at ha
      split at e
      · split at e
        · split at e
          · rename_i ps' d' hk
            cases e
            rw [ha, hp.1]
            exact h _ _ _ _ _ _ hk hp.2
          · cases e
        · cases e
      · cases e
    · cases e
  · cases e
def oQa : Orc := orcS 787 fun q0 as ns ks => match as, ns, ks with
  | [.str x, .at (.ref q)], [], [] => if q == 685 || q == 687 then some ([okTxt x], .str (res787 (dblOf q) x)) else none
  | _, _, _ => none
theorem oQa_ok {g : Gd} (H : G3 g) : Snd g 13 oQa := by
  refine orcS_ok fun q0 as ns ks ps d h hp => ?_
  split at h
  · split at h
    · rename_i hc
      simp only [Bool.or_eq_true, beq_iff_eq] at hc
      cases h
      obtain ⟨h2, _⟩ := hp
      rcases hc with rfl | rfl
      · exact c787a H _ (by simp) h2.1 h2.2 (by unfold cond1; simp) (by unfold cond2; simp)
      · exact c787a H _ (by simp) h2.1 h2.2 (by unfold cond1; simp) (by unfold cond2; simp)
    · cases h
  · cases h
def full787 (q : Nat) (x : List Nat) : List Nat := if cond1 q x then res787 false x else if cond2 q x then res787 true x else res787 (dblOf q) x
theorem c787 {g : Gd} (H : G3 g) (q0 : Nat) {q : Nat} {x : List Nat} (hq : q ∈ [685, 687, 689, 691]) (hx : okTxt x) : CallOk g 14 (.ref 787) [encD q0, .str x, .at (.ref q)] [] [] (.str (full787 q x)) := by
  have hz : x.length ≤ sizeLine := by rw [sizeLine_eq]; have := hx.2; omega
  unfold full787
  cases h1 : cond1 q x with
  | true =>
    have hq' : q = 689 := by unfold cond1 at h1; simp at h1; exact h1.2
    subst hq'
    simp only [if_true]
    refine CallOk.ev H.z (fn787 _) (by decide) [("self", encD q0), ("obj", .str x), ("quote_style", .at (.ref 689))] (by kernel_rfl) (by kernel_rfl) (by kernel_rfl) (orcOr orcA oQa) nS (spt787 true false) (sst787 (qs787 q0 689 x x)) ((Snd.up (orcA_ok H) (by decide)).or (oQa_ok H))
      (fun A L f => [StA (cx0 g A (d_787 g.w.params) L f) (qR (encD q0) 689 x [] 0 0) (exec f787s (callEnvC (d_787 g.w.params) L f)) (qs787 q0 689 x x) .next, TrA (cx0 g A (d_787 g.w.params) L f) (qs787 q0 689 x x) e475 true, encD q0 = encD q0, okTxt x]) _ (.inl rfl) (by intro A L f; kernel_rfl) ?_
    intro A L f R
    have R' : Room A 12 := ⟨by have := R.units; omega, by have := R.depth; omega, R.hand⟩
    exact ⟨loop787 H R' q0 hq hx.1 hz, h1 ▸ t475 H R' q0 x hq, rfl, hx, trivial⟩
  | false =>
    simp only [Bool.false_eq_true, if_false]
    cases h2 : cond2 q x with
    | true =>
      have hq' : q = 691 := by unfold cond2 at h2; simp at h2; exact h2.2
      subst hq'
      simp only [if_true]
      refine CallOk.ev H.z (fn787 _) (by decide) [("self", encD q0), ("obj", .str x), ("quote_style", .at (.ref 691))] (by kernel_rfl) (by kernel_rfl) (by kernel_rfl) (orcOr orcA oQa) nS (spt787 false true) (sst787 (qs787 q0 691 x x)) ((Snd.up (orcA_ok H) (by decide)).or (oQa_ok H))
        (fun A L f => [StA (cx0 g A (d_787 g.w.params) L f) (qR (encD q0) 691 x [] 0 0) (exec f787s (callEnvC (d_787 g.w.params) L f)) (qs787 q0 691 x x) .next, TrA (cx0 g A (d_787 g.w.params) L f) (qs787 q0 691 x x) e475 false, TrA (cx0 g A (d_787 g.w.params) L f) (qs787 q0 691 x x) e477 true, encD q0 = encD q0, okTxt x]) _ (.inl rfl) (by intro A L f; kernel_rfl) ?_
      intro A L f R
      have R' : Room A 12 := ⟨by have := R.units; omega, by have := R.depth; omega, R.hand⟩
      exact ⟨loop787 H R' q0 hq hx.1 hz, h1 ▸ t475 H R' q0 x hq, h2 ▸ t477 H R' q0 x hq, rfl, hx, trivial⟩
    | false =>
      simp only [Bool.false_eq_true, if_false]
      exact (c787a H q0 hq hx.1 hx.2 h1 h2).up (by decide)
def oQ : Orc := orcS 787 fun q0 as ns ks => match as, ns, ks with
  | [.str x, .at (.ref q)], [], [] => some ([q ∈ [685, 687, 689, 691], okTxt x], .str (full787 q x))
  | _, _, _ => none
theorem oQ_ok {g : Gd} (H : G3 g) : Snd g 14 oQ := by
  refine orcS_ok fun q0 as ns ks ps d h hp => ?_
  split at h
  · cases h
    exact c787 H _ hp.1 hp.2.1
  · cases h
end J5
end
section
open PySem PySem.W PySem.W.X PyProof.Rows Builtin J5
set_option Elab.async false
set_option maxRecDepth 100000
set_option linter.unusedVariables false
namespace J5
theorem slot_re_match : PySem.Slot "re.Pattern" "match" "re.Pattern.match" :=
  .of (owner := "re.Pattern") (n := "match") (by rw [typeLookup_type, builtinLookup_eq_fast]; kernel_rfl) (by decide +kernel) (by decide +kernel) (by decide +kernel)
    (by first | exact .inl (by decide +kernel) | exact .inr (by decide +kernel)) (by rw [isSubtype_type]; kernel_rfl)
theorem entry_re_match : entryFor table "re.Pattern.match" = some Builtin.«re.Pattern.match» := entryFor_of_tree (by kernel_rfl)
theorem args_re_match (a b : Value) : argsOk "re.Pattern.match" ⟨[a, b], []⟩ := by unfold argsOk; kernel_rfl
theorem plainAttrs_re : PlainAttrs "re.Pattern" :=
  ⟨⟨"object.__getattribute__", by rw [typeLookup_type, builtinLookup_eq_fast]; kernel_rfl, by decide +kernel⟩, by rw [typeLookup_type, builtinLookup_eq_fast]; kernel_rfl⟩
theorem type_re_match : typeOf (.builtin "re.Pattern.match") = pure (.type "method_descriptor") := by show builtinType _ = _; rw [builtinType_eq_fast]; kernel_rfl
def code72 (P : Params) : Array Value := match (f72 P).data with
  | .seq xs _ => xs
  | _ => #[]
theorem f72_is (P : Params) : f72 P = { cls := .type "tuple", data := .seq (code72 P) } := by kernel_rfl
theorem k73 (P : Params) : (KQ P).lookup 73 = some (f73 P) := by kernel_rfl
theorem k72 (P : Params) : (KQ P).lookup 72 = some (f72 P) := by kernel_rfl
def code3 (P : Params) : Array Nat := ((code72 P).toList.map fun v => (Builtin.Re.reRawOf v).toNat).toArray
theorem code3_is (P : Params) : ((code72 P).map Builtin.Re.reRawOf).map (·.toNat) = code3 P := by
  unfold code3
  rw [Array.map_map]
  apply Array.ext'
  rw [Array.toList_map]
  rfl
def m0 (P : Params) : Sre.M := Sre.forMatch (code3 P) #[97] 1 0 1 false false
theorem m0_failed (P : Params) : ((m0 P).runFor Builtin.Re.reTurnSteps).outcome = some .failed := by kernel_rfl
theorem runToEnd_failed {M : Model} {A : Around} {E : Value → Shared → Prop} {s : Shared} {m : Sre.M} {Q : Option Sre.M → Shared → Prop} (h : (m.runFor Builtin.Re.reTurnSteps).outcome = some .failed) (q : Q none s) : wpAny M A (Builtin.Re.reRunToEnd m) Q E s := by
  unfold Builtin.Re.reRunToEnd
  have hd : Builtin.Re.reDrive (2 ^ 64) m = pure (m.runFor Builtin.Re.reTurnSteps) := by
    show Builtin.Re.reDrive (18446744073709551615 + 1) m = _
    unfold Builtin.Re.reDrive
    dsimp only
    rw [if_pos (by rw [h]; rfl)]
  rw [hd]
  refine wpAny_bind (wpAny_pure ?_)
  refine wpAny_bind (wpAny_mono (Q := fun _ s' => s' = s) ?_ ?_ fun _ _ z => z)
  · refine wpAny_forIn_list _ (fun _ _ s' => s' = s) _ ?_ ?_ _ _ rfl
    · rintro i rest b s' rfl
      split
      · exact wpAny_bind (wpAny_rule (wpAny_pure rfl))
      · exact wpAny_pure rfl
    · rintro b s' rfl; rfl
  · rintro _ s' rfl
    rw [h]
    exact wpAny_pure q
theorem re_body {g : Gd} (H : G3 g) {A : Around} {E : Value → Shared → Prop} {s : Shared} {t : Tok} {R : Fin → Shared → Prop} (B : Bs g s) (q : R (.done (.ret .none)) s) : wpAny g.M A (Builtin.«re.Pattern.match» ⟨[.ref 73, .str (S? [97]) t], []⟩) R E s := by
  have h73 : s.heap.get? 73 = some (f73 g.w.params) := B.K H.z.G _ _ (by rw [H.z.K]; exact k73 _)
  have h72 : s.heap.get? 72 = some { cls := .type "tuple", data := .seq (code72 g.w.params) } := by rw [← f72_is]; exact B.K H.z.G _ _ (by rw [H.z.K]; exact k72 _)
  unfold Builtin.«re.Pattern.match» Builtin.Re.reTarget
  refine wpAny_bind ?_
  dsimp only
  refine wpAny_bind (wpAny_of_eq (a := [some (.str (S? [97]) t), none, none]) (by kernel_rfl) ?_)
  dsimp only
  refine wpAny_bind (wpAny_pure ?_)
  refine wpAny_bind (wpAny_pure ?_)
  refine wpAny_bind (wpAny_fieldsOf h73 rfl ?_)
  refine wpAny_bind (wpAny_of_eq (a := (#[97], 0)) (by kernel_rfl) ?_)
  rw [if_neg (by decide), if_neg (by decide)]
  refine wpAny_bind (wpAny_of_eq (a := ()) (by kernel_rfl) ?_)
  refine wpAny_bind ?_
  unfold Builtin.Re.reRawItems
  refine wpAny_bind ?_
  show wpAny _ _ (load 72 >>= _) _ _ s
  refine wpAny_bind (wpAny_load h72 (wpAny_pure ?_))
  refine wpAny_pure (wpAny_pure ?_)
  rw [Option.getD_some, code3_is]
  unfold Builtin.Re.reAnswer
  refine wpAny_bind (runToEnd_failed (m0_failed g.w.params) ?_)
  exact wpAny_pure q
theorem Mth.re {c : Cx} (G : Gok c.g) {P : Params} (h : c.g.K = KQ P) : Mth c (.at (.ref 73)) "match" (.builtin "re.Pattern.match") := by
  intro s X u r pl Q E q
  cases r
  have h73 : s.heap.get? 73 = some (f73 P) := X.bs.K G _ _ (by rw [h]; exact k73 P)
  exact getMethod_builtin (T := "re.Pattern") ⟨_, h73, rfl⟩ plainAttrs_re slot_re_match type_re_match (fun a e => by cases e; exact ⟨_, h73, rfl⟩) q
theorem CallOk.re {g : Gd} (H : G3 g) : CallOk g 1 (.builtin "re.Pattern.match") [.at (.ref 73), .str [97]] [] [] .none := by
  intro A S s us kvs R B hS hz ra rk
  cases ra with
  | cons q1 rn =>
    cases rn with
    | cons q2 rn =>
      cases rn; cases rk
      cases q1
      cases q2 with
      | str _ t =>
        intro Q E q
        have h73 : s.heap.get? 73 = some (f73 g.w.params) := B.K H.z.G _ _ (by rw [H.z.K]; exact k73 _)
        refine wpAny_call (codeAny_call_builtin slot_re_match.plain entry_re_match (slot_re_match.check _ _ _ _ _ _ _ _ ⟨_, h73, rfl⟩ (args_re_match _ _) ?_))
        exact re_body H B (q _ s B (Kp.refl s) .none)
/- is_reserved_word('a') -/
def e850 : Expr := match rtE (stAt (fBody [14, 16]) 0) with
  | .Compare l _ _ _ => l
  | e => e
theorem c850 {g : Gd} (H : G3 g) (self : D) : CallOk g 13 (.ref 850) [self, .str [97]] [] [] (.bool false) := by
  refine CallOk.ev H.z (fn850 _) (by decide) [("self", self), ("key", .str [97])] (by kernel_rfl) (by kernel_rfl) (by kernel_rfl) noOrc (fun l c => if l == (clP e850).line && c == (clP e850).col then some .none else none) nT nL noOrc_ok
    (fun A L f => [EvA (cx0 g A (d_850 g.w.params) L f) [("self", .val self), ("key", .val (.str [97]))] e850 .none]) _ (.inl rfl) (by intro A L f; kernel_rfl) (fun A L f R => ⟨?_, trivial⟩)
  have Z : Zok (mkZ (KQ g.w.params) (glQ g.w.params) (d_850 g.w.params).scope noOrc nS nT nL) 12 g A (callEnvC (d_850 g.w.params) L f) := Zok.of H.z (fn850 _).kind R (by decide) noOrc_ok
  intro S F O
  have he : e850 = .Call (.Attribute (clO e850) "match" (clAp e850)) [clA e850] [] (clP e850) := by kernel_rfl
  have h1 : EvA (cx0 g A (d_850 g.w.params) L f) [("self", .val self), ("key", .val (.str [97]))] (clO e850) (.at (.ref 73)) := EvA.ev Z (ps := []) (by kernel_rfl) trivial
  have h2 : EvA (cx0 g A (d_850 g.w.params) L f) [("self", .val self), ("key", .val (.str [97]))] (clA e850) (.str [97]) := EvA.ev Z (ps := []) (by kernel_rfl) trivial
  have hn : noStar (clA e850) = true := by kernel_rfl
  rw [he]
  exact Ev.method (n := 1) H.z.G ⟨by have := R.units; show A.units + _ < _; omega, by have := R.depth; show A.depth + _ < _; omega, R.hand⟩ (h1 S F O) (Mth.re H.z.G H.z.K) .builtin (by rw [List.all_cons, hn]; rfl) (Evs.cons hn (h2 S F O) Evs.nil) Kws.nil (CallOk.re H) (attrBase_ok (by kernel_rfl)) (by kernel_rfl) (show 1 + 0 < 29 by decide)
/- is_identifier -/
def f829s : Stmt := stAt (fBody [14, 13]) 1
theorem for829_is : f829s = .For (.Name "ch" (forTp f829s)) (forIt f829s) (forBd f829s) [] (forPs f829s) := by kernel_rfl
def kR (self : D) (x : List Nat) : Rho := [("self", .val self), ("key", .val (.str x))]
section
variable {g : Gd} {A : Around} {L f : Addr}
theorem turn829 (H : G3 g) (R : Room A 12) (q0 : Nat) (x : List Nat) {n : Nat} (hn : n ∈ Sg) (hs : isStart n = true) :
    StA (cx0 g A (d_829 g.w.params) L f) (upd "ch" (.val (.str [n])) (kR (encD q0) x)) (execs (forBd f829s) (callEnvC (d_829 g.w.params) L f)) (kR (encD q0) x) .next := by
  have Z : Zok (mkZ (KQ g.w.params) (glQ g.w.params) (d_829 g.w.params).scope orcA nS nT nL) 12 g A (callEnvC (d_829 g.w.params) L f) := Zok.of H.z (fn829 _).kind R (by decide) (orcA_ok H)
  refine StA.cut 2 Z (ps := [True]) ?_ ⟨trivial, trivial⟩
  simp only [Sg, List.mem_cons, List.not_mem_nil, or_false] at hn
  rcases hn with rfl | rfl | rfl | rfl | rfl | rfl | rfl | rfl <;> first | (cases hs; done) | kernel_rfl
theorem last829 (H : G3 g) (R : Room A 12) (q0 : Nat) (x : List Nat) {n : Nat} (hn : n ∈ Sg) (hs : isStart n = false) :
    StA (cx0 g A (d_829 g.w.params) L f) (upd "ch" (.val (.str [n])) (kR (encD q0) x)) (execs (forBd f829s) (callEnvC (d_829 g.w.params) L f)) (kR (encD q0) x) (.ret (.bool false)) := by
  have Z : Zok (mkZ (KQ g.w.params) (glQ g.w.params) (d_829 g.w.params).scope orcA nS nT nL) 12 g A (callEnvC (d_829 g.w.params) L f) := Zok.of H.z (fn829 _).kind R (by decide) (orcA_ok H)
  refine StA.cut 2 Z (ps := [True, 2 ≤ sizeLine]) ?_ ⟨trivial, by decide, trivial⟩
  simp only [Sg, List.mem_cons, List.not_mem_nil, or_false] at hn
  rcases hn with rfl | rfl | rfl | rfl | rfl | rfl | rfl | rfl <;> first | (cases hs; done) | kernel_rfl
theorem loop829 (H : G3 g) (R : Room A 12) (q0 : Nat) {n : Nat} {r : List Nat} (hx : ∀ m ∈ r, m ∈ Sg) (hl : r.length + 1 ≤ sizeLine) (he : ∃ m ∈ r, isStart m = false) :
    StA (cx0 g A (d_829 g.w.params) L f) (kR (encD q0) (n :: r)) (exec f829s (callEnvC (d_829 g.w.params) L f)) (kR (encD q0) (n :: r)) (.ret (.bool false)) := by
  have Z : Zok (mkZ (KQ g.w.params) (glQ g.w.params) (d_829 g.w.params).scope orcA nS nT nL) 12 g A (callEnvC (d_829 g.w.params) L f) := Zok.of H.z (fn829 _).kind R (by decide) (orcA_ok H)
  have hk : r.findIdx (fun m => !isStart m) < r.length := by
    rw [List.findIdx_lt_length]
    obtain ⟨m, h1, h2⟩ := he
    exact ⟨m, h1, by rw [h2]; rfl⟩
  have hk2 : isStart (r[r.findIdx (fun m => !isStart m)]) = false := by
    have := List.findIdx_getElem (xs := r) (p := fun m => !isStart m) (w := hk)
    simpa using this
  refine StA.forRet (c := cx0 g A (d_829 g.w.params) L f) (st := f829s) (a := .str r) (ds := r.map fun n => .str [n]) (d₁ := .str [r[r.findIdx (fun m => !isStart m)]]) (r.findIdx fun m => !isStart m) (fun _ => kR (encD q0) (n :: r)) for829_is (by kernel_rfl)
    (EvA.ev Z (ps := [1 ≤ r.length + 1, r.length + 1 ≤ sizeLine]) (by kernel_rfl) ⟨by omega, hl, trivial⟩) (fun S F O s u X rr => Iters.str X R.hand rr) (by kernel_rfl) (fun i d hi hd => ?_) ?_ ?_
  · rw [List.getElem?_map] at hd
    obtain ⟨m, hm, rfl⟩ := Option.map_eq_some_iff.mp hd
    refine ⟨.next, .inl rfl, turn829 H R q0 _ (hx m (List.mem_of_getElem? hm)) ?_⟩
    have := List.not_of_lt_findIdx hi
    obtain ⟨h1, h2⟩ := List.getElem?_eq_some_iff.mp hm
    rw [h2] at this
    simpa using this
  · rw [List.getElem?_map, List.getElem?_eq_getElem hk]; rfl
  · exact last829 H R q0 _ (hx _ (List.getElem_mem _)) hk2
end
def sst829 (ρ : Rho) (fl : Fl) : Nat → Rho → Option (Rho × Fl) := fun l _ => if l == (forPs f829s).line then some (ρ, fl) else none
theorem c829 {g : Gd} (H : G3 g) (q0 : Nat) {x : List Nat} (hx : okTxt x) (he : ∃ m ∈ x, isStart m = false) : CallOk g 13 (.ref 829) [encD q0, .str x] [] [] (.bool false) := by
  cases x with
  | nil => obtain ⟨_, h, _⟩ := he; cases h
  | cons n r =>
    have hz : r.length + 1 ≤ sizeLine := by rw [sizeLine_eq]; have := hx.2; rw [List.length_cons] at this; omega
    have hn := hx.1 n List.mem_cons_self
    cases hs : isStart n with
    | false =>
      refine CallOk.ev H.z (fn829 _) (by decide) [("self", encD q0), ("key", .str (n :: r))] (by kernel_rfl) (by kernel_rfl) (by kernel_rfl) orcA nS nT nL (orcA_ok H) (fun A L f => [r.length + 1 ≤ sizeLine, (0 : Int) < 2 ^ 63, True, (0 : Int) < 2 ^ 63, 2 ≤ sizeLine]) _ (.inl rfl) ?_ (fun A L f R => ⟨hz, by decide, trivial, by decide, by decide, trivial⟩)
      simp only [Sg, List.mem_cons, List.not_mem_nil, or_false] at hn
      intro A L f
      rcases hn with rfl | rfl | rfl | rfl | rfl | rfl | rfl | rfl <;> first | (cases hs; done) | kernel_rfl
    | true =>
      have he' : ∃ m ∈ r, isStart m = false := by
        obtain ⟨m, h1, h2⟩ := he
        rcases List.mem_cons.mp h1 with rfl | h1
        · rw [hs] at h2; cases h2
        · exact ⟨m, h1, h2⟩
      refine CallOk.ev H.z (fn829 _) (by decide) [("self", encD q0), ("key", .str (n :: r))] (by kernel_rfl) (by kernel_rfl) (by kernel_rfl) orcA nS nT (sst829 (kR (encD q0) (n :: r)) (.ret (.bool false))) (orcA_ok H)
        (fun A L f => [r.length + 1 ≤ sizeLine, (0 : Int) < 2 ^ 63, True, StA (cx0 g A (d_829 g.w.params) L f) (kR (encD q0) (n :: r)) (exec f829s (callEnvC (d_829 g.w.params) L f)) (kR (encD q0) (n :: r)) (.ret (.bool false))]) _ (.inl rfl) ?_
        (fun A L f R => ⟨hz, by decide, trivial, loop829 H R q0 (fun m hm => hx.1 m (List.mem_cons_of_mem _ hm)) hz he', trivial⟩)
      simp only [Sg, List.mem_cons, List.not_mem_nil, or_false] at hn
      intro A L f
      rcases hn with rfl | rfl | rfl | rfl | rfl | rfl | rfl | rfl <;> first | (cases hs; done) | kernel_rfl
end J5
end
section
open PySem PySem.W PySem.W.X PyProof.Rows Builtin J5
set_option Elab.async false
set_option maxRecDepth 100000
set_option linter.unusedVariables false
namespace J5
/- the name a -/
theorem c829a {g : Gd} (H : G3 g) (q0 : Nat) : CallOk g 13 (.ref 829) [encD q0, .str [97]] [] [] (.bool true) := by
  refine CallOk.ev H.z (fn829 _) (by decide) [("self", encD q0), ("key", .str [97])] (by kernel_rfl) (by kernel_rfl) (by kernel_rfl) orcA nS nT (sst829 (kR (encD q0) [97]) .next) (orcA_ok H)
    (fun A L f => [1 ≤ sizeLine, (0 : Int) < 2 ^ 63, True, StA (cx0 g A (d_829 g.w.params) L f) (kR (encD q0) [97]) (exec f829s (callEnvC (d_829 g.w.params) L f)) (kR (encD q0) [97]) .next]) _ (.inl rfl) (by intro A L f; kernel_rfl)
    (fun A L f R => ⟨by decide, by decide, trivial, ?_, trivial⟩)
  have Z : Zok (mkZ (KQ g.w.params) (glQ g.w.params) (d_829 g.w.params).scope orcA nS nT nL) 12 g A (callEnvC (d_829 g.w.params) L f) := Zok.of H.z (fn829 _).kind R (by decide) (orcA_ok H)
  exact StA.for (c := cx0 g A (d_829 g.w.params) L f) (st := f829s) (a := .str []) (ds := []) (fun _ => kR (encD q0) [97]) for829_is (by kernel_rfl) (EvA.ev Z (ps := [1 ≤ 1, 1 ≤ sizeLine]) (by kernel_rfl) ⟨by decide, by decide, trivial⟩) (fun S F O s u X rr => Iters.str (x := []) X R.hand rr) (by kernel_rfl) (fun i d hd => by cases hd)
def oI : Orc := orcS 829 fun q0 as ns ks => match as, ns, ks with
  | [.str x], [], [] => some ([okTxt x, ∃ m ∈ x, isStart m = false], .bool false)
  | _, _, _ => none
theorem oI_ok {g : Gd} (H : G3 g) : Snd g 13 oI := by
  refine orcS_ok fun q0 as ns ks ps d h hp => ?_
  split at h
  · cases h; exact c829 H q0 hp.1 hp.2.1
  · cases h
def oIa : Orc := orcOr (orcS 829 fun q0 as ns ks => match as, ns, ks with
  | [.str [97]], [], [] => some ([], .bool true)
  | _, _, _ => none) (orcS 850 fun q0 as ns ks => match as, ns, ks with
  | [.str [97]], [], [] => some ([], .bool false)
  | _, _, _ => none)
theorem oIa_ok {g : Gd} (H : G3 g) : Snd g 13 oIa := by
  refine Snd.or (orcS_ok fun q0 as ns ks ps d h hp => ?_) (orcS_ok fun q0 as ns ks ps d h hp => ?_)
  · split at h
    · cases h; exact c829a H q0
    · cases h
  · split at h
    · cases h; exact c850 H _
    · cases h
/- texts -/
def qOk (q : Nat) : Prop := q ∈ [685, 687, 689, 691]
theorem c780v {g : Gd} (H : G3 g) {q0 : Nat} (hq : qOk q0) {x : List Nat} (hx : okTxt x) : CallOk g 15 (.ref 780) [encD q0, .str x] ["as_key"] [.bool false] (.str (full787 q0 x)) :=
  CallOk.ev H.z (fn780 _) (by decide) [("self", encD q0), ("obj", .str x), ("as_key", .bool false)] (by kernel_rfl) (by kernel_rfl) (by kernel_rfl) oQ nS nT nL (oQ_ok H) (fun A L f => [True, encD q0 = encD q0, qOk q0, okTxt x]) _ (.inl rfl) (by intro A L f; kernel_rfl) (fun A L f R => ⟨trivial, rfl, hq, hx, trivial⟩)
theorem c780k {g : Gd} (H : G3 g) {q0 : Nat} (hq : qOk q0) {x : List Nat} (hx : okTxt x) (he : ∃ m ∈ x, isStart m = false) : CallOk g 15 (.ref 780) [encD q0, .str x] ["as_key"] [.bool true] (.str (full787 q0 x)) :=
  CallOk.ev H.z (fn780 _) (by decide) [("self", encD q0), ("obj", .str x), ("as_key", .bool true)] (by kernel_rfl) (by kernel_rfl) (by kernel_rfl) (orcOr oI oQ) nS nT nL (Snd.or (Snd.up (oI_ok H) (by decide)) (oQ_ok H)) (fun A L f => [True, encD q0 = encD q0, okTxt x, ∃ m ∈ x, isStart m = false, True, encD q0 = encD q0, qOk q0, okTxt x]) _ (.inl rfl) (by intro A L f; kernel_rfl) (fun A L f R => ⟨trivial, rfl, hx, he, trivial, rfl, hq, hx, trivial⟩)
theorem c780a {g : Gd} (H : G3 g) (q0 : Nat) : CallOk g 15 (.ref 780) [encD q0, .str [97]] ["as_key"] [.bool true] (.str [97]) :=
  CallOk.ev H.z (fn780 _) (by decide) [("self", encD q0), ("obj", .str [97]), ("as_key", .bool true)] (by kernel_rfl) (by kernel_rfl) (by kernel_rfl) oIa nS nT nL (Snd.up (oIa_ok H) (by decide)) (fun A L f => [True, encD q0 = encD q0, True, True, encD q0 = encD q0, True]) _ (.inl rfl) (by intro A L f; kernel_rfl) (fun A L f R => ⟨trivial, rfl, trivial, trivial, rfl, trivial, trivial⟩)
end J5
end
section
open PySem PySem.W PySem.W.X PyProof.Rows Builtin J5
set_option Elab.async false
set_option maxRecDepth 100000
set_option linter.unusedVariables false
namespace J5
/- one call, told ahead -/
def orcEq (f : Nat) (as₀ : List D) (ns₀ : List Str) (ks₀ : List D) (d : D) : Orc := fun v as ns ks => match v with
  | .ref a => if a == f then some ([as = as₀, ns = ns₀, ks = ks₀], d) else none
  | _ => none
theorem orcEq_ok {g : Gd} {n f : Nat} {as₀ : List D} {ns₀ : List Str} {ks₀ : List D} {d : D} (h : CallOk g n (.ref f) as₀ ns₀ ks₀ d) : Snd g n (orcEq f as₀ ns₀ ks₀ d) := by
  intro v as ns ks ps d' e hp
  unfold orcEq at e
  split at e
  · split at e
    · rename_i ha
      rw [beq_iff_eq] at ha
      cases e
      rw [ha, hp.1, hp.2.1, hp.2.2.1]
      exact h
    · cases e
  · cases e
section
variable {g : Gd} {q0 : Nat} {x y : List Nat} {b : Bool}
theorem c759s (H : G3 g) (h : CallOk g 15 (.ref 780) [encD q0, .str x] ["as_key"] [.bool b] (.str y)) : CallOk g 16 (.ref 759) [encD q0, .str x] ["as_key"] [.bool b] (.str y) :=
  CallOk.ev H.z (fn759 _) (by decide) [("self", encD q0), ("obj", .str x), ("as_key", .bool b)] (by kernel_rfl) (by kernel_rfl) (by kernel_rfl) (orcEq 780 [encD q0, .str x] ["as_key"] [.bool b] (.str y)) nS nT nL (orcEq_ok h)
    (fun A L f => [True, [encD q0, .str x] = [encD q0, .str x], (["as_key"] : List Str) = (["as_key"] : List Str), [D.bool b] = [.bool b]]) _ (.inl rfl) (by intro A L f; kernel_rfl) (fun A L f R => ⟨trivial, rfl, rfl, rfl, trivial⟩)
theorem c752s (H : G3 g) {l : Int} (h : CallOk g 16 (.ref 759) [encD q0, .str x] ["as_key"] [.bool b] (.str y)) : CallOk g 17 (.ref 752) [encD q0, .str x, .set [], .int l] ["as_key"] [.bool b] (.str y) :=
  CallOk.ev H.z (fn752 _) (by decide) [("self", encD q0), ("obj", .str x), ("seen", .set []), ("level", .int l), ("as_key", .bool b)] (by kernel_rfl) (by kernel_rfl) (by kernel_rfl) (orcEq 759 [encD q0, .str x] ["as_key"] [.bool b] (.str y)) nS nT nL (orcEq_ok h)
    (fun A L f => [0 ≤ sizeLine, [encD q0, .str x] = [encD q0, .str x], (["as_key"] : List Str) = (["as_key"] : List Str), [D.bool b] = [.bool b]]) _ (.inl rfl) (by intro A L f; kernel_rfl) (fun A L f R => ⟨by decide, rfl, rfl, rfl, trivial⟩)
theorem c752sk (H : G3 g) {l : Int} (h : CallOk g 16 (.ref 759) [encD q0, .str x] ["as_key"] [.bool b] (.str y)) : CallOk g 17 (.ref 752) [encD q0, .str x] ["seen", "level", "as_key"] [.set [], .int l, .bool b] (.str y) :=
  CallOk.ev H.z (fn752 _) (by decide) [("self", encD q0), ("obj", .str x), ("seen", .set []), ("level", .int l), ("as_key", .bool b)] (by kernel_rfl) (by kernel_rfl) (by kernel_rfl) (orcEq 759 [encD q0, .str x] ["as_key"] [.bool b] (.str y)) nS nT nL (orcEq_ok h)
    (fun A L f => [0 ≤ sizeLine, [encD q0, .str x] = [encD q0, .str x], (["as_key"] : List Str) = (["as_key"] : List Str), [D.bool b] = [.bool b]]) _ (.inl rfl) (by intro A L f; kernel_rfl) (fun A L f R => ⟨by decide, rfl, rfl, rfl, trivial⟩)
/- texts as values, as keys, and the name a -/
theorem eV (H : G3 g) (hq : qOk q0) (hx : okTxt x) (l : Int) : CallOk g 17 (.ref 752) [encD q0, .str x, .set [], .int l] ["as_key"] [.bool false] (.str (full787 q0 x)) := c752s H (c759s H (c780v H hq hx))
theorem eVk (H : G3 g) (hq : qOk q0) (hx : okTxt x) (l : Int) : CallOk g 17 (.ref 752) [encD q0, .str x] ["seen", "level", "as_key"] [.set [], .int l, .bool false] (.str (full787 q0 x)) := c752sk H (c759s H (c780v H hq hx))
theorem eK (H : G3 g) (hq : qOk q0) (hx : okTxt x) (he : ∃ m ∈ x, isStart m = false) (l : Int) : CallOk g 17 (.ref 752) [encD q0, .str x, .set [], .int l] ["as_key"] [.bool true] (.str (full787 q0 x)) := c752s H (c759s H (c780k H hq hx he))
theorem eA (H : G3 g) (q0 : Nat) (l : Int) : CallOk g 17 (.ref 752) [encD q0, .str [97], .set [], .int l] ["as_key"] [.bool true] (.str [97]) := c752s H (c759s H (c780a H q0))
/- what is no basic thing -/
theorem c759l (H : G3 g) (ds : List D) : CallOk g 16 (.ref 759) [encD q0, .list ds] ["as_key"] [.bool false] .none :=
  CallOk.ev H.z (fn759 _) (by decide) [("self", encD q0), ("obj", .list ds), ("as_key", .bool false)] (by kernel_rfl) (by kernel_rfl) (by kernel_rfl) noOrc nS nT nL noOrc_ok
    (fun A L f => [True, True, True]) _ (.inl rfl) (by intro A L f; kernel_rfl) (fun A L f R => ⟨trivial, trivial, trivial, trivial⟩)
theorem c759d (H : G3 g) (ks vs : List D) : CallOk g 16 (.ref 759) [encD q0, .dict ks vs] ["as_key"] [.bool false] .none :=
  CallOk.ev H.z (fn759 _) (by decide) [("self", encD q0), ("obj", .dict ks vs), ("as_key", .bool false)] (by kernel_rfl) (by kernel_rfl) (by kernel_rfl) noOrc nS nT nL noOrc_ok
    (fun A L f => [True, True, True]) _ (.inl rfl) (by intro A L f; kernel_rfl) (fun A L f R => ⟨trivial, trivial, trivial, trivial⟩)
/- no indent -/
theorem c822 (H : G3 g) (l : Int) : CallOk g 12 (.ref 822) [encD q0, .int l] [] [] (.tup [.str [], .str []]) :=
  CallOk.ev H.z (fn822 _) (by decide) [("self", encD q0), ("level", .int l)] (by kernel_rfl) (by kernel_rfl) (by kernel_rfl) noOrc nS nT nL noOrc_ok
    (fun A L f => [2 ≤ sizeLine]) _ (.inl rfl) (by intro A L f; kernel_rfl) (fun A L f R => ⟨by decide, trivial⟩)
end
end J5
end
section
open PySem PySem.W PySem.W.X PyProof.Rows Builtin J5
set_option Elab.async false
set_option maxRecDepth 100000
set_option linter.unusedVariables false
namespace J5
/- arrays of three texts -/
def e815 : Expr := bnR (bnL (bnL (rtE (stAt (fBody [14, 11]) 3))))
def r815 (q0 : Nat) (l : Int) (ds : List D) : Rho := [("self", .val (encD q0)), ("obj", .val (.list ds)), ("seen", .val (.set [])), ("level", .val (.int l)), ("indent_str", .val (.str [])), ("end_str", .val (.str [])), ("item_sep", .val (.str [44, 32]))]
def rc815 (q0 : Nat) (l : Int) : Rho := [("self", .val (encD q0)), ("seen", .val (.set [])), ("level", .val (.int l))]
theorem e815_is : e815 = .Call (.Attribute (clO e815) "join" (clAp e815)) [.GeneratorExp (geE (clA e815)) [⟨.Name "el" (geC (clA e815)).target.pos, (geC (clA e815)).iter, [], 0⟩] (geS (clA e815)) (geP (clA e815))] [] (clP e815) := by kernel_rfl
theorem res_len (b : Bool) (x : List Nat) : (res787 b x).length ≤ x.length * 6 + 2 := by
  have := quo_len b x
  unfold res787
  cases b <;> simp <;> omega
theorem full_len (q : Nat) (x : List Nat) : (full787 q x).length ≤ x.length * 6 + 2 := by
  unfold full787
  split
  · exact res_len _ _
  split
  · exact res_len _ _
  · exact res_len _ _
section
variable {g : Gd} {A : Around} {L f : Addr} {q0 : Nat}
theorem j815 (H : G3 g) (R : Room A 21) (hq : qOk q0) (l : Int) {xs : List (List Nat)} (hx : ∀ x ∈ xs, okTxt x) (hl : xs.length ≤ 100) : EvA (cx0 g A (d_815 g.w.params) L f) (r815 q0 l (xs.map .str)) e815 (.str (joinL [44, 32] (xs.map (full787 q0)))) := by
  have Z : Zok (mkZ (KQ g.w.params) (glQ g.w.params) (d_815 g.w.params).scope noOrc nS nT nL) 21 g A (callEnvC (d_815 g.w.params) L f) := Zok.of H.z (fn815 _).kind R (by decide) noOrc_ok
  refine EvA.joinGen (x := "el") (a := .list (xs.map .str)) (ds := xs.map .str) (ρc := rc815 q0 l) (n := 18) (cc := 814) (P := 810) H.z.G H.HB R e815_is (by kernel_rfl) (by kernel_rfl) (EvA.ev Z (ps := []) (by kernel_rfl) trivial) (EvA.ev Z (ps := []) (by kernel_rfl) trivial) (fun S F O s u X r => ItersA.list X r) (by simp) (by rw [List.length_map, sizeLine_eq]; omega) ?_
    (by kernel_rfl) (by kernel_rfl) (by kernel_rfl) (by kernel_rfl) (by kernel_rfl) (by kernel_rfl) (fun L' code p hp => ?_) (by kernel_rfl) (by kernel_rfl) (by show (814, 810) ∈ g.T; rw [H.T]; simp [tabs3]) (fun A' R' i d y hd hy L' code => ?_) (by kernel_rfl) (by kernel_rfl)
  · have h1 := sum_le (l := (xs.map (full787 q0)).map List.length) (B := 6002) (fun k hk => by
      rw [List.map_map] at hk
      obtain ⟨x, hx', rfl⟩ := List.mem_map.mp hk
      have h1 := full_len q0 x
      have h2 := (hx x hx').2
      show (full787 q0 x).length ≤ 6002
      omega)
    rw [List.length_map, List.length_map] at h1
    rw [List.length_map, sizeLine_eq]
    show _ + xs.length * 2 ≤ _
    omega
  · simp only [rc815, List.mem_cons, List.not_mem_nil, or_false] at hp
    rcases hp with rfl | rfl | rfl
    · exact ⟨_, L + 1, rfl, by kernel_rfl, by kernel_rfl, by kernel_rfl, by kernel_rfl, .inr ⟨by kernel_rfl, by kernel_rfl⟩⟩
    · exact ⟨_, L + 2, rfl, by kernel_rfl, by kernel_rfl, by kernel_rfl, by kernel_rfl, .inr ⟨by kernel_rfl, by kernel_rfl⟩⟩
    · exact ⟨_, L + 3, rfl, by kernel_rfl, by kernel_rfl, by kernel_rfl, by kernel_rfl, .inr ⟨by kernel_rfl, by kernel_rfl⟩⟩
  · rw [List.getElem?_map] at hd hy
    obtain ⟨x, hxi, rfl⟩ := Option.map_eq_some_iff.mp hd
    rw [hxi] at hy
    cases hy
    have hxo := hx x (List.mem_of_getElem? hxi)
    have Z' : Zok (mkG (KQ g.w.params) (glQ g.w.params) (geS (clA e815)).names (orcEq 752 [encD q0, .str x, .set [], .int l] ["as_key"] [.bool false] (.str (full787 q0 x))) nS nT nL) 18 g A' (genEnv (geS (clA e815)) (clPs (callEnvC (d_815 g.w.params) L f).cells (geS (clA e815)).names []) L' code builtinsNs (callEnvC (d_815 g.w.params) L f)) :=
      Zok.env (env := genEnv (geS (clA e815)) (clPs (callEnvC (d_815 g.w.params) L f).cells (geS (clA e815)).names []) L' code builtinsNs (callEnvC (d_815 g.w.params) L f)) H.z (by kernel_rfl) R' (by decide) (orcEq_ok ((eV H hq hxo l).up (by decide)))
    exact EvA.ev Z' (ps := [[encD q0, .str x, .set [], .int l] = [encD q0, .str x, .set [], .int l], (["as_key"] : List Str) = (["as_key"] : List Str), [D.bool false] = [.bool false]]) (by kernel_rfl) ⟨rfl, rfl, rfl, trivial⟩
end
def spcAt (e : Expr) (d : D) : Nat → Nat → Option D := fun l c => if l == (clP e).line && c == (clP e).col then some d else none
def arr3 (q : Nat) (x y z : List Nat) : List Nat := [91] ++ [] ++ joinL [44, 32] [full787 q x, full787 q y, full787 q z] ++ [] ++ [93]
theorem join_le (sep : List Nat) : ∀ xs : List (List Nat), (joinL sep xs).length ≤ (xs.map List.length).sum + xs.length * sep.length
  | [] => Nat.zero_le _
  | [x] => by simp [joinL]
  | x :: y :: r => by
    have := join_le sep (y :: r)
    show (x ++ sep ++ joinL sep (y :: r)).length ≤ _
    simp only [List.length_append, List.map_cons, List.sum_cons, List.length_cons, Nat.succ_mul] at this ⊢
    omega
theorem c815 {g : Gd} (H : G3 g) {q0 : Nat} (hq : qOk q0) (l : Int) {x y z : List Nat} (hx : okTxt x) (hy : okTxt y) (hz : okTxt z) : CallOk g 22 (.ref 815) [encD q0, .list [.str x, .str y, .str z], .set [], .int l] [] [] (.str (arr3 q0 x y z)) := by
  refine CallOk.ev H.z (fn815 _) (by decide) [("self", encD q0), ("obj", .list [.str x, .str y, .str z]), ("seen", .set []), ("level", .int l)] (by kernel_rfl) (by kernel_rfl) (by kernel_rfl) (orcEq 822 [encD q0, .int l] [] [] (.tup [.str [], .str []])) (spcAt e815 (.str (joinL [44, 32] [full787 q0 x, full787 q0 y, full787 q0 z]))) nT nL (orcEq_ok ((c822 H l).up (by decide)))
    (fun A L f => [3 ≤ sizeLine, [encD q0, .int l] = [encD q0, .int l], ([] : List Str) = [], ([] : List D) = [], 2 ≤ sizeLine, 1 ≤ sizeLine, EvA (cx0 g A (d_815 g.w.params) L f) (r815 q0 l [.str x, .str y, .str z]) e815 (.str (joinL [44, 32] [full787 q0 x, full787 q0 y, full787 q0 z])), (joinL [44, 32] [full787 q0 x, full787 q0 y, full787 q0 z]).length + 1 ≤ sizeLine, ([91] ++ [] ++ joinL [44, 32] [full787 q0 x, full787 q0 y, full787 q0 z] ++ []).length ≤ sizeLine, (arr3 q0 x y z).length ≤ sizeLine]) _ (.inl rfl) (by intro A L f; kernel_rfl) (fun A L f R => ?_)
  have hj := join_le [44, 32] [full787 q0 x, full787 q0 y, full787 q0 z]
  have h1 := full_len q0 x
  have h2 := full_len q0 y
  have h3 := full_len q0 z
  have i1 := hx.2
  have i2 := hy.2
  have i3 := hz.2
  simp only [List.map_cons, List.map_nil, List.sum_cons, List.sum_nil, List.length_cons, List.length_nil] at hj
  refine ⟨by decide, rfl, rfl, rfl, by decide, by decide, j815 H R hq l (xs := [x, y, z]) (fun w hw => ?_) (by simp), ?_, ?_, ?_, trivial⟩
  · simp only [List.mem_cons, List.not_mem_nil, or_false] at hw
    rcases hw with rfl | rfl | rfl <;> assumption
  · rw [sizeLine_eq]; omega
  · rw [sizeLine_eq]; simp only [List.length_append, List.length_cons, List.length_nil]; omega
  · unfold arr3; rw [sizeLine_eq]; simp only [List.length_append, List.length_cons, List.length_nil]; omega
end J5
end
section
open PySem PySem.W PySem.W.X PyProof.Rows Builtin J5
set_option Elab.async false
set_option maxRecDepth 100000
set_option linter.unusedVariables false
namespace J5
/- objects of two members, the other one's key a -/
def orcKV (f : Nat) (as₁ : List D) (d₁ : D) (as₂ : List D) (d₂ : D) : Orc := fun v as ns ks => match v with
  | .ref a => if a == f then (match ks with
    | [.bool true] => some ([as = as₁, ns = (["as_key"] : List Str)], d₁)
    | [.bool false] => some ([as = as₂, ns = (["as_key"] : List Str)], d₂)
    | _ => none) else none
  | _ => none
theorem orcKV_ok {g : Gd} {n f : Nat} {as₁ as₂ : List D} {d₁ d₂ : D} (h₁ : CallOk g n (.ref f) as₁ ["as_key"] [.bool true] d₁) (h₂ : CallOk g n (.ref f) as₂ ["as_key"] [.bool false] d₂) : Snd g n (orcKV f as₁ d₁ as₂ d₂) := by
  intro v as ns ks ps d e hp
  unfold orcKV at e
  split at e
  · split at e
    · rename_i ha
      rw [beq_iff_eq] at ha
      split at e
      · cases e; rw [ha, hp.1, hp.2.1]; exact h₁
      · cases e; rw [ha, hp.1, hp.2.1]; exact h₂
      · cases e
    · cases e
  · cases e
def f808s : Stmt := stAt (fBody [14, 10]) 8
theorem for808_is : f808s = .For (.Name "key" (forTp f808s)) (forIt f808s) (forBd f808s) [] (forPs f808s) := by kernel_rfl
def eSub : Expr := clA (rtE (stAt (forBd f808s) 3))
def sbV : Expr → Expr
  | .Subscript v _ _ => v
  | e => e
def sbS : Expr → Expr
  | .Subscript _ s _ => s
  | e => e
def spcP (e : Expr) (d : D) : Nat → Nat → Option D := fun l c => if l == e.pos.line && c == e.pos.col then some d else none
def r808 (q0 : Nat) (l : Int) (ks vs : List D) (s : List Nat) (fk : Bool) : Rho := [("self", .val (encD q0)), ("obj", .val (.dict ks vs)), ("seen", .val (.set [])), ("level", .val (.int l)), ("indent_str", .val (.str [])), ("end_str", .val (.str [])), ("item_sep", .val (.str [44, 32])), ("kv_sep", .val (.str [58, 32])), ("keys", .val (.keys ks vs)), ("s", .val (.str s)), ("first_key", .val (.bool fk)), ("new_keys", .val (.set []))]
theorem eSub_is : eSub = .Subscript (sbV eSub) (sbS eSub) eSub.pos := by kernel_rfl
theorem EvA.sub {z : Zx} {c : Cx} {ρ : Rho} {n : Nat} {e : Expr} {a b d : D} (Z : Zok z n c.g c.A c.env) (he : e = .Subscript (sbV e) (sbS e) e.pos) (hs : isSl (sbS e) = false) (h₁ : EvA c ρ (sbV e) a) (h₂ : EvA c ρ (sbS e) b) (hg : getD a b = some (True, d)) : EvA c ρ e d := by
  intro S F O
  rw [he]
  exact Ev.sub (h₁ S F O) (h₂ S F O) hg trivial (subscripted_ok hs)
def kk808 (k y : List Nat) : Rho := [("key", .val (.str k)), ("key_str", .val (.str y))]
def add808 (s y w : List Nat) (fk : Bool) : List Nat := (if fk then s else s ++ [44, 32]) ++ ((y ++ [58, 32]) ++ w)
section
variable {g : Gd} {A : Around} {L f : Addr} {q0 : Nat}
theorem turn808 (H : G3 g) (R : Room A 18) (l : Int) {ks vs : List D} {s k v y w : List Nat} (fk : Bool) (hk : CallOk g 17 (.ref 752) [encD q0, .str k, .set [], .int l] ["as_key"] [.bool true] (.str y)) (hv : CallOk g 17 (.ref 752) [encD q0, .str v, .set [], .int l] ["as_key"] [.bool false] (.str w))
    (hlk : lookD k ks vs = some (.str v)) (hz : s.length + 2 + y.length + 2 + w.length ≤ sizeLine) :
    StA (cx0 g A (d_808 g.w.params) L f) (upd "key" (.val (.str k)) (r808 q0 l ks vs s fk)) (execs (forBd f808s) (callEnvC (d_808 g.w.params) L f)) (r808 q0 l ks vs (add808 s y w fk) false) .next := by
  have Z : Zok (mkZ (KQ g.w.params) (glQ g.w.params) (d_808 g.w.params).scope (orcKV 752 [encD q0, .str k, .set [], .int l] (.str y) [encD q0, .str v, .set [], .int l] (.str w)) (spcP eSub (.str v)) nT nL) 18 g A (callEnvC (d_808 g.w.params) L f) :=
    Zok.of H.z (fn808 _).kind R (by decide) (Snd.up (orcKV_ok hk hv) (by decide))
  have hg : getD (.dict ks vs) (.str k) = some (True, .str v) := by
    show (match lookD k ks vs with | some d => ok d | none => none) = _
    rw [hlk]; rfl
  have Z0 : Zok (mkZ (KQ g.w.params) (glQ g.w.params) (d_808 g.w.params).scope noOrc nS nT nL) 18 g A (callEnvC (d_808 g.w.params) L f) := Zok.of H.z (fn808 _).kind R (by decide) noOrc_ok
  have hsub : ∀ s' : List Nat, EvA (cx0 g A (d_808 g.w.params) L f) (r808 q0 l ks vs s' false ++ kk808 k y) eSub (.str v) := fun s' =>
    EvA.sub Z0 eSub_is (by kernel_rfl) (EvA.ev Z0 (ps := []) (by kernel_rfl) trivial) (EvA.ev Z0 (ps := []) (by kernel_rfl) trivial) hg
  cases fk with
  | true =>
    refine StA.cut 12 Z (ps := [[encD q0, .str k, .set [], .int l] = [encD q0, .str k, .set [], .int l], (["as_key"] : List Str) = (["as_key"] : List Str), True, True, EvA (cx0 g A (d_808 g.w.params) L f) (r808 q0 l ks vs s false ++ kk808 k y) eSub (.str v),
      [encD q0, .str v, .set [], .int l] = [encD q0, .str v, .set [], .int l], (["as_key"] : List Str) = (["as_key"] : List Str), (y ++ [58, 32]).length ≤ sizeLine, (y ++ [58, 32] ++ w).length ≤ sizeLine, (s ++ (y ++ [58, 32] ++ w)).length ≤ sizeLine]) (by kernel_rfl) ⟨rfl, rfl, trivial, trivial, hsub s, rfl, rfl, ?_, ?_, ?_, trivial⟩
    all_goals simp only [List.length_append, List.length_cons, List.length_nil]; omega
  | false =>
    refine StA.cut 12 Z (ps := [[encD q0, .str k, .set [], .int l] = [encD q0, .str k, .set [], .int l], (["as_key"] : List Str) = (["as_key"] : List Str), True, True, (s ++ [44, 32]).length ≤ sizeLine, EvA (cx0 g A (d_808 g.w.params) L f) (r808 q0 l ks vs (s ++ [44, 32]) false ++ kk808 k y) eSub (.str v),
      [encD q0, .str v, .set [], .int l] = [encD q0, .str v, .set [], .int l], (["as_key"] : List Str) = (["as_key"] : List Str), (y ++ [58, 32]).length ≤ sizeLine, (y ++ [58, 32] ++ w).length ≤ sizeLine, (s ++ [44, 32] ++ (y ++ [58, 32] ++ w)).length ≤ sizeLine]) (by kernel_rfl) ⟨rfl, rfl, trivial, trivial, ?_, hsub _, rfl, rfl, ?_, ?_, ?_, trivial⟩
    all_goals simp only [List.length_append, List.length_cons, List.length_nil]; omega
theorem loop808 (H : G3 g) (R : Room A 18) (l : Int) {k v₁ v₂ y₁ w₁ w₂ : List Nat} (hk : CallOk g 17 (.ref 752) [encD q0, .str k, .set [], .int l] ["as_key"] [.bool true] (.str y₁)) (hv : CallOk g 17 (.ref 752) [encD q0, .str v₁, .set [], .int l] ["as_key"] [.bool false] (.str w₁)) (hv' : CallOk g 17 (.ref 752) [encD q0, .str v₂, .set [], .int l] ["as_key"] [.bool false] (.str w₂))
    (hne : k ≠ [97]) (hz : y₁.length ≤ 100000) (hz1 : w₁.length ≤ 100000) (hz2 : w₂.length ≤ 100000) :
    StA (cx0 g A (d_808 g.w.params) L f) (r808 q0 l [.str k, .str [97]] [.str v₁, .str v₂] [123] true) (exec f808s (callEnvC (d_808 g.w.params) L f)) (r808 q0 l [.str k, .str [97]] [.str v₁, .str v₂] (add808 (add808 [123] y₁ w₁ true) [97] w₂ false) false) .next := by
  have Z0 : Zok (mkZ (KQ g.w.params) (glQ g.w.params) (d_808 g.w.params).scope noOrc nS nT nL) 18 g A (callEnvC (d_808 g.w.params) L f) := Zok.of H.z (fn808 _).kind R (by decide) noOrc_ok
  let ρs : Nat → Rho := fun i => match i with
    | 0 => r808 q0 l [.str k, .str [97]] [.str v₁, .str v₂] [123] true
    | 1 => r808 q0 l [.str k, .str [97]] [.str v₁, .str v₂] (add808 [123] y₁ w₁ true) false
    | _ => r808 q0 l [.str k, .str [97]] [.str v₁, .str v₂] (add808 (add808 [123] y₁ w₁ true) [97] w₂ false) false
  refine StA.for (c := cx0 g A (d_808 g.w.params) L f) (st := f808s) (a := .keys [.str k, .str [97]] [.str v₁, .str v₂]) (ds := [.str k, .str [97]]) ρs for808_is (by kernel_rfl) (EvA.ev Z0 (ps := []) (by kernel_rfl) trivial) (fun S F O s u X rr => Iters.keys X R.hand rr) (by kernel_rfl) (fun i d hd => ?_)
  have hkk : (k == [97]) = false := by simpa using hne
  match i, hd with
  | 0, hd =>
    cases hd
    refine ⟨.next, .inl rfl, turn808 H R l true hk hv ?_ (by rw [sizeLine_eq]; simp only [List.length_cons, List.length_nil]; omega)⟩
    unfold lookD; rw [if_pos (beq_self_eq_true k)]
  | 1, hd =>
    cases hd
    refine ⟨.next, .inl rfl, turn808 H R l false (eA H q0 l) hv' ?_ ?_⟩
    · unfold lookD; rw [if_neg (by rw [hkk]; exact Bool.false_ne_true)]; unfold lookD; rfl
    · rw [sizeLine_eq]; simp only [add808, if_true, List.length_append, List.length_cons, List.length_nil]; omega
end
def obj2 (y₁ w₁ w₂ : List Nat) : List Nat := add808 (add808 [123] y₁ w₁ true) [97] w₂ false ++ ([] ++ [125])
theorem c808 {g : Gd} (H : G3 g) {q0 : Nat} (l : Int) {k v₁ v₂ y₁ w₁ w₂ : List Nat} (hk : CallOk g 17 (.ref 752) [encD q0, .str k, .set [], .int l] ["as_key"] [.bool true] (.str y₁)) (hv : CallOk g 17 (.ref 752) [encD q0, .str v₁, .set [], .int l] ["as_key"] [.bool false] (.str w₁)) (hv' : CallOk g 17 (.ref 752) [encD q0, .str v₂, .set [], .int l] ["as_key"] [.bool false] (.str w₂))
    (hne : k ≠ [97]) (hz : y₁.length ≤ 100000) (hz1 : w₁.length ≤ 100000) (hz2 : w₂.length ≤ 100000) : CallOk g 19 (.ref 808) [encD q0, .dict [.str k, .str [97]] [.str v₁, .str v₂], .set [], .int l] [] [] (.str (obj2 y₁ w₁ w₂)) := by
  refine CallOk.ev H.z (fn808 _) (by decide) [("self", encD q0), ("obj", .dict [.str k, .str [97]] [.str v₁, .str v₂]), ("seen", .set []), ("level", .int l)] (by kernel_rfl) (by kernel_rfl) (by kernel_rfl) (orcEq 822 [encD q0, .int l] [] [] (.tup [.str [], .str []])) nS nT
    (fun n _ => if n == (forPs f808s).line then some (r808 q0 l [.str k, .str [97]] [.str v₁, .str v₂] (add808 (add808 [123] y₁ w₁ true) [97] w₂ false) false, .next) else none) (orcEq_ok ((c822 H l).up (by decide)))
    (fun A L f => [2 ≤ sizeLine, [encD q0, .int l] = [encD q0, .int l], ([] : List Str) = [], ([] : List D) = [], 2 ≤ sizeLine, True, 1 ≤ sizeLine, StA (cx0 g A (d_808 g.w.params) L f) (r808 q0 l [.str k, .str [97]] [.str v₁, .str v₂] [123] true) (exec f808s (callEnvC (d_808 g.w.params) L f)) (r808 q0 l [.str k, .str [97]] [.str v₁, .str v₂] (add808 (add808 [123] y₁ w₁ true) [97] w₂ false) false) .next, 1 ≤ sizeLine, (obj2 y₁ w₁ w₂).length ≤ sizeLine]) _ (.inl rfl) (by intro A L f; kernel_rfl)
    (fun A L f R => ⟨by decide, rfl, rfl, rfl, by decide, trivial, by decide, loop808 H R l hk hv hv' hne hz hz1 hz2, by decide, ?_, trivial⟩)
  rw [sizeLine_eq]
  simp only [obj2, add808, if_true, Bool.false_eq_true, if_false, List.length_append, List.length_cons, List.length_nil]
  omega
end J5
end
section
open PySem PySem.W PySem.W.X PyProof.Rows Builtin J5
set_option Elab.async false
set_option maxRecDepth 100000
set_option linter.unusedVariables false
namespace J5
section
variable {g : Gd} {q0 : Nat} {y : List Nat}
theorem c801l (H : G3 g) {ds : List D} {n : Nat} (hn : 11 ≤ n) (h : CallOk g n (.ref 815) [encD q0, .list ds, .set [], .int 1] [] [] (.str y)) : CallOk g (n + 1) (.ref 801) [encD q0, .list ds, .set [], .int 0] [] [] (.str y) :=
  CallOk.ev H.z (fn801 _) hn [("self", encD q0), ("obj", .list ds), ("seen", .set []), ("level", .int 0)] (by kernel_rfl) (by kernel_rfl) (by kernel_rfl) (orcEq 815 [encD q0, .list ds, .set [], .int 1] [] [] (.str y)) nS nT nL (orcEq_ok h)
    (fun A L f => [True, 2 ≤ sizeLine, True, True, [encD q0, .list ds, .set [], .int 1] = [encD q0, .list ds, .set [], .int 1], ([] : List Str) = [], ([] : List D) = []]) _ (.inl rfl) (by intro A L f; kernel_rfl) (fun A L f R => ⟨trivial, by decide, trivial, trivial, rfl, rfl, rfl, trivial⟩)
theorem c801d (H : G3 g) {ks vs : List D} {n : Nat} (hn : 11 ≤ n) (h : CallOk g n (.ref 808) [encD q0, .dict ks vs, .set [], .int 1] [] [] (.str y)) : CallOk g (n + 1) (.ref 801) [encD q0, .dict ks vs, .set [], .int 0] [] [] (.str y) :=
  CallOk.ev H.z (fn801 _) hn [("self", encD q0), ("obj", .dict ks vs), ("seen", .set []), ("level", .int 0)] (by kernel_rfl) (by kernel_rfl) (by kernel_rfl) (orcEq 808 [encD q0, .dict ks vs, .set [], .int 1] [] [] (.str y)) nS nT nL (orcEq_ok h)
    (fun A L f => [True, True, [encD q0, .dict ks vs, .set [], .int 1] = [encD q0, .dict ks vs, .set [], .int 1], ([] : List Str) = [], ([] : List D) = []]) _ (.inl rfl) (by intro A L f; kernel_rfl) (fun A L f R => ⟨trivial, trivial, rfl, rfl, rfl, trivial⟩)
theorem c752n (H : G3 g) {d : D} {n : Nat} (hn : 16 ≤ n) (h1 : CallOk g 16 (.ref 759) [encD q0, d] ["as_key"] [.bool false] .none) (h : CallOk g n (.ref 801) [encD q0, d, .set [], .int 0] [] [] (.str y)) : CallOk g (n + 1) (.ref 752) [encD q0, d] ["seen", "level", "as_key"] [.set [], .int 0, .bool false] (.str y) :=
  CallOk.ev H.z (fn752 _) (by omega) [("self", encD q0), ("obj", d), ("seen", .set []), ("level", .int 0), ("as_key", .bool false)] (by kernel_rfl) (by kernel_rfl) (by kernel_rfl) (orcOr (orcEq 759 [encD q0, d] ["as_key"] [.bool false] .none) (orcEq 801 [encD q0, d, .set [], .int 0] [] [] (.str y))) nS nT nL (Snd.or (orcEq_ok (h1.up hn)) (orcEq_ok h))
    (fun A L f => [0 ≤ sizeLine, [encD q0, d] = [encD q0, d], (["as_key"] : List Str) = (["as_key"] : List Str), [D.bool false] = [.bool false], True, [encD q0, d, .set [], .int 0] = [encD q0, d, .set [], .int 0], ([] : List Str) = [], ([] : List D) = []]) _ (.inl rfl) (by intro A L f; kernel_rfl) (fun A L f R => ⟨by decide, rfl, rfl, rfl, trivial, rfl, rfl, rfl, trivial⟩)
def kwN : List Str := ["skipkeys", "ensure_ascii", "allow_nan", "indent", "separators", "default", "sort_keys", "quote_keys", "trailing_commas", "allow_duplicate_keys", "quote_style"]
def kwV (q : Nat) : List D := [.bool false, .bool true, .bool true, .none, .none, .none, .bool false, .bool false, .bool true, .bool true, .at (.ref q)]
theorem init738 (H : G3 g) (q : Nat) : InitOk g 12 (d_738 g.w.params) (fBody [14, 0]) "self" (kwN.zip (kwV q)) 853 encNs [.bool false, .bool true, .bool true, .none, .none, .str [44, 32], .str [58, 32], .at (.ref 864), .bool false, .bool false, .bool true, .bool true, .at (.ref q)] := by
  intro A L f Sc F O w₀ a₀ R
  have Z : Zok (mkZ (KQ g.w.params) (glQ g.w.params) (d_738 g.w.params).scope noOrc nS nT nL) 12 g A (callEnvC (d_738 g.w.params) L f) := Zok.of H.z (fn738 _).kind R (by decide) noOrc_ok
  have h := StA.cut (ρ' := [("self", .ini w₀ a₀ (encD q))]) 1 Z (c := cx0 g A (d_738 g.w.params) L f) (ρ := ("self", .ini w₀ a₀ (.inst 853 [] [])) :: frame0 (kwN.zip (kwV q))) (b := fBody [14, 0]) (fl := .next) (ps := [2 ≤ sizeLine, True]) (by kernel_rfl) ⟨by decide, trivial, trivial⟩
  exact ⟨_, by kernel_rfl, h Sc F O⟩
theorem cls853 (P : Params) : ClsAt (KQ P) 853 738 := ⟨by kernel_rfl, by kernel_rfl, by kernel_rfl⟩
theorem c853 (H : G3 g) (q : Nat) : CallOk g 14 (.ref 853) [] kwN (kwV q) (encD q) := by
  refine CallOk.cls H.z.G (H.z.K ▸ cls853 _) (H.z.K ▸ fn738 g.w.params) (self := "self") (bs := kwN.zip (kwV q)) (fun x => ?_) (of_decide_eq_true (by kernel_rfl)) (by kernel_rfl) (by kernel_rfl) (init738 H q)
  rw [H.z.K]
  kernel_rfl
theorem c723 (H : G3 g) {q : Nat} {d : D} {n : Nat} (hn : 14 ≤ n) (h : CallOk g n (.ref 752) [encD q, d] ["seen", "level", "as_key"] [.set [], .int 0, .bool false] (.str y)) : CallOk g (n + 1) (.ref 723) [d] ["quote_style"] [.at (.ref q)] (.str y) :=
  CallOk.ev H.z (fn723 _) (by omega) (("obj", d) :: kwN.zip (kwV q)) (by kernel_rfl) (by kernel_rfl) (by kernel_rfl) (orcOr (orcEq 853 [] kwN (kwV q) (encD q)) (orcEq 752 [encD q, d] ["seen", "level", "as_key"] [.set [], .int 0, .bool false] (.str y))) nS nT nL (Snd.or (orcEq_ok ((c853 H q).up hn)) (orcEq_ok h))
    (fun A L f => [([] : List D) = [], kwN = kwN, kwV q = kwV q, [encD q, d] = [encD q, d], (["seen", "level", "as_key"] : List Str) = (["seen", "level", "as_key"] : List Str), [D.set [], .int 0, .bool false] = [.set [], .int 0, .bool false]]) _ (.inl rfl) (by intro A L f; kernel_rfl) (fun A L f R => ⟨rfl, rfl, rfl, rfl, rfl, rfl, trivial⟩)
end
end J5
end
section
open PySem PySem.W PySem.W.X PyProof.Rows Builtin J5
set_option Elab.async false
set_option maxRecDepth 100000
set_option linter.unusedVariables false
namespace J5
/- dumps -/
section
variable {g : Gd}
theorem dmT (H : G3 g) {q : Nat} (hq : qOk q) {x : List Nat} (hx : okTxt x) : CallOk g 25 (.ref 723) [.str x] ["quote_style"] [.at (.ref q)] (.str (full787 q x)) := (c723 H (by decide) (eVk H hq hx 0)).up (by decide)
theorem dmA (H : G3 g) {q : Nat} (hq : qOk q) {x y z : List Nat} (hx : okTxt x) (hy : okTxt y) (hz : okTxt z) : CallOk g 25 (.ref 723) [.list [.str x, .str y, .str z]] ["quote_style"] [.at (.ref q)] (.str (arr3 q x y z)) :=
  c723 H (by decide) (c752n H (by decide) (c759l H _) (c801l H (by decide) (c815 H hq 1 hx hy hz)))
theorem dmO (H : G3 g) {q : Nat} (hq : qOk q) {k v w : List Nat} (hk : okTxt k) (he : ∃ m ∈ k, isStart m = false) (hv : okTxt v) (hw : okTxt w) : CallOk g 25 (.ref 723) [.dict [.str k, .str [97]] [.str v, .str w]] ["quote_style"] [.at (.ref q)] (.str (obj2 (full787 q k) (full787 q v) (full787 q w))) := by
  have l1 := full_len q k
  have l2 := full_len q v
  have l3 := full_len q w
  have i1 := hk.2
  have i2 := hv.2
  have i3 := hw.2
  refine (c723 (n := 21) H (by decide) (c752n (n := 20) H (by decide) (c759d H _ _) (c801d (n := 19) H (by decide) (c808 H 1 (eK H hq hk he 1) (eV H hq hv 1) (eV H hq hw 1) ?_ (by omega) (by omega) (by omega))))).up (by decide)
  rintro rfl
  obtain ⟨m, h1, h2⟩ := he
  rw [List.mem_singleton.mp h1] at h2
  cases h2
def oD : Orc := fun v as ns ks => match v with
  | .ref a => if a == 723 then (match as, ks with
    | [.str x], [.at (.ref q)] => some ([ns = (["quote_style"] : List Str), qOk q, okTxt x], .str (full787 q x))
    | [.list [.str x, .str y, .str z]], [.at (.ref q)] => some ([ns = (["quote_style"] : List Str), qOk q, okTxt x, okTxt y, okTxt z], .str (arr3 q x y z))
    | [.dict [.str k, .str j] [.str v, .str w]], [.at (.ref q)] => some ([ns = (["quote_style"] : List Str), qOk q, j = [97], okTxt k, ∃ m ∈ k, isStart m = false, okTxt v, okTxt w], .str (obj2 (full787 q k) (full787 q v) (full787 q w)))
    | _, _ => none) else none
  | _ => none
theorem oD_ok (H : G3 g) : Snd g 25 oD := by
  intro v as ns ks ps d e hp
  unfold oD at e
  split at e
  · split at e
    · rename_i ha
      rw [beq_iff_eq] at ha
      split at e
      · cases e; rw [ha, hp.1]; exact dmT H hp.2.1 hp.2.2.1
      · cases e; rw [ha, hp.1]; exact dmA H hp.2.1 hp.2.2.1 hp.2.2.2.1 hp.2.2.2.2.1
      · cases e
        obtain ⟨h1, h2, h3, h4, h5, h6, h7, _⟩ := hp
        rw [ha, h1, h3]; exact dmO H h2 h4 h5 h6 h7
      · cases e
    · cases e
  · cases e
end
/- the law's own text -/
def shE (c n : Nat) : List Nat := if n == 92 then [92, 92] else if n == 10 then [92, 110] else if n == 233 then [92, 117, 48, 48, 101, 57] else if n == c then [92, c] else [n]
def wr (c : Nat) (x : List Nat) : List Nat := ([c] ++ joinL [] (x.map (shE c))) ++ [c]
def e876 : Expr := bnR (bnL (rtE (stAt (fBody [18]) 1)))
def l876 : Expr := clA e876
theorem e876_is : e876 = .Call (.Attribute (clO e876) "join" (clAp e876)) [clA e876] [] (clP e876) := by kernel_rfl
theorem l876_is : l876 = .ListComp (geE l876) [⟨.Name "sign" (geC l876).target.pos, (geC l876).iter, (geC l876).ifs, 0⟩] (geS l876) (geP l876) := by kernel_rfl
def sh876 (c : Nat) : D := .dict [.str [92], .str [10], .str [233], .str [c]] [.str [92, 92], .str [92, 110], .str [92, 117, 48, 48, 101, 57], .str [92, c]]
def r876 (c : Nat) (x : List Nat) : Rho := [("text", .val (.str x)), ("quote", .val (.str [c])), ("short", .val (sh876 c))]
def g876 (c : Nat) : D → D
  | .str [n] => .str (shE c n)
  | _ => .none
section
variable {g : Gd} {A : Around} {L f : Addr}
theorem lc876 (H : G3 g) (R : Room A 12) {c : Nat} (hc : c = 34 ∨ c = 39) {x : List Nat} (hx : okTxt x) : EvA (cx0 g A (d_876 g.w.params) L f) (r876 c x) l876 (.list ((x.map (shE c)).map .str)) := by
  have Z : Zok (mkZ (KQ g.w.params) (glQ g.w.params) (d_876 g.w.params).scope noOrc nS nT nL) 12 g A (callEnvC (d_876 g.w.params) L f) := Zok.of H.z (fn876 _).kind R (by decide) noOrc_ok
  have h := EvA.listcomp (c := cx0 g A (d_876 g.w.params) L f) (ρ := r876 c x) (e := l876) (x := "sign") (a := .str x) (ds := x.map fun n => .str [n]) (fun _ => true) (g876 c) [("short", .val (sh876 c))] H.z.G l876_is (EvA.ev Z (ps := []) (by kernel_rfl) trivial) (fun S F O s u X r => Iters.str X R.hand r) (by rw [List.length_map, sizeLine_eq]; have := hx.2; omega)
    (by kernel_rfl) (by kernel_rfl) (by kernel_rfl) (by kernel_rfl) (by kernel_rfl) (fun L' p hp => ?_) (by kernel_rfl) (fun i d hd L' => ?_) (by kernel_rfl)
  · have e : (((x.map fun n => D.str [n]).filter fun _ => true).map (g876 c)) = (x.map (shE c)).map .str := by
      rw [List.filter_eq_self.mpr (fun _ _ => rfl), List.map_map, List.map_map]; rfl
    rw [e] at h
    exact h
  · simp only [List.mem_cons, List.not_mem_nil, or_false] at hp
    subst hp
    exact ⟨_, L + 1, rfl, by kernel_rfl, by kernel_rfl, by kernel_rfl, by kernel_rfl, .inl (by kernel_rfl)⟩
  · rw [List.getElem?_map] at hd
    obtain ⟨n, hn, rfl⟩ := Option.map_eq_some_iff.mp hd
    refine ⟨fun S F O => ?_, fun _ => ?_⟩
    · have hif : (geC l876).ifs = [] := by kernel_rfl
      rw [hif]
      exact TrAll.nil
    · have hnS := hx.1 n (List.mem_of_getElem? hn)
      have Z' : Zok (mkG (KQ g.w.params) (glQ g.w.params) (compEnvC (geS l876) (clPs (callEnvC (d_876 g.w.params) L f).cells (geS l876).names []) L' (callEnvC (d_876 g.w.params) L f)).scope.names noOrc nS nT nL) 12 g A (compEnvC (geS l876) (clPs (callEnvC (d_876 g.w.params) L f).cells (geS l876).names []) L' (callEnvC (d_876 g.w.params) L f)) :=
        Zok.env H.z (by kernel_rfl) R (by decide) noOrc_ok
      refine EvA.ev Z' (ps := []) ?_ trivial
      simp only [Sg, List.mem_cons, List.not_mem_nil, or_false] at hnS
      rcases hc with rfl | rfl <;> rcases hnS with rfl | rfl | rfl | rfl | rfl | rfl | rfl | rfl <;> kernel_rfl
theorem shE_len (c n : Nat) : (shE c n).length ≤ 6 := by
  unfold shE
  repeat' split
  all_goals simp
theorem j876 (H : G3 g) (R : Room A 12) {c : Nat} (hc : c = 34 ∨ c = 39) {x : List Nat} (hx : okTxt x) : EvA (cx0 g A (d_876 g.w.params) L f) (r876 c x) e876 (.str (joinL [] (x.map (shE c)))) := by
  have Z : Zok (mkZ (KQ g.w.params) (glQ g.w.params) (d_876 g.w.params).scope noOrc nS nT nL) 12 g A (callEnvC (d_876 g.w.params) L f) := Zok.of H.z (fn876 _).kind R (by decide) noOrc_ok
  refine EvA.joinList Z e876_is (by kernel_rfl) (by kernel_rfl) (by kernel_rfl) (EvA.ev Z (ps := []) (by kernel_rfl) trivial) (lc876 H R hc hx) ?_
  have := sum_le (l := (x.map (shE c)).map List.length) (B := 6) (fun k hk => by
    rw [List.map_map] at hk
    obtain ⟨n, _, rfl⟩ := List.mem_map.mp hk
    exact shE_len c n)
  rw [List.length_map, List.length_map] at this
  have h2 := hx.2
  rw [List.length_nil, Nat.mul_zero, sizeLine_eq]
  omega
end
theorem wr_len (c : Nat) (x : List Nat) : (joinL [] (x.map (shE c))).length ≤ x.length * 6 := by
  rw [join_len]
  have := sum_le (l := (x.map (shE c)).map List.length) (B := 6) (fun k hk => by
    rw [List.map_map] at hk
    obtain ⟨n, _, rfl⟩ := List.mem_map.mp hk
    exact shE_len c n)
  rw [List.length_map, List.length_map] at this
  exact this
theorem c876 {g : Gd} (H : G3 g) {c : Nat} (hc : c = 34 ∨ c = 39) {x : List Nat} (hx : okTxt x) : CallOk g 13 (.ref 876) [.str x, .str [c]] [] [] (.str (wr c x)) := by
  refine CallOk.ev H.z (fn876 _) (by decide) [("text", .str x), ("quote", .str [c])] (by kernel_rfl) (by kernel_rfl) (by kernel_rfl) noOrc (spcAt e876 (.str (joinL [] (x.map (shE c))))) nT nL noOrc_ok
    (fun A L f => [2 ≤ sizeLine, [[92], [10], [233], [c]].Nodup, EvA (cx0 g A (d_876 g.w.params) L f) (r876 c x) e876 (.str (joinL [] (x.map (shE c)))), (joinL [] (x.map (shE c))).length + 1 ≤ sizeLine, (wr c x).length ≤ sizeLine]) _ (.inl rfl) (by intro A L f; kernel_rfl) (fun A L f R => ⟨by decide, ?_, j876 H R hc hx, ?_, ?_, trivial⟩)
  · rcases hc with rfl | rfl <;> decide
  · have := wr_len c x; have := hx.2; rw [sizeLine_eq]; omega
  · have := wr_len c x; have := hx.2; rw [sizeLine_eq]; unfold wr; simp only [List.length_append, List.length_cons, List.length_nil]; omega
end J5
end
section
open PySem PySem.W PySem.W.X PyProof.Rows Builtin J5
set_option Elab.async false
set_option maxRecDepth 100000
set_option linter.unusedVariables false
set_option maxHeartbeats 4000000
namespace J5
/- numbers out of the script -/
def scD (ns : List Int) : D := .list (ns.map .int)
def rawN (ns : List Int) (k : Int) : Int := match ns with
  | [] => 0
  | n :: r => ((n :: r)[(k.fmod ((r.length + 1 : Nat) : Int)).toNat]?).getD 0
def lawN (ns : List Int) (k : Int) : Int := rawN ns k + 7 * k
def iexB : Expr → Expr
  | .IfExp _ b _ _ => b
  | e => e
def e871 : Expr := iexB (bnL (rtE (stAt (fBody [17]) 0)))
theorem e871_is : e871 = .Subscript (sbV e871) (sbS e871) e871.pos := by kernel_rfl
theorem EvA.subP {z : Zx} {c : Cx} {ρ : Rho} {n : Nat} {e : Expr} {a b d : D} {p : Prop} (Z : Zok z n c.g c.A c.env) (he : e = .Subscript (sbV e) (sbS e) e.pos) (hs : isSl (sbS e) = false) (h₁ : EvA c ρ (sbV e) a) (h₂ : EvA c ρ (sbS e) b) (hg : getD a b = some (p, d)) (hp : p) : EvA c ρ e d := by
  intro S F O
  rw [he]
  exact Ev.sub (h₁ S F O) (h₂ S F O) hg hp (subscripted_ok hs)
theorem fmod_ok {k m : Int} (hm : 0 < m) : 0 ≤ k.fmod m ∧ k.fmod m < m := ⟨Int.fmod_nonneg_of_pos _ hm, Int.fmod_lt_of_pos _ hm⟩
theorem getD_list {ds : List D} {i : Int} {d : D} (h0 : 0 ≤ i) (h : ds[i.toNat]? = some d) : getD (.list ds) (.int i) = some (i < 2 ^ 63, d) := by
  show (match idxD ds i with | some d => must (i < 2 ^ 63) d | none => none) = _
  unfold idxD
  rw [if_pos h0, h]; rfl
theorem mul7 (k : Int) : IntMulOk 7 k := .of_left (by decide)
theorem c871 {g : Gd} (H : G3 g) {ns : List Int} (hl : ns.length ≤ 63) (k : Int) : CallOk g 12 (.ref 871) [scD ns, .int k] [] [] (.int (lawN ns k)) := by
  cases ns with
  | nil => exact CallOk.ev H.z (fn871 _) (by decide) [("script", scD []), ("place", .int k)] (by kernel_rfl) (by kernel_rfl) (by kernel_rfl) noOrc nS nT nL noOrc_ok (fun A L f => [0 ≤ sizeLine, IntMulOk 7 k, True]) _ (.inl rfl) (by intro A L f; kernel_rfl) (fun A L f R => ⟨by decide, mul7 k, trivial, trivial⟩)
  | cons n r =>
    have hlen : ((n :: r).map D.int).length = r.length + 1 := by simp
    refine CallOk.ev H.z (fn871 _) (by decide) [("script", scD (n :: r)), ("place", .int k)] (by kernel_rfl) (by kernel_rfl) (by kernel_rfl) noOrc (spcP e871 (.int (rawN (n :: r) k))) nT nL noOrc_ok (fun A L f => [((n :: r).map D.int).length ≤ sizeLine, EvA (cx0 g A (d_871 g.w.params) L f) [("script", .val (scD (n :: r))), ("place", .val (.int k))] e871 (.int (rawN (n :: r) k)), IntMulOk 7 k, True]) _ (.inl rfl) (by intro A L f; kernel_rfl) (fun A L f R => ⟨?_, ?_, mul7 k, trivial, trivial⟩)
    · rw [hlen, sizeLine_eq]; rw [List.length_cons] at hl; omega
    · have Z : Zok (mkZ (KQ g.w.params) (glQ g.w.params) (d_871 g.w.params).scope noOrc nS nT nL) 11 g A (callEnvC (d_871 g.w.params) L f) := Zok.of H.z (fn871 _).kind R (by decide) noOrc_ok
      have hm : (0 : Int) < ((r.length + 1 : Nat) : Int) := by omega
      obtain ⟨f0, f1⟩ := fmod_ok (k := k) hm
      have hi : (k.fmod ((r.length + 1 : Nat) : Int)).toNat < (n :: r).length := by rw [List.length_cons]; omega
      refine EvA.subP Z e871_is (by kernel_rfl) (a := scD (n :: r)) (b := .int (k.fmod ((((n :: r).map D.int).length : Nat) : Int))) (EvA.ev Z (ps := []) (by kernel_rfl) trivial) (EvA.ev Z (ps := [((n :: r).map D.int).length ≤ sizeLine, ((((n :: r).map D.int).length : Nat) : Int) ≠ 0]) (by kernel_rfl) ⟨?_, ?_, trivial⟩) (p := k.fmod ((((n :: r).map D.int).length : Nat) : Int) < 2 ^ 63) (getD_list ?_ ?_) ?_
      · rw [hlen, sizeLine_eq]; rw [List.length_cons] at hl; omega
      · rw [hlen]; omega
      · rw [hlen]; exact f0
      · rw [hlen, List.getElem?_map, List.getElem?_eq_getElem hi]
        show some (D.int _) = some (D.int (((n :: r)[(k.fmod ((r.length + 1 : Nat) : Int)).toNat]?).getD 0))
        rw [List.getElem?_eq_getElem hi]; rfl
      · rw [hlen]; rw [List.length_cons] at hl; omega
def oN (ns : List Int) : Orc := fun v as nms ks => match v with
  | .ref a => if a == 871 then (match as with
    | [l, .int k] => some ([l = scD ns, nms = [], ks = []], .int (lawN ns k))
    | _ => none) else none
  | _ => none
theorem oN_ok {g : Gd} (H : G3 g) {ns : List Int} (hl : ns.length ≤ 63) : Snd g 12 (oN ns) := by
  intro v as nms ks ps d e hp
  unfold oN at e
  split at e
  · split at e
    · rename_i ha
      rw [beq_iff_eq] at ha
      split at e
      · cases e
        rw [ha, hp.1, hp.2.1, hp.2.2.1]
        exact c871 H hl _
      · cases e
    · cases e
  · cases e
/- the text out of the script -/
def ten : List Nat := [34, 39, 97, 34, 39, 92, 10, 233, 32, 110]
def sgN (ns : List Int) (k : Int) : Nat := (ten[((((lawN ns (1 + k)).fdiv 2).fmod 10)).toNat]?).getD 34
def cntN (ns : List Int) : Int := (lawN ns 0).fmod 13
def txt (ns : List Int) : List Nat := (List.range (cntN ns - 0).toNat).map fun i : Nat => sgN ns (0 + (i : Int))
def e606 : Expr := rtE (stAt (fBody [19]) 0)
theorem e606_is : e606 = .Call (.Attribute (clO e606) "join" (clAp e606)) [.GeneratorExp (geE (clA e606)) [⟨.Name "k" (geC (clA e606)).target.pos, (geC (clA e606)).iter, [], 0⟩] (geS (clA e606)) (geP (clA e606))] [] (clP e606) := by kernel_rfl
def elt606 : Expr := geE (clA e606)
theorem elt606_is : elt606 = .Subscript (sbV elt606) (sbS elt606) elt606.pos := by kernel_rfl
theorem cnt_ok (ns : List Int) : 0 ≤ cntN ns ∧ cntN ns < 13 := fmod_ok (by decide)
theorem ten_ok (i : Int) : ∃ n, ten[((i.fmod 10)).toNat]? = some n ∧ n ∈ Sg := by
  obtain ⟨h0, h1⟩ := fmod_ok (k := i) (m := 10) (by decide)
  have : (i.fmod 10).toNat < 10 := by omega
  generalize (i.fmod 10).toNat = j at this
  have key : ∀ j : Nat, j < 10 → ∃ n, ten[j]? = some n ∧ n ∈ Sg := by decide
  exact key j this
theorem sgN_ok (ns : List Int) (k : Int) : sgN ns k ∈ Sg := by
  obtain ⟨n, h1, h2⟩ := ten_ok ((lawN ns (1 + k)).fdiv 2)
  unfold sgN
  rw [h1]; exact h2
theorem sum_ones : ∀ l : List Nat, (l.map (List.length ∘ fun n : Nat => [n])).sum = l.length
  | [] => rfl
  | x :: r => by
    rw [List.map_cons, List.sum_cons, sum_ones r, List.length_cons]
    show 1 + r.length = _
    omega
theorem pylong2 (x : Int) : Builtin.divisionGoesByPylong x 2 = false := by
  unfold Builtin.divisionGoesByPylong
  simp only [Bool.and_eq_false_iff]
  left; decide
theorem join_single : ∀ l : List Nat, joinL [] (l.map fun n => [n]) = l
  | [] => rfl
  | [x] => rfl
  | x :: y :: r => by
    have := join_single (y :: r)
    show [x] ++ [] ++ joinL [] ((y :: r).map fun n => [n]) = _
    rw [this]; rfl
section
variable {g : Gd} {A : Around} {L f : Addr}
theorem j606 (H : G3 g) (R : Room A 21) {ns : List Int} (hl : ns.length ≤ 63) : EvA (cx0 g A (d_881 g.w.params) L f) [("script", .val (scD ns))] e606 (.str (txt ns)) := by
  have Z : Zok (mkZ (KQ g.w.params) (glQ g.w.params) (d_881 g.w.params).scope (oN ns) nS nT nL) 21 g A (callEnvC (d_881 g.w.params) L f) := Zok.of H.z (fn881 _).kind R (by decide) (Snd.up (oN_ok H hl) (by decide))
  obtain ⟨c0, c1⟩ := cnt_ok ns
  have h := EvA.joinGen (c := cx0 g A (d_881 g.w.params) L f) (ρ := [("script", .val (scD ns))]) (x := "k") (sep := []) (a := .rng 0 (cntN ns)) (ds := rngL 0 (cntN ns)) (xs := (txt ns).map fun n => [n]) (ρc := [("script", .val (scD ns))]) (n := 18) (cc := 880) (P := 878) H.z.G H.HB R e606_is (by kernel_rfl) (by kernel_rfl) (EvA.ev Z (ps := []) (by kernel_rfl) trivial) (EvA.ev Z (ps := [scD ns = scD ns, ([] : List Str) = [], ([] : List D) = [], (13 : Int) ≠ 0]) (by kernel_rfl) ⟨rfl, rfl, rfl, by decide, trivial⟩)
    (fun S F O s u X r => ItersA.range X (small_one (by decide) (by decide) (by omega) (by omega)) (by rw [rangeSize_one]; split <;> omega) r) (by simp [rngL, txt]) (by simp [rngL]; rw [sizeLine_eq]; omega) ?_
    (by kernel_rfl) (by kernel_rfl) (by kernel_rfl) (by kernel_rfl) (by kernel_rfl) (by kernel_rfl) (fun L' code p hp => ?_) (by kernel_rfl) (by kernel_rfl) (by show (880, 878) ∈ g.T; rw [H.T]; simp [tabs3]) (fun A' R' i d y hd hy L' code => ?_) (by kernel_rfl) (by kernel_rfl)
  · rw [join_single] at h
    exact h
  · have : (((txt ns).map fun n => [n]).map List.length).sum = (txt ns).length := by
      rw [List.map_map]
      exact sum_ones _
    rw [this, List.length_nil, Nat.mul_zero, sizeLine_eq]
    simp only [txt, List.length_map, List.length_range]
    omega
  · simp only [List.mem_cons, List.not_mem_nil, or_false] at hp
    subst hp
    exact ⟨_, L + 1, rfl, by kernel_rfl, by kernel_rfl, by kernel_rfl, by kernel_rfl, .inr ⟨by kernel_rfl, by kernel_rfl⟩⟩
  · unfold rngL at hd
    unfold txt at hy
    rw [List.getElem?_map] at hd
    rw [List.map_map, List.getElem?_map] at hy
    obtain ⟨j, hj, rfl⟩ := Option.map_eq_some_iff.mp hd
    obtain ⟨j', hj', rfl⟩ := Option.map_eq_some_iff.mp hy
    rw [hj] at hj'
    cases hj'
    have Z' : Zok (mkG (KQ g.w.params) (glQ g.w.params) (geS (clA e606)).names (oN ns) nS nT nL) 18 g A' (genEnv (geS (clA e606)) (clPs (callEnvC (d_881 g.w.params) L f).cells (geS (clA e606)).names []) L' code builtinsNs (callEnvC (d_881 g.w.params) L f)) :=
      Zok.env (env := genEnv (geS (clA e606)) (clPs (callEnvC (d_881 g.w.params) L f).cells (geS (clA e606)).names []) L' code builtinsNs (callEnvC (d_881 g.w.params) L f)) H.z (by kernel_rfl) R' (by decide) (Snd.up (oN_ok H hl) (by decide))
    obtain ⟨f0, f1⟩ := fmod_ok (k := (lawN ns (1 + (0 + (j : Int)))).fdiv 2) (m := 10) (by decide)
    have h2 : EvA ⟨g, A', genEnv (geS (clA e606)) (clPs (callEnvC (d_881 g.w.params) L f).cells (geS (clA e606)).names []) L' code builtinsNs (callEnvC (d_881 g.w.params) L f), fun _ => False, fun _ => False, [], fun _ => none⟩ (upd "k" (.val (.int (0 + (j : Int)))) [("script", .val (scD ns))]) (sbS elt606) (.int (((lawN ns (1 + (0 + (j : Int)))).fdiv 2).fmod 10)) := by
      refine EvA.ev Z' (ps := [True, scD ns = scD ns, ([] : List Str) = [], ([] : List D) = [], (2 : Int) ≠ 0 ∧ Builtin.divisionGoesByPylong (lawN ns (1 + (0 + (j : Int)))) 2 = false, (10 : Int) ≠ 0]) (by kernel_rfl) ?_
      have a1 : (2 : Int) ≠ 0 ∧ Builtin.divisionGoesByPylong (lawN ns (1 + (0 + (j : Int)))) 2 = false := ⟨by decide, pylong2 _⟩
      have a2 : (10 : Int) ≠ 0 := by decide
      exact And.intro trivial (And.intro rfl (And.intro rfl (And.intro rfl (And.intro a1 (And.intro a2 trivial)))))
    have h1 : EvA ⟨g, A', genEnv (geS (clA e606)) (clPs (callEnvC (d_881 g.w.params) L f).cells (geS (clA e606)).names []) L' code builtinsNs (callEnvC (d_881 g.w.params) L f), fun _ => False, fun _ => False, [], fun _ => none⟩ (upd "k" (.val (.int (0 + (j : Int)))) [("script", .val (scD ns))]) (sbV elt606) (.list (ten.map fun n => .str [n])) := by
      refine EvA.ev Z' (ps := [10 ≤ sizeLine]) ?_ ?_
      · kernel_rfl
      · exact ⟨by decide, trivial⟩
    have h3 : (ten.map fun n => D.str [n])[(((lawN ns (1 + (0 + (j : Int)))).fdiv 2).fmod 10).toNat]? = some (.str ((fun n => [n]) (sgN ns (0 + (j : Int))))) := by
      obtain ⟨m, hm, hmS⟩ := ten_ok ((lawN ns (1 + (0 + (j : Int)))).fdiv 2)
      rw [List.getElem?_map, hm]
      show some (D.str [m]) = some (.str ((fun n => [n]) (sgN ns (0 + (j : Int)))))
      unfold sgN
      rw [hm]; rfl
    have h4 : ((lawN ns (1 + (0 + (j : Int)))).fdiv 2).fmod 10 < 2 ^ 63 := by omega
    exact EvA.subP (e := elt606) Z' elt606_is (by kernel_rfl) h1 h2 (getD_list f0 h3) h4
end
end J5
end
section
open PySem PySem.W PySem.W.X PyProof.Rows Builtin J5
set_option Elab.async false
set_option maxRecDepth 100000
set_option linter.unusedVariables false
set_option maxHeartbeats 4000000
namespace J5
/- counting quotes -/
def s607t : Stmt := stAt (fBody [19]) 1
def tupN (i : Nat) : Expr → Expr
  | .Tuple es _ _ => es[i]?.getD (.Name "" ⟨0, 0, 0, 0⟩)
  | .List es _ => es[i]?.getD (.Name "" ⟨0, 0, 0, 0⟩)
  | e => e
def lcN (i : Nat) : Expr := clA (tupN i (rtE s607t))
def ifN (i : Nat) : Expr := (geC (lcN i)).ifs[0]?.getD (.Name "" ⟨0, 0, 0, 0⟩)
def isQ (c : Nat) : D → Bool
  | .str y => y == [c]
  | _ => false
def cD (c : Nat) (t : List Nat) : List D := ((t.map fun n => D.str [n]).filter (isQ c)).map id
theorem s607_is : s607t = .Assign [.Tuple (asT s607t) (asK' s607t) (asTp s607t)] (rtE s607t) (asP s607t) := by kernel_rfl
theorem lc0_is : lcN 0 = .ListComp (geE (lcN 0)) [⟨.Name "sign" (geC (lcN 0)).target.pos, (geC (lcN 0)).iter, (geC (lcN 0)).ifs, 0⟩] (geS (lcN 0)) (geP (lcN 0)) := by kernel_rfl
theorem lc1_is : lcN 1 = .ListComp (geE (lcN 1)) [⟨.Name "sign" (geC (lcN 1)).target.pos, (geC (lcN 1)).iter, (geC (lcN 1)).ifs, 0⟩] (geS (lcN 1)) (geP (lcN 1)) := by kernel_rfl
def rT (ns : List Int) (t : List Nat) : Rho := [("script", .val (scD ns)), ("text", .val (.str t))]
def rDS (ns : List Int) (t : List Nat) (d s : Int) : Rho := [("script", .val (scD ns)), ("text", .val (.str t)), ("single", .val (.int s)), ("double", .val (.int d))]
theorem cD_len (c : Nat) (t : List Nat) : (cD c t).length ≤ t.length := by
  unfold cD
  rw [List.length_map]
  exact Nat.le_trans (List.length_filter_le _ _) (by rw [List.length_map]; exact Nat.le_refl _)
section
variable {g : Gd} {A : Around} {L f : Addr}
theorem lcA (H : G3 g) (R : Room A 21) (ns : List Int) {t : List Nat} (ht : okTxt t) (i c : Nat) (hic : (i = 0 ∧ c = 34) ∨ (i = 1 ∧ c = 39)) : EvA (cx0 g A (d_881 g.w.params) L f) (rT ns t) (lcN i) (.list (cD c t)) := by
  have Z : Zok (mkZ (KQ g.w.params) (glQ g.w.params) (d_881 g.w.params).scope noOrc nS nT nL) 21 g A (callEnvC (d_881 g.w.params) L f) := Zok.of H.z (fn881 _).kind R (by decide) noOrc_ok
  have hdl : (t.map fun n => D.str [n]).length ≤ sizeLine := by rw [List.length_map, sizeLine_eq]; have := ht.2; omega
  have turnZ : ∀ i L', (geS (lcN i)).kind = .function → Zok (mkG (KQ g.w.params) (glQ g.w.params) (compEnvC (geS (lcN i)) (clPs (callEnvC (d_881 g.w.params) L f).cells (geS (lcN i)).names []) L' (callEnvC (d_881 g.w.params) L f)).scope.names noOrc nS nT nL) 21 g A (compEnvC (geS (lcN i)) (clPs (callEnvC (d_881 g.w.params) L f).cells (geS (lcN i)).names []) L' (callEnvC (d_881 g.w.params) L f)) :=
    fun i L' hk => Zok.env H.z hk R (by decide) noOrc_ok
  rcases hic with ⟨rfl, rfl⟩ | ⟨rfl, rfl⟩
  · refine EvA.listcomp (c := cx0 g A (d_881 g.w.params) L f) (ρ := rT ns t) (e := lcN 0) (x := "sign") (a := .str t) (ds := t.map fun n => .str [n]) (isQ 34) id [] H.z.G lc0_is (EvA.ev Z (ps := []) (by kernel_rfl) trivial) (fun S F O s u X r => Iters.str X R.hand r) hdl
      (by kernel_rfl) (by kernel_rfl) (by kernel_rfl) (by kernel_rfl) (by kernel_rfl) (fun L' p hp => by cases hp) (by kernel_rfl) (fun j d hd L' => ?_) (by kernel_rfl)
    rw [List.getElem?_map] at hd
    obtain ⟨n, hn, rfl⟩ := Option.map_eq_some_iff.mp hd
    have hif : (geC (lcN 0)).ifs = [ifN 0] := by kernel_rfl
    have hT : TrA ⟨g, A, compEnvC (geS (lcN 0)) (clPs (callEnvC (d_881 g.w.params) L f).cells (geS (lcN 0)).names []) L' (callEnvC (d_881 g.w.params) L f), fun _ => False, fun _ => False, [], fun _ => none⟩ (upd "sign" (.val (.str [n])) []) (ifN 0) (isQ 34 (.str [n])) := TrA.ev (turnZ 0 L' (by kernel_rfl)) (ps := []) (by kernel_rfl) trivial
    refine ⟨fun S F O => ?_, fun _ => ?_⟩
    · rw [hif]
      exact TrAll.one (hT S F O)
    · exact EvA.ev (turnZ 0 L' (by kernel_rfl)) (ps := []) (by kernel_rfl) trivial
  · refine EvA.listcomp (c := cx0 g A (d_881 g.w.params) L f) (ρ := rT ns t) (e := lcN 1) (x := "sign") (a := .str t) (ds := t.map fun n => .str [n]) (isQ 39) id [] H.z.G lc1_is (EvA.ev Z (ps := []) (by kernel_rfl) trivial) (fun S F O s u X r => Iters.str X R.hand r) hdl
      (by kernel_rfl) (by kernel_rfl) (by kernel_rfl) (by kernel_rfl) (by kernel_rfl) (fun L' p hp => by cases hp) (by kernel_rfl) (fun j d hd L' => ?_) (by kernel_rfl)
    rw [List.getElem?_map] at hd
    obtain ⟨n, hn, rfl⟩ := Option.map_eq_some_iff.mp hd
    have hif : (geC (lcN 1)).ifs = [ifN 1] := by kernel_rfl
    have hT : TrA ⟨g, A, compEnvC (geS (lcN 1)) (clPs (callEnvC (d_881 g.w.params) L f).cells (geS (lcN 1)).names []) L' (callEnvC (d_881 g.w.params) L f), fun _ => False, fun _ => False, [], fun _ => none⟩ (upd "sign" (.val (.str [n])) []) (ifN 1) (isQ 39 (.str [n])) := TrA.ev (turnZ 1 L' (by kernel_rfl)) (ps := []) (by kernel_rfl) trivial
    refine ⟨fun S F O => ?_, fun _ => ?_⟩
    · rw [hif]
      exact TrAll.one (hT S F O)
    · exact EvA.ev (turnZ 1 L' (by kernel_rfl)) (ps := []) (by kernel_rfl) trivial
def spcLC (t : List Nat) : Nat → Nat → Option D := fun l c => if l == (geP (lcN 0)).line && c == (geP (lcN 0)).col then some (.list (cD 34 t)) else if l == (geP (lcN 1)).line && c == (geP (lcN 1)).col then some (.list (cD 39 t)) else none
theorem s607 (H : G3 g) (R : Room A 21) (ns : List Int) {t : List Nat} (ht : okTxt t) : StA (cx0 g A (d_881 g.w.params) L f) (rT ns t) (exec s607t (callEnvC (d_881 g.w.params) L f)) (rDS ns t (cD 34 t).length (cD 39 t).length) .next := by
  have Z : Zok (mkZ (KQ g.w.params) (glQ g.w.params) (d_881 g.w.params).scope noOrc (spcLC t) nT nL) 21 g A (callEnvC (d_881 g.w.params) L f) := Zok.of H.z (fn881 _).kind R (by decide) noOrc_ok
  have h1 := cD_len 34 t
  have h2 := cD_len 39 t
  have h3 := ht.2
  have hv : EvA (cx0 g A (d_881 g.w.params) L f) (rT ns t) (rtE s607t) (.tup [.int (cD 34 t).length, .int (cD 39 t).length]) := by
    refine EvA.ev Z (ps := [EvA (cx0 g A (d_881 g.w.params) L f) (rT ns t) (lcN 0) (.list (cD 34 t)), (cD 34 t).length ≤ sizeLine, EvA (cx0 g A (d_881 g.w.params) L f) (rT ns t) (lcN 1) (.list (cD 39 t)), (cD 39 t).length ≤ sizeLine, 2 ≤ sizeLine]) (by kernel_rfl) ?_
    exact And.intro (lcA H R ns ht 0 34 (.inl ⟨rfl, rfl⟩)) (And.intro (by rw [sizeLine_eq]; omega) (And.intro (lcA H R ns ht 1 39 (.inr ⟨rfl, rfl⟩)) (And.intro (by rw [sizeLine_eq]; omega) (And.intro (by decide) trivial))))
  exact StA.swap2 (c := cx0 g A (d_881 g.w.params) L f) (x := "double") (y := "single") R.hand s607_is (by kernel_rfl) hv (by kernel_rfl) (by kernel_rfl) (by kernel_rfl)
end
end J5
end
section
open PySem PySem.W PySem.W.X PyProof.Rows Builtin J5
set_option Elab.async false
set_option maxRecDepth 100000
set_option linter.unusedVariables false
set_option maxHeartbeats 4000000
namespace J5
def s608 : Stmt := stAt (fBody [19]) 2
def s609 : Stmt := stAt (fBody [19]) 3
def iexT : Expr → Expr
  | .IfExp t _ _ _ => t
  | e => e
def eB (i : Nat) : Expr := iexT (tupN 1 (tupN i (rtE s608)))
theorem s609_is : s609 = .For (.Tuple (forTgE s609) (forTgK s609) (forTp s609)) (forIt s609) (forBd s609) [] (forPs s609) := by kernel_rfl
def eT (i : Nat) : Expr := ifT (stAt (forBd s609) i)
def oW : Orc := fun v as ns ks => match v with
  | .ref a => if a == 876 then (match as with
    | [.str x, .str [c]] => some ([c = 34 ∨ c = 39, okTxt x, ns = [], ks = []], .str (wr c x))
    | _ => none) else none
  | _ => none
theorem oW_ok {g : Gd} (H : G3 g) : Snd g 13 oW := by
  intro v as ns ks ps d e hp
  unfold oW at e
  split at e
  · split at e
    · rename_i ha
      rw [beq_iff_eq] at ha
      split at e
      · cases e
        rw [ha, hp.2.2.1, hp.2.2.2.1]
        exact c876 H hp.1 hp.2.1
      · cases e
    · cases e
  · cases e
def rowsD (c₁ c₂ : Nat) : List D := [.tup [.at (.ref 685), .str [34]], .tup [.at (.ref 687), .str [39]], .tup [.at (.ref 689), .str [c₁]], .tup [.at (.ref 691), .str [c₂]]]
def rRows (ns : List Int) (t : List Nat) (d s : Int) (rows : List D) : Rho := [("script", .val (scD ns)), ("text", .val (.str t)), ("single", .val (.int s)), ("double", .val (.int d)), ("rows", .val (.list rows))]
def sq (q c : Nat) : Rho := [("style", .val (.at (.ref q))), ("quote", .val (.str [c]))]
def spt3 (b₁ b₂ b₃ : Bool) : Nat → Nat → Option Bool := fun l c => if l == (eT 1).pos.line && c == (eT 1).pos.col then some b₁ else if l == (eT 4).pos.line && c == (eT 4).pos.col then some b₂ else if l == (eT 5).pos.line && c == (eT 5).pos.col then some b₃ else none
def tld (T : List Nat) : Rho := [("told", .val (.str T))]
def tmb (T m b : List Nat) : Rho := [("told", .val (.str T)), ("more", .val (.str m)), ("beside", .val (.str b))]
def mQ (q : Nat) : List Nat := if q == 689 then [34] else [39]
def cQ (q c : Nat) : Nat := if q == 689 then 39 else if q == 691 then 34 else c
def arrR (T B : List Nat) : List Nat := ((((([91] ++ T) ++ [44, 32]) ++ B) ++ [44, 32]) ++ T) ++ [93]
def objR (W T B : List Nat) : List Nat := ((((([123] ++ W) ++ [58, 32]) ++ T) ++ [44, 32, 97, 58, 32]) ++ B) ++ [125]
theorem wr_len2 (c : Nat) (x : List Nat) : (wr c x).length ≤ x.length * 6 + 2 := by
  have := wr_len c x
  unfold wr
  simp only [List.length_append, List.length_cons, List.length_nil]
  omega
section
variable {g : Gd} {A : Around} {L f : Addr}
theorem turn609 (H : G3 g) (R : Room A 26) (ns : List Int) {t : List Nat} (d s : Int) (rows : List D) {q c : Nat} (hq : qOk q) (hc : c = 34 ∨ c = 39) (ht : okTxt t) (ht2 : t.length ≤ 100)
    (e1 : full787 q t = wr c t) (e2 : full787 q (t ++ [32]) = wr c (t ++ [32])) (e3 : full787 q (mQ q) = wr (cQ q c) (mQ q)) :
    StA (cx0 g A (d_881 g.w.params) L f) (rRows ns t d s rows ++ sq q c) (execs (forBd s609) (callEnvC (d_881 g.w.params) L f)) (rRows ns t d s rows) .next := by
  have hO : Snd g 26 (orcOr oD oW) := Snd.or (Snd.up (oD_ok H) (by decide)) (Snd.up (oW_ok H) (by decide))
  have Z0 : Zok (mkZ (KQ g.w.params) (glQ g.w.params) (d_881 g.w.params).scope (orcOr oD oW) nS nT nL) 26 g A (callEnvC (d_881 g.w.params) L f) := Zok.of H.z (fn881 _).kind R (by decide) hO
  have Z : Zok (mkZ (KQ g.w.params) (glQ g.w.params) (d_881 g.w.params).scope (orcOr oD oW) nS (spt3 false false false) nL) 26 g A (callEnvC (d_881 g.w.params) L f) := Zok.of H.z (fn881 _).kind R (by decide) hO
  have hm : okTxt (mQ q) := by unfold mQ; split <;> exact ⟨by decide, by decide⟩
  have hc' : cQ q c = 34 ∨ cQ q c = 39 := by unfold cQ; split; exact .inr rfl; split; exact .inl rfl; exact hc
  have hk : okTxt (t ++ [32]) := ⟨fun n hn => by
    rcases List.mem_append.mp hn with h | h
    · exact ht.1 n h
    · rw [List.mem_singleton.mp h]; decide, by rw [List.length_append]; show t.length + 1 ≤ 1000; omega⟩
  have hks : ∃ m ∈ t ++ [32], isStart m = false := ⟨32, List.mem_append.mpr (.inr (List.mem_singleton.mpr rfl)), rfl⟩
  have lT := full_len q t
  have lW := wr_len2 c (t ++ [32])
  have lB := wr_len2 (cQ q c) (mQ q)
  have lm : (mQ q).length = 1 := by unfold mQ; split <;> rfl
  rw [List.length_append] at lW
  have lk : ([32] : List Nat).length = 1 := rfl
  have t1 : TrA (cx0 g A (d_881 g.w.params) L f) (rRows ns t d s rows ++ sq q c ++ tld (full787 q t)) (eT 1) false := by
    have h := TrA.ev (c := cx0 g A (d_881 g.w.params) L f) (ρ := rRows ns t d s rows ++ sq q c ++ tld (full787 q t)) (e := eT 1) (b := !(full787 q t == wr c t)) Z0 (ps := [c = 34 ∨ c = 39, okTxt t, ([] : List Str) = [], ([] : List D) = []]) (by kernel_rfl) ⟨hc, ht, rfl, rfl, trivial⟩
    have hb : (!(full787 q t == wr c t)) = false := by rw [e1, beq_self_eq_true]; rfl
    rw [hb] at h
    exact h
  have t2 : TrA (cx0 g A (d_881 g.w.params) L f) (rRows ns t d s rows ++ sq q c ++ tmb (full787 q t) (mQ q) (wr (cQ q c) (mQ q))) (eT 4) false := by
    have h := TrA.ev (c := cx0 g A (d_881 g.w.params) L f) (ρ := rRows ns t d s rows ++ sq q c ++ tmb (full787 q t) (mQ q) (wr (cQ q c) (mQ q))) (e := eT 4) (b := !(arr3 q t (mQ q) t == arrR (full787 q t) (wr (cQ q c) (mQ q)))) Z0
      (ps := [3 ≤ sizeLine, (["quote_style"] : List Str) = (["quote_style"] : List Str), qOk q, okTxt t, okTxt (mQ q), okTxt t, ([91] ++ full787 q t).length ≤ sizeLine, (([91] ++ full787 q t) ++ [44, 32]).length ≤ sizeLine, ((([91] ++ full787 q t) ++ [44, 32]) ++ wr (cQ q c) (mQ q)).length ≤ sizeLine, (((([91] ++ full787 q t) ++ [44, 32]) ++ wr (cQ q c) (mQ q)) ++ [44, 32]).length ≤ sizeLine,
        ((((([91] ++ full787 q t) ++ [44, 32]) ++ wr (cQ q c) (mQ q)) ++ [44, 32]) ++ full787 q t).length ≤ sizeLine, (arrR (full787 q t) (wr (cQ q c) (mQ q))).length ≤ sizeLine]) (by kernel_rfl) (by
        refine ⟨by decide, rfl, hq, ht, hm, ht, ?_, ?_, ?_, ?_, ?_, ?_, trivial⟩
        all_goals (try unfold arrR); rw [sizeLine_eq]; simp only [List.length_append, List.length_cons, List.length_nil]; omega)
    have hb : (!(arr3 q t (mQ q) t == arrR (full787 q t) (wr (cQ q c) (mQ q)))) = false := by
      have : arr3 q t (mQ q) t = arrR (full787 q t) (wr (cQ q c) (mQ q)) := by
        unfold arr3 arrR
        rw [e3]
        simp [joinL]
      rw [this, beq_self_eq_true]; rfl
    rw [hb] at h
    exact h
  have t3 : TrA (cx0 g A (d_881 g.w.params) L f) (rRows ns t d s rows ++ sq q c ++ tmb (full787 q t) (mQ q) (wr (cQ q c) (mQ q))) (eT 5) false := by
    have h := TrA.ev (c := cx0 g A (d_881 g.w.params) L f) (ρ := rRows ns t d s rows ++ sq q c ++ tmb (full787 q t) (mQ q) (wr (cQ q c) (mQ q))) (e := eT 5) (b := !(obj2 (full787 q (t ++ [32])) (full787 q t) (full787 q (mQ q)) == objR (wr c (t ++ [32])) (full787 q t) (wr (cQ q c) (mQ q)))) Z0
      (ps := [(t ++ [32]).length ≤ sizeLine, [t ++ [32], [97]].Nodup, (["quote_style"] : List Str) = (["quote_style"] : List Str), qOk q, ([97] : List Nat) = [97], okTxt (t ++ [32]), ∃ m ∈ t ++ [32], isStart m = false, okTxt t, okTxt (mQ q), (t ++ [32]).length ≤ sizeLine, c = 34 ∨ c = 39, okTxt (t ++ [32]), ([] : List Str) = [], ([] : List D) = [],
        ([123] ++ wr c (t ++ [32])).length ≤ sizeLine, (([123] ++ wr c (t ++ [32])) ++ [58, 32]).length ≤ sizeLine, ((([123] ++ wr c (t ++ [32])) ++ [58, 32]) ++ full787 q t).length ≤ sizeLine, (((([123] ++ wr c (t ++ [32])) ++ [58, 32]) ++ full787 q t) ++ [44, 32, 97, 58, 32]).length ≤ sizeLine,
        ((((([123] ++ wr c (t ++ [32])) ++ [58, 32]) ++ full787 q t) ++ [44, 32, 97, 58, 32]) ++ wr (cQ q c) (mQ q)).length ≤ sizeLine, (objR (wr c (t ++ [32])) (full787 q t) (wr (cQ q c) (mQ q))).length ≤ sizeLine]) (by kernel_rfl) (by
        refine ⟨?_, ?_, rfl, hq, rfl, hk, hks, ht, hm, ?_, hc, hk, rfl, rfl, ?_, ?_, ?_, ?_, ?_, ?_, trivial⟩
        · rw [sizeLine_eq, List.length_append]; omega
        · rw [List.nodup_cons]
          refine ⟨fun h => ?_, by simp⟩
          have h1 := List.mem_singleton.mp h
          obtain ⟨m, hm1, hm2⟩ := hks
          rw [h1] at hm1
          rw [List.mem_singleton.mp hm1] at hm2
          cases hm2
        · rw [sizeLine_eq, List.length_append]; omega
        all_goals (try unfold objR); rw [sizeLine_eq]; simp only [List.length_append, List.length_cons, List.length_nil] at lW ⊢; omega)
    have hb : (!(obj2 (full787 q (t ++ [32])) (full787 q t) (full787 q (mQ q)) == objR (wr c (t ++ [32])) (full787 q t) (wr (cQ q c) (mQ q)))) = false := by
      have : obj2 (full787 q (t ++ [32])) (full787 q t) (full787 q (mQ q)) = objR (wr c (t ++ [32])) (full787 q t) (wr (cQ q c) (mQ q)) := by
        rw [e2, e3]
        unfold obj2 objR add808
        simp
      rw [this, beq_self_eq_true]; rfl
    rw [hb] at h
    exact h
  refine StA.cut 5 Z (ps := [(["quote_style"] : List Str) = (["quote_style"] : List Str), qOk q, okTxt t, TrA (cx0 g A (d_881 g.w.params) L f) (rRows ns t d s rows ++ sq q c ++ tld (full787 q t)) (eT 1) false, cQ q c = 34 ∨ cQ q c = 39, okTxt (mQ q), ([] : List Str) = [], ([] : List D) = [],
    TrA (cx0 g A (d_881 g.w.params) L f) (rRows ns t d s rows ++ sq q c ++ tmb (full787 q t) (mQ q) (wr (cQ q c) (mQ q))) (eT 4) false, TrA (cx0 g A (d_881 g.w.params) L f) (rRows ns t d s rows ++ sq q c ++ tmb (full787 q t) (mQ q) (wr (cQ q c) (mQ q))) (eT 5) false]) ?_ ⟨rfl, hq, ht, t1, hc', hm, rfl, rfl, t2, t3, trivial⟩
  have hq' := hq
  simp only [qOk, List.mem_cons, List.not_mem_nil, or_false] at hq'
  rcases hq' with rfl | rfl | rfl | rfl <;> kernel_rfl
end
end J5
end
section
open PySem PySem.W PySem.W.X PyProof.Rows Builtin J5
set_option Elab.async false
set_option maxRecDepth 100000
set_option linter.unusedVariables false
set_option maxHeartbeats 4000000
namespace J5
/- the plain law -/
theorem esc_sh {n : Nat} (hn : n ∈ Sg) (dbl : Bool) : escS dbl n = shE (if dbl then 34 else 39) n := by
  simp only [Sg, List.mem_cons, List.not_mem_nil, or_false] at hn
  cases dbl <;> rcases hn with rfl | rfl | rfl | rfl | rfl | rfl | rfl | rfl <;> rfl
theorem res_wr (dbl : Bool) {x : List Nat} (hx : ∀ n ∈ x, n ∈ Sg) : res787 dbl x = wr (if dbl then 34 else 39) x := by
  have e : x.map (escS dbl) = x.map (shE (if dbl then 34 else 39)) := List.map_congr_left fun n hn => esc_sh (hx n hn) dbl
  unfold res787 wr quoS
  rw [e]
  cases dbl <;> rfl
theorem foldl_c34 : ∀ (t : List Nat) (a : Int), t.foldl (fun a n => c34 n a) a = a + (((t.map fun n => D.str [n]).filter (isQ 34)).length : Nat)
  | [], a => by simp
  | n :: t, a => by
    rw [List.foldl_cons, foldl_c34 t, List.map_cons, List.filter_cons]
    unfold c34
    have : isQ 34 (.str [n]) = (n == 34) := by show ([n] == [34]) = _; simp
    rw [this]
    cases n == 34 <;> simp <;> omega
theorem foldl_c39 : ∀ (t : List Nat) (a : Int), t.foldl (fun a n => c39 n a) a = a + (((t.map fun n => D.str [n]).filter (isQ 39)).length : Nat)
  | [], a => by simp
  | n :: t, a => by
    rw [List.foldl_cons, foldl_c39 t, List.map_cons, List.filter_cons]
    unfold c39
    have : isQ 39 (.str [n]) = (n == 39) := by show ([n] == [39]) = _; simp
    rw [this]
    cases n == 39 <;> simp <;> omega
theorem c34s_is (t : List Nat) : c34s t = ((cD 34 t).length : Nat) := by unfold c34s cD; rw [foldl_c34, List.length_map]; omega
theorem c39s_is (t : List Nat) : c39s t = ((cD 39 t).length : Nat) := by unfold c39s cD; rw [foldl_c39, List.length_map]; omega
theorem c34s_blank (t : List Nat) : c34s (t ++ [32]) = c34s t := by unfold c34s; rw [List.foldl_append]; rfl
theorem c39s_blank (t : List Nat) : c39s (t ++ [32]) = c39s t := by unfold c39s; rw [List.foldl_append]; rfl
/- which quote each style takes -/
def quoteOf (q : Nat) (t : List Nat) : Nat := if q == 685 then 34 else if q == 687 then 39 else if q == 689 then (if decide (((cD 34 t).length : Int) > ((cD 39 t).length : Nat)) then 39 else 34) else (if decide (((cD 39 t).length : Int) > ((cD 34 t).length : Nat)) then 34 else 39)
theorem full_wr {q : Nat} (hq : qOk q) {t x : List Nat} (hx : ∀ n ∈ x, n ∈ Sg) (h34 : c34s x = c34s t) (h39 : c39s x = c39s t) : full787 q x = wr (quoteOf q t) x := by
  simp only [qOk, List.mem_cons, List.not_mem_nil, or_false] at hq
  have k1 := c34s_is t
  have k2 := c39s_is t
  unfold full787 cond1 cond2
  rw [h34, h39, k1, k2]
  rcases hq with rfl | rfl | rfl | rfl
  · have : quoteOf 685 t = 34 := rfl
    rw [this]; simpa [show dblOf 685 = true from rfl] using res_wr true hx
  · have : quoteOf 687 t = 39 := rfl
    rw [this]; simpa [show dblOf 687 = false from rfl] using res_wr false hx
  · have : quoteOf 689 t = if decide (((cD 34 t).length : Int) > ((cD 39 t).length : Nat)) then 39 else 34 := rfl
    rw [this]
    cases decide (((cD 34 t).length : Int) > ((cD 39 t).length : Nat))
    · simpa [show dblOf 689 = true from rfl] using res_wr true hx
    · simpa using res_wr false hx
  · have : quoteOf 691 t = if decide (((cD 39 t).length : Int) > ((cD 34 t).length : Nat)) then 34 else 39 := rfl
    rw [this]
    cases decide (((cD 39 t).length : Int) > ((cD 34 t).length : Nat))
    · simpa [show dblOf 691 = false from rfl] using res_wr false hx
    · simpa using res_wr true hx
theorem quoteOf_ok {q : Nat} (hq : qOk q) (t : List Nat) : quoteOf q t = 34 ∨ quoteOf q t = 39 := by
  unfold quoteOf
  repeat' split
  all_goals simp
theorem more_wr {q : Nat} (hq : qOk q) (t : List Nat) : full787 q (mQ q) = wr (cQ q (quoteOf q t)) (mQ q) := by
  simp only [qOk, List.mem_cons, List.not_mem_nil, or_false] at hq
  rcases hq with rfl | rfl | rfl | rfl <;> kernel_rfl
theorem txt_ok (ns : List Int) : okTxt (txt ns) ∧ (txt ns).length ≤ 100 := by
  obtain ⟨c0, c1⟩ := cnt_ok ns
  have hl : (txt ns).length = (cntN ns - 0).toNat := by simp [txt]
  refine ⟨⟨fun n hn => ?_, by omega⟩, by omega⟩
  obtain ⟨i, _, rfl⟩ := List.mem_map.mp hn
  exact sgN_ok ns _
section
variable {g : Gd} {A : Around} {L f : Addr}
theorem row609 (H : G3 g) (R : Room A 26) (ns : List Int) {t : List Nat} (d s : Int) (rows : List D) {q : Nat} (hq : qOk q) (ht : okTxt t) (ht2 : t.length ≤ 100) :
    ∃ ρ₁, (∀ S F O, Asg ((cx0 g A (d_881 g.w.params) L f).at (rRows ns t d s rows) S F O) (PySem.assign (Expr.Tuple (forTgE s609) (forTgK s609) (forTp s609)) (callEnvC (d_881 g.w.params) L f)) (.tup [.at (.ref q), .str [quoteOf q t]]) ρ₁) ∧
      StA (cx0 g A (d_881 g.w.params) L f) ρ₁ (execs (forBd s609) (callEnvC (d_881 g.w.params) L f)) (rRows ns t d s rows) .next := by
  have Z0 : Zok (mkZ (KQ g.w.params) (glQ g.w.params) (d_881 g.w.params).scope noOrc nS nT nL) 26 g A (callEnvC (d_881 g.w.params) L f) := Zok.of H.z (fn881 _).kind R (by decide) noOrc_ok
  have ha : asgZ (mkZ (KQ g.w.params) (glQ g.w.params) (d_881 g.w.params).scope noOrc nS nT nL) (rRows ns t d s rows) (forTgE s609) [.at (.ref q), .str [quoteOf q t]] = some (rRows ns t d s rows ++ sq q (quoteOf q t)) := by kernel_rfl
  obtain ⟨i1, i2, i3⟩ := asgZ_sound (c := cx0 g A (d_881 g.w.params) L f) Z0 ha
  refine ⟨rRows ns t d s rows ++ sq q (quoteOf q t), fun S F O => Asg.tuple (c := (cx0 g A (d_881 g.w.params) L f).at (rRows ns t d s rows) S F O) R.hand i1 i2 (i3 S F O), ?_⟩
  refine turn609 H R ns d s rows hq (quoteOf_ok hq t) ht ht2 (full_wr hq ht.1 rfl rfl) (full_wr hq (fun n hn => ?_) (c34s_blank t) (c39s_blank t)) (more_wr hq t)
  rcases List.mem_append.mp hn with h | h
  · exact ht.1 n h
  · rw [List.mem_singleton.mp h]; decide
def rowsT (t : List Nat) : List D := [.tup [.at (.ref 685), .str [quoteOf 685 t]], .tup [.at (.ref 687), .str [quoteOf 687 t]], .tup [.at (.ref 689), .str [quoteOf 689 t]], .tup [.at (.ref 691), .str [quoteOf 691 t]]]
theorem loop609 (H : G3 g) (R : Room A 26) (ns : List Int) {t : List Nat} (d s : Int) (ht : okTxt t) (ht2 : t.length ≤ 100) :
    StA (cx0 g A (d_881 g.w.params) L f) (rRows ns t d s (rowsT t)) (exec s609 (callEnvC (d_881 g.w.params) L f)) (rRows ns t d s (rowsT t)) .next := by
  have Z0 : Zok (mkZ (KQ g.w.params) (glQ g.w.params) (d_881 g.w.params).scope noOrc nS nT nL) 26 g A (callEnvC (d_881 g.w.params) L f) := Zok.of H.z (fn881 _).kind R (by decide) noOrc_ok
  refine StA.forT (c := cx0 g A (d_881 g.w.params) L f) (st := s609) (ds := rowsT t) (fun _ => rRows ns t d s (rowsT t)) R.hand s609_is (by kernel_rfl) (EvA.ev Z0 (ps := []) (by kernel_rfl) trivial) (fun i dd hd => ?_)
  have fin : ∀ q, qOk q → dd = .tup [.at (.ref q), .str [quoteOf q t]] → ∃ ρ₁ fl, (fl = .next ∨ fl = .cont) ∧ (∀ S F O, Asg ((cx0 g A (d_881 g.w.params) L f).at (rRows ns t d s (rowsT t)) S F O) (PySem.assign (Expr.Tuple (forTgE s609) (forTgK s609) (forTp s609)) (callEnvC (d_881 g.w.params) L f)) dd ρ₁) ∧
      StA (cx0 g A (d_881 g.w.params) L f) ρ₁ (execs (forBd s609) (callEnvC (d_881 g.w.params) L f)) (rRows ns t d s (rowsT t)) fl := by
    rintro q hq rfl
    obtain ⟨ρ₁, b, c⟩ := row609 (L := L) (f := f) H R ns d s (rowsT t) hq ht ht2
    exact ⟨ρ₁, .next, .inl rfl, b, c⟩
  match i, hd with
  | 0, hd => cases hd; exact fin 685 (by simp [qOk]) rfl
  | 1, hd => cases hd; exact fin 687 (by simp [qOk]) rfl
  | 2, hd => cases hd; exact fin 689 (by simp [qOk]) rfl
  | 3, hd => cases hd; exact fin 691 (by simp [qOk]) rfl
end
def sptB (b₁ b₂ : Bool) : Nat → Nat → Option Bool := fun l c => if l == (eB 2).pos.line && c == (eB 2).pos.col then some b₁ else if l == (eB 3).pos.line && c == (eB 3).pos.col then some b₂ else none
def sstL (ρ₁ ρ₂ : Rho) : Nat → Rho → Option (Rho × Fl) := fun l _ => if l == (asP s607t).line then some (ρ₁, .next) else if l == (forPs s609).line then some (ρ₂, .next) else none
def psL (g : Gd) (ns : List Int) (t : List Nat) (A : Around) (L f : Addr) (b₁ b₂ : Bool) (rows : List D) : List Prop :=
  [EvA (cx0 g A (d_881 g.w.params) L f) [("script", .val (scD ns))] e606 (.str t), StA (cx0 g A (d_881 g.w.params) L f) (rT ns t) (exec s607t (callEnvC (d_881 g.w.params) L f)) (rDS ns t (cD 34 t).length (cD 39 t).length) .next, 2 ≤ sizeLine, 2 ≤ sizeLine,
   TrA (cx0 g A (d_881 g.w.params) L f) (rDS ns t (cD 34 t).length (cD 39 t).length) (eB 2) b₁, 2 ≤ sizeLine, TrA (cx0 g A (d_881 g.w.params) L f) (rDS ns t (cD 34 t).length (cD 39 t).length) (eB 3) b₂, 2 ≤ sizeLine, 4 ≤ sizeLine,
   StA (cx0 g A (d_881 g.w.params) L f) (rRows ns t (cD 34 t).length (cD 39 t).length rows) (exec s609 (callEnvC (d_881 g.w.params) L f)) (rRows ns t (cD 34 t).length (cD 39 t).length rows) .next]
theorem c881 {g : Gd} (H : G3 g) {ns : List Int} (hl : ns.length ≤ 63) : CallOk g 27 (.ref 881) [scD ns] [] [] (.bool true) := by
  obtain ⟨ht, ht2⟩ := txt_ok ns
  have key : ∀ b₁ b₂ : Bool, decide (((cD 34 (txt ns)).length : Int) > ((cD 39 (txt ns)).length : Nat)) = b₁ → decide (((cD 39 (txt ns)).length : Int) > ((cD 34 (txt ns)).length : Nat)) = b₂ →
      ∀ c₁ c₂, c₁ = (if b₁ then 39 else 34) → c₂ = (if b₂ then 34 else 39) → rowsT (txt ns) = rowsD c₁ c₂ → CallOk g 27 (.ref 881) [scD ns] [] [] (.bool true) := by
    intro b₁ b₂ h1 h2 c₁ c₂ hc1 hc2 hr
    refine CallOk.ev H.z (fn881 _) (by decide) [("script", scD ns)] (by kernel_rfl) (by kernel_rfl) (by kernel_rfl) noOrc (spcAt e606 (.str (txt ns))) (sptB b₁ b₂) (sstL (rDS ns (txt ns) (cD 34 (txt ns)).length (cD 39 (txt ns)).length) (rRows ns (txt ns) (cD 34 (txt ns)).length (cD 39 (txt ns)).length (rowsD c₁ c₂))) noOrc_ok
      (fun A L f => psL g ns (txt ns) A L f b₁ b₂ (rowsD c₁ c₂)) _ (.inl rfl) ?_ (fun A L f R => ?_)
    · subst hc1 hc2
      intro A L f
      clear h1 h2 hr
      cases b₁ <;> cases b₂ <;> kernel_rfl
    · have R' : Room A 21 := ⟨by have := R.units; omega, by have := R.depth; omega, R.hand⟩
      have Z : Zok (mkZ (KQ g.w.params) (glQ g.w.params) (d_881 g.w.params).scope noOrc nS nT nL) 26 g A (callEnvC (d_881 g.w.params) L f) := Zok.of H.z (fn881 _).kind R (by decide) noOrc_ok
      have t1 : TrA (cx0 g A (d_881 g.w.params) L f) (rDS ns (txt ns) (cD 34 (txt ns)).length (cD 39 (txt ns)).length) (eB 2) b₁ := h1 ▸ TrA.ev Z (ps := []) (by kernel_rfl) trivial
      have t2 : TrA (cx0 g A (d_881 g.w.params) L f) (rDS ns (txt ns) (cD 34 (txt ns)).length (cD 39 (txt ns)).length) (eB 3) b₂ := h2 ▸ TrA.ev Z (ps := []) (by kernel_rfl) trivial
      exact ⟨j606 H R' hl, s607 H R' ns ht, by decide, by decide, t1, by decide, t2, by decide, by decide, hr ▸ loop609 H R ns _ _ ht ht2, trivial⟩
  refine key _ _ rfl rfl _ _ rfl rfl ?_
  rfl
end J5
end
section
open PySem PySem.W PySem.W.X PyProof.Rows Builtin J5
set_option Elab.async false
set_option maxRecDepth 100000
set_option linter.unusedVariables false
set_option maxHeartbeats 4000000
namespace J5
/- the ground stands behind the opening -/
theorem lookup_keep {α β : Type} [BEq α] [LawfulBEq α] {p : α → Bool} : ∀ {l : List (α × β)} {a : α} {b : β}, (l.filter fun q => p q.1).lookup a = some b → l.lookup a = some b ∧ p a = true
  | [], a, b, h => by cases h
  | (x, y) :: l, a, b, h => by
    rw [List.lookup_cons]
    rw [List.filter_cons] at h
    cases hp : p x with
    | true =>
      simp only [hp, if_true] at h
      rw [List.lookup_cons] at h
      cases hx : a == x with
      | true =>
        rw [hx] at h
        exact ⟨h, (eq_of_beq hx) ▸ hp⟩
      | false =>
        rw [hx] at h
        exact lookup_keep h
    | false =>
      simp only [hp] at h
      have := lookup_keep (l := l) h
      cases hx : a == x with
      | true => rw [eq_of_beq hx, hp] at this; cases this.2
      | false => exact this
theorem KQ_sub {P : Params} {a : Addr} {o : Obj} (h : (KQ P).lookup a = some o) : (KK P).lookup a = some o ∧ (!(a == 878 || a == 810)) = true := lookup_keep (p := fun a => !(a == 878 || a == 810)) h
theorem mg_in {K : Frag} {h : Heap} {m : Str → Option Value} (X : K.In h) {a : Addr} (hn : h.Ns a m) {x : Str} {v : Option Value} (e : nsIn K a x = some v) : m x = v := by
  obtain ⟨o, es, ep, ho, hd, hs, hm⟩ := hn
  unfold nsIn at e
  split at e
  · rename_i c d es' n sl hl
    have hh := X _ _ hl
    rw [ho] at hh
    cases hh
    simp only [Data.dict.injEq] at hd
    obtain ⟨rfl, _⟩ := hd
    rw [← hm x]
    unfold nsFind findBy
    rw [← Array.find?_toList]
    split at e
    · rename_i en he; cases e; rw [he]; rfl
    · rename_i he
      rw [he]
      split at e
      · cases e
      · cases e; rfl
  · cases e
theorem tab_ok {h : Heap} {c P : Addr} {vs : Array Value} {file : Str} {tf : Tok} {fl : Int} {tg : Tok} {b : Bool} {tx : Int} {tt : Tok} (hc : h.get? c = some ⟨.type "code", none, .fields vs, #[]⟩) (h11 : vs[11]? = some (.ref P)) (h18 : vs.getD 18 .none = .str file tf)
    (h7 : vs.getD 7 .none = .int fl tg) (h9 : vs.getD 9 .none = .bool b) (h10 : vs.getD 10 .none = .int tx tt) (hP : h.get? P = some ⟨.none, none, .fields #[], #[]⟩) (hne : c ≠ P) : h.IsCode c P #[] ∧ h.TableAt c P #[] := by
  refine ⟨⟨_, vs, file, tf, fl, tg, b, tx, tt, _, hc, rfl, ?_, h18, h7, h9, h10, hP, rfl, trivial, hne⟩, ⟨_, vs, hc, rfl, rfl, h11⟩, hP⟩
  rw [Array.getD_eq_getD_getElem?, h11]; rfl
theorem KK_get (P : Params) : ((KK P).lookup 880 = some (f880 P) ∧ (KK P).lookup 878 = some (f878 P)) ∧ (KK P).lookup 814 = some (f814 P) ∧ (KK P).lookup 810 = some (f810 P) := ⟨⟨by kernel_rfl, by kernel_rfl⟩, by kernel_rfl, by kernel_rfl⟩
theorem tabs_at {h : Heap} {P : Params} (X : (KK P).In h) : ∀ c p, (c, p) ∈ tabs3 → h.IsCode c p #[] ∧ h.TableAt c p #[] := by
  obtain ⟨⟨a1, a2⟩, a3, a4⟩ := KK_get P
  intro c p m
  simp only [tabs3, List.mem_cons, Prod.mk.injEq, List.not_mem_nil, or_false] at m
  rcases m with ⟨rfl, rfl⟩ | ⟨rfl, rfl⟩
  · exact tab_ok (X _ _ a1) rfl rfl rfl rfl rfl (X _ _ a2) (by decide)
  · exact tab_ok (X _ _ a3) rfl rfl rfl rfl rfl (X _ _ a4) (by decide)
abbrev gd3 (pr : Program) (w : World) (s : Shared) (mg mb : Str → Option Value) : Gd := ⟨pr, w, KQ w.params, s.heap, s.os, tabs3, mg, mb⟩
theorem gd3_Tb {pr : Program} {w : World} {s : Shared} {mg mb : Str → Option Value} {b : Addr} : (gd3 pr w s mg mb).Tb b ↔ b = 878 ∨ b = 810 := by
  constructor
  · rintro ⟨c, m⟩
    simp only [tabs3, List.mem_cons, Prod.mk.injEq, List.not_mem_nil, or_false] at m
    rcases m with ⟨_, rfl⟩ | ⟨_, rfl⟩ <;> simp
  · rintro (rfl | rfl)
    · exact ⟨880, by simp [tabs3]⟩
    · exact ⟨814, by simp [tabs3]⟩
theorem bm_of (P : Params) : nsIn (KQ P) 3 "__builtins__" = some (some (.ref 4)) ∧ (KQ P).lookup 4 = some (f4 P) := ⟨by kernel_rfl, by kernel_rfl⟩
theorem ground3 {pr : Program} {w : World} {s : Shared} {mg mb : Str → Option Value} (KX : (KK w.params).In s.heap) (hg : s.heap.Ns mainGlobals mg) (hb : s.heap.Ns builtinsNs mb) (nl : s.heap.NoLimit)
    (bi : ∀ x : Str, x ≠ "__name__" → mb x = bootBuiltins x) (hgens : s.gens = #[]) : G3 (gd3 pr w s mg mb) ∧ Bs (gd3 pr w s mg mb) s := by
  have KQX : (KQ w.params).In s.heap := fun a o e => KX _ _ (KQ_sub e).1
  have gl : ∀ x v, nsIn (KQ w.params) 3 x = some v → mg x = v := fun x v e => mg_in KQX hg e
  have nT : ∀ b, b ≠ 878 → b ≠ 810 → ¬ (gd3 pr w s mg mb).Tb b := fun b h1 h2 h => (gd3_Tb.mp h).elim h1 h2
  refine ⟨⟨⟨⟨KQX, fun a o e h => ?_, hg, hb, nl, nT _ (by decide) (by decide), nT _ (by decide) (by decide), nT _ (by decide) (by decide), bi, fun c P m => ?_, fun c c' P m m' => ?_⟩, rfl, gl⟩, ⟨⟨4, f4 w.params, gl _ _ (bm_of _).1, by decide, (bm_of _).2, rfl, rfl, rfl⟩⟩, rfl⟩,
    ⟨fun b o _ e => e, fun c P m => ⟨#[], #[], (tabs_at KX c P m).2, (tabs_at KX c P m).1, (tabs_at KX c P m).2⟩, AllBare.of_eq hgens, rfl⟩⟩
  · have := (KQ_sub e).2
    rcases gd3_Tb.mp h with rfl | rfl <;> cases this
  · simp only [tabs3, List.mem_cons, Prod.mk.injEq, List.not_mem_nil, or_false] at m
    rcases m with ⟨rfl, rfl⟩ | ⟨rfl, rfl⟩ <;> exact nT _ (by decide) (by decide)
  · simp only [tabs3, List.mem_cons, Prod.mk.injEq, List.not_mem_nil, or_false] at m m'
    rcases m with ⟨rfl, rfl⟩ | ⟨rfl, rfl⟩ <;> rcases m' with ⟨rfl, h⟩ | ⟨rfl, h⟩ <;> first | rfl | cases h
theorem Bs.oldK {g : Gd} {s : Shared} (B : Bs g s) : OldK g.h₀ s.heap := by
  refine ⟨fun b o e => ?_, fun b o e => ?_⟩
  · by_cases t : g.Tb b
    · obtain ⟨c, m⟩ := t
      obtain ⟨ps, more, h1, _, h2⟩ := B.tabs c b m
      have : o = { cls := .none, data := .fields ps } := Option.some.inj (e.symm.trans h1.2)
      subst this
      exact .inr (.inl ⟨h1.isCodeTable, rfl, ps, more, rfl, h2.2⟩)
    · exact .inl (B.keep b o t e)
  · by_cases t : g.Tb b
    · obtain ⟨c, m⟩ := t
      obtain ⟨ps, more, h1, _, h2⟩ := B.tabs c b m
      exact ⟨_, h2.2⟩
    · exact ⟨_, B.keep b o t e⟩
theorem post3 (args : List WData) : PySem.Challenge.rw_ww0010_03.row.claim.post args (.bool true) args = true := by kernel_rfl
theorem Reps.ints {g : Gd} {S : Addr → Prop} {h : Heap} : ∀ {vs : List Value} {ns : List Int}, IntsAre vs ns → Reps g S h vs (ns.map .int) := by
  intro vs ns i
  induction i
  · exact .nil
  · rename_i ih
    exact .cons (.int _ _) ih
theorem law3 {pr : Program} {w : World} {s : Shared} {mg mb : Str → Option Value} (KX : (KK w.params).In s.heap) (hg : s.heap.Ns mainGlobals mg) (hb : s.heap.Ns builtinsNs mb) (nl : s.heap.NoLimit)
    (bi : ∀ x : Str, x ≠ "__name__" → mb x = bootBuiltins x) (hgens : s.gens = #[]) {ns : List Int} (hl : ns.length ≤ 63) {vs : List Value} (ha : s.heap.get? 882 = some { cls := .type "list", data := .seq vs.toArray }) (hv : IntsAre vs ns)
    {Q : Value → Shared → Prop} {E : Value → Shared → Prop} (q : ∀ s', OldK s.heap s'.heap → s'.os = s.os → AllBare s'.gens → Q (.bool true) s') : wpAny (model pr w) callerA (PySem.call (.ref 881) [.ref 882]) Q E s ∧ mg "law" = some (.ref 881) := by
  obtain ⟨H, B⟩ := ground3 (pr := pr) KX hg hb nl bi hgens
  have KQX : (KQ w.params).In s.heap := fun a o e => KX _ _ (KQ_sub e).1
  refine ⟨?_, mg_in KQX hg (by kernel_rfl)⟩
  refine c881 H hl callerA (gd3 pr w s mg mb).Tb s [.ref 882] [] ⟨by decide, by decide, rfl⟩ B (fun b h => h) (fun b h => ?_) (.cons (.list (fun h => ?_) ha (Reps.ints hv)) .nil) .nil Q E fun v s' B' K' r => ?_
  · rcases gd3_Tb.mp h with rfl | rfl
    · exact Heap.lt_size (KX _ _ (KK_get _).1.2)
    · exact Heap.lt_size (KX _ _ (KK_get _).2.2)
  · rcases gd3_Tb.mp h with h | h <;> cases h
  · cases r
    exact q s' B'.oldK B'.os B'.bare
end J5
end
section
open PySem PySem.W PySem.W.X PyProof.Rows J5
set_option Elab.async false
set_option maxRecDepth 100000
set_option linter.unusedVariables false
namespace J5
theorem asK_is : ∀ P, asK = (KK P).map (·.1) := by intro P; kernel_rfl
theorem obs_is : ∀ (w : World) (os : OsState), obsZ asK (sF w os).abs = valZ KK 882 2383 w := by intro w os; kernel_rfl
theorem left3 : LeftO pw qv lsv Xv (obsZ asK) (valZ KK 882 2383) 10000 := left obs_is fun _ _ => rfl
set_option maxHeartbeats 0 in
theorem cw3 : PySem.Challenge.rw_ww0010_03.Holds := by
  w_on
  o_law
  refine holds_openX (q := qv) (loose := lsv) (Xt := Xv) (XP := XL qv []) (Yf := obsZ asK) (Ya := valZ KK 882 2383) (N := 10000) left3 (fun s e => xl_of s (Bool.and_eq_true_iff.mp e).1) XL.keeps (by rfl) (by rfl) (by rfl) (fun s e => recFacts_of (Bool.and_eq_true_iff.mp e).2) (by rfl) (by assumption) (by decide +kernel) ⟨rfl, rfl, rfl, rfl, rfl, by decide +kernel⟩ ?hw ?hc
  case hw => w_witness2
  case hc =>
    intro w s₀ s₁ mg mb G Y fa o pm cd doc dV kV ho hd hcd hD hmg hg args vals as L hpre hlay hrd hwl hlo
    obtain ⟨_, KX, hsz0, _⟩ := z_facts asK_is Y
    have KX₁ : (KK w.params).In s₁.heap := Frag.In.keeps KX L.keeps
    have T := G.T
    wrow_args hpre hlay hrd hwl hlo
    have hlen : ¬ (63 : Int) < _ := ‹¬ (63 : Int) < _›
    obtain ⟨hat, _⟩ := script_at L
    have hol := script_obj L ‹s₁.heap.IsList _ _›
    rw [hsz0] at hat
    subst hat
    have hv := ‹IntsAre _ _›
    have hlen' : List.length _ ≤ 63 := Int.ofNat_le.mp (Int.not_lt.mp hlen)
    have key := @law3 Challenge.rw_ww0010_03.row.prog w s₁ mg mb KX₁ T.g T.b T.nolimit T.builtins hg _ hlen' _ hol hv
    have e := Option.some.inj ((key (Q := fun _ _ => True) (E := fun _ _ => True) fun _ _ _ _ => trivial).2.symm.trans hmg)
    cases e
    refine (key ?_).1
    intro s' k1 k2 k3
    exact ⟨.inl ⟨_, .bool true, [], rfl, fun _ => rfl, ReadsW.bool _, post3 _, fun _ => ⟨List.nodup_nil, fun _ h => nomatch h⟩⟩, k1, k2, k3⟩
end J5
end
set_option maxRecDepth 100000 in
theorem PySem.Challenge.cw_ww0010_03_holds : PySem.Challenge.rw_ww0010_03.Holds := by
  exact J5.cw3
