import PyProof.Rows.All
import Wide.All
import OpenK.AllK
import Wide.FinOn
import PyProof.Rows.SetFrom
import PyProof.GenRules
import PyProof.GenObj
import Lean
import PySem.Challenge.RW_if0034_01
set_option Elab.async false
set_option maxRecDepth 100000
set_option maxHeartbeats 0
set_option pp.deepTerms false
set_option linter.all false
section
open PySem PySem.W PyProof.Rows
namespace Mine
open Lean Elab Tactic Meta
/-- the own names of a line get a scope of their own, as in a macro -/
def scopedLine (stx : Syntax) : TacticM Syntax := do
  let scp ← getCurrMacroScope
  let m ← getMainModule
  stx.replaceM fun s => match s with
    | .ident i r n _ => do
      if (← resolveGlobalName n).isEmpty then return some (.ident i r (addMacroScope m n scp) []) else return some s
    | _ => return none
/-- the line of that name -/
def ln (nm : String) : TacticM Unit := do
  let some (_, t) := (← kExtra.get).find? (·.1 == "own " ++ nm) | throwError "no line"
  withFreshMacroScope do evalTactic (← scopedLine t)
end Mine
end
local macro_rules | `(tactic| walk_at $s:str) => `(tactic| k_extra $s)
section -- Tools
namespace Mine
/-- a sum over unknown numbers -/
inductive LE' where
  | v (i : Nat)
  | n (k : Nat)
  | a (x y : LE')
  | m (k : Nat) (x : LE')
namespace LE'
noncomputable def at_ : List Nat → Nat → Nat
  | [], _ => 0
  | x :: _, 0 => x
  | _ :: l, i + 1 => at_ l i
noncomputable def ev (ρ : List Nat) : LE' → Nat
  | v i => at_ ρ i
  | n k => k
  | a x y => ev ρ x + ev ρ y
  | m k x => k * ev ρ x
/-- the coefficients, the constant first, k times, added to what is there -/
noncomputable def addAt : List Nat → Nat → Nat → List Nat
  | [], 0, k => [k]
  | [], i + 1, k => 0 :: addAt [] i k
  | x :: l, 0, k => (x + k) :: l
  | x :: l, i + 1, k => x :: addAt l i k
noncomputable def put (l : List Nat) (k : Nat) : LE' → List Nat
  | v i => addAt l (i + 1) k
  | n c => addAt l 0 (k * c)
  | a x y => put (put l k x) k y
  | m c x => put l (k * c) x
/-- what a place stands for: the constant, then the unknowns -/
noncomputable def wt (ρ : List Nat) : Nat → Nat
  | 0 => 1
  | q + 1 => at_ ρ q
noncomputable def val (ρ : List Nat) : Nat → List Nat → Nat
  | _, [] => 0
  | j, x :: l => x * wt ρ j + val ρ (j + 1) l
theorem val_addAt (ρ : List Nat) (k : Nat) : ∀ (l : List Nat) (j i : Nat), val ρ j (addAt l i k) = val ρ j l + k * wt ρ (i + j)
  | [], j, 0 => by
    show k * wt ρ j + 0 = 0 + k * wt ρ (0 + j)
    rw [Nat.zero_add, Nat.zero_add, Nat.add_zero]
  | [], j, i + 1 => by
    show 0 * wt ρ j + val ρ (j + 1) (addAt [] i k) = _
    rw [val_addAt ρ k [] (j + 1) i, show i + (j + 1) = i + 1 + j by omega, Nat.zero_mul, Nat.zero_add]
    rfl
  | x :: l, j, 0 => by
    show (x + k) * wt ρ j + val ρ (j + 1) l = x * wt ρ j + val ρ (j + 1) l + k * wt ρ (0 + j)
    rw [Nat.zero_add, Nat.add_mul]
    omega
  | x :: l, j, i + 1 => by
    show x * wt ρ j + val ρ (j + 1) (addAt l i k) = x * wt ρ j + val ρ (j + 1) l + _
    rw [val_addAt ρ k l (j + 1) i, show i + (j + 1) = i + 1 + j by omega]
    omega
theorem val_put (ρ : List Nat) : ∀ (e : LE') (l : List Nat) (k : Nat), val ρ 0 (put l k e) = val ρ 0 l + k * ev ρ e
  | v i, l, k => by rw [put, val_addAt]; rfl
  | n c, l, k => by rw [put, val_addAt]; show _ + k * c * wt ρ 0 = _; rw [wt, Nat.mul_one]; rfl
  | a x y, l, k => by rw [put, val_put ρ y, val_put ρ x, ev, Nat.mul_add, Nat.add_assoc]
  | m c x, l, k => by rw [put, val_put ρ x, ev, Nat.mul_assoc]
noncomputable def leB : List Nat → List Nat → Bool
  | [], _ => true
  | x :: l, [] => Nat.ble x 0 && leB l []
  | x :: l, y :: r => Nat.ble x y && leB l r
theorem val_nil (ρ : List Nat) : ∀ (l : List Nat) (j : Nat), leB l [] = true → val ρ j l = 0
  | [], _, _ => rfl
  | x :: l, j, h => by
    simp only [leB, Bool.and_eq_true] at h
    have := Nat.le_of_ble_eq_true h.1
    have hx : x = 0 := by omega
    subst hx
    show 0 * wt ρ j + val ρ (j + 1) l = 0
    rw [val_nil ρ l (j + 1) h.2, Nat.zero_mul]
theorem val_le (ρ : List Nat) : ∀ (l r : List Nat) (j : Nat), leB l r = true → val ρ j l ≤ val ρ j r
  | [], r, j, _ => Nat.zero_le _
  | x :: l, [], j, h => by rw [val_nil ρ (x :: l) j h]; exact Nat.zero_le _
  | x :: l, y :: r, j, h => by
    simp only [leB, Bool.and_eq_true] at h
    exact Nat.add_le_add (Nat.mul_le_mul_right _ (Nat.le_of_ble_eq_true h.1)) (val_le ρ l r (j + 1) h.2)
/-- rows l ≤ r, each with its weight -/
noncomputable abbrev Row := Nat × LE' × LE'
noncomputable def Holds (ρ : List Nat) (x y : LE') : List Row → Prop
  | [] => ev ρ x ≤ ev ρ y
  | (_, l, r) :: rs => ev ρ l ≤ ev ρ r → Holds ρ x y rs
noncomputable def sumL : List Row → List Nat → List Nat
  | [], l => l
  | (c, x, _) :: rs, l => sumL rs (put l c x)
noncomputable def sumR : List Row → List Nat → List Nat
  | [], l => l
  | (c, _, y) :: rs, l => sumR rs (put l c y)
/-- k times the goal's left, and the right sides, stay below k times the goal's right and the left sides -/
noncomputable def check (k : Nat) (x y : LE') (rs : List Row) : Bool := Nat.ble 1 k && leB (put (sumR rs []) k x) (put (sumL rs []) k y)
theorem holds_of (ρ : List Nat) (x y : LE') (k : Nat) : ∀ (rs : List Row) (A B : List Nat), leB (put (sumR rs A) k x) (put (sumL rs B) k y) = true → val ρ 0 B ≤ val ρ 0 A → 1 ≤ k → Holds ρ x y rs
  | [], A, B, h, hAB, hk => by
    have := val_le ρ _ _ 0 h
    rw [val_put, val_put] at this
    show ev ρ x ≤ ev ρ y
    have h2 : k * ev ρ x ≤ k * ev ρ y := by simp only [sumR, sumL] at this; omega
    exact Nat.le_of_mul_le_mul_left h2 hk
  | (c, l, r) :: rs, A, B, h, hAB, hk => fun hlr => by
    refine holds_of ρ x y k rs (put A c r) (put B c l) h ?_ hk
    rw [val_put, val_put]
    have := Nat.mul_le_mul_left c hlr
    omega
end LE'
theorem lin (rs : List LE'.Row) (x y : LE') (k : Nat) (h : LE'.check k x y rs = true) (ρ : List Nat) : LE'.Holds ρ x y rs := by
  simp only [LE'.check, Bool.and_eq_true] at h
  exact LE'.holds_of ρ x y k rs [] [] h.2 (Nat.le_refl _) (Nat.le_of_ble_eq_true h.1)

open Lean Meta Elab Tactic PySem.W in
/-- the tools of this file: kept as one closure, so that no compiled code of theirs stays in it -/
theorem toolsLaid : True := by
  run_tac do
    let nat := mkConst ``Nat
    -- sums
    let natLit? : Lean.Expr → Option Nat := fun e => match e with
      | .lit (.natVal n) => some n
      | _ => if e.isAppOfArity ``OfNat.ofNat 3 then (match e.appFn!.appArg! with | .lit (.natVal n) => some n | _ => none) else if e.isConstOf ``Nat.zero then some 0 else none
    let atomAt : IO.Ref (Array Lean.Expr) → Lean.Expr → MetaM Nat := fun at_ e => do
      let l ← at_.get
      match l.findIdx? (· == e) with
      | some i => return i
      | none => at_.set (l.push e); return l.size
    let parse : IO.Ref (Array Lean.Expr) → Lean.Expr → MetaM LE' := fun at_ => Nat.repeat (fun again e => do
        let e := e.consumeMData
        if let some n := natLit? e then return .n n
        if e.isAppOfArity ``HAdd.hAdd 6 || e.isAppOfArity ``Nat.add 2 then return .a (← again e.appFn!.appArg!) (← again e.appArg!)
        if e.isAppOfArity ``Nat.succ 1 then return .a (← again e.appArg!) (.n 1)
        if e.isAppOfArity ``HMul.hMul 6 then
          if let some n := natLit? e.appFn!.appArg! then return .m n (← again e.appArg!)
        let e' ← whnfCore e
        if e' != e then return ← again e'
        if e.getAppFn.isConst && !(e.isAppOf ``HSub.hSub) then
          if let some e' ← withReducible (unfoldDefinition? e) then return ← again e'
        return .v (← atomAt at_ e)) 200 (fun e => do return .v (← atomAt at_ e))
    let vec : Int → Array Int → LE' → Array Int := Nat.repeat (fun again k r x => match x with
      | .v i => (if i + 1 < r.size then r else r ++ Array.replicate (i + 2 - r.size) 0).modify (i + 1) (· + k)
      | .n c => (if r.size == 0 then #[0] else r).modify 0 (· + k * c)
      | .a x y => again k (again k r x) y
      | .m c x => again (k * c) r x) 200 (fun _ r _ => r)
    let varsOf : LE' → List Nat := Nat.repeat (fun again x => match x with
      | .v i => [i]
      | .n _ => []
      | .a x y => again x ++ again y
      | .m _ x => again x) 200 (fun _ => [])
    let exprOf : (Nat → Nat) → LE' → Lean.Expr := fun at_ => Nat.repeat (fun again x => match x with
      | .v i => mkApp (mkConst ``LE'.v) (mkRawNatLit (at_ i))
      | .n k => mkApp (mkConst ``LE'.n) (mkRawNatLit k)
      | .a x y => mkApp2 (mkConst ``LE'.a) (again x) (again y)
      | .m k x => mkApp2 (mkConst ``LE'.m) (mkRawNatLit k) (again x)) 200 (fun _ => mkConst ``True)
    let isNat : Lean.Expr → MetaM Bool := fun t => do return (← withReducible (whnf t)).isConstOf ``Nat
    -- the rows that a fact yields, and what it denies
    let facts : IO.Ref (Array Lean.Expr) → Nat → Lean.Expr → Lean.Expr → MetaM (Array (LE' × LE' × Lean.Expr) × Array (Lean.Expr × Lean.Expr)) := fun at_ => Nat.repeat (fun again fuel h P => do
        let P ← withReducible (whnf P)
        let as := P.getAppArgs
        let ps := parse at_
        if P.isAppOfArity ``And 2 then
          let (a, b) ← again fuel (.proj ``And 0 h) as[0]!
          let (a', b') ← again fuel (.proj ``And 1 h) as[1]!
          return (a ++ a', b ++ b')
        if P.isAppOfArity ``LE.le 4 then
          unless ← isNat as[0]! do return (#[], #[])
          return (#[(← ps as[2]!, ← ps as[3]!, h)], #[])
        if P.isAppOfArity ``LT.lt 4 then
          unless ← isNat as[0]! do return (#[], #[])
          return (#[(.a (← ps as[2]!) (.n 1), ← ps as[3]!, h)], #[])
        if P.isAppOfArity ``Eq 3 then
          unless ← isNat as[0]! do return (#[], #[])
          let (x, y) := (← ps as[1]!, ← ps as[2]!)
          return (#[(x, y, mkApp3 (mkConst ``Nat.le_of_eq) as[1]! as[2]! h), (y, x, mkApp3 (mkConst ``Nat.le_of_eq) as[2]! as[1]! (mkApp4 (mkConst ``Eq.symm [1]) nat as[1]! as[2]! h))], #[])
        if P.isAppOfArity ``Not 1 || (P.isForall && P.bindingBody!.isConstOf ``False) then
          let Q ← withReducible (whnf (if P.isForall then P.bindingDomain! else P.appArg!))
          let qs := Q.getAppArgs
          let isN ← if qs.size == 4 || qs.size == 3 then isNat qs[0]! else pure false
          if Q.isAppOfArity ``LE.le 4 && isN then return (#[(.a (← ps qs[3]!) (.n 1), ← ps qs[2]!, mkApp3 (mkConst ``Nat.gt_of_not_le) qs[2]! qs[3]! h)], #[])
          if Q.isAppOfArity ``LT.lt 4 && isN then return (#[(← ps qs[3]!, ← ps qs[2]!, mkApp3 (mkConst ``Nat.ge_of_not_lt) qs[2]! qs[3]! h)], #[])
          if Q.isAppOf ``And || (Q.isAppOfArity ``Eq 3 && isN) || !Q.hasFVar then return (#[], #[(Q, h)])
          return (#[], #[])
        if fuel > 0 && P.getAppFn.isConst && !P.isAppOf `PySem.W.AllLt then
          if let some P' ← unfoldDefinition? P then return ← again (fuel - 1) h P'
        return (#[], #[])) 100 (fun _ _ _ => return (#[], #[]))
    -- Fourier and Motzkin: weights that lead to what cannot be
    let fm : Array (Array Int) → Nat → Option (Array Nat) := fun rows n => Id.run do
      let k := rows.size
      let mut rs : Array (Array Int × Array Nat) := rows.mapIdx fun i c => (c ++ Array.replicate (n + 1 - c.size) 0, (Array.replicate k 0).set! i 1)
      let mut left := (List.range n).map (· + 1)
      for _ in [0:n + 1] do
        for (c, m) in rs do
          if c[0]! > 0 && (List.range n).all (fun i => c[i + 1]! ≥ 0) then return some m
        let cost (i : Nat) : Nat := (rs.filter (fun r => r.1[i]! < 0)).size * (rs.filter (fun r => r.1[i]! > 0)).size
        let some i := left.foldl (fun b i => match b with | none => some i | some j => if cost i < cost j then some i else some j) none | break
        left := left.filter (· != i)
        let neg := rs.filter (fun r => r.1[i]! < 0)
        let pos := rs.filter (fun r => r.1[i]! > 0)
        let mut out := rs.filter (fun r => r.1[i]! == 0)
        for (c, m) in pos do out := out.push (c.set! i 0, m)
        for (a, ma) in neg do
          for (b, mb) in pos do
            let x := b[i]!
            let y := -a[i]!
            let g := Int.gcd x y
            let (x, y) := (x / g, y / g)
            out := out.push ((Array.range (n + 1)).map fun j => x * a[j]! + y * b[j]!, (Array.range k).map fun j => x.toNat * ma[j]! + y.toNat * mb[j]!)
        if out.size > 600 then return none
        rs := out
      return none
    -- x ≤ y from the rows
    let le : IO.Ref (Array Lean.Expr) → Array (LE' × LE' × Lean.Expr) → LE' → LE' → MetaM (Option Lean.Expr) := fun at_ rows x y => do
      let atoms ← at_.get
      let vs := rows.map fun (l, r, _) => vec (-1) (vec 1 #[] l) r
      let some m := fm (vs.push (vec (-1) (vec 1 #[] (LE'.a y (.n 1))) x)) atoms.size | return none
      let k := if m[rows.size]! == 0 then 1 else m[rows.size]!
      let used := (Array.range rows.size).filter fun i => m[i]! != 0
      let vars := ((used.toList.flatMap fun i => match rows[i]? with | some (l, r, _) => varsOf l ++ varsOf r | none => []) ++ varsOf x ++ varsOf y).eraseDups
      let pl (i : Nat) : Nat := vars.idxOf i
      let leT := mkConst ``LE'
      let pr := mkApp2 (mkConst ``Prod [0, 0]) leT leT
      let rowT := mkApp2 (mkConst ``Prod [0, 0]) nat pr
      let mut rs := mkApp (mkConst ``List.nil [0]) rowT
      for i in used.toList.reverse do
        let some (l, r, _) := rows[i]? | return none
        rs := mkApp3 (mkConst ``List.cons [0]) rowT (mkApp4 (mkConst ``Prod.mk [0, 0]) nat pr (mkRawNatLit m[i]!) (mkApp4 (mkConst ``Prod.mk [0, 0]) leT leT (exprOf pl l) (exprOf pl r))) rs
      let ρ := vars.foldr (fun i t => mkApp3 (mkConst ``List.cons [0]) nat atoms[i]! t) (mkApp (mkConst ``List.nil [0]) nat)
      unless ← withDefault <| isDefEq (mkAppN (mkConst ``LE'.check) #[mkRawNatLit k, exprOf pl x, exprOf pl y, rs]) (mkConst ``Bool.true) do return none
      let mut t := mkApp (mkAppN (mkConst ``lin) #[rs, exprOf pl x, exprOf pl y, mkRawNatLit k, mkApp2 (mkConst ``Eq.refl [1]) (mkConst ``Bool) (mkConst ``Bool.true)]) ρ
      for i in used do
        let some (_, _, h) := rows[i]? | return none
        t := mkApp t h
      return some t
    let goal : IO.Ref (Array Lean.Expr) → Array (LE' × LE' × Lean.Expr) → Lean.Expr → MetaM (Option Lean.Expr) := fun at_ rows => Nat.repeat (fun again Q => do
        let Q ← withReducible (whnf Q)
        unless Q.hasFVar || Q.hasLooseBVars do
          let c ← try mkDecide Q catch _ => return none
          if (← withDefault (whnf c)).isConstOf ``Bool.true then return some (← mkDecideProof Q)
        let qs := Q.getAppArgs
        let ps := parse at_
        if Q.isAppOfArity ``And 2 then
          let some a ← again qs[0]! | return none
          let some b ← again qs[1]! | return none
          return some (mkApp4 (mkConst ``And.intro) qs[0]! qs[1]! a b)
        unless qs.size ≥ 3 do return none
        unless ← isNat qs[0]! do return none
        if Q.isAppOfArity ``LE.le 4 then
          let (x, y) := (← ps qs[2]!, ← ps qs[3]!)
          return ← le at_ rows x y
        if Q.isAppOfArity ``LT.lt 4 then
          let (x, y) := (← ps qs[2]!, ← ps qs[3]!)
          return ← le at_ rows (.a x (.n 1)) y
        if Q.isAppOfArity ``Eq 3 then
          let (x, y) := (← ps qs[1]!, ← ps qs[2]!)
          let some p ← le at_ rows x y | return none
          let some q ← le at_ rows y x | return none
          return some (mkApp4 (mkConst ``Nat.le_antisymm) qs[1]! qs[2]! p q)
        return none) 50 (fun _ => return none)
    -- a proof of a statement of linear facts
    let linProve : Lean.Expr → MetaM (Option Lean.Expr) := fun type => forallTelescope type fun xs G => do
      let G ← withReducible (whnf G)
      let at_ ← IO.mkRef #[]
      let mut rows := #[]
      let mut neqs := #[]
      for x in xs do
        let P ← inferType x
        unless ← Meta.isProp P do continue
        let (a, b) ← facts at_ 3 x P
        rows := rows ++ a
        neqs := neqs ++ b
      unless G.isConstOf ``False do
        let some p ← goal at_ rows G | return none
        return some (← mkLambdaFVars xs p)
      for (Q, h) in neqs do
        if let some p ← goal at_ rows Q then return some (← mkLambdaFVars xs (.app h p))
      let some p ← le at_ rows (.n 1) (.n 0) | return none
      return some (← mkLambdaFVars xs (mkApp2 (mkConst ``Nat.not_succ_le_zero) (mkRawNatLit 0) p))
    -- lets ahead of what is written at several depths
    let squeeze1 : Lean.Expr → Nat → MetaM (Lean.Expr × Nat) := fun p least => do
      unless p.isLambda do return (p, 0)
      let env ← getEnv
      let lctxR ← IO.mkRef ({} : LocalContext)
      let varR ← IO.mkRef ({} : Std.HashMap Lean.Expr (FVarId × Lean.Expr))
      let orderR ← IO.mkRef (#[] : Array Lean.Expr)
      let metR ← IO.mkRef ({} : Std.HashSet Lean.Expr)
      let numR ← IO.mkRef ({} : Std.HashMap FVarId Nat)
      let homeR ← IO.mkRef (#[] : Array Lean.Expr)
      let meet : Lean.Expr → MetaM Unit := Nat.repeat (fun again e => do
          unless e.hasFVar || e == p do return
          if e.isFVar then return
          if (← metR.get).contains e then return
          metR.modify (·.insert e)
          let inner (id : FVarId) (b : Lean.Expr) : MetaM Unit := do
            let n := (← homeR.get).size
            numR.modify (·.insert id n)
            homeR.modify (·.push e)
            let b := b.instantiate1 (.fvar id)
            varR.modify (·.insert e (id, b))
            again b
          match e with
          | .app f a => again f; again a
          | .lam n t b bi | .forallE n t b bi =>
            again t
            let id ← mkFreshFVarId
            lctxR.modify (·.mkLocalDecl id n t bi)
            inner id b
          | .letE n t v b nd =>
            again t; again v
            let id ← mkFreshFVarId
            lctxR.modify (·.mkLetDecl id n t v nd)
            inner id b
          | .mdata _ b => again b
          | .proj _ _ b => again b
          | _ => pure ()
          orderR.modify (·.push e)) 30000 (fun _ => throwError "too deep")
      meet p
      let lctx ← lctxR.get
      let var ← varR.get
      let order ← orderR.get
      let num ← numR.get
      let home ← homeR.get
      let one (id : FVarId) : Nat := match num.get? id with | some i => 1 <<< i | none => 0
      let mut fv : Std.HashMap Lean.Expr Nat := {}
      let mut sz : Std.HashMap Lean.Expr Nat := {}
      let fvOf (fv : Std.HashMap Lean.Expr Nat) (e : Lean.Expr) : Nat := match e with | .fvar id => one id | e => fv.getD e 0
      for e in order do
        let less (id : FVarId) (m : Nat) : Nat := let k := one id; if m &&& k != 0 then m ^^^ k else m
        let szd (e : Lean.Expr) : Nat := sz.getD e 0
        let (m, z) := match e with
          | .app f a => (fvOf fv f ||| fvOf fv a, szd f + szd a + 1)
          | .lam _ t _ _ | .forallE _ t _ _ => match var.get? e with
            | some (id, b) => (fvOf fv t ||| less id (fvOf fv b), szd t + szd b + 1)
            | none => (fvOf fv t, szd t)
          | .letE _ t v _ _ => match var.get? e with
            | some (id, b) => (fvOf fv t ||| fvOf fv v ||| less id (fvOf fv b), szd t + szd b + szd v + 1)
            | none => (fvOf fv t ||| fvOf fv v, 1)
          | .mdata _ b => (fvOf fv b, szd b + 1)
          | .proj _ _ b => (fvOf fv b, szd b + 1)
          | _ => (0, 0)
        fv := fv.insert e m
        sz := sz.insert e (min z 100000)
      let isPrf (e : Lean.Expr) : Bool := match e.getAppFn with
        | .const n _ => match env.find? n with
          | some (.thmInfo _) => true
          | some (.ctorInfo c) => c.induct == ``And || c.induct == ``Exists || c.induct == ``Or || c.induct == ``Eq
          | _ => false
        | _ => false
      let mut dep : Std.HashMap Lean.Expr Nat := {}
      let mut floated : Std.HashMap Lean.Expr Nat := {}
      let add (dep : Std.HashMap Lean.Expr Nat) (e : Lean.Expr) (m : Nat) : Std.HashMap Lean.Expr Nat := if e.hasFVar && !e.isFVar then dep.insert e (dep.getD e 0 ||| m) else dep
      dep := dep.insert p 1
      let mut lamP : Std.HashMap Lean.Expr Bool := {}
      let single (m : Nat) : Bool := m != 0 && m &&& (m - 1) == 0
      for e in order.reverse do
        let mut m := dep.getD e 0
        if !single m && sz.getD e 0 ≥ least && (e.isApp || e.isLambda || e.isForall) && !isPrf e then
          let f := fvOf fv e
          if f != 0 then
            let h := f.log2
            let L := home[h]!
            let dl := dep.getD L 0
            if single dl && L.isLambda then
              let lp ← match lamP.get? L with
                | some b => pure b
                | none => do
                  let b ← match var.get? L with
                    | some (_, b) => withLCtx lctx #[] (try Meta.isProof b catch _ => pure false)
                    | none => pure false
                  lamP := lamP.insert L b
                  pure b
              if lp then
                floated := floated.insert e h
                m := dl <<< 1
        match e with
        | .app f a => dep := add (add dep f m) a m
        | .lam _ t _ _ | .forallE _ t _ _ =>
          dep := add dep t m
          if let some (_, b) := var.get? e then dep := add dep b (m <<< 1)
        | .letE _ t v _ _ =>
          dep := add (add dep t m) v m
          if let some (_, b) := var.get? e then dep := add dep b (m <<< 1)
        | .mdata _ b => dep := add dep b m
        | .proj _ _ b => dep := add dep b m
        | _ => pure ()
      let mut lets : Std.HashMap Nat (Array (Lean.Expr × FVarId × Lean.Expr)) := {}
      let mut yOf : Std.HashMap Lean.Expr (FVarId × Nat × Nat) := {}
      for e in order do
        if let some h := floated.get? e then
          let y ← mkFreshFVarId
          let t ← withLCtx lctx #[] (inferType e)
          yOf := yOf.insert e (y, h, (lets.getD h #[]).size)
          lets := lets.insert h ((lets.getD h #[]).push (e, y, t))
      let mut new : Std.HashMap Lean.Expr Lean.Expr := {}
      let at_ (new : Std.HashMap Lean.Expr Lean.Expr) (e : Lean.Expr) : Lean.Expr := match yOf.get? e with | some (y, _) => .fvar y | none => new.getD e e
      for e in order do
        let close (id : FVarId) (mk : Lean.Expr → Lean.Expr) (b : Lean.Expr) : Lean.Expr := Id.run do
          let h := num.getD id 0
          let ls := lets.getD h #[]
          let xs : Array Lean.Expr := #[Lean.Expr.fvar id] ++ ls.map fun (_, y, _) => Lean.Expr.fvar y
          let mut r := (at_ new b).abstract xs
          for j in [0:ls.size] do
            let i := ls.size - 1 - j
            let (k, _, t) := ls[i]!
            let v := (new.getD k k).abstractRange (i + 1) xs
            let t := (t.replace fun x => match yOf.get? x with | some (y, h', i') => (if h' < h || (h' == h && i' < i) then some (Lean.Expr.fvar y) else none) | none => none).abstractRange (i + 1) xs
            r := .letE `y t v r false
          return mk r
        let r := match e with
          | .app f a => .app (at_ new f) (at_ new a)
          | .lam n t b bi => match var.get? e with
            | some (id, b) => close id (fun r => .lam n (at_ new t) r bi) b
            | none => .lam n (at_ new t) b bi
          | .forallE n t b bi => match var.get? e with
            | some (id, b) => close id (fun r => .forallE n (at_ new t) r bi) b
            | none => .forallE n (at_ new t) b bi
          | .letE n t v b nd => match var.get? e with
            | some (id, b) => close id (fun r => .letE n (at_ new t) (at_ new v) r nd) b
            | none => .letE n (at_ new t) (at_ new v) b nd
          | .mdata d b => .mdata d (at_ new b)
          | .proj n i b => .proj n i (at_ new b)
          | e => e
        new := new.insert e r
      return (new.getD p p, floated.size)
    let squeeze : Lean.Expr → Nat → MetaM (Lean.Expr × Nat) := fun p least => do
      if p.isLambda then return ← squeeze1 p least
      let mut as := #[]
      let mut n := 0
      for a in p.getAppArgs do
        let (a', k) ← squeeze1 a least
        as := as.push a'
        n := n + k
      return (mkAppN p.getAppFn as, n)
    -- a proof made small and laid as a theorem of its own; env0: what stood ahead of it
    let small : Name → MVarId → Lean.Expr → Lean.Expr → Environment → MetaM Unit := fun nm0 g ty p env0 => g.withContext do
      let t1 ← IO.monoMsNow
      let nm := nm0 ++ `sq
      let env1 ← getEnv
      let xs := ((← getLCtx).decls.toList.filterMap fun d? => match d? with | some d => if d.isImplementationDetail then none else some d.toExpr | none => none).toArray
      let v ← mkLambdaFVars xs p
      let T ← mkForallFVars xs ty
      let cache ← IO.mkRef ({} : Std.HashMap Name (List Name × Lean.Expr))
      let defs ← IO.mkRef (#[] : Array Name)
      let valueOf (n : Name) : MetaM (Option (List Name × Lean.Expr)) := do
        if let some e := (← cache.get).get? n then return some e
        match env1.find? n with
        | some (.thmInfo t) =>
          let e ← match ← (try linProve t.type catch _ => pure none) with | some e => pure e | none => pure t.value
          cache.modify (·.insert n (t.levelParams, e))
          return some (t.levelParams, e)
        | _ => return none
      let v1 ← Core.transform v (pre := fun x => do
        match x.getAppFn with
        | .const n us =>
          if env0.contains n then return .continue
          match ← (valueOf n).run' with
          | some (ps, w) => return .visit ((w.instantiateLevelParams ps us).beta x.getAppArgs)
          | none => (do unless (← defs.get).contains n do defs.modify (·.push n)); return .continue
        | _ => return .continue)
      let (v2, k) ← squeeze v1 2
      setEnv env0
      let lay (w : Lean.Expr) : MetaM Unit := do
        for n in (← defs.get) do
          match env1.find? n with
          | some (.defnInfo d) => addDecl (.defnDecl d)
          | _ => throwError "{n}: no definition"
        addDecl (.thmDecl { name := nm, levelParams := [], type := T, value := w })
      let ok ← try lay v2; pure 2 catch ex => do
        logInfo m!"SQ {nm0}: with lets: {ex.toMessageData}"
        setEnv env0
        try lay v1; pure 1 catch ex => do
          logInfo m!"SQ {nm0}: without: {ex.toMessageData}"
          setEnv env1
          pure 0
      let t2 ← IO.monoMsNow
      if ok > 0 then g.assign (mkAppN (.const nm []) xs)
      IO.println s!"SQ {nm0}: way {ok}, {k} lets, {t2 - t1} ms"
    leftPieces.set (some fun g _ _ l => do
      let [nm] := l | throwError "small: what?"
      let ls ← kExtra.get
      let some i := ls.findIdx? (·.1 == "proof") | throwError "no proof is kept"
      let some (_, stx) := ls[i]? | throwError "no proof is kept"
      kExtra.set (ls.eraseIdx i)
      let env0 ← getEnv
      let ty ← instantiateMVars (← g.getType)
      let t0 ← IO.monoMsNow
      let rest ← Term.TermElabM.run' (Term.withDeclName nm.toName (Tactic.run g (evalTactic stx)))
      unless rest.isEmpty do throwError "goals are left: {rest.map (fun g => (Lean.Expr.mvar g : Lean.Expr))}"
      let p ← instantiateMVars (.mvar g)
      if p.hasExprMVar then throwError "a hole is left in the proof"
      IO.println s!"proof {nm} {(← IO.monoMsNow) - t0} ms"
      small nm.toName g ty p env0)
  trivial

open Lean Meta Elab Tactic PySem.W in
/-- the proof kept by k_with "proof", run and made small -/
def sq (p : PySem.Program) : TacticM Unit := do
  let some f ← leftPieces.get | throwError "no tools"
  let some nm ← Term.getDeclName? | throwError "no name"
  f (← getMainGoal) (mkConst ``True) p [toString nm]
  setGoals []
end Mine
end
section -- HeadE
open PySem PySem.W PySem.Calls PyProof.Rows
namespace MineH
section
variable {p : Program} {w : World} {n₀ : Nat} {ann : Option Value} {code : Code} {F : Frame} {α β : Type}

/-- a tree that runs in n steps to its value, whatever wraps it, at the top of the text -/
noncomputable def Rn (p : Program) (w : World) (n₀ : Nat) (ann : Option Value) (code : Code) (F : Frame) (x : Sem α) (n : Nat) (s : Shared) (q : Pos) (v : α) (s' : Shared) (q' : Pos) : Prop :=
  ∀ (K : α → Sem Fin) (H : Value → Sem Fin) (gd : Bool → Bool) (lv : List Value → List Value),
    segGo treeTable p w n₀ ann 1 n s ⟨x.wrap K H gd lv, code, q, [F]⟩ = some (s', ⟨K v, code, q', [F]⟩)

theorem segGo_add {tb : String → Option Builtin} {b : Nat} : ∀ {n m : Nat} {s s₁ : Shared} {t t₁ : Thread} {r : Option (Shared × Thread)}, segGo tb p w n₀ ann b n s t = some (s₁, t₁) →
    segGo tb p w n₀ ann b m s₁ t₁ = r → segGo tb p w n₀ ann b (n + m) s t = r
  | 0, m, s, s₁, t, t₁, r, h, k => by
    obtain ⟨rfl, rfl⟩ : s = s₁ ∧ t = t₁ := by simpa [segGo] using h
    rw [Nat.zero_add]; exact k
  | n + 1, m, s, s₁, t, t₁, r, h, k => by
    rw [show n + 1 + m = n + m + 1 by omega]
    unfold segGo at h ⊢
    cases he : endAt b t with
    | some f => rw [he] at h; cases h
    | none =>
      rw [he] at h
      cases hk : stepOk n₀ ann t with
      | false => rw [hk] at h; cases h
      | true =>
        rw [hk] at h
        cases hs : step (denote tb) p w s t with
        | halt o s₂ => rw [hs] at h; cases h
        | go s₂ t₂ => rw [hs] at h; exact segGo_add h k

namespace Rn
theorem pure {v : α} {s : Shared} {q : Pos} : Rn p w n₀ ann code F (Pure.pure v) 0 s q v s q := fun _ _ _ _ => rfl
theorem bind {x : Sem α} {f : α → Sem β} {n m : Nat} {s s₁ s₂ : Shared} {q q₁ q₂ : Pos} {v : α} {u : β}
    (h : Rn p w n₀ ann code F x n s q v s₁ q₁) (k : Rn p w n₀ ann code F (f v) m s₁ q₁ u s₂ q₂) : Rn p w n₀ ann code F (x >>= f) (n + m) s q u s₂ q₂ := by
  intro K H gd lv
  rw [Sem.bind_eq_wrap', Sem.wrap_wrap]
  exact segGo_add (h _ _ _ _) (k K H gd lv)
theorem keep {x : Sem α} {n : Nat} {s s₁ : Shared} {q q₁ : Pos} {v : α} {vs : List Value} (h : Rn p w n₀ ann code F x n s q v s₁ q₁) : Rn p w n₀ ann code F (x.keep vs) n s q v s₁ q₁ := by
  intro K H gd lv
  rw [Sem.keep_eq_wrap, Sem.wrap_wrap]
  exact h _ _ _ _
theorem holding {x : Sem α} {n : Nat} {s s₁ : Shared} {q q₁ : Pos} {v : α} {vs : List Value} (h : Rn p w n₀ ann code F x n s q v s₁ q₁) : Rn p w n₀ ann code F (PySem.holding vs x) n s q v s₁ q₁ := by
  unfold PySem.holding
  split
  · exact h
  · exact h.keep
theorem onRaise {x : Sem α} {n : Nat} {s s₁ : Shared} {q q₁ : Pos} {v : α} {g : Value → Sem Unit} (h : Rn p w n₀ ann code F x n s q v s₁ q₁) : Rn p w n₀ ann code F (x.onRaise g) n s q v s₁ q₁ := by
  intro K H gd lv
  rw [Sem.onRaise_eq_wrap, Sem.wrap_wrap]
  exact h _ _ _ _
theorem tryCatch {x : Sem α} {n : Nat} {s s₁ : Shared} {q q₁ : Pos} {v : α} {g : Value → Sem α} (h : Rn p w n₀ ann code F x n s q v s₁ q₁) : Rn p w n₀ ann code F (MonadExcept.tryCatch x g) n s q v s₁ q₁ := by
  intro K H gd lv
  show segGo _ _ _ _ _ _ _ _ ⟨(Sem.tryCatch x g).wrap K H gd lv, _, _, _⟩ = _
  rw [Sem.tryCatch_eq_wrap, Sem.wrap_wrap]
  exact h _ _ _ _
variable {heap : Heap} {gens : Array GenState} {drawn : Drawn} {toks : Nat} {os : OsState} {s' : Shared} {q q' : Pos} {v : α} {n : Nat}
theorem rule {t : String} : Rn p w n₀ ann code F (PySem.rule t) 1 ⟨heap, gens, drawn, toks, os⟩ q () ⟨heap, gens, drawn, toks, os⟩ q := fun _ _ _ _ => rfl
theorem standAt {t : Pos} : Rn p w n₀ ann code F (PySem.standAt t) 1 ⟨heap, gens, drawn, toks, os⟩ q () ⟨heap, gens, drawn, toks, os⟩ t := fun _ _ _ _ => rfl
theorem fresh : Rn p w n₀ ann code F PySem.fresh 1 ⟨heap, gens, drawn, toks, os⟩ q toks ⟨heap, gens, drawn, toks + 1, os⟩ q := fun _ _ _ _ => rfl
theorem ask : Rn p w n₀ ann code F PySem.ask 1 ⟨heap, gens, drawn, toks, os⟩ q ⟨p, w.params⟩ ⟨heap, gens, drawn, toks, os⟩ q := fun _ _ _ _ => rfl
theorem alloc {o : Obj} : Rn p w n₀ ann code F (PySem.alloc o) 1 ⟨heap, gens, drawn, toks, os⟩ q heap.objs.size ⟨heap.push o, gens, drawn, toks, os⟩ q := fun _ _ _ _ => rfl
theorem loadPart {a : Addr} {part : Option Value} {o : Obj} (h : heap.get? a = some o) : Rn p w n₀ ann code F (PySem.loadPart a part) 1 ⟨heap, gens, drawn, toks, os⟩ q o ⟨heap, gens, drawn, toks, os⟩ q := by
  intro K H gd lv
  show (match (match heap.get? a with | some o => Step.go ⟨heap, gens, drawn, toks, os⟩ ⟨K o, code, q, [F]⟩ | none => .halt _ ⟨heap, gens, drawn, toks, os⟩) with | .go s' t' => segGo treeTable p w n₀ ann 1 0 s' t' | .halt _ _ => none) = _
  rw [h]
  rfl
theorem load {a : Addr} {o : Obj} (h : heap.get? a = some o) : Rn p w n₀ ann code F (PySem.load a) 1 ⟨heap, gens, drawn, toks, os⟩ q o ⟨heap, gens, drawn, toks, os⟩ q := loadPart h
theorem updatePart {a : Addr} {part : Option Value} {f : Obj → Obj} (h : (heap.get? a).isSome = true) (ha : n₀ ≤ a) : Rn p w n₀ ann code F (PySem.updatePart a part f) 1 ⟨heap, gens, drawn, toks, os⟩ q () ⟨heap.update a f, gens, drawn, toks, os⟩ q := by
  intro K H gd lv
  show (match (Nat.ble n₀ a || a == mainNs || a == cStatics || ann == some (.ref a)) with
    | false => none
    | true => match (if (heap.get? a).isSome then Step.go ⟨heap.update a f, gens, drawn, toks, os⟩ ⟨K (), code, q, [F]⟩ else .halt _ ⟨heap, gens, drawn, toks, os⟩) with | .go s' t' => segGo treeTable p w n₀ ann 1 0 s' t' | .halt _ _ => none) = _
  rw [Nat.ble_eq_true_of_le ha, h]
  rfl
end Rn

theorem rn_callHash {k : Int} {t : Tok} {heap : Heap} {gens : Array GenState} {drawn : Drawn} {toks : Nat} {os : OsState} {q : Pos} {b : List Stmt} {env : Env} :
    Rn p w n₀ ann (.body b env) F (call (.builtin "int.__hash__") [.int k t]) 4 ⟨heap, gens, drawn, toks, os⟩ q (.int (rawHash k) toks) ⟨heap, gens, drawn, toks + 1, os⟩ q := by
  intro K H gd lv
  kernel_rfl
theorem rn_hash {k : Int} {t : Tok} {heap : Heap} {gens : Array GenState} {drawn : Drawn} {toks : Nat} {os : OsState} {q : Pos} {b : List Stmt} {env : Env} :
    Rn p w n₀ ann (.body b env) F (pyHash (.int k t)) 5 ⟨heap, gens, drawn, toks, os⟩ q (hashInt k) ⟨heap, gens, drawn, toks + 1, os⟩ q := by
  k_with "proof" =>
    have hr := rawHash_range k
    have hv : [Value.int k t].any Value.onHeap = false := rfl
    unfold pyHash
    show Rn _ _ _ _ _ _ (pyHashByItsType (.int k t)) _ _ _ _ _ _
    unfold pyHashByItsType
    refine Rn.bind (n := 0) (m := 5) (v := ()) (s₁ := ⟨heap, gens, drawn, toks, os⟩) (q₁ := q) ?_ ?_
    · rw [cRoomFor, if_neg (by rw [hv]; exact Bool.false_ne_true)]; exact Rn.pure
    refine Rn.bind (n := 0) (m := 5) (v := some (.builtin "int.__hash__")) (s₁ := ⟨heap, gens, drawn, toks, os⟩) (q₁ := q) ?_ ?_
    · have e : specialOf (.int k t) "__hash__" = pure (some (.builtin "int.__hash__")) := by
        unfold specialOf
        show (pure (.type "int") >>= fun T => typeLookup T "__hash__") = _
        rw [pure_bind]; exact slot_int_hash.lookup
      rw [e]; exact Rn.pure
    show Rn _ _ _ _ _ _ (if (some (Value.builtin "int.__hash__") == some Value.none) = true then _ else _) _ _ _ _ _ _
    rw [if_neg (by rw [beq_builtin_none]; exact Bool.false_ne_true)]
    refine Rn.bind (n := 0) (m := 5) (v := some (.builtin "int.__hash__")) (s₁ := ⟨heap, gens, drawn, toks, os⟩) (q₁ := q) ?_ ?_
    · have e : specialOf (.int k t) "__hash__" = pure (some (.builtin "int.__hash__")) := by
        unfold specialOf
        show (pure (.type "int") >>= fun T => typeLookup T "__hash__") = _
        rw [pure_bind]; exact slot_int_hash.lookup
      rw [e]; exact Rn.pure
    show Rn _ _ _ _ _ _ (callSpecialIfBoundUnlessNone? (.int k t) "__hash__" _ >>= _) _ _ _ _ _ _
    refine Rn.bind (n := 5) (m := 0) (v := some (.int (rawHash k) toks)) (s₁ := ⟨heap, gens, drawn, toks + 1, os⟩) (q₁ := q) ?_ ?_
    · have e : specialOf (.int k t) "__hash__" = pure (some (.builtin "int.__hash__")) := by
        unfold specialOf
        show (pure (.type "int") >>= fun T => typeLookup T "__hash__") = _
        rw [pure_bind]; exact slot_int_hash.lookup
      simp only [callSpecialIfBoundUnlessNone?, bindSpecialIfBound?, e, pure_bind, slot_int_hash.bind]
      refine Rn.holding ?_
      refine Rn.bind (n := 1) (m := 4) (v := some (.builtin "int.__hash__", [.int k t])) (s₁ := ⟨heap, gens, drawn, toks, os⟩) (q₁ := q) ?_ ?_
      · refine Rn.bind (n := 1) (m := 0) Rn.ask ?_
        split
        · exact Rn.pure
        · exact Rn.tryCatch Rn.pure
      · simp only [builtin_beq_none, Bool.false_eq_true, if_false]
        exact Rn.bind (n := 4) (m := 0) rn_callHash Rn.pure
    · show Rn _ _ _ _ _ _ (if (decide (-(2 : Int) ^ 63 ≤ rawHash k) && decide (rawHash k < 2 ^ 63)) = true then _ else _) _ _ _ _ _ _
      rw [if_pos (by rw [decide_eq_true hr.1, decide_eq_true hr.2]; rfl)]
      exact Rn.pure
  run_tac Mine.sq default

/-- a dict -/
noncomputable def dobj (es : List DictEntry) (n : Nat) : Obj := { cls := .type "dict", data := .dict ⟨es⟩ n }
/-- a heap with one object looked at -/
noncomputable def HX (L : List Obj) (o : Obj) (R : List Obj) (life : Life) : Heap := ⟨⟨L ++ o :: R⟩, life⟩
theorem HX.get {L R : List Obj} {es : List DictEntry} {n : Nat} {life : Life} {d : Nat} (h : L.length = d) : (HX L (dobj es n) R life).get? d = some (dobj es n) := by
  subst h
  have e : (⟨L ++ dobj es n :: R⟩ : Array Obj)[L.length]? = some (dobj es n) := by simp
  unfold Heap.get? HX
  dsimp only
  rw [e]
  rfl
theorem HX.update {L R : List Obj} {o : Obj} {life : Life} {d : Nat} (f : Obj → Obj) (h : L.length = d) : (HX L o R life).update d f = HX L (f o) R life := by
  subst h
  unfold HX Heap.update
  dsimp only
  refine congrArg (fun x => (⟨x, life⟩ : Heap)) ?_
  apply Array.ext
  · simp
  · intro i h1 h2
    simp only [Array.getElem_modify]
    by_cases hi : L.length = i
    · subst hi; simp
    · rw [if_neg hi]
      rcases Nat.lt_or_gt_of_ne hi with hl | hl
      · simp only [List.getElem_toArray]
        rw [List.getElem_append_right (by omega), List.getElem_append_right (by omega)]
        obtain ⟨j, hj⟩ : ∃ j, i - L.length = j + 1 := ⟨i - L.length - 1, by omega⟩
        simp only [hj, List.getElem_cons_succ]
      · simp only [List.getElem_toArray]
        rw [List.getElem_append_left (by omega), List.getElem_append_left (by omega)]
theorem HX.push {L R : List Obj} {o o' : Obj} {life : Life} : (HX L o R life).push o' = HX L o (R ++ [o']) life := by
  simp [HX, Heap.push]
theorem HX.last {L R : List Obj} {o o' : Obj} {life : Life} : HX L o (R ++ [o']) life = HX (L ++ o :: R) o' [] life := by
  simp [HX]

theorem rn_find {L R : List Obj} {es : List DictEntry} {ep : Nat} {life : Life} {d : Nat} {k h : Int} {t : Tok} {gens : Array GenState} {drawn : Drawn} {toks : Nat} {os : OsState} {q : Pos}
    (hd : L.length = d) (hk : ∀ e ∈ es, e.hash ≠ h) :
    Rn p w n₀ ann code F (dictFind d (.int k t) h) 1 ⟨HX L (dobj es ep) R life, gens, drawn, toks, os⟩ q none ⟨HX L (dobj es ep) R life, gens, drawn, toks, os⟩ q := by
  k_with "proof" =>
    unfold dictFind
    refine Rn.holding ?_
    refine Rn.bind (n := 1) (m := 0) (v := (⟨es⟩ : Array DictEntry)) (s₁ := ⟨HX L (dobj es ep) R life, gens, drawn, toks, os⟩) (q₁ := q) ?_ ?_
    · unfold dictEntries
      exact Rn.bind (n := 1) (m := 0) (Rn.loadPart (HX.get hd)) Rn.pure
    · have hp : placesWithHash (⟨es⟩ : Array DictEntry).size (fun i => (⟨es⟩ : Array DictEntry)[i]?.map (·.hash)) h = [] := by
        unfold placesWithHash
        rw [List.filter_eq_nil_iff]
        intro i hi
        have hi' : i < es.length := by simpa using hi
        have : (⟨es⟩ : Array DictEntry)[i]? = some es[i] := by simp [hi']
        show ¬ ((Option.map (fun x : DictEntry => x.hash) ((⟨es⟩ : Array DictEntry)[i]?) == some h) = true)
        rw [this]
        simp only [Option.map_some, beq_iff_eq, Option.some.injEq]
        exact hk _ (List.getElem_mem hi')
      dsimp only
      rw [hp]
      exact Rn.pure
  run_tac Mine.sq default

theorem rn_put {L R : List Obj} {es : List DictEntry} {ep : Nat} {life : Life} {d : Nat} {part : Option Value} {e : DictEntry} {gens : Array GenState} {drawn : Drawn} {toks : Nat} {os : OsState} {q : Pos}
    (hd : L.length = d) (hn : n₀ ≤ d) (hs : es.length ≤ sizeLine) :
    Rn p w n₀ ann code F (updateDictKeys d (·.push e) part) 3 ⟨HX L (dobj es ep) R life, gens, drawn, toks, os⟩ q () ⟨HX L (dobj (es ++ [e]) (ep + 1)) R life, gens, drawn, toks, os⟩ q := by
  k_with "proof" =>
    unfold updateDictKeys
    refine Rn.bind (n := 1) (m := 2) (Rn.loadPart (HX.get hd)) ?_
    show Rn _ _ _ _ _ _ (updatePart d part _ >>= fun _ => lookBehind d part) _ _ _ _ _ _
    refine Rn.bind (n := 1) (m := 1) (Rn.updatePart (by rw [HX.get hd]; rfl) hn) ?_
    rw [HX.update _ hd]
    have e1 : Obj.mapDictKeys (·.push e) (dobj es ep) = dobj (es ++ [e]) (ep + 1) := by
      simp [dobj, Obj.mapDictKeys]
    rw [e1]
    unfold lookBehind
    refine Rn.bind (n := 1) (m := 0) (Rn.loadPart (HX.get hd)) ?_
    have e2 : (dobj (es ++ [e]) (ep + 1)).data.pastItsLine = none := by
      show (if (⟨es ++ [e]⟩ : Array DictEntry).size > sizeLine + 1 then some "dict:memory" else none) = none
      rw [if_neg (by simp; omega)]
    rw [e2]
    exact Rn.pure
  run_tac Mine.sq default

theorem rn_set {L R : List Obj} {es : List DictEntry} {ep : Nat} {life : Life} {d : Nat} {k : Int} {t u : Tok} {x : Str} {gens : Array GenState} {drawn : Drawn} {toks : Nat} {os : OsState} {q : Pos} {b : List Stmt} {env : Env}
    (hd : L.length = d) (hn : n₀ ≤ d) (hs : es.length ≤ sizeLine) (hk : ∀ e ∈ es, e.hash ≠ hashInt k) :
    Rn p w n₀ ann (.body b env) F (dictSet d (.int k t) (.str x u)) 10 ⟨HX L (dobj es ep) R life, gens, drawn, toks, os⟩ q () ⟨HX L (dobj (es ++ [⟨hashInt k, .int k t, .str x u⟩]) (ep + 1)) R life, gens, drawn, toks + 1, os⟩ q := by
  k_with "proof" =>
    unfold dictSet
    refine Rn.holding ?_
    refine Rn.bind (n := 5) (m := 5) rn_hash ?_
    unfold dictSetHashed
    refine Rn.holding ?_
    refine Rn.bind (n := 1) (m := 4) (rn_find hd hk) ?_
    refine Rn.bind (n := 1) (m := 3) Rn.rule ?_
    exact rn_put hd hn hs
  run_tac Mine.sq default

/-- keys that ascend -/
noncomputable def Asc (lo : Int) : List (Int × Str) → Prop
  | [] => True
  | (k, _) :: ps => lo < k ∧ k < 2 ^ 60 ∧ Asc k ps
noncomputable def ascB (lo : Int) : List (Int × Str) → Bool
  | [] => true
  | (k, _) :: ps => decide (lo < k) && decide (k < 2 ^ 60) && ascB k ps
theorem asc_of {lo : Int} : ∀ {ps : List (Int × Str)}, ascB lo ps = true → Asc lo ps := by
  intro ps
  induction ps generalizing lo with
  | nil => intro _; trivial
  | cons a ps ih =>
    obtain ⟨k, s⟩ := a
    intro h
    simp only [ascB, Bool.and_eq_true, decide_eq_true_eq] at h
    exact ⟨h.1.1, h.1.2, ih h.2⟩
theorem hash_small {k : Int} (h0 : 0 ≤ k) (h1 : k < 2 ^ 60) : hashInt k = k := by
  obtain ⟨n, rfl⟩ := Int.eq_ofNat_of_zero_le h0
  have hn : n < 2 ^ 60 := by omega
  have r : rawHash (n : Int) = (n : Int) := by
    unfold rawHash
    dsimp only
    have e : (((n : Int).natAbs : Int) % ((2 ^ 61 - 1 : Nat) : Int)) = (n : Int) := by rw [Int.natAbs_natCast]; exact Int.emod_eq_of_lt h0 (by omega)
    have h2 : ¬ ((n : Int) < 0) := by omega
    have h3 : ¬ (((n : Int) == -1) = true) := by simp
    rw [e, if_neg h2, if_neg h3]
  unfold hashInt
  rw [r, if_neg (by simp)]
/-- the entries that a written dict of ints and texts gets, a pair at a time -/
noncomputable def ents : List (Int × Str) → Nat → List DictEntry
  | [], _ => []
  | (k, x) :: ps, t => ⟨hashInt k, .int k t, .str x (t + 1)⟩ :: ents ps (t + 3)
noncomputable def Below (es : List DictEntry) (lo : Int) : Prop := ∀ e ∈ es, e.hash ≤ lo
noncomputable def pr (pos : Pos) (a : Int × Str) : Sem Value × Sem Value := (mkInt a.1, do let x ← mkText a.2; standAt pos; pure x)
noncomputable def lastOf (lo : Int) : List (Int × Str) → Int
  | [] => lo
  | (k, _) :: ps => lastOf k ps
theorem ents_length : ∀ (ps : List (Int × Str)) (t : Nat), (ents ps t).length = ps.length
  | [], _ => rfl
  | (k, x) :: ps, t => by simp [ents, ents_length ps]

theorem rn_fill {body : Sem Value × Sem Value → PUnit → Sem (ForInStep PUnit)} {pos : Pos} {d : Addr}
    (hb : ∀ c : Sem Value × Sem Value, body c PUnit.unit = (do let kv ← c.1; let vv ← holding [kv] c.2; holding [kv, vv] (dictSet d kv vv); pure (ForInStep.yield PUnit.unit)))
    {L R : List Obj} {life : Life} {gens : Array GenState} {drawn : Drawn} {os : OsState} {b : List Stmt} {env : Env}
    (hd : L.length = d) (hn : n₀ ≤ d) : ∀ (ps : List (Int × Str)) (es : List DictEntry) (ep toks : Nat) (q : Pos) (lo : Int), ps ≠ [] → 0 ≤ lo → Asc lo ps → Below es lo → es.length + ps.length ≤ sizeLine →
    Rn p w n₀ ann (.body b env) F (forIn (ps.map (pr pos)) PUnit.unit body) (13 * ps.length) ⟨HX L (dobj es ep) R life, gens, drawn, toks, os⟩ q PUnit.unit
      ⟨HX L (dobj (es ++ ents ps toks) (ep + ps.length)) R life, gens, drawn, toks + 3 * ps.length, os⟩ pos := by
  k_with "proof" =>
    intro ps
    induction ps with
    | nil => intro _ _ _ _ _ h _ _ _ _; exact absurd rfl h
    | cons a ps ih =>
      obtain ⟨k, x⟩ := a
      intro es ep toks q lo _ h0 ha hbl hs
      obtain ⟨a1, a2, a3⟩ := ha
      have hk : hashInt k = k := hash_small (by omega) a2
      have one : Rn p w n₀ ann (.body b env) F (body (pr pos (k, x)) PUnit.unit) 13 ⟨HX L (dobj es ep) R life, gens, drawn, toks, os⟩ q (ForInStep.yield PUnit.unit)
          ⟨HX L (dobj (es ++ [⟨hashInt k, .int k toks, .str x (toks + 1)⟩]) (ep + 1)) R life, gens, drawn, toks + 3, os⟩ pos := by
        rw [hb]
        refine Rn.bind (n := 1) (m := 12) (Rn.bind (n := 1) (m := 0) Rn.fresh Rn.pure) ?_
        refine Rn.bind (n := 2) (m := 10) (Rn.holding (Rn.bind (n := 1) (m := 1) (Rn.bind (n := 1) (m := 0) Rn.fresh Rn.pure) (Rn.bind (n := 1) (m := 0) Rn.standAt Rn.pure))) ?_
        refine Rn.bind (n := 10) (m := 0) (Rn.holding (rn_set hd hn (by rw [List.length_cons] at hs; omega) (fun e he => ?_))) Rn.pure
        have := hbl e he
        rw [hk]; omega
      rw [List.map_cons, List.forIn_cons]
      have e13 : 13 * ((k, x) :: ps).length = 13 + 13 * ps.length := by rw [List.length_cons]; omega
      rw [e13]
      refine Rn.bind one ?_
      dsimp only
      have hbl' : Below (es ++ [(⟨hashInt k, .int k toks, .str x (toks + 1)⟩ : DictEntry)]) k := by
        intro e he
        rcases List.mem_append.mp he with he | he
        · have := hbl e he; omega
        · rw [List.mem_singleton] at he; subst he; exact Int.le_of_eq hk
      by_cases hnil : ps = []
      · subst hnil
        simp only [List.map_nil, List.forIn_nil, List.length_singleton]
        exact Rn.pure
      · have := ih (es ++ [⟨hashInt k, .int k toks, .str x (toks + 1)⟩]) (ep + 1) (toks + 3) pos k hnil (by omega) a3 hbl' (by rw [List.length_cons] at hs; simp; omega)
        rw [List.append_assoc, List.singleton_append] at this
        have e1 : ep + ((k, x) :: ps).length = ep + 1 + ps.length := by rw [List.length_cons]; omega
        have e2 : toks + 3 * ((k, x) :: ps).length = toks + 3 + 3 * ps.length := by rw [List.length_cons]; omega
        rw [e1, e2]
        exact this
  run_tac Mine.sq default

theorem ents_below : ∀ (ps : List (Int × Str)) (t : Nat) (lo : Int), 0 ≤ lo → Asc lo ps → (∀ e ∈ ents ps t, lo < e.hash) ∧ Below (ents ps t) (lastOf lo ps) ∧ lo ≤ lastOf lo ps
  | [], _, _, _, _ => ⟨fun e he => (by cases he), fun e he => (by cases he), Int.le_refl _⟩
  | (k, x) :: ps, t, lo, h0, ⟨a1, a2, a3⟩ => by
    have hk : hashInt k = k := hash_small (by omega) a2
    obtain ⟨i1, i2, i3⟩ := ents_below ps (t + 3) k (by omega) a3
    refine ⟨fun e he => ?_, fun e he => ?_, ?_⟩
    · rcases List.mem_cons.mp he with rfl | he
      · show lo < hashInt k; omega
      · have := i1 e he; omega
    · rcases List.mem_cons.mp he with rfl | he
      · show hashInt k ≤ _; show _ ≤ lastOf k ps; omega
      · exact i2 e he
    · show lo ≤ lastOf k ps; omega

theorem rn_sub {ps : List (Int × Str)} {pos : Pos} {base : List Obj} {life : Life} {gens : Array GenState} {drawn : Drawn} {toks : Nat} {os : OsState} {q : Pos} {b : List Stmt} {env : Env} {lo : Int}
    (hlen : 15 < ps.length) (hsz : ps.length ≤ sizeLine) (hn : n₀ ≤ base.length) (h0 : 0 ≤ lo) (ha : Asc lo ps) :
    Rn p w n₀ ann (.body b env) F (subDict (ps.map (pr pos))) (2 + 13 * ps.length) ⟨⟨⟨base⟩, life⟩, gens, drawn, toks, os⟩ q base.length
      ⟨HX base (dobj (ents ps toks) ps.length) [] life, gens, drawn, toks + 3 * ps.length, os⟩ pos := by
  k_with "proof" =>
    unfold subDict
    have e : 2 + 13 * ps.length = 1 + (1 + 13 * ps.length) := by omega
    rw [e]
    refine Rn.bind (n := 1) (m := 1 + 13 * ps.length) Rn.alloc ?_
    have hp : (⟨⟨base⟩, life⟩ : Heap).push { cls := .type "dict", data := .dict #[] } = HX base (dobj [] 0) [] life := by
      simp [HX, Heap.push, dobj]
    rw [hp]
    refine Rn.bind (n := 1 + 13 * ps.length) (m := 0) (v := PUnit.unit) (Rn.holding ?_) Rn.pure
    rw [if_neg (by simp; omega)]
    refine Rn.bind (n := 1) (m := 13 * ps.length) Rn.rule ?_
    have := rn_fill (p := p) (w := w) (n₀ := n₀) (ann := ann) (F := F) (body := fun (c : Sem Value × Sem Value) (_ : PUnit) => (do let kv ← c.1; let vv ← holding [kv] c.2; holding [kv, vv] (dictSet base.length kv vv); pure (ForInStep.yield PUnit.unit) : Sem (ForInStep PUnit)))
      (pos := pos) (fun c => rfl) (L := base) (R := []) (life := life) (gens := gens) (drawn := drawn) (os := os) (b := b) (env := env) rfl hn ps [] 0 toks q lo (by rintro rfl; simp at hlen) h0 ha (fun e he => by cases he) (by simpa using hsz)
    rw [List.nil_append, Nat.zero_add] at this
    exact Rn.bind (n := 13 * ps.length) (m := 0) this Rn.pure
  run_tac Mine.sq default

/-- the entries of a short written dict: first all is evaluated, then stored -/
noncomputable def entsS : List (Int × Str) → Nat → List DictEntry
  | [], _ => []
  | (k, x) :: ps, t => ⟨hashInt k, .int k t, .str x (t + 1)⟩ :: entsS ps (t + 2)
theorem entsS_length : ∀ (ps : List (Int × Str)) (t : Nat), (entsS ps t).length = ps.length
  | [], _ => rfl
  | (k, x) :: ps, t => by simp [entsS, entsS_length ps]
noncomputable def valsS : List (Int × Str) → Nat → List (Value × Value)
  | [], _ => []
  | (k, x) :: ps, t => (.int k t, .str x (t + 1)) :: valsS ps (t + 2)

theorem rn_evalPairs {pos : Pos} {heap : Heap} {gens : Array GenState} {drawn : Drawn} {os : OsState} : ∀ (ps : List (Int × Str)) (toks : Nat) (q : Pos), ps ≠ [] →
    Rn p w n₀ ann code F (evalPairs (ps.map (pr pos))) (3 * ps.length) ⟨heap, gens, drawn, toks, os⟩ q (valsS ps toks) ⟨heap, gens, drawn, toks + 2 * ps.length, os⟩ pos := by
  k_with "proof" =>
    intro ps
    induction ps with
    | nil => intro _ _ h; exact absurd rfl h
    | cons a ps ih =>
      obtain ⟨k, x⟩ := a
      intro toks q _
      rw [List.map_cons]
      show Rn _ _ _ _ _ _ (evalPairs ((mkInt k, (do let x ← mkText x; standAt pos; pure x)) :: ps.map (pr pos))) _ _ _ _ _ _
      rw [evalPairs]
      have e3 : 3 * ((k, x) :: ps).length = 1 + (2 + 3 * ps.length) := by rw [List.length_cons]; omega
      rw [e3]
      refine Rn.bind (Rn.bind (n := 1) (m := 0) Rn.fresh Rn.pure) ?_
      refine Rn.bind (n := 2) (Rn.holding (Rn.bind (n := 1) (m := 1) (Rn.bind (n := 1) (m := 0) Rn.fresh Rn.pure) (Rn.bind (n := 1) (m := 0) Rn.standAt Rn.pure))) ?_
      by_cases hnil : ps = []
      · subst hnil
        exact Rn.bind (n := 0) (m := 0) (Rn.holding Rn.pure) Rn.pure
      · have e2 : toks + 2 * ((k, x) :: ps).length = toks + 1 + 1 + 2 * ps.length := by rw [List.length_cons]; omega
        rw [e2]
        exact Rn.bind (n := 3 * ps.length) (m := 0) (Rn.holding (ih (toks + 1 + 1) pos hnil)) Rn.pure
  run_tac Mine.sq default

theorem rn_store {body : Value × Value → PUnit → Sem (ForInStep PUnit)} {d : Addr}
    (hb : ∀ c : Value × Value, body c PUnit.unit = (do dictSet d c.1 c.2; pure (ForInStep.yield PUnit.unit)))
    {L R : List Obj} {life : Life} {gens : Array GenState} {drawn : Drawn} {os : OsState} {b : List Stmt} {env : Env} {q : Pos}
    (hd : L.length = d) (hn : n₀ ≤ d) : ∀ (ps : List (Int × Str)) (es : List DictEntry) (ep toks t : Nat) (lo : Int), 0 ≤ lo → Asc lo ps → Below es lo → es.length + ps.length ≤ sizeLine →
    Rn p w n₀ ann (.body b env) F (forIn (valsS ps t) PUnit.unit body) (10 * ps.length) ⟨HX L (dobj es ep) R life, gens, drawn, toks, os⟩ q PUnit.unit
      ⟨HX L (dobj (es ++ entsS ps t) (ep + ps.length)) R life, gens, drawn, toks + ps.length, os⟩ q := by
  k_with "proof" =>
    intro ps
    induction ps with
    | nil =>
      intro es ep toks t lo _ _ _ _
      rw [valsS, List.forIn_nil, entsS, List.append_nil]
      exact Rn.pure
    | cons a ps ih =>
      obtain ⟨k, x⟩ := a
      intro es ep toks t lo h0 ha hbl hs
      obtain ⟨a1, a2, a3⟩ := ha
      have hk : hashInt k = k := hash_small (by omega) a2
      rw [valsS, List.forIn_cons]
      have e10 : 10 * ((k, x) :: ps).length = 10 + 10 * ps.length := by rw [List.length_cons]; omega
      rw [e10]
      have one : Rn p w n₀ ann (.body b env) F (body (.int k t, .str x (t + 1)) PUnit.unit) 10 ⟨HX L (dobj es ep) R life, gens, drawn, toks, os⟩ q (ForInStep.yield PUnit.unit)
          ⟨HX L (dobj (es ++ [⟨hashInt k, .int k t, .str x (t + 1)⟩]) (ep + 1)) R life, gens, drawn, toks + 1, os⟩ q := by
        rw [hb]
        refine Rn.bind (n := 10) (m := 0) (rn_set hd hn (by rw [List.length_cons] at hs; omega) (fun e he => ?_)) Rn.pure
        have := hbl e he
        rw [hk]; omega
      refine Rn.bind one ?_
      dsimp only
      have hbl' : Below (es ++ [(⟨hashInt k, .int k t, .str x (t + 1)⟩ : DictEntry)]) k := by
        intro e he
        rcases List.mem_append.mp he with he | he
        · have := hbl e he; omega
        · rw [List.mem_singleton] at he; subst he; exact Int.le_of_eq hk
      have := ih (es ++ [⟨hashInt k, .int k t, .str x (t + 1)⟩]) (ep + 1) (toks + 1) (t + 2) k (by omega) a3 hbl' (by rw [List.length_cons] at hs; simp; omega)
      rw [List.append_assoc, List.singleton_append] at this
      have e1 : ep + ((k, x) :: ps).length = ep + 1 + ps.length := by rw [List.length_cons]; omega
      have e2 : toks + ((k, x) :: ps).length = toks + 1 + ps.length := by rw [List.length_cons]; omega
      rw [e1, e2, entsS]
      exact this
  run_tac Mine.sq default

theorem rn_subS {ps : List (Int × Str)} {pos : Pos} {base : List Obj} {life : Life} {gens : Array GenState} {drawn : Drawn} {toks : Nat} {os : OsState} {q : Pos} {b : List Stmt} {env : Env} {lo : Int}
    (hlen : ps.length ≤ 15) (hne : ps ≠ []) (hn : n₀ ≤ base.length) (h0 : 0 ≤ lo) (ha : Asc lo ps) :
    Rn p w n₀ ann (.body b env) F (subDict (ps.map (pr pos))) (1 + 13 * ps.length) ⟨⟨⟨base⟩, life⟩, gens, drawn, toks, os⟩ q base.length
      ⟨HX base (dobj (entsS ps toks) ps.length) [] life, gens, drawn, toks + 3 * ps.length, os⟩ pos := by
  k_with "proof" =>
    unfold subDict
    refine Rn.bind (n := 1) (m := 13 * ps.length) Rn.alloc ?_
    have hp : (⟨⟨base⟩, life⟩ : Heap).push { cls := .type "dict", data := .dict #[] } = HX base (dobj [] 0) [] life := by
      simp [HX, Heap.push, dobj]
    rw [hp]
    refine Rn.bind (n := 13 * ps.length) (m := 0) (v := PUnit.unit) (Rn.holding ?_) Rn.pure
    rw [if_pos (by simpa using hlen)]
    have e13 : 13 * ps.length = 3 * ps.length + 10 * ps.length := by omega
    rw [e13]
    refine Rn.bind (rn_evalPairs ps toks q hne) (Rn.holding ?_)
    have := rn_store (p := p) (w := w) (n₀ := n₀) (ann := ann) (F := F) (body := fun (c : Value × Value) (_ : PUnit) => (do dictSet base.length c.1 c.2; pure (ForInStep.yield PUnit.unit) : Sem (ForInStep PUnit)))
      (fun c => rfl) (L := base) (R := []) (life := life) (gens := gens) (drawn := drawn) (os := os) (b := b) (env := env) (q := pos) rfl hn ps [] 0 (toks + 2 * ps.length) toks lo h0 ha (fun e he => by cases he) (by rw [sizeLine_eq]; simp; omega)
    rw [List.nil_append, Nat.zero_add] at this
    have e3 : toks + 3 * ps.length = toks + 2 * ps.length + ps.length := by omega
    rw [e3]
    exact Rn.bind (n := 10 * ps.length) (m := 0) this Rn.pure
  run_tac Mine.sq default

/-- entries of int keys whose hashes ascend -/
noncomputable def AscE (lo : Int) : List DictEntry → Prop
  | [] => True
  | e :: es => lo < e.hash ∧ (∃ k t, e.key = .int k t) ∧ AscE e.hash es
theorem ascE_ents : ∀ (ps : List (Int × Str)) (t : Nat) (lo : Int), 0 ≤ lo → Asc lo ps → AscE lo (ents ps t)
  | [], _, _, _, _ => trivial
  | (k, x) :: ps, t, lo, h0, ⟨a1, a2, a3⟩ => by
    have hk : hashInt k = k := hash_small (by omega) a2
    refine ⟨?_, ⟨k, t, rfl⟩, ?_⟩
    · show lo < hashInt k; omega
    · show AscE (hashInt k) _; rw [hk]; exact ascE_ents ps (t + 3) k (by omega) a3
theorem ascE_entsS : ∀ (ps : List (Int × Str)) (t : Nat) (lo : Int), 0 ≤ lo → Asc lo ps → AscE lo (entsS ps t)
  | [], _, _, _, _ => trivial
  | (k, x) :: ps, t, lo, h0, ⟨a1, a2, a3⟩ => by
    have hk : hashInt k = k := hash_small (by omega) a2
    refine ⟨?_, ⟨k, t, rfl⟩, ?_⟩
    · show lo < hashInt k; omega
    · show AscE (hashInt k) _; rw [hk]; exact ascE_entsS ps (t + 2) k (by omega) a3
theorem HX.getR {L R : List Obj} {o : Obj} {es : List DictEntry} {n : Nat} {life : Life} {a : Nat} (h : L.length + 1 + R.length = a) (R' : List Obj) : (HX L o (R ++ dobj es n :: R') life).get? a = some (dobj es n) := by
  have e : HX L o (R ++ dobj es n :: R') life = HX (L ++ o :: R) (dobj es n) R' life := by simp [HX]
  rw [e]
  exact HX.get (by simp; omega)

theorem rn_mergeLoop {body : Nat → PUnit → Sem (ForInStep PUnit)} {es2 : List DictEntry} {n2 : Nat}
    {L R R' : List Obj} {life : Life} {gens : Array GenState} {drawn : Drawn} {toks : Nat} {os : OsState} {b : List Stmt} {env : Env} {q : Pos}
    (hb : ∀ (i : Nat) (e : DictEntry) (es : List DictEntry) (ep : Nat), (⟨es2⟩ : Array DictEntry)[i]? = some e → (∃ k t, e.key = .int k t) → (∀ x ∈ es, x.hash ≠ e.hash) → es.length ≤ sizeLine →
      Rn p w n₀ ann (.body b env) F (body i PUnit.unit) 6 ⟨HX L (dobj es ep) (R ++ dobj es2 n2 :: R') life, gens, drawn, toks, os⟩ q (ForInStep.yield PUnit.unit)
        ⟨HX L (dobj (es ++ [e]) (ep + 1)) (R ++ dobj es2 n2 :: R') life, gens, drawn, toks, os⟩ q) :
    ∀ (r : List DictEntry) (i : Nat) (es : List DictEntry) (ep : Nat) (lo : Int), es2.drop i = r → AscE lo r → Below es lo → es.length + r.length ≤ sizeLine →
    Rn p w n₀ ann (.body b env) F (forIn (List.range' i r.length) PUnit.unit body) (6 * r.length) ⟨HX L (dobj es ep) (R ++ dobj es2 n2 :: R') life, gens, drawn, toks, os⟩ q PUnit.unit
      ⟨HX L (dobj (es ++ r) (ep + r.length)) (R ++ dobj es2 n2 :: R') life, gens, drawn, toks, os⟩ q := by
  k_with "proof" =>
    intro r
    induction r with
    | nil =>
      intro i es ep lo _ _ _ _
      rw [List.length_nil, List.range'_zero, List.forIn_nil, List.append_nil]
      exact Rn.pure
    | cons e r ih =>
      intro i es ep lo hr hA hbl hs
      obtain ⟨h1, hk, h3⟩ := hA
      have hi : (⟨es2⟩ : Array DictEntry)[i]? = some e := by
        have : es2[i]? = some e := by
          have := congrArg (fun l => l[0]?) hr
          simpa using this
        simpa using this
      have hr' : es2.drop (i + 1) = r := by
        have := congrArg List.tail hr
        simpa using this
      rw [List.length_cons, List.range'_succ, List.forIn_cons]
      have e6 : 6 * (r.length + 1) = 6 + 6 * r.length := by omega
      rw [e6]
      refine Rn.bind (hb i e es ep hi hk (fun x hx => by have := hbl x hx; omega) (by rw [List.length_cons] at hs; omega)) ?_
      dsimp only
      have hbl' : Below (es ++ [e]) e.hash := by
        intro x hx
        rcases List.mem_append.mp hx with hx | hx
        · have := hbl x hx; omega
        · rw [List.mem_singleton] at hx; subst hx; exact Int.le_refl _
      have := ih (i + 1) (es ++ [e]) (ep + 1) e.hash hr' h3 hbl' (by rw [List.length_cons] at hs; simp; omega)
      rw [List.append_assoc, List.singleton_append] at this
      have e1 : ep + (r.length + 1) = ep + 1 + r.length := by omega
      rw [e1]
      exact this
  run_tac Mine.sq default

theorem rn_merge {d a : Addr} {es es2 : List DictEntry} {ep n2 : Nat}
    {L R R' : List Obj} {life : Life} {gens : Array GenState} {drawn : Drawn} {toks : Nat} {os : OsState} {b : List Stmt} {env : Env} {q : Pos} {lo : Int}
    (hd : L.length = d) (hn : n₀ ≤ d) (ha : L.length + 1 + R.length = a) (hsys : sysModules < d) (hne : es ≠ []) (hA : AscE lo es2) (hbl : Below es lo) (hs : es.length + es2.length ≤ sizeLine) :
    Rn p w n₀ ann (.body b env) F (mergeMapping d (.ref a) false) (5 + 6 * es2.length) ⟨HX L (dobj es ep) (R ++ dobj es2 n2 :: R') life, gens, drawn, toks, os⟩ q ()
      ⟨HX L (dobj (es ++ es2) (ep + es2.length)) (R ++ dobj es2 n2 :: R') life, gens, drawn, toks, os⟩ q := by
  k_with "proof" =>
    unfold mergeMapping
    have hT : Rn p w n₀ ann (.body b env) F (typeOf (.ref a)) 1 ⟨HX L (dobj es ep) (R ++ dobj es2 n2 :: R') life, gens, drawn, toks, os⟩ q (.type "dict") ⟨HX L (dobj es ep) (R ++ dobj es2 n2 :: R') life, gens, drawn, toks, os⟩ q :=
      Rn.bind (n := 1) (m := 0) (Rn.loadPart (HX.getR ha R')) Rn.pure
    have e5 : 5 + 6 * es2.length = 2 + (3 + 6 * es2.length) := by omega
    rw [e5]
    have e5' : 2 + (3 + 6 * es2.length) = 1 + (1 + (3 + 6 * es2.length)) := by omega
    rw [e5']
    refine Rn.bind (n := 1) (v := true) (s₁ := ⟨HX L (dobj es ep) (R ++ dobj es2 n2 :: R') life, gens, drawn, toks, os⟩) (q₁ := q) ?_ ?_
    · unfold isInstance
      refine Rn.bind (n := 1) (m := 0) hT ?_
      have : isSubtype (.type "dict") (.type "dict") = pure true := by kernel_rfl
      rw [this]
      exact Rn.pure
    dsimp only
    rw [if_pos rfl]
    refine Rn.bind (n := 1) (v := some (.builtin "dict.__iter__")) (s₁ := ⟨HX L (dobj es ep) (R ++ dobj es2 n2 :: R') life, gens, drawn, toks, os⟩) (q₁ := q) ?_ ?_
    · unfold specialOf
      refine Rn.bind (n := 1) (m := 0) hT ?_
      rw [PySem.F.slot_dict_iter.lookup]
      exact Rn.pure
    have e0 : 3 + 6 * es2.length = 0 + (1 + (1 + (1 + (6 * es2.length + 0)))) := by omega
    rw [e0]
    refine Rn.bind (n := 0) Rn.pure ?_
    rw [show (some (Value.builtin "dict.__iter__") == some (Value.builtin "dict.__iter__")) = true by kernel_rfl]
    dsimp only
    have hns : (a == sysModules) = false := by
      have h1 : @LT.lt Nat _ sysModules d := hsys
      have h2 : @Eq Nat (L.length + 1 + R.length) a := ha
      have h3 : @Eq Nat L.length d := hd
      have : ¬ @Eq Nat a sysModules := by omega
      exact beq_eq_false_iff_ne.mpr this
    rw [hns, if_neg Bool.false_ne_true]
    refine Rn.bind (n := 1) (v := (⟨es⟩ : Array DictEntry)) (s₁ := ⟨HX L (dobj es ep) (R ++ dobj es2 n2 :: R') life, gens, drawn, toks, os⟩) (q₁ := q) ?_ ?_
    · unfold dictEntries
      exact Rn.bind (n := 1) (m := 0) (Rn.loadPart (HX.get hd)) Rn.pure
    have hemp : (⟨es⟩ : Array DictEntry).isEmpty = false := by
      cases es with
      | nil => exact absurd rfl hne
      | cons => rfl
    rw [hemp, if_neg Bool.false_ne_true]
    have hE : Rn p w n₀ ann (.body b env) F (dictEntries a) 1 ⟨HX L (dobj es ep) (R ++ dobj es2 n2 :: R') life, gens, drawn, toks, os⟩ q (⟨es2⟩ : Array DictEntry) ⟨HX L (dobj es ep) (R ++ dobj es2 n2 :: R') life, gens, drawn, toks, os⟩ q := by
      unfold dictEntries
      exact Rn.bind (n := 1) (m := 0) (Rn.loadPart (HX.getR ha R')) Rn.pure
    refine Rn.bind (n := 1) hE ?_
    refine Rn.bind (n := 1) (v := n2) (s₁ := ⟨HX L (dobj es ep) (R ++ dobj es2 n2 :: R') life, gens, drawn, toks, os⟩) (q₁ := q) ?_ ?_
    · unfold dictEpoch
      exact Rn.bind (n := 1) (m := 0) (Rn.loadPart (HX.getR ha R')) Rn.pure
    refine Rn.bind (v := PUnit.unit) ?_ Rn.pure
    show Rn _ _ _ _ _ _ (forIn (List.range es2.length) PUnit.unit _) _ _ _ _ _ _
    rw [List.range_eq_range']
    refine rn_mergeLoop (fun i e es ep hi hk hx hs => ?_) es2 0 es ep lo rfl hA hbl hs
    refine Rn.bind (n := 1) (m := 5) (v := (⟨es2⟩ : Array DictEntry)) (s₁ := ⟨HX L (dobj es ep) (R ++ dobj es2 n2 :: R') life, gens, drawn, toks, os⟩) (q₁ := q) ?_ ?_
    · unfold dictEntries
      exact Rn.bind (n := 1) (m := 0) (Rn.loadPart (HX.getR ha R')) Rn.pure
    rw [hi]
    obtain ⟨k, t, hk⟩ := hk
    refine Rn.bind (n := 4) (m := 1) (v := ()) (s₁ := ⟨HX L (dobj (es ++ [e]) (ep + 1)) (R ++ dobj es2 n2 :: R') life, gens, drawn, toks, os⟩) (q₁ := q) (Rn.holding ?_) ?_
    · rw [if_neg Bool.false_ne_true]
      have ee : (⟨e.hash, .int k t, e.val⟩ : DictEntry) = e := by rw [← hk]
      unfold dictPut
      rw [hk]
      refine Rn.bind (n := 1) (m := 3) (rn_find hd hx) ?_
      dsimp only
      rw [ee]
      exact rn_put hd hn hs
    · refine Rn.bind (n := 1) (m := 0) (v := n2) (s₁ := ⟨HX L (dobj (es ++ [e]) (ep + 1)) (R ++ dobj es2 n2 :: R') life, gens, drawn, toks, os⟩) (q₁ := q) ?_ ?_
      · unfold dictEpoch
        exact Rn.bind (n := 1) (m := 0) (Rn.loadPart (HX.getR ha R')) Rn.pure
      · rw [if_neg (by simp)]
        exact Rn.pure
  run_tac Mine.sq default

noncomputable abbrev PrS := Sem Value × Sem Value
/-- what a full run of pairs does -/
noncomputable def Fl (run : List PrS) : Option Addr → Sem (Option Addr)
  | none => subDict run >>= fun a => pure (some a)
  | some d => holding [.ref d] (subDict run) >>= fun sub =>
    (holding [.ref d, .ref sub] (mergeMapping d (.ref sub) false)).onRaise (fun x => holding [.ref d, x] (runValue (.builtin "proto.let_go" {})) >>= fun _ => pure ()) >>= fun _ => pure (some d)
theorem asc_app : ∀ {a c : List (Int × Str)} {lo : Int}, Asc lo (a ++ c) → Asc lo a ∧ Asc (lastOf lo a) c
  | [], _, _, h => ⟨trivial, h⟩
  | (_, _) :: _, _, _, ⟨h1, h2, h3⟩ => ⟨⟨h1, h2, (asc_app h3).1⟩, (asc_app h3).2⟩
theorem last_ge : ∀ {a : List (Int × Str)} {lo : Int}, Asc lo a → lo ≤ lastOf lo a
  | [], _, _ => Int.le_refl _
  | (k, _) :: a, lo, ⟨h1, _, h3⟩ => by have := last_ge (a := a) h3; show lo ≤ lastOf k a; omega
theorem below_last : ∀ (ps : List (Int × Str)) (t : Nat) (lo : Int) (es : List DictEntry), 0 ≤ lo → Asc lo ps → Below es lo → Below (es ++ ents ps t) (lastOf lo ps) := by
  intro ps t lo es h0 ha hb e he
  rcases List.mem_append.mp he with he | he
  · have := hb e he; have := last_ge ha; omega
  · exact (ents_below ps t lo h0 ha).2.1 e he

theorem rn_Fl {run : List PrS} {c : Nat} {E es : List DictEntry} {ep m : Nat} {L R : List Obj} {d : Addr} {life : Life} {gens : Array GenState} {drawn : Drawn} {toks toks' : Nat} {os : OsState} {q q' : Pos} {b : List Stmt} {env : Env} {lo : Int}
    (hd : L.length = d) (hn : n₀ ≤ d) (hsys : sysModules < d) (hne : es ≠ []) (hA : AscE lo E) (hbl : Below es lo) (hs : es.length + E.length ≤ sizeLine)
    (hsub : Rn p w n₀ ann (.body b env) F (subDict run) c ⟨⟨⟨L ++ dobj es ep :: R⟩, life⟩, gens, drawn, toks, os⟩ q (L ++ dobj es ep :: R).length ⟨HX (L ++ dobj es ep :: R) (dobj E m) [] life, gens, drawn, toks', os⟩ q') :
    Rn p w n₀ ann (.body b env) F (Fl run (some d)) (c + (5 + 6 * E.length)) ⟨HX L (dobj es ep) R life, gens, drawn, toks, os⟩ q (some d)
      ⟨HX L (dobj (es ++ E) (ep + E.length)) (R ++ [dobj E m]) life, gens, drawn, toks', os⟩ q' := by
  k_with "proof" =>
    unfold Fl
    refine Rn.bind (n := c) (Rn.holding hsub) ?_
    rw [← HX.last]
    exact Rn.bind (n := 5 + 6 * E.length) (m := 0) (Rn.onRaise (Rn.holding (rn_merge (R' := []) hd hn (by simp; show (_ : Nat) = _; omega) hsys hne hA hbl hs))) Rn.pure
  run_tac Mine.sq default

section gather
variable {f : (Option (Sem Value) × Sem Value) → (Option Addr × List PrS) → Sem (ForInStep (Option Addr × List PrS))}
theorem gather_in (hy : ∀ (z : PrS) (m : Option Addr) (run : List PrS), run.length + 1 < 17 → f (some z.1, z.2) (m, run) = pure (.yield (m, run ++ [z]))) :
    ∀ (c : List PrS) (m : Option Addr) (run : List PrS) (rest : List (Option (Sem Value) × Sem Value)), run.length + c.length < 17 →
    forIn (c.map (fun z => (some z.1, z.2)) ++ rest) (m, run) f = forIn rest (m, run ++ c) f
  | [], m, run, rest, _ => by simp
  | z :: c, m, run, rest, h => by
    rw [List.map_cons, List.cons_append, List.forIn_cons, hy z m run (by rw [List.length_cons] at h; omega), pure_bind]
    have := gather_in hy c m (run ++ [z]) rest (by rw [List.length_cons] at h; simp; omega)
    simpa using this
theorem gather_full (hy : ∀ (z : PrS) (m : Option Addr) (run : List PrS), run.length + 1 < 17 → f (some z.1, z.2) (m, run) = pure (.yield (m, run ++ [z])))
    (hf : ∀ (z : PrS) (m : Option Addr) (run : List PrS), run.length = 16 → f (some z.1, z.2) (m, run) = Fl (run ++ [z]) m >>= fun m' => pure (.yield (m', [])))
    {c : List PrS} (hc : c.length = 17) (m : Option Addr) (rest : List (Option (Sem Value) × Sem Value)) :
    forIn (c.map (fun z => (some z.1, z.2)) ++ rest) (m, []) f = Fl c m >>= fun m' => forIn rest (m', []) f := by
  k_with "proof" =>
    obtain ⟨c', z, rfl⟩ : ∃ c' z, c = c' ++ [z] := by
      have hne : c ≠ [] := by rintro rfl; simp at hc
      exact ⟨c.dropLast, c.getLast hne, (List.dropLast_concat_getLast hne).symm⟩
    have hc' : c'.length = 16 := by simpa using hc
    rw [List.map_append, List.append_assoc, gather_in hy c' m [] _ (by simp; omega)]
    rw [List.nil_append, List.map_singleton, List.singleton_append, List.forIn_cons, hf z m c' hc']
    rw [bind_assoc]
    rfl
  run_tac Mine.sq default
end gather

noncomputable def allE : List (List (Int × Str)) → Nat → List DictEntry
  | [], _ => []
  | c :: cs, t => ents c t ++ allE cs (t + 3 * c.length)
noncomputable def allR : List (List (Int × Str)) → Nat → List Obj
  | [], _ => []
  | c :: cs, t => dobj (ents c t) c.length :: allR cs (t + 3 * c.length)
noncomputable def lenC : List (List (Int × Str)) → Nat
  | [] => 0
  | c :: cs => c.length + lenC cs
noncomputable def lastC (lo : Int) : List (List (Int × Str)) → Int
  | [] => lo
  | c :: cs => lastC (lastOf lo c) cs
noncomputable def cntC : List (List (Int × Str)) → Nat
  | [] => 0
  | c :: cs => (2 + 13 * c.length + (5 + 6 * c.length)) + cntC cs
theorem asc_flat : ∀ {cs : List (List (Int × Str))} {c : List (Int × Str)} {lo : Int}, Asc lo (cs.flatten ++ c) → Asc (lastC lo cs) c
  | [], _, _, h => h
  | a :: cs, c, lo, h => by
    rw [List.flatten_cons, List.append_assoc] at h
    exact asc_flat (cs := cs) (asc_app h).2

theorem rn_chunks {f : (Option (Sem Value) × Sem Value) → (Option Addr × List PrS) → Sem (ForInStep (Option Addr × List PrS))}
    (hy : ∀ (z : PrS) (m : Option Addr) (run : List PrS), run.length + 1 < 17 → f (some z.1, z.2) (m, run) = pure (.yield (m, run ++ [z])))
    (hf : ∀ (z : PrS) (m : Option Addr) (run : List PrS), run.length = 16 → f (some z.1, z.2) (m, run) = Fl (run ++ [z]) m >>= fun m' => pure (.yield (m', [])))
    {pos : Pos} {L : List Obj} {d : Addr} {life : Life} {gens : Array GenState} {drawn : Drawn} {os : OsState} {b : List Stmt} {env : Env} {rest : List (Option (Sem Value) × Sem Value)} {v : Option Addr × List PrS} {s' : Shared} {q' : Pos} {N : Nat}
    (hd : L.length = d) (hn : n₀ ≤ d) (hsys : sysModules < d) : ∀ (cs : List (List (Int × Str))) (es : List DictEntry) (ep toks : Nat) (R : List Obj) (lo : Int), es ≠ [] → 0 ≤ lo → Asc lo cs.flatten → Below es lo → es.length + lenC cs ≤ sizeLine → (∀ c ∈ cs, c.length = 17) →
    (Below (es ++ allE cs toks) (lastC lo cs) → Rn p w n₀ ann (.body b env) F (forIn rest (some d, []) f) N ⟨HX L (dobj (es ++ allE cs toks) (ep + lenC cs)) (R ++ allR cs toks) life, gens, drawn, toks + 3 * lenC cs, os⟩ pos v s' q') →
    Rn p w n₀ ann (.body b env) F (forIn ((cs.flatten.map (pr pos)).map (fun z => (some z.1, z.2)) ++ rest) (some d, []) f) (cntC cs + N) ⟨HX L (dobj es ep) R life, gens, drawn, toks, os⟩ pos v s' q' := by
  k_with "proof" =>
    intro cs
    induction cs with
    | nil =>
      intro es ep toks R lo _ _ _ hbl _ _ h
      simp only [allE, allR, lenC, lastC, List.append_nil, Nat.add_zero, Nat.mul_zero] at h
      simp only [List.flatten_nil, List.map_nil, List.nil_append, cntC, Nat.zero_add]
      exact h hbl
    | cons c cs ih =>
      intro es ep toks R lo hne h0 ha hbl hs hc h
      rw [List.flatten_cons] at ha
      obtain ⟨ha1, ha2⟩ := asc_app ha
      have hc17 : c.length = 17 := hc c (List.mem_cons_self ..)
      have hsl : es.length + c.length + lenC cs ≤ sizeLine := by rw [lenC] at hs; omega
      have hsub := rn_sub (p := p) (w := w) (n₀ := n₀) (ann := ann) (F := F) (ps := c) (pos := pos) (base := L ++ dobj es ep :: R) (life := life) (gens := gens) (drawn := drawn) (toks := toks) (os := os) (q := pos) (b := b) (env := env) (lo := lo)
        (by omega) (by omega) (Nat.le_trans hn (by rw [List.length_append]; show (d : Nat) ≤ _; rw [← hd]; exact Nat.le_add_right _ _)) h0 ha1
      have one := rn_Fl (p := p) (w := w) (n₀ := n₀) (ann := ann) (F := F) (d := d) hd hn hsys hne (ascE_ents c toks lo h0 ha1) hbl (by rw [ents_length]; omega) hsub
      rw [List.flatten_cons, List.map_append, List.map_append, List.append_assoc, gather_full hy hf (by simpa using hc17), cntC]
      rw [ents_length] at one
      rw [show 2 + 13 * c.length + (5 + 6 * c.length) + cntC cs + N = (2 + 13 * c.length + (5 + 6 * c.length)) + (cntC cs + N) by omega]
      refine Rn.bind one ?_
      refine ih (es ++ ents c toks) (ep + c.length) (toks + 3 * c.length) (R ++ [dobj (ents c toks) c.length]) (lastOf lo c) (by simp [hne]) (by have := last_ge ha1; omega) ha2 (below_last c toks lo es h0 ha1 hbl) (by rw [List.length_append, ents_length]; omega) (fun x hx => hc x (List.mem_cons_of_mem _ hx)) ?_
      intro hb'
      simp only [allE, allR, lenC, lastC] at h
      rw [List.append_assoc] at hb' ⊢
      rw [List.append_assoc, List.singleton_append, show ep + c.length + lenC cs = ep + (c.length + lenC cs) by omega, show toks + 3 * c.length + 3 * lenC cs = toks + 3 * (c.length + lenC cs) by omega]
      exact h hb'
  run_tac Mine.sq default

theorem below_all : ∀ (cs : List (List (Int × Str))) (t : Nat) (lo : Int) (es : List DictEntry), 0 ≤ lo → Asc lo cs.flatten → Below es lo → Below (es ++ allE cs t) (lastC lo cs) ∧ lo ≤ lastC lo cs
  | [], _, _, _, _, _, hb => ⟨by simp only [allE, List.append_nil, lastC]; exact hb, Int.le_refl _⟩
  | c :: cs, t, lo, es, h0, ha, hb => by
    rw [List.flatten_cons] at ha
    obtain ⟨ha1, ha2⟩ := asc_app ha
    have := last_ge ha1
    obtain ⟨i1, i2⟩ := below_all cs (t + 3 * c.length) (lastOf lo c) (es ++ ents c t) (by omega) ha2 (below_last c t lo es h0 ha1 hb)
    rw [List.append_assoc] at i1
    exact ⟨i1, by show lo ≤ lastC (lastOf lo c) cs; omega⟩

theorem rn_loop {f : (Option (Sem Value) × Sem Value) → (Option Addr × List PrS) → Sem (ForInStep (Option Addr × List PrS))}
    (hy : ∀ (z : PrS) (m : Option Addr) (run : List PrS), run.length + 1 < 17 → f (some z.1, z.2) (m, run) = pure (.yield (m, run ++ [z])))
    (hf : ∀ (z : PrS) (m : Option Addr) (run : List PrS), run.length = 16 → f (some z.1, z.2) (m, run) = Fl (run ++ [z]) m >>= fun m' => pure (.yield (m', [])))
    {c0 cl : List (Int × Str)} {cs : List (List (Int × Str))} {pos : Pos} {base : List Obj} {life : Life} {gens : Array GenState} {drawn : Drawn} {toks : Nat} {os : OsState} {q : Pos} {b : List Stmt} {env : Env}
    (h0 : c0.length = 17) (hcs : ∀ c ∈ cs, c.length = 17) (hl : cl.length ≤ 15) (ha : Asc 0 (c0 ++ (cs.flatten ++ cl))) (hn : n₀ ≤ base.length) (hsys : sysModules < base.length) (hs : 17 + lenC cs + cl.length ≤ sizeLine) :
    Rn p w n₀ ann (.body b env) F (forIn ((c0.map (pr pos)).map (fun z => (some z.1, z.2)) ++ ((cs.flatten.map (pr pos)).map (fun z => (some z.1, z.2)) ++ (cl.map (pr pos)).map (fun z => (some z.1, z.2)))) (none, []) f) (2 + 13 * 17 + (cntC cs + 0))
      ⟨⟨⟨base⟩, life⟩, gens, drawn, toks, os⟩ q (some base.length, cl.map (pr pos))
      ⟨HX base (dobj (ents c0 toks ++ allE cs (toks + 51)) (17 + lenC cs)) (allR cs (toks + 51)) life, gens, drawn, toks + 51 + 3 * lenC cs, os⟩ pos := by
  k_with "proof" =>
    obtain ⟨a0, a1⟩ := asc_app ha
    have alo := last_ge a0
    obtain ⟨a2, _⟩ := asc_app a1
    rw [gather_full hy hf (by simpa using h0)]
    have hsub := rn_sub (p := p) (w := w) (n₀ := n₀) (ann := ann) (F := F) (ps := c0) (pos := pos) (base := base) (life := life) (gens := gens) (drawn := drawn) (toks := toks) (os := os) (q := q) (b := b) (env := env) (lo := 0) (by omega) (by omega) hn (Int.le_refl _) a0
    rw [h0] at hsub
    refine Rn.bind (n := 2 + 13 * 17) (m := cntC cs + 0) (v := some base.length) (Rn.bind (n := 2 + 13 * 17) (m := 0) hsub Rn.pure) ?_
    refine rn_chunks hy hf rfl hn hsys cs (ents c0 toks) 17 (toks + 51) [] (lastOf 0 c0) (by intro h; have := congrArg List.length h; rw [ents_length, h0] at this; simp at this) alo a2 (ents_below c0 toks 0 (Int.le_refl _) a0).2.1 (by rw [ents_length, h0]; omega) hcs ?_
    intro _
    rw [List.nil_append]
    have g := gather_in hy (cl.map (pr pos)) (some base.length) [] [] (by simp; omega)
    rw [List.append_nil, List.nil_append, List.forIn_nil] at g
    rw [g]
    exact Rn.pure
  run_tac Mine.sq default

theorem rn_display {c0 cl : List (Int × Str)} {cs : List (List (Int × Str))} {pos : Pos} {base : List Obj} {life : Life} {gens : Array GenState} {drawn : Drawn} {toks : Nat} {os : OsState} {q : Pos} {b : List Stmt} {env : Env}
    (h0 : c0.length = 17) (hcs : ∀ c ∈ cs, c.length = 17) (hl : cl.length ≤ 15) (hl0 : cl ≠ []) (ha : Asc 0 (c0 ++ (cs.flatten ++ cl))) (hn : n₀ ≤ base.length) (hsys : sysModules < base.length) (hs : 17 + lenC cs + cl.length ≤ sizeLine) :
    Rn p w n₀ ann (.body b env) F (dictDisplay ((c0 ++ (cs.flatten ++ cl)).map fun a => (some (pr pos a).1, (pr pos a).2))) (2 + 13 * 17 + (cntC cs + 0) + (1 + 13 * cl.length + (5 + 6 * cl.length)))
      ⟨⟨⟨base⟩, life⟩, gens, drawn, toks, os⟩ q (.ref base.length)
      ⟨HX base (dobj (ents c0 toks ++ allE cs (toks + 51) ++ entsS cl (toks + 51 + 3 * lenC cs)) (17 + lenC cs + cl.length)) (allR cs (toks + 51) ++ [dobj (entsS cl (toks + 51 + 3 * lenC cs)) cl.length]) life, gens, drawn, toks + 51 + 3 * lenC cs + 3 * cl.length, os⟩ pos := by
  k_with "proof" =>
    obtain ⟨a0, a1⟩ := asc_app ha
    have alo := last_ge a0
    obtain ⟨a2, _⟩ := asc_app a1
    have al : Asc (lastC (lastOf 0 c0) cs) cl := asc_flat a1
    obtain ⟨b1, b2⟩ := below_all cs (toks + 51) (lastOf 0 c0) (ents c0 toks) alo a2 (ents_below c0 toks 0 (Int.le_refl _) a0).2.1
    unfold dictDisplay
    dsimp only
    have em : ∀ ps : List (Int × Str), ps.map (fun a => (some (pr pos a).1, (pr pos a).2)) = (ps.map (pr pos)).map (fun z => (some z.1, z.2)) := fun ps => by rw [List.map_map]; rfl
    rw [List.map_append, List.map_append, em, em, em]
    refine Rn.bind (rn_loop ?hy ?hf h0 hcs hl ha hn hsys hs) ?_
    case hy =>
      intro z m run hr
      dsimp only
      rw [if_neg (by simp; omega)]
    case hf =>
      intro z m run hr
      dsimp only
      rw [if_pos (by simp [hr]), if_neg (by simp)]
      cases m <;> rfl
    dsimp only
    rw [if_neg (by simpa using hl0)]
    have hle : (allE cs (toks + 51)).length = lenC cs := by
      have : ∀ (cs : List (List (Int × Str))) (t : Nat), (allE cs t).length = lenC cs := by
        intro cs
        induction cs with
        | nil => intro _; rfl
        | cons c cs ih => intro t; rw [allE, List.length_append, ih, ents_length, lenC]
      exact this cs _
    have hsub := rn_subS (p := p) (w := w) (n₀ := n₀) (ann := ann) (F := F) (ps := cl) (pos := pos) (base := base ++ dobj (ents c0 toks ++ allE cs (toks + 51)) (17 + lenC cs) :: allR cs (toks + 51)) (life := life) (gens := gens) (drawn := drawn) (toks := toks + 51 + 3 * lenC cs) (os := os) (q := pos) (b := b) (env := env)
      (lo := lastC (lastOf 0 c0) cs) hl hl0 (Nat.le_trans hn (by rw [List.length_append]; exact Nat.le_add_right _ _)) (by omega) al
    have one := rn_Fl (p := p) (w := w) (n₀ := n₀) (ann := ann) (F := F) (d := base.length) rfl hn hsys (es := ents c0 toks ++ allE cs (toks + 51)) (by intro h; have := congrArg List.length h; rw [List.length_append, ents_length, h0] at this; simp at this)
      (ascE_entsS cl (toks + 51 + 3 * lenC cs) _ (by omega) al) b1 (by rw [List.length_append, ents_length, hle, entsS_length, h0]; exact hs) hsub
    rw [entsS_length] at one
    exact Rn.bind (m := 0) one Rn.pure
  run_tac Mine.sq default
end
end MineH
end
section -- HeadF
open PySem PySem.W PySem.Calls PyProof.Rows
namespace MineH
/-- what is left of the store behind the value -/
noncomputable abbrev storeAt (x : Str) (px : Pos) (env : Env) (v : Value) : Sem Fin :=
  (PySem.standAt px >>= fun _ => bindName env x v >>= fun _ => (pure Flow.next : Sem Flow)).wrap (fun f => match f with | .next => (execs [] env).wrap doneF deadEnd id id | f => doneF f) deadEnd id id

theorem assign_run {p : Program} {w : World} {n₀ : Nat} {ann : Option Value} {x : Str} {px pos dpos q0 q : Pos} {keys : List (Option Expr)} {values : List Expr} {env : Env} {b : List Stmt}
    {c0 cl : List (Int × Str)} {cs : List (List (Int × Str))} {base L2 : List Obj} {life : Life} {gens : Array GenState} {drawn : Drawn} {os : OsState} {n3 toks toks2 N c : Nat} {r : Flow × Shared × Code × Pos}
    (hz : (evalEachOpt keys env).zip ((evalEach values env).map fun v => do let x ← v; standAt dpos; pure x) = (c0 ++ (cs.flatten ++ cl)).map fun a => (some (pr dpos a).1, (pr dpos a).2))
    (h0 : c0.length = 17) (hcs : (cs.all fun c => c.length == 17) = true) (hl : Nat.ble cl.length 15 = true) (hl0 : cl.isEmpty = false) (ha : ascB 0 (c0 ++ (cs.flatten ++ cl)) = true) (hn : Nat.ble n₀ n3 = true) (hsys : Nat.ble (sysModules + 1) n3 = true) (hs : Nat.ble (17 + lenC cs + cl.length) sizeLine = true)
    (hb : base.length = n3) (hL : L2 = base ++ dobj (ents c0 toks ++ allE cs (toks + 51) ++ entsS cl (toks + 51 + 3 * lenC cs)) (17 + lenC cs + cl.length) :: (allR cs (toks + 51) ++ [dobj (entsS cl (toks + 51 + 3 * lenC cs)) cl.length]))
    (ht : toks2 = toks + 51 + 3 * lenC cs + 3 * cl.length) (hc : c = 2 + (2 + 13 * 17 + (cntC cs + 0) + (1 + 13 * cl.length + (5 + 6 * cl.length))))
    (after : segRun treeTable p w n₀ ann 1 N ⟨⟨⟨L2⟩, life⟩, gens, drawn, toks2, os⟩ ⟨storeAt x px env (.ref n3), .body b env, dpos, [topFrame q]⟩ = some r) :
    segRun treeTable p w n₀ ann 1 (c + N) ⟨⟨⟨base⟩, life⟩, gens, drawn, toks, os⟩ (piecesOf [.Assign [.Name x px] (.Dict keys values dpos) pos] env (.body b env) q0 [topFrame q]) = some r := by
  k_with "proof" =>
    subst hb hL ht hc
    have hcs' : ∀ c ∈ cs, c.length = 17 := fun c h => by
      have := List.all_eq_true.mp hcs c h
      simpa using this
    have hd := rn_display (p := p) (w := w) (n₀ := n₀) (ann := ann) (F := topFrame q) (pos := dpos) (base := base) (life := life) (gens := gens) (drawn := drawn) (toks := toks) (os := os) (q := dpos) (b := b) (env := env)
      h0 hcs' (Nat.le_of_ble_eq_true hl) (by rintro rfl; cases hl0) (asc_of ha) (Nat.le_of_ble_eq_true hn) (Nat.le_of_ble_eq_true hsys) (Nat.le_of_ble_eq_true hs)
    have he : Rn p w n₀ ann (.body b env) (topFrame q) (PySem.standAt pos >>= fun _ => eval (.Dict keys values dpos) env) (2 + (2 + 13 * 17 + (cntC cs + 0) + (1 + 13 * cl.length + (5 + 6 * cl.length)))) ⟨⟨⟨base⟩, life⟩, gens, drawn, toks, os⟩ q0 (.ref base.length)
        ⟨HX base (dobj (ents c0 toks ++ allE cs (toks + 51) ++ entsS cl (toks + 51 + 3 * lenC cs)) (17 + lenC cs + cl.length)) (allR cs (toks + 51) ++ [dobj (entsS cl (toks + 51 + 3 * lenC cs)) cl.length]) life, gens, drawn, toks + 51 + 3 * lenC cs + 3 * cl.length, os⟩ dpos := by
      generalize hN : (2 + 13 * 17 + (cntC cs + 0) + (1 + 13 * cl.length + (5 + 6 * cl.length))) = M at hd
      rw [show 2 + M = 1 + (1 + M) by omega]
      refine Rn.bind (n := 1) Rn.standAt ?_
      rw [arm_eval_Dict, hz]
      exact Rn.bind (n := 1) Rn.standAt hd
    refine seg_go ?_ after
    show segGo _ _ _ _ _ _ _ _ ⟨(execs [.Assign [.Name x px] (.Dict keys values dpos) pos] env).wrap doneF deadEnd id id, _, _, _⟩ = _
    rw [execs_cons_wrap, exec_Assign_Name env x px _ pos rfl]
    have e2 : (PySem.standAt pos >>= fun _ => eval (.Dict keys values dpos) env >>= fun v => PySem.standAt px >>= fun _ => bindName env x v >>= fun _ => (pure Flow.next : Sem Flow)) =
        ((PySem.standAt pos >>= fun _ => eval (.Dict keys values dpos) env) >>= fun v => PySem.standAt px >>= fun _ => bindName env x v >>= fun _ => (pure Flow.next : Sem Flow)) := by
      rw [bind_assoc]
    rw [e2, Sem.bind_eq_wrap', Sem.wrap_wrap]
    exact he _ _ _ _
  run_tac Mine.sq default
/-- a written table's keys ascend, so they are apart -/
noncomputable def upB : Int → List (PyData × PyData) → Bool
  | _, [] => true
  | lo, (.int k, _) :: r => decide (lo < k) && upB k r
  | _, _ => false
noncomputable def upA : List (PyData × PyData) → Bool
  | [] => true
  | (.int k, _) :: r => upB k r
  | _ => false
theorem up_all : ∀ {r : List (PyData × PyData)} {lo : Int}, upB lo r = true → ∀ p ∈ r, ∃ k, p.1 = .int k ∧ lo < k
  | [], _, _, _, hp => by cases hp
  | (.int k, v) :: r, lo, h, p, hp => by
    simp only [upB, Bool.and_eq_true, decide_eq_true_eq] at h
    rcases List.mem_cons.mp hp with rfl | hp
    · exact ⟨k, rfl, h.1⟩
    · obtain ⟨k', e, hk⟩ := up_all h.2 p hp
      exact ⟨k', e, Int.lt_trans h.1 hk⟩
theorem apart_of_up : ∀ {D : List (PyData × PyData)}, upA D = true → keysApartInt D = true
  | [], _ => rfl
  | (.int k, v) :: r, h => by
    have h' : upB k r = true := h
    have no : hasIntKey k r = false := by
      have : ∀ (r : List (PyData × PyData)), (∀ p ∈ r, ∃ j, p.1 = .int j ∧ k < j) → hasIntKey k r = false := by
        intro r
        induction r with
        | nil => intro _; rfl
        | cons p r ih =>
          intro hp
          obtain ⟨j, e, hj⟩ := hp p (List.mem_cons_self ..)
          obtain ⟨p1, p2⟩ := p
          dsimp only at e
          subst e
          show ((j == k) || hasIntKey k r) = false
          rw [ih fun q hq => hp q (List.mem_cons_of_mem _ hq), Bool.or_false]
          exact beq_eq_false_iff_ne.mpr (by omega)
      exact this r (up_all h')
    have h2 : upA r = true := by
      cases r with
      | nil => rfl
      | cons p r =>
        obtain ⟨p1, p2⟩ := p
        cases p1 <;> first | (simp only [upB, Bool.and_eq_true] at h'; exact h'.2) | (simp [upB] at h')
    show (!hasIntKey k r && keysApartInt r) = true
    rw [no, apart_of_up h2]
    rfl
/-- one written table, its keys ascending -/
noncomputable def tabCheck (p : Program) (h : Heap) (x : Str) : Bool := match tabIntOf p x, h.nsMap mainGlobals x with
  | some D, some (.ref a) => (match h.get? a with
    | some ⟨.type n, none, .dict es _, sl⟩ => (n == "dict") && (sl.size == 0) && entriesAreInt es.toList D && upA D && (a != sysModules)
    | _ => false)
  | _, _ => false
theorem tab_of_check {p : Program} {h : Heap} {x : Str} {D : List (PyData × PyData)} (hD : tabIntOf p x = some D) (hc : tabCheck p h x = true) : h.tabIntOk x D = true := by
  k_with "proof" =>
    unfold tabCheck at hc
    rw [hD] at hc
    unfold Heap.tabIntOk
    split at hc
    · rename_i D' a e1 e2
      cases e1
      rw [e2]
      dsimp only
      split at hc
      · rename_i n es ep sl e3
        rw [e3]
        dsimp only
        simp only [Bool.and_eq_true] at hc ⊢
        exact ⟨⟨⟨⟨hc.1.1.1.1, hc.1.1.1.2⟩, hc.1.1.2⟩, apart_of_up hc.1.2⟩, hc.2⟩
      · cases hc
    · cases hc
  run_tac Mine.sq default
theorem tables_of {p : Program} {h : Heap} (x0 : Str) (hc : (tabCheck p h x0 && (tupIntsOf p x0).isNone && (tupStrsOf p x0).isNone && (valNames p).all fun x => (x == x0) || ((match tupIntsOf p x with | some ns => h.tupIntsOk x ns | none => true) &&
    (match tupStrsOf p x with | some ss => h.tupStrsOk x ss | none => true) && (match tabIntOf p x with | some D => h.tabIntOk x D | none => true))) = true) : tablesOk p h = true := by
  k_with "proof" =>
    simp only [Bool.and_eq_true] at hc
    obtain ⟨⟨⟨h1, h2⟩, h3⟩, h4⟩ := hc
    unfold tablesOk
    rw [List.all_eq_true] at h4 ⊢
    intro x hx
    have := h4 x hx
    rcases (Bool.or_eq_true _ _).mp this with e | e
    · have : x = x0 := beq_iff_eq.mp e
      subst this
      rw [Option.isNone_iff_eq_none.mp h2, Option.isNone_iff_eq_none.mp h3]
      cases hD : tabIntOf p x with
      | none => rfl
      | some D => dsimp only; rw [tab_of_check hD h1]; rfl
    · exact e
  run_tac Mine.sq default
end MineH
end
section -- Base
open PySem PySem.W PyProof.Rows
namespace Mine
open Lean Meta Elab Tactic
/-- K: the part of the state that the walk knows; the one object that is the world's is written with its row -/
theorem kDone : True := by
  run_tac do
    let objAt46 (P e : Lean.Expr) : Lean.Expr :=
      e.replace fun x => if x.isAppOfArity ``PySem.SetTable.mk 7 then
          let a := x.getAppArgs
          some (mkAppN x.getAppFn (a.set! 4 (mkApp (mkConst ``Bool.not) (mkApp2 (mkConst ``PySem.Params.followText) P (mkStrLit "set-order"))))) else none
    let p ← progOf (mkConst ``PySem.Challenge.pw_if0034_01)
    let nm := `Mine.K
    let some (h, h') ← twoRuns p | throwError "the top does not come through"
    let pr := mkApp2 (mkConst ``Prod [0, 0]) (mkConst ``Nat) (mkConst ``PySem.Obj)
    let (v, fr) ← withLocalDeclD `P (mkConst ``PySem.Params) fun P => do
      let fr := fragOf P (some "law") h h'
      let some o := h'.get? 46 | throwError "46"
      let e := objAt46 P (objE P o)
      let fr := ((fr.toArray.push (46, o, e)).qsort (fun a b => a.1 < b.1)).toList
      pure (← mkLambdaFVars #[P] (listE pr (fr.map fun (a, _, e) => mkApp4 (mkConst ``Prod.mk [0, 0]) (mkConst ``Nat) (mkConst ``PySem.Obj) (mkRawNatLit a) e)), fr)
    addDecl (.defnDecl { name := nm, levelParams := [], type := ← mkArrow (mkConst ``PySem.Params) (mkConst ``Frag), value := v, hints := .abbrev, safety := .safe })
    fragNow.modify ((nm, fr.map fun (a, o, _) => (a, o)) :: ·)
    addDecl (.defnDecl { name := nm ++ `keys, levelParams := [], type := mkApp (mkConst ``List [0]) (mkConst ``Nat), value := listE (mkConst ``Nat) (fr.map fun (a, _, _) => mkRawNatLit a), hints := .abbrev, safety := .safe })
  trivial
theorem kKeys : ∀ P, K.keys = (K P).map (·.1) := fun _ => by kernel_rfl
/-- the head: hd : walk -> Holds -/
theorem hdDone : True := by
  run_tac do
    let objAt46 (P e : Lean.Expr) : Lean.Expr :=
      e.replace fun x => if x.isAppOfArity ``PySem.SetTable.mk 7 then
          let a := x.getAppArgs
          some (mkAppN x.getAppFn (a.set! 4 (mkApp (mkConst ``Bool.not) (mkApp2 (mkConst ``PySem.Params.followText) P (mkStrLit "set-order"))))) else none
    let rawOf : Lean.Expr → MetaM Lean.Expr := fun e => do
      let ds ← Fast.twinsIn e
      let at_ : Std.HashMap Lean.Expr Nat := ds.zipIdx.foldl (fun m (d, i) => m.insert d.1 i) {}
      return Fast.putIn at_ (fun i => ds[i]!.2.1) e
    let twinLin : Name → MetaM Unit := fun c => do
      let (n, e) ← Fast.stemIn c true
      if (← getEnv).contains e then return
      let some (.defnInfo d) := (← getEnv).find? c | return
      let ds ← Fast.twinsIn d.value
      if ds.isEmpty then return
      let at_ : Std.HashMap Lean.Expr Nat := ds.zipIdx.foldl (fun m (d, i) => m.insert d.1 i) {}
      let newVal := Fast.putIn at_ (fun i => ds[i]!.2.1) d.value
      -- a text is its numbers by what the kernel sees: only the rest goes by congr
      let ts := ds.filter fun d => (Fast.isAtom d.1).isSome
      let atT : Std.HashMap Lean.Expr Nat := ts.zipIdx.foldl (fun m (d, i) => m.insert d.1 i) {}
      let v1 := Fast.putIn atT (fun i => ts[i]!.2.1) d.value
      let ds := ds.filter fun d => (Fast.isAtom d.1).isNone
      let at_ : Std.HashMap Lean.Expr Nat := ds.zipIdx.foldl (fun m (d, i) => m.insert d.1 i) {}
      let tys ← ds.mapM fun (x, _, _) => inferType x
      let G ← Fast.withLocals tys.toList #[] fun xs => mkLambdaFVars xs (Fast.putIn at_ (fun i => xs[i]!) v1)
      let mut bs : List (Lean.Expr) := [d.type]
      for t in tys.toList.reverse do bs := .forallE `x t bs.head! .default :: bs
      let b0 := bs.head!
      let lv ← getLevel d.type
      let mut f := G
      let mut f' := G
      let mut h := mkApp2 (mkConst ``Eq.refl [← getLevel b0]) b0 G
      for i in [0:ds.size] do
        let (x, y, hx) := ds[i]!
        bs := bs.tail!
        h := mkAppN (mkConst ``congr [← getLevel tys[i]!, lv]) #[tys[i]!, bs.head!, f, f', x, y, h, hx]
        f := mkApp f x
        f' := mkApp f' y
      let us := d.levelParams.map mkLevelParam
      addDecl (.defnDecl { name := n, levelParams := d.levelParams, type := d.type, value := newVal, hints := d.hints, safety := .safe })
      addDecl (.thmDecl { name := e, levelParams := d.levelParams, type := ← mkEq (mkConst c us) (mkConst n us), value := h })
      Fast.primed.modify (·.insert c (some (n, e)))
    let layRaw : Array (PySem.Obj × PySem.Obj × Lean.Expr) → Shared → Shared → MetaM (Array (PySem.Obj × PySem.Obj × Lean.Expr)) := fun old s s' => do
      unless s.heap.objs.size == s'.heap.objs.size && toExpr s.heap.life == toExpr s'.heap.life do throwError "the worlds part"
      let P := mkConst ``Params
      let tyO ← mkArrow P (mkConst ``PySem.Obj)
      let mut out := #[]
      for i in [0:s.heap.objs.size] do
        let (o, o') := (s.heap.objs[i]!, s'.heap.objs[i]!)
        match old[i]? with
        | some (a, a', e) => if sameObjNow a o && sameObjNow a' o' then out := out.push (a, a', e); continue
        | none => pure ()
        let v ← withLocalDeclD `P P fun p => do
          let e := objE p o
          let e' := objE p o'
          if e != e' then
            unless i == 46 do throwError "another object parts"
            mkLambdaFVars #[p] (← rawOf (objAt46 p e'))
          else mkLambdaFVars #[p] (← rawOf e)
        let c ← defAt `o tyO v
        Fast.primed.modify (·.insert c.constName! none)
        out := out.push (o, o', c)
      return out
    let stateRaw : Array (PySem.Obj × PySem.Obj × Lean.Expr) → Shared → Shared → Bool → MetaM (Array (PySem.Obj × PySem.Obj × Lean.Expr) × PySem.W.State) := fun old s s' whole => do
      unless toExpr s.drawn == toExpr s'.drawn && s.toks == s'.toks do throwError "the worlds part"
      let objs ← layRaw old s s'
      let P := mkConst ``Params
      let os := objs.map (·.2.2)
      if whole then
        let v ← withLocalDeclD `P P fun p => do
          let l := listE (mkConst ``PySem.Obj) (os.toList.map fun e => mkApp e p)
          mkLambdaFVars #[p] (mkApp2 (mkConst ``Heap.mk) (mkApp2 (mkConst ``Array.mk [0]) (mkConst ``PySem.Obj) l) (toExpr s.heap.life))
        let h ← defAt `heap (← mkArrow P (mkConst ``Heap)) v
        Fast.primed.modify (·.insert h.constName! none)
        return (objs, ⟨h, ← gensE s s', toExpr s.drawn, mkRawNatLit s.toks, none⟩)
      let v ← withLocalDeclD `P P fun p => mkLambdaFVars #[p] (treeE p os 1 0)
      let t ← defAt `tree (← mkArrow P (mkConst ``BT)) v
      Fast.primed.modify (·.insert t.constName! none)
      return (objs, { heap := default, gens := ← gensE s s', drawn := toExpr s.drawn, toks := mkRawNatLit s.toks, tree := some (t, mkRawNatLit s.heap.objs.size, toExpr s.heap.life) })
    let side : Lean.Expr → Lean.Expr → MetaM Lean.Expr := fun ty pf => do return mkConst (← withOptions (Elab.async.set · false) (mkAuxLemma [] ty pf (cache := false)))
    let reflAt : Lean.Expr → MetaM Lean.Expr := fun ty => do
      forallTelescope ty fun xs e => do
        let some (_, l, _) := e.eq? | throwError "reflAt: no equation"
        side ty (← mkLambdaFVars xs (← mkEqRefl l))
    let stsAt : List Lean.Expr → MetaM Lean.Expr := fun sts => do
      let c ← defAt `sts (mkApp (mkConst ``List [0]) (mkConst ``PySem.Stmt)) (listE (mkConst ``PySem.Stmt) sts)
      twinLin c.constName!
      return c
    let worldFalse (rows : List String) (w : Lean.Expr) : Lean.Expr := rows.foldl (fun w r => mkApp3 (mkConst ``World.withFollow) w (mkStrLit r) (mkConst ``Bool.false)) w

    let one : Lean.Expr := natE 1
    let opening_ : Lean.Expr → Lean.Expr → Program → PySem.W.State → MetaM Lean.Expr := fun pE NE p S0 => do
      let tb := mkConst ``treeTable
      let (ic, ic') ← match ← impCutsNow p 1, ← impCutsNow p 2 with
        | .ok a, .ok b => pure (a, b)
        | .error m, _ | _, .error m => throwError "the opening: {m}"
      let (cuts, left, se, rl) := ic
      let (cuts', left', se', rl') := ic'
      unless cuts.size == cuts'.size && left == left' do throwError "the worlds part"
      let (cuts, cuts') := if left == 0 then (cuts, cuts') else (cuts.push (left, se, rl), cuts'.push (left', se', rl'))
      let qE ← mkAppM ``opening #[pE]
      let stE ← mkAppM ``start #[qE]
      let os0 ← mkAppM ``Shared.os #[← mkAppM ``Prod.fst #[stE]]
      let imp (f : Name) (n : Lean.Expr) (w s th : Lean.Expr) := mkAppN (mkConst f) #[tb, qE, w, n, s, th]
      let t0E ← mkAppM ``Prod.snd #[stE]
      let (oz, Sz) ← stateRaw #[] (start (opening p)).1 (start (opening p)).1 false
      let mut lems := #[]
      let mut Sj := Sz
      let mut oj := oz
      let mut thr : Lean.Expr → Lean.Expr → Lean.Expr := fun _ _ => t0E
      for ((c, sj, rj), (_, sj', rj')) in cuts.toList.zip cuts'.toList do
        let (o2, Sn) ← stateRaw oj sj sj' false
        let (Sp, tp) := (Sj, thr)
        let asked := (rj ++ rj').eraseDups
        let thrE ← withLocalDeclD `w (mkConst ``World) fun w => withLocalDeclD `os (mkConst ``OsState) fun os => do
          let W := worldFalse asked w
          let r ← whnfQuick (imp ``impGoT (natE c) W (Sp.atT W os) (tp W os))
          unless r.isAppOfArity ``Option.some 2 do throwError "the opening: a cut: no state"
          let r2 ← Dig.kw r.appArg!
          unless r2.isAppOfArity ``Prod.mk 4 do throwError "the opening: a cut: no pair"
          mkLambdaFVars #[w, os] (r2.appArg!.replace fun x => if x == W then some w else none)
        let thrC ← defAt `thread (← mkArrow (mkConst ``World) (← mkArrow (mkConst ``OsState) (mkConst ``Thread))) thrE
        Fast.primed.modify (·.insert thrC.getAppFn.constName! none)
        let tn (w os : Lean.Expr) : Lean.Expr := mkApp2 thrC w os
        let lem ← liftT (← byPiece asked (fun w os => pure (imp ``impGoT (natE c) w (Sp.atT w os) (tp w os))) fun w os => do mkAppM ``some #[← mkAppM ``Prod.mk #[Sn.atT w os, tn w os]]) ``impGo_of
        lems := lems.push (c, Sp, tp, Sn, tn, lem)
        Sj := Sn
        thr := tn
        oj := o2
      let Se := Sj
      let (Sl, tl) := (Sj, thr)
      let last ← byPiece [] (fun w os => pure (imp ``importEnds (natE 1) w (Sl.at w os) (tl w os))) fun w os => mkAppM ``some #[Se.at w os]
      let some (tr, nE, lifeE) := Se.tree | throwError "no tree"
      let heT ← withLocalDeclD `P (mkConst ``Params) fun P => mkLambdaFVars #[P] (mkApp3 (mkConst ``absHeap) (mkApp tr P) nE lifeE)
      let mut M' := natE 1
      for (c, _) in lems.toList.reverse do M' := mkApp2 (mkConst ``Nat.add) (natE c) M'
      let (ty, pf) ← withLocalDeclD `w (mkConst ``World) fun w => do
        let r := Se.at w os0
        let mut k ← mkAppM ``congrFun #[mkApp last w, os0]
        let mut N' := natE 1
        for (c, Sp, tp, Sn, tn, l) in lems.toList.reverse do
          k := mkAppN (mkConst ``imp_go) #[tb, qE, w, natE c, N', Sp.at w os0, Sn.at w os0, r, tp w os0, tn w os0, ← mkAppM ``congrFun #[mkApp l w, os0], k]
          N' := mkApp2 (mkConst ``Nat.add) (natE c) N'
        let ty ← mkEq (imp ``importEnds M' w (← mkAppM ``Prod.fst #[stE]) t0E) (← mkAppM ``some #[r])
        pure (← mkForallFVars #[w] ty, ← mkLambdaFVars #[w] k)
      let hE ← side ty pf
      let (fs, _, _) ← forallMetaTelescope (← inferType (mkConst ``open_cut))
      let vs := #[pE, NE, M', heT, S0.heap, Se.gens, S0.gens, Se.drawn, S0.drawn, Se.toks, S0.toks]
      for (m, v) in fs.zip vs do m.mvarId!.assign v
      let .forallE n d b bi ← instantiateMVars (← inferType fs[13]!) | throwError "the fence"
      let fE ← byKernelQuick (.lam n d b bi) []
      let leE ← mkDecideProof (← instantiateMVars (← inferType fs[12]!))
      return mkAppN (mkConst ``open_cut) (vs ++ #[hE, leE, fE])

    let looksAt : Nat → Lean.Expr → Lean.Expr → MetaM Lean.Expr := Nat.repeat (fun again fuel l r => do
      let split ← withLocalDeclD `w (mkConst ``World) fun w => withLocalDeclD `os (mkConst ``OsState) fun os => do
        let opened (e : Lean.Expr) : MetaM Lean.Expr := do
          let e := (mkApp2 e w os).headBeta
          if e.isAppOf ``openSeen || e.isAppOf ``openGood then return (← unfoldDefinition? e).getD e
          return e
        let (a, b) := (← opened l, ← opened r)
        if fuel != 0 && a.isAppOfArity ``Prod.mk 4 && b.isAppOfArity ``Prod.mk 4 then
          let f (e : Lean.Expr) (i : Nat) := mkLambdaFVars #[w, os] e.getAppArgs[i]!
          return some (← f a 2, ← f b 2, ← f a 3, ← f b 3)
        return none
      let both ← withLocalDeclD `w (mkConst ``World) fun w => withLocalDeclD `os (mkConst ``OsState) fun os => do
        let (a, b) := ((mkApp2 l w os).headBeta, (mkApp2 r w os).headBeta)
        if fuel != 0 && a.isAppOfArity ``and 2 && b.isConstOf ``Bool.true then
          return some (← mkLambdaFVars #[w, os] a.appFn!.appArg!, ← mkLambdaFVars #[w, os] a.appArg!)
        return none
      if let some (a1, a2) := both then
        let x ← again (fuel - 1) a1 r
        let y ← again (fuel - 1) a2 r
        let (ty, pf) ← withLocalDeclD `w (mkConst ``World) fun w => withLocalDeclD `os (mkConst ``OsState) fun os => do
          let pf := mkApp4 (mkConst ``look_both) (mkApp2 a1 w os).headBeta (mkApp2 a2 w os).headBeta (mkApp2 x w os) (mkApp2 y w os)
          pure (← mkForallFVars #[w, os] (← mkEq (mkApp2 l w os).headBeta (mkApp2 r w os).headBeta), ← mkLambdaFVars #[w, os] pf)
        return ← side ty pf
      -- the written tables: the long one by its ascending keys
      let tab ← withLocalDeclD `w (mkConst ``World) fun w => withLocalDeclD `os (mkConst ``OsState) fun os => do
        let a := (mkApp2 l w os).headBeta
        unless a.isAppOfArity ``tablesOk 2 do return none
        let e := mkApp3 (mkConst ``MineH.tables_of) a.appFn!.appArg! a.appArg! (mkApp (mkConst ``PySem.Str.ofString) (mkStrLit "b3_exceptions"))
        let .forallE _ d _ _ ← inferType e | return none
        let some (_, x, y) := d.eq? | return none
        return some (← mkLambdaFVars #[w, os] x, ← mkLambdaFVars #[w, os] y, ← mkLambdaFVars #[w, os] e)
      if let some (x, y, e) := tab then
        let P ← withLocalDeclD `w (mkConst ``World) fun w => do mkLambdaFVars #[w] (← mkEq (mkApp x w).headBeta (mkApp y w).headBeta)
        let h ← byKernelQuick P []
        return ← withLocalDeclD `w (mkConst ``World) fun w => withLocalDeclD `os (mkConst ``OsState) fun os => do
          mkLambdaFVars #[w, os] (.app (mkApp2 e w os).headBeta (← mkAppM ``congrFun #[mkApp h w, os]))
      match split with
      | some (a1, b1, a2, b2) =>
        let x ← again (fuel - 1) a1 b1
        let y ← again (fuel - 1) a2 b2
        let (ty, pf) ← withLocalDeclD `w (mkConst ``World) fun w => withLocalDeclD `os (mkConst ``OsState) fun os => do
          let pf ← mkAppM ``looks_pair #[mkApp2 x w os, mkApp2 y w os]
          pure (← mkForallFVars #[w, os] (← mkEq (mkApp2 l w os).headBeta (mkApp2 r w os).headBeta), ← mkLambdaFVars #[w, os] pf)
        side ty pf
      | none =>
        let P ← withLocalDeclD `w (mkConst ``World) fun w => do mkLambdaFVars #[w] (← mkEq (mkApp l w).headBeta (mkApp r w).headBeta)
        let e ← byKernelQuick P []
        withLocalDeclD `w (mkConst ``World) fun w => withLocalDeclD `os (mkConst ``OsState) fun os => do
          mkLambdaFVars #[w, os] (← mkAppM ``congrFun #[mkApp e w, os])) 20 (fun _ _ _ => throwError "too deep")
    let leftMine : MVarId → Lean.Expr → Program → List String → MetaM Unit := fun g pE p _ => g.withContext do
      let T := (← instantiateMVars (← g.getType)).consumeMData
      unless T.isAppOf ``LeftO do throwError "no LeftO"
      let a := T.getAppArgs
      let (q, loose, Xt, al, Yf, Ya, NE, g0) := (a[1]!, a[2]!, a[3]!, a[4]!, a[5]!, a[6]!, a[7]!, a[8]!)
      let some N ← (Meta.evalNat NE).run | throwError "N"
      let t0 ← IO.monoMsNow
      let say (m : String) : MetaM Unit := do logInfo m!"{m}: {(← IO.monoMsNow) - t0} ms"
      if pE.isConst then twinLin pE.constName!
      if q.isConst then twinLin q.constName!
      let (t, t') ← match ← traceTop p N 1, ← traceTop p N 2 with
        | .ok t, .ok t' => pure (t, t')
        | .error m, _ | _, .error m => throwError "{m}"
      let tb := mkConst ``treeTable
      let bE ← mkAppM ``behindTheImports #[pE]
      let some cells ← cellsD? bE | throwError "the body"
      let main ← mkAppM ``Program.main #[pE]
      let scope ← mkAppM ``Module.scope #[main]
      let envE ← Term.TermElabM.run' do
        let pS ← Term.exprToSyntax scope
        let cS ← Term.exprToSyntax (toExpr t.code)
        let e ← Term.withSynthesize (Term.elabTermEnsuringType (← `(({ scope := $pS, locals := mainNs, globals := mainNs, cells := [], code := $cS, frame := some $(quote t.frame) } : Env))) (mkConst ``Env))
        instantiateMVars e
      let envE ← defAt `env (mkConst ``Env) envE
      twinLin envE.constName!
      let m0 := natE t.s0.heap.objs.size
      let annE := toExpr t.ann
      let qE' := toExpr t.framePos
      let cE : Lean.Expr := mkApp2 (mkConst ``Code.body) bE envE
      let B : Lean.Expr := listE (mkConst ``Frame) [mkApp (mkConst ``topFrame) qE']
      let rst (n : Lean.Expr) (f : Name) (w : Lean.Expr) (extra : Array Lean.Expr) (s th : Lean.Expr) : Lean.Expr := mkAppN (mkConst f) (#[mkConst ``treeTable, pE, w, m0, annE] ++ extra ++ #[n, s, th])
      let end_ (s pos : Lean.Expr) : MetaM Lean.Expr := do mkAppM ``some #[← mkAppM ``Prod.mk #[mkConst ``Flow.next, ← mkAppM ``Prod.mk #[s, ← mkAppM ``Prod.mk #[cE, pos]]]]
      let longDict : Snap → Snap → Snap → Snap → Thread → Lean.Expr → Lean.Expr → Array (PySem.Obj × PySem.Obj × Lean.Expr) → PySem.W.State → MetaM (Array (PySem.Obj × PySem.Obj × Lean.Expr) × PySem.W.State × Lean.Expr) := fun x0 x0' x x' th0 st stE o S1 => do
        let #[tgs, dict, apos] := st.getAppArgs | throwError "no assignment"
        let some [tg] ← cellsD? tgs | throwError "its target"
        let #[xE, px] := tg.getAppArgs | throwError "its name"
        let #[keys, vals, dpos] := dict.getAppArgs | throwError "no dict"
        let some ks ← cellsD? keys | throwError "its keys"
        let some vs ← cellsD? vals | throwError "its values"
        let tyP ← mkAppM ``Prod #[mkConst ``Int, mkConst ``Str]
        let mut prs := #[]
        for (k, v) in ks.zip vs do
          let kc := (← whnfD k).appArg!.getAppArgs[0]!
          let vc := v.getAppArgs[0]!
          unless kc.isAppOfArity ``Const.int 1 && vc.isAppOfArity ``Const.str 1 do throwError "a pair of another kind"
          prs := prs.push (← mkAppM ``Prod.mk #[kc.appArg!, vc.appArg!])
        let n := prs.size
        let full := (n - 1) / 17
        let tyL ← mkAppM ``List #[tyP]
        let cut (a b : Nat) := listE tyP (prs.extract a b).toList
        let c0 ← defAt `c tyL (cut 0 17)
        let cs ← defAt `c (← mkAppM ``List #[tyL]) (listE tyL ((List.range (full - 1)).map fun i => cut (17 * (i + 1)) (17 * (i + 2))))
        let cl ← defAt `c tyL (cut (17 * full) n)
        let cnt := x.steps - 7
        let runTo (w : World) (s : Shared) : MetaM Shared := do
          let mut s := s
          let mut th := th0
          for _ in [0:cnt] do
            match step (denote table) p w s th with
            | .go s' t' => s := s'; th := t'
            | .halt _ _ => throwError "halt"
          return s
        let s3 ← runTo (← fixWorld 1 true) x0.s
        let s3' ← runTo (← fixWorld 2 false) x0'.s
        let (o3, S3) ← stateRaw o s3 s3' false
        let (o', S') ← stateRaw o3 x.s x'.s false
        let some (tr1, n1, life1) := S1.tree | throwError "no tree"
        let some (tr3, n3, _) := S3.tree | throwError "no tree"
        let thr := mkApp4 (mkConst ``Thread.mk) (mkApp4 (mkConst ``MineH.storeAt) xE px envE (mkApp (mkConst ``PySem.Value.ref) n1)) cE dpos B
        let after ← liftT (← byPiece [] (fun w os => pure (rst (natE 9) ``segRunT w #[one] (S3.atT w os) thr)) fun w os => end_ (S'.atT w os) (toExpr x.pos)) ``segRun_of
        let (ty, pf) ← withLocalDeclD `w (mkConst ``World) fun w => do
          let P := mkApp (mkConst ``World.params) w
          let base := mkApp2 (mkConst ``BT.list) (mkApp tr1 P) n1
          let L2 := mkApp2 (mkConst ``BT.list) (mkApp tr3 P) n3
          let f ← withLocalDeclD `os (mkConst ``OsState) fun os => do
            let e := mkConst ``MineH.assign_run
            let r ← end_ (S'.at w os) (toExpr x.pos)
            let given : List (Name × Lean.Expr) := [(`p, pE), (`w, w), (`n₀, m0), (`ann, annE), (`x, xE), (`px, px), (`pos, apos), (`dpos, dpos), (`q0, toExpr x0.pos), (`q, qE'), (`keys, keys), (`values, vals), (`env, envE), (`b, bE),
              (`c0, c0), (`cl, cl), (`cs, cs), (`base, base), (`L2, L2), (`life, life1), (`gens, S1.gens), (`drawn, S1.drawn), (`os, os), (`n3, n1), (`toks, S1.toks), (`toks2, S3.toks), (`N, natE 9), (`c, natE cnt), (`r, r.appArg!)]
            let mut args := #[]
            let mut fty ← inferType e
            while fty.isForall do
              let .forallE nm' d bd bi := fty | throwError "telescope"
              let a ← if bi.isImplicit then
                  match given.lookup nm' with
                  | some v => pure v
                  | none => throwError "no value for {nm'}"
                else if nm' == `after then mkAppM ``congrFun #[mkApp after w, os]
                else if nm' == `hL || nm' == `hb then do
                  let tyP ← withLocalDeclD `P (mkConst ``Params) fun P' => do mkForallFVars #[P'] (d.replace fun y => if y == P then some P' else none)
                  pure (mkApp (← reflAt tyP) P)
                else if nm' == `hz || nm' == `ha || nm' == `hcs then reflAt d
                else do
                  let some (_, l, _) := d.eq? | throwError "no equation {nm'}"
                  mkExpectedTypeHint (← mkEqRefl l) d
              args := args.push a
              fty := bd.instantiate1 a
            mkLambdaFVars #[os] (mkAppN e args)
          let lhs ← withLocalDeclD `os (mkConst ``OsState) fun os => do
            mkLambdaFVars #[os] (rst (natE (cnt + 9)) ``segRun w #[one] (S1.at w os) (mkAppN (mkConst ``piecesOf) #[stE, envE, cE, toExpr x0.pos, B]))
          let rhs ← withLocalDeclD `os (mkConst ``OsState) fun os => do mkLambdaFVars #[os] (← end_ (S'.at w os) (toExpr x.pos))
          pure (← mkForallFVars #[w] (← mkEq lhs rhs), ← mkLambdaFVars #[w] (← mkAppM ``funext #[f]))
        return (o', S', ← side ty pf)
      let (o, S0) ← stateRaw #[] t.s0 t'.s0 true
      let (o, Sa) ← stateRaw o t.pre.s t'.pre.s true
      let stub := mkApp (mkConst ``topStub) pE
      let rowsOf (x y : Snap) := (x.rows ++ y.rows).eraseDups
      let pre ← byPiece (rowsOf t.pre t'.pre) (fun w os => pure (rst (natE t.pre.steps) ``topGo w #[] (S0.at w os) stub)) fun w os => do
        mkAppM ``some #[← mkAppM ``Prod.mk #[Sa.at w os, mkApp4 (mkConst ``Thread.mk) (mkApp2 (mkConst ``denote) tb cE) cE (toExpr t.pre.pos) B]]
      let (o, Sb) ← stateRaw o t.block.s t'.block.s false
      let block ← byPiece (rowsOf t.block t'.block) (fun w os => pure (rst (natE t.block.steps.succ) ``segRun w #[one] (Sa.at w os) (mkAppN (mkConst ``blockOf) #[bE, envE, cE, toExpr t.pre.pos, B]))) fun w os => end_ (Sb.at w os) (toExpr t.block.pos)
      say "before the pieces"
      let mut o := o
      let mut S := Sb
      let mut from_ := (t.block, t'.block)
      let mut lems : Array (Lean.Expr × PySem.W.State × Pos × PySem.W.State × Nat × Pos × Lean.Expr) := #[]
      let mut idx := 0
      let mut todo := cells.zip (t.pieces.zip t'.pieces)
      while !todo.isEmpty do
        -- as many statements as make some 400 steps
        let mut sts := #[]
        let mut steps := 0
        let mut rows : List String := []
        let mut last := from_
        let mut rest := todo
        for (st, x, x') in todo do
          let n := max x.steps x'.steps
          if !sts.isEmpty && (steps + n > 400 || ((rows ++ x.rows ++ x'.rows).eraseDups).length > 2) then break
          sts := sts.push st
          steps := steps + n
          rows := (rows ++ x.rows ++ x'.rows).eraseDups
          last := (x, x')
          rest := rest.tail!
        let stE ← if sts.size == 1 && steps > 5000 then defAt `sts (mkApp (mkConst ``List [0]) (mkConst ``PySem.Stmt)) (listE (mkConst ``PySem.Stmt) sts.toList) else stsAt sts.toList
        if sts.size == 1 && steps > 5000 then Fast.primed.modify (·.insert stE.constName! none)
        let (x, x') := last
        let (S1, pos1) := (S, from_.1.pos)
        if sts.size == 1 && steps > 5000 then
          let th0 := piecesOf ((t.body.drop idx).take 1) t.benv t.bcode pos1 [topFrame t.framePos]
          let (o', S', lem) ← longDict from_.1 from_.2 x x' th0 sts[0]! stE o S1
          lems := lems.push (stE, S1, pos1, S', steps - 7 + 9, x.pos, lem)
          o := o'
          S := S'
        else
          let (o', S') ← stateRaw o x.s x'.s false
          let whole : Lean.Expr := mkAppN (mkConst ``piecesOf) #[stE, envE, cE, toExpr pos1, B]
          let lem ← liftT (← byPiece rows (fun w os => pure (rst (natE steps.succ) ``segRunT w #[one] (S1.atT w os) whole)) fun w os => end_ (S'.atT w os) (toExpr x.pos)) ``segRun_of
          lems := lems.push (stE, S1, pos1, S', steps.succ, x.pos, lem)
          o := o'
          S := S'
        say s!"{idx}: {sts.size} statements, {steps} steps, rows {rows}"
        idx := idx + sts.size
        from_ := last
        todo := rest
      let (_, Sf) ← stateRaw o t.fin.s t'.fin.s true
      let (Sm, posm) := (S, from_.1.pos)
      let fin ← byPiece (rowsOf t.fin t'.fin) (fun w os => pure (rst (natE t.fin.steps.succ) ``topRun w #[] (Sm.at w os) (mkApp4 (mkConst ``Thread.mk) (mkApp (mkConst ``doneF) (mkConst ``Flow.next)) cE (toExpr posm) B))) fun w os => mkAppM ``some #[Sf.at w os]
      let mut M := natE t.fin.steps.succ
      for (_, _, _, _, n, _, _) in lems.toList.reverse do M := mkApp2 (mkConst ``Nat.add) (natE n) M
      let Mall := mkApp2 (mkConst ``Nat.add) (natE t.pre.steps) (mkApp2 (mkConst ``Nat.add) (natE t.block.steps.succ) M)
      let run ← withLocalDeclD `w (mkConst ``World) fun w => withLocalDeclD `os (mkConst ``OsState) fun os => do
        let atW (l : Lean.Expr) : MetaM Lean.Expr := do mkAppM ``congrFun #[mkApp l w, os]
        let r := Sf.at w os
        let mut k ← atW fin
        let mut N' := natE t.fin.steps.succ
        let mut rest := listE (mkConst ``PySem.Stmt) []
        let common := #[tb, pE, w, m0, annE, envE, qE']
        for (stE, S1, pos1, S', n, xpos, lem) in lems.toList.reverse do
          k := mkAppN (mkConst ``piece_app) (common ++ #[natE n, N', S1.at w os, S'.at w os, r, stE, rest, cE, toExpr pos1, toExpr xpos, ← atW lem, k])
          N' := mkApp2 (mkConst ``Nat.add) (natE n) N'
          rest ← mkAppM ``HAppend.hAppend #[stE, rest]
        k := mkAppN (mkConst ``piece_block) (common ++ #[natE t.block.steps.succ, N', Sa.at w os, Sb.at w os, r, bE, cE, toExpr t.pre.pos, toExpr t.block.pos, ← atW block, k])
        N' := mkApp2 (mkConst ``Nat.add) (natE t.block.steps.succ) N'
        k := mkAppN (mkConst ``go_top) (#[tb, pE, w, m0, annE, natE t.pre.steps, N', S0.at w os, Sa.at w os, r, stub, mkApp4 (mkConst ``Thread.mk) (mkApp2 (mkConst ``denote) tb cE) cE (toExpr t.pre.pos) B, ← atW pre, k])
        let ty ← mkEq (rst Mall ``topRun w #[] (S0.at w os) stub) (← mkAppM ``some #[r])
        pure (← mkForallFVars #[w, os] ty, ← mkLambdaFVars #[w, os] k)
      let runN ← side run.1 run.2
      say "the run"
      let open_ ← opening_ pE NE p S0
      say "the opening"
      let e := mkConst ``LeftO.of_pieces
      let (ms, _, _) ← forallMetaTelescope (← inferType e)
      let vals := #[pE, q, loose, Xt, al, Yf, Ya, NE, g0, S0.heap, Sf.heap, S0.gens, Sf.gens, S0.drawn, Sf.drawn, S0.toks, Sf.toks, m0, annE, Mall]
      for (m, v) in ms.zip vals do m.mvarId!.assign v
      let .forallE n1 d1 b1 i1 ← instantiateMVars (← inferType ms[21]!) | throwError "a look"
      let size ← byKernelQuick (.lam n1 d1 b1 i1) []
      let .forallE _ _ bd _ ← instantiateMVars (← inferType ms[24]!) | throwError "a look"
      let (l, r) ← withLocalDeclD `w (mkConst ``World) fun w => do
        let some (_, l, r) := (bd.instantiate1 w).eq? | throwError "a look"
        pure (← mkLambdaFVars #[w] l, ← mkLambdaFVars #[w] r)
      let h ← looksAt 12 l r
      let looks ← withLocalDeclD `w (mkConst ``World) fun w => do
        let f ← withLocalDeclD `os (mkConst ``OsState) fun os => do mkLambdaFVars #[os] (mkApp2 h w os)
        mkLambdaFVars #[w] (← mkAppM ``funext #[f])
      say "the looks"
      let le ← mkDecideProof (← instantiateMVars (← inferType ms[23]!))
      g.assign (mkAppN e (vals ++ #[open_, size, runN, le, looks]))
    twinLin ``PySem.Challenge.pw_if0034_01
    twinLin `Mine.K
    let tools ← leftPieces.get
    leftPieces.set (some leftMine)
    let nm := `Mine.hd
    Term.withDeclName nm do
      let ty ← instantiateMVars (← Term.elabType (← `((PySem.Challenge.rw_if0034_01).Holds)))
      let g ← mkFreshExprSyntheticOpaqueMVar ty
      let rest ← Tactic.run g.mvarId! (withoutRecover (do
        evalTactic (← `(tactic| (w_on; o_law)))
        let (k, a) := (← Term.exprToSyntax (mkConst `Mine.K), ← Term.exprToSyntax (mkConst `Mine.K.keys))
        evalTactic (← `(tactic| o_head (kmHook $k $a kKeys [219])))
        evalTactic (← `(tactic| (case hw => w_witness2)))))
      let [hc] := rest | throwError "the goals"
      let T ← instantiateMVars (← hc.getType)
      let pf ← withLocalDeclD `walk T fun h => do
        hc.assign h
        mkLambdaFVars #[h] (← instantiateMVars g)
      addDecl (.thmDecl { name := nm, levelParams := [], type := ← mkArrow T ty, value := pf })
    leftPieces.set tools
    fragNow.set []
    PyProof.Rows.walkTop.set false
    PyProof.Rows.walkHit.set {}
  trivial
end Mine
end
section -- MB
open PySem PySem.W PyProof.Rows
namespace Mine
noncomputable abbrev PG := PySem.Challenge.rw_if0034_01.row.prog
noncomputable abbrev VW0 := Mine.hd.view_39
noncomputable abbrev LO0 := looseW VW0 [Str.ofString "b1_set", Str.ofString "b3_exceptions", Str.ofString "_twin_re_1", Str.ofString "_namespace_map", Str.ofString "_looks_like_prefix_name", Str.ofString "C14NWriterTarget"]
/-- as it stands when the tables of code are laid aside -/
noncomputable abbrev VW := topProg
noncomputable abbrev LO := LO0 ++ (recsOf VW0).map (·.name) ++ (litsOf VW0).map (·.1) ++ (clssOf VW0 LO0).map (·.name)
/-- two states alike beside heap and tokens -/
structure Same (s s' : Shared) : Prop where
  o : s'.os = s.os
  d : s'.drawn = s.drawn
  g : s'.gens = s.gens
theorem Same.rfl' {s : Shared} : Same s s := ⟨rfl, rfl, rfl⟩
theorem Same.trans {a b c : Shared} (x : Same a b) (y : Same b c) : Same a c := ⟨y.o.trans x.o, y.d.trans x.d, y.g.trans x.g⟩
theorem Same.eq {s s' : Shared} (x : Same s s') : s' = { s with heap := s'.heap, toks := s'.toks } := by
  obtain ⟨h, g, d, t, o⟩ := s
  obtain ⟨h', g', d', t', o'⟩ := s'
  obtain ⟨rfl, rfl, rfl⟩ := x
  rfl
/-- alike, but for generators that are made and gone -/
structure SameB (s s' : Shared) : Prop where
  o : s'.os = s.os
  d : s'.drawn = s.drawn
  g : AllBare s'.gens
/-- what is handed on behind a call -/
noncomputable abbrev CtRet (Rl : Shared → Shared → Prop) (h₀ : Heap) (L : Addr) (m : Str → Option Value) (s : Shared) (P : Value → List (Addr × Obj) → Prop) (Q : Value → Shared → Prop) : Prop :=
  ∀ (v : Value) (news' : List (Addr × Obj)) (s' : Shared), Fr h₀ L s'.heap m → News h₀ L s'.heap news' → Rl s s' → 0 < s'.toks → P v news' → Q v s'
/-- a def's contract: from any frame -/
noncomputable abbrev CtR (Rl : Shared → Shared → Prop) (w : World) (mean : ExcName → Option Value) (mg mb : Str → Option Value) (f : Addr) (dn nu : Nat) (news : List (Addr × Obj)) (vs : List Value) (P : Value → List (Addr × Obj) → Prop) : Prop :=
  ∀ (dp un : Nat) (gd : Option (List Code)) (cn : Str) (cs : Scope) (a : Addr) (ccd : Value) (cl : List (Str × Addr)) (outer : List Env) (A₀ : Around) (base h₀ : Heap) (L : Addr) (m : Str → Option Value) (s : Shared) (Q E : Value → Shared → Prop),
    Below A₀ base outer h₀ → Fr h₀ L s.heap m → (K w.params).In h₀ → News h₀ L s.heap news → Top VW LO mean mg mb h₀ → cs.kind = .function → dp + dn < recursionLimit → un + nu < cLine → 0 < s.toks → AllBare s.gens →
    CtRet Rl h₀ L m s P Q → wpAny (model PG w) (ktrTop dp un gd cn cs L a ccd cl outer) (call (.ref f) vs) Q E s
noncomputable abbrev Ct := CtR Same

section
variable {α : Type} {M : Model} {A : Around} {t : Sem α} {Q : α → Shared → Prop} {E : Value → Shared → Prop}
theorem gen_tok {h : Heap} {g : Array GenState} {d : Drawn} {k : Nat} {o : OsState} (hk : 0 < k) (H : ∀ k', 0 < k' → wpAny M A t Q E ⟨h, g, d, k', o⟩) : wpAny M A t Q E ⟨h, g, d, k, o⟩ := H k hk
theorem pos_toks {s : Shared} (hs : 0 < s.toks) (h : wpAny M A t (fun a s' => 0 < s'.toks → Q a s') E s) : wpAny M A t Q E s :=
  wpAny_with_toks (n := 1) hs (wpAny_mono h (fun _ _ x y => x y) fun _ _ x _ => x)
end

/-- one sign replaced, over lists -/
noncomputable def rep (c : Nat) (z : List Nat) (l : List Nat) : List Nat := l.flatMap fun k => if k = c then z else [k]
theorem rep_append (c : Nat) (z a b : List Nat) : rep c z (a ++ b) = rep c z a ++ rep c z b := by simp [rep]
theorem rep_free (c : Nat) (z l : List Nat) (h : c ∉ l) : rep c z l = l := by
  induction l with
  | nil => rfl
  | cons k r ih =>
    have h1 : ¬ k = c := fun e => h (e ▸ List.mem_cons_self ..)
    have h2 : c ∉ r := fun m => h (List.mem_cons_of_mem _ m)
    show (if k = c then z else [k]) ++ rep c z r = _
    rw [if_neg h1, ih h2]; rfl
theorem rep_join (c : Nat) (z : Str) : ∀ parts : List Str, (∀ p ∈ parts, c ∉ p.cps.toList) → rep c z.cps.toList (Str.join ⟨#[c]⟩ parts).cps.toList = (Str.join z parts).cps.toList
  | [], _ => rfl
  | [p], h => rep_free c _ _ (h p (List.mem_singleton.mpr rfl))
  | p :: q :: r, h => by
    have ih := rep_join c z (q :: r) fun a ha => h a (List.mem_cons_of_mem _ ha)
    show rep c z.cps.toList (p ++ ⟨#[c]⟩ ++ Str.join ⟨#[c]⟩ (q :: r)).cps.toList = (p ++ z ++ Str.join z (q :: r)).cps.toList
    simp only [Str.cps_append, Array.toList_append]
    rw [rep_append, rep_append, ih, rep_free c _ _ (h p (List.mem_cons_self ..))]
    have : rep c z.cps.toList [c] = z.cps.toList := by simp [rep]
    show p.cps.toList ++ rep c z.cps.toList [c] ++ _ = _
    rw [this]
theorem replace_rep (x z : Str) (c : Nat) : (Txt.replace x ⟨#[c]⟩ z).cps.toList = rep c z.cps.toList x.cps.toList := by
  rw [StrLaws.replace_one, ← rep_join c z _ (StrLaws.split_free x c), StrLaws.join_split]
theorem rep_notin {x : Str} {c : Nat} {y : Str} (hy : y = ⟨#[c]⟩) (h : (Builtin.Str.occurrences x y 0 x.length 1).isEmpty = true) : c ∉ x.cps.toList := by
  subst hy
  have := StrLaws.found_one x c
  rw [h] at this
  simpa using this.symm
theorem rep_len (c : Nat) (z l : List Nat) : (rep c z l).length ≤ l.length + l.length * z.length := by
  k_with "proof" =>
    induction l with
    | nil => simp [rep]
    | cons k r ih =>
      show ((if k = c then z else [k]) ++ rep c z r).length ≤ _
      rw [List.length_append, List.length_cons, Nat.add_mul]
      split <;> simp <;> omega
  run_tac Mine.sq default
theorem replace_len {x z : Str} {c n k : Nat} (hx : x.length ≤ n) (hz : z.length ≤ k) : (Txt.replace x ⟨#[c]⟩ z).length ≤ n + n * k := by
  k_with "proof" =>
    have h := rep_len c z.cps.toList x.cps.toList
    rw [← replace_rep] at h
    have e1 : (Txt.replace x ⟨#[c]⟩ z).length = (Txt.replace x ⟨#[c]⟩ z).cps.toList.length := by simp [Str.length]
    have e2 : x.length = x.cps.toList.length := by simp [Str.length]
    have e3 : z.length = z.cps.toList.length := by simp [Str.length]
    rw [e1]
    refine Nat.le_trans h ?_
    rw [← e2, ← e3]
    exact Nat.add_le_add hx (Nat.mul_le_mul hx hz)
  run_tac Mine.sq default
section
variable {prog : Program} {w : World} {A : Around} {E : Value → Shared → Prop} {s : Shared} {x y z : Str} {t : Tok} {u v : Nat} {Q : Value → Shared → Prop}
theorem replaceR {c n kz : Nat} (hs : 0 < s.toks) (hu : u ≠ 0) (hv : v ≠ 0) (huv : u ≠ v) (hy : y = ⟨#[c]⟩) (hyz : (y == z) = false) (hx : x.length ≤ n) (hz : z.length ≤ kz) (hb : n + (n + 1) * kz ≤ 16777216)
    (hq : ∀ x' t' k, 0 < k → x'.length ≤ n + n * kz → x'.cps.toList = rep c z.cps.toList x.cps.toList → Q (.str x' t') { s with toks := k }) :
    wpAny (model prog w) A (call (.builtin "str.replace") [.str x t, .str y u, .str z v]) Q E s := by
  k_with "proof" =>
    subst hy
    refine pos_toks hs (SC.replace hu hv huv hyz ?_ fun t' k hk => hq _ t' k hk (replace_len hx hz) (replace_rep ..))
    exact Nat.le_trans (Nat.add_le_add hx (Nat.mul_le_mul (Nat.succ_le_succ hx) hz)) hb
  run_tac Mine.sq default
end
end Mine
end
section -- WAttr
open PySem PySem.W PySem.W.X PyProof.Rows
namespace Mine
noncomputable abbrev bmO (f : String) (v : Value) : Obj := { cls := .type "builtin_function_or_method", data := .fields #[.builtin f, v] }
theorem bm_append {prog : Program} {w : World} {A : Around} {E Q : Value → Shared → Prop} {s : Shared} {bm D : Addr} {its : Array Value} {n : Nat} {x : Value} (hb : s.heap.get? bm = some (bmO "list.append" (.ref D))) (ho : s.heap.get? D = some { cls := .type "list", data := .seq its n })
   (h : wpAny (model prog w) A.in1 (Builtin.«list.append» ⟨[.ref D, x], []⟩) (fun fin s' => match fin with | .done (.ret v) => Q v s' | _ => False) E s) : wpAny (model prog w) A (call (.ref bm) [x]) Q E s := by
  have hT : s.TypeIs (.ref D) "list" := ⟨_, ho, rfl⟩
  refine wpAny_call (codeAny_of_tree ?_)
  show wpAny _ A.in1 (callAny (.ref bm) ⟨[x], []⟩) _ _ s
  simp only [callAny]
  refine wpAny_bind (wpAny_load hb ?_)
  show wpAny _ _ (checkBoundCall "list.append" ⟨[.ref D, x], []⟩ >>= fun _ => again (.builtin "list.append" ⟨[.ref D, x], []⟩)) _ _ _
  have e : codeAny (model prog w) A (.builtin "list.append" ⟨[.ref D, x], []⟩) (fun r s' => match r with | .ok (.ret v) => Q v s' | .ok _ => False | .error e => E e s') s := by
    refine codeAny_builtin F.entry_list_append ?_
    rw [Around.under_plainId (F.slot_list_append).plain ⟨[.ref D, x], []⟩]
    refine wpAny_mono h (fun fin s' hf => ?_) fun _ _ e => e
    rcases fin with (_ | _ | _ | _) | _ <;> first | exact hf | exact hf.elim
  obtain ⟨hp, g, d, tk, os⟩ := s
  refine wpAny_bind ?_
  unfold checkBoundCall
  repeat (any_goals (first | assumption | exact hT | wp_step))
  refine wpAny_of_eq (a := false) (by rw [isSubtype_type]; kernel_rfl) ?_
  have hv : (Manifest.varargsMethods.contains "list.append" || false) = false := by decide +kernel
  rw [if_neg (by rw [hv]; exact Bool.false_ne_true)]
  repeat (any_goals (first | assumption | exact hT | wp_step))
  exact ⟨plainId_quiet F.slot_list_append.plain _, e⟩
section
variable {prog : Program} {w : World} {A : Around} {E : Value → Shared → Prop} {s : Shared} {h₀ : Heap} {L D bm : Addr} {m : Str → Option Value} {news news' : List (Addr × Obj)}
theorem bm_push {its : Array Value} {n : Nat} {x : Value} {Q : Value → Shared → Prop} (F : Fr h₀ L s.heap m) (N : News h₀ L s.heap news) (hb : (bm, bmO "list.append" (.ref D)) ∈ news) (U : Upd D (listOf its n) (listOf (its.push x) (n + 1)) news news') (hsz : its.size ≤ sizeLine)
    (h : ∀ h', Fr h₀ L h' m → News h₀ L h' news' → Q .none { s with heap := h' }) : wpAny (model prog w) A (call (.ref bm) [x]) Q E s := by
  k_with "proof" =>
    have hb' := (N _ hb).1
    obtain ⟨pre, post, rfl, rfl, a, b⟩ := U.split
    have z := N (D, listOf its n) (List.mem_append.mpr (.inr (.head _)))
    refine bm_append hb' z.1 ?_
    show wpAny _ _ (updateSeq D (·.push x) >>= fun _ => ret .none) _ _ s
    refine wpAny_bind ?_
    refine wpAny_updateSeq z.1 rfl (wpAny_pure (h _ (F.change (Heap.SameBut.update ..) z.2.1 z.2.2) (news_set N a b (Heap.SameBut.update ..) ?_)))
    rw [Heap.get?_update_self _ z.1 (by rw [mapSeq_push]; rfl), mapSeq_push]
  run_tac Mine.sq default
end
end Mine
end
section -- WAttrB
open PySem PySem.W PySem.W.X PyProof.Rows
namespace Mine
section
local macro_rules | `(tactic| x_close) => `(tactic| (exact ⟨_, _, _, rfl, rfl, by assumption⟩))
theorem ga_call {prog : Program} {w : World} {A : Around} {E : Value → Shared → Prop} {s : Shared} {l : Addr} {vs : Array Value} {n : Nat} {u : Tok} (hl : s.heap.get? l = some ⟨.type "list", none, .seq vs n, #[]⟩) :
   wpAny (model prog w) A (call (.builtin "list.__getattribute__") [.ref l, .str (Str.ofString "append") u]) (fun v s' => ∃ a h tk, v = .ref a ∧ s' = { s with heap := h, toks := tk } ∧ Mem s.heap h [] [(a, bmO "list.append" (.ref l))]) E s := by
  x_run
end
theorem ga_call' {prog : Program} {w : World} {A : Around} {E Q : Value → Shared → Prop} {s : Shared} {l : Addr} {vs : Array Value} {n : Nat} {u : Tok} (hl : s.heap.get? l = some ⟨.type "list", none, .seq vs n, #[]⟩)
   (hq : ∀ a h tk, Mem s.heap h [] [(a, bmO "list.append" (.ref l))] → Q (.ref a) { s with heap := h, toks := tk }) : wpAny (model prog w) A (call (.builtin "list.__getattribute__") [.ref l, .str (Str.ofString "append") u]) Q E s :=
  wpAny_mono (ga_call hl) (fun v s' hv => by obtain ⟨a, h, tk, rfl, rfl, M⟩ := hv; exact hq a h tk M) fun _ _ e => e
theorem ga_append {prog : Program} {w : World} {A : Around} {E Q : Value → Shared → Prop} {s : Shared} {l : Addr} {vs : Array Value} {n : Nat} (hl : s.heap.get? l = some ⟨.type "list", none, .seq vs n, #[]⟩)
   (hq : ∀ a h tk, Mem s.heap h [] [(a, bmO "list.append" (.ref l))] → Q (.ref a) { s with heap := h, toks := tk }) : wpAny (model prog w) A (getAttr (.ref l) (Str.ofString "append") true) Q E s := by
  obtain ⟨hp, g, d, tk, os⟩ := s
  have hT : ∀ tk', (⟨hp, g, d, tk', os⟩ : Shared).TypeIs (.ref l) "list" := fun _ => ⟨_, hl, rfl⟩
  have f3 := F.slot_list_getattribute.lookup
  have f4 := F.slot_list_getattribute.bind (.ref l)
  have f5 := am_list_getattr_none
  unfold getAttr getAttrBy
  repeat (any_goals (first | assumption | exact hT _ | ((with_reducible show wpAny _ _ (call (Value.builtin "list.__getattribute__") _ _) _ _ _); refine ga_call' hl fun a h tk' M => ?_) | wp_step))
  exact hq _ _ _ (by assumption)
theorem ga_news {prog : Program} {w : World} {A : Around} {E : Value → Shared → Prop} {s : Shared} {h₀ : Heap} {L l : Addr} {m : Str → Option Value} {news : List (Addr × Obj)} {vs : Array Value} {n : Nat} {Q : Value → Shared → Prop} (F : Fr h₀ L s.heap m) (N : News h₀ L s.heap news) (hm : (l, listOf vs n) ∈ news)
    (h : ∀ a h' tk, Fr h₀ L h' m → News h₀ L h' ((a, bmO "list.append" (.ref l)) :: news) → (∀ p ∈ news, p.1 ≠ a) → Q (.ref a) { s with heap := h', toks := tk }) : wpAny (model prog w) A (getAttr (.ref l) (Str.ofString "append") true) Q E s := by
  k_with "proof" =>
    refine ga_append (N _ hm).1 fun a h' tk M => ?_
    have up : ∀ b o, s.heap.get? b = some o → h'.get? b = some o := fun b o e => M.keep b o e (by simp [away])
    have na := M.nw _ (List.mem_cons_self ..)
    have ne : ∀ b o, s.heap.get? b = some o → b ≠ a := fun b o e q => by rw [q] at e; rw [na.2] at e; cases e
    have hL : ∃ o, s.heap.get? L = some o := by obtain ⟨o, _, _, e, _⟩ := F.ns; exact ⟨o, e⟩
    have h0 : h₀.get? a = none := by
      cases e : h₀.get? a with
      | none => rfl
      | some o => exact absurd rfl (ne a o (F.keep a o e))
    refine h a h' tk (F.keeps up) (fun p hp => ?_) fun p hp => ne _ _ (N p hp).1
    rcases List.mem_cons.mp hp with rfl | hp
    · obtain ⟨o, e⟩ := hL
      exact ⟨na.1, Ne.symm (ne _ _ e), h0⟩
    · exact N.grown up p hp
  run_tac Mine.sq default
end Mine
end
section -- WNs
open PySem PySem.W PySem.W.X PyProof.Rows
namespace Mine
section
local macro_rules | `(tactic| x_close) => `(tactic| (exact ⟨_, _, _, rfl, rfl, by assumption⟩))
theorem ns1 {w : World} {A : Around} {E : Value → Shared → Prop} {s : Shared} (X : (K w.params).In s.heap) :
   wpAny (model PG w) A (call (.builtin "dict.items") [.ref 140]) (fun v s' => ∃ a h tk, v = .ref a ∧ s' = { s with heap := h, toks := tk } ∧ Mem s.heap h [] [(a, { cls := .type "dict_items", data := .fields #[.ref 140] })]) E s := by
  x_run
end
/-- the entries of a written dict of texts -/
noncomputable def entT (w : World) (x : Str × Nat × Str × Nat) : DictEntry := ⟨hashStr w x.1, .str x.1 x.2.1, .str x.2.2.1 x.2.2.2⟩
theorem dictT {prog : Program} {w : World} {h : Heap} {a : Addr} {ep : Nat} (l : List (Str × Nat × Str × Nat)) (e : h.get? a = some ⟨.type "dict", none, .dict ⟨l.map (entT w)⟩ ep, #[]⟩) (hn : (l.map (·.1)).Nodup) :
    h.DictAt (strKind prog w) a (l.map fun x => (x.1, .str x.2.2.1 x.2.2.2)) ep := by
  have keyOk : ∀ x : Str × Nat × Str × Nat, (strKind prog w).is x.1 (entT w x).key = true := fun x => by
    show Value.isStrOf x.1 (.str x.1 x.2.1) = true
    simp [Value.isStrOf]
  refine ⟨_, _, e, ⟨rfl, rfl, rfl⟩, rfl, ?_, ?_, ?_⟩
  · intro y hy
    obtain ⟨x, _, rfl⟩ := List.mem_map.mp (show y ∈ l.map (entT w) from by simpa using hy)
    exact ⟨x.1, keyOk x, rfl⟩
  · clear e hn
    show Pairs _ (l.map (entT w)) _
    induction l with
    | nil => exact .nil
    | cons x l ih => exact .cons (keyOk x) rfl ih
  · rw [List.map_map]; exact hn
theorem ns_dict {w : World} {h : Heap} (X : (K w.params).In h) : ∃ kvs : List (Str × Value), kvs.length = 7 ∧ ∃ ep, h.DictAt (strKind PG w) 140 kvs ep :=
  ⟨_, rfl, 7, dictT [(Str.ofString "http://www.w3.org/XML/1998/namespace", 2406, Str.ofString "xml", 2407), (Str.ofString "http://www.w3.org/1999/xhtml", 2408, Str.ofString "html", 2409), (Str.ofString "http://www.w3.org/1999/02/22-rdf-syntax-ns#", 2410, Str.ofString "rdf", 2411),
    (Str.ofString "http://schemas.xmlsoap.org/wsdl/", 2412, Str.ofString "wsdl", 2413), (Str.ofString "http://www.w3.org/2001/XMLSchema", 2414, Str.ofString "xs", 2415), (Str.ofString "http://www.w3.org/2001/XMLSchema-\x69nstance", 2416, Str.ofString "xsi", 2417),
    (Str.ofString "http://purl.org/dc/elements/1.1/", 2418, Str.ofString "dc", 2419)] (X 140 _ (by with_unfolding_all rfl)) (by decide +kernel)⟩
section
variable {w : World} {A : Around} {E : Value → Shared → Prop} {s : Shared} {h₀ : Heap} {L : Addr} {m : Str → Option Value} {news : List (Addr × Obj)}
theorem mem_fr {h : Heap} {nw : List (Addr × Obj)} (F : Fr h₀ L s.heap m) (M : Mem s.heap h [] nw) : Fr h₀ L h m := F.keeps fun b o e => M.keep b o e (by simp [away])
theorem mem_news {h : Heap} {nw : List (Addr × Obj)} (F : Fr h₀ L s.heap m) (N : News h₀ L s.heap news) (M : Mem s.heap h [] nw) : News h₀ L h (nw ++ news) ∧ ∀ p ∈ nw, ∀ q ∈ news, q.1 ≠ p.1 := by
  k_with "proof" =>
    have up : ∀ b o, s.heap.get? b = some o → h.get? b = some o := fun b o e => M.keep b o e (by simp [away])
    have ne : ∀ p ∈ nw, ∀ b o, s.heap.get? b = some o → b ≠ p.1 := fun p hp b o e q => by rw [q] at e; rw [(M.nw p hp).2] at e; cases e
    have hL : ∃ o, s.heap.get? L = some o := by obtain ⟨o, _, _, e, _⟩ := F.ns; exact ⟨o, e⟩
    refine ⟨fun p hp => ?_, fun p hp q hq => ne p hp _ _ (N q hq).1⟩
    rcases List.mem_append.mp hp with hp | hp
    · obtain ⟨o, e⟩ := hL
      refine ⟨(M.nw p hp).1, Ne.symm (ne p hp _ _ e), ?_⟩
      cases e : h₀.get? p.1 with
      | none => rfl
      | some o => exact absurd rfl (ne p hp p.1 o (F.keep _ o e))
    · exact N.grown up p hp
  run_tac Mine.sq default
theorem ns_get {pl : Sem Bool} {Q : Value × List Value → Shared → Prop} (X : (K w.params).In h₀) (F : Fr h₀ L s.heap m) (h : Q (.builtin "dict.items", [.ref 140]) s) : wpAny (model PG w) A (getMethod (.ref 140) (Str.ofString "items") pl) Q E s := by
  k_with "proof" =>
    have e := X 140 _ (by with_unfolding_all rfl)
    have e' := F.keep _ _ e
    exact getMethod_builtin ⟨_, e', rfl⟩ PySem.F.plainAttrs_dict PySem.F.slot_dict_items PySem.F.type_dict_items (fun a e => by cases e; exact ⟨_, e', rfl⟩) h
  run_tac Mine.sq default
theorem ns_items {Q : Value → Shared → Prop} (X : (K w.params).In h₀) (F : Fr h₀ L s.heap m) (N : News h₀ L s.heap news) (h : ∀ a h' tk, Fr h₀ L h' m → News h₀ L h' ((a, { cls := .type "dict_items", data := .fields #[.ref 140] }) :: news) → Q (.ref a) { s with heap := h', toks := tk }) : wpAny (model PG w) A (call (.builtin "dict.items") [.ref 140]) Q E s := by
  k_with "proof" =>
    refine wpAny_mono (ns1 (X.keeps F.keep)) (fun v s' hv => ?_) fun _ _ e => e
    obtain ⟨a, h', tk, rfl, rfl, M⟩ := hv
    exact h a h' tk (mem_fr F M) (mem_news F N M).1
  run_tac Mine.sq default
theorem ns_list {a : Addr} {Q : Value → Shared → Prop} (X : (K w.params).In h₀) (hh : A.handled = none) (F : Fr h₀ L s.heap m) (N : News h₀ L s.heap ((a, { cls := .type "dict_items", data := .fields #[.ref 140] }) :: news)) (h : ∀ a h' tk, Fr h₀ L h' m → News h₀ L h' news → Q (.ref a) { s with heap := h', toks := tk }) : wpAny (model PG w) A (call (.type "list") [.ref a]) Q E s := by
  k_with "proof" =>
    obtain ⟨kvs, hk, ep, hd⟩ := ns_dict (X.keeps F.keep)
    refine kdx_call (knd := strKind PG w) (r := a) (d := 140) (kvs := kvs) hh ⟨_, (N _ (List.mem_cons_self ..)).1, rfl, rfl⟩ hd (by rw [hk, sizeLine_eq]; decide) ?_
    intro h' tk acc c as up _ _ _ _
    exact h _ h' tk (F.keeps up) fun p hp => N.grown up p (List.mem_cons_of_mem _ hp)
  run_tac Mine.sq default
end
end Mine
end
section -- Dt
open PySem PySem.W PyProof.Rows
namespace Mine
/-- the ten signs' five looks, as codes -/
noncomputable def look (i j : Nat) : List Nat := match i, j with
  | 0, 1 | 0, 2 | 1, 1 | 1, 2 => [38, 113, 117, 111, 116, 59]
  | 0, _ | 1, _ => [34]
  | 2, 2 | 2, 4 => []
  | 2, _ => [173]
  | 3, 2 | 3, 4 => []
  | 3, _ => [8203]
  | 4, 0 => [38]
  | 4, _ => [38, 97, 109, 112, 59]
  | 5, 3 | 5, 4 => [38, 103, 116, 59]
  | 5, _ => [62]
  | 6, 0 => [13]
  | 6, 1 | 6, 3 => [38, 35, 120, 68, 59]
  | 6, _ => [38, 35, 120, 100, 59]
  | 7, 1 => [38, 35, 120, 65, 59]
  | 7, 2 => [38, 35, 120, 97, 59]
  | 7, _ => [10]
  | 8, 2 | 8, 4 => [115, 115]
  | 8, _ => [223]
  | _, 2 | _, 4 => [107]
  | _, _ => [75]
noncomputable def lookS (i j : Nat) : Str := ⟨(look i j).toArray⟩
noncomputable def signDat (i : Nat) : Dat := .tuple [.str (lookS i 0), .str (lookS i 1), .str (lookS i 2), .str (lookS i 3), .str (lookS i 4)]
noncomputable def wordDat (l : List Nat) : Dat := .list (l.map signDat)
inductive Cl where
  | start (w o : List Nat)
  | close
  | data (w : List Nat)
noncomputable def sS : Str := Str.ofString "start"
noncomputable def sE : Str := Str.ofString "end"
noncomputable def sD : Str := Str.ofString "data"
noncomputable def callDat : Cl → Dat
  | .start w o => .tuple [.str sS, wordDat w, wordDat o]
  | .close => .tuple [.str sE, wordDat [], wordDat []]
  | .data w => .tuple [.str sD, wordDat w, wordDat []]
noncomputable def okW (l : List Nat) : Prop := l.length ≤ 3 ∧ ∀ i ∈ l, i < 10
noncomputable def Cl.ok : Cl → Prop
  | .start w o => okW w ∧ okW o
  | .close => True
  | .data w => okW w
/-- depth never below nought, nought at the end -/
noncomputable def WF : Nat → List Cl → Prop
  | d, [] => d = 0
  | d, .start _ _ :: r => WF (d + 1) r
  | 0, .close :: _ => False
  | d + 1, .close :: r => WF d r
  | d, .data _ :: r => WF d r
noncomputable def Good (cs : List Cl) : Prop := WF 0 cs ∧ (∀ c ∈ cs, c.ok) ∧ cs.length ≤ 12
/-- _law_calls -/
noncomputable abbrev CallsC (w : World) (mean : ExcName → Option Value) (mg mb : Str → Option Value) : Prop :=
  ∀ (news : List (Addr × Obj)) (v : Value), Ct w mean mg mb 278 4 40 news [v] fun v news' => (∀ p ∈ news, p ∈ news') ∧ ∃ cs, Good cs ∧ DatIn news' v (.list (cs.map callDat))
end Mine
end
section -- MLoop
open PySem PySem.W PySem.Calls PySem.Spec PyProof.Rows
namespace Mine
/-- what holds of a state beside its heap -/
structure Oth (G : Shared → Prop) (s : Shared) : Prop where
  g : G s
  t : 0 < s.toks
/-- a fact that heap and tokens do not touch -/
noncomputable abbrev Shut (G : Shared → Prop) : Prop := ∀ s h t, G s → G { s with heap := h, toks := t }
theorem shut_same {s₀ : Shared} : Shut (Same s₀) := fun _ _ _ x => ⟨x.o, x.d, x.g⟩
theorem shut_sameB {s₀ : Shared} : Shut (SameB s₀) := fun _ _ _ x => ⟨x.o, x.d, x.g⟩
section
variable {prog : Program} {w : World} {A : Around} {E : Value → Shared → Prop} {s : Shared} {env : Env} {h₀ : Heap} {target : Expr} {body : List Stmt} {Q : Flow → Shared → Prop} {G : Shared → Prop}

/-- a turn's end -/
noncomputable def TEnd (h₀ : Heap) (L : Addr) (G : Shared → Prop) (I : Addr) (oI : Obj) (J : (Str → Option Value) → List (Addr × Obj) → Prop) (Q : Flow → Shared → Prop) (f : Flow) (s₂ : Shared) : Prop :=
  match f with
  | .ret v => Q (.ret v) s₂
  | .brk => Q .next s₂
  | _ => ∃ m' news', Fr h₀ L s₂.heap m' ∧ News h₀ L s₂.heap ((I, oI) :: news') ∧ (∀ p ∈ news', p.1 ≠ I) ∧ J m' news' ∧ Oth G s₂

theorem m_loop (hG : Shut G) {R : Result → Shared → Prop} {I : Addr} {n : Nat} {fp : List Addr} {P : Nat → Value → Prop} {St : Nat → Heap → Prop} {m : Str → Option Value} {news : List (Addr × Obj)} {oI : Obj}
    (W : Walks prog w A I fp [I] n P St) (hIo : ∀ i h, St i h → ∃ o, h.get? I = some o) (S : List (Addr × Obj) → Prop)
    (hSt : ∀ i h h' o nw, St i h → h.get? I = some o → h'.get? I = some o → (∀ b o, h₀.get? b = some o → h'.get? b = some o) → News h₀ env.locals h' nw → S nw → St i h')
    (hgo : ∀ i v (s : Shared) (Q : Unit → Shared → Prop) (E : Value → Shared → Prop), St i s.heap → Q () s → wpAny (model prog w) A (letOwnedTupleGo target (.ref I) v) Q E s)
    (J : Nat → (Str → Option Value) → List (Addr × Obj) → Prop) (hJ : ∀ i m n, J i m n → S n) (h0 : J 0 m news)
    (hst : St 0 s.heap) (F : Fr h₀ env.locals s.heap m) (N : News h₀ env.locals s.heap ((I, oI) :: news)) (off : ∀ p ∈ news, p.1 ≠ I) (O : Oth G s)
    (turn : ∀ i v oI m₁ news₁ s₁, i < n → P i v → J i m₁ news₁ → (∀ p ∈ news₁, p.1 ≠ I) → Fr h₀ env.locals s₁.heap m₁ → News h₀ env.locals s₁.heap ((I, oI) :: news₁) → Oth G s₁ →
      wpAny (model prog w) A (assign target env v) (fun _ s₂ => wpAny (model prog w) A (execs body env)
        (TEnd h₀ env.locals G I oI (J (i + 1)) fun f s' => R (.ok f) s') (fun _ _ => False) s₂) (fun _ _ => False) s₁)
    (fin : ∀ m' news' s', J n m' news' → (∀ p ∈ news', p.1 ≠ I) → Fr h₀ env.locals s'.heap m' → News h₀ env.locals s'.heap news' → Oth G s' → R (.ok .next) s') :
    codeAny (model prog w) A (.forLoop target (.ref I) body [] env) R s := by
  k_with "proof" =>
    have hI₀ : h₀.get? I = none := (N _ (List.mem_cons_self ..)).2.2
    have hIL : I ≠ env.locals := (N _ (List.mem_cons_self ..)).2.1
    have nf : ∀ {P : Value → Shared → Prop} e s', False → P e s' := fun _ _ h => h.elim
    refine codeAny_forLoop_any
      (fun k s' => ∃ i m' news' oI, News h₀ env.locals s'.heap ((I, oI) :: news') ∧ St i s'.heap ∧ J i m' news' ∧ Fr h₀ env.locals s'.heap m' ∧ (∀ p ∈ news', p.1 ≠ I) ∧ Oth G s' ∧ i ≤ n ∧ k = n + 1 - i) ?_ (n + 1)
      ⟨0, m, news, oI, N, hst, h0, F, off, O, Nat.zero_le _, rfl⟩
    rintro k s' ⟨i, m', news', oI', N', hst', hJ', F', off', O', hi, rfl⟩
    have N'' : News h₀ env.locals s'.heap news' := fun p hp => N' p (List.mem_cons_of_mem _ hp)
    have next : ∀ h₁ : Heap, (∀ b o, b ∉ [I] → s'.heap.get? b = some o → h₁.get? b = some o) → Fr h₀ env.locals h₁ m' ∧ News h₀ env.locals h₁ news' := fun h₁ hk₁ =>
      ⟨LCg.fr_but F' hk₁ (Ne.symm hIL) hI₀, LCg.news_but N'' hk₁ off'⟩
    by_cases hlt : i < n
    · refine pos_toks O'.t (W.item i _ _ _ hlt hst' fun v h₁ tk₁ hv hst hk htk => ?_)
      refine hgo (i + 1) v _ _ _ hst ?_
      obtain ⟨o₁, ho₁⟩ := hIo _ _ hst
      obtain ⟨F₁, N₁⟩ := next h₁ hk
      have N₂ : News h₀ env.locals h₁ ((I, o₁) :: news') := fun p hp => by
        rcases List.mem_cons.mp hp with rfl | hp
        · exact ⟨ho₁, hIL, hI₀⟩
        · exact N₁ p hp
      refine wpAny_mono (turn i v o₁ m' news' { s' with heap := h₁, toks := tk₁ } hlt hv hJ' off' F₁ N₂ ⟨hG _ _ _ O'.g, htk⟩) (fun _ s₂ h₂ => wpAny_mono h₂ (fun f s₃ h₃ => ?_) nf) nf
      have again : TEnd h₀ env.locals G I o₁ (J (i + 1)) (fun f s' => R (.ok f) s') .next s₃ → ∃ k', k' < n + 1 - i ∧ ∃ i m' news' oI, News h₀ env.locals s₃.heap ((I, oI) :: news') ∧ St i s₃.heap ∧ J i m' news' ∧ Fr h₀ env.locals s₃.heap m' ∧ (∀ p ∈ news', p.1 ≠ I) ∧ Oth G s₃ ∧ i ≤ n ∧ k' = n + 1 - i := by
        rintro ⟨m₂, news₂, F₃, N₃, off₃, J₃, O₃⟩
        exact ⟨n + 1 - (i + 1), by omega, i + 1, m₂, news₂, o₁, N₃, hSt _ _ _ _ _ hst ho₁ (N₃ _ (List.mem_cons_self ..)).1 F₃.keep (fun p hp => N₃ p (List.mem_cons_of_mem _ hp)) (hJ _ _ _ J₃), J₃, F₃, off₃, O₃, hlt, rfl⟩
      cases f with
      | ret v => exact h₃
      | brk => exact h₃
      | next => exact again h₃
      | cont => exact again h₃
    · have hin : i = n := by omega
      subst hin
      refine pos_toks O'.t (W.done _ _ _ hst' fun h₁ tk₁ hk₁ htk => wpAny_execs_nil ?_)
      obtain ⟨F₁, N₁⟩ := next h₁ hk₁
      exact fin m' news' _ hJ' off' F₁ N₁ ⟨hG _ _ _ O'.g, htk⟩
  run_tac Mine.sq default

/-- behind a for's iterable -/
noncomputable def MFor (prog : Program) (w : World) (A : Around) (E : Value → Shared → Prop) (env : Env) (target : Expr) (body : List Stmt) (Q : Flow → Shared → Prop) (xv : Value) (s₁ : Shared) : Prop :=
  wpAny (model prog w) A (pyIter xv) (fun it s₂ => codeAny (model prog w) A (.forLoop target it body [] env) (fun r s' => match r with | .ok f => Q f s' | .error e => cameBackBy (model prog w) A env E e s') s₂) E s₁

theorem m_for {iter : Expr} {pos : Pos} (h : wpAny (model prog w) A (eval iter env) (MFor prog w A E env target body Q) E s) (hs : ∀ x, foldedSetIterable iter env x = pure x := by intro _; rfl) :
    wpAny (model prog w) A (exec (.For target iter body [] pos) env) Q E s := wpAny_For h hs

theorem MFor.list (hG : Shut G) {ax : Addr} {items : Array Value} {m : Str → Option Value} {news : List (Addr × Obj)} (hh : A.handled = none) (F : Fr h₀ env.locals s.heap m) (N : News h₀ env.locals s.heap news) (O : Oth G s)
    (J : Nat → (Str → Option Value) → List (Addr × Obj) → Prop) (hJ : ∀ i m n, J i m n → LCg.SrcAt h₀ ax items n) (h0 : J 0 m news)
    (turn : ∀ I, (∀ p ∈ news, p.1 < I) → ∀ i v oI m₁ news₁ s₁, i < items.size → items[i]? = some v → J i m₁ news₁ → (∀ p ∈ news₁, p.1 ≠ I) → Fr h₀ env.locals s₁.heap m₁ → News h₀ env.locals s₁.heap ((I, oI) :: news₁) → Oth G s₁ →
        wpAny (model prog w) A (assign target env v) (fun _ s₂ => wpAny (model prog w) A (execs body env) (TEnd h₀ env.locals G I oI (J (i + 1)) Q) (fun _ _ => False) s₂) (fun _ _ => False) s₁)
    (fin : ∀ m' news' s', J items.size m' news' → Fr h₀ env.locals s'.heap m' → News h₀ env.locals s'.heap news' → Oth G s' → Q .next s') :
    MFor prog w A E env target body Q (.ref ax) s := by
  k_with "proof" =>
    have S := hJ _ _ _ h0
    have hl : s.heap.IsList ax items := S.list F.keep N
    have hlt : ax < s.heap.objs.size := by obtain ⟨_, e, _⟩ := hl; exact Heap.lt_size e
    have lt : ∀ p ∈ news, p.1 < s.heap.objs.size := fun p hp => Heap.lt_size (N p hp).1
    unfold MFor
    refine wpAny_pyIter_list hl ?_
    refine m_loop (G := G) hG (R := fun r s' => match r with | .ok f => Q f s' | .error e => cameBackBy (model prog w) A env E e s') (oI := { cls := .type "list_iterator", data := .fields #[.ref ax, .int 0 0] })
      (Walks.list hh s.heap.objs.size ax (Nat.ne_of_lt hlt) items) (fun i h st => by obtain ⟨o, e, _⟩ := st.1; exact ⟨o, e⟩) _ LCg.list_st (fun i v s Q E st q => letGo_listiter st.1 q) J hJ h0 ⟨⟨_, Heap.get?_push_size _ rfl, rfl, rfl⟩, hl.push _⟩ (F.push _) (N.push F _) (fun p hp => Nat.ne_of_lt (lt p hp)) ⟨hG _ _ _ O.g, O.t⟩ ?_ ?_
    · intro i v oI m₁ news₁ s₁ z a b d e f g
      exact turn _ lt i v oI m₁ news₁ s₁ z a b d e f g
    · intro m' news' s' a _ c d e
      exact fin m' news' s' a c d e
  run_tac Mine.sq default

theorem MFor.range (hG : Shut G) {r : Addr} {a b : Int} {t u v : Tok} {n : Nat} {m : Str → Option Value} {news : List (Addr × Obj)} (hh : A.handled = none) (F : Fr h₀ env.locals s.heap m) (N : News h₀ env.locals s.heap news) (O : Oth G s)
    (hr : IsRange s.heap r a b 1 t u v) (hsm : Builtin.Range.small a b 1 = true) (hn : Builtin.Range.rangeSize a b 1 = ((n : Nat) : Int))
    (J : Nat → (Str → Option Value) → List (Addr × Obj) → Prop) (h0 : J 0 m news)
    (hgo : ∀ it v, letOwnedTupleGo target it v = pure () := by intro _ _; rfl)
    (turn : ∀ I, (∀ p ∈ news, p.1 < I) → ∀ i v oI m₁ news₁ s₁, i < n → (∃ t, v = .int (a + (i : Int)) t) → J i m₁ news₁ → (∀ p ∈ news₁, p.1 ≠ I) → Fr h₀ env.locals s₁.heap m₁ → News h₀ env.locals s₁.heap ((I, oI) :: news₁) → Oth G s₁ →
        wpAny (model prog w) A (assign target env v) (fun _ s₂ => wpAny (model prog w) A (execs body env) (TEnd h₀ env.locals G I oI (J (i + 1)) Q) (fun _ _ => False) s₂) (fun _ _ => False) s₁)
    (fin : ∀ m' news' s', J n m' news' → Fr h₀ env.locals s'.heap m' → News h₀ env.locals s'.heap news' → Oth G s' → Q .next s') :
    MFor prog w A E env target body Q (.ref r) s := by
  k_with "proof" =>
    have lt : ∀ p ∈ news, p.1 < s.heap.objs.size := fun p hp => Heap.lt_size (N p hp).1
    unfold MFor
    refine wpAny_pyIter_range hr hsm ?_
    refine m_loop (G := G) hG (R := fun r s' => match r with | .ok f => Q f s' | .error e => cameBackBy (model prog w) A env E e s') (oI := { cls := .type "range_iterator", data := .fields #[rawInt a, rawInt (Builtin.Range.rangeSize a b 1), rawInt 1] })
      (LCg.range_walks hh a n) (fun i h st => ⟨_, st⟩) (fun _ => True) LCg.range_st (fun i v s Q E st q => by rw [hgo]; exact wpAny_pure q) J (fun _ _ _ _ => trivial) h0 (by show IsRangeIter _ _ _ _ _; rw [hn]; simpa using Heap.get?_push_size _ rfl) (F.push _) (N.push F _) (fun p hp => Nat.ne_of_lt (lt p hp)) ⟨hG _ _ _ O.g, O.t⟩ ?_ ?_
    · intro i v oI m₁ news₁ s₁ z a b d e f g
      exact turn _ lt i v oI m₁ news₁ s₁ z a b d e f g
    · intro m' news' s' a _ c d e
      exact fin m' news' s' a c d e
  run_tac Mine.sq default
end
end Mine
end
section -- MUse
open PySem PySem.W PySem.Calls PySem.Spec PyProof.Rows
namespace Mine
open Lean Elab Tactic Meta in
def mProj (e ty goal : Lean.Expr) : MetaM (Option Lean.Expr) := do
  let mut work := [(e, ty)]
  for _ in [0:400] do
    match work with
    | [] => return none
    | (e, ty) :: rest =>
      if ← withReducible (isDefEq ty goal) then return some e
      if ty.isAppOfArity ``And 2 then
        work := (mkApp3 (mkConst ``And.left) (ty.getArg! 0) (ty.getArg! 1) e, ty.getArg! 0) :: (mkApp3 (mkConst ``And.right) (ty.getArg! 0) (ty.getArg! 1) e, ty.getArg! 1) :: rest
      else work := rest
  return none
open Lean Elab Tactic Meta in
/-- a hypothesis, or a part of one -/
def mHyp : TacticM Unit := withMainContext do
  let g ← getMainGoal
  let t ← instantiateMVars (← g.getType)
  for d? in (← getLCtx).decls.toList.reverse do
    let some d := d? | continue
    if d.isImplementationDetail then continue
    let ty ← instantiateMVars d.type
    unless (← isProp ty) do continue
    if let some r ← mProj d.toExpr ty t then
      g.assign r
      replaceMainGoal []
      return
  throwError "mHyp: none"

/-- all of add lies above all of news -/
noncomputable def Abv (add news : List (Addr × Obj)) : Prop := ∀ p ∈ add, AllLt p.1 news
theorem allLt_all {d : Nat} : ∀ {l : List (Addr × Obj)}, AllLt d l → ∀ p ∈ l, p.1 < d
  | [], _, _, h => nomatch h
  | _ :: _, x, p, h => by
    rcases List.mem_cons.mp h with rfl | h
    · exact x.1
    · exact allLt_all x.2 p h
noncomputable def Grow (l news : List (Addr × Obj)) (R : List (Addr × Obj) → Prop) : Prop := ∃ add, l = add ++ news ∧ Abv add news ∧ R add
theorem Grow.zero {news : List (Addr × Obj)} {R : List (Addr × Obj) → Prop} (h : R []) : Grow news news R := ⟨[], rfl, fun _ h => (nomatch h), h⟩
theorem Grow.succ {p : Addr × Obj} {l news : List (Addr × Obj)} {R : List (Addr × Obj) → Prop} (hp : AllLt p.1 news) (h : Grow l news fun a => R (p :: a)) : Grow (p :: l) news R := by
  obtain ⟨add, e, ha, hr⟩ := h
  subst e
  refine ⟨p :: add, rfl, fun q hq => ?_, hr⟩
  rcases List.mem_cons.mp hq with e | hq
  · rw [e]; exact hp
  · exact ha q hq
theorem Grow.left {l add' news : List (Addr × Obj)} {R : List (Addr × Obj) → Prop} (ha : Abv add' news) (h : R add') : Grow (add' ++ news) news R := ⟨add', rfl, ha, h⟩

theorem datAll_at {news : List (Addr × Obj)} {v : Value} : ∀ {vs : List Value} {ds : List Dat} {i : Nat}, DatAll news vs ds → vs[i]? = some v → ∃ d, ds[i]? = some d ∧ DatIn news v d
  | _ :: _, _, 0, .cons h _, e => by
    rw [List.getElem?_cons_zero] at e; cases e; exact ⟨_, rfl, h⟩
  | _ :: _, _, i + 1, .cons _ r, e => by
    rw [List.getElem?_cons_succ] at e ⊢; exact datAll_at r e
  | [], _, _, .nil, e => by simp at e

section
variable {prog : Program} {w : World} {A : Around} {E : Value → Shared → Prop} {s : Shared} {h₀ : Heap} {L : Addr} {news : List (Addr × Obj)}
theorem fm10 (x : Int) : 0 ≤ x.fmod 10 ∧ x.fmod 10 < 10 := by
  k_with "proof" =>
    rw [Int.fmod_eq_emod_of_nonneg _ (by decide)]
    omega
  run_tac Mine.sq default
theorem listAt10 {value slice : Expr} {a : Addr} {vs : Array Value} {n : Nat} {x : Int} {t : Tok} {Q : Value → Shared → Prop} (N : News h₀ L s.heap news) (hm : (a, listOf vs n) ∈ news) (hv : vs.size = 10)
    (h : ∀ v, vs[(x.fmod 10).toNat]? = some v → Q v s)
    (hs : subscripted slice false (.ref a) (.int (x.fmod 10) t) = operate [.ref a, .int (x.fmod 10) t] (getItem (.ref a) (.int (x.fmod 10) t)) := by with_unfolding_all rfl) :
    wpAny (model prog w) A (subscriptTail value slice (.ref a) (.int (x.fmod 10) t)) Q E s := by
  k_with "proof" =>
    have hl : s.heap.IsList a vs := ⟨_, (N _ hm).1, rfl, _, rfl⟩
    have f := fm10 x
    have hlt : (x.fmod 10).toNat < vs.size := by omega
    exact tail_any hl.typeIs slot_list_getitem.lookup (wpAny_getItem_list (x := vs[(x.fmod 10).toNat]) hl f.1 (by omega) (by simp [hlt]) (h _ (by simp [hlt]))) hs
  run_tac Mine.sq default
end
end Mine
namespace Mine
theorem Fr.agree {h₀ h : Heap} {L : Addr} {m m' : Str → Option Value} (F : Fr h₀ L h m) (e : ∀ y, m y = m' y) : Fr h₀ L h m' := by
  have : m = m' := funext e
  exact this ▸ F
section
variable {prog : Program} {w : World} {A : Around} {E : Value → Shared → Prop} {s : Shared} {env : Env} {h₀ : Heap} {target : Expr} {body : List Stmt} {Q : Flow → Shared → Prop} {G : Shared → Prop}
theorem m_for' {iter : Expr} {pos : Pos} (ht : 0 < s.toks) (h : wpAny (model prog w) A (eval iter env) (fun xv s₁ => 0 < s₁.toks → MFor prog w A E env target body Q xv s₁) E s) (hs : ∀ x, foldedSetIterable iter env x = pure x := by intro _; rfl) :
    wpAny (model prog w) A (exec (.For target iter body [] pos) env) Q E s := wpAny_For (pos_toks ht h) hs
/-- one list under the hand, no object new -/
theorem MFor.range1 (hG : Shut G) {r : Addr} {b : Int} {t u v : Tok} {n : Nat} {l : Addr} {vs₀ : Array Value} {k₀ : Nat} {tl : List (Addr × Obj)} {m₀ : Str → Option Value} {sg : Addr} {sv : Array Value} {sk : Nat} (hh : A.handled = none) (F : Fr h₀ env.locals s.heap m₀) (N : News h₀ env.locals s.heap ((l, listOf vs₀ k₀) :: tl)) (hg : G s) (ht : 0 < s.toks)
    (hr : IsRange s.heap r 0 b 1 t u v) (_hs : (sg, listOf sv sk) ∈ tl) (hsm : Builtin.Range.small 0 b 1 = true) (hn : Builtin.Range.rangeSize 0 b 1 = ((n : Nat) : Int))
    (xs : List Str) (Jx : Array Value → Nat → Array Value → (Str → Option Value) → Prop) (h0 : Jx sv 0 vs₀ m₀)
    (hgo : ∀ it v, letOwnedTupleGo target it v = pure () := by intro _ _; rfl)
    (turn : ∀ I, AllLt I ((l, listOf vs₀ k₀) :: tl) → ∀ i t' oI m₁ vs k s₁, i < n → Jx sv i vs m₁ → (∀ y, y ∉ xs → m₁ y = m₀ y) → Fr h₀ env.locals s₁.heap m₁ → News h₀ env.locals s₁.heap ((I, oI) :: (l, listOf vs k) :: tl) → G s₁ → 0 < s₁.toks →
        wpAny (model prog w) A (assign target env (.int (i : Int) t')) (fun _ s₂ => wpAny (model prog w) A (execs body env) (TEnd h₀ env.locals G I oI (fun m' n' => ∃ vs' k', n' = (l, listOf vs' k') :: tl ∧ (∀ y, y ∉ xs → m' y = m₀ y) ∧ Jx sv (i + 1) vs' m') Q) (fun _ _ => False) s₂) (fun _ _ => False) s₁)
    (fin : ∀ m' vs k s', Jx sv n vs m' → (∀ y, y ∉ xs → m' y = m₀ y) → Fr h₀ env.locals s'.heap m' → News h₀ env.locals s'.heap ((l, listOf vs k) :: tl) → G s' → 0 < s'.toks → Q .next s') :
    MFor prog w A E env target body Q (.ref r) s := by
  k_with "proof" =>
    refine MFor.range (G := G) hG hh F N ⟨hg, ht⟩ hr hsm hn (fun i m' n' => ∃ vs' k', n' = (l, listOf vs' k') :: tl ∧ (∀ y, y ∉ xs → m' y = m₀ y) ∧ Jx sv i vs' m') ⟨vs₀, k₀, rfl, fun _ _ => rfl, h0⟩ hgo ?_ ?_
    · rintro I hI i v oI m₁ news₁ s₁ hi ⟨t', rfl⟩ ⟨vs, k, rfl, hm, hx⟩ hoff F₁ N₁ O₁
      rw [Int.zero_add]
      exact turn I (allLt_of hI) i t' oI m₁ vs k s₁ hi hx hm F₁ N₁ O₁.g O₁.t
    · rintro m' news' s' ⟨vs, k, rfl, hm, hx⟩ F' N' O'
      exact fin m' vs k s' hx hm F' N' O'.g O'.t
  run_tac Mine.sq default
end
theorem TEnd.next {h₀ : Heap} {L : Addr} {G : Shared → Prop} {I : Addr} {oI : Obj} {J : (Str → Option Value) → List (Addr × Obj) → Prop} {Q : Flow → Shared → Prop} {s₂ : Shared} {m' : Str → Option Value} {news' : List (Addr × Obj)}
    (F : Fr h₀ L s₂.heap m') (N : News h₀ L s₂.heap ((I, oI) :: news')) (off : ∀ p ∈ news', p.1 ≠ I) (hj : J m' news') (hg : G s₂) (ht : 0 < s₂.toks) : TEnd h₀ L G I oI J Q .next s₂ := ⟨m', news', F, N, off, hj, hg, ht⟩
theorem datIn_str {news : List (Addr × Obj)} {x y : Str} {t : Tok} (e : x = y) : DatIn news (.str x t) (.str y) := e ▸ .str x t
noncomputable def signs10 : List Dat := [signDat 0, signDat 1, signDat 2, signDat 3, signDat 4, signDat 5, signDat 6, signDat 7, signDat 8, signDat 9]
theorem signs10_is {d : Dat} (h : d ∈ signs10) : ∃ j, j < 10 ∧ d = signDat j := by
  k_with "proof" =>
    simp only [signs10, List.mem_cons, List.not_mem_nil, or_false] at h
    rcases h with e | e | e | e | e | e | e | e | e | e <;> exact ⟨_, by decide, e⟩
  run_tac Mine.sq default
theorem datAll_mem {news : List (Addr × Obj)} {v : Value} : ∀ {vs : List Value} {ds : List Dat}, DatAll news vs ds → v ∈ vs → ∃ d, d ∈ ds ∧ DatIn news v d
  | [], _, _, h => nomatch h
  | _ :: _, _, .cons h r, hv => by
    rcases List.mem_cons.mp hv with e | hv
    · exact ⟨_, List.mem_cons_self .., e ▸ h⟩
    · obtain ⟨d, hd, hi⟩ := datAll_mem r hv
      exact ⟨d, List.mem_cons_of_mem _ hd, hi⟩
theorem words_all {news : List (Addr × Obj)} {sv : List Value} (hs : DatAll news sv signs10) : ∀ {vs : List Value}, (∀ v ∈ vs, v ∈ sv) → ∃ l : List Nat, l.length = vs.length ∧ (∀ i ∈ l, i < 10) ∧ DatAll news vs (l.map signDat)
  | [], _ => ⟨[], rfl, fun _ h => (nomatch h), .nil⟩
  | v :: r, h => by
    obtain ⟨l, h1, h2, h3⟩ := words_all hs (vs := r) fun u hu => h u (List.mem_cons_of_mem _ hu)
    obtain ⟨d, hd, hi⟩ := datAll_mem hs (h v (List.mem_cons_self ..))
    obtain ⟨j, hj, rfl⟩ := signs10_is hd
    refine ⟨j :: l, by simp [h1], fun i hi => ?_, .cons hi h3⟩
    rcases List.mem_cons.mp hi with e | hi
    · exact e ▸ hj
    · exact h2 i hi
theorem word_is {news : List (Addr × Obj)} {a : Addr} {n : Nat} {sv : List Value} {vs : Array Value} (hs : DatAll news sv signs10) (hl : vs.size ≤ 3) (hv : ∀ v ∈ vs.toList, v ∈ sv) (hm : (a, listOf vs n) ∈ news) : ∃ l, okW l ∧ DatIn news (.ref a) (wordDat l) := by
  obtain ⟨l, h1, h2, h3⟩ := words_all hs hv
  refine ⟨l, ⟨?_, h2⟩, .list (vs := vs.toList) hm h3⟩
  rw [h1]; simpa using hl
theorem range_small : ∀ {n : Nat}, n < 4 → Builtin.Range.small 0 (n : Int) 1 = true
  | 0, _ => by decide
  | 1, _ => by decide
  | 2, _ => by decide
  | 3, _ => by decide
  | n + 4, h => by omega
theorem range_size : ∀ {n : Nat}, n < 4 → Builtin.Range.rangeSize 0 (n : Int) 1 = ((n : Nat) : Int)
  | 0, _ => by decide
  | 1, _ => by decide
  | 2, _ => by decide
  | 3, _ => by decide
  | n + 4, h => by omega
noncomputable def ovr : List (Str × Option Value) → (Str → Option Value) → Str → Option Value
  | [], m, y => m y
  | p :: r, m, y => if y = p.1 then p.2 else ovr r m y
theorem ovr_is {m₁ m₀ : Str → Option Value} : ∀ (vals : List (Str × Option Value)), (∀ p ∈ vals, m₁ p.1 = p.2) → ∀ y, (y ∉ vals.map (·.1) → m₁ y = m₀ y) → m₁ y = ovr vals m₀ y
  | [], _, y, h => h (by simp)
  | p :: r, hp, y, h => by
    show m₁ y = if y = p.1 then p.2 else ovr r m₀ y
    by_cases e : y = p.1
    · rw [if_pos e, e]; exact hp p (List.mem_cons_self ..)
    · rw [if_neg e]
      exact ovr_is r (fun q hq => hp q (List.mem_cons_of_mem _ hq)) y fun hn => h (by simp only [List.map_cons, List.mem_cons]; rintro (q | q); exact e q; exact hn q)
theorem Fr.ovr {h₀ h : Heap} {L : Addr} {m₁ m₀ : Str → Option Value} (F : Fr h₀ L h m₁) (vals : List (Str × Option Value)) (hp : ∀ p ∈ vals, m₁ p.1 = p.2) (hm : ∀ y, y ∉ vals.map (·.1) → m₁ y = m₀ y) : Fr h₀ L h (Mine.ovr vals m₀) :=
  Fr.agree F fun y => ovr_is vals hp y (hm y)
theorem push_mem {sv vs : Array Value} {v : Value} {i : Nat} (h : sv[i]? = some v) (hv : ∀ u ∈ vs.toList, u ∈ sv.toList) : ∀ u ∈ (vs.push v).toList, u ∈ sv.toList := by
  intro u hu
  rw [Array.toList_push] at hu
  rcases List.mem_append.mp hu with hu | hu
  · exact hv u hu
  · rw [List.mem_singleton.mp hu]
    exact Array.mem_toList_iff.mpr (Array.mem_of_getElem? h)
theorem off_of {I l : Addr} {o o' : Obj} {tl : List (Addr × Obj)} (h : AllLt I ((l, o) :: tl)) : ∀ p ∈ (l, o') :: tl, p.1 ≠ I := by
  intro p hp
  rcases List.mem_cons.mp hp with e | hp
  · rw [e]; exact Nat.ne_of_lt h.1
  · exact Nat.ne_of_lt (allLt_all h.2 p hp)
theorem sig_in {news : List (Addr × Obj)} {a : Addr} {n : Nat} {x0 x1 x2 x3 x4 y0 y1 y2 y3 y4 : Str} {t0 t1 t2 t3 t4 : Tok} (hm : (a, ({ cls := .type "tuple", data := .seq #[.str x0 t0, .str x1 t1, .str x2 t2, .str x3 t3, .str x4 t4] n } : Obj)) ∈ news)
    (e0 : x0 = y0) (e1 : x1 = y1) (e2 : x2 = y2) (e3 : x3 = y3) (e4 : x4 = y4) : DatIn news (.ref a) (.tuple [.str y0, .str y1, .str y2, .str y3, .str y4]) :=
  .tuple (vs := [_, _, _, _, _]) hm (.cons (datIn_str e0) (.cons (datIn_str e1) (.cons (datIn_str e2) (.cons (datIn_str e3) (.cons (datIn_str e4) .nil)))))
end Mine
end
section -- MEnum
open PySem PySem.W PySem.Calls PySem.Spec PyProof.Rows
namespace Mine
section
variable {prog : Program} {w : World} {A : Around} {E : Value → Shared → Prop} {s : Shared} {env : Env} {h₀ : Heap} {target : Expr} {body : List Stmt} {Q : Flow → Shared → Prop} {G : Shared → Prop}
noncomputable def TEndW (h₀ : Heap) (L : Addr) (G : Shared → Prop) (its : List (Addr × Obj)) (J : (Str → Option Value) → List (Addr × Obj) → Prop) (Q : Flow → Shared → Prop) (f : Flow) (s₂ : Shared) : Prop :=
  match f with
  | .ret v => Q (.ret v) s₂
  | .brk => Q .next s₂
  | _ => ∃ m' news', Fr h₀ L s₂.heap m' ∧ News h₀ L s₂.heap (its ++ news') ∧ (∀ p ∈ news', ∀ q ∈ its, p.1 ≠ q.1) ∧ J m' news' ∧ Oth G s₂
theorem TEndW.next {h₀ : Heap} {L : Addr} {its : List (Addr × Obj)} {J : (Str → Option Value) → List (Addr × Obj) → Prop} {s₂ : Shared} {m' : Str → Option Value} {news' : List (Addr × Obj)}
    (F : Fr h₀ L s₂.heap m') (N : News h₀ L s₂.heap (its ++ news')) (off : ∀ p ∈ news', ∀ q ∈ its, p.1 ≠ q.1) (hj : J m' news') (hg : G s₂) (ht : 0 < s₂.toks) : TEndW h₀ L G its J Q .next s₂ := ⟨m', news', F, N, off, hj, hg, ht⟩

theorem m_core (hG : Shut G) {R : Result → Shared → Prop} {I : Addr} {fp wr : List Addr} {n : Nat} {P Md : Nat → Value → Heap → Prop} {St : Nat → Heap → Prop} {ws : List (Addr × String)} {m : Str → Option Value} {news : List (Addr × Obj)}
    (W : KTurns prog w A target I fp wr n P Md St) (hobj : ∀ i h, St i h → ∃ its, Objs ws its ∧ ∀ p ∈ its, h.get? p.1 = some p.2)
    (hws : ∀ b ∈ ws.map (·.1), h₀.get? b = none ∧ b ≠ env.locals) (hwr : ∀ b ∈ wr, b ∈ ws.map (·.1))
    (J : Nat → (Str → Option Value) → List (Addr × Obj) → Prop) (hfp : ∀ b ∈ fp, b ∈ ws.map (·.1) ∨ ∃ o, ∀ i m n, J i m n → (b, o) ∈ n) (h0 : J 0 m news)
    (hst : St 0 s.heap) (F : Fr h₀ env.locals s.heap m) (N : News h₀ env.locals s.heap news) (off : ∀ p ∈ news, p.1 ∉ ws.map (·.1)) (O : Oth G s)
    (turn : ∀ i v its m₁ news₁ s₁, i < n → P i v s₁.heap → J i m₁ news₁ → Objs ws its → (∀ p ∈ news₁, p.1 ∉ ws.map (·.1)) → Fr h₀ env.locals s₁.heap m₁ → News h₀ env.locals s₁.heap (its ++ news₁) → Oth G s₁ →
      wpAny (model prog w) A (assign target env v) (fun _ s₂ => wpAny (model prog w) A (execs body env)
        (TEndW h₀ env.locals G its (J (i + 1)) fun f s' => R (.ok f) s') (fun _ _ => False) s₂) (fun _ _ => False) s₁)
    (fin : ∀ m' news' s', J n m' news' → Fr h₀ env.locals s'.heap m' → News h₀ env.locals s'.heap news' → Oth G s' → R (.ok .next) s') :
    codeAny (model prog w) A (.forLoop target (.ref I) body [] env) R s := by
  k_with "proof" =>
    have nf : ∀ {P : Value → Shared → Prop} e s', False → P e s' := fun _ _ h => h.elim
    refine codeAny_forLoop_any
      (fun k s' => ∃ i m' news', St i s'.heap ∧ J i m' news' ∧ Fr h₀ env.locals s'.heap m' ∧ News h₀ env.locals s'.heap news' ∧ (∀ p ∈ news', p.1 ∉ ws.map (·.1)) ∧ Oth G s' ∧ i ≤ n ∧ k = n + 1 - i) ?_ (n + 1)
      ⟨0, m, news, hst, h0, F, N, off, O, Nat.zero_le _, rfl⟩
    rintro k s' ⟨i, m', news', hst', hJ', F', N', off', O', hi, rfl⟩
    have next : ∀ h₁ : Heap, (∀ b o, b ∉ wr → s'.heap.get? b = some o → h₁.get? b = some o) → Fr h₀ env.locals h₁ m' ∧ News h₀ env.locals h₁ news' := fun h₁ hk₁ =>
      ⟨⟨F'.ns.at' fun o e => hk₁ _ o (fun hb => (hws _ (hwr _ hb)).2 rfl) e, fun b o e => hk₁ b o (fun hb => by rw [(hws _ (hwr _ hb)).1] at e; cases e) (F'.keep b o e), F'.above⟩,
        fun p hp => ⟨hk₁ _ _ (fun hb => off' p hp (hwr _ hb)) (N' p hp).1, (N' p hp).2⟩⟩
    by_cases hlt : i < n
    · refine pos_toks O'.t (W.item i _ _ _ hlt hst' fun v h₁ tk₁ hMd hk₁ htk => ?_)
      refine W.go i v _ _ _ hMd fun h₂ hP hst₂ hk₂ => ?_
      obtain ⟨F₂, N₂⟩ := next h₂ fun b o hb x => hk₂ b o hb (hk₁ b o hb x)
      obtain ⟨its, hits, hval⟩ := hobj (i + 1) h₂ hst₂
      have hmap := hits.map
      have Nits : News h₀ env.locals h₂ its := fun p hp => by
        have h1 : p.1 ∈ ws.map (·.1) := by rw [← hmap]; exact List.mem_map.mpr ⟨p, hp, rfl⟩
        exact ⟨hval p hp, (hws _ h1).2, (hws _ h1).1⟩
      refine wpAny_mono (turn i v its m' news' { s' with heap := h₂, toks := tk₁ } hlt hP hJ' hits off' F₂ (Nits.append N₂) ⟨hG _ _ _ O'.g, htk⟩) (fun _ s₂ h₂' => wpAny_mono h₂' (fun f s₃ h₃ => ?_) nf) nf
      have again : TEndW h₀ env.locals G its (J (i + 1)) (fun f s' => R (.ok f) s') .next s₃ → ∃ k', k' < n + 1 - i ∧ ∃ i m' news', St i s₃.heap ∧ J i m' news' ∧ Fr h₀ env.locals s₃.heap m' ∧ News h₀ env.locals s₃.heap news' ∧ (∀ p ∈ news', p.1 ∉ ws.map (·.1)) ∧ Oth G s₃ ∧ i ≤ n ∧ k' = n + 1 - i := by
        rintro ⟨m₂, news₂, F₃, N₃, off₃, J₃, O₃⟩
        have N₃r : News h₀ env.locals s₃.heap news₂ := fun p hp => N₃ p (List.mem_append_right _ hp)
        refine ⟨n + 1 - (i + 1), by omega, i + 1, m₂, news₂, W.frame _ _ _ hst₂ fun b hb o e => ?_, J₃, F₃, N₃r, fun p hp hI => ?_, O₃, hlt, rfl⟩
        · rcases hfp b hb with h1 | ⟨o', h1⟩
          · rw [← hmap] at h1
            obtain ⟨q, hq, rfl⟩ := List.mem_map.mp h1
            have : q.2 = o := Option.some.inj ((hval q hq).symm.trans e)
            subst this
            exact (N₃ q (List.mem_append_left _ hq)).1
          · have h2 := (N₂ _ (h1 _ _ _ hJ')).1
            have : o' = o := Option.some.inj (h2.symm.trans e)
            subst this
            exact (N₃r _ (h1 _ _ _ J₃)).1
        · rw [← hmap] at hI
          obtain ⟨q, hq, hqe⟩ := List.mem_map.mp hI
          exact off₃ p hp q hq hqe.symm
      cases f with
      | ret v => exact h₃
      | brk => exact h₃
      | next => exact again h₃
      | cont => exact again h₃
    · have hin : i = n := by omega
      subst hin
      refine pos_toks O'.t (W.done _ _ _ hst' fun h₁ tk₁ hk₁ htk => wpAny_execs_nil ?_)
      obtain ⟨F₁, N₁⟩ := next h₁ hk₁
      exact fin m' news' _ hJ' F₁ N₁ ⟨hG _ _ _ O'.g, htk⟩
  run_tac Mine.sq default

theorem objs2 {a b : Addr} {x y : String} : ∀ {its : List (Addr × Obj)}, Objs [(a, x), (b, y)] its → ∃ oe oi, its = [(a, oe), (b, oi)] ∧ oe.cls = .type x ∧ oi.cls = .type y
  | [], h => h.elim
  | [_], h => h.2.elim
  | _ :: _ :: _ :: _, h => h.2.2.elim
  | [(a', oe), (b', oi)], h => by
    obtain ⟨⟨e1, c1⟩, ⟨e2, c2⟩, _⟩ := h
    have e1' : a' = a := e1
    have e2' : b' = b := e2
    subst e1' e2'
    exact ⟨oe, oi, rfl, c1, c2⟩
theorem m_enum (hG : Shut G) {elts : List Expr} {k : Nat} {pos : Pos} {l : Addr} {vs : List Value} {n : Nat} {m₀ : Str → Option Value} {news : List (Addr × Obj)}
    (hh : A.handled = none) (F : Fr h₀ env.locals s.heap m₀) (N : News h₀ env.locals s.heap news) (hm : (l, listOf vs.toArray n) ∈ news) (hg : G s) (ht : 0 < s.toks)
    (J : Nat → (Str → Option Value) → List (Addr × Obj) → Prop) (hJ : ∀ i m n', J i m n' → (l, listOf vs.toArray n) ∈ n') (h0 : J 0 m₀ news)
    (turn : ∀ I : Addr, (∀ p ∈ news, p.1 < I) → ∀ (i : Nat) x T t m₁ news₁ s₁ oe oi, vs[i]? = some x → IsTup s₁.heap T #[.int (i : Int) t, x] → J i m₁ news₁ → oe.cls = .type "enumerate" → oi.cls = .type "list_iterator" → (∀ p ∈ news₁, p.1 ≠ I + 1 ∧ p.1 ≠ I) → Fr h₀ env.locals s₁.heap m₁ → News h₀ env.locals s₁.heap ((I + 1, oe) :: (I, oi) :: news₁) → Oth G s₁ →
      wpAny (model prog w) A (assign (.Tuple elts k pos) env (.ref T)) (fun _ s₂ => wpAny (model prog w) A (execs body env)
        (TEndW h₀ env.locals G [(I + 1, oe), (I, oi)] (J (i + 1)) Q) (fun _ _ => False) s₂) (fun _ _ => False) s₁)
    (fin : ∀ m' news' s', J vs.length m' news' → Fr h₀ env.locals s'.heap m' → News h₀ env.locals s'.heap news' → Oth G s' → Q .next s') :
    wpAny (model prog w) A (call (.type "enumerate") [.ref l]) (MFor prog w A E env (.Tuple elts k pos) body Q) E s := by
  k_with "proof" =>
    have hax := N _ hm
    have hl : s.heap.IsList l vs.toArray := ⟨_, hax.1, rfl, n, rfl⟩
    have hlt : l < s.heap.objs.size := Heap.lt_size hax.1
    have hLs : env.locals < s.heap.objs.size := F.ns.lt
    have lt : ∀ p ∈ news, p.1 < s.heap.objs.size := fun p hp => Heap.lt_size (N p hp).1
    refine pos_toks ht (call_enumerate_list hl fun h' hE hI hsz hk htk => ?_)
    unfold MFor
    refine wpAny_pyIter_enum hE ?_
    refine m_core (G := G) (ws := [(s.heap.objs.size + 1, "enumerate"), (s.heap.objs.size, "list_iterator")]) (R := fun r s' => match r with | .ok f => Q f s' | .error e => cameBackBy (model prog w) A env E e s') hG
      (KTurns.ofWalksU (WalksT.enumerate hh (s.heap.objs.size + 1) s.heap.objs.size l (Nat.succ_ne_self _) (ktu_ne 1 hlt) (Nat.ne_of_lt hlt) vs.toArray).toU) ?_ ?_ ?_ J ?_ h0 ?_ (F.keeps hk) (N.grown hk) ?_ ⟨hG _ _ _ hg, htk⟩ ?_ ?_
    · rintro i h ⟨⟨old, he⟩, ⟨oi, hoi, hic, _⟩, _⟩
      have he' : ∃ oe : Obj, h.get? (s.heap.objs.size + 1) = some oe ∧ oe.cls = .type "enumerate" := ⟨_, he, rfl⟩
      obtain ⟨oe, h1, h2⟩ := he'
      refine ⟨[(s.heap.objs.size + 1, oe), (s.heap.objs.size, oi)], ⟨⟨rfl, h2⟩, ⟨rfl, hic⟩, trivial⟩, fun p hp => ?_⟩
      rcases List.mem_cons.mp hp with rfl | hp
      · exact h1
      · rw [List.mem_singleton.mp hp]; exact hoi
    · intro b hb
      have hb' : b = s.heap.objs.size + 1 ∨ b = s.heap.objs.size := by simpa using hb
      rcases hb' with rfl | rfl
      · exact ⟨ktu_new F (Nat.le_add_right _ _), Ne.symm (ktu_ne 1 hLs)⟩
      · exact ⟨ktu_new F (Nat.le_refl _), Ne.symm (Nat.ne_of_lt hLs)⟩
    · intro b hb
      simpa using hb
    · intro b hb
      have hb' : b = s.heap.objs.size + 1 ∨ b = s.heap.objs.size ∨ b = l := by simpa using hb
      rcases hb' with rfl | rfl | rfl
      · exact .inl (by simp)
      · exact .inl (by simp)
      · exact .inr ⟨_, hJ⟩
    · exact ⟨⟨.none, hE⟩, hI, hl.at fun o e => hk l o e⟩
    · intro p hp hb
      have hb' : p.1 = s.heap.objs.size + 1 ∨ p.1 = s.heap.objs.size := by simpa using hb
      have := lt p hp
      rcases hb' with e | e
      · exact ktu_ne 1 this e
      · exact Nat.ne_of_lt this e
    · rintro i v its m₁ news₁ s₁ hi ⟨T, vals, rfl, ⟨t, x, hx, rfl⟩, hT⟩ hj hits hoff F₁ N₁ O₁
      obtain ⟨oe, oi, rfl, ce, ci⟩ := objs2 hits
      exact turn _ lt i x T t m₁ news₁ s₁ oe oi (by simpa using hx) hT hj ce ci (fun p hp => by have := hoff p hp; constructor <;> (intro e; exact this (by simp [e]))) F₁ N₁ O₁
    · intro m' news' s' hj F' N' O'
      have e : vs.toArray.size = vs.length := by simp
      rw [e] at hj
      exact fin m' news' s' hj F' N' O'
  run_tac Mine.sq default
end
end Mine
end
section -- WordT
open PySem PySem.W PyProof.Rows
namespace Mine
theorem wl_WordT_0 : True := by
  k_with_none
  trivial
theorem wl_WordT_1 : True := by
  k_with "execs cons" => run_tac Mine.ln "WordT.1"
  k_with "own WordT.1" => (k_here; (with_reducible show wpAny _ _ _ _ _ (Shared.mk _ _ _ (_ + _) _)); refine gen_tok (by omega) ?_; intro _ _)
  trivial
theorem wl_WordT_2 : True := by
  k_with "execs nil" => run_tac Mine.ln "WordT.2"
  k_with "own WordT.2" => (k_here; (with_reducible show wpAny _ _ _ _ _ (Shared.mk _ _ _ (_ + _) _)); refine gen_tok (by omega) ?_; intro _ _)
  trivial
theorem wl_WordT_3 : True := by
  k_with "subscriptTail" => run_tac Mine.ln "WordT.3"
  k_with "own WordT.3" => (k_here; (with_reducible show wpAny _ _ (subscriptTail _ _ (Value.ref _) (Value.int (Int.fmod _ 10) _)) _ _ _); k_dflt (refine' listAt10 ?laN ?lam ?lav ?_; (case laN => k_asm); (case lam => k_mem); (case lav => rfl); intro v9' hv9'))
  trivial
theorem wl_WordT_4 : True := by
  k_with "exec For Name Call cons nil" => run_tac Mine.ln "WordT.4"
  k_with "own WordT.4" => (k_here; k_dflt (refine' m_for' ?mft ?_; (case mft => first | assumption | (dsimp only; omega))))
  trivial
theorem wl_WordT_5 : True := by
  k_with "call builtin:list.append" => run_tac Mine.ln "WordT.5"
  k_with "own WordT.5" => (k_here; (with_reducible show wpAny _ _ (call (Value.builtin _) [Value.ref _, _]) _ _ _); k_dflt (refine' append_K ?apF ?apN ?apU ?_ ?apz; (case apF => k_asm); (case apN => k_asm); (case apU => k_upd); (case apz => (rw [sizeLine_eq]; omega)); k_whole); intro h' F' N'; (try k_sweep))
  trivial
theorem word_c (w : World) (mean : ExcName → Option Value) (mg mb : Str → Option Value) (news : List (Addr × Obj)) (n : Int) (t : Tok) (hn : 0 ≤ n) (hn' : n < 1000000000) :
    Ct w mean mg mb 271 1 20 news [.int n t] (fun v news' => Grow news' news fun add => ∃ l, okW l ∧ DatIn add v (wordDat l)) := by
  k_with "proof" =>
    dsimp only [Ct, CtR, CtRet, PG, VW, LO]
    k_fill
    intros; rename_i hret
    refine wpAny_call ?_
    (k_dflt cell_enter)
    k_steps
    rename_i tpos
    with_reducible rename IsRange _ _ _ _ _ _ _ _ => hR
    with_reducible rename News _ _ _ _ => N
    with_reducible rename Fr _ _ _ _ => F
    have f4 : 0 ≤ n.fmod 4 ∧ n.fmod 4 < 4 := by
      rw [Int.fmod_eq_emod_of_nonneg _ (by decide)]; omega
    obtain ⟨nn, hnn⟩ : ∃ nn : Nat, n.fmod 4 = (nn : Int) := ⟨(n.fmod 4).toNat, by omega⟩
    rw [hnn] at hR f4
    refine MFor.range1 (G := Same _) (n := nn) shut_same rfl F N (⟨rfl, rfl, rfl⟩ : Same _ _) tpos hR (by k_mem) (range_small (by omega)) (range_size (by omega)) [Str.ofString "rest", Str.ofString "turn"] (fun sv i vs m' => vs.size = i ∧ (∃ r t, m' (Str.ofString "rest") = some (.int r t)) ∧ ∀ v ∈ vs.toList, v ∈ sv.toList) ?_ ?_ ?_ ?_
    · exact ⟨rfl, ⟨_, _, rfl⟩, fun _ h => (nomatch h)⟩
    · intro _ _; rfl
    · rintro I hI i t' oI m₁ vs k s₁ hi ⟨hsz, ⟨r, rt, hr⟩, hv⟩ hm₁ F₁ N₁ hg₁ ht₁
      have F₂ := Fr.ovr F₁ [(Str.ofString "rest", some (.int r rt)), (Str.ofString "turn", m₁ (Str.ofString "turn"))] (List.forall_mem_cons.mpr ⟨hr, List.forall_mem_cons.mpr ⟨rfl, List.forall_mem_nil _⟩⟩) hm₁
      dsimp only [ovr] at F₂
      clear F₁
      have hI0 := hI
      dsimp only [AllLt] at hI
      k_steps
      refine TEnd.next (by assumption) (by assumption) (off_of hI0) ⟨_, _, rfl, ?_, ?_, ⟨_, _, rfl⟩, ?_⟩ ?_ ?_
      · intro y hy
        simp only [List.mem_cons, not_or, List.not_mem_nil, not_false_eq_true, and_true] at hy
        simp only [if_neg hy.1, if_neg hy.2]
      · rw [Array.size_push, hsz]
      · exact push_mem (by assumption) hv
      · exact ⟨hg₁.o, hg₁.d, hg₁.g⟩
      · first | assumption | (dsimp only; omega)
    · rintro m' vs k s' ⟨hsz, ⟨r, rt, hr⟩, hv⟩ hm₁ F₁ N₁ hg₁ ht₁
      have F₂ := Fr.ovr F₁ [(Str.ofString "rest", some (.int r rt)), (Str.ofString "turn", m' (Str.ofString "turn"))] (List.forall_mem_cons.mpr ⟨hr, List.forall_mem_cons.mpr ⟨rfl, List.forall_mem_nil _⟩⟩) hm₁
      dsimp only [ovr] at F₂
      clear F₁
      k_steps
      refine hret _ _ _ (by assumption) (by assumption) ?_ ?_ ?_
      · exact ⟨hg₁.o, hg₁.d, hg₁.g⟩
      · first | assumption | (dsimp only; omega)
      · iterate 11 refine Grow.succ (by first | run_tac mHyp | exact allLt_of (by assumption)) ?_
        refine Grow.zero (word_is ?hws (by omega) hv (List.mem_cons_self ..))
        show DatAll _ [_, _, _, _, _, _, _, _, _, _] [signDat 0, signDat 1, signDat 2, signDat 3, signDat 4, signDat 5, signDat 6, signDat 7, signDat 8, signDat 9]
        iterate 10
          refine DatAll.cons ?_ ?_
          · refine' sig_in ?_ ?_ ?_ ?_ ?_ ?_
            all_goals try ((with_reducible show _ ∈ _); k_mem)
            all_goals rfl
        exact .nil
  run_tac Mine.sq default
end Mine
end
theorem Mine.wl_WordT_end : True := by
  k_with_none
  trivial
section -- CallsT
open PySem PySem.W PySem.Calls PyProof.Rows
namespace Mine
theorem wl_CallsT_0 : True := by
  k_with_none
  trivial
theorem wl_CallsT_1 : True := by
  k_with "execs cons" => run_tac Mine.ln "CallsT.1"
  k_with "own CallsT.1" => (k_here; (with_reducible show wpAny _ _ _ _ _ (Shared.mk _ _ _ (_ + _) _)); refine gen_tok (by omega) ?_; intro _ _)
  trivial
theorem wl_CallsT_2 : True := by
  k_with "execs nil" => run_tac Mine.ln "CallsT.2"
  k_with "own CallsT.2" => (k_here; (with_reducible show wpAny _ _ _ _ _ (Shared.mk _ _ _ (_ + _) _)); refine gen_tok (by omega) ?_; intro _ _)
  trivial
theorem wl_CallsT_3 : True := by
  k_with "execs cons" => run_tac Mine.ln "CallsT.3"
  k_with "own CallsT.3" => (k_here; (with_reducible show wpAny _ _ _ _ _ (Shared.mk _ _ _ (Shared.toks _) _)); refine gen_tok (by first | assumption | (dsimp only; omega)) ?_; intro _ _)
  trivial
theorem wl_CallsT_4 : True := by
  k_with "execs nil" => run_tac Mine.ln "CallsT.4"
  k_with "own CallsT.4" => (k_here; (with_reducible show wpAny _ _ _ _ _ (Shared.mk _ _ _ (Shared.toks _) _)); refine gen_tok (by first | assumption | (dsimp only; omega)) ?_; intro _ _)
  trivial
theorem wl_CallsT_5 : True := by
  k_with "exec For Tuple Call cons nil" => run_tac Mine.ln "CallsT.5"
  k_with "own CallsT.5" => (k_here; k_dflt (refine' m_for ?_))
  trivial
section
variable {prog : Program} {w : World} {A : Around} {E : Value → Shared → Prop} {s : Shared} {h₀ : Heap} {L : Addr} {m : Str → Option Value} {news : List (Addr × Obj)}
theorem sumP {D : Addr} {vs : List Value} {ns : List Int} {lo hi st : Option Int} {n : Nat} {Q : Value → Shared → Prop} (hh : A.handled = none) (F : Fr h₀ L s.heap m) (N : News h₀ L s.heap ((D, ({ cls := .type "list", data := .seq (slicePick vs.toArray lo hi st) n } : Obj)) :: news)) (hi' : IntsAre vs ns)
    (h : ∀ z h' tk t', Fr h₀ L h' m → News h₀ L h' news → Q (.int z t') { s with heap := h', toks := tk }) : wpAny (model prog w) A (call (.builtin "sum") [.ref D]) Q E s :=
  sumK (vs := (slicePick vs.toArray lo hi st).toList) hh F N ⟨_, (N _ (List.mem_cons_self ..)).1, rfl, n, rfl⟩ (hi'.pick lo hi st) fun h' tk t' F' N' => h _ h' tk t' F' fun p hp => N' p (List.mem_cons_of_mem _ hp)
end
theorem pull4 {h₀ h : Heap} {L : Addr} {a t : List (Addr × Obj)} {p q r u : Addr × Obj} (N : News h₀ L h (a ++ p :: q :: r :: u :: t)) : News h₀ L h (p :: q :: r :: u :: (a ++ t)) := fun x hx => N x (by
  simp only [List.mem_cons, List.mem_append] at hx ⊢
  rcases hx with e | e | e | e | e | e <;> simp [e])
theorem lt4 {a b : Nat} (h : a + 4 < b) : a + 1 + 1 < b := by omega
theorem units2 {dp un : Nat} {gd : Option (List Code)} {cn : Str} {cs : Scope} {L a : Addr} {ccd : Value} {cl : List (Str × Addr)} {outer : List Env} {x y : Nat} (hu : un + 40 < cLine) (h : x + y ≤ 40) : (ktrTop dp un gd cn cs L a ccd cl outer).units + x + y < cLine := by
  k_with "proof" =>
    show un + x + y < cLine
    omega
  run_tac Mine.sq default
theorem nine (x : Int) : 0 ≤ x.fmod (10 ^ Int.toNat 9) ∧ x.fmod (10 ^ Int.toNat 9) < 1000000000 := by
  k_with "proof" =>
    have e : (10 : Int) ^ Int.toNat 9 = 1000000000 := by decide
    rw [e, Int.fmod_eq_emod_of_nonneg _ (by decide)]
    omega
  run_tac Mine.sq default
theorem nine4 (x : Int) : 0 ≤ (x.fmod (10 ^ Int.toNat 9)).fdiv 4 ∧ (x.fmod (10 ^ Int.toNat 9)).fdiv 4 < 1000000000 := by
  k_with "proof" =>
    have := nine x
    rw [Int.fdiv_eq_ediv_of_nonneg _ (by decide)]
    omega
  run_tac Mine.sq default
theorem nine16 (x : Int) : 0 ≤ (x.fmod (10 ^ Int.toNat 9)).fdiv 16000 ∧ (x.fmod (10 ^ Int.toNat 9)).fdiv 16000 < 1000000000 := by
  k_with "proof" =>
    have := nine x
    rw [Int.fdiv_eq_ediv_of_nonneg _ (by decide)]
    omega
  run_tac Mine.sq default
/-- the tail of the ledger lies above the two lists and off the walker's own -/
noncomputable def TlOk (lc l' I : Addr) (tl : List (Addr × Obj)) : Prop := ∀ p ∈ tl, lc < p.1 ∧ l' < p.1 ∧ p.1 ≠ I ∧ p.1 ≠ I + 1
theorem TlOk.grow {lc l' I : Addr} {add tl : List (Addr × Obj)} {o1 o2 o3 o4 : Obj} (ha : Abv add ((I + 1, o1) :: (I, o2) :: (l', o3) :: (lc, o4) :: tl)) (h : TlOk lc l' I tl) : TlOk lc l' I (add ++ tl) := by
  k_with "proof" =>
    intro p hp
    rcases List.mem_append.mp hp with hp | hp
    · have := ha p hp
      obtain ⟨a, b, c, d, _⟩ := this
      exact ⟨d, c, Nat.ne_of_gt b, Nat.ne_of_gt a⟩
    · exact h p hp
  run_tac Mine.sq default
/-- a well-formed row so far, with d open -/
noncomputable def Pre (d : Nat) (cs : List Cl) : Prop := (∀ r, WF d r → WF 0 (cs ++ r)) ∧ (∀ c ∈ cs, c.ok)
theorem Pre.nil : Pre 0 [] := ⟨fun _ h => h, fun _ h => (nomatch h)⟩
theorem Pre.snoc {d d' : Nat} {cs : List Cl} {c : Cl} (h : Pre d cs) (hc : c.ok) (hd : ∀ r, WF d' r → WF d (c :: r)) : Pre d' (cs ++ [c]) := by
  refine ⟨fun r hr => ?_, fun x hx => ?_⟩
  · rw [List.append_assoc]; exact h.1 _ (hd r hr)
  · rcases List.mem_append.mp hx with hx | hx
    · exact h.2 x hx
    · rw [List.mem_singleton.mp hx]; exact hc
noncomputable def ysC : List Str := [Str.ofString "depth", Str.ofString "k", Str.ofString "first", Str.ofString "n"]
/-- _law_calls' loop -/
noncomputable def JC (lc l' : Addr) (lit : Obj) (m₀ : Str → Option Value) (i : Nat) (m' : Str → Option Value) (n' : List (Addr × Obj)) : Prop :=
  ∃ vs k tl cs d t, n' = (l', lit) :: (lc, listOf vs k) :: tl ∧ (∀ p ∈ tl, lc < p.1 ∧ l' < p.1) ∧ DatAll tl vs.toList (cs.map callDat) ∧ Pre d cs ∧ d ≤ i ∧ cs.length = i ∧ m' (Str.ofString "depth") = some (.int (d : Nat) t) ∧
    ∀ y, y ∉ ysC → m' y = m₀ y
section
variable {prog : Program} {w : World} {A : Around} {E : Value → Shared → Prop} {s : Shared} {env : Env} {h₀ : Heap} {target : Expr} {body : List Stmt} {Q : Flow → Shared → Prop} {G : Shared → Prop}
theorem enum_calls (hG : Shut G) {elts : List Expr} {kk : Nat} {pos : Pos} {l' lc : Addr} {vs : List Value} {n : Nat} {m₀ : Str → Option Value} {t0 : Tok}
    (hh : A.handled = none) (F : Fr h₀ env.locals s.heap m₀) (N : News h₀ env.locals s.heap [(l', listOf vs.toArray n), (lc, listOf #[] 0)]) (hg : G s) (ht : 0 < s.toks) (hlt : lc < l') (hd0 : m₀ (Str.ofString "depth") = some (.int 0 t0)) (hv : ∀ (i : Nat) (x : Value), vs[i]? = some x → ∃ z t, x = Value.int z t)
    (turn : ∀ (I : Addr), AllLt I [(l', listOf vs.toArray n), (lc, listOf #[] 0)] → ∀ (i : Nat) (z : Int) tz Tp t m₁ s₁ oe oi vs' k tl cs d td, IsTup s₁.heap Tp #[.int (i : Int) t, .int z tz] → i < vs.length → TlOk lc l' I tl → DatAll tl vs'.toList (cs.map callDat) → Pre d cs → d ≤ i → cs.length = i → (∀ y, y ∉ ysC → m₁ y = m₀ y) → m₁ (Str.ofString "depth") = some (.int (d : Nat) td) →
      Fr h₀ env.locals s₁.heap m₁ → News h₀ env.locals s₁.heap ((I + 1, oe) :: (I, oi) :: (l', listOf vs.toArray n) :: (lc, listOf vs' k) :: tl) → Oth G s₁ →
      wpAny (model prog w) A (assign (.Tuple elts kk pos) env (.ref Tp)) (fun _ s₂ => wpAny (model prog w) A (execs body env)
        (TEndW h₀ env.locals G [(I + 1, oe), (I, oi)] (JC lc l' (listOf vs.toArray n) m₀ (i + 1)) Q) (fun _ _ => False) s₂) (fun _ _ => False) s₁)
    (fin : ∀ m' s' vs' k tl cs d t, DatAll tl vs'.toList (cs.map callDat) → (∀ p ∈ tl, lc < p.1 ∧ l' < p.1) → Pre d cs → d ≤ vs.length → cs.length = vs.length → m' (Str.ofString "depth") = some (.int (d : Nat) t) → (∀ y, y ∉ ysC → m' y = m₀ y) → Fr h₀ env.locals s'.heap m' → News h₀ env.locals s'.heap ((l', listOf vs.toArray n) :: (lc, listOf vs' k) :: tl) → Oth G s' → Q .next s') :
    wpAny (model prog w) A (call (.type "enumerate") [.ref l']) (MFor prog w A E env (.Tuple elts kk pos) body Q) E s := by
  k_with "proof" =>
    refine m_enum (G := G) hG hh F N (List.mem_cons_self ..) hg ht (JC lc l' (listOf vs.toArray n) m₀) ?_ ?_ ?_ ?_
    · rintro i m' n' ⟨vs, k, tl, cs, d, t, rfl, _⟩
      exact List.mem_cons_self ..
    · exact ⟨#[], 0, [], [], 0, t0, rfl, fun _ h => (nomatch h), .nil, Pre.nil, Nat.le_refl _, rfl, hd0, fun _ _ => rfl⟩
    · rintro I hI i x Tp t m₁ news₁ s₁ oe oi hx hTp ⟨vs', k', tl, cs, d, td, rfl, htl, hdat, hpre, hdi, hcl, hmd, hm⟩ ce ci hoff F₁ N₁ O₁
      obtain ⟨z, tz, rfl⟩ := hv _ _ hx
      exact turn I (allLt_of hI) i z tz Tp t m₁ s₁ oe oi vs' k' tl cs d td hTp (by have := List.getElem?_eq_some_iff.mp hx; exact this.1) (fun p hp => ⟨(htl p hp).1, (htl p hp).2, (hoff p (List.mem_cons_of_mem _ (List.mem_cons_of_mem _ hp))).2, (hoff p (List.mem_cons_of_mem _ (List.mem_cons_of_mem _ hp))).1⟩) hdat hpre hdi hcl hm hmd F₁ N₁ O₁
    · rintro m' news' s' ⟨vs', k', tl, cs, d, td, rfl, htl, hdat, hpre, hdi, hcl, hmd, hm⟩ F' N' O'
      exact fin m' s' vs' k' tl cs d td hdat htl hpre hdi hcl hmd hm F' N' O'
  run_tac Mine.sq default
end
theorem endC {g : Heap} {L I l' lc : Addr} {G : Shared → Prop} {ex tl tl2 : List (Addr × Obj)} {oe oi lit : Obj} {vs' : Array Value} {v : Value} {k' i d' : Nat} {m' m₀ : Str → Option Value} {s₂ : Shared} {cs : List Cl} {c : Cl} {z : Int} {t : Tok} {Q : Flow → Shared → Prop} (F : Fr g L s₂.heap m')
    (N : News g L s₂.heap (ex ++ (I + 1, oe) :: (I, oi) :: (l', lit) :: (lc, listOf (vs'.push v) k') :: tl2)) (hex : ∀ p ∈ ex, I + 1 < p.1 ∧ I < p.1 ∧ l' < p.1 ∧ lc < p.1) (h1 : l' < I ∧ lc < I) (h2 : TlOk lc l' I tl2) (hsub : ∀ p ∈ tl, p ∈ tl2) (hdat : DatAll tl vs'.toList (cs.map callDat)) (hv : DatIn (ex ++ tl2) v (callDat c))
    (hp : Pre d' (cs ++ [c])) (hd : d' ≤ i + 1) (hcl : cs.length = i) (hz : z = (d' : Int)) (hmd : m' (Str.ofString "depth") = some (.int z t)) (hm : ∀ y, y ∉ ysC → m' y = m₀ y) (hg : G s₂) (ht : 0 < s₂.toks) : TEndW g L G [(I + 1, oe), (I, oi)] (JC lc l' lit m₀ (i + 1)) Q .next s₂ := by
  k_with "proof" =>
    subst hz
    refine TEndW.next (news' := (l', lit) :: (lc, listOf (vs'.push v) k') :: (ex ++ tl2)) F (fun p hp => N p ?_) ?_ ⟨_, _, _, cs ++ [c], d', t, rfl, ?_, ?_, hp, hd, by simp [hcl], hmd, hm⟩ hg ht
    · simp only [List.mem_cons, List.mem_append, List.cons_append, List.nil_append] at hp ⊢
      rcases hp with e | e | e | e | e | e <;> simp [e]
    · intro p hp q hq
      have hq' : q.1 = I + 1 ∨ q.1 = I := by
        rcases List.mem_cons.mp hq with e | hq
        · exact .inl (by rw [e])
        · exact .inr (by rw [List.mem_singleton.mp hq])
      have hne : p.1 ≠ I + 1 ∧ p.1 ≠ I := by
        rcases List.mem_cons.mp hp with e | hp
        · rw [e]; exact ⟨Nat.ne_of_lt (Nat.lt_succ_of_lt h1.1), Nat.ne_of_lt h1.1⟩
        · rcases List.mem_cons.mp hp with e | hp
          · rw [e]; exact ⟨Nat.ne_of_lt (Nat.lt_succ_of_lt h1.2), Nat.ne_of_lt h1.2⟩
          · rcases List.mem_append.mp hp with hp | hp
            · exact ⟨Nat.ne_of_gt (hex p hp).1, Nat.ne_of_gt (hex p hp).2.1⟩
            · exact ⟨(h2 p hp).2.2.2, (h2 p hp).2.2.1⟩
      rcases hq' with e | e
      · rw [e]; exact hne.1
      · rw [e]; exact hne.2
    · intro p hp
      rcases List.mem_append.mp hp with hp | hp
      · exact ⟨(hex p hp).2.2.2, (hex p hp).2.2.1⟩
      · exact ⟨(h2 p hp).1, (h2 p hp).2.1⟩
    · rw [Array.toList_push, List.map_append]
      exact DatAll.append (DatAll.mono (fun p hp => List.mem_append_right _ (hsub p hp)) hdat) (DatAll.one hv)
  run_tac Mine.sq default
theorem call_in {news : List (Addr × Obj)} {T : Addr} {n : Nat} {x y : Str} {t : Tok} {v1 v2 : Value} {d1 d2 : Dat} (hm : (T, ({ cls := .type "tuple", data := .seq #[.str x t, v1, v2] n } : Obj)) ∈ news) (e : x = y) (h1 : DatIn news v1 d1) (h2 : DatIn news v2 d2) : DatIn news (.ref T) (.tuple [.str y, d1, d2]) :=
  .tuple (vs := [_, _, _]) hm (.cons (datIn_str e) (.cons h1 (.cons h2 .nil)))
theorem nil_in {news : List (Addr × Obj)} {a : Addr} {n : Nat} (hm : (a, listOf #[] n) ∈ news) : DatIn news (.ref a) (wordDat []) := .list (vs := []) hm .nil
theorem fold_rep {x : Value} : ∀ (n : Nat) (acc : Array Value), (List.foldl (fun x1 x2 => x1 ++ x2) acc (List.replicate n #[x])).toList = acc.toList ++ List.replicate n x
  | 0, acc => by simp
  | n + 1, acc => by
    rw [List.replicate_succ, List.foldl_cons, fold_rep n]
    simp [List.replicate_succ]
theorem rep_arr {x : Value} {d : Nat} : (List.foldl (fun x1 x2 => x1 ++ x2) #[] (List.replicate (if #[x].isEmpty = true then 0 else ((d : Nat) : Int).toNat) #[x])).toList = List.replicate d x := by
  have e : (if #[x].isEmpty = true then 0 else ((d : Nat) : Int).toNat) = d := rfl
  rw [e, fold_rep]
  simp
theorem rep_size {x : Value} {d : Nat} : (List.foldl (fun x1 x2 => x1 ++ x2) #[] (List.replicate (if #[x].isEmpty = true then 0 else ((d : Nat) : Int).toNat) #[x])).size = d := by
  rw [← Array.length_toList, rep_arr, List.length_replicate]
theorem wf_rep : ∀ d : Nat, WF d (List.replicate d Cl.close)
  | 0 => rfl
  | d + 1 => by rw [List.replicate_succ]; exact wf_rep d
theorem dat_rep {news : List (Addr × Obj)} {v : Value} {d : Dat} (h : DatIn news v d) : ∀ n, DatAll news (List.replicate n v) (List.replicate n d)
  | 0 => .nil
  | n + 1 => by rw [List.replicate_succ, List.replicate_succ]; exact .cons h (dat_rep h n)
section
variable {prog : Program} {w : World} {A : Around} {E : Value → Shared → Prop} {s : Shared} {h₀ : Heap} {L : Addr} {m : Str → Option Value} {news : List (Addr × Obj)}
theorem addMem {l b : Addr} {xs ys : Array Value} {n n2 : Nat} {Q : Value → Shared → Prop} (F : Fr h₀ L s.heap m) (N : News h₀ L s.heap news) (h1 : (l, ({ cls := .type "list", data := .seq xs n } : Obj)) ∈ news) (h2 : (b, ({ cls := .type "list", data := .seq ys n2 } : Obj)) ∈ news) (hsz : xs.size + ys.size ≤ sizeLine)
    (h : ∀ D h', Fr h₀ L h' m → News h₀ L h' ((D, listOf (xs.toList ++ ys.toList).toArray 0) :: news) → AllLt D news → Q (.ref D) { s with heap := h' }) : wpAny (model prog w) A (binaryOp .Add (.ref l) (.ref b)) Q E s :=
  add_lists (vs := xs.toList) (ws := ys.toList) F N ⟨_, (N _ h1).1, rfl, n, rfl⟩ ⟨_, (N _ h2).1, rfl, n2, rfl⟩ (fun h' F' N' => h _ h' F' N' (allLt_of fun p hp => Heap.lt_size (N p hp).1)) (by simpa using hsz)
end
theorem callsEnd {news : List (Addr × Obj)} {D T : Addr} {n d : Nat} {vs' : Array Value} {ys : Array Value} {cs : List Cl} (hm : (D, listOf (vs'.toList ++ ys.toList).toArray n) ∈ news) (hy : ys.toList = List.replicate d (.ref T)) (hT : DatIn news (.ref T) (callDat .close)) (hdat : DatAll news vs'.toList (cs.map callDat)) (hpre : Pre d cs) (hcl : cs.length = 6) (hd : d ≤ 6) :
    ∃ cs, Good cs ∧ DatIn news (.ref D) (.list (cs.map callDat)) := by
  k_with "proof" =>
    refine ⟨cs ++ List.replicate d .close, ⟨hpre.1 _ (wf_rep d), fun c hc => ?_, by simp [hcl]; omega⟩, .list hm ?_⟩
    · rcases List.mem_append.mp hc with hc | hc
      · exact hpre.2 c hc
      · rw [(List.mem_replicate.mp hc).2]; exact trivial
    · rw [List.map_append, List.map_replicate, hy]
      exact DatAll.append hdat (dat_rep hT d)
  run_tac Mine.sq default
theorem end_in {news : List (Addr × Obj)} {T a b : Addr} {n na nb : Nat} {x : Str} {t : Tok} (hm : (T, ({ cls := .type "tuple", data := .seq #[.str x t, .ref a, .ref b] n } : Obj)) ∈ news) (e : x = sE) (ha : (a, listOf #[] na) ∈ news) (hb : (b, listOf #[] nb) ∈ news) : DatIn news (.ref T) (callDat .close) :=
  call_in hm e (nil_in ha) (nil_in hb)
/-- _law_calls -/
noncomputable abbrev CallsOk (w : World) (mean : ExcName → Option Value) (mg mb : Str → Option Value) : Prop :=
  ∀ (dp un : Nat) (gd : Option (List Code)) (cn : Str) (cs : Scope) (a : Addr) (ccd : Value) (cl : List (Str × Addr)) (outer : List Env) (A₀ : Around) (base h₀ : Heap) (L : Addr) (m : Str → Option Value) (s : Shared) (Q E : Value → Shared → Prop)
    (l : Addr) (vs : List Value) (ns : List Int), Below A₀ base outer h₀ → Fr h₀ L s.heap m → (K w.params).In h₀ → News h₀ L s.heap [] → Top VW LO mean mg mb h₀ → cs.kind = .function → base.IsList l vs.toArray → IntsAre vs ns → ns.length ≤ 63 → dp + 4 < recursionLimit → un + 40 < cLine → 0 < s.toks → AllBare s.gens →
    CtRet Same h₀ L m s (fun v news' => ∃ cs, Good cs ∧ DatIn news' v (.list (cs.map callDat))) Q →
    wpAny (model PG w) (ktrTop dp un gd cn cs L a ccd cl outer) (call (.ref 278) [.ref l]) Q E s
theorem wl_CallsT_6 : True := by
  k_with "call builtin:sum" => run_tac Mine.ln "CallsT.6"
  k_with "own CallsT.6" => (k_here; (with_reducible show wpAny _ _ (call (Value.builtin "sum") [Value.ref _]) _ _ _); k_dflt (refine' sumP ?spH ?spF ?spN ?spi ?_; (case spH => rfl); (case spF => k_asm); (case spN => k_asm); (case spi => assumption)); intro _ _ _ _ _ _)
  trivial
theorem wl_CallsT_7 : True := by
  k_with "call ref" => run_tac Mine.ln "CallsT.7"
  k_with "own CallsT.7" => (k_here; (with_reducible show wpAny _ _ (call (Value.ref 271) _) _ _ _); k_dflt (refine' word_c _ _ _ _ _ _ _ ?cwn ?cwm _ _ _ _ _ _ _ _ _ _ _ _ _ _ _ _ _ ?cwB ?cwF ?cwX ?cwN ?cwT ?cwk ?cwr ?cwu ?cwp ?cwg ?_; (case cwn => first | exact (nine4 _).1 | exact (nine16 _).1); (case cwm => first | exact (nine4 _).2 | exact (nine16 _).2); (case cwB => k_asm); (case cwF => k_asm); (case cwX => k_asm); (case cwN => k_asm); (case cwT => k_asm); (case cwk => rfl); (case cwr => exact lt4 (by assumption)); (case cwu => exact units2 (by assumption) (by decide)); (case cwp => first | assumption | (dsimp only; omega)); (case cwg => assumption)); intro v' n' s' F' N' S' t' P'; k_dflt (obtain ⟨add', e', ha', hW'⟩ := P'; subst e'; have g2' : AllBare (Shared.gens s') := (by rw [S'.g]; assumption)); (with_reducible rename TlOk _ _ _ _ => hT'); have hT2 := TlOk.grow ha' hT'; clear hT'; have N2 := pull4 N'; clear N')
  trivial
theorem wl_CallsT_8 : True := by
  k_with "call builtin:list.append" => run_tac Mine.ln "CallsT.8"
  k_with "own CallsT.8" => (k_here; (with_reducible show wpAny _ _ (call (Value.builtin _) [Value.ref _, _]) _ _ _); k_dflt (refine' append_K ?apF ?apN ?apU ?_ ?apz; (case apF => k_asm); (case apN => k_asm); (case apU => (iterate 8 (first | done | (apply Upd.head; exact fun p hp => Nat.ne_of_gt (‹TlOk _ _ _ _› p hp).1) | (apply Upd.tail; · k_ne)))); (case apz => assumption); k_whole); intro h' F' N'; (try k_sweep))
  trivial
theorem wl_CallsT_9 : True := by
  k_with "exec Expr" => run_tac Mine.ln "CallsT.9"
  k_with "own CallsT.9" => (k_here; (fail_if_success (with_reducible show wpAny _ _ _ (fun _ s' => 0 < Shared.toks s' → _) _ _)); refine' pos_toks ?pxh ?_; (case pxh => first | assumption | (dsimp only; omega)))
  trivial
theorem calls_c (w : World) (mean : ExcName → Option Value) (mg mb : Str → Option Value) : CallsOk w mean mg mb := by
  k_with "proof" =>
    dsimp only [CallsOk, CtRet, PG, VW, LO]
    k_fill
    intro dp un gd cn cs a ccd cl outer A₀ base h₀ L m s Q E l vs ns B F X N T hk hl hi hn hd hu ht hg hret
    refine wpAny_call ?_
    (k_dflt cell_enter)
    k_steps
    with_reducible rename News _ _ _ _ => N
    with_reducible rename Fr _ _ _ _ => F
    refine enum_calls (G := Same _) shut_same rfl F N (⟨rfl, rfl, rfl⟩ : Same _ _) (by first | assumption | (dsimp only; omega)) (by first | assumption | omega) rfl ?_ ?_ ?_
    · intro i x hx
      have hx' := List.mem_of_getElem? hx
      simp only [List.mem_cons, List.not_mem_nil, or_false] at hx'
      rcases hx' with e | e | e | e | e | e <;> exact ⟨_, _, e⟩
    · intro I hI i z tz Tp t m₁ s₁ oe oi vs' k tl cs d td hTp hil htl hdat hpre hdi hcl hm hmd F₁ N₁ O₁
      have F₂ := Fr.ovr F₁ [(Str.ofString "depth", some (.int (d : Nat) td)), (Str.ofString "k", m₁ (Str.ofString "k")), (Str.ofString "first", m₁ (Str.ofString "first")), (Str.ofString "n", m₁ (Str.ofString "n"))] (List.forall_mem_cons.mpr ⟨hmd, List.forall_mem_cons.mpr ⟨rfl, List.forall_mem_cons.mpr ⟨rfl, List.forall_mem_cons.mpr ⟨rfl, List.forall_mem_nil _⟩⟩⟩⟩) hm
      dsimp only [ovr] at F₂
      clear F₁
      dsimp only [AllLt] at hI
      have hil' : i < 6 := hil
      have hvs : vs'.size = i := by
        have := DatAll.length hdat
        rw [List.length_map] at this
        simpa [hcl] using this
      have hvs2 : vs'.size ≤ sizeLine := by rw [sizeLine_eq]; omega
      have hgx : AllBare s₁.gens := by rw [O₁.g.g]; exact hg
      have htx := O₁.t
      k_steps
      · with_reducible rename ∃ l, okW l ∧ DatIn _ _ (wordDat l) => W2
        obtain ⟨w2, o2, d2⟩ := W2
        with_reducible rename ∃ l, okW l ∧ DatIn _ _ (wordDat l) => W1
        obtain ⟨w1, o1, d1⟩ := W1
        refine' endC (ex := [_]) (c := .start w1 w2) (d' := d + 1) (tl := tl) (vs' := vs') (cs := cs) (i := i) ?sAF ?sAN ?sAh ⟨hI.1, hI.2.1⟩ ?sAt ?sAs hdat ?sAv ?sAp ?sAd hcl ?sAz ?sAy ?sAm ?sAg ?sAk
        case sAF => assumption
        case sAN => assumption
        case sAh =>
          refine List.forall_mem_cons.mpr ⟨?_, List.forall_mem_nil _⟩
          refine ⟨?_, ?_, ?_, ?_⟩ <;> (show @LT.lt Nat _ _ _; dsimp only; omega)
        case sAt => assumption
        case sAs => exact fun p hp => List.mem_append_right _ (List.mem_append_right _ hp)
        case sAv => exact call_in (List.mem_cons_self ..) rfl (d1.mono fun p hp => by simp [hp]) (d2.mono fun p hp => by simp [hp])
        case sAp => exact hpre.snoc ⟨o1, o2⟩ fun r hr => hr
        case sAd => omega
        case sAy => rfl
        case sAz => omega
        case sAm =>
          intro y hy
          simp only [ysC, List.mem_cons, not_or, List.not_mem_nil, not_false_eq_true, and_true] at hy
          simp only [if_neg hy.1, if_neg hy.2.1, if_neg hy.2.2.1, if_neg hy.2.2.2]
        case sAg =>
          with_reducible rename Same _ _ => S2
          obtain ⟨a2, b2, c2⟩ := S2
          with_reducible rename Same _ _ => S1
          exact ⟨a2.trans (S1.o.trans O₁.g.o), b2.trans (S1.d.trans O₁.g.d), c2.trans (S1.g.trans O₁.g.g)⟩
        case sAk => first | assumption | (dsimp only; omega)
      · obtain ⟨e, rfl⟩ : ∃ e, d = e + 1 := ⟨d - 1, by omega⟩
        refine' endC (ex := [_, _, _]) (c := .close) (d' := e) (tl := tl) (vs' := vs') (cs := cs) (i := i) ?sBF ?sBN ?sBh ⟨hI.1, hI.2.1⟩ ?sBt ?sBs hdat ?sBv ?sBp ?sBd hcl ?sBz ?sBy ?sBm ?sBg ?sBk
        case sBF => assumption
        case sBN => assumption
        case sBh =>
          refine List.forall_mem_cons.mpr ⟨?_, List.forall_mem_cons.mpr ⟨?_, List.forall_mem_cons.mpr ⟨?_, List.forall_mem_nil _⟩⟩⟩ <;> (refine ⟨?_, ?_, ?_, ?_⟩ <;> (show @LT.lt Nat _ _ _; dsimp only; omega))
        case sBt => exact htl
        case sBs => exact fun p hp => hp
        case sBv => exact call_in (List.mem_cons_self ..) rfl (nil_in (by k_mem)) (nil_in (by k_mem))
        case sBp => exact hpre.snoc trivial fun r hr => hr
        case sBd => omega
        case sBy => rfl
        case sBz => omega
        case sBm =>
          intro y hy
          simp only [ysC, List.mem_cons, not_or, List.not_mem_nil, not_false_eq_true, and_true] at hy
          simp only [if_neg hy.1, if_neg hy.2.1, if_neg hy.2.2.1, if_neg hy.2.2.2]
        case sBg =>
          exact ⟨O₁.g.o, O₁.g.d, O₁.g.g⟩
        case sBk => first | assumption | (dsimp only; omega)
      · with_reducible rename ∃ l, okW l ∧ DatIn _ _ (wordDat l) => W1
        obtain ⟨w1, o1, d1⟩ := W1
        refine' endC (ex := [_, _]) (c := .data w1) (d' := d) (tl := tl) (vs' := vs') (cs := cs) (i := i) ?sCF ?sCN ?sCh ⟨hI.1, hI.2.1⟩ ?sCt ?sCs hdat ?sCv ?sCp ?sCd hcl ?sCz ?sCy ?sCm ?sCg ?sCk
        case sCF => assumption
        case sCN => assumption
        case sCh =>
          refine List.forall_mem_cons.mpr ⟨?_, List.forall_mem_cons.mpr ⟨?_, List.forall_mem_nil _⟩⟩ <;> (refine ⟨?_, ?_, ?_, ?_⟩ <;> (show @LT.lt Nat _ _ _; dsimp only; omega))
        case sCt => assumption
        case sCs => exact fun p hp => List.mem_append_right _ hp
        case sCv => exact call_in (List.mem_cons_self ..) rfl (d1.mono fun p hp => by simp [hp]) (nil_in (by k_mem))
        case sCp => exact hpre.snoc o1 fun r hr => (by cases d <;> exact hr)
        case sCd => omega
        case sCy => rfl
        case sCz => omega
        case sCm =>
          intro y hy
          simp only [ysC, List.mem_cons, not_or, List.not_mem_nil, not_false_eq_true, and_true] at hy
          simp only [if_neg hy.1, if_neg hy.2.1, if_neg hy.2.2.1, if_neg hy.2.2.2]
        case sCg =>
          with_reducible rename Same _ _ => S1
          exact ⟨S1.o.trans O₁.g.o, S1.d.trans O₁.g.d, S1.g.trans O₁.g.g⟩
        case sCk => first | assumption | (dsimp only; omega)
      · with_reducible rename ∃ l, okW l ∧ DatIn _ _ (wordDat l) => W1
        obtain ⟨w1, o1, d1⟩ := W1
        refine' endC (ex := [_, _]) (c := .data w1) (d' := d) (tl := tl) (vs' := vs') (cs := cs) (i := i) ?sDF ?sDN ?sDh ⟨hI.1, hI.2.1⟩ ?sDt ?sDs hdat ?sDv ?sDp ?sDd hcl ?sDz ?sDy ?sDm ?sDg ?sDk
        case sDF => assumption
        case sDN => assumption
        case sDh =>
          refine List.forall_mem_cons.mpr ⟨?_, List.forall_mem_cons.mpr ⟨?_, List.forall_mem_nil _⟩⟩ <;> (refine ⟨?_, ?_, ?_, ?_⟩ <;> (show @LT.lt Nat _ _ _; dsimp only; omega))
        case sDt => assumption
        case sDs => exact fun p hp => List.mem_append_right _ hp
        case sDv => exact call_in (List.mem_cons_self ..) rfl (d1.mono fun p hp => by simp [hp]) (nil_in (by k_mem))
        case sDp => exact hpre.snoc o1 fun r hr => (by cases d <;> exact hr)
        case sDd => omega
        case sDy => rfl
        case sDz => omega
        case sDm =>
          intro y hy
          simp only [ysC, List.mem_cons, not_or, List.not_mem_nil, not_false_eq_true, and_true] at hy
          simp only [if_neg hy.1, if_neg hy.2.1, if_neg hy.2.2.1, if_neg hy.2.2.2]
        case sDg =>
          with_reducible rename Same _ _ => S1
          exact ⟨S1.o.trans O₁.g.o, S1.d.trans O₁.g.d, S1.g.trans O₁.g.g⟩
        case sDk => first | assumption | (dsimp only; omega)
    · intro m' s' vs' k tl cs d t hdat htl hpre hdi hcl hmd hm F₁ N₁ O₁
      have F₂ := Fr.ovr F₁ [(Str.ofString "depth", some (.int (d : Nat) t)), (Str.ofString "k", m' (Str.ofString "k")), (Str.ofString "first", m' (Str.ofString "first")), (Str.ofString "n", m' (Str.ofString "n"))] (List.forall_mem_cons.mpr ⟨hmd, List.forall_mem_cons.mpr ⟨rfl, List.forall_mem_cons.mpr ⟨rfl, List.forall_mem_cons.mpr ⟨rfl, List.forall_mem_nil _⟩⟩⟩⟩) hm
      dsimp only [ovr] at F₂
      clear F₁
      have hd6 : d ≤ 6 := hdi
      have hcl6 : cs.length = 6 := hcl
      have hvs : vs'.size = 6 := by
        have := DatAll.length hdat
        rw [List.length_map] at this
        simpa [hcl6] using this
      k_steps
      refine' addMem ?qF ?qN ?q1 ?q2 ?qs ?_
      case qF => k_asm
      case qN => k_asm
      case q1 => k_mem
      case q2 => exact List.mem_cons_self ..
      case qs =>
        rw [sizeLine_eq]
        refine Nat.le_trans (Nat.add_le_add_left (Nat.le_of_eq rep_size) _) ?_
        omega
      intro D9 h9 F9 N9 l9
      k_steps
      refine' hret _ _ _ ?rF ?rN ?rS ?rt ?_
      case rF => assumption
      case rN => assumption
      case rS => exact ⟨O₁.g.o, O₁.g.d, O₁.g.g⟩
      case rt => first | assumption | (dsimp only; omega)
      refine callsEnd (List.mem_cons_self ..) rep_arr ?_ (DatAll.mono ?_ hdat) hpre hcl6 hd6
      · refine' end_in ?_ ?_ ?_ ?_
        all_goals try ((with_reducible show _ ∈ _); k_mem)
        all_goals rfl
      · intro p hp
        repeat (first | exact hp | apply List.mem_cons_of_mem)
  run_tac Mine.sq default
end Mine
end
theorem Mine.wl_CallsT_end : True := by
  k_with_none
  trivial
section -- MWhile
open PySem PySem.W PySem.Calls PySem.Spec PyProof.Rows
namespace Mine
section
variable {prog : Program} {w : World} {A : Around} {E : Value → Shared → Prop} {s : Shared} {env : Env} {test : Expr} {body : List Stmt} {Q : Flow → Shared → Prop}
noncomputable def WEnd (J : Nat → Shared → Prop) (k : Nat) (Q : Flow → Shared → Prop) (f : Flow) (s₃ : Shared) : Prop :=
  match f with
  | .brk => Q .next s₃
  | .ret v => Q (.ret v) s₃
  | _ => ∃ k', k' < k ∧ J k' s₃
/-- a while loop, ahead of its first turn -/
noncomputable def MWhl (prog : Program) (w : World) (A : Around) (E : Value → Shared → Prop) (env : Env) (test : Expr) (body : List Stmt) (Q : Flow → Shared → Prop) (s : Shared) : Prop :=
  WhlRest prog w A E env test body [] Q 0 s
theorem m_while {pos : Pos} (h : MWhl prog w A E env test body Q s) : wpAny (model prog w) A (exec (.While test body [] pos) env) Q E s := whl_start 0 h
theorem MWhl.inv (J : Nat → Shared → Prop)
    (turn : ∀ k s, J k s → wpAny (model prog w) A (isTrue test env (eval test env)) (fun b s₂ => (b = true → wpAny (model prog w) A (execs body env) (WEnd J k Q) (fun _ _ => False) s₂) ∧ (b = false → Q .next s₂)) (fun _ _ => False) s)
    (n : Nat) (h0 : J n s) : MWhl prog w A E env test body Q s := by
  k_with "proof" =>
    have key : ∀ n s, J n s → WhlRest prog w A (fun _ _ => False) env test body [] (fun f s => Q f s) 0 s := by
      intro n
      induction n using Nat.strongRecOn with
      | _ n ih =>
        intro s hs
        refine whl_turn (k := 0) PassesOwn.never (wpAny_mono (turn n s hs) (fun b s₂ h₂ => ?_) fun _ _ e => e)
        cases b with
        | false => exact WhlIf.no rfl (wpAny_execs_nil (h₂.2 rfl))
        | true =>
          refine WhlIf.yes rfl (wpAny_mono (h₂.1 rfl) (fun f s₃ h₃ => ?_) fun _ _ e => e)
          cases f with
          | next => obtain ⟨k', hk, hj⟩ := h₃; exact ih k' hk _ hj
          | cont => obtain ⟨k', hk, hj⟩ := h₃; exact ih k' hk _ hj
          | brk => exact h₃
          | ret v => exact h₃
    have := key n s h0
    unfold MWhl WhlRest
    refine codeAny_mono this fun r s' hr => ?_
    cases r with
    | ok f => exact hr
    | error e => exact wpAny_mono hr (fun _ _ f => (show False from f).elim) fun _ _ f => (show False from f).elim
  run_tac Mine.sq default
end
end Mine
end
section -- ParL
open PySem PySem.W PySem.Calls PyProof.Rows
namespace Mine
/-- what a reader of parse257 sees, over codes -/
noncomputable def par : List Nat → List Nat
  | [] => []
  | [c] => if c = 34 then [] else [c]
  | c :: d :: r => if c = 34 then (if d = 34 then 34 :: par r else []) else c :: par (d :: r)
theorem par_other {c : Nat} (h : c ≠ 34) (r : List Nat) : par (c :: r) = c :: par r := by
  cases r with
  | nil => simp [par, h]
  | cons d r => rw [par, if_neg h]
theorem drop_at {x : List Nat} {p c : Nat} (h : x[p]? = some c) : x.drop p = c :: x.drop (p + 1) := by
  obtain ⟨hp, e⟩ := List.getElem?_eq_some_iff.mp h
  rw [List.drop_eq_getElem_cons hp, e]
theorem is34 {c : Nat} (h : ((⟨#[c]⟩ : Str) == Str.ofString "\"") = true) : c = 34 := by
  have e : (⟨#[c]⟩ : Str) = ⟨#[34]⟩ := eq_of_beq h
  injection e with e
  injection e with e
  injection e
theorem not34 {c : Nat} (h : ((⟨#[c]⟩ : Str) == Str.ofString "\"") = false) : c ≠ 34 := by
  rintro rfl
  have : ((⟨#[34]⟩ : Str) == Str.ofString "\"") = true := beq_self_eq_true (⟨#[34]⟩ : Str)
  rw [this] at h; cases h
section
variable {x : List Nat} {d : Str} {p c c2 : Nat}
theorem par_end1 (hr : d.cps.toList ++ par (x.drop p) = par x) (hc : x[p]? = some c) (h : c = 34) (he : x.length ≤ p + 1) : d.cps.toList = par x := by
  rw [drop_at hc, List.drop_eq_nil_of_le he, h] at hr
  simpa [par] using hr
theorem par_end2 (hr : d.cps.toList ++ par (x.drop p) = par x) (hc : x[p]? = some c) (h : c = 34) (hc2 : x[p + 1]? = some c2) (h2 : c2 ≠ 34) : d.cps.toList = par x := by
  rw [drop_at hc, drop_at hc2, h] at hr
  simpa [par, h2] using hr
theorem par_end0 (hr : d.cps.toList ++ par (x.drop p) = par x) (h : x.length ≤ p) : d.cps.toList = par x := by
  rw [List.drop_eq_nil_of_le h] at hr
  simpa [par] using hr
theorem app1 (d : Str) (c : Nat) : (d ++ (⟨#[c]⟩ : Str)).cps.toList = d.cps.toList ++ [c] := by
  rw [Str.cps_append, Array.toList_append]
theorem par_step2 (hr : d.cps.toList ++ par (x.drop p) = par x) (hc : x[p]? = some c) (h : c = 34) (hc2 : x[p + 1]? = some c2) (h2 : c2 = 34) : (d ++ (⟨#[c]⟩ : Str)).cps.toList ++ par (x.drop (p + 2)) = par x := by
  k_with "proof" =>
    rw [← hr, drop_at hc, drop_at hc2, h, h2, app1]
    simp [par]
  run_tac Mine.sq default
theorem par_step1 (hr : d.cps.toList ++ par (x.drop p) = par x) (hc : x[p]? = some c) (h : c ≠ 34) : (d ++ (⟨#[c]⟩ : Str)).cps.toList ++ par (x.drop (p + 1)) = par x := by
  rw [← hr, drop_at hc, par_other h, app1]
  simp
end
noncomputable def ysP : List Str := [Str.ofString "i", Str.ofString "c", Str.ofString "dirname"]
section
variable {prog : Program} {w : World} {A : Around} {E : Value → Shared → Prop} {s : Shared} {env : Env} {test : Expr} {body : List Stmt} {Q : Flow → Shared → Prop} {h₀ : Heap} {L : Addr} {m : Str → Option Value} {news : List (Addr × Obj)}
/-- behind parse257's loop -/
noncomputable def PFin (h₀ : Heap) (L : Addr) (s0 : Shared) (m₀ : Str → Option Value) (news : List (Addr × Obj)) (x : List Nat) (s' : Shared) : Prop :=
  ∃ m' d t, Fr h₀ L s'.heap m' ∧ News h₀ L s'.heap news ∧ Same s0 s' ∧ m' (Str.ofString "dirname") = some (.str d t) ∧ d.cps.toList = par x ∧ ∀ y, y ∉ ysP → m' y = m₀ y
noncomputable def PJ (h₀ : Heap) (L : Addr) (s0 : Shared) (m₀ : Str → Option Value) (news : List (Addr × Obj)) (x : List Nat) (k : Nat) (s' : Shared) : Prop :=
  ∃ m' d t p ti, Fr h₀ L s'.heap m' ∧ News h₀ L s'.heap news ∧ Same s0 s' ∧ m' (Str.ofString "dirname") = some (.str d t) ∧ m' (Str.ofString "i") = some (.int ((5 + p : Nat) : Int) ti) ∧ p ≤ x.length ∧ d.length ≤ p ∧ d.cps.toList ++ par (x.drop p) = par x ∧ (∀ y, y ∉ ysP → m' y = m₀ y) ∧ k = x.length - p
noncomputable def PEnd (J : Nat → Shared → Prop) (P : Shared → Prop) (k : Nat) (f : Flow) (s₃ : Shared) : Prop :=
  match f with
  | .brk => P s₃
  | .ret _ => False
  | _ => ∃ k', k' < k ∧ J k' s₃
theorem MWhl.par {m₀ : Str → Option Value} {x : List Nat} {t ti : Tok} (F : Fr h₀ env.locals s.heap m₀) (N : News h₀ env.locals s.heap news) (hd : m₀ (Str.ofString "dirname") = some (.str Str.empty t)) (hi : m₀ (Str.ofString "i") = some (.int ((5 : Nat) : Int) ti))
    (turn : ∀ m₁ d t p ti s₁, Fr h₀ env.locals s₁.heap m₁ → News h₀ env.locals s₁.heap news → Same s s₁ → m₁ (Str.ofString "dirname") = some (.str d t) → m₁ (Str.ofString "i") = some (.int ((5 + p : Nat) : Int) ti) → p ≤ x.length → d.length ≤ p → d.cps.toList ++ Mine.par (x.drop p) = Mine.par x → (∀ y, y ∉ ysP → m₁ y = m₀ y) →
      wpAny (model prog w) A (isTrue test env (eval test env)) (fun b s₂ => (b = true → wpAny (model prog w) A (execs body env) (PEnd (PJ h₀ env.locals s m₀ news x) (PFin h₀ env.locals s m₀ news x) (x.length - p)) (fun _ _ => False) s₂) ∧ (b = false → PFin h₀ env.locals s m₀ news x s₂)) (fun _ _ => False) s₁)
    (fin : ∀ m' d t s', Fr h₀ env.locals s'.heap m' → News h₀ env.locals s'.heap news → Same s s' → m' (Str.ofString "dirname") = some (.str d t) → d.cps.toList = Mine.par x → (∀ y, y ∉ ysP → m' y = m₀ y) → Q .next s') :
    MWhl prog w A E env test body Q s := by
  k_with "proof" =>
    have fin' : ∀ s', PFin h₀ env.locals s m₀ news x s' → Q .next s' := fun s' ⟨m', d, t, a, b, c, e, f, g⟩ => fin m' d t s' a b c e f g
    refine MWhl.inv (PJ h₀ env.locals s m₀ news x) ?_ (x.length - 0) ⟨m₀, Str.empty, t, 0, ti, F, N, Same.rfl', hd, hi, Nat.zero_le _, Nat.le_refl _, rfl, fun _ _ => rfl, rfl⟩
    rintro k s₁ ⟨m₁, d, t, p, ti, F₁, N₁, S₁, hd₁, hi₁, hp, hl, hr, hm, rfl⟩
    refine wpAny_mono (turn m₁ d t p ti s₁ F₁ N₁ S₁ hd₁ hi₁ hp hl hr hm) (fun b s₂ h₂ => ⟨fun e => ?_, fun e => fin' _ (h₂.2 e)⟩) fun _ _ e => e
    refine wpAny_mono (h₂.1 e) (fun f s₃ h₃ => ?_) fun _ _ e => e
    cases f with
    | next => exact h₃
    | cont => exact h₃
    | brk => exact fin' _ h₃
    | ret v => exact h₃.elim
  run_tac Mine.sq default
variable {value slice : PySem.Expr} {R : PySem.Str} {t : Tok} {x : List Nat} {QQ : Value → Shared → Prop}
theorem sl3 (hR : R.cps.toList = [50, 53, 55, 32, 34] ++ x) : Txt.slice R none (some 3) = Str.ofString "257" := by
  k_with "proof" =>
    have hl : R.length = 5 + x.length := by
      show R.cps.size = _
      rw [← Array.length_toList, hR]; simp; omega
    have e := eq_of_beq (slice_closes_toL (x := R) (j := 3) (by decide) (by omega))
    rw [e, hR]
    rfl
  run_tac Mine.sq default
theorem sl5 (hR : R.cps.toList = [50, 53, 55, 32, 34] ++ x) : Txt.slice R (some 3) (some 5) = Str.ofString " \"" := by
  k_with "proof" =>
    have hl : R.length = 5 + x.length := by
      show R.cps.size = _
      rw [← Array.length_toList, hR]; simp; omega
    have e := eq_of_beq (slice_closesL (x := R) (i := 3) (j := 5) (by decide) (by decide) (by omega))
    rw [e, hR]
    rfl
  run_tac Mine.sq default
theorem slNS {uj : Tok} (F : Fr h₀ L s.heap m) (N : News h₀ L s.heap news) (hR : R.cps.toList = [50, 53, 55, 32, 34] ++ x) (hx : x.length ≤ 4096) (h : ∀ h' t' k, Fr h₀ L h' m → News h₀ L h' news → QQ (.str (Str.ofString "257") t') { s with heap := h', toks := k })
    (hs : subscripted slice false (.str R t) (.ref s.heap.objs.size) = operate [.ref s.heap.objs.size, .str R t] (getItem (.str R t) (.ref s.heap.objs.size)) := by with_unfolding_all rfl)
    (ht : ∀ r, letTemporaryGo value (.str R t) r = pure () := by intro _; with_unfolding_all rfl) :
    wpAny (model prog w) A (subscriptTail value slice (.str R t) (.ref s.heap.objs.size)) QQ E { s with heap := s.heap.push { cls := .type "slice", data := .fields #[.none, .int 3 uj, .none] } } := by
  k_with "proof" =>
    have hl : R.length = 5 + x.length := by
      show R.cps.size = _
      rw [← Array.length_toList, hR]; simp; omega
    exact slice_strN_ns F N (fun h' t' k a b => by rw [sl3 hR]; exact h h' t' k a b) hs ht (by rw [sizeLine_eq]; omega)
  run_tac Mine.sq default
theorem slSS {ui uj : Tok} (F : Fr h₀ L s.heap m) (N : News h₀ L s.heap news) (hR : R.cps.toList = [50, 53, 55, 32, 34] ++ x) (hx : x.length ≤ 4096) (h : ∀ h' t' k, Fr h₀ L h' m → News h₀ L h' news → QQ (.str (Str.ofString " \"") t') { s with heap := h', toks := k })
    (hs : subscripted slice false (.str R t) (.ref s.heap.objs.size) = operate [.ref s.heap.objs.size, .str R t] (getItem (.str R t) (.ref s.heap.objs.size)) := by with_unfolding_all rfl)
    (ht : ∀ r, letTemporaryGo value (.str R t) r = pure () := by intro _; with_unfolding_all rfl) :
    wpAny (model prog w) A (subscriptTail value slice (.str R t) (.ref s.heap.objs.size)) QQ E { s with heap := s.heap.push { cls := .type "slice", data := .fields #[.int 3 ui, .int 5 uj, .none] } } := by
  k_with "proof" =>
    have hl : R.length = 5 + x.length := by
      show R.cps.size = _
      rw [← Array.length_toList, hR]; simp; omega
    exact slice_strN_ss F N (fun h' t' k a b => by rw [sl5 hR]; exact h h' t' k a b) hs ht (by rw [sizeLine_eq]; omega)
  run_tac Mine.sq default
theorem itAt {i : Int} {p : Nat} {u : Tok} (hR : R.cps.toList = [50, 53, 55, 32, 34] ++ x) (hx : x.length ≤ 4096) (hi : i = ((5 + p : Nat) : Int)) (hp : p < x.length) (h : ∀ c k t', x[p]? = some c → QQ (.str ⟨#[c]⟩ t') { s with toks := k })
    (hs : subscripted slice false (.str R t) (.int i u) = operate [.str R t, .int i u] (getItem (.str R t) (.int i u)) := by with_unfolding_all rfl)
    (ht : ∀ r, letTemporaryGo value (.str R t) r = pure () := by intro _; with_unfolding_all rfl) :
    wpAny (model prog w) A (subscriptTail value slice (.str R t) (.int i u)) QQ E s := by
  k_with "proof" =>
    have hl : R.length = 5 + x.length := by
      show R.cps.size = _
      rw [← Array.length_toList, hR]; simp; omega
    subst hi
    refine KXi.item (n := 5 + x.length) hl (by omega) (by omega) (by omega) (fun _ => ?_) hs ht
    have e : Txt.item R ((5 + p : Nat) : Int) = ⟨#[x[p]]⟩ := by
      refine item_meets (by omega) ?_
      rw [Int.toNat_natCast, ← Array.getElem?_toList, hR, List.getElem?_append_right (by simp), show 5 + p - [50, 53, 55, 32, 34].length = p by simp]
      simp [hp]
    rw [e]
    exact h _ _ _ (by simp [hp])
  run_tac Mine.sq default
theorem itAt1 {p : Nat} {u : Tok} (hR : R.cps.toList = [50, 53, 55, 32, 34] ++ x) (hx : x.length ≤ 4096) (hp : p + 1 < x.length) (h : ∀ c k t', x[p + 1]? = some c → QQ (.str ⟨#[c]⟩ t') { s with toks := k })
    (hs : subscripted slice false (.str R t) (.int (((5 + p : Nat) : Int) + 1) u) = operate [.str R t, .int (((5 + p : Nat) : Int) + 1) u] (getItem (.str R t) (.int (((5 + p : Nat) : Int) + 1) u)) := by with_unfolding_all rfl)
    (ht : ∀ r, letTemporaryGo value (.str R t) r = pure () := by intro _; with_unfolding_all rfl) :
    wpAny (model prog w) A (subscriptTail value slice (.str R t) (.int (((5 + p : Nat) : Int) + 1) u)) QQ E s := itAt (p := p + 1) hR hx (by omega) hp h hs ht
theorem add1 {d : Str} {c : Nat} {u : Tok} (hd : d.length ≤ 4096) (h : ∀ t' k, QQ (.str (d ++ (⟨#[c]⟩ : Str)) t') { s with toks := k }) : wpAny (model prog w) A (binaryOp .Add (.str d t) (.str ⟨#[c]⟩ u)) QQ E s :=
  PyProof.Rows.add_str h (by rw [sizeLine_eq]; show d.length + 1 ≤ _; omega)
theorem lenR (hR : R.cps.toList = [50, 53, 55, 32, 34] ++ x) (hx : x.length ≤ 4096) (h : ∀ t' k, QQ (.int ((5 + x.length : Nat) : Int) t') { s with toks := k }) : wpAny (model prog w) A (call (.builtin "len") [.str R t]) QQ E s := by
  k_with "proof" =>
    have hl : R.length = 5 + x.length := by
      show R.cps.size = _
      rw [← Array.length_toList, hR]; simp; omega
    refine len_str (by rw [hl]; omega) ?_
    rw [hl]
    exact h _ _
  run_tac Mine.sq default
end
theorem ne34 {c : Nat} (h : ((⟨#[c]⟩ : Str) != Str.ofString "\"") = true) : c ≠ 34 := by
  apply not34
  cases e : ((⟨#[c]⟩ : Str) == Str.ofString "\"") with
  | false => rfl
  | true => rw [bne, e] at h; cases h
theorem eq34 {c : Nat} (h : ((⟨#[c]⟩ : Str) != Str.ofString "\"") = false) : c = 34 := by
  apply is34
  cases e : ((⟨#[c]⟩ : Str) == Str.ofString "\"") with
  | true => rfl
  | false => rw [bne, e] at h; cases h
theorem eq34' {c : Nat} (h : ¬ ((⟨#[c]⟩ : Str) != Str.ofString "\"") = true) : c = 34 := eq34 (Bool.not_eq_true _ ▸ h)
theorem not34' {c : Nat} (h : ¬ ((⟨#[c]⟩ : Str) == Str.ofString "\"") = true) : c ≠ 34 := not34 (Bool.not_eq_true _ ▸ h)
theorem len1 (d : Str) (c : Nat) : (d ++ (⟨#[c]⟩ : Str)).length = d.length + 1 := by
  show (d ++ (⟨#[c]⟩ : Str)).cps.size = d.cps.size + 1
  rw [← Array.length_toList, app1, List.length_append, Array.length_toList]; rfl
section
variable {h₀ : Heap} {L : Addr} {s0 s' : Shared} {m₀ m' : Str → Option Value} {news : List (Addr × Obj)} {x : List Nat} {d : Str} {t ti : Tok} {p p' : Nat} {z : Int} {P : Shared → Prop}
theorem pfin (F : Fr h₀ L s'.heap m') (N : News h₀ L s'.heap news) (S : Same s0 s') (hd : m' (Str.ofString "dirname") = some (.str d t)) (hr : d.cps.toList = par x) (hm : ∀ y, y ∉ ysP → m' y = m₀ y) : PFin h₀ L s0 m₀ news x s' := ⟨m', d, t, F, N, S, hd, hr, hm⟩
theorem pnext (F : Fr h₀ L s'.heap m') (N : News h₀ L s'.heap news) (S : Same s0 s') (hd : m' (Str.ofString "dirname") = some (.str d t)) (hi : m' (Str.ofString "i") = some (.int z ti)) (hz : z = ((5 + p' : Nat) : Int)) (hp : p' ≤ x.length) (hl : d.length ≤ p') (hr : d.cps.toList ++ par (x.drop p') = par x) (hm : ∀ y, y ∉ ysP → m' y = m₀ y) (hlt : p < p') :
    PEnd (PJ h₀ L s0 m₀ news x) P (x.length - p) .next s' := ⟨x.length - p', by omega, m', d, t, p', ti, F, N, S, hd, hz ▸ hi, hp, hl, hr, hm, rfl⟩
end
end Mine
end
section -- CutL
open PySem PySem.W PySem.Calls PySem.Spec PyProof.Rows
namespace Mine
/-- _law_cut's state, over codes -/
noncomputable abbrev CSt := List (List Nat) × List Nat × Nat
noncomputable def cutStep (s : CSt) (x : List Nat) : CSt :=
  if x = [34] then (s.1, s.2.1, s.2.2 + 1)
  else if x = [] then s
  else if s.2.2 % 2 = 1 then (s.1 ++ [s.2.1 ++ List.replicate (s.2.2 / 2) 34], x, 0)
  else (s.1, (s.2.1 ++ List.replicate (s.2.2 / 2) 34) ++ x, 0)
noncomputable def cutRun (xs : List (List Nat)) : CSt := xs.foldl cutStep ([], [], 0)
noncomputable def cutF (xs : List (List Nat)) : List (List Nat) := (cutRun xs).1 ++ [(cutRun xs).2.1]
noncomputable def codes (x : Str) : List Nat := x.cps.toList
theorem cutRun_snoc (xs : List (List Nat)) (x : List Nat) : cutRun (xs ++ [x]) = cutStep (cutRun xs) x := by
  unfold cutRun; rw [List.foldl_append]; rfl
theorem cutRun_len : ∀ (xs : List (List Nat)), (∀ x ∈ xs, x.length ≤ 8) → ∀ s : CSt, (xs.foldl cutStep s).2.1.length + (xs.foldl cutStep s).2.2 ≤ s.2.1.length + s.2.2 + 8 * xs.length ∧ (xs.foldl cutStep s).1.length ≤ s.1.length + xs.length
  | [], _, s => by simp
  | x :: r, h, s => by
    have ih := cutRun_len r (fun y hy => h y (List.mem_cons_of_mem _ hy)) (cutStep s x)
    have hx := h x (List.mem_cons_self ..)
    have e : (cutStep s x).2.1.length + (cutStep s x).2.2 ≤ s.2.1.length + s.2.2 + 8 ∧ (cutStep s x).1.length ≤ s.1.length + 1 := by
      unfold cutStep
      split
      · constructor <;> simp <;> omega
      · split
        · constructor <;> omega
        · split
          · constructor <;> simp <;> omega
          · constructor <;> simp <;> omega
    rw [List.foldl_cons, List.length_cons]
    constructor <;> omega
/-- the texts of a made list, by their codes -/
noncomputable def TxtAll (vs : List Value) (xs : List (List Nat)) : Prop := ∃ ys : List Str, ys.map codes = xs ∧ DatAll [] vs (ys.map Dat.str)
theorem TxtAll.nil : TxtAll [] [] := ⟨[], rfl, .nil⟩
theorem TxtAll.snoc {vs : List Value} {xs : List (List Nat)} {y : Str} {t : Tok} (h : TxtAll vs xs) : TxtAll (vs ++ [.str y t]) (xs ++ [codes y]) := by
  obtain ⟨ys, rfl, hd⟩ := h
  refine ⟨ys ++ [y], by simp, ?_⟩
  rw [List.map_append]
  exact DatAll.append hd (DatAll.one (.str _ _))
theorem TxtAll.len {vs : List Value} {xs : List (List Nat)} (h : TxtAll vs xs) : vs.length = xs.length := by
  obtain ⟨ys, rfl, hd⟩ := h
  rw [DatAll.length hd]; simp
theorem TxtAll.at {vs : List Value} {xs : List (List Nat)} {i : Nat} {v : Value} (h : TxtAll vs xs) (hv : vs[i]? = some v) : ∃ y t, v = .str y t ∧ xs[i]? = some (codes y) := by
  k_with "proof" =>
    obtain ⟨ys, rfl, hd⟩ := h
    obtain ⟨d, h1, h2⟩ := datAll_at hd hv
    rw [List.getElem?_map] at h1
    cases hy : ys[i]? with
    | none => rw [hy] at h1; cases h1
    | some y =>
      rw [hy] at h1
      cases h1
      cases h2
      exact ⟨y, _, rfl, by rw [List.getElem?_map, hy]; rfl⟩
  run_tac Mine.sq default
theorem TxtAll.mono {news : List (Addr × Obj)} {vs : List Value} {xs : List (List Nat)} (h : TxtAll vs xs) : ∃ ys : List Str, ys.map codes = xs ∧ DatAll news vs (ys.map Dat.str) := by
  obtain ⟨ys, e, hd⟩ := h
  exact ⟨ys, e, DatAll.mono (news := []) (fun p hp => by cases hp) hd⟩
theorem len_app (a b : Str) : (a ++ b).length = a.length + b.length := by
  show (a ++ b).cps.size = a.cps.size + b.cps.size
  rw [Str.cps_append, Array.size_append]
theorem codes_app (a b : Str) : codes (a ++ b) = codes a ++ codes b := by
  unfold codes; rw [Str.cps_append, Array.toList_append]
theorem codes_len (a : Str) : (codes a).length = a.length := by
  unfold codes; rw [Array.length_toList]; rfl
section
variable {prog : Program} {w : World} {A : Around} {E : Value → Shared → Prop} {s : Shared} {Q : Value → Shared → Prop}
theorem mulQ {run : Nat} {t u : Tok} (hr : run ≤ 3000) (h : ∀ y t' k, codes y = List.replicate (run / 2) 34 → y.length ≤ 1500 → Q (.str y t') { s with toks := k }) : wpAny (model prog w) A (binaryOp .Mult (.str (Str.ofString "\"") t) (.int ((run : Int).fdiv 2) u)) Q E s := by
  k_with "proof" =>
    have e : ((run : Int).fdiv 2) = ((run / 2 : Nat) : Int) := by
      rw [Int.fdiv_eq_ediv_of_nonneg _ (by decide)]; omega
    rw [e]
    have hc : codes (Txt.mul (Str.ofString "\"") ((run / 2 : Nat) : Int)) = List.replicate (run / 2) 34 := by
      have := mul_one_list 34 ((run / 2 : Nat) : Int)
      rw [Int.toNat_natCast] at this
      exact this
    refine SB.mul (mulOk_of 1 1500 (by decide) (by omega) (by omega) (by decide) (by decide)) fun t' k => h _ t' k hc ?_
    rw [← codes_len, hc, List.length_replicate]
    omega
  run_tac Mine.sq default
theorem iaddQ {x y : Str} {t u : Tok} (hs : x.length + y.length ≤ 16777216) (h : ∀ t' k, Q (.str (x ++ y) t') { s with toks := k }) : wpAny (model prog w) A (inplaceOp .Add (.str x t) (.str y u)) Q E s :=
  PyProof.Rows.iadd_str h (by rw [sizeLine_eq]; exact hs)
end
theorem codes_q {y : Str} (h : (y == Str.ofString "\"") = true) : codes y = [34] := by rw [eq_of_beq h]; rfl
theorem codes_nq {y : Str} (h : (y == Str.ofString "\"") = false) : codes y ≠ [34] := by
  k_with "proof" =>
    intro e
    have : y = Str.ofString "\"" := by
      have e2 : y.cps = #[34] := Array.toList_inj.mp e
      cases y; cases e2; rfl
    rw [this, beq_self_eq_true] at h; cases h
  run_tac Mine.sq default
theorem codes_e {y : Str} (h : (y != Str.ofString "") = false) : codes y = [] := by
  have : y = Str.ofString "" := by
    cases e : (y == Str.ofString "") with
    | true => exact eq_of_beq e
    | false => rw [bne, e] at h; cases h
  rw [this]; rfl
theorem codes_ne {y : Str} (h : (y != Str.ofString "") = true) : codes y ≠ [] := by
  k_with "proof" =>
    intro e
    have : y = Str.ofString "" := by
      have e2 : y.cps = #[] := Array.toList_inj.mp e
      cases y; cases e2; rfl
    rw [this, bne, beq_self_eq_true] at h; cases h
  run_tac Mine.sq default
theorem cut_take {xs : List (List Nat)} {i : Nat} {y : Str} (h : xs[i]? = some (codes y)) : cutRun (xs.take (i + 1)) = cutStep (cutRun (xs.take i)) (codes y) := by
  rw [← cutRun_snoc, List.take_add_one, h]; rfl
theorem odd_of {run : Nat} (h : ((run : Nat) : Int).fmod 2 = 1) : run % 2 = 1 := by
  rw [Int.fmod_eq_emod_of_nonneg _ (by decide)] at h; omega
theorem even_of {run : Nat} (h : ((run : Nat) : Int).fmod 2 ≠ 1) : ¬ run % 2 = 1 := by
  k_with "proof" =>
    rw [Int.fmod_eq_emod_of_nonneg _ (by decide)] at h; omega
  run_tac Mine.sq default
section
variable {prog : Program} {w : World} {A : Around} {E : Value → Shared → Prop} {s : Shared} {h₀ : Heap} {L : Addr} {m : Str → Option Value} {news : List (Addr × Obj)}
theorem addMem' {l b : Addr} {xs ys : Array Value} {n n2 : Nat} {Q : Value → Shared → Prop} (F : Fr h₀ L s.heap m) (N : News h₀ L s.heap news) (h1 : (l, listOf xs n) ∈ news) (h2 : (b, listOf ys n2) ∈ news) (hsz : xs.size + ys.size ≤ sizeLine)
    (h : ∀ D h', Fr h₀ L h' m → News h₀ L h' ((D, listOf (xs.toList ++ ys.toList).toArray 0) :: news) → AllLt D news → Q (.ref D) { s with heap := h' }) : wpAny (model prog w) A (binaryOp .Add (.ref l) (.ref b)) Q E s :=
  add_lists (vs := xs.toList) (ws := ys.toList) F N ⟨_, (N _ h1).1, rfl, n, rfl⟩ ⟨_, (N _ h2).1, rfl, n2, rfl⟩ (fun h' F' N' => h _ h' F' N' (allLt_of fun p hp => Heap.lt_size (N p hp).1)) (by simpa using hsz)
end
end Mine
end
section -- PageL
open PySem PySem.W PySem.Calls PySem.Spec PyProof.Rows
namespace Mine
noncomputable abbrev PP := List (List Nat × List Nat)
noncomputable def pq : List Nat × List Nat := ([34], [34])
noncomputable def signsP (i j : Nat) (l : List Nat) : PP := l.map fun s => (look s i, look s j)
noncomputable def pageC : Cl → PP
  | .start w o => [(codes (Str.ofString "<E K="), codes (Str.ofString "<e k=")), pq] ++ signsP 1 2 w ++ [pq] ++ [(codes (Str.ofString " a="), codes (Str.ofString " a=")), pq] ++ signsP 1 2 o ++ [pq] ++ [(codes (Str.ofString ">"), codes (Str.ofString ">"))]
  | .close => [(codes (Str.ofString "</E>"), codes (Str.ofString "</e>"))]
  | .data w => signsP 3 4 w
noncomputable def pageB (cs : List Cl) : PP := (codes (Str.ofString "<r>"), codes (Str.ofString "<r>")) :: cs.flatMap pageC
noncomputable def pageF (cs : List Cl) : PP := pageB cs ++ [(codes (Str.ofString "</r>"), codes (Str.ofString "</r>"))]
theorem pageB_snoc (cs : List Cl) (c : Cl) : pageB (cs ++ [c]) = pageB cs ++ pageC c := by
  simp [pageB, List.flatMap_append]
/-- pairs of texts in a made list -/
noncomputable def PairAll (news : List (Addr × Obj)) (vs : List Value) (ps : PP) : Prop := ∃ ys : List (Str × Str), ys.map (fun p => (codes p.1, codes p.2)) = ps ∧ DatAll news vs (ys.map fun p => Dat.tuple [.str p.1, .str p.2])
theorem PairAll.nil {news : List (Addr × Obj)} : PairAll news [] [] := ⟨[], rfl, .nil⟩
theorem PairAll.mono {news news' : List (Addr × Obj)} {vs : List Value} {ps : PP} (hs : ∀ p ∈ news, p ∈ news') (h : PairAll news vs ps) : PairAll news' vs ps := by
  obtain ⟨ys, e, hd⟩ := h
  exact ⟨ys, e, DatAll.mono hs hd⟩
theorem PairAll.append {news : List (Addr × Obj)} {vs vs2 : List Value} {ps ps2 : PP} (h : PairAll news vs ps) (h2 : PairAll news vs2 ps2) : PairAll news (vs ++ vs2) (ps ++ ps2) := by
  k_with "proof" =>
    obtain ⟨ys, rfl, hd⟩ := h
    obtain ⟨ys2, rfl, hd2⟩ := h2
    exact ⟨ys ++ ys2, by simp, by rw [List.map_append]; exact DatAll.append hd hd2⟩
  run_tac Mine.sq default
theorem PairAll.one {news : List (Addr × Obj)} {T : Addr} {x y : Str} {t u : Tok} {n : Nat} {p : List Nat × List Nat} (hm : (T, ({ cls := .type "tuple", data := .seq #[.str x t, .str y u] n } : Obj)) ∈ news) (e : (codes x, codes y) = p) : PairAll news [.ref T] [p] :=
  ⟨[(x, y)], by simp [e], DatAll.one (.tuple (vs := [_, _]) hm (.cons (.str _ _) (.cons (.str _ _) .nil)))⟩
theorem PairAll.len {news : List (Addr × Obj)} {vs : List Value} {ps : PP} (h : PairAll news vs ps) : vs.length = ps.length := by
  obtain ⟨ys, rfl, hd⟩ := h
  rw [DatAll.length hd]; simp
end Mine
namespace Mine
open PyProof.Rows.LCg
theorem compRest_ind {prog : Program} {w : World} {A : Around} {h₀ : Heap} {L : Addr} {m : Str → Option Value} {env : Env} {elt : Expr} {x : Str} {scope : Scope} {cl : List (Str × Addr)} {s : Shared} {S : List (Addr × Obj) → Prop} {P : Nat → Value → Prop} {Fin : List Value → List (Addr × Obj) → Prop}
    (J : Nat → List Value → List (Addr × Obj) → Prop) (N : Nat)
    (step : ∀ i ys news, i < N → J i ys news → ∀ v I oI C oC D m₂ h tk (E' : Value → Shared → Prop), P i v → NsObj oC m₂ → m₂ x = some v → Fr h₀ L h m → News h₀ L h ((I, oI) :: (C, oC) :: (D, lst ys) :: news) → Off3 I C D news → ((@Ne Nat I C) ∧ (@Ne Nat I D) ∧ (@Ne Nat C D)) →
      wpAny (model prog w) A (eval elt (compEnvC scope cl C env)) (CompEnd h₀ L m { s with heap := h, toks := tk } I oI C oC D (lst ys) S (fun y news' => J (i + 1) (ys ++ [y]) news')) E' { s with heap := h, toks := tk })
    (fin : ∀ ys news, J N ys news → Fin ys news) : ∀ (n i : Nat) (ys : List Value) (news : List (Addr × Obj)), i + n = N → J i ys news → CompRest prog w A h₀ L m env elt x scope cl s S P Fin n i ys news
  | 0, i, ys, news, e, h => by
    have e' : i = N := by omega
    subst e'
    exact fin ys news h
  | n + 1, i, ys, news, e, h => by
    intro v I oI C oC D m₂ hh tk E' a b c d e1 f g
    refine wpAny_mono (step i ys news (by omega) h v I oI C oC D m₂ hh tk E' a b c d e1 f g) (fun y s₂ hy => ?_) fun _ _ e => e
    obtain ⟨h', tk', news', e2, F', N', o', hS, hj⟩ := hy
    exact ⟨h', tk', news', e2, F', N', o', hS, compRest_ind J N step fin n (i + 1) (ys ++ [y]) news' (by omega) hj⟩
end Mine
end
section -- PageM
open PySem PySem.W PySem.Calls PySem.Spec PyProof.Rows
namespace Mine
noncomputable def Cl.what : Cl → Str
  | .start _ _ => sS
  | .close => sE
  | .data _ => sD
noncomputable def Cl.w : Cl → List Nat
  | .start w _ => w
  | .close => []
  | .data w => w
noncomputable def Cl.o : Cl → List Nat
  | .start _ o => o
  | .close => []
  | .data _ => []
theorem callDat_eq (c : Cl) : callDat c = .tuple [.str c.what, wordDat c.w, wordDat c.o] := by cases c <;> rfl
/-- a word's list and its signs -/
noncomputable def WordAt (news : List (Addr × Obj)) (v : Value) (l : List Nat) : Prop := ∃ a ws n, v = .ref a ∧ (a, listOf ws n) ∈ news ∧ DatAll news ws.toList (l.map signDat)
theorem wordAt {news : List (Addr × Obj)} {v : Value} {l : List Nat} (h : DatIn news v (wordDat l)) : WordAt news v l := by
  k_with "proof" =>
    unfold wordDat at h
    cases h with
    | list hm r => exact ⟨_, _, _, rfl, hm, r⟩
  run_tac Mine.sq default
theorem callAt' {news : List (Addr × Obj)} {v : Value} {c : Cl} (h : DatIn news v (callDat c)) : ∃ T t v1 v2 n, v = .ref T ∧ (T, ({ cls := .type "tuple", data := .seq #[.str c.what t, v1, v2] n } : Obj)) ∈ news ∧ WordAt news v1 c.w ∧ WordAt news v2 c.o := by
  k_with "proof" =>
    rw [callDat_eq] at h
    cases h with
    | tuple hm r =>
      cases r with
      | cons h1 r =>
        cases r with
        | cons h2 r =>
          cases r with
          | cons h3 r =>
            cases r
            cases h1
            exact ⟨_, _, _, _, _, rfl, hm, wordAt h2, wordAt h3⟩
  run_tac Mine.sq default
/-- a sign's tuple -/
theorem signAt {news : List (Addr × Obj)} {ws : List Value} {l : List Nat} {i : Nat} {v : Value} (h : DatAll news ws (l.map signDat)) (hv : ws[i]? = some v) : ∃ s T t0 t1 t2 t3 t4 n, l[i]? = some s ∧ v = .ref T ∧
    (T, ({ cls := .type "tuple", data := .seq #[.str (lookS s 0) t0, .str (lookS s 1) t1, .str (lookS s 2) t2, .str (lookS s 3) t3, .str (lookS s 4) t4] n } : Obj)) ∈ news := by
  k_with "proof" =>
    obtain ⟨d, h1, h2⟩ := datAll_at h hv
    rw [List.getElem?_map] at h1
    cases hl : l[i]? with
    | none => rw [hl] at h1; cases h1
    | some s =>
      rw [hl] at h1
      cases h1
      unfold signDat at h2
      cases h2 with
      | tuple hm r =>
        cases r with
        | cons a r => cases r with
          | cons b r => cases r with
            | cons c r => cases r with
              | cons d r => cases r with
                | cons e r =>
                  cases r; cases a; cases b; cases c; cases d; cases e
                  exact ⟨s, _, _, _, _, _, _, _, rfl, rfl, hm⟩
  run_tac Mine.sq default
end Mine
end
section -- PageN
open PySem PySem.W PySem.Calls PySem.Spec PyProof.Rows
namespace Mine
noncomputable def ysG : List Str := [Str.ofString "what", Str.ofString "word", Str.ofString "other", Str.ofString "head", Str.ofString "small", Str.ofString "value"]
section
variable {prog : Program} {w : World} {A : Around} {E : Value → Shared → Prop} {s : Shared} {env : Env} {h₀ : Heap} {target : Expr} {body : List Stmt} {Q : Flow → Shared → Prop} {G : Shared → Prop}
/-- the page under the hand -/
noncomputable def PgJ (lp : Addr) (news : List (Addr × Obj)) (m₀ : Str → Option Value) (ps : PP) (m' : Str → Option Value) (n' : List (Addr × Obj)) : Prop :=
  ∃ vs' k add, n' = (lp, listOf vs' k) :: (add ++ news) ∧ (∀ p ∈ add, p.1 ≠ lp ∧ AllLt p.1 news) ∧ PairAll add vs'.toList ps ∧ ∀ y, y ∉ ysG → m' y = m₀ y
theorem MFor.page (hG : Shut G) {l lp : Addr} {vs : List Value} {n : Nat} {cs : List Cl} {news add0 : List (Addr × Obj)} {vs0 : Array Value} {k0 : Nat} {m₀ : Str → Option Value} (hh : A.handled = none) (F : Fr h₀ env.locals s.heap m₀) (N : News h₀ env.locals s.heap ((lp, listOf vs0 k0) :: (add0 ++ news))) (hg : G s) (ht : 0 < s.toks)
    (hadd : ∀ p ∈ add0, p.1 ≠ lp ∧ AllLt p.1 news) (h0 : PairAll add0 vs0.toList (pageB [])) (hm : (l, listOf vs.toArray n) ∈ news) (hx : DatAll news vs (cs.map callDat))
    (turn : ∀ I, AllLt I ((lp, listOf vs0 k0) :: (add0 ++ news)) → ∀ (i : Nat) c T t v1 v2 oI m₁ vs' k add s₁, i < vs.length → cs[i]? = some c → IsTup s₁.heap T #[.str c.what t, v1, v2] → WordAt news v1 c.w → WordAt news v2 c.o → (∀ p ∈ add, p.1 ≠ lp ∧ AllLt p.1 news ∧ p.1 ≠ I) → PairAll add vs'.toList (pageB (cs.take i)) → (∀ y, y ∉ ysG → m₁ y = m₀ y) →
      Fr h₀ env.locals s₁.heap m₁ → News h₀ env.locals s₁.heap ((I, oI) :: (lp, listOf vs' k) :: (add ++ news)) → G s₁ → 0 < s₁.toks →
        wpAny (model prog w) A (assign target env (.ref T)) (fun _ s₂ => wpAny (model prog w) A (execs body env) (TEnd h₀ env.locals G I oI (PgJ lp news m₀ (pageB (cs.take (i + 1)))) Q) (fun _ _ => False) s₂) (fun _ _ => False) s₁)
    (fin : ∀ m' vs' k add s', PairAll add vs'.toList (pageB cs) → (∀ p ∈ add, p.1 ≠ lp ∧ AllLt p.1 news) → (∀ y, y ∉ ysG → m' y = m₀ y) → Fr h₀ env.locals s'.heap m' → News h₀ env.locals s'.heap ((lp, listOf vs' k) :: (add ++ news)) → G s' → 0 < s'.toks → Q .next s') :
    MFor prog w A E env target body Q (.ref l) s := by
  k_with "proof" =>
    have hlen : vs.length = cs.length := by have := DatAll.length hx; rwa [List.length_map] at this
    refine MFor.list (G := G) (ax := l) (items := vs.toArray) hG hh F N ⟨hg, ht⟩ (fun i m' n' => PgJ lp news m₀ (pageB (cs.take i)) m' n') ?_ ?_ ?_ ?_
    · rintro i m' n' ⟨vs', k, add, rfl, _⟩
      exact .inr ⟨_, List.mem_cons_of_mem _ (List.mem_append_right _ hm), rfl, n, rfl⟩
    · exact ⟨vs0, k0, add0, rfl, hadd, h0, fun _ _ => rfl⟩
    · rintro I hI i v oI m₁ news₁ s₁ hi hv ⟨vs', k, add, rfl, h1, h2, h3⟩ hoff F₁ N₁ O₁
      have hv' : vs[i]? = some v := by simpa using hv
      obtain ⟨d, hd1, hd2⟩ := datAll_at hx hv'
      rw [List.getElem?_map] at hd1
      cases hc : cs[i]? with
      | none => rw [hc] at hd1; cases hd1
      | some c =>
        rw [hc] at hd1
        cases hd1
        obtain ⟨T, t, v1, v2, nn, rfl, hT, w1, w2⟩ := callAt' hd2
        have hT' := N₁ _ (List.mem_cons_of_mem _ (List.mem_cons_of_mem _ (List.mem_append_right _ hT)))
        exact turn I (allLt_of hI) i c T t v1 v2 oI m₁ vs' k add s₁ (by simpa using hi) hc ⟨_, hT'.1, rfl, nn, rfl⟩ w1 w2 (fun p hp => ⟨(h1 p hp).1, (h1 p hp).2, hoff p (List.mem_cons_of_mem _ (List.mem_append_left _ hp))⟩) h2 h3 F₁ N₁ O₁.g O₁.t
    · rintro m' news' s' ⟨vs', k, add, rfl, h1, h2, h3⟩ F' N' O'
      have e : cs.take vs.toArray.size = cs := List.take_of_length_le (by simp [hlen])
      rw [e] at h2
      exact fin m' vs' k add s' h2 h1 h3 F' N' O'.g O'.t
  run_tac Mine.sq default
end
end Mine
end
section -- PageX
open PySem PySem.W PySem.Calls PySem.Spec PyProof.Rows
open PyProof.Rows.LCg
namespace Mine
section
variable {prog : Program} {w : World} {A : Around} {E : Value → Shared → Prop} {s : Shared} {h₀ : Heap} {L : Addr} {m : Str → Option Value} {news rest : List (Addr × Obj)}
theorem extendG {lp b : Addr} {vs ys : Array Value} {k n2 : Nat} {Q : Value → Shared → Prop} (F : Fr h₀ L s.heap m) (N : News h₀ L s.heap ((lp, listOf vs k) :: rest)) (off : ∀ p ∈ rest, p.1 ≠ lp) (hb : (b, listOf ys n2) ∈ rest) (hz : vs.size + ys.size ≤ 1000)
    (h : ∀ h' k', Fr h₀ L h' m → News h₀ L h' ((lp, listOf (vs.toList ++ ys.toList).toArray k') :: rest) → Q .none { s with heap := h' }) : wpAny (model prog w) A (call (.builtin "list.extend") [.ref lp, .ref b]) Q E s := by
  k_with "proof" =>
    have hs : vs.size + ys.size ≤ sizeLine := by rw [sizeLine_eq]; omega
    have hd : ¬(!vs.isEmpty && Builtin.List.listTooLong (vs.size + ys.size)) = true := by
      have : Builtin.List.listTooLong (vs.size + ys.size) = false := by
        unfold Builtin.List.listTooLong
        simp only [decide_eq_false_iff_not]
        omega
      rw [this]; simp
    by_cases e : ys.toList = []
    · have hvs : vs = (vs.toList ++ ys.toList).toArray := by rw [e]; simp
      refine kxn_extend (n := k) (n2 := n2) F N (List.mem_cons_of_mem _ hb) e (news' := (lp, listOf vs k) :: rest) ?_ hd (by rw [Array.length_toList]; omega) (by omega) fun h' F' N' => h h' k F' ?_
      · apply Upd.head
        exact off
      · rw [← hvs]; exact N'
    · refine kl_extend (n := k) (n2 := n2) F N (List.mem_cons_of_mem _ hb) rfl (by simpa using e) (news' := (lp, listOf (vs.toList ++ ys.toList).toArray (k + 1)) :: rest) ?_ hd (by rw [Array.length_toList]; omega) (by omega) fun h' F' N' => h h' (k + 1) F' N'
      apply Upd.head
      exact off
  run_tac Mine.sq default
end
end Mine
namespace Mine
section
variable {prog : Program} {w : World} {A : Around} {E : Value → Shared → Prop} {s : Shared} {h₀ : Heap} {L : Addr} {m : Str → Option Value}
noncomputable abbrev tupO (vals : Array Value) (n : Nat) : Obj := { cls := .type "tuple", data := .seq vals n }
/-- a comprehension's turn that made a pair -/
noncomputable def SEnd (h₀ : Heap) (L : Addr) (m : Str → Option Value) (s₁ : Shared) (rest : List (Addr × Obj)) (x y : Str) (v : Value) (s₂ : Shared) : Prop :=
  ∃ h' tk T t u n, s₂ = { s₁ with heap := h', toks := tk } ∧ v = .ref T ∧ Fr h₀ L h' m ∧ News h₀ L h' ((T, tupO #[.str x t, .str y u] n) :: rest) ∧ AllLt T rest
theorem codes_lookS (i j : Nat) : codes (lookS i j) = look i j := by
  show (look i j).toArray.toList = _
  simp
theorem CompSrc.signs {env : Env} {elt : Expr} {x : Str} {scope : Scope} {cl : List (Str × Addr)} {Q : Value → Shared → Prop} {nw : List (Addr × Obj)} {v : Value} {l : List Nat} {i j : Nat}
    (hh : A.handled = none) (F : Fr h₀ L s.heap m) (N : News h₀ L s.heap nw) (hw : WordAt nw v l) (hl : l.length ≤ 3)
    (turn : ∀ sg T t0 t1 t2 t3 t4 n I oI C oC D m₂ h tk ys add (E' : Value → Shared → Prop), NsObj oC m₂ → m₂ x = some (.ref T) → Fr h₀ L h m →
      News h₀ L h ((T, tupO #[.str (lookS sg 0) t0, .str (lookS sg 1) t1, .str (lookS sg 2) t2, .str (lookS sg 3) t3, .str (lookS sg 4) t4] n) :: (I, oI) :: (C, oC) :: (D, lst ys) :: (add ++ nw)) →
      wpAny (model prog w) A (eval elt (compEnvC scope cl C env)) (SEnd h₀ L m { s with heap := h, toks := tk } ((I, oI) :: (C, oC) :: (D, lst ys) :: (add ++ nw)) (lookS sg i) (lookS sg j)) E' { s with heap := h, toks := tk })
    (fin : ∀ ys add D h tk, PairAll add ys (signsP i j l) → Abv add nw → (∀ p ∈ add ++ nw, p.1 ≠ D) → Fr h₀ L h m → News h₀ L h ((D, lst ys) :: (add ++ nw)) → Q (.ref D) { s with heap := h, toks := tk }) :
    CompSrc prog w A h₀ L m env elt x scope cl (fun s₂ => FinE h₀ L m s₂ Q) v s := by
  k_with "proof" =>
    obtain ⟨a, ws, n, rfl, hm, hd⟩ := hw
    have hsz : ws.size = l.length := by have := DatAll.length hd; simpa using this
    refine CompSrc.ledger hh F N hm (by rw [hsz, sizeLine_eq]; omega) fun g => ?_
    refine compRest_ind (fun i' ys nws => ∃ add, nws = add ++ nw ∧ Abv add nw ∧ PairAll add ys (signsP i j (l.take i'))) ws.size ?_ ?_ ws.size 0 [] nw (Nat.zero_add _) ⟨[], rfl, fun _ h => (nomatch h), PairAll.nil⟩
    · rintro k ys nws hk ⟨add, rfl, ha, hp⟩ v I oI C oC D m₂ h tk E' hv hC hx F' N' off ne
      obtain ⟨sg, T, t0, t1, t2, t3, t4, n', hsg, rfl, hT⟩ := signAt hd (by simpa using hv : ws.toList[k]? = some v)
      have hT' := N' _ (List.mem_cons_of_mem _ (List.mem_cons_of_mem _ (List.mem_cons_of_mem _ (List.mem_append_right _ hT))))
      have N2 : News h₀ L h ((T, tupO #[.str (lookS sg 0) t0, .str (lookS sg 1) t1, .str (lookS sg 2) t2, .str (lookS sg 3) t3, .str (lookS sg 4) t4] n') :: (I, oI) :: (C, oC) :: (D, lst ys) :: (add ++ nw)) := fun p hp => by
        rcases List.mem_cons.mp hp with rfl | hp
        · exact hT'
        · exact N' p hp
      refine wpAny_mono (turn sg T t0 t1 t2 t3 t4 n' I oI C oC D m₂ h tk ys add E' hC hx F' N2) (fun y s₂ hy => ?_) fun _ _ e => e
      obtain ⟨h', tk', T2, t, u, nn, rfl, rfl, F3, N3, l3⟩ := hy
      have l4 : AllLt T2 (add ++ nw) := l3.2.2.2
      have ltI : I < T2 := l3.1
      have ltC : C < T2 := l3.2.1
      have ltD : D < T2 := l3.2.2.1
      refine ⟨h', tk', (T2, tupO #[.str (lookS sg i) t, .str (lookS sg j) u] nn) :: (add ++ nw), rfl, F3, fun p hp => N3 p (by simp only [List.mem_cons] at hp ⊢; rcases hp with e | e | e | e | e <;> simp [e]),
        ⟨⟨Nat.ne_of_gt ltI, Nat.ne_of_gt ltC, Nat.ne_of_gt ltD⟩, off⟩, .inr ⟨_, List.mem_cons_of_mem _ (List.mem_append_right _ hm), rfl, _, rfl⟩, (T2, _) :: add, rfl, fun p hp => ?_, ?_⟩
      · rcases List.mem_cons.mp hp with rfl | hp
        · exact allLt_of fun q hq => allLt_all l4 q (List.mem_append_right _ hq)
        · exact ha p hp
      · have hkl : k < l.length := by rw [← hsz]; exact hk
        have e : l.take (k + 1) = l.take k ++ [sg] := by rw [List.take_add_one, hsg]; rfl
        rw [e]
        have e2 : signsP i j (l.take k ++ [sg]) = signsP i j (l.take k) ++ [(look sg i, look sg j)] := by simp [signsP]
        rw [e2]
        refine PairAll.append (PairAll.mono (fun p hp => List.mem_cons_of_mem _ hp) hp) (PairAll.one (List.mem_cons_self ..) ?_)
        rw [codes_lookS, codes_lookS]
    · rintro ys nws ⟨add, rfl, ha, hp⟩
      intro D h tk F' N' o1
      have e : l.take ws.size = l := List.take_of_length_le (by omega)
      rw [e] at hp
      refine fin ys add D h tk hp ha (fun p hp => ?_) F' N'
      have go : ∀ {l : List (Addr × Obj)}, Off1 D l → ∀ p ∈ l, p.1 ≠ D := by
        intro l
        induction l with
        | nil => intro _ p hp; cases hp
        | cons q r ih =>
          intro h p hp
          rcases List.mem_cons.mp hp with rfl | hp
          · exact h.1
          · exact ih h.2 p hp
      exact go o1 p hp
  run_tac Mine.sq default
noncomputable def partP (x y : Str) (l : List Nat) : PP := [(codes x, codes y), pq] ++ signsP 1 2 l ++ [pq]
/-- the page while a start's two values are told -/
noncomputable def WJ (lp I : Addr) (ysW : List Str) (pre news : List (Addr × Obj)) (m₀ : Str → Option Value) (base : PP) (m' : Str → Option Value) (n' : List (Addr × Obj)) : Prop :=
  ∃ vs k add, n' = (lp, listOf vs k) :: (pre ++ (add ++ news)) ∧ (∀ p ∈ add, p.1 ≠ lp ∧ AllLt p.1 news ∧ p.1 ≠ I) ∧ PairAll add vs.toList base ∧ ∀ y, y ∉ ysW → m' y = m₀ y
noncomputable def ysW : List Str := [Str.ofString "head", Str.ofString "small", Str.ofString "value"]
theorem MFor.words {G : Shared → Prop} {env : Env} {target : Expr} {body : List Stmt} {Q : Flow → Shared → Prop} (hG : Shut G) {lit lp I T1 T2 : Addr} {n k0 n1 n2 : Nat} {vs0 : Array Value} {news add0 pre : List (Addr × Obj)} {m₀ : Str → Option Value} {base : PP} {x1 y1 x2 y2 : Str} {a1 b1 a2 b2 : Tok} {v1 v2 : Value} {l1 l2 : List Nat}
    (hh : A.handled = none) (F : Fr h₀ env.locals s.heap m₀) (N : News h₀ env.locals s.heap ((lp, listOf vs0 k0) :: (pre ++ (add0 ++ news)))) (hg : G s) (ht : 0 < s.toks)
    (hlit : (lit, listOf #[.ref T1, .ref T2] n) ∈ pre) (hT1 : (T1, tupO #[.str x1 a1, .str y1 b1, v1] n1) ∈ pre) (hT2 : (T2, tupO #[.str x2 a2, .str y2 b2, v2] n2) ∈ pre)
    (w1 : WordAt news v1 l1) (w2 : WordAt news v2 l2) (ok1 : okW l1) (ok2 : okW l2) (hadd : ∀ p ∈ add0, p.1 ≠ lp ∧ AllLt p.1 news ∧ p.1 ≠ I) (h0 : PairAll add0 vs0.toList base) (hb : base.length ≤ 160)
    (turn : ∀ I', AllLt I' ((lp, listOf vs0 k0) :: pre) → ∀ T x tx y ty v l base' oI' m₁ vs k add s₁, (IsTup s₁.heap T #[.str x tx, .str y ty, v]) → WordAt news v l → l.length ≤ 3 → PairAll add vs.toList base' → vs.size ≤ 170 → (∀ p ∈ add, p.1 ≠ lp ∧ AllLt p.1 news ∧ p.1 ≠ I ∧ p.1 ≠ I') →
      (∀ p ∈ news, p.1 ≠ I') → (∀ y, y ∉ ysW → m₁ y = m₀ y) → Fr h₀ env.locals s₁.heap m₁ → News h₀ env.locals s₁.heap ((I', oI') :: (lp, listOf vs k) :: (pre ++ (add ++ news))) → G s₁ → 0 < s₁.toks →
        wpAny (model prog w) A (assign target env (.ref T)) (fun _ s₂ => wpAny (model prog w) A (execs body env) (TEnd h₀ env.locals G I' oI' (WJ lp I ysW pre news m₀ (base' ++ partP x y l)) Q) (fun _ _ => False) s₂) (fun _ _ => False) s₁)
    (fin : ∀ m' vs k add s', PairAll add vs.toList (base ++ partP x1 y1 l1 ++ partP x2 y2 l2) → (∀ p ∈ add, p.1 ≠ lp ∧ AllLt p.1 news ∧ p.1 ≠ I) → (∀ y, y ∉ ysW → m' y = m₀ y) → Fr h₀ env.locals s'.heap m' → News h₀ env.locals s'.heap ((lp, listOf vs k) :: (pre ++ (add ++ news))) → G s' → 0 < s'.toks → Q .next s') :
    MFor prog w A E env target body Q (.ref lit) s := by
  k_with "proof" =>
    let bs : Nat → PP := fun i => match i with | 0 => base | 1 => base ++ partP x1 y1 l1 | _ => base ++ partP x1 y1 l1 ++ partP x2 y2 l2
    have lp1 : (partP x1 y1 l1).length ≤ 6 := by have := ok1.1; simp [partP, signsP]; omega
    refine MFor.list (G := G) (ax := lit) (items := #[.ref T1, .ref T2]) hG hh F N ⟨hg, ht⟩ (fun i m' n' => WJ lp I ysW pre news m₀ (bs i) m' n') ?_ ?_ ?_ ?_
    · rintro i m' n' ⟨vs', k, add, rfl, _⟩
      exact .inr ⟨_, List.mem_cons_of_mem _ (List.mem_append_left _ hlit), rfl, n, rfl⟩
    · exact ⟨vs0, k0, add0, rfl, hadd, h0, fun _ _ => rfl⟩
    · rintro I' hI i v oI m₁ news₁ s₁ hi hv ⟨vs', k, add, rfl, h1, h2, h3⟩ hoff F₁ N₁ O₁
      have hI' : AllLt I' ((lp, listOf vs0 k0) :: pre) := allLt_of fun p hp => hI p (by
        rcases List.mem_cons.mp hp with rfl | hp
        · exact List.mem_cons_self ..
        · exact List.mem_cons_of_mem _ (List.mem_append_left _ hp))
      have tup : ∀ T vals nn, (T, tupO vals nn) ∈ pre → IsTup s₁.heap T vals := fun T vals nn hm => ⟨_, (N₁ _ (List.mem_cons_of_mem _ (List.mem_cons_of_mem _ (List.mem_append_left _ hm)))).1, rfl, _, rfl⟩
      have ha : ∀ p ∈ add, p.1 ≠ lp ∧ AllLt p.1 news ∧ p.1 ≠ I ∧ p.1 ≠ I' := fun p hp => ⟨(h1 p hp).1, (h1 p hp).2.1, (h1 p hp).2.2, hoff p (List.mem_cons_of_mem _ (List.mem_append_right _ (List.mem_append_left _ hp)))⟩
      have hn : ∀ p ∈ news, p.1 ≠ I' := fun p hp => hoff p (List.mem_cons_of_mem _ (List.mem_append_right _ (List.mem_append_right _ hp)))
      have hlen : vs'.size = (bs i).length := by have := PairAll.len h2; simpa using this
      match i, hi, hv with
      | 0, _, hv =>
        cases (Option.some.inj hv : Value.ref T1 = v)
        exact turn I' hI' T1 x1 a1 y1 b1 v1 l1 base oI m₁ vs' k add s₁ (tup _ _ _ hT1) w1 ok1.1 h2 (by rw [hlen]; show base.length ≤ _; omega) ha hn h3 F₁ N₁ O₁.g O₁.t
      | 1, _, hv =>
        cases (Option.some.inj hv : Value.ref T2 = v)
        exact turn I' hI' T2 x2 a2 y2 b2 v2 l2 (base ++ partP x1 y1 l1) oI m₁ vs' k add s₁ (tup _ _ _ hT2) w2 ok2.1 h2 (by rw [hlen]; show (base ++ partP x1 y1 l1).length ≤ _; rw [List.length_append]; omega) ha hn h3 F₁ N₁ O₁.g O₁.t
      | i + 2, hi, _ => exact absurd hi (by show ¬ (i + 2 < 2); omega)
    · rintro m' news' s' ⟨vs', k, add, rfl, h1, h2, h3⟩ F' N' O'
      exact fin m' vs' k add s' h2 h1 h3 F' N' O'.g O'.t
  run_tac Mine.sq default
end
end Mine
end
section -- PageE
open PySem PySem.W PySem.Calls PySem.Spec PyProof.Rows
open PyProof.Rows.LCg
namespace Mine
noncomputable def Held (p : Prop) : Prop := p
theorem held {p : Prop} (h : Held p) : p := h
theorem Held.go {p : Prop} (h : p) : Held p := h
theorem in2 {x y : Addr × Obj} {add news : List (Addr × Obj)} : ∀ p ∈ news, p ∈ x :: y :: (add ++ news) := fun p hp => List.mem_cons_of_mem _ (List.mem_cons_of_mem _ (List.mem_append_right _ hp))
theorem in9 {x1 x2 x3 x4 x5 x6 x7 x8 x9 : Addr × Obj} {add news : List (Addr × Obj)} : ∀ p ∈ news, p ∈ x1 :: x2 :: x3 :: x4 :: x5 :: x6 :: x7 :: x8 :: x9 :: (add ++ news) := fun p hp => by
  iterate 9 apply List.mem_cons_of_mem
  exact List.mem_append_right _ hp
/-- an address above a ledger is none of its addresses -/
theorem okOf {d lp I I2 : Addr} {o1 o2 o3 : Obj} {nw news : List (Addr × Obj)} (h : AllLt d nw) (m1 : (lp, o1) ∈ nw) (m2 : (I, o2) ∈ nw) (m3 : (I2, o3) ∈ nw) (sub : ∀ p ∈ news, p ∈ nw) : d ≠ lp ∧ AllLt d news ∧ d ≠ I ∧ d ≠ I2 :=
  ⟨Nat.ne_of_gt (allLt_all h _ m1), allLt_of fun p hp => allLt_all h p (sub p hp), Nat.ne_of_gt (allLt_all h _ m2), Nat.ne_of_gt (allLt_all h _ m3)⟩
theorem SEnd.intro {h₀ h' : Heap} {L T : Addr} {m : Str → Option Value} {s₁ : Shared} {tk n : Nat} {a : Addr × Obj} {rest : List (Addr × Obj)} {x y : Str} {t u : Tok} (F : Fr h₀ L h' m) (N : News h₀ L h' ((T, tupO #[.str x t, .str y u] n) :: a :: rest)) (l : AllLt T rest) : SEnd h₀ L m s₁ rest x y (.ref T) { s₁ with heap := h', toks := tk } :=
  ⟨h', tk, T, t, u, n, rfl, rfl, F, fun p hp => N p (by
    rcases List.mem_cons.mp hp with e | hp
    · rw [e]; exact List.mem_cons_self ..
    · exact List.mem_cons_of_mem _ (List.mem_cons_of_mem _ hp)), l⟩
theorem pre4 {h₀ h : Heap} {L : Addr} {a b c d e : Addr × Obj} {t : List (Addr × Obj)} (N : News h₀ L h (a :: b :: c :: d :: e :: t)) : News h₀ L h (e :: ([a, b, c, d] ++ t)) := fun p hp => N p (by
  simp only [List.mem_cons, List.mem_append, List.not_mem_nil, or_false, or_assoc] at hp ⊢
  rcases hp with e | e | e | e | e | e <;> simp [e])
theorem rot5 {h₀ h : Heap} {L : Addr} {a b c d e : Addr × Obj} {t : List (Addr × Obj)} (N : News h₀ L h (a :: b :: c :: d :: e :: t)) : News h₀ L h (e :: a :: b :: c :: d :: t) := fun p hp => N p (by
  simp only [List.mem_cons] at hp ⊢
  rcases hp with e | e | e | e | e | e <;> simp [e])
theorem reord3 {h₀ h : Heap} {L : Addr} {D lp x1 x2 x3 x4 a b c d : Addr × Obj} {add3 add2 news : List (Addr × Obj)} (N : News h₀ L h (D :: (add3 ++ lp :: x1 :: x2 :: x3 :: x4 :: a :: b :: c :: d :: (add2 ++ news)))) :
    News h₀ L h (lp :: D :: x4 :: a :: b :: c :: d :: ((x2 :: x3 :: (add3 ++ add2)) ++ news)) := fun p hp => N p (by
  simp only [List.mem_cons, List.mem_append, List.cons_append] at hp ⊢
  rcases hp with e | e | e | e | e | e | e | e | e | (e | e) | e <;> simp [e])
theorem reord4 {h₀ h : Heap} {L : Addr} {D lp x4 : Addr × Obj} {t : List (Addr × Obj)} (N : News h₀ L h (lp :: D :: x4 :: t)) : News h₀ L h (x4 :: lp :: t) := fun p hp => N p (by
  simp only [List.mem_cons] at hp ⊢
  rcases hp with e | e | e <;> simp [e])
theorem rot2 {h₀ h : Heap} {L : Addr} {lp a b c d : Addr × Obj} {t : List (Addr × Obj)} (N : News h₀ L h (lp :: ([a, b, c, d] ++ t))) : News h₀ L h (d :: lp :: t) := fun p hp => N p (by
  simp only [List.mem_cons, List.mem_append, List.not_mem_nil, or_false] at hp ⊢
  rcases hp with e | e | e <;> simp [e])
theorem pairTwo {news : List (Addr × Obj)} {T4 T5 : Addr} {x y : Str} {t u v w : Tok} {n n2 : Nat} (h4 : (T4, tupO #[.str x t, .str y u] n) ∈ news) (h5 : (T5, tupO #[.str (Str.ofString "\"") v, .str (Str.ofString "\"") w] n2) ∈ news) : PairAll news [.ref T4, .ref T5] [(codes x, codes y), pq] :=
  PairAll.append (vs := [_]) (vs2 := [_]) (ps := [_]) (ps2 := [_]) (PairAll.one h4 rfl) (PairAll.one h5 (by decide +kernel))
/-- a turn over the calls ends -/
theorem pgEnd {g : Heap} {L I lp : Addr} {G : Shared → Prop} {oI : Obj} {news all add : List (Addr × Obj)} {ws : Array Value} {k i : Nat} {m' m₀ : Str → Option Value} {s₂ : Shared} {cs : List Cl} {c : Cl} {Q : Flow → Shared → Prop} (F : Fr g L s₂.heap m') (N : News g L s₂.heap all)
    (sub : ∀ p ∈ (I, oI) :: (lp, listOf ws k) :: (add ++ news), p ∈ all) (hlp : lp ≠ I) (hI : AllLt I news) (hadd : ∀ p ∈ add, p.1 ≠ lp ∧ AllLt p.1 news ∧ p.1 ≠ I) (hc : cs[i]? = some c) (hp : PairAll add ws.toList (pageB (cs.take i) ++ pageC c)) (hm : ∀ y, y ∉ ysG → m' y = m₀ y) (hg : G s₂) (ht : 0 < s₂.toks) :
    TEnd g L G I oI (PgJ lp news m₀ (pageB (cs.take (i + 1)))) Q .next s₂ := by
  k_with "proof" =>
    refine TEnd.next (news' := (lp, listOf ws k) :: (add ++ news)) F (fun p hp => N p (sub p hp)) (fun p hp => ?_) ⟨ws, k, add, rfl, fun p hp => ⟨(hadd p hp).1, (hadd p hp).2.1⟩, ?_, hm⟩ hg ht
    · rcases List.mem_cons.mp hp with e | hp
      · rw [e]; exact hlp
      · rcases List.mem_append.mp hp with hp | hp
        · exact (hadd p hp).2.2
        · exact Nat.ne_of_lt (allLt_all hI p hp)
    · have e : cs.take (i + 1) = cs.take i ++ [c] := by rw [List.take_add_one, hc]; rfl
      rw [e, pageB_snoc]
      exact hp
  run_tac Mine.sq default
theorem pgEnd1 {g : Heap} {L I lp T : Addr} {G : Shared → Prop} {oI : Obj} {news add : List (Addr × Obj)} {vs' : Array Value} {k i n : Nat} {m' m₀ : Str → Option Value} {s₂ : Shared} {cs : List Cl} {c : Cl} {x y : Str} {t u : Tok} {P : PP} {Q : Flow → Shared → Prop} (F : Fr g L s₂.heap m')
    (N : News g L s₂.heap ((T, tupO #[.str x t, .str y u] n) :: (I, oI) :: (lp, listOf (vs'.push (.ref T)) k) :: (add ++ news))) (l : I < T ∧ lp < T ∧ AllLt T (add ++ news)) (hlp : lp ≠ I) (hI : AllLt I news) (hadd : ∀ p ∈ add, p.1 ≠ lp ∧ AllLt p.1 news ∧ p.1 ≠ I) (hc : cs[i]? = some c)
    (hp : PairAll add vs'.toList (pageB (cs.take i) ++ P)) (e : pageC c = P ++ [(codes x, codes y)]) (hm : ∀ y, y ∉ ysG → m' y = m₀ y) (hg : G s₂) (ht : 0 < s₂.toks) :
    TEnd g L G I oI (PgJ lp news m₀ (pageB (cs.take (i + 1)))) Q .next s₂ := by
  k_with "proof" =>
    refine pgEnd (add := (T, tupO #[.str x t, .str y u] n) :: add) (ws := vs'.push (.ref T)) (k := k) F N (fun p hp => ?_) hlp hI (fun p hp => ?_) hc ?_ hm hg ht
    · simp only [List.mem_cons, List.mem_append, List.cons_append] at hp ⊢
      rcases hp with e | e | e | e | e <;> simp [e]
    · rcases List.mem_cons.mp hp with e | hp
      · rw [e]
        exact ⟨Nat.ne_of_gt l.2.1, allLt_of fun p hp => allLt_all l.2.2 p (List.mem_append_right _ hp), Nat.ne_of_gt l.1⟩
      · exact hadd p hp
    · rw [e, ← List.append_assoc, Array.toList_push]
      exact PairAll.append (PairAll.mono (fun p hp => List.mem_cons_of_mem _ hp) hp) (PairAll.one (List.mem_cons_self ..) rfl)
  run_tac Mine.sq default
/-- a turn over a start's two values ends -/
theorem wEnd {g : Heap} {L I I2 lp T : Addr} {G : Shared → Prop} {oI2 : Obj} {pre news all add : List (Addr × Obj)} {ws : Array Value} {k n : Nat} {m' m₀ : Str → Option Value} {s₂ : Shared} {base : PP} {x y : Str} {l : List Nat} {t u : Tok} {Q : Flow → Shared → Prop} (F : Fr g L s₂.heap m') (N : News g L s₂.heap all)
    (sub : ∀ p ∈ (T, tupO #[.str (Str.ofString "\"") t, .str (Str.ofString "\"") u] n) :: (I2, oI2) :: (lp, listOf (ws.push (.ref T)) k) :: (pre ++ (add ++ news)), p ∈ all) (hlp : lp ≠ I2) (hpre : ∀ p ∈ pre, p.1 ≠ I2) (hnI : ∀ p ∈ news, p.1 ≠ I2) (hT : T ≠ lp ∧ AllLt T news ∧ T ≠ I ∧ T ≠ I2) (hadd : ∀ p ∈ add, p.1 ≠ lp ∧ AllLt p.1 news ∧ p.1 ≠ I ∧ p.1 ≠ I2)
    (hp : PairAll add ws.toList (base ++ [(codes x, codes y), pq] ++ signsP 1 2 l)) (hm : ∀ y, y ∉ ysW → m' y = m₀ y) (hg : G s₂) (ht : 0 < s₂.toks) :
    TEnd g L G I2 oI2 (WJ lp I ysW pre news m₀ (base ++ partP x y l)) Q .next s₂ := by
  k_with "proof" =>
    refine TEnd.next (news' := (lp, listOf (ws.push (.ref T)) k) :: (pre ++ (((T, tupO #[.str (Str.ofString "\"") t, .str (Str.ofString "\"") u] n) :: add) ++ news))) F (fun p hp => N p (sub p ?_)) (fun p hp => ?_) ⟨_, k, _, rfl, fun p hp => ?_, ?_, hm⟩ hg ht
    · simp only [List.mem_cons, List.mem_append, List.cons_append] at hp ⊢
      rcases hp with e | e | e | e | e | e <;> simp [e]
    · simp only [List.mem_cons, List.mem_append, List.cons_append] at hp
      rcases hp with e | e | e | e | e
      · rw [e]; exact hlp
      · exact hpre p e
      · rw [e]; exact hT.2.2.2
      · exact (hadd p e).2.2.2
      · exact hnI p e
    · rcases List.mem_cons.mp hp with e | hp
      · rw [e]; exact ⟨hT.1, hT.2.1, hT.2.2.1⟩
      · exact ⟨(hadd p hp).1, (hadd p hp).2.1, (hadd p hp).2.2.1⟩
    · have e : base ++ partP x y l = (base ++ [(codes x, codes y), pq] ++ signsP 1 2 l) ++ [pq] := by simp [partP]
      rw [e, Array.toList_push]
      exact PairAll.append (PairAll.mono (fun p hp => List.mem_cons_of_mem _ hp) hp) (PairAll.one (List.mem_cons_self ..) (by decide +kernel))
  run_tac Mine.sq default
theorem pageC_start (w o : List Nat) : pageC (.start w o) = partP (Str.ofString "<E K=") (Str.ofString "<e k=") w ++ partP (Str.ofString " a=") (Str.ofString " a=") o ++ [(codes (Str.ofString ">"), codes (Str.ofString ">"))] := by
  k_with "proof" =>
    simp [pageC, partP]
  run_tac Mine.sq default
theorem pageB_len {cs : List Cl} (ok : ∀ c ∈ cs, c.ok) : (pageB cs).length ≤ 1 + 13 * cs.length := by
  k_with "proof" =>
    induction cs with
    | nil => simp [pageB]
    | cons c r ih =>
      have h1 := ih fun x hx => ok x (List.mem_cons_of_mem _ hx)
      have h2 : (pageC c).length ≤ 13 := by
        have := ok c (List.mem_cons_self ..)
        cases c with
        | start w o =>
          have a := this.1.1
          have b := this.2.1
          simp [pageC, signsP]; omega
        | close => simp [pageC]
        | data w =>
          have a := this.1
          simp [pageC, signsP]; omega
      simp only [pageB, List.length_cons, List.flatMap_cons, List.length_append] at h1 ⊢
      omega
  run_tac Mine.sq default
end Mine
end
section -- WDef
open PySem PySem.W PySem.Calls PyProof.Rows
namespace Mine
/-- the writer's addresses -/
structure WA where
  (x dx ld T0 b0 ln ls pm lz bm lw : Nat)
/-- the marks of its names -/
structure WT where
  (t0 t1 t2 t3 t4 t5 t6 t7 t8 t9 t10 t11 t12 t13 t14 t15 t16 tz u1 u2 : Tok)
noncomputable abbrev ent (w : World) (name : String) (t : Tok) (v : Value) : DictEntry := { hash := PyData.keyHash w.params (Str.ofString name), key := .str (Str.ofString name) t, val := v }
noncomputable abbrev wD (w : World) (W : WA) (T : WT) (rs rd : Bool) : List DictEntry :=
  [ent w "_write" T.t0 (.ref W.bm), ent w "_data" T.t1 (.ref W.ld), ent w "_with_comments" T.t2 (.bool false), ent w "_strip_text" T.t3 (.bool false), ent w "_exclude_attrs" T.t4 .none, ent w "_exclude_tags" T.t5 .none, ent w "_rewrite_prefixes" T.t6 (.bool false),
   ent w "_qname_aware_tags" T.t7 .none, ent w "_find_qname_aware_attrs" T.t8 .none, ent w "_declared_ns_stack" T.t9 (.ref W.ln), ent w "_ns_stack" T.t10 (.ref W.ls), ent w "_prefix_map" T.t11 (.ref W.pm), ent w "_preserve_space" T.t12 (.ref W.lz), ent w "_pending_start" T.t13 .none,
   ent w "_root_seen" T.t14 (.bool rs), ent w "_root_done" T.t15 (.bool rd), ent w "_ignored_depth" T.t16 (.int 0 T.tz)]
noncomputable abbrev nsU : Str := Str.ofString "http://www.w3.org/XML/1998/namespace"
noncomputable abbrev wL (w : World) (W : WA) (T : WT) (rs rd : Bool) (n : Nat) (stk data wr nsl pres : Array Value) (k1 k2 k3 k4 k5 : Nat) (tl : List (Addr × Obj)) : List (Addr × Obj) :=
  (W.x, instObj 246 W.dx) :: (W.dx, dictOf (wD w W T rs rd) n) :: (W.ln, listOf stk k1) :: (W.b0, listOf #[.ref W.T0] 0) :: (W.T0, tupO #[.str nsU T.u1, .str (Str.ofString "xml") T.u2] 0) :: (W.ld, listOf data k2) :: (W.lw, listOf wr k3) :: (W.ls, listOf nsl k4) :: (W.lz, listOf pres k5) :: (W.bm, bmO "list.append" (.ref W.lw)) :: tl
noncomputable abbrev WOrd (W : WA) : Prop := W.lw ≠ W.bm ∧ W.lw < W.dx ∧ W.bm < W.dx ∧ W.dx < W.x ∧ W.x < W.ld ∧ W.ld < W.T0 ∧ W.T0 < W.b0 ∧ W.b0 < W.ln ∧ W.ln < W.ls ∧ W.ls < W.lz
/-- the rest of the ledger keeps off the writer's own -/
noncomputable def WOff (W : WA) (tl : List (Addr × Obj)) : Prop := ∀ p ∈ tl, (@Ne Nat p.1 W.x) ∧ (@Ne Nat p.1 W.dx) ∧ (@Ne Nat p.1 W.ln) ∧ (@Ne Nat p.1 W.b0) ∧ (@Ne Nat p.1 W.T0) ∧ (@Ne Nat p.1 W.ld) ∧ (@Ne Nat p.1 W.lw) ∧ (@Ne Nat p.1 W.ls) ∧ (@Ne Nat p.1 W.lz) ∧ (@Ne Nat p.1 W.bm)
end Mine
end
section -- WJoin
open PySem PySem.W PySem.W.X PyProof.Rows
namespace Mine
theorem bm_join {prog : Program} {w : World} {A : Around} {E Q : Value → Shared → Prop} {s : Shared} {bm : Addr} {x : Str} {t : Tok} {v : Value} (hb : s.heap.get? bm = some (bmO "str.join" (.str x t)))
   (h : wpAny (model prog w) A.in1 (Builtin.«str.join» ⟨[.str x t, v], []⟩) (fun fin s' => match fin with | .done f => wants Q E (.ok f) s' | .again c' => c'.quiet = true ∧ codeAny (model prog w) A c' (wants Q E) s') (fun e s' => wants Q E (.error e) s') s) : wpAny (model prog w) A (call (.ref bm) [v]) Q E s := by
  have hT : s.TypeIs (.str x t) "str" := typeIs_str _ _ _
  refine wpAny_call (codeAny_of_tree ?_)
  show wpAny _ A.in1 (callAny (.ref bm) ⟨[v], []⟩) _ _ s
  simp only [callAny]
  refine wpAny_bind (wpAny_load hb ?_)
  show wpAny _ _ (checkBoundCall "str.join" ⟨[.str x t, v], []⟩ >>= fun _ => again (.builtin "str.join" ⟨[.str x t, v], []⟩)) _ _ _
  have e : codeAny (model prog w) A (.builtin "str.join" ⟨[.str x t, v], []⟩) (fun r s' => match r with | .ok (.ret v) => Q v s' | .ok _ => False | .error e => E e s') s := by
    refine codeAny_builtin F.entry_str_join ?_
    rw [Around.under_plainId (F.slot_str_join).plain ⟨[.str x t, v], []⟩]
    exact h
  obtain ⟨hp, g, d, tk, os⟩ := s
  refine wpAny_bind ?_
  unfold checkBoundCall
  repeat (any_goals (first | assumption | exact hT | wp_step))
  refine wpAny_of_eq (a := false) (by rw [isSubtype_type]; kernel_rfl) ?_
  have hv : (Manifest.varargsMethods.contains "str.join" || false) = false := by decide +kernel
  rw [if_neg (by rw [hv]; exact Bool.false_ne_true)]
  repeat (any_goals (first | assumption | exact hT | wp_step))
  exact ⟨plainId_quiet F.slot_str_join.plain _, e⟩
section
variable {w : World} {A : Around} {E : Value → Shared → Prop} {s : Shared} {h₀ : Heap} {L : Addr} {m : Str → Option Value} {news : List (Addr × Obj)}
theorem bm_joined {l : Addr} {vs : Array Value} {k : Nat} {ys : List Str} {Q : Value → Shared → Prop} (X : (K w.params).In h₀) (F : Fr h₀ L s.heap m) (N : News h₀ L s.heap news) (hm : (l, listOf vs k) ∈ news) (hi : StrsAre vs.toList ys) (hok : (ys.map (·.length)).sum ≤ 16777216)
    (h : ∀ t' k, Q (.str (Txt.join (Str.ofString "") ys) t') { s with toks := k }) : wpAny (model PG w) A (call (.ref 194) [.ref l]) Q E s := by
  k_with "proof" =>
    have e := X.keeps F.keep 194 _ (by with_unfolding_all rfl)
    obtain ⟨sp, hv, ht⟩ := strsAre_values hi
    have e2 : vs = (strValues sp).toArray := by rw [← hv]
    subst e2
    subst ht
    have e0 : (Str.ofString "").length = 0 := by decide
    have hok2 : ((sp.map (·.1)).map (·.length)).sum + (sp.map (·.1)).length * (Str.ofString "").length ≤ 16777216 := by rw [e0, Nat.mul_zero, Nat.add_zero]; exact hok
    have hok' := joinOk_of hok2
    unfold JoinOk at hok'
    rw [Bool.not_eq_true'] at hok'
    refine bm_join e ?_
    exact meets_str_join_list _ _ l sp hok' _ w A _ s ⟨⟨_, (N _ hm).1, rfl, _, rfl⟩, post_join sp ⟨joinFit_length hok', h⟩⟩
  run_tac Mine.sq default
end
end Mine
end
section -- Esc1
open PySem PySem.W PyProof.Rows
namespace Mine
theorem wl_Esc1_0 : True := by
  k_with_none
  trivial
section
variable {M : Model} {A : Around} {E : Value → Shared → Prop} {s : Shared} {env : Env}
theorem callAt {x name : Str} {px apos pos : Pos} {y z : Str} {p7 p8 : Pos} {Q : Value → Shared → Prop} (hpos : (apos.endLine == pos.line) = true)
    (h : wpAny M A (eval (.Name x px) env) (fun ov s₁ => wpAny M A (getMethod ov name (do return (← importBound (.Name x px) env).getD true)) (fun fx s₂ => wpAny M A (callWith pos fx.1 fx.2 (backTo pos (starEach [.Constant (.str y) 0 p7, .Constant (.str z) 0 p8] env)) []) Q E s₂) E s₁) E s) :
    wpAny M A (eval (.Call (.Attribute (.Name x px) name apos) [.Constant (.str y) 0 p7, .Constant (.str z) 0 p8] [] pos) env) Q E s := by
  k_with "proof" =>
    have hp : methodCallPos true (.Name x px) env apos pos = pure pos := by unfold methodCallPos; rw [hpos]; rfl
    show wpAny M A (do
        let ov ← eval (.Name x px) env
        standAt apos.atName
        methodCall (.Name x px) name apos pos env ov 2 (backTo pos (starEach [.Constant (.str y) 0 p7, .Constant (.str z) 0 p8] env)) []) Q E s
    refine wpAny_bind (wpAny_mono h (fun ov s₁ h₁ => wpAny_bind (wpAny_standAt ?_)) fun _ _ x => x)
    unfold methodCall
    refine wpAny_bind (m := holding [ov] (getMethod ov name (do return (← importBound (.Name x px) env).getD true))) (wpAny_holding (wpAny_mono h₁ (fun fx s₂ h₂ => ?_) fun _ _ x => x))
    refine wpAny_bind (m := methodCallPos true (.Name x px) env apos pos) ?_
    rw [hp]
    exact wpAny_pure h₂
  run_tac Mine.sq default
end
theorem wl_Esc1_1 : True := by
  k_with "eval Call Attribute" => run_tac Mine.ln "Esc1.1"
  k_with "own Esc1.1" => (k_here; refine callAt (by assumption) ?_)
  trivial
theorem wl_Esc1_2 : True := by
  k_with "execs cons" => run_tac Mine.ln "Esc1.2"
  k_with "own Esc1.2" => (k_here; (with_reducible show wpAny _ _ _ _ _ (Shared.mk _ _ _ (_ + _) _)); refine gen_tok (by omega) ?_; intro _ _)
  trivial
theorem wl_Esc1_3 : True := by
  k_with "execs nil" => run_tac Mine.ln "Esc1.3"
  k_with "own Esc1.3" => (k_here; (with_reducible show wpAny _ _ _ _ _ (Shared.mk _ _ _ (_ + _) _)); refine gen_tok (by omega) ?_; intro _ _)
  trivial
theorem wl_Esc1_4 : True := by
  k_with "call builtin:str.replace" => run_tac Mine.ln "Esc1.4"
  k_with "own Esc1.4" => (k_here; refine' replaceR ?r1 ?r2 ?r3 ?r4 ?r5 ?r6 ?r7 ?r8 ?r9 ?_; (case r1 => (dsimp only; omega)); (case r2 => omega); (case r3 => omega); (case r4 => omega); (case r5 => assumption); (case r6 => assumption); (case r7 => assumption); (case r8 => assumption); (case r9 => assumption); intros)
  trivial
theorem wl_Esc1_5 : True := by
  k_with "eval Name" => run_tac Mine.ln "Esc1.5"
  k_with "own Esc1.5" => (k_here; refine' nameX_L ?F ?v ?_ ?a ?b; (case F => k_asm); (case a => assumption); (case b => assumption); (case v => assumption))
  trivial
theorem wl_Esc1_6 : True := by
  k_with "storeName" => run_tac Mine.ln "Esc1.6"
  k_with "own Esc1.6" => (k_here; refine' storeX_L ?F ?N ?_ ?a ?b; (case F => k_asm); (case N => k_asm); (case a => assumption); (case b => assumption); k_whole; intro h' F' N')
  trivial
theorem ifRep (w : World) {A : Around} {E : Value → Shared → Prop} {s : Shared} {g : Heap} {L a : Addr} {m : Str → Option Value} {news : List (Addr × Obj)} {cn : Str} {cs : Scope} {ccd : Value} {cl : List (Str × Addr)} {c n kz : Nat} {x y z : Str} {t : Tok} {p1 p2 p3 p4 p5 p6 p7 p8 p9 p10 p11 : Pos} {Q : Flow → Shared → Prop}
    (X : (K w.params).In g) (F : Fr g L s.heap m) (N : News g L s.heap news) (hm : m (Str.ofString "text") = some (.str x t)) (hk : cs.kind = .function) (hl : (envX cn cs L a ccd cl).kindOf (Str.ofString "text") = some .local)
    (hy : y = ⟨#[c]⟩) (hyz : (y == z) = false) (hx : x.length ≤ n) (hz : z.length ≤ kz) (hb : n + (n + 1) * kz ≤ 16777216) (hs : 0 < s.toks) (hpos : (p6.endLine == p9.line) = true)
    (h : ∀ x' t' s', Fr g L s'.heap (fun k => if k = Str.ofString "text" then some (.str x' t') else m k) → News g L s'.heap news → Same s s' → 0 < s'.toks → x'.length ≤ n + n * kz → x'.cps.toList = rep c z.cps.toList x.cps.toList → Q .next s') :
    wpAny (model PySem.Challenge.rw_if0034_01.row.prog w) A (exec (.If (.Compare (.Constant (.str y) 0 p1) [.In] [.Name (Str.ofString "text") p2] p3)
      [.Assign [.Name (Str.ofString "text") p4] (.Call (.Attribute (.Name (Str.ofString "text") p5) (Str.ofString "replace") p6) [.Constant (.str y) 0 p7, .Constant (.str z) 0 p8] [] p9) p10] [] p11) (envX cn cs L a ccd cl)) Q E s := by
  k_with "proof" =>
    k_steps
    · refine h x t _ ?_ N ⟨rfl, rfl, rfl⟩ (by assumption) (by omega) (rep_free _ _ _ (rep_notin hy (by assumption))).symm
      have e : (fun k => if k = Str.ofString "text" then some (Value.str x t) else m k) = m := by
        funext k
        split
        · rename_i hk'; rw [hk', hm]
        · rfl
      rw [e]; exact F
    · exact h _ _ _ (by assumption) (by assumption) ⟨rfl, rfl, rfl⟩ (by assumption) (by assumption) (by assumption)
  run_tac Mine.sq default
theorem bare_of {a b : Array GenState} (e : a = b) (h : AllBare b) : AllBare a := e ▸ h
theorem rep_congr {c c' : Nat} {z z' l l' : List Nat} (h1 : c = c') (h2 : z = z') (h3 : l = l') : rep c z l = rep c' z' l' := by rw [h1, h2, h3]
noncomputable def escC (l : List Nat) : List Nat := rep 13 [38, 35, 120, 68, 59] (rep 62 [38, 103, 116, 59] (rep 60 [38, 108, 116, 59] (rep 38 [38, 97, 109, 112, 59] l)))
theorem wl_Esc1_7 : True := by
  k_with "exec If" => run_tac Mine.ln "Esc1.7"
  k_with "own Esc1.7" => (k_here; k_dflt (refine' ifRep (kz := 6) _ ?irX ?irF ?irN ?irm ?irk ?irl ?iry ?iryz ?irx ?irz ?irb ?irs ?irp ?_; (case irX => k_asm); (case irF => k_asm); (case irN => k_asm); (case irm => rfl); (case irk => rfl); (case irl => rfl); (case iry => rfl); (case iryz => decide); (case irx => assumption); (case irz => decide); (case irb => decide); (case irs => first | assumption | (dsimp only; omega)); (case irp => rfl); intro _ _ _ _ _ ⟨_, _, _⟩ _ _ _))
  trivial
theorem esc_cdata (w : World) (mean : ExcName → Option Value) (mg mb : Str → Option Value) (news : List (Addr × Obj)) (x : Str) (t : Tok) (hx : x.length ≤ 64) :
    Ct w mean mg mb 257 1 8 news [.str x t] (fun v news' => news' = news ∧ ∃ y t', v = .str y t' ∧ y.cps.toList = escC x.cps.toList) := by
  k_with "proof" =>
    dsimp only [Ct, CtR, CtRet, PG, VW, LO]
    k_fill
    intros; rename_i hret
    refine wpAny_call ?_
    (k_dflt cell_enter)

    k_steps
    refine hret _ _ _ (by assumption) (by assumption) ⟨?_, ?_, ?_⟩ (by assumption) ⟨rfl, _, _, rfl, ?_⟩
    · repeat (first | rfl | refine Eq.trans (by assumption) ?_)
    · repeat (first | rfl | refine Eq.trans (by assumption) ?_)
    · repeat (first | rfl | refine Eq.trans (by assumption) ?_)
    · refine Eq.trans (by assumption) (rep_congr (by decide) (by decide +kernel) ?_)
      refine Eq.trans (by assumption) (rep_congr (by decide) (by decide +kernel) ?_)
      refine Eq.trans (by assumption) (rep_congr (by decide) (by decide +kernel) ?_)
      refine Eq.trans (by assumption) (rep_congr (by decide) (by decide +kernel) rfl)
  run_tac Mine.sq default
noncomputable def escA (l : List Nat) : List Nat := rep 13 [38, 35, 120, 68, 59] (rep 10 [38, 35, 120, 65, 59] (rep 9 [38, 35, 120, 57, 59] (rep 34 [38, 113, 117, 111, 116, 59] (rep 60 [38, 108, 116, 59] (rep 38 [38, 97, 109, 112, 59] l)))))
theorem esc_attrib (w : World) (mean : ExcName → Option Value) (mg mb : Str → Option Value) (news : List (Addr × Obj)) (x : Str) (t : Tok) (hx : x.length ≤ 16) :
    Ct w mean mg mb 264 1 8 news [.str x t] (fun v news' => news' = news ∧ ∃ y t', v = .str y t' ∧ y.cps.toList = escA x.cps.toList) := by
  k_with "proof" =>
    dsimp only [Ct, CtR, CtRet, PG, VW, LO]
    k_fill
    intros; rename_i hret
    refine wpAny_call ?_
    (k_dflt cell_enter)
    k_steps
    refine hret _ _ _ (by assumption) (by assumption) ⟨?_, ?_, ?_⟩ (by assumption) ⟨rfl, _, _, rfl, ?_⟩
    · repeat (first | rfl | refine Eq.trans (by assumption) ?_)
    · repeat (first | rfl | refine Eq.trans (by assumption) ?_)
    · repeat (first | rfl | refine Eq.trans (by assumption) ?_)
    · refine Eq.trans (by assumption) (rep_congr (by decide) (by decide +kernel) ?_)
      refine Eq.trans (by assumption) (rep_congr (by decide) (by decide +kernel) ?_)
      refine Eq.trans (by assumption) (rep_congr (by decide) (by decide +kernel) ?_)
      refine Eq.trans (by assumption) (rep_congr (by decide) (by decide +kernel) ?_)
      refine Eq.trans (by assumption) (rep_congr (by decide) (by decide +kernel) ?_)
      refine Eq.trans (by assumption) (rep_congr (by decide) (by decide +kernel) rfl)
  run_tac Mine.sq default
end Mine
end
theorem Mine.wl_Esc1_end : True := by
  k_with_none
  trivial
section -- WFl
open PySem PySem.W PySem.Calls PyProof.Rows
namespace Mine
theorem wl_WFl_0 : True := by
  k_with_none
  trivial
theorem callWith_B {M : Model} {A : Around} {E : Value → Shared → Prop} {s : Shared} {env : Env} {pos : Pos} {first : List Value} {Q : Value → Shared → Prop} {q : Addr} {fb : String} {v : Value} {e : PySem.Expr} {rest : List PySem.Expr}
    (h : wpAny M A (spliced (backTo pos (starEach (e :: rest) env))) (fun vs s₁ => s₁.heap.get? q = some (bmO fb v) ∧ wpAny M A (call (.ref q) (first ++ vs)) Q E s₁) E s)
    (he : starEach (e :: rest) env = (false, eval e env) :: starEach rest env := by rfl) (hplain : (backTo pos (starEach rest env)).any (·.1) = false := by rfl) :
    wpAny M A (callWith pos (.ref q) first (backTo pos (starEach (e :: rest) env)) []) Q E s := by
  k_with "proof" =>
    rw [he] at h ⊢
    exact callWith_of (P := fun h => h.get? q = some (bmO fb v)) (by show ((false || (backTo pos (starEach rest env)).any (·.1)) || false) = false; rw [hplain]; rfl) (fun h e => ⟨.machine, .inr (.inl rfl), (Looks.ld (part := none) e).andThen .now⟩) (evalArgs_plain h)
  run_tac Mine.sq default
theorem callWith_W {M : Model} {A : Around} {E : Value → Shared → Prop} {s : Shared} {env : Env} {pos : Pos} {first : List Value} {Q : Value → Shared → Prop} {W : WA} {e : PySem.Expr} {rest : List PySem.Expr}
    (h : wpAny M A (spliced (backTo pos (starEach (e :: rest) env))) (fun vs s₁ => s₁.heap.get? W.bm = some (bmO "list.append" (.ref W.lw)) ∧ wpAny M A (call (.ref W.bm) (first ++ vs)) Q E s₁) E s)
    (he : starEach (e :: rest) env = (false, eval e env) :: starEach rest env := by rfl) (hplain : (backTo pos (starEach rest env)).any (·.1) = false := by rfl) :
    wpAny M A (callWith pos (.ref W.bm) first (backTo pos (starEach (e :: rest) env)) []) Q E s := callWith_B h he hplain
theorem wlt2 {a b : Nat} (h : a + 2 < b) : a + 1 + 1 < b := h
theorem wunits {dp un : Nat} {gd : Option (List Code)} {cn : Str} {cs : Scope} {L a : Addr} {ccd : Value} {cl : List (Str × Addr)} {outer : List Env} {x y : Nat} (hu : un + 40 < cLine) (h : x + y ≤ 40) : (ktrTop dp un gd cn cs L a ccd cl outer).units + x + y < cLine := by
  show un + x + y < cLine
  omega
theorem at194 {w : World} {h₀ h : Heap} {L : Addr} {m : Str → Option Value} (X : (K w.params).In h₀) (F : Fr h₀ L h m) : ∃ t, h.get? 194 = some (bmO "str.join" (.str (Str.ofString "") t)) := ⟨_, X.keeps F.keep 194 _ (by with_unfolding_all rfl)⟩
theorem wl_WFl_1 : True := by
  k_with "execs cons" => run_tac Mine.ln "WFl.1"
  k_with "own WFl.1" => (k_here; (with_reducible show wpAny _ _ _ _ _ (Shared.mk _ _ _ (_ + _) _)); refine gen_tok (by omega) ?_; intro _ _)
  trivial
theorem wl_WFl_2 : True := by
  k_with "execs nil" => run_tac Mine.ln "WFl.2"
  k_with "own WFl.2" => (k_here; (with_reducible show wpAny _ _ _ _ _ (Shared.mk _ _ _ (_ + _) _)); refine gen_tok (by omega) ?_; intro _ _)
  trivial
theorem wl_WFl_3 : True := by
  k_with "exec Expr" => run_tac Mine.ln "WFl.3"
  k_with "own WFl.3" => (k_here; (fail_if_success (with_reducible show wpAny _ _ _ (fun _ s' => 0 < Shared.toks s' → _) _ _)); refine' pos_toks ?pxh ?_; (case pxh => first | assumption | (dsimp only; omega)))
  trivial
theorem wl_WFl_4 : True := by
  k_with "call builtin:list.append" => run_tac Mine.ln "WFl.4"
  k_with "own WFl.4" => (k_here; (with_reducible show wpAny _ _ (call (Value.builtin _) [Value.ref _, _]) _ _ _); k_dflt (refine' append_K ?apF ?apN ?apU ?_ ?apz; (case apF => k_asm); (case apN => k_asm); (case apU => (iterate 12 (first | done | (apply Upd.head; (repeat (refine List.forall_mem_cons.mpr ⟨by dsimp only; k_ne, ?_⟩)); assumption) | (apply Upd.tail; · k_ne)))); (case apz => assumption); k_whole); intro h' F' N')
  trivial
theorem data_c (w : World) (mean : ExcName → Option Value) (mg mb : Str → Option Value) (tl : List (Addr × Obj)) (W : WA) (T : WT) (rs rd : Bool) (n : Nat) (stk data wr nsl pres : Array Value) (k1 k2 k3 k4 k5 : Nat) (hW : WOrd W) (hO : WOff W tl) (hd : data.size ≤ 100) (v : Value) :
    Ct w mean mg mb 193 2 40 (wL w W T rs rd n stk data wr nsl pres k1 k2 k3 k4 k5 tl) [.ref W.x, v] (fun _ news' => news' = wL w W T rs rd n stk (data.push v) wr nsl pres k1 (k2 + 1) k3 k4 k5 tl) := by
  k_with "proof" =>
    have o_ld : ∀ p ∈ tl, p.1 ≠ W.ld := fun p hp => (hO p hp).2.2.2.2.2.1
    have hsz : data.size ≤ sizeLine := by rw [sizeLine_eq]; omega
    dsimp only [Ct, CtR, CtRet, PG, VW, LO, wL, wD]
    k_fill
    intros; rename_i hret
    refine pos_toks (by assumption) (wpAny_call ?_)
    (k_dflt cell_enter)
    k_steps
    refine' hret _ _ _ ?rF ?rN ⟨rfl, rfl, rfl⟩ ?rt rfl
    case rF => assumption
    case rN => assumption
    case rt => first | assumption | (dsimp only; omega)
  run_tac Mine.sq default
end Mine
end
theorem Mine.wl_WFl_end : True := by
  k_with_none
  trivial
section -- WDel
open PySem PySem.W PySem.W.X PyProof.Rows
namespace Mine
theorem filt_none {α β : Type} (g : α × Nat → Option β) : ∀ (l : List α) (k : Nat), (∀ a i, k ≤ i → i < k + l.length → g (a, i) = none) → (l.zipIdx k).filterMap g = []
  | [], _, _ => rfl
  | a :: r, k, h => by
    rw [List.zipIdx_cons, List.filterMap_cons]
    have h0 : g (a, k) = none := h a k (Nat.le_refl _) (by simp)
    rw [h0]
    exact filt_none g r (k + 1) fun b i h1 h2 => h b i (by omega) (by simp only [List.length_cons]; omega)
section
variable {prog : Program} {w : World} {A : Around} {E : Value → Shared → Prop}
theorem letGo_any {Q : Unit → Shared → Prop} {keep : List Value} : ∀ (l : List Value) (s : Shared), Q () s → wpAny (model prog w) A (letGo l keep) Q E s
  | [], _, h => wpAny_pure h
  | _ :: r, s, h => wpAny_bind (wpAny_holding (wpAny_point (letGo_any r s h)))
theorem del_fin {D : Addr} {its : Array Value} {n : Nat} {F : Array Value → Array Value} {G : List Value} {hp : Heap} {g : Array GenState} {d : Drawn} {tk : Nat} {os : OsState} {Q : Unit → Shared → Prop} (hF : F its = #[]) (hq : Q () ⟨hp.update D (Obj.mapSeq F), g, d, tk, os⟩) :
    wpAny (model prog w) A (match (Obj.mapSeq F ({ cls := .type "list", data := .seq its n } : Obj)).data.pastItsLine with | some what => unsupported what | _ => pure ()) (fun _ s' => wpAny (model prog w) A (letGo G >>= fun _ => ret .none) (fun fin s' => ∃ v, fin = .done (.ret v) ∧ Q () s') E s') E ⟨hp.update D (Obj.mapSeq F), g, d, tk, os⟩ := by
  k_with "proof" =>
    have e : (Obj.mapSeq F ({ cls := .type "list", data := .seq its n } : Obj)).data.pastItsLine = none := by
      show (Data.seq (F its) _).pastItsLine = none
      rw [hF]
      rfl
    rw [e]
    exact wpAny_pure (wpAny_bind (letGo_any _ _ (wpAny_pure ⟨_, rfl, hq⟩)))
  run_tac Mine.sq default
theorem del_all {s : Shared} {D sl : Addr} {its : Array Value} {n : Nat} {Q : Unit → Shared → Prop} (ho : s.heap.get? D = some { cls := .type "list", data := .seq its n }) (hs : s.heap.get? sl = some { cls := .type "slice", data := .fields #[.none, .none, .none] })
    (hq : ∀ f : Array Value → Array Value, f its = #[] → Q () { s with heap := s.heap.update D (Obj.mapSeq f) }) : wpAny (model prog w) A (delItem (.ref D) (.ref sl)) Q E s := by
  k_with "proof" =>
    have hT : s.TypeIs (.ref D) "list" := ⟨_, ho, rfl⟩
    have hS : s.TypeIs (.ref sl) "slice" := ⟨_, hs, rfl⟩
    have f1 : typeLookup (.type "slice") (Str.ofString "__index__") = pure none := by rw [typeLookup_type, builtinLookup_eq_fast]; kernel_rfl
    have f3 := PySem.F.slot_list_delitem.lookup
    have f4 := PySem.F.slot_list_delitem.bind (.ref D)
    unfold delItem
    obtain ⟨hp, g, d, tk, os⟩ := s
    refine wpAny_holding ?_
    have key : wpAny (model prog w) A.in1 (Builtin.«list.__delitem__» ⟨[.ref D, .ref sl], []⟩) (fun fin s' => ∃ v, fin = .done (.ret v) ∧ Q () s') E ⟨hp, g, d, tk, os⟩ := by
      unfold Builtin.«list.__delitem__»
      repeat (any_goals (first | assumption | exact hT | exact hS | wp_step))
      dsimp only
      refine del_fin ?hF (hq _ ?hF)
      refine congrArg List.toArray (filt_none _ its.toList 0 fun a i h1 h2 => ?_)
      have hi : i < its.size := by simpa using h2
      show (if _ = true then none else some a) = none
      k_delta "selects"
      simp
      omega
    repeat (any_goals (first | assumption | exact hT | exact hS | ((with_reducible show wpAny _ _ (call (Value.builtin "list.__delitem__") _ _) _ _ _); refine wpAny_call_entry PySem.F.slot_list_delitem hT PySem.F.entry_list_delitem (wpAny_mono key (fun fin s' hf => ?_) fun _ _ e => e) (PySem.F.args_list_delitem_2 _ _)) | wp_step))
    obtain ⟨v, rfl, hq'⟩ := hf
    exact ⟨v, rfl, wpAny_pure (wpAny_pure hq')⟩
  run_tac Mine.sq default
theorem del_news {s : Shared} {h₀ : Heap} {L D : Addr} {m : Str → Option Value} {news : List (Addr × Obj)} {its : Array Value} {n : Nat} {g : Obj → List (Addr × Obj)} {Q : Unit → Shared → Prop} (F : Fr h₀ L s.heap m) (N : News h₀ L s.heap news) (U : UpdF D (listOf its n) news g)
    (h : ∀ h' n', Fr h₀ L h' m → News h₀ L h' (g (listOf #[] n')) → Q () { s with heap := h' }) :
    wpAny (model prog w) A (delItem (.ref D) (.ref s.heap.objs.size)) Q E { s with heap := s.heap.push { cls := .type "slice", data := .fields #[.none, .none, .none] } } := by
  k_with "proof" =>
    obtain ⟨pre, post, rfl, hg, a, b⟩ := U.split
    have up : ∀ b o, s.heap.get? b = some o → (s.heap.push { cls := .type "slice", data := .fields #[.none, .none, .none] }).get? b = some o := fun b o e => Heap.get?_push_of_some _ e
    have F1 := F.keeps up
    have N1 : News h₀ L _ (pre ++ (D, listOf its n) :: post) := N.grown up
    have z := N1 (D, listOf its n) (List.mem_append.mpr (.inr (.head _)))
    refine del_all z.1 (Heap.get?_push_size _ rfl) fun f hf => ?_
    have F2 := F1.change (Heap.SameBut.update (a := D) (f := Obj.mapSeq f) ..) z.2.1 z.2.2
    by_cases e : its.size = 0
    · refine h _ n F2 (hg _ ▸ kl_turn0 f N1 a b hf (by rw [e]; rfl))
    · refine h _ (n + 1) F2 (hg _ ▸ kl_turn f N1 a b hf (fun q => e (by rw [← q]; rfl)))
  run_tac Mine.sq default
end
end Mine
end
section -- WFlB
open PySem PySem.W PySem.Calls PyProof.Rows
namespace Mine
theorem wl_WFlB_0 : True := by
  k_with_none
  trivial
theorem wl_WFlB_1 : True := by
  k_with "execs cons" => run_tac Mine.ln "WFlB.1"
  k_with "own WFlB.1" => (k_here; (with_reducible show wpAny _ _ _ _ _ (Shared.mk _ _ _ (_ + _) _)); refine gen_tok (by omega) ?_; intro _ _)
  trivial
theorem wl_WFlB_2 : True := by
  k_with "execs nil" => run_tac Mine.ln "WFlB.2"
  k_with "own WFlB.2" => (k_here; (with_reducible show wpAny _ _ _ _ _ (Shared.mk _ _ _ (_ + _) _)); refine gen_tok (by omega) ?_; intro _ _)
  trivial
theorem wl_WFlB_3 : True := by
  k_with "exec Expr" => run_tac Mine.ln "WFlB.3"
  k_with "own WFlB.3" => (k_here; (fail_if_success (with_reducible show wpAny _ _ _ (fun _ s' => 0 < Shared.toks s' → _) _ _)); refine' pos_toks ?pxh ?_; (case pxh => first | assumption | (dsimp only; omega)))
  trivial
theorem wl_WFlB_4 : True := by
  k_with "exec Assign" => run_tac Mine.ln "WFlB.4"
  k_with "own WFlB.4" => (k_here; (fail_if_success (with_reducible show wpAny _ _ _ (fun _ s' => 0 < Shared.toks s' → _) _ _)); refine' pos_toks ?pxh ?_; (case pxh => first | assumption | (dsimp only; omega)))
  trivial
theorem wl_WFlB_5 : True := by
  k_with "exec Delete" => run_tac Mine.ln "WFlB.5"
  k_with "own WFlB.5" => (k_here; (fail_if_success (with_reducible show wpAny _ _ _ (fun _ s' => 0 < Shared.toks s' → _) _ _)); refine' pos_toks ?pxh ?_; (case pxh => first | assumption | (dsimp only; omega)))
  trivial
theorem wl_WFlB_6 : True := by
  k_with "call ref" => run_tac Mine.ln "WFlB.6"
  k_with "own WFlB.6" => (k_here; (with_reducible show wpAny _ _ (call (Value.ref 194) _) _ _ _); k_dflt (refine' bm_joined ?bjX ?bjF ?bjN ?bjm ?bji ?bjs ?_; (case bjX => k_asm); (case bjF => k_asm); (case bjN => k_asm); (case bjm => k_mem); (case bji => assumption); (case bjs => assumption)); intro _ _)
  trivial
theorem wl_WFlB_7 : True := by
  k_with "callWith ref" => run_tac Mine.ln "WFlB.7"
  k_with "own WFlB.7" => (k_here; (with_reducible show wpAny _ _ (callWith _ (Value.ref 194) _ _ _) _ _ _); k_dflt (refine callWith_B (fb := "str.join") (v := .str (Str.ofString "") 2514) ?_))
  trivial
theorem wl_WFlB_8 : True := by
  k_with "callWith ref" => run_tac Mine.ln "WFlB.8"
  k_with "own WFlB.8" => (k_here; (with_reducible show wpAny _ _ (callWith _ (Value.ref (WA.bm _)) _ _ _) _ _ _); k_dflt (refine callWith_W ?_))
  trivial
theorem wl_WFlB_9 : True := by
  k_with "And" => run_tac Mine.ln "WFlB.9"
  k_with "own WFlB.9" => ((with_reducible show _ = some (bmO _ _) ∧ _); k_dflt (first | refine ⟨Frag.In.keeps (by k_asm) (Fr.keep (by k_asm)) 194 _ (by with_unfolding_all rfl), ?_⟩ | (refine ⟨(News.get (by k_asm) (by k_mem)), ?_⟩)))
  trivial
theorem wl_WFlB_10 : True := by
  k_with "delItem" => run_tac Mine.ln "WFlB.10"
  k_with "own WFlB.10" => (k_here; (with_reducible show wpAny _ _ (delItem (Value.ref _) (Value.ref _)) _ _ _); (with_reducible rename Fr _ _ _ _ => F'); (with_reducible rename News _ _ _ _ => N'); k_dflt (refine' del_news (s := ⟨_, _, _, _, _⟩) F' N' ?dU ?_; (case dU => (iterate 12 (first | done | (apply UpdF.head; (repeat (refine List.forall_mem_cons.mpr ⟨by dsimp only; k_ne, ?_⟩)); assumption) | (apply UpdF.tail; · k_ne))))); intro _ _ _ _; (try dsimp only))
  trivial
theorem join_codes : ∀ ys : List Str, codes (Txt.join (Str.ofString "") ys) = ys.flatMap codes := by
  k_with "proof" =>
    intro ys
    have e : Txt.join (Str.ofString "") ys = Str.join (Str.ofString "") ys := StrLaws.glued_eq_join _ _
    rw [e]
    induction ys with
    | nil => rfl
    | cons p r ih =>
      cases r with
      | nil => show codes p = codes p ++ []; simp
      | cons q r =>
        show codes (p ++ Str.ofString "" ++ Str.join (Str.ofString "") (q :: r)) = _
        rw [codes_app, codes_app, ih (StrLaws.glued_eq_join _ _)]
        have e0 : codes (Str.ofString "") = [] := by decide +kernel
        rw [e0]; simp
  run_tac Mine.sq default
theorem join_len (ys : List Str) : (Txt.join (Str.ofString "") ys).length = (ys.map (·.length)).sum := by
  rw [← codes_len, join_codes, List.length_flatMap]
  exact congrArg List.sum (List.map_congr_left fun x _ => codes_len x)
theorem truthyJ {prog : Program} {w : World} {A : Around} {E : Value → Shared → Prop} {s : Shared} {ys : List Str} {t : Tok} {Q : Bool → Shared → Prop} (hl : (ys.map (·.length)).sum ≤ 64) (h1 : ∀ k, ys.flatMap codes = [] → Q false { s with toks := k }) (h2 : ∀ k, ys.flatMap codes ≠ [] → Q true { s with toks := k }) :
    wpAny (model prog w) A (truthy (.str (Txt.join (Str.ofString "") ys) t)) Q E s := by
  k_with "proof" =>
    have e : (Txt.join (Str.ofString "") ys).length = (ys.flatMap codes).length := by rw [← codes_len, join_codes]
    have l := join_len ys
    refine P.truthy_str (by omega) ?_
    rw [e]
    cases hf : ys.flatMap codes with
    | nil => exact h1 _ hf
    | cons a r =>
      have hne : ((((a :: r).length : Nat) : Int) != 0) = true := by simp; omega
      rw [hne]
      exact h2 _ (by rw [hf]; simp)
  run_tac Mine.sq default
theorem wl_WFlB_11 : True := by
  k_with "truthy str" => run_tac Mine.ln "WFlB.11"
  k_with "own WFlB.11" => (k_here; (with_reducible show wpAny _ _ (truthy (Value.str (Txt.join _ _) _)) _ _ _); k_dflt (refine pos_toks (by first | assumption | (dsimp only; omega)) ?_; refine' truthyJ ?tjl ?_ ?_; (case tjl => assumption)) <;> intro _ _ _)
  trivial
theorem wl_WFlB_12 : True := by
  k_with "call ref" => run_tac Mine.ln "WFlB.12"
  k_with "own WFlB.12" => (k_here; (with_reducible show wpAny _ _ (call (Value.ref 257) _) _ _ _); k_dflt (refine' esc_cdata _ _ _ _ _ _ _ ?ecl _ _ _ _ _ _ _ _ _ _ _ _ _ _ _ _ _ ?ecB ?ecF ?ecX ?ecN ?ecT ?eck ?ecr ?ecu ?ecp ?ecg ?_; (case ecl => (rw [join_len]; assumption)); (case ecB => k_asm); (case ecF => k_asm); (case ecX => k_asm); (case ecN => k_asm); (case ecT => k_asm); (case eck => rfl); (case ecr => exact wlt2 (by assumption)); (case ecu => exact wunits (by assumption) (by decide)); (case ecp => first | assumption | (dsimp only; omega)); (case ecg => assumption)); intro v' n' s' F' N' S' t' P'; k_dflt (obtain ⟨e', y', ty', ev', hy'⟩ := P'; subst e'; subst ev'))
  trivial
theorem wl_WFlB_13 : True := by
  k_with "call ref cons nil" => run_tac Mine.ln "WFlB.13"
  k_with "own WFlB.13" => (k_here; (with_reducible show wpAny _ _ (call (Value.ref (WA.bm _)) _) _ _ _); k_dflt (refine' bm_push ?bpF ?bpN ?bpb ?bpU ?bpz ?_; (case bpF => k_asm); (case bpN => k_asm); (case bpb => k_mem); (case bpU => (iterate 12 (first | done | (apply Upd.head; (repeat (refine List.forall_mem_cons.mpr ⟨by dsimp only; k_ne, ?_⟩)); assumption) | (apply Upd.tail; · k_ne)))); (case bpz => assumption)); intro h' F' N')
  trivial
/-- what a flush writes -/
noncomputable def FlushR (ys : List Str) (wr wr' : Array Value) : Prop :=
  (ys.flatMap codes = [] ∧ wr' = wr) ∨ (ys.flatMap codes ≠ [] ∧ ∃ y t, wr' = wr.push (.str y t) ∧ codes y = escC (ys.flatMap codes))
theorem flush_c (w : World) (mean : ExcName → Option Value) (mg mb : Str → Option Value) (tl : List (Addr × Obj)) (W : WA) (T : WT) (rd : Bool) (n : Nat) (stk data wr nsl pres : Array Value) (k1 k2 k3 k4 k5 : Nat) (hW : WOrd W) (hO : WOff W tl) (hw : wr.size ≤ 500) (ys : List Str) (hi : StrsAre data.toList ys) (hl : (ys.map (·.length)).sum ≤ 64) :
    Ct w mean mg mb 202 2 40 (wL w W T true rd n stk data wr nsl pres k1 k2 k3 k4 k5 tl) [.ref W.x] (fun _ news' => ∃ wr' k2' k3', FlushR ys wr wr' ∧ news' = wL w W T true rd n stk #[] wr' nsl pres k1 k2' k3' k4 k5 tl) := by
  k_with "proof" =>
    have o_ld : ∀ p ∈ tl, p.1 ≠ W.ld := fun p hp => (hO p hp).2.2.2.2.2.1
    have o_lw : ∀ p ∈ tl, p.1 ≠ W.lw := fun p hp => (hO p hp).2.2.2.2.2.2.1
    have hsz : wr.size ≤ sizeLine := by rw [sizeLine_eq]; omega
    have hl2 : (ys.map (·.length)).sum ≤ 16777216 := by omega
    dsimp only [Ct, CtR, CtRet, PG, VW, LO, wL, wD]
    k_fill
    intros; rename_i hret
    refine pos_toks (by assumption) (wpAny_call ?_)
    (k_dflt (refine' code_def ?k1 ?k2 ?k3 ?k4 ?k5 ?kA ?kF ?kK ?k6 ?k7 ?k8 ?k9 ?kB ?_ ?c2 ?c3 ?c4 ?c5; (case kA => exact rfl); (case kF => exact rfl); (case kK => assumption); (case k1 => k_asm); (case k2 => k_asm); (case k3 => k_asm); (case k4 => k_asm); (case k5 => k_asm); (case k6 => k_is); (case k7 => k_is); (case k8 => ktr_room); (case k9 => exact binds_K (by k_in) rfl (by k_is) rfl rfl rfl); (case c5 => decide); (case kB => exact locs rfl); (case c2 => exact rfl); (case c3 => exact rfl); (case c4 => exact rfl); k_whole; intro g' L' h' FG' F' N' B' X' T'; (try dsimp only); (try k_lift B'); (try k_fold)))
    k_steps
    · refine' hret _ _ _ ?rF ?rN ⟨rfl, rfl, rfl⟩ ?rt ⟨_, _, _, .inl ⟨?rh, rfl⟩, rfl⟩
      case rF => assumption
      case rN => assumption
      case rt => first | assumption | (dsimp only; omega)
      case rh => assumption
    · with_reducible rename Same _ _ => S9
      refine' hret _ _ _ ?sF ?sN ⟨S9.o, S9.d, S9.g⟩ ?st ⟨_, _, _, .inr ⟨?sh, _, _, rfl, ?sy⟩, rfl⟩
      case sF => assumption
      case sN => assumption
      case st => first | assumption | (dsimp only; omega)
      case sh => assumption
      case sy => (rw [← join_codes]; assumption)
  run_tac Mine.sq default
end Mine
end
theorem Mine.wl_WFlB_end : True := by
  k_with_none
  trivial
section -- WSet
open PySem PySem.W PySem.Calls PyProof.Rows
namespace Mine
noncomputable def strOfV : Value → Str
  | .str x _ => x
  | _ => Str.ofString ""
/-- a set of a few texts whose table is known to have room -/
noncomputable def SSet (prog : Program) (w : World) (o : Obj) (xs : List Str) : Prop :=
  ∃ es ep t, o = { cls := .type "set", dict := none, data := .set es ep t } ∧ ElemsOf (strKind prog w) es.toList ∧ (es.toList.map fun e => strOfV e.2).Perm xs ∧
    t.place.size = es.size ∧ t.dummies = #[] ∧ 7 ≤ t.mask ∧ (xs ≠ [] → t.plain = false) ∧ t.led = !(w.params.followText "set-order")
theorem SSet.fresh (prog : Program) (w : World) : SSet prog w { cls := .type "set", dict := none, data := .set #[] 0 (.fresh 0 0 (!(w.params.followText "set-order"))) } [] :=
  ⟨#[], 0, _, rfl, fun e he => by simp at he, by simp, rfl, rfl, Nat.le_refl _, fun h => absurd rfl h, rfl⟩
theorem insertAt_size {α : Type} (xs : Array α) (p : Nat) (x : α) : (SetTable.insertAt xs p x).size = xs.size + 1 := by
  have h := (SetTable.insertAt_perm xs p x).length_eq
  simpa using h
theorem standIn_keeps (t : SetTable) (n : Nat) (hn : 1 ≤ n) : (t.standIn n).place.size = n ∧ (t.standIn n).dummies = #[] ∧ 7 ≤ (t.standIn n).mask ∧ (t.standIn n).tooFull = false := by
  k_with "proof" =>
    refine ⟨by simp [SetTable.standIn], rfl, by simp [SetTable.standIn]; omega, ?_⟩
    simp [SetTable.standIn, SetTable.tooFull, SetTable.fill]; omega
  run_tac Mine.sq default
theorem has_none (j : Nat) : SetTable.has #[] j = false := by simp [SetTable.has]
theorem lay_keeps (t : SetTable) (es : Array (Int × Value)) (h : Int) (x : Value) (h1 : t.place.size = es.size) (h2 : t.dummies = #[]) (h3 : 7 ≤ t.mask) (h4 : es.size ≤ 3) :
    (layNew t es h x).2.1.place.size = (layNew t es h x).1.size ∧ (layNew t es h x).2.1.dummies = #[] ∧ 7 ≤ (layNew t es h x).2.1.mask ∧ (layNew t es h x).2.1.tooFull = false ∧ (layNew t es h x).2.1.led = t.led := by
  k_with "proof" =>
    unfold layNew
    split
    · rename_i slot wd _
      dsimp only
      unfold SetTable.orStandIn
      split
      · simp only [SetTable.put, insertAt_size, h1, h2, has_none, h3, true_and]
        simp [SetTable.tooFull, SetTable.fill, insertAt_size, h1]
        omega
      · rename_i hf
        have := standIn_keeps (t.put slot).1 (SetTable.insertAt es (t.put slot).2 (h, x)).size (by rw [insertAt_size]; omega)
        exact ⟨this.1, this.2.1, this.2.2.1, this.2.2.2, rfl⟩
    · have := standIn_keeps t (es.size + 1) (by omega)
      exact ⟨by simpa using this.1, this.2.1, this.2.2.1, this.2.2.2, rfl⟩
  run_tac Mine.sq default
section
variable {prog : Program} {w : World} {A : Around} {E : Value → Shared → Prop} {s : Shared} {h₀ : Heap} {L sa : Addr} {m : Str → Option Value} {news : List (Addr × Obj)} {g : Obj → List (Addr × Obj)} {so : Obj}
theorem sset_add {y : Str} {tk : Tok} {xs : List Str} {Q : Bool → Shared → Prop} (F : Fr h₀ L s.heap m) (N : News h₀ L s.heap news) (U : UpdF sa so news g) (hs : SSet prog w so xs) (hl : xs.length ≤ 3) (hy : y ∉ xs)
    (h : ∀ h' so', Fr h₀ L h' m → News h₀ L h' (g so') → SSet prog w so' (y :: xs) → Heap.SameBut sa s.heap h' → Q true { s with heap := h' }) :
    wpAny (model prog w) A (setAddHashed sa (.str y tk) (hashStr w y)) Q E s := by
  k_with "proof" =>
    obtain ⟨pre, post, rfl, hg, a, b⟩ := U.split
    have hm := N (sa, so) (List.mem_append_right _ (.head _))
    obtain ⟨es, ep, t, rfl, hel, hpm, h1, h2, h3, h4, h5⟩ := hs
    have hsz : es.size = xs.length := by rw [← hpm.length_eq, List.length_map, Array.length_toList]
    have ho : s.heap.get? sa = some { cls := .type "set", dict := none, data := .set es ep t } := hm.1
    have hf : t.fits es.size = true := by simp [SetTable.fits, SetTable.fill, h1, h2]; omega
    have hb : es.size < scanBound := by have : scanBound = 4096 := rfl; omega
    have hkey : (strKind prog w).is y (.str y tk) = true := strKind_is _ _ _ _
    unfold setAddHashed setAddHashedIn
    refine wpAny_holding (wpAny_bind (wpAny_setState_of ho rfl hf ?_))
    dsimp only
    rw [byScan_of (knd := strKind prog w) rfl hb hel]
    simp only [↓reduceIte]
    unfold setAddByScan
    refine wpAny_bind ?_
    refine wpAny_bind (wpAny_rule ?_)
    refine wpAny_bind (wpAny_setScan_of (knd := strKind prog w) hkey ho rfl hf hel ?_)
    have hno : List.findIdx? (fun e : Int × Value => (strKind prog w).is y e.2) es.toList = none := by
      rw [List.findIdx?_eq_none_iff]
      intro e he
      cases hq : (strKind prog w).is y e.2 with
      | false => rfl
      | true =>
        obtain ⟨u, hu⟩ := Value.isStrOf_shape hq
        exact absurd (hpm.mem_iff.mp (List.mem_map.mpr ⟨e, he, by rw [hu]; rfl⟩)) hy
    rw [hno]
    dsimp only
    have hgw : ∀ (b : Bool) {s₁ : Shared} {Q' : Unit → Shared → Prop}, Q' () s₁ → wpAny (model prog w) A (match b with | true => rule "set.scan.the-table-gave-way" | false => pure ()) Q' E s₁ :=
      fun b s₁ Q' hq => by cases b <;> first | exact wpAny_pure hq | exact wpAny_rule hq
    have hperm := layNew_perm t es (hashStr w y) (.str y tk)
    have hkeep := lay_keeps t es (hashStr w y) (.str y tk) h1 h2 h3 (by omega)
    generalize hL : layNew t es (hashStr w y) (.str y tk) = Lz at hperm hkeep ⊢
    obtain ⟨es1, t1, wasDummy, gave⟩ := Lz
    dsimp only at hperm hkeep ⊢
    rw [Array.toList_push] at hperm
    obtain ⟨k1, k2, k3, k4, k5⟩ := hkeep
    have hel1 : ElemsOf (strKind prog w) es1.toList := (ElemsOf.push (knd := strKind prog w) hel hkey rfl).perm hperm
    have hsz1 : es1.size = es.size + 1 := by rw [← Array.length_toList, hperm.length_eq, List.length_append, Array.length_toList]; rfl
    have hpm1 : (es1.toList.map fun e => strOfV e.2).Perm (y :: xs) := by
      refine (hperm.map _).trans ?_
      rw [List.map_append]
      exact (List.perm_append_singleton _ _).trans (hpm.cons y)
    refine wpAny_bind (hgw _ ?_)
    have fin : ∀ t2 : SetTable, t2.place = t1.place → t2.dummies = t1.dummies → t2.mask = t1.mask → t2.plain = false → t2.led = t1.led →
        wpAny (model prog w) A (do
          storeSet sa es1 t2
          if (!wasDummy && t2.tooFull) = true then do
              let x := relayAll t2 es1 (SetTable.grown es1.size)
              match x with
              | (es, t, gave) => do
                (match gave with | true => rule "set.scan.the-table-gave-way" | false => pure ())
                storeSet sa es t
                pure (some true)
            else pure (some true)) (fun r s' => wpAny (model prog w) A (match r with | some added => pure added | none => setAddHashedIn sa (.str y tk) (hashStr w y) 99999) Q E s') E s := by
      intro t2 e1 e2 e3 e4 e5
      have hz : t2.tooFull = false := by simpa [SetTable.tooFull, SetTable.fill, e1, e2, e3] using k4
      refine wpAny_bind (wpAny_storeSet_of ho rfl ?_ (fits_of_scanBound (by have : scanBound = 4096 := rfl; omega)))
      rw [hz, Bool.and_false, if_neg Bool.false_ne_true]
      refine wpAny_pure (wpAny_pure ?_)
      have hsb := Heap.SameBut.update s.heap sa (Obj.putSet es1 t2)
      have hg2 : (s.heap.update sa (Obj.putSet es1 t2)).get? sa = some { cls := .type "set", dict := none, data := .set es1 (ep + 1) t2 } := by
        have := Heap.get?_update_self (Obj.putSet es1 t2) ho (by rw [putSet_of es1 t2 rfl]; rfl)
        rw [putSet_of es1 t2 rfl] at this; exact this
      exact h _ _ (F.change hsb hm.2.1 hm.2.2) (hg _ ▸ N.setIn a b hsb hg2) ⟨es1, ep + 1, t2, rfl, hel1, hpm1, by rw [e1]; exact k1, by rw [e2]; exact k2, by rw [e3]; exact k3, fun _ => e4, by rw [e5, k5]; exact h5⟩ hsb
    split
    · refine wpAny_bind ?_
      rw [hashByValue_scannable 8 rfl]
      refine wpAny_pure ?_
      exact fin _ rfl rfl rfl rfl rfl
    · rename_i hp
      refine wpAny_bind (wpAny_pure ?_)
      simp only [↓reduceIte]
      exact fin _ rfl rfl rfl (by simpa using hp) rfl
  run_tac Mine.sq default
end
end Mine
end
section -- WSetB
open PySem PySem.W PySem.Calls PyProof.Rows
namespace Mine
noncomputable abbrev aD (w : World) (as : List (Str × Tok × Value)) : List DictEntry := as.map fun p => { hash := PyData.keyHash w.params p.1, key := .str p.1 p.2.1, val := p.2.2 }
noncomputable abbrev aK (as : List (Str × Tok × Value)) : List (Str × Value) := as.map fun p => (p.1, p.2.2)
theorem aD_pairs {prog : Program} {w : World} : ∀ as : List (Str × Tok × Value), Pairs (strKind prog w) (aD w as) (aK as)
  | [] => .nil
  | p :: r => .cons (strKind_is _ _ _ _) rfl (aD_pairs r)
section
variable {prog : Program} {w : World} {A : Around} {E : Value → Shared → Prop} {s : Shared} {h₀ : Heap} {L D d : Addr} {m : Str → Option Value} {news : List (Addr × Obj)} {so : Obj}
theorem aD_at {h : Heap} {as : List (Str × Tok × Value)} {n : Nat} (ho : h.get? d = some (dictOf (aD w as) n)) (hnd : (as.map (·.1)).Nodup) : h.DictAt (strKind prog w) d (aK as) n := by
  k_with "proof" =>
    refine ⟨_, (aD w as).toArray, ho, ⟨rfl, rfl, rfl⟩, rfl, ?_, ?_, ?_⟩
    · intro e he
      have he' : e ∈ aD w as := by simpa using he
      obtain ⟨p, _, rfl⟩ := List.mem_map.mp he'
      exact ⟨p.1, strKind_is _ _ _ _, rfl⟩
    · simpa using aD_pairs (prog := prog) as
    · simpa [Function.comp_def] using hnd
  run_tac Mine.sq default
theorem nodup_step {as : List (Str × Tok × Value)} {a : Str × Tok × Value} {xs : List Str} (h : ((a :: as).map (·.1) ++ xs).Nodup) : a.1 ∉ xs ∧ (as.map (·.1) ++ (a.1 :: xs)).Nodup := by
  k_with "proof" =>
    rw [List.map_cons, List.cons_append, List.nodup_cons] at h
    refine ⟨fun q => h.1 (List.mem_append_right _ q), ?_⟩
    rw [List.nodup_append] at h ⊢
    obtain ⟨h1, h2, h3, h4⟩ := h
    refine ⟨h2, List.nodup_cons.mpr ⟨fun q => h1 (List.mem_append_right _ q), h3⟩, fun x hx y hy e => ?_⟩
    rcases List.mem_cons.mp hy with rfl | hy
    · exact h1 (List.mem_append_left _ (e ▸ hx))
    · exact h4 x hx y hy e
  run_tac Mine.sq default
theorem sset_loop (hA : A.handled = none) {I : Addr} (all : List (Str × Tok × Value)) (n : Nat) (hnd0 : (all.map (·.1)).Nodup) (hdI : d ≠ I) (hID : I ≠ D) (hdD : d ≠ D) (hIh : h₀.get? I = none) (hIL : I ≠ L) (hIn : ∀ p ∈ news, p.1 ≠ I) (hDn : ∀ p ∈ news, p.1 ≠ D) {R : Result → Shared → Prop} :
    ∀ (as : List (Str × Tok × Value)) (i : Nat) (s : Shared) (so : Obj) (xs : List Str), all.drop i = as → i ≤ all.length → s.heap.IsKeyIter I d i (aK all).length n → s.heap.DictAt (strKind prog w) d (aK all) n →
      Fr h₀ L s.heap m → News h₀ L s.heap ((D, so) :: news) → SSet prog w so xs → xs.length + as.length ≤ 4 → (as.map (·.1) ++ xs).Nodup →
      (∀ h' tk so', Fr h₀ L h' m → News h₀ L h' ((D, so') :: news) → SSet prog w so' ((as.map (·.1)).reverse ++ xs) → R (.ok (.ret .none)) { s with heap := h', toks := tk }) →
      codeAny (model prog w) A (.builtin "set.update.loop" ⟨[.ref D, .ref I], []⟩) R s := by
  k_with "proof" =>
    have W := Walks.dictKeys (knd := strKind prog w) (prog := prog) (w := w) (A := A.in1) hA I d hdI (aK all) n
    have lnk : (aK all).length = all.length := by simp
    intro as
    induction as with
    | nil =>
      intro i s so xs hd hi hst hdt F N hs hl hnd hR
      have hin : i = (aK all).length := by
        have := congrArg List.length hd
        rw [List.length_drop] at this
        simp at this
        omega
      subst hin
      refine codeAny_builtin PyProof.Rows.F.entry_set_update_loop ?_
      rw [Around.under_plainId PyProof.Rows.F.plain_set_update_loop _]
      show wpAny _ A.in1 (pyNext (.ref I) >>= _) _ _ s
      refine wpAny_bind (W.done s _ _ ⟨hst, hdt⟩ fun h' tk hk => ?_)
      show wpAny _ A.in1 (ret Value.none) _ _ _
      have up : ∀ b o, b ≠ I → s.heap.get? b = some o → h'.get? b = some o := fun b o q e => hk b o (by simp [q]) e
      refine wpAny_pure (hR h' tk so ⟨F.ns.at' fun o e => up _ o (Ne.symm hIL) e, fun b o e => up b o (fun q => by rw [q, hIh] at e; cases e) (F.keep b o e), F.above⟩ (fun p hp => ?_) (by simpa using hs))
      have hp1 : p.1 ≠ I := by
        rcases List.mem_cons.mp hp with rfl | hp
        · exact Ne.symm hID
        · exact hIn p hp
      exact ⟨up _ _ hp1 (N p hp).1, (N p hp).2⟩
    | cons a as ih =>
      intro i s so xs hd hi hst hdt F N hs hl hnd hR
      have hlt : i < (aK all).length := by
        have := congrArg List.length hd
        rw [List.length_drop] at this
        simp at this
        omega
      have hai : all[i]? = some a := by
        have := congrArg (·[0]?) hd
        simpa using this
      have hd' : all.drop (i + 1) = as := by
        have := congrArg List.tail hd
        simpa using this
      obtain ⟨hn1, hn2⟩ := nodup_step hnd
      refine codeAny_builtin PyProof.Rows.F.entry_set_update_loop ?_
      rw [Around.under_plainId PyProof.Rows.F.plain_set_update_loop _]
      show wpAny _ A.in1 (pyNext (.ref I) >>= _) _ _ s
      refine wpAny_bind (W.item i s _ _ hlt ⟨hst, hdt⟩ fun v h' tk hP hst' hk => ?_)
      obtain ⟨k, x, hkx, hkv⟩ := hP
      have hk1 : k = a.1 := by
        rw [List.getElem?_map, hai] at hkx
        exact (congrArg Prod.fst (Option.some.inj hkx)).symm
      subst hk1
      obtain ⟨t, rfl⟩ := Value.isStrOf_shape hkv
      have up : ∀ b o, b ≠ I → s.heap.get? b = some o → h'.get? b = some o := fun b o q e => hk b o (by simp [q]) e
      have F' : Fr h₀ L h' m := ⟨F.ns.at' fun o e => up _ o (Ne.symm hIL) e, fun b o e => up b o (fun q => by rw [q, hIh] at e; cases e) (F.keep b o e), F.above⟩
      have N' : News h₀ L h' ((D, so) :: news) := fun p hp => by
        have hp1 : p.1 ≠ I := by
          rcases List.mem_cons.mp hp with rfl | hp
          · exact Ne.symm hID
          · exact hIn p hp
        exact ⟨up _ _ hp1 (N p hp).1, (N p hp).2⟩
      show wpAny _ A.in1 (holding [Value.str a.1 t] (setAdd D (.str a.1 t)) >>= _) _ _ _
      refine wpAny_bind (wpAny_holding ?_)
      unfold setAdd
      refine wpAny_holding ?_
      refine wpAny_bind ((strKind prog w).pyHash (k := a.1) (strKind_is _ _ _ _) ?_)
      refine sset_add (s := { s with heap := h', toks := tk + 1 }) F' N' (UpdF.head hDn) hs (by simp only [List.length_cons] at hl; omega) hn1 fun h2 so' F2 N2 hs2 sb2 => ?_
      have keepI : ∀ b o, b ≠ D → h'.get? b = some o → h2.get? b = some o := fun b o q e => by rw [sb2.2 b q]; exact e
      refine wpAny_pure ⟨plainId_quiet PyProof.Rows.F.plain_set_update_loop _, ih (i + 1) _ so' (a.1 :: xs) hd' (by rw [lnk] at hlt; exact hlt) (hst'.1.at fun o e => keepI _ _ hID e) (hst'.2.at' fun o e => keepI _ _ hdD e) F2 N2 hs2 (by simp only [List.length_cons] at hl ⊢; omega) hn2 fun h3 tk3 so3 F3 N3 hs3 => ?_⟩
      exact hR h3 tk3 so3 F3 N3 (by simpa using hs3)
  run_tac Mine.sq default
end
end Mine
end
section -- WSetC
open PySem PySem.W PySem.Calls PyProof.Rows
namespace Mine
theorem subDS : isSubtype (.type "dict") (.type "set") = pure false := by rw [isSubtype_type]; kernel_rfl
theorem subDF : isSubtype (.type "dict") (.type "frozenset") = pure false := by rw [isSubtype_type]; kernel_rfl
section
variable {prog : Program} {w : World} {A : Around} {E : Value → Shared → Prop} {s : Shared} {h₀ : Heap} {L D d : Addr} {m : Str → Option Value} {news : List (Addr × Obj)} {so : Obj}
theorem star_each {f : Nat → PUnit → Sem (ForInStep PUnit)} {n : Nat} (all : List (Str × Tok × Value)) (hDn : ∀ p ∈ news, p.1 ≠ D) (hd : (d, dictOf (aD w all) n) ∈ news)
    (hf : ∀ i a (P : Shared → Prop) (s : Shared), all[i]? = some a → s.heap.get? d = some (dictOf (aD w all) n) → wpAny (model prog w) A (setAddHashed D (.str a.1 a.2.1) (hashStr w a.1)) (fun _ s' => s'.heap.get? d = some (dictOf (aD w all) n) ∧ P s') E s →
      wpAny (model prog w) A (f i PUnit.unit) (fun st s' => st = .yield PUnit.unit ∧ P s') E s) :
    ∀ (as : List (Str × Tok × Value)) (i : Nat) (s : Shared) (so : Obj) (xs : List Str) (Q : PUnit → Shared → Prop), all.drop i = as → Fr h₀ L s.heap m → News h₀ L s.heap ((D, so) :: news) → SSet prog w so xs → xs.length + as.length ≤ 4 → (as.map (·.1) ++ xs).Nodup →
      (∀ h' tk so', Fr h₀ L h' m → News h₀ L h' ((D, so') :: news) → SSet prog w so' ((as.map (·.1)).reverse ++ xs) → Q PUnit.unit { s with heap := h', toks := tk }) →
      wpAny (model prog w) A (forIn (List.range' i as.length) PUnit.unit f) Q E s := by
  k_with "proof" =>
    intro as
    induction as with
    | nil =>
      intro i s so xs Q hd0 F N hs hl hnd hQ
      exact wpAny_pure (hQ s.heap s.toks so F N (by simpa using hs))
    | cons a as ih =>
      intro i s so xs Q hd0 F N hs hl hnd hQ
      have hai : all[i]? = some a := by
        have := congrArg (·[0]?) hd0
        simpa using this
      have hd' : all.drop (i + 1) = as := by
        have := congrArg List.tail hd0
        simpa using this
      obtain ⟨hn1, hn2⟩ := nodup_step hnd
      rw [List.length_cons, List.range'_succ, List.forIn_cons]
      refine wpAny_bind (wpAny_mono (hf i a (fun s' => wpAny (model prog w) A (forIn (List.range' (i + 1) as.length) PUnit.unit f) Q E s') s hai (N _ (.tail _ hd)).1 ?_) (fun st s' h' => ?_) fun _ _ x => x)
      · refine sset_add F N (UpdF.head hDn) hs (by simp only [List.length_cons] at hl; omega) hn1 fun h2 so' F2 N2 hs2 _ => ⟨(N2 _ (.tail _ hd)).1, ?_⟩
        exact ih (i + 1) _ so' (a.1 :: xs) Q hd' F2 N2 hs2 (by simp only [List.length_cons] at hl ⊢; omega) hn2 fun h3 tk3 so3 F3 N3 hs3 => hQ h3 tk3 so3 F3 N3 (by simpa using hs3)
      · obtain ⟨rfl, h2⟩ := h'
        exact h2
  run_tac Mine.sq default
theorem sset_star {as : List (Str × Tok × Value)} {n : Nat} {xs : List Str} {Q : Unit → Shared → Prop} (hA : A.handled = none) (F : Fr h₀ L s.heap m) (N : News h₀ L s.heap ((D, so) :: news)) (hDn : ∀ p ∈ news, p.1 ≠ D)
    (hs : SSet prog w so xs) (hd : (d, dictOf (aD w as) n) ∈ news) (hlo : (d == sysModules) = false) (hl : xs.length + as.length ≤ 4) (hnd : (as.map (·.1) ++ xs).Nodup)
    (h : ∀ h' tk so', Fr h₀ L h' m → News h₀ L h' ((D, so') :: news) → SSet prog w so' ((as.map (·.1)).reverse ++ xs) → Q () { s with heap := h', toks := tk }) :
    wpAny (model prog w) A (setDisplayStar D (.ref d)) Q E s := by
  k_with "proof" =>
    have hax := N _ (List.mem_cons_of_mem _ hd)
    have hdD : d ≠ D := hDn _ hd
    have hT : s.TypeIs (.ref d) "dict" := ⟨_, hax.1, rfl⟩
    have hnd1 : (as.map (·.1)).Nodup := (List.nodup_append.mp hnd).1
    have hat : s.heap.DictAt (strKind prog w) d (aK as) n := aD_at hax.1 hnd1
    unfold setDisplayStar
    dsimp only
    refine wpAny_bind (wpAny_isInstance hT subDS ?_)
    simp only [Bool.false_eq_true, ↓reduceIte]
    refine wpAny_bind (wpAny_isInstance hT subDF ?_)
    refine wpAny_bind (wpAny_askSetting ?_)
    cases hq : (model prog w).w.params.followText "set-display-star-reads-storage" with
    | true =>
      simp only [↓reduceIte]
      refine wpAny_bind (wpAny_pyIter_dict hlo hat ?_)
      have hI : ∀ b o, s.heap.get? b = some o → b ≠ s.heap.objs.size := fun b o e => Nat.ne_of_lt (Heap.lt_size e)
      refine wpAny_bind (wpAny_runValue (sset_loop hA (I := s.heap.objs.size) (d := d) (h₀ := h₀) (L := L) (m := m) (news := news) as n hnd1 (hI _ _ hax.1) (Ne.symm (hI _ _ (N _ (.head _)).1)) hdD (Heap.get?_none_of_le (Nat.le_trans F.above (Nat.le_of_lt F.ns.lt))) (Ne.symm (Nat.ne_of_lt F.ns.lt)) (fun p hp => hI _ _ (N p (.tail _ hp)).1) hDn as 0 _ so xs rfl (Nat.zero_le _) ⟨_, Heap.get?_push_size _ rfl, rfl, rfl⟩ (hat.push _) (F.push _) (fun p hp => ⟨Heap.get?_push_of_some _ (N p hp).1, (N p hp).2⟩) hs hl hnd fun h' tk so' F' N' hs' => ?_))
      exact wpAny_pure (h h' tk so' F' N' hs')
    | false =>
      simp only [Bool.false_eq_true, ↓reduceIte]
      refine wpAny_bind (wpAny_typeOf_ref hax.1 ?_)
      simp only [beq_self_eq_true, ↓reduceIte]
      refine wpAny_bind (wpAny_rule ?_)
      rw [hlo]
      simp only [Bool.false_eq_true, ↓reduceIte]
      refine wpAny_bind (wpAny_dictEpoch hax.1 rfl ?_)
      refine wpAny_bind (wpAny_dictEntries hax.1 rfl ?_)
      have hsz : (aD w as).toArray.size = as.length := by simp
      obtain ⟨es, ep, t, rfl, hel, hpm, h1, h2, h3, h4, h5⟩ := id hs
      have hxs : es.size = xs.length := by rw [← hpm.length_eq, List.length_map, Array.length_toList]
      have hf : t.fits es.size = true := by simp [SetTable.fits, SetTable.fill, h1, h2]; omega
      unfold setRoomFor
      refine wpAny_bind (wpAny_bind (wpAny_setState_of (N _ (.head _)).1 rfl hf ?_))
      dsimp only
      have hrm : t.roomFor (aD w as).toArray.size = none := by
        unfold SetTable.roomFor
        rw [if_neg]
        rw [hsz]; simp [SetTable.fill, h1, h2]; omega
      rw [hrm]
      dsimp only
      refine wpAny_pure ?_
      have hs0 := hs
      simp only [Std.Legacy.Range.forIn_eq_forIn_range']
      have hrs : ([:(aD w as).toArray.size] : Std.Legacy.Range).size = as.length := by simp [Std.Legacy.Range.size]
      rw [hrs]
      refine wpAny_bind (star_each (prog := prog) as hDn hd ?_ as 0 s _ xs _ rfl F N hs0 hl hnd ?_)
      · intro i a P s1 hai hg hx
        refine wpAny_bind (wpAny_dictEntries hg rfl ?_)
        have : (aD w as).toArray[i]? = some { hash := PyData.keyHash w.params a.1, key := .str a.1 a.2.1, val := a.2.2 } := by simp [hai]
        rw [this]
        dsimp only
        refine wpAny_bind (wpAny_holding (wpAny_bind (wpAny_mono hx (fun b s2 h2 => ?_) fun _ _ x => x)))
        refine wpAny_pure (wpAny_bind (wpAny_dictEpoch h2.1 rfl ?_))
        simp only [bne_self_eq_false, Bool.false_eq_true, ↓reduceIte]
        exact wpAny_pure ⟨rfl, h2.2⟩
      · intro h' tk so' F' N' hs'
        exact wpAny_pure (h h' tk so' F' N' hs')
  run_tac Mine.sq default
end
end Mine
end
section -- WSetD
open PySem PySem.W PySem.Calls PyProof.Rows
namespace Mine
section
variable {prog : Program} {w : World} {A : Around} {E : Value → Shared → Prop} {s : Shared} {h₀ : Heap} {L : Addr} {m : Str → Option Value} {news : List (Addr × Obj)}
theorem sset_new {Q : Value → Shared → Prop}
    (h : Q (.ref s.heap.objs.size) { s with heap := s.heap.push { cls := .type "set", dict := none, data := .set #[] 0 (.fresh 0 0 (!(w.params.followText "set-order"))) } }) :
    wpAny (model prog w) A (newSet (.type "set")) Q E s := by
  k_with "proof" =>
    unfold newSet setsByText
    refine wpAny_bind (wpAny_bind (wpAny_askSetting (wpAny_pure ?_)))
    dsimp only
    simp only [newObj]
    exact wpAny_bind (wpAny_alloc (wpAny_pure h))
  run_tac Mine.sq default
theorem sset_eval {K : Frag} {e1 e2 : PySem.Expr} {p2 pos : Pos} {env : Env} {Q : Value → Shared → Prop} (F : Fr h₀ L s.heap m) (N : News h₀ L s.heap news) (X : K.In h₀) (hc : kdsCode K env.code = true) (hp : kdsPlain e1 = true)
    (h : ∀ D h' so, Fr h₀ L h' m → News h₀ L h' ((D, so) :: news) → (∀ p ∈ news, p.1 < D) → SSet prog w so [] →
      wpAny (model prog w) A (eval e1 env) (fun v s1 => wpAny (model prog w) A (setAdd D v) (fun _ s2 => wpAny (model prog w) A (eval e2 env) (fun x s3 => wpAny (model prog w) A (setDisplayStar D x) (fun _ s4 => Q (.ref D) s4) E s3) E s2) E s1) E { s with heap := h' }) :
    wpAny (model prog w) A (eval (.Set [e1, .Starred e2 p2] 0 pos) env) Q E s := by
  k_with "proof" =>
    rw [arm_eval_Set]
    refine wpAny_bind (wpAny_standAt ?_)
    refine wpAny_bind (kds_main (X.keeps F.keep) hc fun b => ?_)
    have hst : starEach [e1, .Starred e2 p2] env = [(false, eval e1 env), (true, eval e2 env)] := by
      cases e1 <;> first | rfl | exact absurd hp (by simp [kdsPlain])
    rw [hst]
    have hr : displayRoad 0 [e1, .Starred e2 p2] = .oneByOne := rfl
    rw [hr]
    unfold setDisplay
    try dsimp only [List.map]
    rw [if_neg (by decide)]
    refine wpAny_bind (sset_new ?_)
    dsimp only
    have h := h _ _ _ (F.push _) (News.push F N _ rfl) (fun p hp => Heap.lt_size (N p hp).1) (SSet.fresh prog w)
    refine wpAny_bind (wpAny_holding ?_)
    show wpAny _ _ (evalAll [(do let v ← eval e1 env; standAt pos; pure v)] >>= _) _ _ _
    show wpAny _ _ (((do let v ← eval e1 env; standAt pos; pure v) >>= fun v => holding [v] (evalAll []) >>= fun r => pure (v :: r)) >>= _) _ _ _
    refine wpAny_bind (wpAny_bind (wpAny_bind (wpAny_mono h (fun v s1 h1 => ?_) fun _ _ x => x)))
    refine wpAny_bind (wpAny_standAt (wpAny_pure ?_))
    refine wpAny_bind (wpAny_holding (wpAny_pure (wpAny_pure ?_)))
    refine wpAny_bind (wpAny_holding ?_)
    rw [List.forIn_cons]
    refine wpAny_bind (wpAny_bind (wpAny_bind (wpAny_mono h1 (fun u s2 h2 => ?_) fun _ _ x => x)))
    refine wpAny_pure ?_
    dsimp only
    rw [List.forIn_nil]
    refine wpAny_pure ?_
    rw [if_neg (by decide)]
    refine wpAny_pure ?_
    show wpAny _ _ (forIn [(true, (do let v ← eval e2 env; standAt pos; pure v))] PUnit.unit _ >>= _) _ _ _
    rw [List.forIn_cons]
    refine wpAny_bind (wpAny_bind (wpAny_bind (wpAny_bind (wpAny_mono h2 (fun x s3 h3 => ?_) fun _ _ x => x))))
    refine wpAny_bind (wpAny_standAt (wpAny_pure ?_))
    rw [if_pos rfl]
    refine wpAny_bind (wpAny_holding (wpAny_mono h3 (fun x s4 h4 => ?_) fun _ _ x => x))
    refine wpAny_pure ?_
    dsimp only
    rw [List.forIn_nil]
    exact wpAny_pure (wpAny_pure (wpAny_pure h4))
  run_tac Mine.sq default
end
end Mine
end
section -- WSetE
open PySem PySem.W PySem.Calls PyProof.Rows
namespace Mine
theorem slot_set_iter : Slot "set" "__iter__" "set.__iter__" :=
  .of (owner := "set") (n := "__iter__") (by rw [typeLookup_type, builtinLookup_eq_fast]; kernel_rfl) (by decide +kernel) (by decide +kernel) (by decide +kernel)
    (by first | exact .inl (by decide +kernel) | exact .inr (by decide +kernel)) (by rw [isSubtype_type]; kernel_rfl)
theorem entry_set_iter : entryFor table "set.__iter__" = some Builtin.«frozenset.__iter__» :=
  entryFor_alias (id' := "frozenset.__iter__") (by kernel_rfl) rfl (by decide +kernel) (by kernel_rfl)
theorem args_set_iter (a : Value) : argsOk "set.__iter__" ⟨[a], []⟩ := by unfold argsOk; kernel_rfl
theorem slot_sit_next : Slot "set_iterator" "__next__" "set_iterator.__next__" :=
  .of (owner := "set_iterator") (n := "__next__") (by rw [typeLookup_type, builtinLookup_eq_fast]; kernel_rfl) (by decide +kernel) (by decide +kernel) (by decide +kernel)
    (by first | exact .inl (by decide +kernel) | exact .inr (by decide +kernel)) (by rw [isSubtype_type]; kernel_rfl)
theorem entry_sit_next : entryFor table "set_iterator.__next__" = some Builtin.«set_iterator.__next__» := entryFor_of_tree (by kernel_rfl)
theorem args_sit_next (a : Value) : argsOk "set_iterator.__next__" ⟨[a], []⟩ := by unfold argsOk; kernel_rfl
noncomputable def SIt (h : Heap) (I D : Addr) (f : Value) (i n ep : Nat) : Prop := ∃ o, h.get? I = some o ∧ o.cls = .type "set_iterator" ∧ o.data = .fields #[f, rawInt i, .ref D, rawInt n, rawInt ep]
section
variable {prog : Program} {w : World} {A : Around} {E : Value → Shared → Prop} {s : Shared} {I D : Addr} {i n ep : Nat}
theorem sit_int {slot nx : Nat} {x : Value} {es : Array (Int × Value)} {t : SetTable} {Q : Option Value → Shared → Prop} (hit : SIt s.heap I D (rawInt slot) i n ep) (hD : s.heap.get? D = some { cls := .type "set", dict := none, data := .set es ep t }) (hf : t.fits es.size = true) (hn : es.size = n)
    (hnx : ∀ (A : Around) (E : Value → Shared → Prop) (Q : Option (Value × Nat) → Shared → Prop), Q (some (x, nx)) s → wpAny (model prog w) A (setNext D slot i ep) Q E s)
    (hQ : ∀ h', SIt h' I D (rawInt nx) (i + 1) n ep → Heap.SameBut I s.heap h' → Q (some x) { s with heap := h' }) :
    wpAny (model prog w) A (pyNext (.ref I)) Q E s := by
  k_with "proof" =>
    obtain ⟨o, ho, hc, hd⟩ := id hit
    have hT : s.TypeIs (.ref I) "set_iterator" := ⟨o, ho, hc⟩
    unfold pyNext
    refine wpAny_bind (wpAny_attempt (wpAny_callSpecial?_slot (name := Str.ofString "__next__") hT slot_sit_next
      (wpAny_call_entry slot_sit_next hT entry_sit_next ?_ (args_sit_next _))))
    unfold Builtin.«set_iterator.__next__»
    refine wpAny_bind (wpAny_pure ?_)
    refine wpAny_bind (wpAny_fieldsOf ho hd ?_)
    dsimp only [rawInt]
    refine wpAny_bind (wpAny_setEntries_of hD rfl hf ?_)
    rw [if_neg (by rw [hn]; simp)]
    refine wpAny_bind (hnx _ _ _ ?_)
    dsimp only
    refine wpAny_bind (wpAny_setField ho hd (by simp) ?_)
    have hsb1 := Heap.SameBut.update s.heap I (Obj.mapFields (·.setIfInBounds 0 (rawInt nx)))
    have ho1 : (s.heap.update I (Obj.mapFields (·.setIfInBounds 0 (rawInt nx)))).get? I = some (Obj.mapFields (·.setIfInBounds 0 (rawInt nx)) o) := Heap.get?_update_self _ ho (Obj.isFreed_of_fields (Obj.data_mapFields hd _))
    refine wpAny_bind (wpAny_setField ho1 (Obj.data_mapFields hd _) (by simp) ?_)
    have ho2 := Heap.get?_update_self (Obj.mapFields (·.setIfInBounds 1 (rawInt ((i : Int) + 1)))) ho1 (Obj.isFreed_of_fields (Obj.data_mapFields (Obj.data_mapFields hd _) _))
    refine wpAny_pure ⟨_, rfl, wpAny_pure (hQ _ ⟨_, ho2, ?_, ?_⟩ (hsb1.trans (Heap.SameBut.update _ I _)))⟩
    · rw [Obj.cls_mapFields, Obj.cls_mapFields]; exact hc
    · rw [Obj.data_mapFields (Obj.data_mapFields hd _)]; simp [rawInt]
  run_tac Mine.sq default
theorem sit_stop {Q : Option Value → Shared → Prop} (hh : A.handled = none) {h1 : Heap} {R : PySem.Fin → Shared → Prop} {E' : Value → Shared → Prop}
    (hE : ∀ e h' tk, Heap.ExtBut I h1 h' → ({ s with heap := h', toks := tk } : Shared).TypeIs e "StopIteration" → E' e { s with heap := h', toks := tk }) :
    wpAny (model prog w) A.in1 (newExc (.type "StopIteration") [] >>= fun e => raiseNew e) R E' { s with heap := h1 } := by
  k_with "proof" =>
    refine wpAny_bind ?_
    simp only [newExc, newTuple]
    refine wpAny_bind (wpAny_newObj_type ?_ (by size_fits))
    refine wpAny_bind (m := firstArgMember _ _) (wpAny_of_eq (a := Value.none) (by first | rfl | (simp only [firstArgMember]; rfl)) ?_)
    refine wpAny_newObj_type ?_ (by size_fits)
    simp only [raiseNew]
    refine wpAny_bind (wpAny_handled ?_)
    rw [show A.in1.handled = none from hh]
    refine wpAny_bind (wpAny_pure (wpAny_throw ?_))
    have e0 : Heap.ExtBut I h1 h1 := fun b o _ e => e
    refine hE _ _ s.toks ((e0.push _).push _) ⟨_, Heap.get?_push_size _ rfl, rfl⟩
  run_tac Mine.sq default
theorem sit_int_end {slot : Nat} {es : Array (Int × Value)} {t : SetTable} {Q : Option Value → Shared → Prop} (hh : A.handled = none) (hit : SIt s.heap I D (rawInt slot) i n ep) (hD : s.heap.get? D = some { cls := .type "set", dict := none, data := .set es ep t }) (hf : t.fits es.size = true) (hn : es.size = n)
    (hnx : ∀ (A : Around) (E : Value → Shared → Prop) (Q : Option (Value × Nat) → Shared → Prop), Q none s → wpAny (model prog w) A (setNext D slot i ep) Q E s)
    (hQ : ∀ h' tk, Heap.ExtBut I s.heap h' → Q none { s with heap := h', toks := tk }) :
    wpAny (model prog w) A (pyNext (.ref I)) Q E s := by
  k_with "proof" =>
    obtain ⟨o, ho, hc, hd⟩ := id hit
    have hT : s.TypeIs (.ref I) "set_iterator" := ⟨o, ho, hc⟩
    unfold pyNext
    refine wpAny_bind (wpAny_attempt (wpAny_callSpecial?_slot (name := Str.ofString "__next__") hT slot_sit_next
      (wpAny_call_entry slot_sit_next hT entry_sit_next ?_ (args_sit_next _))))
    unfold Builtin.«set_iterator.__next__»
    refine wpAny_bind (wpAny_pure ?_)
    refine wpAny_bind (wpAny_fieldsOf ho hd ?_)
    dsimp only [rawInt]
    refine wpAny_bind (wpAny_setEntries_of hD rfl hf ?_)
    rw [if_neg (by rw [hn]; simp)]
    refine wpAny_bind (hnx _ _ _ ?_)
    dsimp only
    refine wpAny_bind (wpAny_setField ho hd (by simp) ?_)
    have hsb1 := Heap.SameBut.update s.heap I (Obj.mapFields (·.setIfInBounds 2 Value.none))
    refine sit_stop (I := I) (Q := Q) hh fun e h' tk he hTe => ?_
    refine wpAny_bind (wpAny_isInstance (T := "StopIteration") (b := true) hTe isSubtype_stop ?_)
    exact wpAny_pure (hQ _ _ fun b o hb e => he b o hb (hsb1.extBut b o hb e))
  run_tac Mine.sq default
end
end Mine
end
section -- WSetF
open PySem PySem.W PySem.Calls PyProof.Rows
namespace Mine
section
variable {M : Model} {prog : Program} {w : World} {A : Around} {E : Value → Shared → Prop} {s : Shared} {I D : Addr} {i n ep : Nat}
theorem wpAny_choose {src : Source} {n : Nat} {Q : Nat → Shared → Prop} (hn : n ≠ 0) (h : ∀ i, i < n → Q i { s with drawn := s.drawn.bump src }) : wpAny M A (choose src n) Q E s := fun Γ p _ => by
  unfold choose
  rw [Sem.wp_choose]
  exact ⟨hn, h _ (Nat.mod_lt _ (Nat.pos_of_ne_zero hn))⟩
theorem idx_perm {α : Type} : ∀ (l : List α) (i : Nat) (hi : i < l.length), (l[i] :: l.eraseIdx i).Perm l
  | [], i, hi => by simp at hi
  | x :: l, 0, _ => by simp
  | x :: l, i + 1, hi => by
    have hi' : i < l.length := by simpa using hi
    rw [List.getElem_cons_succ, List.eraseIdx_cons_succ]
    exact (List.Perm.swap x _ _).trans ((idx_perm l i hi').cons x)
theorem draw_perm {α : Type} : ∀ (n : Nat) (xs : List α) (s : Shared) (Q : List α → Shared → Prop), xs.length = n → (∀ ys dr, ys.Perm xs → Q ys { s with drawn := dr }) → wpAny M A (drawOrder n xs) Q E s
  | 0, [], s, Q, _, h => by
    unfold drawOrder
    exact wpAny_pure (h [] s.drawn .nil)
  | 0, _ :: _, _, _, h, _ => by simp at h
  | n + 1, [], _, _, h, _ => by simp at h
  | n + 1, x :: xs, s, Q, hl, h => by
    unfold drawOrder
    refine wpAny_bind (wpAny_choose (by simp) fun i hi => ?_)
    have hg : (x :: xs)[i]? = some (x :: xs)[i] := List.getElem?_eq_getElem hi
    rw [hg]
    dsimp only
    refine wpAny_bind (draw_perm n _ _ _ (by rw [List.length_eraseIdx_of_lt hi]; simp at hl ⊢; exact hl) fun ys dr hp => wpAny_pure ?_)
    refine h _ dr ((hp.cons _).trans ?_)
    exact idx_perm _ _ hi
theorem pick_go_perm {α : Type} (next : Nat → Nat) : ∀ (fuel k : Nat) (left : List α) (out : Array α), left.length = fuel → (pickOrder.go next fuel k left out).toList.Perm (out.toList ++ left)
  | 0, k, [], out, _ => by unfold pickOrder.go; simp
  | 0, _, _ :: _, _, h => by simp at h
  | f + 1, _, [], _, h => by simp at h
  | f + 1, k, x :: xs, out, h => by
    unfold pickOrder.go
    have hi : next k % (x :: xs).length < (x :: xs).length := Nat.mod_lt _ (by simp)
    have hg : (x :: xs)[next k % (x :: xs).length]? = some (x :: xs)[next k % (x :: xs).length] := List.getElem?_eq_getElem hi
    rw [hg]
    dsimp only
    refine (pick_go_perm next f (k + 1) _ _ (by rw [List.length_eraseIdx_of_lt hi]; simp at h ⊢; exact h)).trans ?_
    rw [Array.toList_push, List.append_assoc]
    exact (idx_perm _ _ hi).append_left _
theorem pick_perm {α : Type} (next : Nat → Nat) (xs : Array α) : (pickOrder next xs).toList.Perm xs.toList := by
  unfold pickOrder
  simpa using pick_go_perm next xs.size 0 xs.toList #[] (by simp)
theorem sit_tup {T place k : Nat} {ps : Array Value} {h' : Int} {x : Value} {es : Array (Int × Value)} {t : SetTable} {Q : Option Value → Shared → Prop} (hit : SIt s.heap I D (.ref T) i n ep) (hD : s.heap.get? D = some { cls := .type "set", dict := none, data := .set es ep t }) (hf : t.fits es.size = true) (hn : es.size = n)
    (hT0 : s.heap.get? T = some (seqObj "tuple" ps k)) (hp : ps[i]? = some (rawInt place)) (hx : es[place]? = some (h', x))
    (hQ : ∀ h', SIt h' I D (.ref T) (i + 1) n ep → Heap.SameBut I s.heap h' → Q (some x) { s with heap := h' }) :
    wpAny (model prog w) A (pyNext (.ref I)) Q E s := by
  k_with "proof" =>
    obtain ⟨o, ho, hc, hd⟩ := id hit
    have hT : s.TypeIs (.ref I) "set_iterator" := ⟨o, ho, hc⟩
    unfold pyNext
    refine wpAny_bind (wpAny_attempt (wpAny_callSpecial?_slot (name := Str.ofString "__next__") hT slot_sit_next
      (wpAny_call_entry slot_sit_next hT entry_sit_next ?_ (args_sit_next _))))
    unfold Builtin.«set_iterator.__next__»
    refine wpAny_bind (wpAny_pure ?_)
    refine wpAny_bind (wpAny_fieldsOf ho hd ?_)
    dsimp only [rawInt]
    refine wpAny_bind (wpAny_setEntries_of hD rfl hf ?_)
    rw [if_neg (by rw [hn]; simp)]
    unfold seqItems?
    refine wpAny_bind (wpAny_bind (wpAny_load hT0 (wpAny_pure ?_)))
    have hp' : ps[((i : Nat) : Int).toNat]? = some (.int place 0) := by rw [Int.toNat_natCast]; exact hp
    simp only [hp']
    unfold setNextDrawn
    refine wpAny_bind (wpAny_bind (wpAny_setState_of hD rfl hf ?_))
    dsimp only
    rw [if_neg (by simp)]
    have hx' : es[((place : Nat) : Int).toNat]? = some (h', x) := by rw [Int.toNat_natCast]; exact hx
    rw [hx']
    refine wpAny_bind (wpAny_pure (wpAny_pure ?_))
    refine wpAny_bind (wpAny_setField ho hd (by simp) ?_)
    have ho2 := Heap.get?_update_self (Obj.mapFields (·.setIfInBounds 1 (rawInt ((i : Int) + 1)))) ho (Obj.isFreed_of_fields (Obj.data_mapFields hd _))
    refine wpAny_pure ⟨_, rfl, wpAny_pure (hQ _ ⟨_, ho2, ?_, ?_⟩ (Heap.SameBut.update _ I _))⟩
    · rw [Obj.cls_mapFields]; exact hc
    · rw [Obj.data_mapFields hd]; simp [rawInt]
  run_tac Mine.sq default
theorem sit_tup_end {T k : Nat} {ps : Array Value} {es : Array (Int × Value)} {t : SetTable} {Q : Option Value → Shared → Prop} (hh : A.handled = none) (hit : SIt s.heap I D (.ref T) i n ep) (hD : s.heap.get? D = some { cls := .type "set", dict := none, data := .set es ep t }) (hf : t.fits es.size = true) (hn : es.size = n)
    (hT0 : s.heap.get? T = some (seqObj "tuple" ps k)) (hp : ps[i]? = none)
    (hQ : ∀ h' tk, Heap.ExtBut I s.heap h' → Q none { s with heap := h', toks := tk }) :
    wpAny (model prog w) A (pyNext (.ref I)) Q E s := by
  k_with "proof" =>
    obtain ⟨o, ho, hc, hd⟩ := id hit
    have hT : s.TypeIs (.ref I) "set_iterator" := ⟨o, ho, hc⟩
    unfold pyNext
    refine wpAny_bind (wpAny_attempt (wpAny_callSpecial?_slot (name := Str.ofString "__next__") hT slot_sit_next
      (wpAny_call_entry slot_sit_next hT entry_sit_next ?_ (args_sit_next _))))
    unfold Builtin.«set_iterator.__next__»
    refine wpAny_bind (wpAny_pure ?_)
    refine wpAny_bind (wpAny_fieldsOf ho hd ?_)
    dsimp only [rawInt]
    refine wpAny_bind (wpAny_setEntries_of hD rfl hf ?_)
    rw [if_neg (by rw [hn]; simp)]
    unfold seqItems?
    refine wpAny_bind (wpAny_bind (wpAny_load hT0 (wpAny_pure ?_)))
    have hp' : ps[((i : Nat) : Int).toNat]? = none := by rw [Int.toNat_natCast]; exact hp
    simp only [hp']
    refine wpAny_bind (wpAny_setField ho hd (by simp) ?_)
    have hsb1 := Heap.SameBut.update s.heap I (Obj.mapFields (·.setIfInBounds 0 (rawInt 0)))
    have ho1 := Heap.get?_update_self (Obj.mapFields (·.setIfInBounds 0 (rawInt 0))) ho (Obj.isFreed_of_fields (Obj.data_mapFields hd _))
    refine wpAny_bind (wpAny_setField ho1 (Obj.data_mapFields hd _) (by simp) ?_)
    have hsb2 := hsb1.trans (Heap.SameBut.update _ I (Obj.mapFields (·.setIfInBounds 2 Value.none)))
    refine sit_stop (I := I) (Q := Q) hh fun e h' tk he hTe => ?_
    refine wpAny_bind (wpAny_isInstance (T := "StopIteration") (b := true) hTe isSubtype_stop ?_)
    exact wpAny_pure (hQ _ _ fun b o hb e => he b o hb (hsb2.extBut b o hb e))
  run_tac Mine.sq default
end
end Mine
end
section -- WSetG
open PySem PySem.W PySem.Calls PyProof.Rows
namespace Mine
theorem slot_sit_iter : Slot "set_iterator" "__iter__" "set_iterator.__iter__" :=
  .of (owner := "set_iterator") (n := "__iter__") (by rw [typeLookup_type, builtinLookup_eq_fast]; kernel_rfl) (by decide +kernel) (by decide +kernel) (by decide +kernel)
    (by first | exact .inl (by decide +kernel) | exact .inr (by decide +kernel)) (by rw [isSubtype_type]; kernel_rfl)
theorem entry_sit_iter : entryFor table "set_iterator.__iter__" = some Builtin.«dict_keyiterator.__iter__» :=
  entryFor_alias (id' := "dict_keyiterator.__iter__") (by kernel_rfl) rfl (by decide +kernel) (by kernel_rfl)
theorem args_sit_iter (a : Value) : argsOk "set_iterator.__iter__" ⟨[a], []⟩ := by unfold argsOk; kernel_rfl
noncomputable abbrev setO (es : Array (Int × Value)) (ep : Nat) (t : SetTable) : Obj := { cls := .type "set", dict := none, data := .set es ep t }
section
variable {prog : Program} {w : World} {A : Around} {E : Value → Shared → Prop} {s : Shared} {I D T : Addr} {i n ep : Nat} {es : Array (Int × Value)} {t : SetTable}
theorem SIt.at {h h' : Heap} {f : Value} (x : SIt h I D f i n ep) (e : ∀ o, h.get? I = some o → h'.get? I = some o) : SIt h' I D f i n ep := let ⟨o, ho, r⟩ := x; ⟨o, e _ ho, r⟩
theorem sit_self {f : Value} {Q : Value → Shared → Prop} (hit : SIt s.heap I D f i n ep) (h : Q (.ref I) s) : wpAny (model prog w) A (pyIter (.ref I)) Q E s := by
  k_with "proof" =>
    obtain ⟨o, ho, hc, hd⟩ := id hit
    have hT : s.TypeIs (.ref I) "set_iterator" := ⟨o, ho, hc⟩
    refine wpAny_pyIter_slot hT slot_sit_iter (wpAny_call_entry slot_sit_iter hT entry_sit_iter ?_ (args_sit_iter _))
    show wpAny _ _ (ret (.ref I)) _ _ s
    exact wpAny_pure ⟨_, rfl, "set_iterator", _, hT, slot_sit_next.lookup, h⟩
  run_tac Mine.sq default
theorem sit_walks (hh : A.handled = none) (hne : D ≠ I) (hf : t.fits es.size = true) (hn : es.size = n) (out : List Value) (slots : Nat → Nat)
    (hnx : ∀ i (s : Shared), i < n → s.heap.get? D = some (setO es ep t) → ∃ v, out[i]? = some v ∧ ∀ (A : Around) (E : Value → Shared → Prop) (Q : Option (Value × Nat) → Shared → Prop), Q (some (v, slots (i + 1))) s → wpAny (model prog w) A (setNext D (slots i) i ep) Q E s)
    (hend : ∀ (s : Shared), s.heap.get? D = some (setO es ep t) → ∀ (A : Around) (E : Value → Shared → Prop) (Q : Option (Value × Nat) → Shared → Prop), Q none s → wpAny (model prog w) A (setNext D (slots n) n ep) Q E s) :
    Walks prog w A I [I, D] [I] n (fun i v => out[i]? = some v) (fun i h => SIt h I D (rawInt (slots i)) i n ep ∧ h.get? D = some (setO es ep t)) where
  sub := fun b hb => by simp at hb; simp [hb]
  frame := fun _ _ _ st hk => ⟨st.1.at fun o e => hk I (by simp) o e, hk D (by simp) _ st.2⟩
  item := fun i s Q E hi st hQ => by
    obtain ⟨v, hv, hx⟩ := hnx i s hi st.2
    exact sit_int st.1 st.2 hf hn hx fun h' hit' sb => hQ v h' s.toks hv ⟨hit', by rw [sb.2 D hne]; exact st.2⟩ fun b o hb e => sb.extBut b o (fun q => hb (by simp [q])) e
  done := fun s Q E st hQ => sit_int_end hh st.1 st.2 hf hn (hend s st.2) fun h' tk he => hQ h' tk fun b o hb e => he b o (fun q => hb (by simp [q])) e
  self := fun _ _ _ _ st hQ => sit_self st.1 hQ
theorem sit_walksT (hh : A.handled = none) (hne : D ≠ I) (hTI : T ≠ I) (hf : t.fits es.size = true) (hn : es.size = n) (ord : List Nat) (hord : ord.length = n) (hlt : ∀ j ∈ ord, j < n) :
    Walks prog w A I [I, D, T] [I] n (fun i v => (ord.map fun j => (es.getD j (0, .none)).2)[i]? = some v)
      (fun i h => SIt h I D (.ref T) i n ep ∧ h.get? D = some (setO es ep t) ∧ h.get? T = some (seqObj "tuple" (ord.map fun (j : Nat) => rawInt j).toArray 0)) where
  sub := fun b hb => by simp at hb; simp [hb]
  frame := fun _ _ _ st hk => ⟨st.1.at fun o e => hk I (by simp) o e, hk D (by simp) _ st.2.1, hk T (by simp) _ st.2.2⟩
  item := fun i s Q E hi st hQ => by
    have hio : i < ord.length := by rw [hord]; exact hi
    have hj : ord[i] < es.size := by rw [hn]; exact hlt _ (List.getElem_mem hio)
    refine sit_tup st.1 st.2.1 hf hn st.2.2 (place := ord[i]) (h' := es[ord[i]].1) (x := es[ord[i]].2) (by simp [hio]) (by rw [Array.getElem?_eq_getElem hj]) fun h' hit' sb => ?_
    exact hQ _ h' s.toks (by simp [hio, hj]) ⟨hit', by rw [sb.2 D hne]; exact st.2.1, by rw [sb.2 T hTI]; exact st.2.2⟩ fun b o hb e => sb.extBut b o (fun q => hb (by simp [q])) e
  done := fun s Q E st hQ => sit_tup_end hh st.1 st.2.1 hf hn st.2.2 (by simp [hord]) fun h' tk he => hQ h' tk fun b o hb e => he b o (fun q => hb (by simp [q])) e
  self := fun _ _ _ _ st hQ => sit_self st.1 hQ
theorem next_byText (hbt : w.params.followText "set-order" = true) (hf : t.fits es.size = true) (hD : s.heap.get? D = some (setO es ep t)) {slot i : Nat} {Q : Option (Value × Nat) → Shared → Prop}
    (h : Q (((pickOrder (w.params.setOrder D ep) es)[i]?).map fun e => (e.2, slot)) s) : wpAny (model prog w) A (setNext D slot i ep) Q E s := by
  k_with "proof" =>
    unfold setNext
    refine wpAny_bind (wpAny_setState_of hD rfl hf ?_)
    dsimp only
    unfold setsByText
    refine wpAny_bind (wpAny_bind (wpAny_askSetting (wpAny_pure ?_)))
    split
    rotate_left
    · rename_i hq; exact absurd hbt hq
    rw [if_neg (by simp)]
    refine wpAny_bind ?_
    unfold setWalk setsByText
    refine wpAny_bind (wpAny_setState_of hD rfl hf ?_)
    dsimp only
    refine wpAny_bind (wpAny_bind (wpAny_askSetting (wpAny_pure ?_)))
    split
    rotate_left
    · rename_i hq; exact absurd hbt hq
    refine wpAny_bind (wpAny_askSetting (wpAny_pure ?_))
    exact wpAny_pure h
  run_tac Mine.sq default
theorem below_nil (j : Nat) : SetTable.below #[] j = 0 := rfl
theorem below_one0 (j : Nat) : SetTable.below #[j] 0 = 0 := by simp [SetTable.below, SetTable.below.go]
theorem below_one1 (j : Nat) : SetTable.below #[j] (j + 1) = 1 := by simp [SetTable.below, SetTable.below.go]
theorem next_few (hbt : w.params.followText "set-order" = false) (hl : t.led = true) (hf : t.fits es.size = true) (h1 : es.size ≤ 1) (hD : s.heap.get? D = some (setO es ep t)) {slot i : Nat} {Q : Option (Value × Nat) → Shared → Prop}
    (h : Q (match es[SetTable.below t.place slot]?, t.place[SetTable.below t.place slot]? with | some (_, x), some j => some (x, j + 1) | _, _ => none) s) : wpAny (model prog w) A (setNext D slot i ep) Q E s := by
  k_with "proof" =>
    unfold setNext
    refine wpAny_bind (wpAny_setState_of hD rfl hf ?_)
    dsimp only
    unfold setsByText
    refine wpAny_bind (wpAny_bind (wpAny_askSetting (wpAny_pure ?_)))
    split
    · rename_i hq; have := hq.symm.trans hbt; cases this
    have hdr : (!t.plain && decide (es.size > 1)) = false := by simp; omega
    have hmb : (!t.led && !es.isEmpty) = false := by simp [hl]
    k_delta "drawn"
    rw [hdr]
    k_delta "mustBeLedForItsPlaces"
    rw [hmb]
    exact wpAny_bind (wpAny_pure (wpAny_pure h))
  run_tac Mine.sq default
end
end Mine
end
section -- WSetH
open PySem PySem.W PySem.Calls PyProof.Rows
namespace Mine
/-- the values that a walk over a set gives are its texts, in some order -/
noncomputable def Texts (vs : List Value) (xs : List Str) : Prop := (vs.map strOfV).Perm xs ∧ ∀ v ∈ vs, ∃ x t, v = .str x t
section
variable {prog : Program} {w : World} {A : Around} {E : Value → Shared → Prop} {s : Shared} {I D T : Addr} {i n ep : Nat} {es : Array (Int × Value)} {t : SetTable} {so : Obj} {xs : List Str}
theorem texts_of (hel : ElemsOf (strKind prog w) es.toList) (hpm : (es.toList.map fun e => strOfV e.2).Perm xs) (out : List Value) (hp : out.Perm (es.toList.map (·.2))) : Texts out xs := by
  k_with "proof" =>
    refine ⟨(hp.map strOfV).trans (by rw [List.map_map]; exact hpm), fun v hv => ?_⟩
    obtain ⟨e, he, rfl⟩ := List.mem_map.mp (hp.mem_iff.mp hv)
    obtain ⟨⟨k, hk, _⟩, _⟩ := hel e he
    obtain ⟨u, hu⟩ := Value.isStrOf_shape hk
    exact ⟨k, u, hu⟩
  run_tac Mine.sq default
theorem getD_range (es : Array (Int × Value)) : (List.range es.size).map (fun j => (es.getD j (0, .none)).2) = es.toList.map (·.2) := by
  k_with "proof" =>
    apply List.ext_getElem?
    intro i
    by_cases hi : i < es.size
    · simp [hi]
    · simp [hi]
  run_tac Mine.sq default
theorem sset_iter {Q : Value → Shared → Prop} (hs : SSet prog w so xs) (hD : s.heap.get? D = some so) (hl : xs.length ≤ 4)
    (h : ∀ I h' dr fp St out, out.length = xs.length → (∀ A' : Around, A'.handled = none → Walks prog w A' I fp [I] xs.length (fun i v => out[i]? = some v) St) → St 0 h' → Texts out xs → (∀ b ∈ fp, b = D ∨ s.heap.objs.size ≤ b) → I ∈ fp → s.heap.objs.size ≤ I → s.heap.objs.size ≤ h'.objs.size →
      (∀ b o, s.heap.get? b = some o → h'.get? b = some o) → Q (.ref I) { s with heap := h', drawn := dr }) :
    wpAny (model prog w) A (pyIter (.ref D)) Q E s := by
  k_with "proof" =>
    obtain ⟨es, ep, t, rfl, hel, hpm, h1, h2, h3, h4, h5⟩ := hs
    have hsz : es.size = xs.length := by rw [← hpm.length_eq, List.length_map, Array.length_toList]
    have hf : t.fits es.size = true := by simp [SetTable.fits, SetTable.fill, h1, h2]; omega
    have hT : s.TypeIs (.ref D) "set" := ⟨_, hD, rfl⟩
    have hDs : D < s.heap.objs.size := Heap.lt_size hD
    refine wpAny_pyIter_slot hT slot_set_iter (wpAny_call_entry slot_set_iter hT entry_set_iter ?_ (args_set_iter _))
    unfold Builtin.«frozenset.__iter__» Builtin.Frozenset.slot0 slotArgs
    simp only [List.isEmpty_nil, Bool.not_true, Bool.false_eq_true, ↓reduceIte, bind_assoc, List.length_nil, bne_self_eq_false]
    unfold Builtin.Frozenset.addrOf Builtin.Frozenset.sizeOf
    refine wpAny_bind (wpAny_pure ?_)
    try dsimp only
    refine wpAny_bind (wpAny_pure ?_)
    refine wpAny_bind (wpAny_bind (wpAny_setEntries_of hD rfl hf (wpAny_pure ?_)))
    unfold setDrawn setsByText
    refine wpAny_bind (wpAny_bind (wpAny_setState_of hD rfl hf ?_))
    dsimp only
    refine wpAny_bind (wpAny_bind (wpAny_askSetting (wpAny_pure (wpAny_pure ?_))))
    have e0 : ({ program := (model prog w).prog, params := (model prog w).w.params } : Setting).params.followText "set-order" = w.params.followText "set-order" := rfl
    rw [e0]
    have mk : ∀ (f : Value) (s1 : Shared) (st : Heap → Nat → Prop), True := fun _ _ _ => trivial
    cases hb : w.params.followText "set-order" with
    | true =>
      simp only [Bool.not_true, Bool.false_and, Bool.false_eq_true, ↓reduceIte]
      refine wpAny_bind (wpAny_pure ?_)
      refine wpAny_bind (wpAny_setEpoch_of hD rfl hf ?_)
      unfold newFields
      refine wpAny_bind (wpAny_newObj_type (wpAny_pure ⟨_, rfl, "set_iterator", _, ⟨_, Heap.get?_push_size _ rfl, rfl⟩, slot_sit_next.lookup, ?_⟩))
      have hp := pick_perm (w.params.setOrder D ep) es
      have hps : (pickOrder (w.params.setOrder D ep) es).size = xs.length := by rw [← Array.length_toList, hp.length_eq, Array.length_toList, hsz]
      refine h _ _ s.drawn [s.heap.objs.size, D] _ ((pickOrder (w.params.setOrder D ep) es).toList.map (·.2)) (by simp [hps]) (fun A' hA' => sit_walks (es := es) (t := t) (ep := ep) (D := D) hA' (Nat.ne_of_lt hDs) hf hsz _ (fun _ => 0) ?_ ?_) ⟨⟨_, Heap.get?_push_size _ rfl, rfl, by rw [hsz]; rfl⟩, Heap.get?_push_of_some _ hD⟩ (texts_of hel hpm _ (hp.map _)) ?_ (.head _) (Nat.le_refl _) ?_ fun b o e => Heap.get?_push_of_some _ e
      · intro i s1 hi hD1
        have hi' : i < (pickOrder (w.params.setOrder D ep) es).size := by rw [hps]; exact hi
        refine ⟨_, by rw [List.getElem?_map, Array.getElem?_toList, Array.getElem?_eq_getElem hi']; rfl, fun A E Q hQ => next_byText hb hf hD1 ?_⟩
        rw [Array.getElem?_eq_getElem hi']; exact hQ
      · intro s1 hD1 A E Q hQ
        refine next_byText hb hf hD1 ?_
        rw [Array.getElem?_eq_none (by rw [hps]; exact Nat.le_refl _)]; exact hQ
      · intro b hb'
        rcases List.mem_cons.mp hb' with rfl | hb'
        · exact .inr (Nat.le_refl _)
        · exact .inl (List.mem_singleton.mp hb')
      · rw [size_push']; exact Nat.le_succ _
    | false =>
      by_cases h1s : es.size ≤ 1
      · have hdr : (!t.plain && decide (es.size > 1)) = false := by simp; omega
        k_delta "drawn"
        rw [hdr]
        simp only [Bool.not_false, Bool.and_false, Bool.false_eq_true, ↓reduceIte]
        refine wpAny_bind (wpAny_pure ?_)
        refine wpAny_bind (wpAny_setEpoch_of hD rfl hf ?_)
        unfold newFields
        refine wpAny_bind (wpAny_newObj_type (wpAny_pure ⟨_, rfl, "set_iterator", _, ⟨_, Heap.get?_push_size _ rfl, rfl⟩, slot_sit_next.lookup, ?_⟩))
        have hled : t.led = true := by rw [h5, hb]; rfl
        refine h _ _ s.drawn [s.heap.objs.size, D] _ (es.toList.map (·.2)) (by simp [hsz]) (fun A' hA' => sit_walks (es := es) (t := t) (ep := ep) (D := D) hA' (Nat.ne_of_lt hDs) hf hsz _ (fun i => if i = 0 then 0 else t.place.getD 0 0 + 1) ?_ ?_) ⟨⟨_, Heap.get?_push_size _ rfl, rfl, by rw [hsz]; rfl⟩, Heap.get?_push_of_some _ hD⟩ (texts_of hel hpm _ (.refl _)) ?_ (.head _) (Nat.le_refl _) ?_ fun b o e => Heap.get?_push_of_some _ e
        · intro i s1 hi hD1
          obtain ⟨e, he⟩ : ∃ e, es = #[e] := Array.size_eq_one_iff.mp (by omega)
          obtain ⟨j, hj⟩ : ∃ j, t.place = #[j] := Array.size_eq_one_iff.mp (by omega)
          have hi0 : i = 0 := by omega
          subst hi0
          refine ⟨e.2, by rw [he]; rfl, fun A E Q hQ => next_few hb hled hf h1s hD1 ?_⟩
          rw [hj, he]
          simp only [↓reduceIte, below_one0]
          have hQ' := hQ
          rw [hj] at hQ'
          exact hQ'
        · intro s1 hD1 A E Q hQ
          refine next_few hb hled hf h1s hD1 ?_
          by_cases hx : xs.length = 0
          · have he : es = #[] := Array.size_eq_zero_iff.mp (by omega)
            rw [he]
            simp only [hx, ↓reduceIte]
            simpa using hQ
          · obtain ⟨e, he⟩ : ∃ e, es = #[e] := Array.size_eq_one_iff.mp (by omega)
            obtain ⟨j, hj⟩ : ∃ j, t.place = #[j] := Array.size_eq_one_iff.mp (by omega)
            rw [hj, he, if_neg hx]
            have : (#[j] : Array Nat).getD 0 0 = j := rfl
            rw [this, below_one1]
            exact hQ
        · intro b hb'
          rcases List.mem_cons.mp hb' with rfl | hb'
          · exact .inr (Nat.le_refl _)
          · exact .inl (List.mem_singleton.mp hb')
        · rw [size_push']; exact Nat.le_succ _
      · have hpl : t.plain = false := h4 (by intro q; have q2 := congrArg List.length q; simp only [List.length_nil] at q2; omega)
        have hdr : (!t.plain && decide (es.size > 1)) = true := by simp [hpl]; omega
        k_delta "drawn"
        rw [hdr]
        simp only [Bool.not_false, Bool.and_true, ↓reduceIte]
        refine wpAny_bind (draw_perm _ _ _ _ (by simp) fun ord dr hord => ?_)
        refine wpAny_bind (wpAny_newTuple ?_ (by rw [sizeLine_eq, List.length_map, hord.length_eq, List.length_range]; omega))
        refine wpAny_bind (wpAny_setEpoch_of (Heap.get?_push_of_some _ hD) rfl hf ?_)
        unfold newFields
        refine wpAny_bind (wpAny_newObj_type (wpAny_pure ⟨_, rfl, "set_iterator", _, ⟨_, Heap.get?_push_size _ rfl, rfl⟩, slot_sit_next.lookup, ?_⟩))
        have hlo : ord.length = xs.length := by rw [hord.length_eq, List.length_range, hsz]
        have hlt : ∀ j ∈ ord, j < xs.length := fun j hj => by rw [← hsz]; exact List.mem_range.mp (hord.mem_iff.mp hj)
        refine h _ _ dr [_, D, s.heap.objs.size] _ (ord.map fun j => (es.getD j (0, .none)).2) (by simp [hlo]) (fun A' hA' => sit_walksT (es := es) (t := t) (ep := ep) (D := D) (T := s.heap.objs.size) hA' ?_ ?_ hf hsz ord hlo hlt) ⟨⟨_, Heap.get?_push_size _ rfl, rfl, by rw [hsz]; rfl⟩, Heap.get?_push_of_some _ (Heap.get?_push_of_some _ hD), Heap.get?_push_of_some _ (Heap.get?_push_size _ rfl)⟩ (texts_of hel hpm _ ?_) ?_ (.head _) ?_ ?_ fun b o e => Heap.get?_push_of_some _ (Heap.get?_push_of_some _ e)
        · dsimp only; rw [size_push']; exact Nat.ne_of_lt (Nat.lt_succ_of_lt hDs)
        · dsimp only; rw [size_push']; exact Nat.ne_of_lt (Nat.lt_succ_self _)
        · refine (hord.map _).trans ?_
          rw [← getD_range es]
        · intro b hb'
          dsimp only at hb' ⊢
          rcases List.mem_cons.mp hb' with rfl | hb'
          · exact .inr (by rw [size_push']; exact Nat.le_succ _)
          · rcases List.mem_cons.mp hb' with rfl | hb'
            · exact .inl rfl
            · exact .inr (by rw [List.mem_singleton.mp hb']; exact Nat.le_refl _)
        · dsimp only; rw [size_push']; exact Nat.le_succ _
        · dsimp only; rw [size_push', size_push']; exact Nat.le_trans (Nat.le_succ _) (Nat.le_succ _)
  run_tac Mine.sq default
end
end Mine
end
section -- WSetI
open PySem PySem.W PySem.Calls PyProof.Rows
namespace Mine
theorem set_has_len : typeLookup (.type "set") "__len__" = pure (some (.builtin "set.__len__")) := by rw [typeLookup_type, builtinLookup_eq_fast]; kernel_rfl
theorem split_set_len : splitId "set.__len__" = some ("set", "__len__") := by decide +kernel
theorem sub_set_set' : isSubtype (.type "set") (.type "set") = pure true := by rw [isSubtype_type]; kernel_rfl
section
variable {prog : Program} {w : World} {A : Around} {E : Value → Shared → Prop} {s : Shared} {D : Addr} {so : Obj} {xs : List Str}
theorem sset_hint {Q : Bool → Shared → Prop} (hT : s.TypeIs (.ref D) "set") (h : Q false s) : wpAny (model prog w) A (Builtin.List.listLengthHint (.ref D)) Q E s := by
  k_with "proof" =>
    unfold Builtin.List.listLengthHint
    refine wpAny_bind (wpAny_specialOf hT set_has_len ?_)
    dsimp only
    rw [split_set_len]
    dsimp only
    refine wpAny_bind (wpAny_isInstance (b := true) hT sub_set_set' ?_)
    simp only [Bool.not_true, Bool.false_eq_true, ↓reduceIte]
    k_delta "silentSize"
    refine wpAny_ite_split (fun _ => ?_) (fun hn => absurd (by decide +kernel) hn)
    refine wpAny_bind (wpAny_typeOf (T := "set") hT ?_)
    exact wpAny_pure h
  run_tac Mine.sq default
theorem sset_collect {Q : List Value → Shared → Prop} (hA : A.handled = none) (hs : SSet prog w so xs) (hD : s.heap.get? D = some so) (hl : xs.length ≤ 4)
    (h : ∀ vs h' tk dr, Texts vs xs → vs.length = xs.length → (∀ b o, s.heap.get? b = some o → h'.get? b = some o) → Q vs { s with heap := h', toks := tk, drawn := dr }) :
    wpAny (model prog w) A (collect (.ref D)) Q E s := by
  k_with "proof" =>
    have hDs : D < s.heap.objs.size := Heap.lt_size hD
    have hcls : so.cls = .type "set" := by obtain ⟨es, ep, t, rfl, _⟩ := id hs; rfl
    unfold collect
    refine wpAny_bind (wpAny_runValue (codeAny_builtin PySem.F.entry_proto_collect ?_))
    rw [Around.under_plainId PySem.F.plain_proto_collect _]
    show wpAny _ A.in1 (newList [] >>= fun l => again (.builtin "list.__iadd__" ⟨[l, .ref D], []⟩)) _ _ s
    refine wpAny_bind (wpAny_newObj_type ?_)
    refine wpAny_pure ⟨plainId_quiet PySem.F.plain_list_iadd _, codeAny_builtin PySem.F.entry_list_iadd ?_⟩
    rw [Around.under_plainId PySem.F.plain_list_iadd _]
    have h1 : Builtin.List.listSameRef (.ref s.heap.objs.size) (.ref D) = false := by simp [Builtin.List.listSameRef]; exact Ne.symm (Nat.ne_of_lt hDs)
    have hD1 : (s.heap.push { cls := .type "list", data := .seq ([] : List Value).toArray }).get? D = some so := Heap.get?_push_of_some _ hD
    show wpAny _ A.in1 (Builtin.List.listExtendWith (.ref s.heap.objs.size) (.ref D) (.ref s.heap.objs.size)) _ _ _
    unfold Builtin.List.listExtendWith
    refine wpAny_bind (wpAny_typeOf (T := "set") ⟨so, hD1, hcls⟩ ?_)
    rw [if_neg (by rw [h1]; decide)]
    refine wpAny_bind (sset_iter hs hD1 hl fun I h' dr fp St out hlen W hst htx hfp hI hIs hsz hk => ?_)
    refine wpAny_bind (wpAny_holding (sset_hint ⟨so, hk _ _ hD1, hcls⟩ ?_))
    show wpAny _ A.in1 (if _ then _ else _) _ _ _
    refine wpAny_ite_split (fun _ => ?_) (fun hn => absurd (by decide +kernel) hn)
    refine wpAny_bind (wpAny_rule ?_)
    refine wpAny_bind ?_
    show wpAny _ A.in1 (updateSeq s.heap.objs.size (·.push .none) >>= fun _ => updateSeq s.heap.objs.size (·.pop)) _ _ _
    have hS0 : (s.heap.push { cls := .type "list", data := .seq ([] : List Value).toArray }).get? s.heap.objs.size = some { cls := .type "list", data := .seq ([] : List Value).toArray } := Heap.get?_push_size _ rfl
    have hS₁ := hk _ _ hS0
    refine wpAny_bind (wpAny_updateSeq hS₁ rfl ?_)
    have hS₂ := Heap.get?_update_self (Obj.mapSeq (·.push Value.none)) hS₁ rfl
    refine wpAny_updateSeq hS₂ rfl ?_
    have hS₃ := Heap.get?_update_self (Obj.mapSeq (·.pop)) hS₂ rfl
    have oth : ∀ b o, b ≠ s.heap.objs.size → h'.get? b = some o → ((h'.update s.heap.objs.size (Obj.mapSeq (·.push Value.none))).update s.heap.objs.size (Obj.mapSeq (·.pop))).get? b = some o :=
      fun b o hb e => (Heap.get?_update_other _ _ (Ne.symm hb)).trans ((Heap.get?_update_other _ _ (Ne.symm hb)).trans e)
    have hSf : s.heap.objs.size ∉ fp := fun hm => by
      rcases hfp _ hm with q | q
      · exact Nat.ne_of_lt hDs q.symm
      · rw [size_push'] at q; exact Nat.lt_irrefl _ q
    have W1 := W A.in1 hA
    refine wpAny_pure ⟨plainId_quiet PySem.F.plain_extend_loop _, codeAny_extend_loopS (A := A) (St := fun i s => St i s.heap) W1.toS (by rw [sizeLine_eq]; omega) _ hSf _ xs.length 0 _ _ _ rfl (Nat.zero_le _) (W1.frame 0 _ _ hst fun b hb o e => oth b o (fun q => hSf (q ▸ hb)) e) hS₃ (ItemsOf.nil _) fun s' acc' c' hm hS' hacc => ?_⟩
    show wpAny _ A (load s.heap.objs.size >>= _) _ _ s'
    refine wpAny_bind (wpAny_load hS' ?_)
    have hout : acc'.toList = out := by
      apply List.ext_getElem?
      intro j
      cases hj : acc'[j]? with
      | none =>
        have h9 : acc'.size ≤ j := by simpa using hj
        rw [Array.getElem?_toList, hj, List.getElem?_eq_none (by rw [hlen, ← hacc.1]; exact h9)]
      | some v => rw [Array.getElem?_toList, hj, hacc.2 j v hj]
    have hkeep : ∀ b o, s.heap.get? b = some o → s'.heap.get? b = some o := fun b o e => by
      have hb : b < s.heap.objs.size := Heap.lt_size e
      have hb1 : b ≠ s.heap.objs.size := Nat.ne_of_lt hb
      have hbI : b ≠ I := fun q => by rw [size_push'] at hIs; rw [← q] at hIs; exact Nat.lt_irrefl _ (Nat.lt_of_lt_of_le hb (Nat.le_trans (Nat.le_succ _) hIs))
      refine hm.heap b o (by simp [hb1, hbI]) (oth b o hb1 (hk _ _ (Heap.get?_push_of_some _ e)))
    obtain ⟨h3, g3, d3, t3, o3⟩ := s'
    have e1 : g3 = s.gens := hm.gens
    have e2 : d3 = dr := hm.drawn
    have e3 : o3 = s.os := hm.os
    subst e1 e2 e3
    refine wpAny_pure ?_
    show Q acc'.toList _
    rw [hout]
    exact h out h3 t3 d3 htx hlen hkeep
  run_tac Mine.sq default
end
end Mine
end
section -- WSetJ
open PySem PySem.W PySem.Calls PyProof.Rows
namespace Mine
section
variable {prog : Program} {w : World} {A : Around} {E : Value → Shared → Prop} {s : Shared} {h₀ : Heap} {L D d : Addr} {m : Str → Option Value} {news : List (Addr × Obj)} {so : Obj}
theorem sset_add0 {y : Str} {tk : Tok} {Q : Bool → Shared → Prop} (F : Fr h₀ L s.heap m) (N : News h₀ L s.heap ((D, so) :: news)) (hDn : ∀ p ∈ news, p.1 < D) (hs : SSet prog w so [])
    (h : ∀ h' so', Fr h₀ L h' m → News h₀ L h' ((D, so') :: news) → SSet prog w so' [y] → Q true { s with heap := h', toks := s.toks + 1 }) :
    wpAny (model prog w) A (setAdd D (.str y tk)) Q E s := by
  unfold setAdd
  refine wpAny_holding ?_
  refine wpAny_bind ((strKind prog w).pyHash (k := y) (strKind_is _ _ _ _) ?_)
  exact sset_add (s := { s with toks := s.toks + 1 }) F N (UpdF.head fun p hp => Nat.ne_of_lt (hDn p hp)) hs (Nat.zero_le _) (by simp) fun h' so' F' N' hs' _ => h h' so' F' N' hs'
theorem sset_star1 {as : List (Str × Tok × Value)} {n : Nat} {y : Str} {Q : Unit → Shared → Prop} (hA : A.handled = none) (F : Fr h₀ L s.heap m) (N : News h₀ L s.heap ((D, so) :: news)) (hDn : ∀ p ∈ news, p.1 < D)
    (hs : SSet prog w so [y]) (hd : (d, dictOf (aD w as) n) ∈ news) (hlo : (d == sysModules) = false) (hl : as.length ≤ 3) (hnd : (as.map (·.1) ++ [y]).Nodup)
    (h : ∀ h' tk so', Fr h₀ L h' m → News h₀ L h' ((D, so') :: news) → SSet prog w so' ((as.map (·.1)).reverse ++ [y]) → Q () { s with heap := h', toks := tk }) :
    wpAny (model prog w) A (setDisplayStar D (.ref d)) Q E s :=
  sset_star hA F N (fun p hp => Nat.ne_of_lt (hDn p hp)) hs hd hlo (by simp only [List.length_singleton]; omega) hnd h
end
/-- in every course of the answers only asks within reach, and a good end -/
noncomputable def okB {α : Type} (ask : Nat → Nat → Bool) (leaf : α → Bool) : KasT α → Bool
  | .ret a => leaf a
  | .ask i j k => ask i j && okB ask leaf (k true) && okB ask leaf (k false)
theorem kas_okB {α : Type} {ask : Nat → Nat → Bool} {leaf : α → Bool} {cmp : Nat → Nat → (Bool → Shared → Prop) → Shared → Prop} {Q : α → Shared → Prop} {I : Shared → Prop}
    (hc : ∀ i j C s, ask i j = true → I s → (∀ b s', I s' → C b s') → cmp i j C s) (hq : ∀ a s, leaf a = true → I s → Q a s) : ∀ (t : KasT α) (s : Shared), okB ask leaf t = true → I s → t.kasWp cmp Q s
  | .ret a, s, h, hi => hq a s h hi
  | .ask i j k, s, h, hi => by
    simp only [okB, Bool.and_eq_true] at h
    exact hc i j _ s h.1.1 hi fun b s' hi' => by
      cases b with
      | true => exact kas_okB hc hq (k true) s' h.1.2 hi'
      | false => exact kas_okB hc hq (k false) s' h.2 hi'
theorem sort3_ok : okB (fun i j => decide (i < 3) && decide (j < 3)) (fun p => p.toList.isPerm [0, 1, 2]) (kas_sort 3) = true := by decide +kernel
end Mine
end
section -- WSetK
open PySem PySem.W PySem.Calls PyProof.Rows
namespace Mine
theorem sub_ll : isSubtype (.type "list") (.type "list") = pure true := by rw [isSubtype_type]; kernel_rfl
section
variable {prog : Program} {w : World} {A : Around} {E : Value → Shared → Prop} {s : Shared}
theorem lt_call {a b : Addr} {x y : Str} {t u : Tok} {n k : Nat} {Q : Value → Shared → Prop} (ha : s.heap.get? a = some (listOf #[.str x t] n)) (hb : s.heap.get? b = some (listOf #[.str y u] k)) (h : ∀ c, Q (.bool c) s) :
    wpAny (model prog w) A (call (.builtin "list.__lt__") [.ref a, .ref b]) Q E s := by
  k_with "proof" =>
    have hTb : s.TypeIs (.ref b) "list" := ⟨_, hb, rfl⟩
    refine wpAny_call (codeAny_call_builtin PySem.F.slot_list_lt.plain PySem.F.entry_list_lt (PySem.F.slot_list_lt.check _ _ _ _ _ _ _ _ ⟨_, ha, rfl⟩ (PySem.F.args_list_lt_2 _ _) ?_))
    unfold Builtin.«list.__lt__»
    k_delta "listCompare"
    refine wpAny_bind (m := slotArgs "__lt__" 1 _) (wpAny_pure ?_)
    refine wpAny_bind (wpAny_isInstance hTb sub_ll ?_)
    simp only [Bool.not_true, Bool.false_eq_true, ↓reduceIte]
    refine wpAny_pure ⟨plainId_quiet MeetsSeq3.plain_eq_loop _, codeAny_builtin MeetsSeq3.entry_eq_loop ?_⟩
    rw [Around.under_plainId MeetsSeq3.plain_eq_loop _]
    show wpAny _ A.in1 (Builtin.«list.__eq__.loop» ⟨[.ref a, .ref b, rawInt 0, rawInt 0], []⟩) _ _ s
    unfold Builtin.«list.__eq__.loop»
    dsimp only [rawInt]
    k_delta "cmpOps"
    refine wpAny_bind (m := Builtin.List.listItems (.ref a)) (listItems_at ha rfl ?_)
    refine wpAny_bind (m := Builtin.List.listItems (.ref b)) (listItems_at hb rfl ?_)
    show wpAny _ A.in1 (eqBool (.str x t) (.str y u) >>= _) _ _ s
    refine wpAny_bind (wpAny_eqBool_str ?_)
    refine wpAny_ite_split (fun _ => ?_) fun _ => ?_
    · refine wpAny_pure ⟨plainId_quiet MeetsSeq3.plain_eq_loop _, codeAny_builtin MeetsSeq3.entry_eq_loop ?_⟩
      rw [Around.under_plainId MeetsSeq3.plain_eq_loop _]
      unfold Builtin.«list.__eq__.loop»
      dsimp only
      k_delta "cmpOps"
      refine wpAny_bind (m := Builtin.List.listItems (.ref a)) (listItems_at ha rfl ?_)
      refine wpAny_bind (m := Builtin.List.listItems (.ref b)) (listItems_at hb rfl ?_)
      refine wpAny_bind (m := Builtin.List.listItems (.ref a)) (listItems_at ha rfl ?_)
      refine wpAny_bind (m := Builtin.List.listItems (.ref b)) (listItems_at hb rfl ?_)
      exact wpAny_pure (h _)
    · refine wpAny_bind (m := Builtin.List.listItems (.ref a)) (listItems_at ha rfl ?_)
      refine wpAny_bind (m := Builtin.List.listItems (.ref b)) (listItems_at hb rfl ?_)
      show wpAny _ A.in1 (compareOp .Lt (.str x t) (.str y u) >>= _) _ _ s
      refine wpAny_bind (PyProof.Rows.lt_str ?_)
      exact wpAny_pure (h _)
  run_tac Mine.sq default
theorem lt_ask {a b : Addr} {x y : Str} {t u : Tok} {n k : Nat} {Q : Bool → Shared → Prop} (hu : A.units < cLine) (ha : s.heap.get? a = some (listOf #[.str x t] n)) (hb : s.heap.get? b = some (listOf #[.str y u] k)) (h : ∀ c, Q c s) :
    wpAny (model prog w) A (keyLt' oneType' (.ref a) (.ref b)) Q E s := by
  k_with "proof" =>
    rw [keyLt'_oneType, oneLt'_eq]
    simp only [if_true]
    refine wpAny_bind (wpAny_cRoomFor hu ?_)
    refine wpAny_bind (wpAny_callSpecialIfBound?_slot ⟨_, ha, rfl⟩ PySem.F.slot_list_lt (lt_call ha hb fun c => ?_))
    exact wpAny_truthy_bool (h c)
  run_tac Mine.sq default
end
end Mine
end
section -- WSetL
open PySem PySem.W PySem.Calls PyProof.Rows
namespace Mine
section
variable {prog : Program} {w : World} {A : Around} {E : Value → Shared → Prop} {s : Shared} {h₀ : Heap} {L a kS : Addr} {m : Str → Option Value} {news : List (Addr × Obj)} {vs ks : List Value}
theorem rest_g {f : Value} {e1 : Nat} {P : PySem.Fin → Shared → Prop} {Fi : List Value → Nat → Shared → Prop} (hk : s.heap.get? kS = some (seqObj "list" #[] 0)) (h64 : vs.length < 64)
    (hfin : ∀ ks e s', ks.length = vs.length → Fi ks e s' → wpAny (model prog w) A (ksk_end a false vs.toArray e1 (.ref kS) (List.toArray ks)) P E s')
    (h : KatKeys prog w A h₀ L m kS f Fi vs [] 0 s) :
    wpAny (model prog w) A (ksk_rest a f false vs.toArray e1 (.ref kS)) P E s := by
  k_with "proof" =>
    unfold ksk_rest
    refine wpAny_bind (wpAny_rule ?_)
    first
      | rw [List.forIn_toArray]
      | (rw [← Array.forIn_toList]; simp only [List.toList_toArray])
      | rw [← Array.forIn_toList]
    refine wpAny_bind (wpAny_mono (kat_fold h64 (fun x ks e s' C hz hx => ?_) vs [] 0 s (by simp) hk h) (fun _ s' hd => ?_) fun _ _ x => x)
    · refine wpAny_bind (wpAny_attempt (wpAny_mono hx (fun k s'' hk => ?_) fun _ _ hF => hF.elim))
      obtain ⟨news', g, F', N', U, c⟩ := hk
      obtain ⟨pre, post, e0, hg, x1, x2⟩ := U.split
      rw [e0] at N'
      have nk := N' (kS, seqObj "list" (List.toArray ks) e) (List.mem_append_right _ (.head _))
      have s1 := Heap.SameBut.update s''.heap kS (Obj.mapSeq (·.push k))
      have ea : (List.toArray ks).push k = List.toArray (ks ++ [k]) := by simp
      obtain ⟨c2, hc2⟩ : ∃ c2, (s''.heap.update kS (Obj.mapSeq (·.push k))).get? kS = some (seqObj "list" (List.toArray (ks ++ [k])) c2) := ⟨_, by rw [← ea]; exact get?_update_seq nk.1 (·.push k)⟩
      try dsimp only
      refine wpAny_bind (listUpdate_at nk.1 rfl ?_ (by rw [List.size_toArray, sizeLine_eq]; omega) (Nat.le_trans (Nat.le_of_eq (Array.size_push ..)) (by rw [List.size_toArray, sizeLine_eq]; omega)))
      exact wpAny_pure ⟨rfl, k, c2, hc2, c _ c2 (kas_fr F' s1 nk.2.1 nk.2.2) (by rw [hg]; exact news_set N' x1 x2 s1 hc2)⟩
    · obtain ⟨ks, e, hk', hl, fin⟩ := hd
      try dsimp only
      refine wpAny_bind (listItems_at hk' rfl ?_)
      exact hfin ks e s' hl fin
  run_tac Mine.sq default
theorem keyed_g {f : Value} {n : Nat} {P : PySem.Fin → Shared → Prop} (F : Fr h₀ L s.heap m) (N : News h₀ L s.heap news) (ho : s.heap.get? a = some (seqObj "list" vs.toArray n)) (haL : a ≠ L) (ha0 : h₀.get? a = none) (hna : ∀ p ∈ news, p.1 < a)
    (h64 : vs.length < 64)
    (h : ∀ kS e1 h', Fr h₀ L h' m → News h₀ L h' ((kS, seqObj "list" #[] 0) :: (a, seqObj "list" #[] e1) :: news) → a < kS →
      ∃ Fi, (∀ ks e s', ks.length = vs.length → Fi ks e s' → wpAny (model prog w) A (ksk_end a false vs.toArray e1 (.ref kS) (List.toArray ks)) P E s') ∧ KatKeys prog w A h₀ L m kS f Fi vs [] 0 { s with heap := h' }) :
    wpAny (model prog w) A (ksk_tree a f false) P E s := by
  k_with "proof" =>
    have ha : a < s.heap.objs.size := Heap.lt_size ho
    have s1 := Heap.SameBut.update s.heap a (Obj.mapSeq fun _ => (#[] : Array Value))
    obtain ⟨e1, ho1⟩ : ∃ e1, (s.heap.update a (Obj.mapSeq fun _ => (#[] : Array Value))).get? a = some (seqObj "list" #[] e1) := ⟨_, get?_update_seq ho fun _ => #[]⟩
    have F1 := kas_fr F s1 haL ha0
    have N1 := kas_news N s1 fun p hp => Nat.ne_of_lt (hna p hp)
    have hkS : ((s.heap.update a (Obj.mapSeq fun _ => (#[] : Array Value))).push (seqObj "tuple" vs.toArray 0)).objs.size = s.heap.objs.size + 1 := by rw [size_push', Heap.size_update]
    have hLk : L < ((s.heap.update a (Obj.mapSeq fun _ => (#[] : Array Value))).push (seqObj "tuple" vs.toArray 0)).objs.size := (F1.push _).ns.lt
    unfold ksk_tree
    refine wpAny_bind (listItems_at ho rfl ?_)
    refine wpAny_bind (listUpdate_at ho rfl ?_ (by rw [List.size_toArray, sizeLine_eq]; omega) (Nat.zero_le _))
    refine wpAny_bind (seqEpoch_at ho1 rfl ?_)
    refine wpAny_bind (wpAny_newTuple ?_ (by show vs.length ≤ _; rw [sizeLine_eq]; omega))
    refine wpAny_bind (wpAny_newList ?_ (Nat.zero_le _))
    refine wpAny_holding ?_
    obtain ⟨Fi, h1, h2⟩ := h ((s.heap.update a (Obj.mapSeq fun _ => (#[] : Array Value))).push (seqObj "tuple" vs.toArray 0)).objs.size e1 (((s.heap.update a (Obj.mapSeq fun _ => (#[] : Array Value))).push (seqObj "tuple" vs.toArray 0)).push (seqObj "list" #[] 0)) ((F1.push _).push _) (fun p hp => by
      rcases List.mem_cons.mp hp with rfl | hp
      · exact ⟨Heap.get?_push_size _ rfl, Nat.ne_of_gt hLk, Heap.get?_none_of_le (Nat.le_trans F.above (Nat.le_of_lt hLk))⟩
      · rcases List.mem_cons.mp hp with rfl | hp
        · exact ⟨Heap.get?_push_of_some _ (Heap.get?_push_of_some _ ho1), haL, ha0⟩
        · exact ⟨Heap.get?_push_of_some _ (Heap.get?_push_of_some _ (N1 p hp).1), (N1 p hp).2⟩) (by rw [hkS]; exact Nat.lt_succ_of_lt ha)
    exact rest_g (s := { s with heap := ((s.heap.update a (Obj.mapSeq fun _ => (#[] : Array Value))).push (seqObj "tuple" vs.toArray 0)).push (seqObj "list" #[] 0) }) (kS := ((s.heap.update a (Obj.mapSeq fun _ => (#[] : Array Value))).push (seqObj "tuple" vs.toArray 0)).objs.size)
      (Heap.get?_push_size _ rfl) h64 h1 h2
  run_tac Mine.sq default
theorem end_1 {v : Value} {e e1 : Nat} {P : PySem.Fin → Shared → Prop} (hl : ks.length = 1) (h : KatFin h₀ L m kS a ks e e1 [v] (fun s3 => P (.done (.ret .none)) s3) s) :
    wpAny (model prog w) A (ksk_end a false [v].toArray e1 (.ref kS) (List.toArray ks)) P E s := by
  k_with "proof" =>
    obtain ⟨k, rfl⟩ := List.length_eq_one_iff.mp hl
    unfold ksk_end
    try dsimp only
    have h2 : ([v].toArray : Array Value).size < 2 := Nat.lt_succ_self 1
    rw [if_neg Bool.false_ne_true, if_pos h2, if_pos h2]
    refine wpAny_bind (wpAny_pure ?_)
    refine wpAny_bind (wpAny_pure ?_)
    exact kat_tail (b := false) (out := [v]) (by show Array.map (·.2) (#[k].zip #[v]) = #[v]; simp) (by simp) (by simp) rfl h
  run_tac Mine.sq default
theorem updF_app {d : Addr} {o : Obj} {post : List (Addr × Obj)} (h2 : ∀ p ∈ post, p.1 ≠ d) : ∀ pre : List (Addr × Obj), (∀ p ∈ pre, p.1 ≠ d) → UpdF d o (pre ++ (d, o) :: post) (fun o' => pre ++ (d, o') :: post)
  | [], _ => .head h2
  | p :: pre, h => .tail (h p (.head _)) (updF_app h2 pre fun q hq => h q (.tail _ hq))
/-- what the key function does: it lays each text into a list of its own -/
noncomputable def KeyRule (prog : Program) (w : World) (A : Around) (h₀ : Heap) (L : Addr) (m : Str → Option Value) (fl : Addr) (news : List (Addr × Obj)) (xs : List Str) : Prop :=
  ∀ (x : Str) (t : Tok) (nw : List (Addr × Obj)) (s1 : Shared) (Q : Value → Shared → Prop), x ∈ xs → (∀ p ∈ news, p ∈ nw) → Fr h₀ L s1.heap m → News h₀ L s1.heap nw →
    (∀ R t' n h' tk, Fr h₀ L h' m → News h₀ L h' ((R, listOf #[.str x t'] n) :: nw) → (∀ p ∈ nw, p.1 < R) → Q (.ref R) { s1 with heap := h', toks := tk }) → wpAny (model prog w) A (call (.ref fl) [.str x t]) Q (fun _ _ => False) s1
noncomputable def KeysIn (kl : List (Addr × Obj)) (ks : List Value) : Prop := ∀ k ∈ ks, ∃ R x t n, k = .ref R ∧ (R, listOf #[.str x t] n) ∈ kl
structure SamS (s0 s : Shared) : Prop where
  g : s.gens = s0.gens
  o : s.os = s0.os
  d : s.drawn = s0.drawn
theorem keys_run {fl : Addr} {xs : List Str} {s0 : Shared} {D : Addr} {e1 n : Nat} {Fi : List Value → Nat → Shared → Prop} (hk : KeyRule prog w A h₀ L m fl news xs) (hD : D ≠ kS) (hnk : ∀ p ∈ news, p.1 ≠ kS)
    (hfin : ∀ ks e s kl, Fr h₀ L s.heap m → News h₀ L s.heap (kl ++ (kS, listOf ks.toArray e) :: (D, listOf #[] e1) :: news) → (∀ p ∈ kl, D < p.1 ∧ kS < p.1) → KeysIn kl ks → SamS s0 s → ks.length = n → Fi ks e s) :
    ∀ (r ks : List Value) (e : Nat) (s : Shared) (kl : List (Addr × Obj)), (∀ v ∈ r, ∃ x t, v = .str x t ∧ x ∈ xs) → Fr h₀ L s.heap m → News h₀ L s.heap (kl ++ (kS, listOf ks.toArray e) :: (D, listOf #[] e1) :: news) → (∀ p ∈ kl, D < p.1 ∧ kS < p.1) → KeysIn kl ks → SamS s0 s → ks.length + r.length = n →
      KatKeys prog w A h₀ L m kS (.ref fl) Fi r ks e s
  | [], ks, e, s, kl, hr, F, N, h1, h2, h3, h4 => KatKeys.nil (hfin ks e s kl F N h1 h2 h3 (by simpa using h4))
  | v :: r, ks, e, s, kl, hr, F, N, h1, h2, h3, h4 => by
    obtain ⟨x, t, rfl, hx⟩ := hr v (.head _)
    refine KatKeys.cons (hk x t _ s _ hx (fun p hp => List.mem_append_right _ (.tail _ (.tail _ hp))) F N fun R t' n' h' tk F' N' hlt => ?_)
    have hkR : kS < R := hlt (kS, listOf ks.toArray e) (List.mem_append_right _ (.head _))
    have hDR : D < R := hlt (D, listOf #[] e1) (List.mem_append_right _ (.tail _ (.head _)))
    have hpre : ∀ p ∈ (R, listOf #[.str x t'] n') :: kl, D < p.1 ∧ kS < p.1 := fun p hp => by
      rcases List.mem_cons.mp hp with rfl | hp
      · exact ⟨hDR, hkR⟩
      · exact h1 p hp
    refine KatBack.intro F' N' (updF_app (pre := (R, listOf #[.str x t'] n') :: kl) (fun p hp => ?_) fun p hp => Nat.ne_of_gt (hpre p hp).2) fun h2' c F2 N2 => ?_
    · rcases List.mem_cons.mp hp with rfl | hp
      · exact hD
      · exact hnk p hp
    · refine keys_run hk hD hnk hfin r (ks ++ [.ref R]) c { s with heap := h2', toks := tk } ((R, listOf #[.str x t'] n') :: kl) (fun v hv => hr v (.tail _ hv)) F2 N2 hpre ?_ ⟨h3.g, h3.o, h3.d⟩ (by rw [List.length_append, List.length_singleton]; rw [List.length_cons] at h4; omega)
      intro k hk'
      rcases List.mem_append.mp hk' with hk' | hk'
      · obtain ⟨R0, x0, t0, n0, rfl, hm⟩ := h2 k hk'
        exact ⟨R0, x0, t0, n0, rfl, .tail _ hm⟩
      · rw [List.mem_singleton.mp hk']
        exact ⟨R, x, t', n', rfl, .head _⟩
end
end Mine
end
section -- WSetM
open PySem PySem.W PySem.Calls PyProof.Rows
namespace Mine
theorem texts_len {vs : List Value} {xs : List Str} (h : Texts vs xs) : vs.length = xs.length := by
  rw [← h.1.length_eq, List.length_map]
theorem texts_perm {vs out : List Value} {xs : List Str} (h : Texts vs xs) (hp : out.Perm vs) : Texts out xs :=
  ⟨(hp.map _).trans h.1, fun v hv => h.2 v (hp.mem_iff.mp hv)⟩
theorem texts_each {vs : List Value} {xs : List Str} (h : Texts vs xs) : ∀ v ∈ vs, ∃ x t, v = .str x t ∧ x ∈ xs := fun v hv => by
  obtain ⟨x, t, rfl⟩ := h.2 v hv
  exact ⟨x, t, rfl, h.1.mem_iff.mp (List.mem_map.mpr ⟨_, hv, rfl⟩)⟩
theorem getD3 : ∀ vs : List Value, vs.length = 3 → [0, 1, 2].map (fun i => vs.getD i Value.none) = vs
  | [a, b, c], _ => rfl
section
variable {prog : Program} {w : World} {A : Around} {E : Value → Shared → Prop} {s : Shared} {h₀ : Heap} {L a kS : Addr} {m : Str → Option Value} {news : List (Addr × Obj)} {vs ks : List Value}
theorem keysIn_at {kl rest : List (Addr × Obj)} {h : Heap} (hk : KeysIn kl ks) (N : News h₀ L h (kl ++ rest)) : ∀ k ∈ ks, ∃ R x t n, k = .ref R ∧ h.get? R = some (listOf #[.str x t] n) := fun k hm => by
  obtain ⟨R, x, t, n, rfl, hx⟩ := hk k hm
  exact ⟨R, x, t, n, rfl, (N _ (List.mem_append_left _ hx)).1⟩
/-- the end of the sort, for one key or three -/
theorem end_g {e e1 : Nat} {s : Shared} {kl : List (Addr × Obj)} {P : PySem.Fin → Shared → Prop} (hu : A.units < cLine) (hl : ks.length = vs.length) (hn : vs.length = 1 ∨ vs.length = 3)
    (F : Fr h₀ L s.heap m) (N : News h₀ L s.heap (kl ++ (kS, listOf ks.toArray e) :: (a, listOf #[] e1) :: news)) (hkl : ∀ p ∈ kl, a < p.1 ∧ kS < p.1) (hak : a < kS) (hna : ∀ p ∈ news, p.1 < a) (hk : KeysIn kl ks)
    (h : ∀ (out : List Value) h' tk n, out.Perm vs → Fr h₀ L h' m → News h₀ L h' ((a, listOf out.toArray n) :: news) → P (.done (.ret .none)) { s with heap := h', toks := tk }) :
    wpAny (model prog w) A (ksk_end a false vs.toArray e1 (.ref kS) (List.toArray ks)) P E s := by
  k_with "proof" =>
    have hat := keysIn_at hk N
    have hnk : ∀ p ∈ (a, listOf #[] e1) :: news, p.1 ≠ kS := fun p hp => by
      rcases List.mem_cons.mp hp with rfl | hp
      · exact Nat.ne_of_lt hak
      · exact Nat.ne_of_lt (Nat.lt_trans (hna p hp) hak)
    have fin : ∀ out : List Value, out.Perm vs → KatFin h₀ L m kS a ks e e1 out (fun s3 => P (.done (.ret .none)) s3) s := fun out ho => by
      refine KatFin.intro F N (updF_app hnk kl fun p hp => Nat.ne_of_gt (hkl p hp).2) fun h1 c F1 N1 => ?_
      have e9 : kl ++ (kS, (seqObj "list" #[] c : Obj)) :: (a, listOf #[] e1) :: news = (kl ++ [(kS, seqObj "list" #[] c)]) ++ (a, listOf #[] e1) :: news := by simp
      have N1' : News h₀ L h1 ((kl ++ [(kS, seqObj "list" #[] c)]) ++ (a, listOf #[] e1) :: news) := e9 ▸ N1
      refine KasFin.intro F1 N1' (updF_app (fun p hp => Nat.ne_of_lt (hna p hp)) _ fun p hp => ?_) fun h2 c2 F2 N2 => ?_
      · rcases List.mem_append.mp hp with hp | hp
        · exact Nat.ne_of_gt (hkl p hp).1
        · rw [List.mem_singleton.mp hp]; exact Nat.ne_of_gt hak
      · exact h out h2 s.toks c2 ho F2 fun p hp => N2 p (List.mem_append_right _ hp)
    rcases hn with hn | hn
    · obtain ⟨v, rfl⟩ := List.length_eq_one_iff.mp hn
      exact end_1 (hl.trans hn) (fin [v] (.refl _))
    · refine kat_end (h₀ := h₀) (L := L) (m := m) (e := e) (b := false) hl (by omega) (by omega) ?_
      refine kas_kind (T := .type "list") (by omega) (fun v hv => ?_) rfl (by decide) ?_
      · obtain ⟨R, x, t, n, rfl, hg⟩ := hat v hv
        exact (Looks.ld hg).andThen .now
      rw [hn]
      refine kas_okB (I := fun s' => s' = s) (fun i j C s' hij hs hC => ?_) (fun p s' hp hs => ?_) _ s sort3_ok rfl
      · subst hs
        simp only [Bool.and_eq_true, decide_eq_true_eq] at hij
        have at' : ∀ i, i < 3 → ∃ R x t n, ks.getD i Value.none = .ref R ∧ s'.heap.get? R = some (listOf #[.str x t] n) := fun i hi => by
          have hi' : i < ks.length := by omega
          refine hat _ ?_
          rw [List.getD_eq_getElem?_getD, List.getElem?_eq_getElem hi', Option.getD_some]
          exact List.getElem_mem hi'
        obtain ⟨R1, x1, t1, n1, q1, g1⟩ := at' i hij.1
        obtain ⟨R2, x2, t2, n2, q2, g2⟩ := at' j hij.2
        show wpAny (model prog w) A (keyLt' oneType' (ks.getD i Value.none) (ks.getD j Value.none)) C _ s'
        rw [q1, q2]
        exact lt_ask hu g1 g2 fun c => hC c s' rfl
      · subst hs
        have hp' : p.toList.Perm [0, 1, 2] := List.isPerm_iff.mp hp
        show KatFin h₀ L m kS a ks e e1 (p.toList.map fun i => vs.getD i Value.none) _ s'
        refine fin _ ?_
        have := hp'.map (fun i => vs.getD i Value.none)
        rw [getD3 vs hn] at this
        exact this
  run_tac Mine.sq default
theorem sset_sortedK {D fl : Addr} {so : Obj} {xs : List Str} {Q : Value → Shared → Prop} (hA : A.handled = none) (hu : A.units + 2 < cLine) (F : Fr h₀ L s.heap m) (N : News h₀ L s.heap news) (hD : (D, so) ∈ news) (hs : SSet prog w so xs) (hn : xs.length = 1 ∨ xs.length = 3)
    (hk : KeyRule prog w A.in1.in1 h₀ L m fl news xs)
    (h : ∀ S n vs h' tk dr, Texts vs xs → Fr h₀ L h' m → News h₀ L h' ((S, listOf vs.toArray n) :: news) → (∀ p ∈ news, p.1 < S) → Q (.ref S) { s with heap := h', toks := tk, drawn := dr }) :
    wpAny (model prog w) A (call (.builtin "sorted") [.ref D] [(Str.ofString "key", .ref fl)]) Q E s := by
  k_with "proof" =>
    refine call_function_entry_kw kind_sorted plain_sorted entry_sorted (ksk_s1 _ _) ?_
    unfold Builtin.«sorted»
    refine wpAny_bind (m := checkCount "sorted" 1 1 _) (wpAny_pure ?_)
    refine wpAny_bind (sset_collect hA hs (N _ hD).1 (by omega) fun vs h' tk dr ht hlen keep => ?_)
    refine wpAny_bind (wpAny_newList ?_ (by rw [sizeLine_eq]; omega))
    have F1 : Fr h₀ L (h'.push (seqObj "list" vs.toArray 0)) m := (F.kept keep).push _
    have N1 : News h₀ L (h'.push (seqObj "list" vs.toArray 0)) news := fun p hp => ⟨Heap.get?_push_of_some _ (keep _ _ (N p hp).1), (N p hp).2⟩
    have hlt : ∀ p ∈ news, p.1 < h'.objs.size := fun p hp => Heap.lt_size (keep _ _ (N p hp).1)
    have hL : L < h'.objs.size := (F.kept keep).ns.lt
    have hoL : (h'.push (seqObj "list" vs.toArray 0)).get? h'.objs.size = some (seqObj "list" vs.toArray 0) := Heap.get?_push_size _ rfl
    refine wpAny_bind (wpAny_holding (wpAny_call_entry_kw slot_list_sort ⟨_, hoL, rfl⟩ entry_list_sort ?body (ksk_l1 _ _)))
    case body =>
      show wpAny (model prog w) A.in1.in1 (Builtin.«list.sort» ⟨[.ref h'.objs.size], [(Str.ofString "key", .ref fl)]⟩) _ _ _
      rw [ksk_t1]
      refine keyed_g (s := ⟨h'.push (seqObj "list" vs.toArray 0), s.gens, dr, tk, s.os⟩) F1 N1 hoL (Nat.ne_of_gt hL) (Heap.get?_none_of_le (Nat.le_trans F1.above (Nat.le_of_lt hL))) hlt (by omega) fun kS e1 h2 F2 N2 hak => ?_
      refine ⟨fun ks e s' => ∃ kl, Fr h₀ L s'.heap m ∧ News h₀ L s'.heap (kl ++ (kS, listOf ks.toArray e) :: (h'.objs.size, listOf #[] e1) :: news) ∧ (∀ p ∈ kl, h'.objs.size < p.1 ∧ kS < p.1) ∧ KeysIn kl ks ∧ SamS ⟨h', s.gens, dr, tk, s.os⟩ s', ?_, ?_⟩
      · rintro ks e s' hl ⟨kl, F3, N3, hkl, hki, hsm⟩
        refine end_g (by show A.units + 1 + 1 < cLine; omega) hl (by rw [hlen]; exact hn) F3 N3 hkl hak hlt hki fun out h4 tk4 n4 hp F4 N4 => ?_
        refine ⟨_, rfl, wpAny_pure ⟨_, rfl, ?_⟩⟩
        obtain ⟨h3, g3, d3, t3, o3⟩ := s'
        obtain ⟨e1, e2, e3⟩ := hsm
        dsimp only at e1 e2 e3
        subst e1 e2 e3
        exact h _ n4 out h4 tk4 d3 (texts_perm ht hp) F4 N4 hlt
      · exact keys_run (n := vs.length) hk (Nat.ne_of_lt hak) (fun p hp => Nat.ne_of_lt (Nat.lt_trans (hlt p hp) hak)) (fun ks e s' kl F3 N3 h1 h2 h3 h4 => ⟨kl, F3, N3, h1, h2, h3⟩) vs [] 0 _ [] (texts_each ht) F2 N2 (fun p hp => nomatch hp) (fun k hk => nomatch hk) ⟨rfl, rfl, rfl⟩ (by simp)
  run_tac Mine.sq default
end
end Mine
end
section -- WSetN
open PySem PySem.W PySem.Calls PyProof.Rows
namespace Mine
noncomputable def NsObj := @LCg.NsObj
/-- each name's value is a tuple of the ledger -/
noncomputable def TupIn (kvs : List (Str × Value)) (ob : List (Addr × Obj)) : Prop := ∀ p ∈ kvs, ∃ T t1 t2 t3, p.2 = .ref T ∧ (T, tupO #[.str p.1 t1, .str p.1 t2, .str (Str.ofString "") t3] 0) ∈ ob
noncomputable def AllLtL (news ob : List (Addr × Obj)) : Prop := ∀ p ∈ ob, ∀ q ∈ news, q.1 < p.1
section
variable {prog : Program} {w : World} {A : Around} {E : Value → Shared → Prop} {s : Shared} {h₀ : Heap} {L : Addr} {m : Str → Option Value} {news : List (Addr × Obj)} {env : Env}
/-- one turn: the value for a name -/
noncomputable def DTurn (prog : Program) (w : World) (A : Around) (h₀ : Heap) (L : Addr) (m : Str → Option Value) (env : Env) (vx : PySem.Expr) (x : Str) (scope : Scope) (cl : List (Str × Addr)) (news : List (Addr × Obj)) (vs : List Value) (o₀ : OsState) : Prop :=
  ∀ y t I oI C oC D oD m₂ ob (s' : Shared) (E' : Value → Shared → Prop), .str y t ∈ vs → LCg.NsObj oC m₂ → m₂ x = some (.str y t) → Fr h₀ L s'.heap m → News h₀ L s'.heap ((I, oI) :: (C, oC) :: (D, oD) :: (ob ++ news)) → AllLtL news ((I, oI) :: (C, oC) :: (D, oD) :: ob) → AllBare s'.gens → 0 < s'.toks → s'.os = o₀ →
    wpAny (model prog w) A (eval vx (compEnvC scope cl C env)) (fun v s'' => ∃ T t1 t2 t3, v = .ref T ∧ Fr h₀ L s''.heap m ∧ News h₀ L s''.heap ((T, tupO #[.str y t1, .str y t2, .str (Str.ofString "") t3] 0) :: (I, oI) :: (C, oC) :: (D, oD) :: (ob ++ news)) ∧ (∀ p ∈ (I, oI) :: (C, oC) :: (D, oD) :: (ob ++ news), p.1 < T) ∧ s''.os = s'.os ∧ AllBare s''.gens ∧ 0 < s''.toks) E' s'
noncomputable def DFin (prog : Program) (w : World) (h₀ : Heap) (L : Addr) (m : Str → Option Value) (y : Str) (news : List (Addr × Obj)) (vs : List Value) (Q : Flow → Shared → Prop) (o₀ : OsState) : Prop :=
  ∀ D oD kvs ob (s' : Shared), oD.IsDictOf (strKind prog w) kvs → kvs.map (·.1) = vs.map strOfV → TupIn kvs ob → Fr h₀ L s'.heap (fun z => if z = y then some (.ref D) else m z) → News h₀ L s'.heap ((D, oD) :: (ob ++ news)) → AllLtL news ((D, oD) :: ob) → s'.os = o₀ → AllBare s'.gens → 0 < s'.toks → Q .next s'
noncomputable def DSrc (prog : Program) (w : World) (A : Around) (h₀ : Heap) (L : Addr) (m : Str → Option Value) (env : Env) (vx : PySem.Expr) (x y : Str) (scope : Scope) (cl : List (Str × Addr)) (Q : Flow → Shared → Prop) (xv : Value) (s₁ : Shared) : Prop :=
  ∃ ax vs n news, xv = .ref ax ∧ A.handled = none ∧ Fr h₀ L s₁.heap m ∧ News h₀ L s₁.heap news ∧ (ax, listOf vs.toArray n) ∈ news ∧ vs.length ≤ 64 ∧ (∀ v ∈ vs, ∃ z t, v = .str z t) ∧ (vs.map strOfV).Nodup ∧ AllBare s₁.gens ∧ 0 < s₁.toks ∧
    DTurn prog w A h₀ L m env vx x scope cl news vs s₁.os ∧ DFin prog w h₀ L m y news vs Q s₁.os
theorem dstored {kvs : List (Str × Value)} {k : Str} {v : Value} (h : k ∉ kvs.map (·.1)) : stored kvs k v = kvs ++ [(k, v)] := by
  unfold stored
  rw [if_neg]
  intro ha
  rw [List.any_eq_true] at ha
  obtain ⟨p, hp, e⟩ := ha
  exact h (List.mem_map.mpr ⟨p, hp, by simpa using e⟩)
theorem Assign_Dict {vx iter : PySem.Expr} {x y : Str} {px py kp : Pos} {scope : Scope} {cl : List (Str × Addr)} {pos spos : Pos} {Q : Flow → Shared → Prop} (F₀ : Fr h₀ L s.heap m) (hLe : env.locals = L)
    (hsw : swapsWith (.DictComp (.Name x kp) vx [⟨.Name x px, iter, [], 0⟩] scope pos) (some (.Name y py)) spos.line env = pure true)
    (hclos : closureFor scope env = pure cl) (hcell : ∀ z ∈ scope.names, z.2 ≠ .cell) (hkind : scope.kind = .function) (hdb : (x == ("__debug__" : Str)) = false)
    (hnames : ∀ z ∈ scope.names, z.2 = .local → scope.names.lookup z.1 = some .local) (hx : scope.names.lookup x = some .local)
    (hy : env.kindOf y = some .local) (hp : (env.scope.kind == .class || (env.scope.kind == .module && env.locals != env.globals)) = false)
    (h : wpAny (model prog w) A (eval iter env) (DSrc prog w A h₀ L m env vx x y scope cl Q) E s)
    (hs : ∀ x, foldedSetIterable iter env x = pure x := by intro _; rfl) :
    wpAny (model prog w) A (exec (.Assign [.Name y py] (.DictComp (.Name x kp) vx [⟨.Name x px, iter, [], 0⟩] scope pos) spos) env) Q E s := by
  k_with "proof" =>
    subst hLe
    rw [exec_Assign_Name_used _ _ _ _ hsw]
    refine wpAny_bind (wpAny_standAt (wpAny_bind ?_))
    show wpAny _ A (do let _ ← comprehension (.DictComp (.Name x kp) vx [⟨.Name x px, iter, [], 0⟩] scope pos) scope env _ newDict false (eval iter env) (some (assign (.Name y py) env))) _ _ s
    refine wpAny_bind (wpAny_mono (wpAny_comprehension_free (use := some (assign (.Name y py) env)) (Q := fun _ s' => Q .next s') rfl hs hclos hkind hnames
      (wpAny_mono h (fun xv s₁ h₁ => ?_) fun _ _ e => e)) (fun _ s' hq => wpAny_pure (wpAny_pure hq)) fun _ _ e => e)
    obtain ⟨ax, vs, n, news, rfl, hh, F, N, hax, hlen, hstr, hnd, hg, htk, turn, fin⟩ := h₁
    have hl : s₁.heap.IsList ax vs.toArray := ⟨_, (N _ hax).1, rfl, _, rfl⟩
    have hlt : ax < s₁.heap.objs.size := Heap.lt_size (N _ hax).1
    refine wpAny_pyIter_list hl ?_
    generalize hH1 : s₁.heap.push { cls := .type "list_iterator", data := .fields #[.ref ax, .int 0 0] } = H1
    have up : ∀ b o, s₁.heap.get? b = some o → H1.get? b = some o := fun b o e => hH1 ▸ Heap.get?_push_of_some _ e
    have sz1 : H1.objs.size = s₁.heap.objs.size + 1 := by rw [← hH1, size_push']
    have F1 : Fr h₀ env.locals H1 m := F.keeps up
    have N1 : News h₀ env.locals H1 news := N.grown up
    have hI : ∃ oI, H1.get? s₁.heap.objs.size = some oI ∧ oI.cls = .type "list_iterator" ∧ oI.data = .fields #[.ref ax, .int (0 : Nat) 0] := ⟨_, hH1 ▸ Heap.get?_push_size _ rfl, rfl, rfl⟩
    have W := Walks.list (prog := prog) (w := w) (A := A) hh s₁.heap.objs.size ax (Nat.ne_of_lt hlt) vs.toArray
    refine wpAny_newObj_type (wpAny_newFunctionEnv hcell (by intro y hy; simp at hy) (fun h₁ hns₁ hsb₁ => ?_) hkind)
    dsimp only at hns₁ hsb₁ ⊢
    generalize hH2 : H1.push { cls := .type "dict", dict := none, data := .dict #[] } = H2 at hns₁ hsb₁ ⊢
    have hC : H2.objs.size = s₁.heap.objs.size + 2 := by rw [← hH2, size_push', sz1]
    have hlN : ∀ p ∈ news, p.1 < s₁.heap.objs.size := fun p hp => Heap.lt_size (N p hp).1
    have hLlt : env.locals < s₁.heap.objs.size := F.ns.lt
    have hI₀ : h₀.get? s₁.heap.objs.size = none := Heap.get?_none_of_le (Nat.le_trans F.above (Nat.le_of_lt hLlt))
    have hD₀ : h₀.get? H1.objs.size = none := Heap.get?_none_of_le (by rw [sz1]; exact Nat.le_trans F.above (Nat.le_of_lt (Nat.lt_succ_of_lt hLlt)))
    have hC₀ : h₀.get? H2.objs.size = none := Heap.get?_none_of_le (by rw [hC]; exact Nat.le_trans F.above (Nat.le_of_lt (Nat.lt_succ_of_lt (Nat.lt_succ_of_lt hLlt))))
    have hID : s₁.heap.objs.size < H1.objs.size := by rw [sz1]; exact Nat.lt_succ_self _
    have hDC : H1.objs.size < H2.objs.size := by rw [hC, sz1]; exact Nat.lt_succ_self _
    have old : ∀ b o, H1.get? b = some o → h₁.get? b = some o := fun b o e => hsb₁.extBut b o (Nat.ne_of_lt (Nat.lt_trans (Heap.lt_size e) hDC)) (Heap.get?_push_of_some _ (hH2 ▸ Heap.get?_push_of_some _ e))
    have hacc : ∃ oD, h₁.get? H1.objs.size = some oD ∧ oD.IsDictOf (strKind prog w) [] := by
      have e1 : h₁.DictOf (strKind prog w) H1.objs.size [] := by
        have e2 := Heap.DictOf.new (knd := strKind prog w) H1
        rw [show ({ cls := .type "dict", data := .dict #[] } : Obj) = { cls := .type "dict", dict := none, data := .dict #[] } from rfl, hH2] at e2
        exact e2.at fun o e => hsb₁.extBut _ _ (Nat.ne_of_lt hDC) (Heap.get?_push_of_some _ e)
      exact Heap.dictOf_iff.mp e1
    obtain ⟨oD0, gD0, dD0⟩ := hacc
    obtain ⟨oI0, gI0, cI0, dI0⟩ := hI
    have loop : ∀ s₃ : Shared, s₃ = { s₁ with heap := h₁, toks := s₁.toks + ([] : List (Str × Value)).length } →
        codeAny (model prog w) A (.compLoop (.DictComp (.Name x kp) vx [⟨.Name x px, iter, [], 0⟩] scope pos) 0 (.ref s₁.heap.objs.size) (.ref H1.objs.size) (compEnvC scope cl H2.objs.size env))
          (compPost (model prog w) A E (some (assign (.Name y py) env)) (fun _ s' => Q .next s') (.ref H1.objs.size) H2.objs.size) s₃ := by
      rintro s₃ rfl
      refine codeAny_compLoop_testsD
        (fun k s' => ∃ i kvs ob oD m', i ≤ vs.length ∧ k = vs.length + 1 - i ∧ s'.heap.IsListIter s₁.heap.objs.size ax i ∧ Fr h₀ env.locals s'.heap m ∧ s'.heap.Ns H2.objs.size m' ∧ oD.IsDictOf (strKind prog w) kvs ∧ kvs.map (·.1) = (vs.take i).map strOfV ∧ TupIn kvs ob ∧
          News h₀ env.locals s'.heap ((H1.objs.size, oD) :: (ob ++ news)) ∧ (∀ p ∈ ob, H2.objs.size < p.1) ∧ AllBare s'.gens ∧ 0 < s'.toks ∧ s'.os = s₁.os) ?_ (vs.length + 1)
        ⟨0, [], [], oD0, _, Nat.zero_le _, rfl, ⟨oI0, old _ _ gI0, cI0, dI0⟩, F1.keeps old, hns₁, dD0, rfl, fun p hp => (nomatch hp), fun p hp => ?_, fun p hp => (nomatch hp), hg, htk, rfl⟩
      · rintro k s' ⟨i, kvs, ob, oD, m', hi, rfl, hit, F', hn', hdD, hkeys, htup, N', hob, hg', htk', hos⟩
        have hlist : s'.heap.IsList ax vs.toArray := ⟨_, (N' _ (.tail _ (List.mem_append_right _ hax))).1, rfl, _, rfl⟩
        have kC : (compEnvC scope cl H2.objs.size env).scope.kind = .function := by simp [compEnvC, relabel, hkind]
        have hnI : ∀ p ∈ ob ++ news, p.1 ≠ s₁.heap.objs.size := fun p hp => by
          rcases List.mem_append.mp hp with hp | hp
          · exact Nat.ne_of_gt (Nat.lt_trans (Nat.lt_trans hID hDC) (hob p hp))
          · exact Nat.ne_of_lt (hlN p hp)
        have hnC : ∀ p ∈ ob ++ news, p.1 ≠ H2.objs.size := fun p hp => by
          rcases List.mem_append.mp hp with hp | hp
          · exact Nat.ne_of_gt (hob p hp)
          · exact Nat.ne_of_lt (Nat.lt_trans (Nat.lt_trans (hlN p hp) hID) hDC)
        have hnD : ∀ p ∈ ob ++ news, p.1 ≠ H1.objs.size := fun p hp => by
          rcases List.mem_append.mp hp with hp | hp
          · exact Nat.ne_of_gt (Nat.lt_trans hDC (hob p hp))
          · exact Nat.ne_of_lt (Nat.lt_trans (hlN p hp) hID)
        by_cases hin : i < vs.length
        · refine pos_toks htk' (W.item i s' _ _ (by simpa using hin) ⟨hit, hlist⟩ fun v h₂ tk₂ hPv hst₂ hk₂ => ?_)
          intro ht2
          have hv : vs[i] = v := by simpa [hin] using hPv
          have hvm : v ∈ vs := hv ▸ List.getElem_mem hin
          obtain ⟨z, t, rfl⟩ := hstr v hvm
          dsimp only at ht2 ⊢
          have k2 : ∀ b o, b ≠ s₁.heap.objs.size → s'.heap.get? b = some o → h₂.get? b = some o := fun b o q e => hk₂ b o (by simpa using q) e
          refine wpAny_assign_Name (wpAny_storeName_local (lookup_relabel_local hx) (hn'.at' fun o e => k2 _ o (Nat.ne_of_gt (Nat.lt_trans hID hDC)) e) (fun h₃ hn₃ hs₃ => ?_) (by simp [compEnvC, relabel, hkind]))
          refine wpAny_tests_nil ?_
          simp only [if_true]
          rw [eval_Name (hd := hdb)]
          refine wpAny_bind (wpAny_standAt (wpAny_loadName_local kC (lookup_relabel_local hx) hn₃ (if_pos rfl) ?_))
          have k3 : ∀ b o, b ≠ H2.objs.size → h₂.get? b = some o → h₃.get? b = some o := fun b o q e => hs₃.extBut b o q e
          obtain ⟨⟨oI, gI, cI, dI⟩, _⟩ := hst₂
          have gI3 : h₃.get? s₁.heap.objs.size = some oI := k3 _ _ (Nat.ne_of_lt (Nat.lt_trans hID hDC)) gI
          obtain ⟨oC, gC, nC⟩ := LCg.ns_obj hn₃
          have N3 : News h₀ env.locals h₃ ((s₁.heap.objs.size, oI) :: (H2.objs.size, oC) :: (H1.objs.size, oD) :: (ob ++ news)) := fun p hp => by
            rcases List.mem_cons.mp hp with rfl | hp
            · exact ⟨gI3, Nat.ne_of_gt hLlt, hI₀⟩
            · rcases List.mem_cons.mp hp with rfl | hp
              · exact ⟨gC, Nat.ne_of_gt (Nat.lt_trans (Nat.lt_trans hLlt hID) hDC), hC₀⟩
              · have z9 := N' p hp
                refine ⟨k3 _ _ ?_ (k2 _ _ ?_ z9.1), z9.2⟩
                · rcases List.mem_cons.mp hp with rfl | hp
                  · exact Nat.ne_of_lt hDC
                  · exact hnC p hp
                · rcases List.mem_cons.mp hp with rfl | hp
                  · exact Nat.ne_of_gt hID
                  · exact hnI p hp
          have F3 : Fr h₀ env.locals h₃ m := ⟨F'.ns.at' fun o e => k3 _ _ (Nat.ne_of_lt (Nat.lt_trans (Nat.lt_trans hLlt hID) hDC)) (k2 _ _ (Nat.ne_of_lt hLlt) e), fun b o e => k3 b o (fun q => by rw [q, hC₀] at e; cases e) (k2 b o (fun q => by rw [q, hI₀] at e; cases e) (F'.keep b o e)), F'.above⟩
          have hall : AllLtL news ((s₁.heap.objs.size, oI) :: (H2.objs.size, oC) :: (H1.objs.size, oD) :: ob) := fun p hp q hq => by
            have hq' := hlN q hq
            rcases List.mem_cons.mp hp with rfl | hp
            · exact hq'
            · rcases List.mem_cons.mp hp with rfl | hp
              · exact Nat.lt_trans (Nat.lt_trans hq' hID) hDC
              · rcases List.mem_cons.mp hp with rfl | hp
                · exact Nat.lt_trans hq' hID
                · exact Nat.lt_trans (Nat.lt_trans (Nat.lt_trans hq' hID) hDC) (hob p hp)
          refine wpAny_mono (turn z t _ oI _ oC _ oD _ ob ⟨h₃, s'.gens, s'.drawn, tk₂ + 1, s'.os⟩ _ hvm nC (if_pos rfl) F3 N3 hall hg' (Nat.succ_pos _) hos) (fun u s4 h4 => ?_) fun _ _ e => e
          obtain ⟨T, t1, t2, t3, rfl, F4, N4, hT, ho4, hg4, ht4⟩ := h4
          have z4 : z ∉ kvs.map (·.1) := by
            rw [hkeys]
            intro hm
            obtain ⟨v', hv', e'⟩ := List.mem_map.mp hm
            obtain ⟨j, hj, ej⟩ := List.getElem_of_mem hv'
            rw [List.length_take] at hj
            rw [List.getElem_take] at ej
            have hj' : j < vs.length := by omega
            have he : (vs.map strOfV)[j]? = (vs.map strOfV)[i]? := by
              simp only [List.getElem?_map, List.getElem?_eq_getElem hj', List.getElem?_eq_getElem hin, Option.map_some]
              rw [ej, e', hv]; rfl
            have := (List.getElem?_inj (by simpa using hj') hnd).mp he
            omega
          have hDd : s4.heap.DictOf (strKind prog w) H1.objs.size kvs := Heap.dictOf_iff.mpr ⟨oD, (N4 _ (.tail _ (.tail _ (.tail _ (.head _))))).1, hdD⟩
          have hkl : kvs.length ≤ sizeLine := by
            have := congrArg List.length hkeys
            simp only [List.length_map, List.length_take] at this
            rw [sizeLine_eq]; omega
          refine wpAny_dictSet_pairs (hsz := hkl) (strKind_is _ _ z t) hDd fun h5 hd5 hs5 => ?_
          rw [dstored z4] at hd5
          obtain ⟨oD5, g5, d5⟩ := Heap.dictOf_iff.mp hd5
          have k5 : ∀ b o, b ≠ H1.objs.size → s4.heap.get? b = some o → h5.get? b = some o := fun b o q e => hs5.extBut b o q e
          refine ⟨vs.length + 1 - (i + 1), by omega, i + 1, kvs ++ [(z, .ref T)], (T, tupO #[.str z t1, .str z t2, .str (Str.ofString "") t3] 0) :: ob, oD5, _, hin, rfl, ⟨oI, k5 _ _ (Nat.ne_of_lt hID) (N4 _ (.tail _ (.head _))).1, cI, dI⟩, F4.change hs5 (Nat.ne_of_gt (Nat.lt_trans hLlt hID)) hD₀, (nC.ns (k5 _ _ (Nat.ne_of_gt hDC) (N4 _ (.tail _ (.tail _ (.head _)))).1)), d5, ?_, ?_, ?_, ?_, hg4, Nat.succ_pos _, ho4.trans hos⟩
          · rw [List.map_append, hkeys, List.take_succ, List.map_append, List.getElem?_eq_getElem hin, hv]; rfl
          · intro p hp
            rcases List.mem_append.mp hp with hp | hp
            · obtain ⟨T', a1, a2, a3, e1, e2⟩ := htup p hp
              exact ⟨T', a1, a2, a3, e1, .tail _ e2⟩
            · rw [List.mem_singleton.mp hp]
              exact ⟨T, t1, t2, t3, rfl, .head _⟩
          · intro p hp
            rcases List.mem_cons.mp hp with rfl | hp
            · exact ⟨g5, Nat.ne_of_gt (Nat.lt_trans hLlt hID), hD₀⟩
            · have hp' : p ∈ (T, tupO #[.str z t1, .str z t2, .str (Str.ofString "") t3] 0) :: (s₁.heap.objs.size, oI) :: (H2.objs.size, oC) :: (H1.objs.size, oD) :: (ob ++ news) := by
                rcases List.mem_cons.mp hp with rfl | hp
                · exact .head _
                · exact .tail _ (.tail _ (.tail _ (.tail _ hp)))
              refine ⟨k5 _ _ ?_ (N4 p hp').1, (N4 p hp').2⟩
              rcases List.mem_cons.mp hp with rfl | hp
              · exact Nat.ne_of_gt (hT (H1.objs.size, oD) (.tail _ (.tail _ (.head _))))
              · exact hnD p hp
          · intro p hp
            rcases List.mem_cons.mp hp with rfl | hp
            · exact hT (H2.objs.size, oC) (.tail _ (.head _))
            · exact hob p hp
        · obtain rfl : i = vs.length := Nat.le_antisymm hi (Nat.not_lt.mp hin)
          refine pos_toks htk' (W.done s' _ _ ⟨by simpa using hit, hlist⟩ fun h₂ tk₂ hk₂ => ?_)
          intro ht2
          dsimp only at ht2 ⊢
          have k2 : ∀ b o, b ≠ s₁.heap.objs.size → s'.heap.get? b = some o → h₂.get? b = some o := fun b o q e => hk₂ b o (by simpa using q) e
          show wpAny _ A (assign (.Name y py) env (.ref H1.objs.size)) _ _ _
          have F2 : Fr h₀ env.locals h₂ m := ⟨F'.ns.at' fun o e => k2 _ _ (Nat.ne_of_lt hLlt) e, fun b o e => k2 b o (fun q => by rw [q, hI₀] at e; cases e) (F'.keep b o e), F'.above⟩
          have hL₀ : h₀.get? env.locals = none := Heap.get?_none_of_le F'.above
          refine wpAny_assign_Name (wpAny_storeName_local hy F2.ns (fun h₃ hn₃ hs₃ => ?_) hp)
          have F3 : Fr h₀ env.locals h₃ (fun z => if z = y then some (.ref H1.objs.size) else m z) := ⟨hn₃, fun b o e => hs₃.extBut b o (fun q => by rw [q, hL₀] at e; cases e) (F2.keep b o e), F2.above⟩
          have hCL : H2.objs.size ≠ env.locals := Nat.ne_of_gt (Nat.lt_trans (Nat.lt_trans hLlt hID) hDC)
          refine ⟨m', (hn'.at' fun o e => k2 _ _ (Nat.ne_of_gt (Nat.lt_trans hID hDC)) e).sameBut hs₃ hCL, fun h4 hs4 => ?_⟩
          refine fin _ oD kvs ob ⟨h4, s'.gens, s'.drawn, tk₂ + 1, s'.os⟩ hdD (by simpa using hkeys) htup (F3.change hs4 hCL hC₀) (fun p hp => ?_) (fun p hp q hq => ?_) hos hg' (Nat.succ_pos _)
          · refine ⟨hs4.extBut _ _ ?_ (hs₃.extBut _ _ (N' p hp).2.1 (k2 _ _ ?_ (N' p hp).1)), (N' p hp).2⟩
            · rcases List.mem_cons.mp hp with rfl | hp
              · exact Nat.ne_of_lt hDC
              · exact hnC p hp
            · rcases List.mem_cons.mp hp with rfl | hp
              · exact Nat.ne_of_gt hID
              · exact hnI p hp
          · have hq' := hlN q hq
            rcases List.mem_cons.mp hp with rfl | hp
            · exact Nat.lt_trans hq' hID
            · exact Nat.lt_trans (Nat.lt_trans (Nat.lt_trans hq' hID) hDC) (hob p hp)
      · rcases List.mem_cons.mp hp with rfl | hp
        · exact ⟨gD0, Nat.ne_of_gt (Nat.lt_trans hLlt hID), hD₀⟩
        · exact ⟨old _ _ (N1 p hp).1, (N p hp).2⟩
    exact codeAny_compStart_dict (loop _ rfl) (W.self 0 _ _ _ ⟨⟨oI0, old _ _ gI0, cI0, dI0⟩, hl.at fun o e => old _ _ (up _ _ e)⟩ (loop _ rfl))
  run_tac Mine.sq default
end
end Mine
end
section -- WSetO
open PySem PySem.W PySem.Calls PyProof.Rows
namespace Mine
/-- the table of a code that makes one lambda: empty, or with that lambda's code -/
noncomputable def LamTab (qual : Str) (ln co : Nat) (ps : Array Value) (tl : List (Addr × Obj)) : Prop :=
  ps = #[] ∨ ∃ c' oc vs t, ps = #[rawInt ln, rawInt co, .ref c'] ∧ (c', oc) ∈ tl ∧ oc.data = .fields vs ∧ vs[1]? = some (.str qual t)
theorem LamTab.mono {qual : Str} {ln co : Nat} {ps : Array Value} {tl tl' : List (Addr × Obj)} (h : LamTab qual ln co ps tl) (hs : ∀ p ∈ tl, p ∈ tl') : LamTab qual ln co ps tl' := by
  k_with "proof" =>
    rcases h with h | ⟨c', oc, vs, t, h1, h2, h3⟩
    · exact .inl h
    · exact .inr ⟨c', oc, vs, t, h1, hs _ h2, h3⟩
  run_tac Mine.sq default
/-- how the table grew -/
noncomputable def Grew (qual : Str) (ln co : Nat) (ps : Array Value) (tl : List (Addr × Obj)) (ps' : Array Value) (nw : List (Addr × Obj)) : Prop :=
  (nw = [] ∧ ps' = ps) ∨ ∃ c' oc vs t, nw = [(c', oc)] ∧ ps' = #[rawInt ln, rawInt co, .ref c'] ∧ oc.data = .fields vs ∧ vs[1]? = some (.str qual t) ∧ ∀ q ∈ tl, q.1 < c'
section
variable {M : Model} {A : Around} {E : Value → Shared → Prop} {s : Shared} {h₀ : Heap} {L a c P : Addr} {m mg mb : Str → Option Value} {cn : Str} {cs : Scope} {ccd : Value} {cl : List (Str × Addr)} {pre tl : List (Addr × Obj)}
  {p : Program} {loose : List Str} {mean : ExcName → Option Value} {name qual : Str} {params : Arguments} {body : PySem.Expr} {scope : Scope} {ps : Array Value} {pos : Pos} {firstLine : Nat} {clos : List (Str × Addr)}
theorem lam_any {Q : Value → Shared → Prop} (F : Fr h₀ L s.heap m) (N : News h₀ L s.heap (pre ++ (P, tabObj ps) :: tl)) (T : Top p loose mean mg mb h₀) (C : CodeHd h₀ c P) (hcd : ccd = .ref c) (hpre : ∀ p ∈ pre, p.1 ≠ P) (htl : ∀ p ∈ tl, p.1 ≠ P) (hL : LamTab qual pos.line pos.col ps tl)
    (hcl : closureFor scope (envX cn cs L a ccd cl) = pure clos)
    (h : ∀ f c' oc vs t ctv h' tk ps' tl', Fr h₀ L h' m → News h₀ L h' ((f, kla_obj name qual params body scope clos ((mg "__name__").getD .none) c' ctv) :: (pre ++ (P, tabObj ps') :: tl')) → (c', oc) ∈ tl' → oc.data = .fields vs → vs[1]? = some (.str qual t) →
      LamTab qual pos.line pos.col ps' tl' → (∀ p ∈ tl, p ∈ tl') → (∀ p ∈ tl', p ∈ tl ∨ ∀ q ∈ pre ++ (P, tabObj ps) :: tl, q.1 < p.1) → (∀ p ∈ pre ++ (P, tabObj ps') :: tl', p.1 < f) → (∃ nw, tl' = nw ++ tl ∧ Grew qual pos.line pos.col ps tl ps' nw) → Q (.ref f) { s with heap := h', toks := tk }) :
    wpAny M A (makeFunction name qual params (.expr body) scope (envX cn cs L a ccd cl) [] [] [] pos firstLine) Q E s := by
  k_with "proof" =>
    rcases hL with rfl | ⟨c', oc, vs, t, rfl, hm, hd, hv⟩
    · refine kla_nest F N T C hcd (updF_app htl pre hpre) True.intro rfl hcl fun f c' oc vs t ctv h' tk F' N' hd hv hlt hcf => ?_
      refine h f c' oc vs t ctv h' tk _ ((c', oc) :: tl) F' (fun q hq => N' q ?_) (.head _) hd hv (.inr ⟨c', oc, vs, t, rfl, .head _, hd, hv⟩) (fun q hq => .tail _ hq) (fun q hq => ?_) (fun q hq => ?_) ⟨[(c', oc)], rfl, .inr ⟨c', oc, vs, t, rfl, rfl, hd, hv, fun q hq => hlt q (List.mem_append_right _ (.tail _ hq))⟩⟩
      · rcases List.mem_cons.mp hq with rfl | hq
        · exact .head _
        · rcases List.mem_append.mp hq with hq | hq
          · exact .tail _ (.tail _ (List.mem_append_left _ hq))
          · rcases List.mem_cons.mp hq with rfl | hq
            · exact .tail _ (.tail _ (List.mem_append_right _ (.head _)))
            · rcases List.mem_cons.mp hq with rfl | hq
              · exact .tail _ (.head _)
              · exact .tail _ (.tail _ (List.mem_append_right _ (.tail _ hq)))
      · rcases List.mem_cons.mp hq with rfl | hq
        · exact .inr hlt
        · exact .inl hq
      · rcases List.mem_append.mp hq with hq | hq
        · exact Nat.lt_trans (hlt q (List.mem_append_left _ hq)) hcf
        · rcases List.mem_cons.mp hq with rfl | hq
          · exact Nat.lt_trans (hlt (P, tabObj #[]) (List.mem_append_right _ (.head _))) hcf
          · rcases List.mem_cons.mp hq with rfl | hq
            · exact hcf
            · exact Nat.lt_trans (hlt q (List.mem_append_right _ (.tail _ hq))) hcf
    · refine kla_hit (c' := c') F N T C hcd (List.mem_append_right _ (.head _)) (by simp [TriplesOk, rawInt]) (by simp [codeAmong, rawInt]) hcl fun f ctv h' tk F' N' hlt => ?_
      exact h f c' oc vs t ctv h' tk _ tl F' N' hm hd hv (.inr ⟨c', oc, vs, t, rfl, hm, hd, hv⟩) (fun q hq => hq) (fun q hq => .inl hq) hlt ⟨[], rfl, .inl ⟨rfl, rfl⟩⟩
  run_tac Mine.sq default
theorem lam15 {x1 x2 x3 x4 x5 y1 y2 y3 y4 y5 y6 y7 y8 y9 y10 : Addr × Obj} {Q : Value → Shared → Prop} (F : Fr h₀ L s.heap m) (N : News h₀ L s.heap (x1 :: x2 :: x3 :: x4 :: x5 :: y1 :: y2 :: y3 :: y4 :: y5 :: y6 :: y7 :: y8 :: y9 :: y10 :: (P, tabObj ps) :: tl)) (T : Top p loose mean mg mb h₀) (C : CodeHd h₀ c P) (hcd : ccd = .ref c)
    (hpre : ∀ p ∈ [x1, x2, x3, x4, x5, y1, y2, y3, y4, y5, y6, y7, y8, y9, y10], p.1 ≠ P) (htl : ∀ p ∈ tl, p.1 ≠ P) (hL : LamTab qual pos.line pos.col ps tl)
    (hcl : closureFor scope (envX cn cs L a ccd cl) = pure clos)
    (h : ∀ f c' oc vs t ctv h' tk ps' tl', Fr h₀ L h' m → News h₀ L h' ((f, kla_obj name qual params body scope clos ((mg "__name__").getD .none) c' ctv) :: x1 :: x2 :: x3 :: x4 :: x5 :: y1 :: y2 :: y3 :: y4 :: y5 :: y6 :: y7 :: y8 :: y9 :: y10 :: (P, tabObj ps') :: tl') → (c', oc) ∈ tl' → oc.data = .fields vs → vs[1]? = some (.str qual t) →
      LamTab qual pos.line pos.col ps' tl' → (∀ p ∈ tl, p ∈ tl') → (∀ p ∈ tl', p ∈ tl ∨ ∀ q ∈ x1 :: x2 :: x3 :: x4 :: x5 :: y1 :: y2 :: y3 :: y4 :: y5 :: y6 :: y7 :: y8 :: y9 :: y10 :: (P, tabObj ps) :: tl, q.1 < p.1) → (∀ p ∈ x1 :: x2 :: x3 :: x4 :: x5 :: y1 :: y2 :: y3 :: y4 :: y5 :: y6 :: y7 :: y8 :: y9 :: y10 :: (P, tabObj ps') :: tl', p.1 < f) → (∃ nw, tl' = nw ++ tl ∧ Grew qual pos.line pos.col ps tl ps' nw) → Q (.ref f) { s with heap := h', toks := tk }) :
    wpAny M A (makeFunction name qual params (.expr body) scope (envX cn cs L a ccd cl) [] [] [] pos firstLine) Q E s :=
  lam_any (pre := [x1, x2, x3, x4, x5, y1, y2, y3, y4, y5, y6, y7, y8, y9, y10]) F N T C hcd hpre htl hL hcl h
end
end Mine
end
section -- WGen
open PySem PySem.W PySem.Calls PySem.Spec PyProof.Rows
namespace Mine
section
variable {M : Model} {A : Around} {R : GenEnd} {Y : Protocol} {n : Nat} {s₀ : Shared} {c : Code} {fs : List Frame} {s : Shared} {env : Env}
theorem seg_bw {α β : Type} {m : Sem α} {f : α → Sem β} {K : β → Sem Fin} {H : Value → Sem Fin} {gd lv}
    (h : wpAny M (A.over c fs) m (fun a s' => Seg M A R Y n s₀ c ((f a).wrap K H gd lv) fs s') (fun x s' => Seg M A R Y n s₀ c (H x) fs s') s) :
    Seg M A R Y n s₀ c ((m >>= f).wrap K H gd lv) fs s := by
  rw [Sem.bind_eq_wrap', Sem.wrap_wrap]
  exact seg_wrap h
noncomputable abbrev runK (env : Env) (K : Flow → Sem Fin) (H : Value → Sem Fin) (gd : Bool → Bool) (lv : List Value → List Value) : Result → Sem Fin :=
  fun r => ((match r with | .ok f => (.pure f : Sem Flow) | .error e => .raise e).onRaise fun (x : Value) => do
        if (← field x 1) == Value.none then unsupported "frame.own-activation:exception-without-traceback"
        setFlight x env.frame).wrap K H gd lv
theorem seg_For {target iter : Expr} {body : List Stmt} {pos : Pos} {K : Flow → Sem Fin} {H : Value → Sem Fin} {gd : Bool → Bool} {lv : List Value → List Value}
    (h : wpAny M (A.over c fs) (eval iter env) (fun x s₁ => wpAny M (A.over c fs) (pyIter x) (fun it s₂ => ∀ p, Seg M A R Y n s₀ (.forLoop target it body [] env) (M.den (.forLoop target it body [] env))
      (.ret (runK env K H gd lv) none (gd false) (lv []) c p [] :: fs) s₂) (fun x s' => Seg M A R Y n s₀ c (H x) fs s') s₁) (fun x s' => Seg M A R Y n s₀ c (H x) fs s') s)
    (hs : ∀ x, foldedSetIterable iter env x = pure x := by intro _; rfl) :
    Seg M A R Y n s₀ c ((exec (.For target iter body [] pos) env).wrap K H gd lv) fs s := by
  k_with "proof" =>
    rw [exec_For]
    refine seg_bw (wpAny_standAt (seg_bw (wpAny_mono h (fun x s₁ h₁ => ?_) fun _ _ e => e)))
    refine seg_bw (wpAny_of_eq (hs x) (seg_bw (wpAny_standAt (seg_bw (wpAny_holding (wpAny_mono h₁ (fun it s₂ h₂ => ?_) fun _ _ e => e))))))
    exact seg_call h₂
  run_tac Mine.sq default
theorem seg_If {test : Expr} {body orelse : List Stmt} {pos : Pos} {K : Flow → Sem Fin} {H : Value → Sem Fin} {gd : Bool → Bool} {lv : List Value → List Value}
    (h : wpAny M (A.over c fs) (isTrue test env (eval test env)) (fun b s' => Seg M A R Y n s₀ c ((if b = true then execs body env else execs orelse env).wrap K H gd lv) fs s') (fun x s' => Seg M A R Y n s₀ c (H x) fs s') s) :
    Seg M A R Y n s₀ c ((exec (.If test body orelse pos) env).wrap K H gd lv) fs s := by
  have e : exec (.If test body orelse pos) env = (standAt pos >>= fun _ => isTrue test env (eval test env) >>= fun b => if b = true then execs body env else execs orelse env) := by
    first | rfl | (unfold exec; rfl)
  rw [e]
  exact seg_bw (wpAny_standAt (seg_bw h))
end
section
variable {prog : Program} {w : World} {A : Around} {R : GenEnd} {Y : Protocol} {n : Nat} {s₀ : Shared} {fs : List Frame} {s : Shared} {env : Env}
noncomputable abbrev loopH (env : Env) : Value → Sem Fin := fun e => (do noteFrame e env; theTreesLotGoes e : Sem Unit).bind fun _ => .raise e
theorem seg_forLoop {target : Expr} {it : Value} {body : List Stmt}
    (h : wpAny (model prog w) (A.over (.forLoop target it body [] env) fs) (pyNext it) (fun o s' => match o with
        | none => Seg (model prog w) A R Y n s₀ (.forLoop target it body [] env) (.pure (.again (.block [] env))) fs s'
        | some v => wpAny (model prog w) (A.over (.forLoop target it body [] env) fs) (letOwnedTupleGo target it v) (fun _ s₁ => wpAny (model prog w) (A.over (.forLoop target it body [] env) fs) (assign target env v) (fun _ s₂ =>
            Seg (model prog w) A R Y n s₀ (.forLoop target it body [] env) ((execs body env).wrap (fun f => (match f with
              | .next | .cont => (again (.forLoop target it body [] env) : Sem Fin)
              | .brk => pure (.done .next)
              | .ret v => pure (.done (.ret v)))) (loopH env) id id) fs s₂) (fun _ _ => False) s₁) (fun _ _ => False) s')
      (fun _ _ => False) s) :
    Seg (model prog w) A R Y n s₀ (.forLoop target it body [] env) ((model prog w).den (.forLoop target it body [] env)) fs s := by
  k_with "proof" =>
    have nf : ∀ {P : Value → Shared → Prop} (e : Value) (s' : Shared), False → P e s' := fun _ _ h => h.elim
    show Seg _ A R Y n s₀ _ ((forTurn target it body [] env).onRaise (fun x => do noteFrame x env; theTreesLotGoes x)) fs s
    unfold forTurn
    rw [Sem.onRaise_eq_wrap]
    refine seg_bw (wpAny_standAt (seg_bw (wpAny_onRaise (wpAny_mono h (fun o s' ho => ?_) nf))))
    cases o with
    | none => exact ho
    | some v =>
      refine seg_bw (wpAny_mono ho (fun _ s₁ h₁ => seg_bw (wpAny_mono h₁ (fun _ s₂ h₂ => ?_) nf)) nf)
      show Seg _ A R Y n s₀ _ ((execs body env >>= _).wrap _ _ _ _) fs s₂
      rw [Sem.bind_eq_wrap', Sem.wrap_wrap]
      refine Eq.mpr (congrArg (fun t => Seg (model prog w) A R Y n s₀ (.forLoop target it body [] env) t fs s₂) (Sem.wrap_congr (execs body env) id id (K' := fun f => (match f with
                | .next | .cont => (again (.forLoop target it body [] env) : Sem Fin)
                | .brk => pure (.done .next)
                | .ret v => pure (.done (.ret v)))) (H' := loopH env) (fun f => ?_) (fun _ => ?_))) h₂
      · cases f <;> rfl
      · rfl
  run_tac Mine.sq default
end
end Mine
end
section -- WGenB
open PySem PySem.W PySem.Calls PySem.Spec PyProof.Rows
namespace Mine
section
variable {prog : Program} {w : World} {A : Around} {E : Value → Shared → Prop} {s : Shared}
theorem lnext_item {it l : Addr} {i : Nat} {items : Array Value} {x : Value} {Q : Option Value → Shared → Prop} (hit : s.heap.IsListIter it l i)
    (hl : s.heap.IsList l items) (hx : items[i]? = some x)
    (hQ : ∀ h', h'.IsListIter it l (i + 1) → Heap.SameBut it s.heap h' → Q (some x) { s with heap := h' }) :
    wpAny (model prog w) A (callSpecial? (.ref it) (Str.ofString "__next__")) Q E s := by
  k_with "proof" =>
    obtain ⟨o, ho, hc, hd⟩ := id hit
    obtain ⟨ol, hol, _, nl, hdl⟩ := hl
    refine wpAny_callSpecial?_slot (name := Str.ofString "__next__") hit.typeIs slot_listiter_next
      (wpAny_call_entry slot_listiter_next hit.typeIs entry_listiter_next ?_ (args_listiter_next _))
    show wpAny _ _ (field (.ref it) 0 >>= _) _ _ s
    refine wpAny_bind (wpAny_field ho hd (x := .ref l) rfl ?_)
    show wpAny _ _ (if (Value.ref l == Value.none) = true then _ else _) _ _ s
    rw [if_neg (show ¬ ((Value.ref l == Value.none) = true) from Bool.false_ne_true)]
    show wpAny _ _ (field (.ref it) 1 >>= _) _ _ s
    refine wpAny_bind (wpAny_field ho hd (x := .int i 0) rfl ?_)
    show wpAny _ _ (seqItems? (.ref l) >>= _) _ _ s
    refine wpAny_bind (wpAny_seqItems hol hdl ?_)
    simp only [Int.toNat_natCast, hx]
    refine wpAny_bind (wpAny_setField ho hd (by simp) (wpAny_pure ⟨x, rfl, hQ _ ?_ (Heap.SameBut.update ..)⟩))
    exact ⟨_, Heap.get?_update_self _ ho (Obj.isFreed_of_fields (Obj.data_mapFields hd _)), (Obj.cls_mapFields ..).trans hc, by
      rw [Obj.data_mapFields hd]; simp [rawInt]⟩
  run_tac Mine.sq default
/-- an exception that says that the turns are over -/
noncomputable def IsStop (h : Heap) (e : Addr) : Prop := ∃ o vs, h.get? e = some o ∧ o.cls = .type "StopIteration" ∧ o.data = .fields vs ∧ vs[5]? = some Value.none
theorem lnext_end {it l : Addr} {i : Nat} {items : Array Value} {Q : Option Value → Shared → Prop} (hh : A.handled = none)
    (hit : s.heap.IsListIter it l i) (hl : s.heap.IsList l items) (hx : items[i]? = none)
    (hE : ∀ h' e, Heap.ExtBut it s.heap h' → IsStop h' e → E (.ref e) { s with heap := h' }) : wpAny (model prog w) A (callSpecial? (.ref it) (Str.ofString "__next__")) Q E s := by
  k_with "proof" =>
    obtain ⟨o, ho, hc, hd⟩ := id hit
    obtain ⟨ol, hol, _, nl, hdl⟩ := hl
    refine wpAny_callSpecial?_slot (name := Str.ofString "__next__") hit.typeIs slot_listiter_next
      (wpAny_call_entry slot_listiter_next hit.typeIs entry_listiter_next ?_ (args_listiter_next _))
    show wpAny _ _ (field (.ref it) 0 >>= _) _ _ s
    refine wpAny_bind (wpAny_field ho hd (x := .ref l) rfl ?_)
    show wpAny _ _ (if (Value.ref l == Value.none) = true then _ else _) _ _ s
    rw [if_neg (show ¬ ((Value.ref l == Value.none) = true) from Bool.false_ne_true)]
    show wpAny _ _ (field (.ref it) 1 >>= _) _ _ s
    refine wpAny_bind (wpAny_field ho hd (x := .int i 0) rfl ?_)
    show wpAny _ _ (seqItems? (.ref l) >>= _) _ _ s
    refine wpAny_bind (wpAny_seqItems hol hdl ?_)
    simp only [Int.toNat_natCast, hx]
    refine wpAny_bind (wpAny_rule (wpAny_bind (wpAny_setField ho hd (by simp) ?_)))
    show wpAny _ _ (newExc (.type "StopIteration") [] >>= _) _ _ _
    refine wpAny_bind ?_
    simp only [newExc, newTuple]
    refine wpAny_bind (wpAny_newObj_type ?_ (by size_fits))
    refine wpAny_bind (m := firstArgMember _ _) (wpAny_of_eq (a := Value.none) (by first | rfl | (simp only [firstArgMember]; rfl)) ?_)
    refine wpAny_newObj_type ?_ (by size_fits)
    simp only [raiseNew]
    refine wpAny_bind (wpAny_handled ?_)
    first | rw [show A.in1.handled = none from hh] | rw [hh]
    refine wpAny_bind (wpAny_pure (wpAny_throw ?_))
    refine hE _ _ (((Heap.SameBut.update ..).extBut.push _).push _) ⟨_, _, Heap.get?_push_size _ rfl, rfl, rfl, rfl⟩
  run_tac Mine.sq default
end
section
variable {prog : Program} {w : World} {A : Around} {R : GenEnd} {Y : Protocol} {s₀ s : Shared} {c : Code} {fs : List Frame}
theorem entry_yf : entryFor table "proto.yield_from" = some Builtin.«proto.yield_from» := entryFor_of_tree (by kernel_rfl)
noncomputable abbrev yfC (it v : Value) : Code := .builtin "proto.yield_from" ⟨[it, .bool false, v], []⟩
theorem seg_builtin {n : Nat} {id : String} {args : Args} {b : Builtin} (hb : entryFor table id = some b) (h : Seg (model prog w) A R Y n s₀ (.builtin id args) (b args) fs s) :
    Seg (model prog w) A R Y n s₀ (.builtin id args) ((model prog w).den (.builtin id args)) fs s := by
  show Seg _ A R Y n s₀ _ (match entryFor table id with | some b => b args | none => unsupported ((withoutEnding? id "#data").getD id)) fs s
  rw [hb]; exact h
theorem ends_stop {A : Around} {E : Value → Shared → Prop} {e : Addr} {Q : Bool → Shared → Prop} (h : IsStop s.heap e) (hq : Q true s) : wpAny (model prog w) A (Builtin.Generator.endsTheTurnAsAValue false (.ref e)) Q E s := by
  k_with "proof" =>
    obtain ⟨o, vs, ho, hc, hd, h5⟩ := h
    unfold Builtin.Generator.endsTheTurnAsAValue Builtin.Generator.isStopAndMetaclass
    refine wpAny_bind (wpAny_bind (wpAny_typeOf (T := "StopIteration") ⟨o, ho, hc⟩ ?_))
    refine wpAny_bind (wpAny_of_eq isSubtype_stop (wpAny_bind (wpAny_pure (wpAny_pure ?_))))
    show wpAny _ _ (if false = true then _ else _) _ _ _
    rw [if_neg Bool.false_ne_true]
    exact wpAny_pure hq
  run_tac Mine.sq default
theorem seg_yf_end {n : Nat} {it l : Addr} {i : Nat} {items : Array Value} (hh : (A.over (yfC (.ref it) .none) fs).handled = none)
    (hit : s.heap.IsListIter it l i) (hl : s.heap.IsList l items) (hx : items[i]? = none)
    (h : ∀ h', Heap.ExtBut it s.heap h' → Seg (model prog w) A R Y n s₀ (yfC (.ref it) .none) (leafOf (.ok (.ret .none))) fs { s with heap := h' }) :
    Seg (model prog w) A R Y n s₀ (yfC (.ref it) .none) ((model prog w).den (yfC (.ref it) .none)) fs s := by
  k_with "proof" =>
    refine seg_builtin entry_yf ?_
    unfold Builtin.«proto.yield_from»
    refine seg_bind (wpAny_pure ?_)
    refine seg_bind (wpAny_attempt (wpAny_holding ?_))
    rw [if_neg Bool.false_ne_true, if_pos (show (Value.none == Value.none) = true from rfl)]
    refine wpAny_bind (wpAny_rule (wpAny_bind (lnext_end hh hit hl hx fun h' e hb he => ?_)))
    refine seg_bind (ends_stop he ?_)
    obtain ⟨o, vs, ho, hc, hd, h5⟩ := he
    rw [if_pos rfl, if_neg Bool.false_ne_true]
    refine seg_bind (wpAny_rule (seg_bind (wpAny_field ho hd h5 ?_)))
    exact h h' hb
  run_tac Mine.sq default
theorem slept {A : Around} {E : Value → Shared → Prop} {it : Addr} {b : Bool} {Q : Unit → Shared → Prop} {o : Obj} (ho : s.heap.get? it = some o) (hc : o.cls = .type "list_iterator") (hq : Q () s) : wpAny (model prog w) A (Builtin.Generator.sleptOver (.ref it) b) Q E s := by
  k_with "proof" =>
    unfold Builtin.Generator.sleptOver
    refine wpAny_bind (wpAny_load ho ?_)
    rw [hc]
    rw [if_pos (by decide +kernel)]
    exact wpAny_pure hq
  run_tac Mine.sq default
theorem seg_yf_item {n : Nat} {it l : Addr} {i : Nat} {items : Array Value} {x : Value} (hit : s.heap.IsListIter it l i) (hl : s.heap.IsList l items) (hx : items[i]? = some x) (hfs : splitAtGen fs = none) (hfg : fs.any Frame.guarded = false)
    (hcl : typeLookup (.type "list_iterator") "close" = pure none)
    (h : ∀ h' (kap : Resume → Shared → Prop), h'.IsListIter it l (i + 1) → Heap.SameBut it s.heap h' →
      (∀ s'' o, s''.heap.get? it = some o → o.cls = .type "list_iterator" → Seg (model prog w) A R Y n s'' (yfC (.ref it) .none) ((model prog w).den (yfC (.ref it) .none)) fs s'' → kap (.send .none) s'') → Y n s₀ x { s with heap := h' } kap) :
    Seg (model prog w) A R Y (n + 1) s₀ (yfC (.ref it) .none) ((model prog w).den (yfC (.ref it) .none)) fs s := by
  k_with "proof" =>
    refine seg_builtin entry_yf ?_
    unfold Builtin.«proto.yield_from»
    refine seg_bind (wpAny_pure ?_)
    refine seg_bind (wpAny_attempt (wpAny_holding ?_))
    rw [if_neg Bool.false_ne_true, if_pos (show (Value.none == Value.none) = true from rfl)]
    refine wpAny_bind (wpAny_rule (wpAny_bind (lnext_item hit hl hx fun h' hit' hb => wpAny_pure ?_)))
    obtain ⟨o, ho, hc, hd⟩ := id hit'
    refine seg_bind (wpAny_typeOf (T := "list_iterator") ⟨o, ho, hc⟩ ?_)
    refine seg_bind (wpAny_of_eq hcl (seg_bind (wpAny_pure ?_)))
    refine seg_bind (slept ho hc ?_)
    refine seg_yield hfs rfl hfg ?_
    refine h h' _ hit' hb fun s'' o'' ho'' hc'' hS => ?_
    show Seg _ A R Y n s'' _ (Builtin.Generator.sleptOver (.ref it) false >>= _) fs s''
    refine seg_bind (slept ho'' hc'' ?_)
    refine seg_bind (wpAny_of_eq (a := Value.none) rfl ?_)
    exact seg_again (plainId_quiet (by decide +kernel) _) hS
  run_tac Mine.sq default
end
end Mine
end
section -- WGenC
open PySem PySem.W PySem.Calls PySem.Spec PyProof.Rows
namespace Mine
section
variable {M : Model} {A : Around} {R : GenEnd} {Y : Protocol} {n : Nat} {s₀ : Shared} {c : Code} {fs : List Frame} {s : Shared} {env : Env}
noncomputable abbrev yfK (e : Expr) (p7 p8 : Pos) (K : Flow → Sem Fin) (H : Value → Sem Fin) (gd : Bool → Bool) (lv : List Value → List Value) : Result → Sem Fin :=
  fun x => Sem.wrap (fun a => Sem.wrap K H gd lv (dropValue (.YieldFrom e p7) p8 a)) (fun e => Sem.wrap K H gd lv (Sem.raise e)) (fun g => gd (id g)) (fun l => lv (id l))
    (((match x with | .ok f => (Sem.pure f : Sem Flow) | .error e => Sem.raise e)).bind fun f => match f with | .ret v => pure v | _ => unsupported "internal:call-without-return-value")
theorem seg_ExprYF {prog : Program} {w : World} {R : GenEnd} {Y : Protocol} {e : Expr} {p7 p8 : Pos} {K : Flow → Sem Fin} {H : Value → Sem Fin} {gd : Bool → Bool} {lv : List Value → List Value} {b : Addr} {items : Array Value} {Q0 : Shared → Prop}
    (he : wpAny (model prog w) (A.over c fs) (eval e env) (fun v s₁ => v = .ref b ∧ s₁.heap.IsList b items ∧ ∀ p, Seg (model prog w) A R Y n s₀ (yfC (.ref s₁.heap.objs.size) .none) ((model prog w).den (yfC (.ref s₁.heap.objs.size) .none)) (.ret (yfK e p7 p8 K H gd lv) none (gd false) (lv []) c p [] :: fs) { s₁ with heap := s₁.heap.push { cls := .type "list_iterator", data := .fields #[.ref b, .int 0 0] } }) (fun _ _ => False) s)
    (hi : interactive env = false := by rfl) :
    Seg (model prog w) A R Y n s₀ c ((exec (.Expr (.YieldFrom e p7) p8) env).wrap K H gd lv) fs s := by
  k_with "proof" =>
    rw [exec_Expr env _ p8 hi rfl, arm_eval_YieldFrom]
    refine seg_bw (wpAny_standAt ?_)
    rw [Sem.bind_eq_wrap', Sem.wrap_wrap]
    refine seg_bw (wpAny_mono he (fun v s₁ h => ?_) fun _ _ h => h.elim)
    obtain ⟨rfl, hl, hS⟩ := h
    refine seg_bw (wpAny_standAt ?_)
    unfold yieldFrom
    refine seg_bw (wpAny_typeOf (T := "list") hl.typeIs ?_)
    rw [if_neg (show ¬ (Value.type "list" == Value.type "coroutine") = true by decide +kernel)]
    refine seg_bw (wpAny_holding (wpAny_pyIter_list hl ?_))
    refine seg_call fun p => ?_
    exact hS p
  run_tac Mine.sq default
end
section
theorem Name_own {M : Model} {s : Shared} {env : Env} {A : Around} {E : Value → Shared → Prop} {x : Str} {pos : Pos} {m : Str → Option Value} {v : Value} {Q : Value → Shared → Prop} (hn : s.heap.Ns env.locals m) (hv : m x = some v) (h : Q v s) (hk : env.scope.kind = .function) (hl : env.kindOf x = some .local) (hd : (x == ("__debug__" : Str)) = false) :
    wpAny M A (eval (.Name x pos) env) Q E s := wpAny_Name (wpAny_loadName_local hk hl hn hv h) hd
/-- what the walk over the namespaces keeps -/
structure GenAt (h : Heap) (env : Env) (ln b0 : Addr) (stk : Array Value) (x : Value) : Prop where
  ns : ∃ m, h.Ns env.locals m
  l : h.IsList ln stk
  b : h.IsList b0 #[x]
  s0 : stk[0]? = some (Value.ref b0)
  es : ∀ (k : Nat) (v : Value), stk[k + 1]? = some v → ∃ a, v = Value.ref a ∧ h.IsList a #[]
  nL : ∀ (k : Nat) (a : Addr), stk[k]? = some (Value.ref a) → a ≠ env.locals
  nl : ln ≠ env.locals
noncomputable abbrev genIf (p5 p6 p7 p8 p9 : Pos) : List Stmt := [.If (.Name (Str.ofString "namespaces") p5) [.Expr (.YieldFrom (.Name (Str.ofString "namespaces") p6) p7) p8] [] p9]
noncomputable abbrev genR (P : Nat → Shared → Shared → Prop) : GenEnd := fun n s₀ r s₁ => r = .ok (.ret .none) ∧ P n s₀ s₁
theorem GenAt.change {env : Env} {h h' : Heap} {ln b0 : Addr} {stk : Array Value} {x : Value} (g : GenAt h env ln b0 stk x) (hk : ∀ a o, a ≠ env.locals → h.get? a = some o → o.cls = .type "list" → h'.get? a = some o) (hn : ∃ m, h'.Ns env.locals m) : GenAt h' env ln b0 stk x := by
  k_with "proof" =>
    have up : ∀ a items, a ≠ env.locals → h.IsList a items → h'.IsList a items := fun a items ne ⟨o, e, hc, r⟩ => ⟨o, hk a o ne e hc, hc, r⟩
    refine ⟨hn, up _ _ g.nl g.l, up _ _ (g.nL 0 _ g.s0) g.b, g.s0, fun k v hv => ?_, g.nL, g.nl⟩
    obtain ⟨a, rfl, ha⟩ := g.es k v hv
    exact ⟨a, rfl, up _ _ (g.nL _ _ hv) ha⟩
  run_tac Mine.sq default
end
end Mine
end
section -- WGenD
open PySem PySem.W PySem.Calls PySem.Spec PyProof.Rows
namespace Mine
structure GenEnv (env : Env) : Prop where
  k : env.scope.kind = .function
  n1 : env.kindOf (Str.ofString "namespaces") = some .local
  n2 : env.kindOf (Str.ofString "_reversed") = some .local
  n3 : env.kindOf (Str.ofString "ns_stack") = some .local
  hi : interactive env = false
noncomputable abbrev genP (N0 : Nat) : Nat → Shared → Shared → Prop := fun n s₀ s₁ => n = 0 ∧ ∃ h' t', s₁ = { s₀ with heap := h', toks := t' } ∧ ∀ b o, b < N0 → s₀.heap.get? b = some o → h'.get? b = some o
noncomputable abbrev genY (N0 : Nat) (L2 ln b0 : Addr) (x : Value) : Protocol := fun _ s₀ v s' kap => v = x ∧ ∃ h' t' I2 I3, s' = { s₀ with heap := h', toks := t' } ∧ (∀ b o, b ≠ L2 → b < N0 → s₀.heap.get? b = some o → h'.get? b = some o) ∧ N0 ≤ I2 ∧ N0 ≤ I3 ∧ I2 ≠ I3 ∧
  h'.IsRevIter I2 ln (-1) ∧ h'.IsListIter I3 b0 1 ∧ (∃ m, h'.Ns L2 m) ∧ ∀ s'' : Shared, s''.heap.IsRevIter I2 ln (-1) → s''.heap.IsListIter I3 b0 1 → s''.heap.IsList b0 #[x] → kap (.send .none) s''
section
variable {prog : Program} {w : World} {A : Around} {s₀ s : Shared} {env : Env} {fs : List Frame}
theorem gen_loop {N0 : Nat} {ln b0 : Addr} {stk : Array Value} {x : Value} {p0 p5 p6 p7 p8 p9 pF : Pos} {K0 : Flow → Sem Fin} {H0 : Value → Sem Fin} {cF : Code} (ge : GenEnv env) (hA : A.handled = none)
    (hK0 : K0 .next = .pure (.done (.ret .none))) (hh : ∀ c, (A.over c [.ret (runK env K0 H0 id id) none false [] cF pF []]).handled = none)
    (hh2 : ∀ c (k : Result → Sem Fin) c' p', (A.over c (.ret k none false [] c' p' [] :: [.ret (runK env K0 H0 id id) none false [] cF pF []])).handled = none) :
    ∀ (k : Nat) (s : Shared), (∃ h t, s = { s₀ with heap := h, toks := t }) → k < stk.size → GenAt s.heap env ln b0 stk x → s.heap.IsRevIter N0 ln (k : Int) → N0 < s.heap.objs.size → env.locals < N0 →
      (∀ b o, b ≠ env.locals → b < N0 → s₀.heap.get? b = some o → s.heap.get? b = some o) →
      Seg (model prog w) A (genR (genP N0)) (genY N0 env.locals ln b0 x) 1 s₀ (.forLoop (.Name (Str.ofString "namespaces") p0) (.ref N0) (genIf p5 p6 p7 p8 p9) [] env)
        ((model prog w).den (.forLoop (.Name (Str.ofString "namespaces") p0) (.ref N0) (genIf p5 p6 p7 p8 p9) [] env)) [.ret (runK env K0 H0 id id) none false [] cF pF []] s := by
  k_with "proof" =>
    intro k
    induction k with
    | zero =>
      rintro s ⟨h, tk, rfl⟩ hk g hit hsz hL keep
      refine seg_forLoop (wpAny_pyNext_rev_item (i := 0) hit g.l g.s0 fun h1 hit1 hb1 => ?_)
      refine wpAny_of_eq (a := ()) rfl ?_
      obtain ⟨m, hn⟩ := g.ns
      have hnI : N0 ≠ env.locals := Nat.ne_of_gt hL
      have hn1 := hn.sameBut hb1 (Ne.symm hnI)
      refine wpAny_assign_Name (wpAny_storeName_local ge.n1 hn1 (fun h2 hn2 hb2 => ?_) (by rw [ge.k]; rfl))
      refine seg_execs_cons (seg_If ?_)
      have g1 : GenAt h1 env ln b0 stk x := g.change (fun a o ne e hc => hb1.extBut _ _ (fun e2 => by
        obtain ⟨o2, e3, hc2, _⟩ := hit
        rw [e2] at e
        rw [e] at e3
        cases e3
        rw [hc] at hc2; exact absurd hc2 (by decide)) e) ⟨_, hn1⟩
      have g2 : GenAt h2 env ln b0 stk x := g1.change (fun a o ne e _ => hb2.extBut _ _ ne e) ⟨_, hn2⟩
      refine isTrue_plain (Name_own hn2 (v := .ref b0) (by simp) (wpAny_truthy_list g2.b (by show ((1 : Nat) : Int) < _; decide) ?_) ge.k ge.n1 (by decide))
      show Seg _ _ _ _ _ _ _ ((execs [.Expr (.YieldFrom (.Name (Str.ofString "namespaces") p6) p7) p8] env).wrap _ _ _ _) _ _
      refine seg_execs_cons ?_
      refine seg_ExprYF (b := b0) (items := #[x]) (Q0 := fun _ => True) (Name_own hn2 (v := .ref b0) (by simp) ⟨rfl, g2.b, fun p => ?_⟩ ge.k ge.n1 (by decide)) ge.hi
      have hit2 := hit1.at (h' := h2) fun o e => hb2.extBut _ _ hnI e
      have sz2 : N0 < h2.objs.size := by obtain ⟨o, e, _⟩ := hit2; exact Heap.lt_size e
      have up3 : ∀ b o, h2.get? b = some o → (h2.push { cls := .type "list_iterator", data := .fields #[.ref b0, .int 0 0] }).get? b = some o := fun b o e => Heap.get?_push_of_some _ e
      have g3 := g2.change (fun a o ne e _ => up3 a o e) ⟨_, hn2.at' fun o e => up3 _ o e⟩
      refine seg_yf_item (i := 0) (l := b0) (items := #[x]) (x := x) ⟨_, Heap.get?_push_size _ rfl, rfl, rfl⟩ g3.b rfl rfl rfl (by rw [typeLookup_type, builtinLookup_eq_fast]; kernel_rfl) fun h4 kap hit4 hb4 hk4 => ?_
      refine ⟨rfl, h4, _, N0, h2.objs.size, rfl, fun b o ne lt e => ?_, Nat.le_refl _, Nat.le_of_lt sz2, Nat.ne_of_lt sz2, ?_, hit4, ?_, fun s'' f1 f2 f3 => ?_⟩
      · have ne4 : b ≠ h2.objs.size := Nat.ne_of_lt (Nat.lt_trans lt sz2)
        exact hb4.extBut _ _ ne4 (up3 _ _ (hb2.extBut _ _ ne (hb1.extBut _ _ (Nat.ne_of_lt lt) (keep b o ne lt e))))
      · exact (hit2.at (up3 _)).at fun o e => hb4.extBut _ _ (Nat.ne_of_lt sz2) e
      · exact ⟨_, (hn2.at' fun o e => up3 _ o e).sameBut hb4 (Nat.ne_of_lt (Nat.lt_trans hL sz2))⟩
      · obtain ⟨o2, e2, c2, d2⟩ := id f2
        refine hk4 s'' o2 e2 c2 (seg_yf_end (hh2 _ _ _ _) f2 f3 rfl fun h5 hb5 => ?_)
        refine seg_leaf (.ok (.ret .none)) ?_
        show Seg _ _ _ _ _ _ _ (Sem.pure (.again (.forLoop (.Name (Str.ofString "namespaces") p0) (.ref N0) (genIf p5 p6 p7 p8 p9) [] env))) _ _
        refine seg_again rfl (seg_forLoop (wpAny_pyNext_rev_end (l := ln) (hh _) ?_ fun h6 hb6 => ?_))
        · exact f1.at fun o e => hb5 _ _ (Nat.ne_of_lt sz2) e
        · refine seg_again rfl ?_
          show Seg _ _ _ _ _ _ _ (leafOf (.ok .next)) _ _
          refine seg_leaf (.ok .next) ?_
          show Seg _ _ _ _ _ _ _ (K0 .next) _ _
          rw [hK0]
          refine seg_end (.ok (.ret .none)) ⟨rfl, rfl, h6, _, rfl, fun b o lt e => ?_⟩
          exact hb6 _ _ (Nat.ne_of_lt lt) (hb5 _ _ (Nat.ne_of_lt (Nat.lt_trans lt sz2)) e)
    | succ k ih =>
      rintro s ⟨h, tk, rfl⟩ hk g hit hsz hL keep
      obtain ⟨v, hv⟩ : ∃ v, stk[k + 1]? = some v := ⟨stk[k + 1], by simp [hk]⟩
      obtain ⟨a, rfl, ha⟩ := g.es k v hv
      refine seg_forLoop (wpAny_pyNext_rev_item (i := k + 1) hit g.l hv fun h1 hit1 hb1 => ?_)
      refine wpAny_of_eq (a := ()) rfl ?_
      obtain ⟨m, hn⟩ := g.ns
      have hnI : N0 ≠ env.locals := Nat.ne_of_gt hL
      have hn1 := hn.sameBut hb1 (Ne.symm hnI)
      refine wpAny_assign_Name (wpAny_storeName_local ge.n1 hn1 (fun h2 hn2 hb2 => ?_) (by rw [ge.k]; rfl))
      refine seg_execs_cons (seg_If ?_)
      have g1 : GenAt h1 env ln b0 stk x := g.change (fun a o ne e hc => hb1.extBut _ _ (fun e2 => by
        obtain ⟨o2, e3, hc2, _⟩ := hit
        rw [e2] at e
        rw [e] at e3
        cases e3
        rw [hc] at hc2; exact absurd hc2 (by decide)) e) ⟨_, hn1⟩
      have g2 : GenAt h2 env ln b0 stk x := g1.change (fun a o ne e _ => hb2.extBut _ _ ne e) ⟨_, hn2⟩
      obtain ⟨a', e', ha'⟩ := g2.es k _ hv
      cases e'
      refine isTrue_plain (Name_own hn2 (v := .ref a) (by simp) (wpAny_truthy_list ha' (by decide) ?_) ge.k ge.n1 (by decide))
      show Seg _ _ _ _ _ _ _ (Sem.pure (.again (.forLoop (.Name (Str.ofString "namespaces") p0) (.ref N0) (genIf p5 p6 p7 p8 p9) [] env))) _ _
      refine seg_again rfl (ih _ ⟨_, _, rfl⟩ (by omega) g2 ?_ ?_ hL fun b o ne lt e => ?_)
      · have hit2 := hit1.at (h' := h2) fun o e => hb2.extBut _ _ hnI e
        have e : ((k + 1 : Nat) : Int) - 1 = (k : Int) := by omega
        rw [e] at hit2
        exact hit2
      · obtain ⟨o, e, _⟩ := hit1.at (h' := h2) fun o e => hb2.extBut _ _ hnI e
        exact Heap.lt_size e
      · exact hb2.extBut _ _ ne (hb1.extBut _ _ (Nat.ne_of_lt lt) (keep b o ne lt e))
  run_tac Mine.sq default
end
end Mine
namespace Mine
section
variable {prog : Program} {w : World} {A : Around} {s : Shared} {env : Env}
noncomputable abbrev genBody (p0 p5 p6 p7 p8 p9 q1 q2 q3 q4 : Pos) : List Stmt := [.For (.Name (Str.ofString "namespaces") p0) (.Call (.Name (Str.ofString "_reversed") q1) [.Name (Str.ofString "ns_stack") q2] [] q3) (genIf p5 p6 p7 p8 p9) [] q4]
theorem gen_first {ln b0 : Addr} {stk : Array Value} {x : Value} {m : Str → Option Value} {p0 p5 p6 p7 p8 p9 q1 q2 q3 q4 : Pos} (ge : GenEnv env) (hA : A.handled = none) (g : GenAt s.heap env ln b0 stk x) (hn : s.heap.Ns env.locals m)
    (h1 : m (Str.ofString "_reversed") = some (.type "reversed")) (h2 : m (Str.ofString "ns_stack") = some (.ref ln)) :
    (GenState.fresh (.func (genBody p0 p5 p6 p7 p8 p9 q1 q2 q3 q4) env)).Goes (model prog w) A (genR (genP s.heap.objs.size)) (genY s.heap.objs.size env.locals ln b0 x) 1 (.send .none) s := by
  k_with "proof" =>
    have hL : env.locals < s.heap.objs.size := hn.lt
    have hsz : 0 < stk.size := by
      have := g.s0
      by_cases e : 0 < stk.size
      · exact e
      · rw [Array.getElem?_eq_none (by omega)] at this; cases this
    refine ⟨rfl, seg_func (seg_execs_cons (seg_For ?_))⟩
    refine Call_Name1 (Name_own hn h1 ?_ ge.k ge.n2 (by decide))
    refine PySem.callWith_type1 (Name_own hn h2 ?_ ge.k ge.n3 (by decide))
    refine call_reversed_list g.l ?_
    have up : ∀ b o, s.heap.get? b = some o → (s.heap.push (revObj ln ((stk.size : Int) - 1))).get? b = some o := fun b o e => Heap.get?_push_of_some _ e
    have hrev : (s.heap.push (revObj ln ((stk.size : Int) - 1))).IsRevIter s.heap.objs.size ln ((stk.size : Int) - 1) := ⟨_, Heap.get?_push_size _ rfl, rfl, rfl⟩
    refine wpAny_pyIter_revIter hrev fun p => ?_
    have hk : ((stk.size : Int) - 1) = ((stk.size - 1 : Nat) : Int) := by omega
    rw [hk] at hrev up ⊢
    refine gen_loop (K0 := _) (H0 := _) ge hA rfl ?_ ?_ (stk.size - 1) _ ⟨_, _, rfl⟩ (by omega) (g.change (fun a o ne e _ => up a o e) ⟨_, hn.at' fun o e => up _ o e⟩) hrev (by rw [Heap.size_push]; exact Nat.lt_succ_self _) hL fun b o _ _ e => up b o e
    · intro c
      show (marksOver _ _).1 = none
      simp [marksOver, Frame.marks, markOver, hA]
    · intro c k c' p'
      show (marksOver _ _).1 = none
      simp [marksOver, Frame.marks, markOver, hA]
  run_tac Mine.sq default
end
end Mine
end
section -- WGenE
open PySem PySem.W PySem.Calls PySem.Spec PyProof.Rows
open PyProof.Rows.LCg
namespace Mine
section
variable {w : World} {A : Around} {E : Value → Shared → Prop} {s : Shared} {h₀ : Heap} {L : Addr} {m : Str → Option Value} {news : List (Addr × Obj)} {mean : ExcName → Option Value} {mg mb : Str → Option Value}
theorem gen_call {x ln : Addr} {Q : Value → Shared → Prop} (X : (K w.params).In h₀) (F : Fr h₀ L s.heap m) (N : News h₀ L s.heap news) (T : Top VW LO mean mg mb h₀) (hroom : A.depth < recursionLimit)
    (h : ∀ p0 p5 p6 p7 p8 p9 q1 q2 q3 q4 ga L2 oL2 oG m2 h' tk genv, GenEnv genv → genv.locals = L2 → NsObj oL2 m2 → m2 (Str.ofString "_reversed") = some (.type "reversed") → m2 (Str.ofString "ns_stack") = some (.ref ln) →
      h'.IsGen ga s.gens.size → Fr h₀ L h' m → News h₀ L h' ((ga, oG) :: (L2, oL2) :: news) → (∀ p ∈ news, p.1 < L2) → L2 < ga →
      Q (.ref ga) { s with heap := h', toks := tk, gens := s.gens.push (.fresh (.func (genBody p0 p5 p6 p7 p8 p9 q1 q2 q3 q4) genv)) }) : wpAny (model PG w) A (call (.ref 171) [.ref x, .ref ln]) Q E s := by
  k_with "proof" =>
    have Xs := X.keeps F.keep
    have e := Xs 171 _ (by with_unfolding_all rfl)
    refine wpAny_call (codeAny_call_generator hroom e rfl rfl rfl rfl (codeRec_of Xs (by with_unfolding_all rfl)) ?_)
    refine (binds_K (K := K w.params) Xs rfl (by with_unfolding_all rfl) rfl rfl rfl : BindsTo s _ _ _) _ _ _ _ ?_
    refine wpAny_newFunctionEnv (by decide) (locs rfl) (fun h₁ hns hsb => ⟨((T.nolimit).keeps F.keep).fresh _ hsb, ?_⟩) rfl
    have hk₁ : ∀ b o, s.heap.get? b = some o → h₁.get? b = some o := fun b o e => hsb.extBut b o (Nat.ne_of_lt (Heap.lt_size e)) (Heap.get?_push_of_some _ e)
    have lt : ∀ p ∈ news, p.1 < s.heap.objs.size := fun p hp => Heap.lt_size (N p hp).1
    have F1 : Fr h₀ L h₁ m := F.keeps hk₁
    obtain ⟨oL2, eL2, nL2⟩ := ns_obj hns
    have hL0 : h₀.get? s.heap.objs.size = none := next_is_new F
    have N1 : News h₀ L h₁ ((s.heap.objs.size, oL2) :: news) := fun p hp => by
      rcases List.mem_cons.mp hp with rfl | hp
      · exact ⟨eL2, Ne.symm (Nat.ne_of_lt F.ns.lt), hL0⟩
      · exact ⟨hk₁ _ _ (N p hp).1, (N p hp).2⟩
    have hlt : s.heap.objs.size < h₁.objs.size := Heap.lt_size eL2
    exact h _ _ _ _ _ _ _ _ _ _ _ s.heap.objs.size oL2 _ _ _ _ _ ⟨rfl, rfl, rfl, rfl, rfl⟩ rfl nL2 rfl rfl ⟨_, _, _, Heap.get?_push_size _ rfl, rfl, rfl, rfl⟩ (F1.push _) (N1.push F1 _) lt hlt
  run_tac Mine.sq default
end
end Mine
end
section -- WGenF
open PySem PySem.W PySem.Calls PySem.Spec PyProof.Rows
open PyProof.Rows.LCg
namespace Mine
/-- all generators but one are at rest -/
noncomputable def ButG (g : Nat) (a : Array GenState) : Prop := ∀ (i : Nat) y, a[i]? = some y → i ≠ g → y.bare = true
theorem ButG.set {g : Nat} {a : Array GenState} {y : GenState} (h : ButG g a) : ButG g (a.setIfInBounds g y) := fun i z e ne => by
  rw [Array.getElem?_setIfInBounds_ne (Ne.symm ne)] at e
  exact h i z e ne
theorem ButG.push {a : Array GenState} {y : GenState} (h : AllBare a) : ButG a.size (a.push y) := fun i z e ne => by
  rw [Array.getElem?_push] at e
  rw [if_neg ne] at e
  exact h z (Array.mem_of_getElem? e)
theorem ButG.all {g : Nat} {a : Array GenState} (h : ButG g a) (e : a[g]? = some .finished) : AllBare a := fun y hy => by
  obtain ⟨i, hi⟩ := Array.getElem?_of_mem hy
  by_cases ne : i = g
  · rw [ne, e] at hi; cases hi; rfl
  · exact h i y hi ne
section
variable {prog : Program} {w : World} {A : Around} {s : Shared} {env : Env} {h₀ : Heap}
theorem letGo_gen {E : Value → Shared → Prop} {target : Expr} {I : Addr} {g : Nat} {v : Value} {Q' : Unit → Shared → Prop} {s' : Shared} (hit : s'.heap.IsGen I g) (h : Q' () s') :
    wpAny (model prog w) A (letOwnedTupleGo target (.ref I) v) Q' E s' := by
  k_with "proof" =>
    obtain ⟨o, nm, qn, ho, hc, hd, _⟩ := hit
    unfold letOwnedTupleGo
    cases target <;> first
      | exact wpAny_pure h
      | (cases v <;> first
          | exact wpAny_pure h
          | (refine wpAny_bind (wpAny_load ho ?_)
             rw [hc, hd]
             exact wpAny_pure h))
  run_tac Mine.sq default
/-- the body's turn behind the only yield -/
noncomputable def GEnd (h₀ : Heap) (L : Addr) (s₁ : Shared) (ex : List (Addr × Obj)) (b0 : Addr) (ob : Obj) (N0 : Nat) (J : (Str → Option Value) → List (Addr × Obj) → Prop) (f : Flow) (s₃ : Shared) : Prop :=
  f = .next ∧ ∃ m' news', Fr h₀ L s₃.heap m' ∧ News h₀ L s₃.heap (ex ++ news') ∧ (∀ p ∈ news', p.1 < N0) ∧ (b0, ob) ∈ news' ∧ s₃.gens = s₁.gens ∧ s₃.os = s₁.os ∧ s₃.drawn = s₁.drawn ∧ J m' news'
theorem gen_for {target : Expr} {body : List Stmt} {R : Result → Shared → Prop} {ga L2 ln b0 : Addr} {oG oL2 : Obj} {m m2 : Str → Option Value} {news : List (Addr × Obj)} {genv : Env} {g kb : Nat} {stk : Array Value} {x : Value} {p0 p5 p6 p7 p8 p9 q1 q2 q3 q4 : Pos}
    (hh : A.handled = none) (hroom : A.depth < recursionLimit) (hlim : h₀.NoLimit) (ge : GenEnv genv) (hL2 : genv.locals = L2) (hga : s.heap.IsGen ga g) (hgs : s.gens[g]? = some (.fresh (.func (genBody p0 p5 p6 p7 p8 p9 q1 q2 q3 q4) genv)))
    (F : Fr h₀ env.locals s.heap m) (N : News h₀ env.locals s.heap ((ga, oG) :: (L2, oL2) :: news)) (n2 : NsObj oL2 m2) (h1 : m2 (Str.ofString "_reversed") = some (.type "reversed")) (h2 : m2 (Str.ofString "ns_stack") = some (.ref ln)) (G : GenAt s.heap genv ln b0 stk x)
    (hb0 : (b0, listOf #[x] kb) ∈ news) (hbut : ButG g s.gens) (hoffL : ∀ p ∈ news, p.1 ≠ L2) (hgaL : ga ≠ L2) (J₀ : (Str → Option Value) → (Str → Option Value) → List (Addr × Obj) → Prop)
    (turn : ∀ I2 o2 I3 o3 s₁, AllLt I2 ((ga, oG) :: news) → AllLt I3 ((ga, oG) :: news) → s₁.os = s.os → s₁.drawn = s.drawn → Fr h₀ env.locals s₁.heap m → News h₀ env.locals s₁.heap ([(I3, o3), (I2, o2), (ga, oG)] ++ news) →
      wpAny (model prog w) A (assign target env x) (fun _ s₂ => wpAny (model prog w) A (execs body env) (GEnd h₀ env.locals s₁ [(I3, o3), (I2, o2), (ga, oG)] b0 (listOf #[x] kb) s.heap.objs.size (J₀ m)) (fun _ _ => False) s₂) (fun _ _ => False) s₁)
    (fin : ∀ m' news' s', J₀ m m' news' → Fr h₀ env.locals s'.heap m' → News h₀ env.locals s'.heap news' → AllBare s'.gens → s'.os = s.os → s'.drawn = s.drawn → R (.ok .next) s') :
    codeAny (model prog w) A (.forLoop target (.ref ga) body [] env) R s := by
  k_with "proof" =>
    have nf : ∀ {P : Value → Shared → Prop} e s', False → P e s' := fun _ _ h => h.elim
    refine codeAny_forLoop_any (fun k s' => (k = 1 ∧ s' = s) ∨ (k = 0 ∧ ∃ I2 o2 I3 o3 gs' m' news', s.heap.objs.size ≤ I2 ∧ s.heap.objs.size ≤ I3 ∧ I2 ≠ I3 ∧ Fr h₀ env.locals s'.heap m' ∧ News h₀ env.locals s'.heap ([(I3, o3), (I2, o2), (ga, oG)] ++ news') ∧ (∀ p ∈ news', p.1 < s.heap.objs.size) ∧ (b0, listOf #[x] kb) ∈ news' ∧ s'.heap.IsGen ga g ∧ s'.gens[g]? = some gs' ∧ ButG g s'.gens ∧ s'.os = s.os ∧ s'.drawn = s.drawn ∧ J₀ m m' news' ∧
        gs'.Goes (model prog w) A.in1 (genR (genP s.heap.objs.size)) (genY s.heap.objs.size L2 ln b0 x) 0 (.send .none) (s'.setGen g .running))) ?_ 1 (.inl ⟨rfl, rfl⟩)
    rintro k s' (⟨rfl, rfl⟩ | ⟨rfl, I2, o2, I3, o3, gs', m', news', l2, l3, ne23, F', N', lt', hb', hga', hgs', hbut', ho', hd', hJ', hgo'⟩)
    · have hns : s'.heap.Ns genv.locals m2 := by rw [hL2]; exact n2.ns (N _ (List.mem_cons_of_mem _ (List.mem_cons_self ..))).1
      have hL2n := (N (L2, oL2) (List.mem_cons_of_mem _ (List.mem_cons_self ..))).2
      have ltN : ∀ p ∈ (ga, oG) :: news, p.1 < s'.heap.objs.size := fun p hp => Heap.lt_size (N p (by
        rcases List.mem_cons.mp hp with e | hp
        · exact e ▸ List.mem_cons_self ..
        · exact List.mem_cons_of_mem _ (List.mem_cons_of_mem _ hp))).1
      have ltL : env.locals < s'.heap.objs.size := F.ns.lt
      have neL : env.locals ≠ L2 := Ne.symm hL2n.1
      refine wpAny_pyNext_gen (n := 1) (P := genP s'.heap.objs.size) (Y := genY s'.heap.objs.size genv.locals ln b0 x) hh (hlim.keeps F.keep) hroom hga hgs (gen_first (A := A.in1) ge hh G hns h1 h2) ?_ ?_
      · rintro v s₁ gs' ⟨rfl, h', t', I2, I3, rfl, keep, l2, l3, ne23, hr, hl, _, hk⟩
        rw [hL2] at keep
        obtain ⟨o2, e2, c2, d2⟩ := hr
        obtain ⟨o3, e3, c3, d3⟩ := hl
        have F1 : Fr h₀ env.locals h' m := ⟨F.ns.at' fun o e => keep _ o neL ltL e, fun b o e => keep b o (fun q => by rw [q, hL2n.2] at e; cases e) (Heap.lt_size (F.keep b o e)) (F.keep b o e), F.above⟩
        have up0 : ∀ I, s'.heap.objs.size ≤ I → I ≠ env.locals ∧ h₀.get? I = none := fun I hI => ⟨Nat.ne_of_gt (Nat.lt_of_lt_of_le ltL hI), Heap.get?_none_of_le (Nat.le_trans F.above (Nat.le_of_lt (Nat.lt_of_lt_of_le ltL hI)))⟩
        have N1 : News h₀ env.locals h' ([(I3, o3), (I2, o2), (ga, oG)] ++ news) := fun p hp => by
          simp only [List.cons_append, List.nil_append, List.mem_cons] at hp
          rcases hp with rfl | rfl | rfl | hp
          · exact ⟨e3, up0 _ l3⟩
          · exact ⟨e2, up0 _ l2⟩
          · have z := N _ (List.mem_cons_self ..)
            exact ⟨keep _ _ hgaL (Heap.lt_size z.1) z.1, z.2⟩
          · have z := N p (List.mem_cons_of_mem _ (List.mem_cons_of_mem _ hp))
            exact ⟨keep _ _ (hoffL p hp) (Heap.lt_size z.1) z.1, z.2⟩
        have hga1 : h'.IsGen ga g := by
          obtain ⟨o, nm, qn, ho, r⟩ := hga
          exact ⟨o, nm, qn, keep _ _ hgaL (Heap.lt_size ho) ho, r⟩
        refine letGo_gen hga1 (wpAny_mono (turn I2 o2 I3 o3 (Shared.setGen { (s'.setGen g .running) with heap := h', toks := t' } g gs') (allLt_of fun p hp => Nat.lt_of_lt_of_le (ltN p hp) l2) (allLt_of fun p hp => Nat.lt_of_lt_of_le (ltN p hp) l3) rfl rfl F1 N1) (fun _ s₂ hs₂ => wpAny_mono hs₂ (fun f s₃ hs₃ => ?_) nf) nf)
        obtain ⟨rfl, m', news', F3, N3, lt3, hb3, hg3, ho3, hd3, hJ3⟩ := hs₃
        have hgs1 : (Shared.setGen { (s'.setGen g .running) with heap := h', toks := t' } g gs').gens[g]? = some gs' := setGen_self (gs := .running) (s := { (s'.setGen g .running) with heap := h', toks := t' }) (setGen_self (s := s') hgs)
        refine ⟨0, Nat.zero_lt_one, .inr ⟨rfl, I2, o2, I3, o3, gs', m', news', l2, l3, ne23, F3, N3, lt3, hb3, ?_, ?_, ?_, ho3, hd3, hJ3, ?_⟩⟩
        · obtain ⟨o, nm, qn, ho, r⟩ := hga
          have z := (N _ (List.mem_cons_self ..)).1
          rw [z] at ho
          cases ho
          exact ⟨oG, nm, qn, (N3 (ga, oG) (by simp)).1, r⟩
        · rw [hg3]; exact hgs1
        · rw [hg3]; exact (hbut.set).set
        · have z2 := (N3 (I2, o2) (by simp)).1
          have z3 := (N3 (I3, o3) (by simp)).1
          have zb := (N3 (b0, listOf #[v] kb) (List.mem_append_right _ hb3)).1
          have hgo0 := hk (s₃.setGen g .running) ⟨o2, z2, c2, d2⟩ ⟨o3, z3, c3, d3⟩ ⟨_, zb, rfl, _, rfl⟩
          rw [hL2] at hgo0
          exact hgo0
      · rintro s₁ ⟨h0, _⟩
        cases h0
    · have ltL : env.locals < s.heap.objs.size := F.ns.lt
      have z0 := N' (ga, oG) (by simp)
      have h0lt : ∀ b o, h₀.get? b = some o → b < s.heap.objs.size := fun b o e => Heap.lt_size (F.keep b o e)
      refine wpAny_pyNext_gen (n := 0) (P := genP s.heap.objs.size) (Y := genY s.heap.objs.size L2 ln b0 x) hh (hlim.keeps F'.keep) hroom hga' hgs' hgo' ?_ ?_
      · rintro v s₁ gs'' ⟨rfl, h', t', J2, J3, rfl, keep, l2', l3', ne23', hr, hl, _, hk⟩
        have zb := (N' (b0, listOf #[v] kb) (List.mem_append_right _ hb')).1
        exact (hk (Shared.mk h' #[] s.drawn 0 s.os) hr hl ⟨_, keep _ _ (hoffL _ hb0) (lt' _ hb') zb, rfl, _, rfl⟩ : False).elim
      · rintro s₁ ⟨_, h', t', rfl, keep⟩ h'' up
        have keep2 : ∀ b o, b < s.heap.objs.size → s'.heap.get? b = some o → h''.get? b = some o := fun b o lt e => up b o (keep b o lt e)
        refine wpAny_execs_nil (fin m' news' _ hJ' ⟨F'.ns.at' fun o e => keep2 _ o ltL e, fun b o e => keep2 b o (h0lt b o e) (F'.keep b o e), F'.above⟩ (fun p hp => ?_) ?_ ho' hd')
        · have z := N' p (List.mem_append_right _ hp)
          exact ⟨keep2 _ _ (lt' p hp) z.1, z.2⟩
        · exact ButG.all ((hbut'.set).set) (setGen_self (gs := .running) (s := { (s'.setGen g .running) with heap := h', toks := t' }) (setGen_self (s := s') hgs'))
  run_tac Mine.sq default
end
end Mine
end
section -- WQn
open PySem PySem.W PySem.Calls PyProof.Rows
namespace Mine
theorem wl_WQn_0 : True := by
  k_with_none
  trivial
theorem wl_WQn_1 : True := by
  k_with "execs cons" => run_tac Mine.ln "WQn.1"
  k_with "own WQn.1" => (k_here; (with_reducible show wpAny _ _ _ _ _ (Shared.mk _ _ _ (_ + _) _)); refine gen_tok (by omega) ?_; intro _ _)
  trivial
theorem wl_WQn_2 : True := by
  k_with "execs nil" => run_tac Mine.ln "WQn.2"
  k_with "own WQn.2" => (k_here; (with_reducible show wpAny _ _ _ _ _ (Shared.mk _ _ _ (_ + _) _)); refine gen_tok (by omega) ?_; intro _ _)
  trivial
theorem wl_WQn_3 : True := by
  k_with "call ref" => run_tac Mine.ln "WQn.3"
  k_with "own WQn.3" => (k_here; (with_reducible show wpAny _ _ (call (Value.ref 171) _) _ _ _); refine held ?_)
  trivial
theorem wl_WQn_4 : True := by
  k_with "exec For Tuple Call cons nil" => run_tac Mine.ln "WQn.4"
  k_with "own WQn.4" => (k_here; k_dflt (refine wpAny_For ?_))
  trivial
open PyProof.Rows.LCg in
/-- the stack of declared namespaces: the base, and above it empty lists -/
noncomputable def StkOk (W : WA) (tl : List (Addr × Obj)) (stk : Array Value) : Prop := stk[0]? = some (Value.ref W.b0) ∧ ∀ (k : Nat) (v : Value), stk[k + 1]? = some v → ∃ a m, v = Value.ref a ∧ (a, listOf #[] m) ∈ tl
theorem genAt_of {h₀ h : Heap} {L L2 : Addr} {w : World} {W : WA} {T : WT} {rs rd : Bool} {n : Nat} {stk data wr nsl pres : Array Value} {k1 k2 k3 k4 k5 : Nat} {tl : List (Addr × Obj)} {genv : Env} {oL2 : Obj} {m2 : Str → Option Value}
    (N : News h₀ L h ((L2, oL2) :: wL w W T rs rd n stk data wr nsl pres k1 k2 k3 k4 k5 tl)) (hS : StkOk W tl stk) (hL2 : genv.locals = L2) (n2 : LCg.NsObj oL2 m2) (lt : ∀ p ∈ wL w W T rs rd n stk data wr nsl pres k1 k2 k3 k4 k5 tl, p.1 < L2) : GenAt h genv W.ln W.b0 stk (.ref W.T0) := by
  k_with "proof" =>
    have z : ∀ a o, (a, o) ∈ wL w W T rs rd n stk data wr nsl pres k1 k2 k3 k4 k5 tl → h.get? a = some o := fun a o hm => (N _ (List.mem_cons_of_mem _ hm)).1
    have inT : ∀ p ∈ tl, p ∈ wL w W T rs rd n stk data wr nsl pres k1 k2 k3 k4 k5 tl := fun p hp => by
      iterate 10 apply List.mem_cons_of_mem
      exact hp
    refine ⟨⟨m2, by rw [hL2]; exact n2.ns (N _ (List.mem_cons_self ..)).1⟩, ⟨_, z W.ln (listOf stk k1) (by simp), rfl, _, rfl⟩, ⟨_, z W.b0 (listOf #[.ref W.T0] 0) (by simp), rfl, _, rfl⟩, hS.1, fun k v hv => ?_, fun k a hk => ?_, ?_⟩
    · obtain ⟨a, m, rfl, hm⟩ := hS.2 k v hv
      exact ⟨a, rfl, _, z a _ (inT _ hm), rfl, _, rfl⟩
    · rw [hL2]
      cases k with
      | zero => rw [hS.1] at hk; cases hk; exact Nat.ne_of_lt (lt (W.b0, listOf #[.ref W.T0] 0) (by simp))
      | succ k =>
        obtain ⟨a', m, e, hm⟩ := hS.2 k _ hk
        cases e
        exact Nat.ne_of_lt (lt (a, listOf #[] m) (inT _ hm))
    · rw [hL2]; exact Nat.ne_of_lt (lt (W.ln, listOf stk k1) (by simp))
  run_tac Mine.sq default
noncomputable abbrev QnP (q : Str) (rest : List (Addr × Obj)) (v : Value) (news' : List (Addr × Obj)) : Prop := ∃ Tq t1 t2 t3, v = .ref Tq ∧ AllLt Tq rest ∧ news' = (Tq, tupO #[.str q t1, .str q t2, .str (Str.ofString "") t3] 0) :: rest
theorem qnEnd {h₀ hh : Heap} {L Dt : Addr} {q : Str} {t1 t2 t3 : Tok} {x1 : Addr × Obj} {rest : List (Addr × Obj)} (N : News h₀ L hh ((Dt, tupO #[.str q t1, .str q t2, .str (Str.ofString "") t3] 0) :: x1 :: rest)) (l : AllLt Dt rest) : ∃ news', News h₀ L hh news' ∧ QnP q rest (.ref Dt) news' :=
  ⟨_, fun p hp => N p (by
    rcases List.mem_cons.mp hp with e | hp
    · rw [e]; exact List.mem_cons_self ..
    · exact List.mem_cons_of_mem _ (List.mem_cons_of_mem _ hp)), Dt, t1, t2, t3, rfl, l, rfl⟩
theorem q_size {q : Str} (hq : q = Str.ofString "r" ∨ q = Str.ofString "E" ∨ q = Str.ofString "a" ∨ q = Str.ofString "K") : q.length ≤ sizeLine := by
  rw [sizeLine_eq]
  rcases hq with e | e | e | e <;> (rw [e]; decide)
theorem q_first {q : Str} (hq : q = Str.ofString "r" ∨ q = Str.ofString "E" ∨ q = Str.ofString "a" ∨ q = Str.ofString "K") : (Txt.slice q none (some 1) == Str.ofString "{") = false := by
  rcases hq with e | e | e | e <;> (rw [e]; decide +kernel)
theorem wl_WQn_5 : True := by
  k_with "subscriptTail Name Slice str ref" => run_tac Mine.ln "WQn.5"
  k_with "own WQn.5" => (k_here; (with_reducible show wpAny _ _ (subscriptTail _ (Expr.Slice none (some _) none _) (Value.str _ _) (Value.ref _)) _ _ _); (with_reducible rename Fr _ _ _ _ => F'); (with_reducible rename News _ _ _ _ => N'); k_dflt (refine slice_strN_ns (hsz := ?hsz) (s := ⟨_, _, _, _, _⟩) F' N' ?_; (case hsz => exact q_size ‹_›)); intro _ _ _ _ _)
  trivial
theorem wl_WQn_6 : True := by
  k_with "getMethod ref" => run_tac Mine.ln "WQn.6"
  k_with "own WQn.6" => (k_here; kse_here; (with_reducible show wpAny _ _ (getMethod (Value.ref _) (Str.ofString "add") _) _ _ _); k_dflt (refine' kse_method (knd := PySem.strKind _ _) ?mN ?mU ?md ?mz ?_; (case mN => k_asm); (case mU => (iterate 8 (first | done | (apply UpdF.head; (repeat (refine List.forall_mem_cons.mpr ⟨by dsimp only; k_ne, ?_⟩)); exact fun p hp => Nat.ne_of_lt (allLt_all (by run_tac mHyp) p hp)) | (apply UpdF.tail; · k_ne)))); (case md => k_asm); (case mz => kse_small)))
  trivial
theorem wl_WQn_7 : True := by
  k_with "call builtin:set.add" => run_tac Mine.ln "WQn.7"
  k_with "own WQn.7" => (k_here; kse_here; (with_reducible show wpAny _ _ (call (Value.builtin "set.add") [Value.ref _, Value.str _ _]) _ _ _); k_dflt (refine' kse_add (knd := PySem.strKind _ _) ?aF ?aN ?aU ?ad ?az (strKind_is _ _ _ _) rfl ?_; (case aF => k_asm); (case aN => k_asm); (case aU => (iterate 8 (first | done | (apply UpdF.head; (repeat (refine List.forall_mem_cons.mpr ⟨by dsimp only; k_ne, ?_⟩)); exact fun p hp => Nat.ne_of_lt (allLt_all (by run_tac mHyp) p hp)) | (apply UpdF.tail; · k_ne)))); (case ad => k_asm); (case az => kse_small)); intro h' o' F' N' hs'; (try dsimp only at N'))
  trivial
theorem wl_WQn_8 : True := by
  k_with "compareOp NotIn str ref" => run_tac Mine.ln "WQn.8"
  k_with "own WQn.8" => (k_here; kse_here; k_dflt (refine' kse_notin (knd := PySem.strKind _ _) ?cN ?cU ?cd ?cz (strKind_is _ _ _ _) rfl ?_; (case cN => k_asm); (case cU => (iterate 8 (first | done | (apply UpdF.head; (repeat (refine List.forall_mem_cons.mpr ⟨by dsimp only; k_ne, ?_⟩)); exact fun p hp => Nat.ne_of_lt (allLt_all (by run_tac mHyp) p hp)) | (apply UpdF.tail; · k_ne)))); (case cd => k_asm); (case cz => kse_small)); (try dsimp only))
  trivial
theorem codeAny_pos {M : Model} {A : Around} {c : Code} {Q E : Value → Shared → Prop} {s : Shared} (hs : 0 < s.toks)
    (h : codeAny M A c (fun r s' => match r with | .ok (.ret v) => 0 < s'.toks → Q v s' | .ok _ => False | .error e => E e s') s) : codeAny M A c (fun r s' => match r with | .ok (.ret v) => Q v s' | .ok _ => False | .error e => E e s') s :=
  codeAny_with_toks (n := 1) hs (codeAny_mono h fun r s' hr ht => by
    match r, hr with
    | .ok (.ret v), hr => exact hr ht
    | .error e, hr => exact hr)
/-- a def's contract, in the form of its code -/
noncomputable abbrev CtK (Rl : Shared → Shared → Prop) (w : World) (mean : ExcName → Option Value) (mg mb : Str → Option Value) (f : Addr) (dn nu : Nat) (news : List (Addr × Obj)) (vs : List Value) (P : Value → List (Addr × Obj) → Prop) : Prop :=
  ∀ (dp un : Nat) (gd : Option (List Code)) (cn : Str) (cs : Scope) (a : Addr) (ccd : Value) (cl : List (Str × Addr)) (outer : List Env) (A₀ : Around) (base h₀ : Heap) (L : Addr) (m : Str → Option Value) (s : Shared) (Q E : Value → Shared → Prop),
    Below A₀ base outer h₀ → Fr h₀ L s.heap m → (K w.params).In h₀ → News h₀ L s.heap news → Top VW LO mean mg mb h₀ → cs.kind = .function → dp + dn < recursionLimit → un + nu < cLine → 0 < s.toks → AllBare s.gens →
    CtRet Rl h₀ L m s P Q → codeAny (model PG w) (ktrTop dp un gd cn cs L a ccd cl outer) (.call (.ref f) ⟨vs, []⟩) (fun r s' => match r with | .ok (.ret v) => Q v s' | .ok _ => False | .error e => E e s') s
theorem qname_k (w : World) (mean : ExcName → Option Value) (mg mb : Str → Option Value) (tl : List (Addr × Obj)) (W : WA) (T : WT) (rs rd : Bool) (n : Nat) (stk data wr nsl pres : Array Value) (k1 k2 k3 k4 k5 : Nat) (hW : WOrd W) (hO : WOff W tl) (hS : StkOk W tl stk) (q : Str) (tq : Tok) (hq : q = Str.ofString "r" ∨ q = Str.ofString "E" ∨ q = Str.ofString "a" ∨ q = Str.ofString "K") :
    CtK SameB w mean mg mb 186 2 40 (wL w W T rs rd n stk data wr nsl pres k1 k2 k3 k4 k5 tl) [.ref W.x, .str q tq] (QnP q (wL w W T rs rd n stk data wr nsl pres k1 k2 k3 k4 k5 tl)) := by
  k_with "proof" =>
    dsimp only [CtK, CtRet, PG, VW, LO, wL, wD]
    k_fill
    intros; rename_i hret
    refine codeAny_pos (by assumption) ?_
    (k_dflt (refine' code_def ?k1 ?k2 ?k3 ?k4 ?k5 ?kA ?kF ?kK ?k6 ?k7 ?k8 ?k9 ?kB ?_ ?c2 ?c3 ?c4 ?c5; (case kA => exact rfl); (case kF => exact rfl); (case kK => assumption); (case k1 => k_asm); (case k2 => k_asm); (case k3 => k_asm); (case k4 => k_asm); (case k5 => k_asm); (case k6 => k_is); (case k7 => k_is); (case k8 => ktr_room); (case k9 => exact binds_K (by k_in) rfl (by k_is) rfl rfl rfl); (case c5 => decide); (case kB => exact locs rfl); (case c2 => exact rfl); (case c3 => exact rfl); (case c4 => exact rfl); k_whole; intro g' L' h' FG' F' N' B' X' T'; (try dsimp only); (try k_lift B'); (try k_fold)))
    k_steps
    · exfalso
      have e := q_first hq
      simp_all
    refine Held.go ?_
    rename_i dS hA led hsI hsS lS hB F1 N1 kk ak
    have N1' : News _ _ hB ((dS, _) :: wL w W T rs rd n stk data wr nsl pres k1 k2 k3 k4 k5 tl) := fun p hp => N1 p (by
      rcases List.mem_cons.mp hp with e | hp
      · rw [e]; exact List.mem_cons_self ..
      · exact List.mem_cons_of_mem _ (List.mem_cons_of_mem _ hp))
    have hlS : ∀ p ∈ wL w W T rs rd n stk data wr nsl pres k1 k2 k3 k4 k5 tl, p.1 < dS := allLt_all lS.2
    clear N1
    refine gen_call (by k_asm) F1 N1' (by k_asm) (by ktr_room) ?_
    intro p0 p5 p6 p7 p8 p9 q1 q2 q3 q4 ga L2 oL2 oG m2 h2 tk2 genv ge hL2 n2 e1 e2 hga F2 N2 ltL ltga
    dsimp only
    have lga : @LT.lt Nat _ dS ga := Nat.lt_trans (ltL _ (List.mem_cons_self ..)) ltga
    have ltz : ∀ p ∈ (dS, ({ cls := .type "set", data := .set #[] 0 (.fresh 0 0 led) } : Obj)) :: wL w W T rs rd n stk data wr nsl pres k1 k2 k3 k4 k5 tl, p.1 < h2.objs.size := fun p hp => Heap.lt_size (N2 _ (List.mem_cons_of_mem _ (List.mem_cons_of_mem _ hp))).1
    refine wpAny_pyIter_gen hga ?_
    refine gen_for (ln := W.ln) (b0 := W.b0) (x := .ref W.T0) (stk := stk) (kb := 0) rfl (by ktr_room) (Top.nolimit (by k_asm)) ge hL2 hga (Array.getElem?_push_size ..) F2 N2 n2 e1 e2 ?gG ?gb (ButG.push (by assumption)) (fun p hp => Nat.ne_of_lt (ltL p hp)) (Nat.ne_of_gt ltga)
      (fun m₀ m' news' => (∀ y, y ≠ Str.ofString "u" → y ≠ Str.ofString "prefix" → m' y = m₀ y) ∧ ∃ so, news' = (dS, so) :: wL w W T rs rd n stk data wr nsl pres k1 k2 k3 k4 k5 tl ∧ so.SetObjOf (PySem.strKind PG w) (fun k => false || decide (k = Str.ofString "xml")) 1) ?gt ?gf
    case gG => exact genAt_of (fun p hp => N2 p (by
      rcases List.mem_cons.mp hp with e | hp
      · rw [e]; exact List.mem_cons_of_mem _ (List.mem_cons_self ..)
      · exact List.mem_cons_of_mem _ (List.mem_cons_of_mem _ (List.mem_cons_of_mem _ hp)))) hS hL2 n2 fun p hp => ltL p (List.mem_cons_of_mem _ hp)
    case gb => exact List.mem_cons_of_mem _ (by simp)
    case gt =>
      intro I2 o2 I3 o3 s₁ l2 l3 so sd F3 N3
      dsimp only [List.cons_append, List.nil_append, wL, wD] at N3
      dsimp only [AllLt] at l2 l3
      k_steps
      refine' ⟨rfl, _, _, ?zF, ?zN, ?zl, ?zb, rfl, ?zo, ?zd, ?zm, _, rfl, ?zs⟩
      case zF => assumption
      case zN => assumption
      case zs => assumption
      case zl =>
        intro p hp
        rcases List.mem_cons.mp hp with e | hp
        · rw [e]; exact (ltz (dS, { cls := .type "set", data := .set #[] 0 (.fresh 0 0 led) }) (List.mem_cons_self ..) : dS < _)
        · exact ltz _ (List.mem_cons_of_mem _ hp)
      case zb => exact List.mem_cons_of_mem _ (by simp)
      case zo => rfl
      case zd => rfl
      case zm =>
        intro y h1 h2
        simp only [if_neg h1, if_neg h2]
    case gf =>
      rintro m' news' s' ⟨hm, so, rfl, hso⟩ F3 N3 hB so sd
      dsimp only [wL, wD] at N3
      have F4 := Fr.ovr F3 [(Str.ofString "u", m' (Str.ofString "u")), (Str.ofString "prefix", m' (Str.ofString "prefix"))] (by simp) (by intro y hy; simp at hy; exact hm y hy.1 hy.2)
      dsimp only [ovr] at F4
      clear F3
      k_steps
      rename_i Dt hC lD lE kt kF kN Tc kX kp
      obtain ⟨nw, N9, P9⟩ := qnEnd (rest := wL w W T rs rd n stk data wr nsl pres k1 k2 k3 k4 k5 tl) kN (by dsimp only [AllLt, wL]; exact kt.2)
      exact hret _ nw _ kF N9 ⟨so, sd, hB⟩ kp P9
  run_tac Mine.sq default
theorem qname_c (w : World) (mean : ExcName → Option Value) (mg mb : Str → Option Value) (tl : List (Addr × Obj)) (W : WA) (T : WT) (rs rd : Bool) (n : Nat) (stk data wr nsl pres : Array Value) (k1 k2 k3 k4 k5 : Nat) (hW : WOrd W) (hO : WOff W tl) (hS : StkOk W tl stk) (q : Str) (tq : Tok) (hq : q = Str.ofString "r" ∨ q = Str.ofString "E" ∨ q = Str.ofString "a" ∨ q = Str.ofString "K") :
    CtR SameB w mean mg mb 186 2 40 (wL w W T rs rd n stk data wr nsl pres k1 k2 k3 k4 k5 tl) [.ref W.x, .str q tq] (QnP q (wL w W T rs rd n stk data wr nsl pres k1 k2 k3 k4 k5 tl)) :=
  fun dp un gd cn cs a ccd cl outer A₀ base h₀ L m s Q E h1 h2 h3 h4 h5 h6 h7 h8 h9 h10 h11 => wpAny_call (qname_k w mean mg mb tl W T rs rd n stk data wr nsl pres k1 k2 k3 k4 k5 hW hO hS q tq hq dp un gd cn cs a ccd cl outer A₀ base h₀ L m s Q E h1 h2 h3 h4 h5 h6 h7 h8 h9 h10 h11)
end Mine
end
theorem Mine.wl_WQn_end : True := by
  k_with_none
  trivial
section -- WSetP
open PySem PySem.W PySem.Calls PyProof.Rows
namespace Mine
section
variable {prog : Program} {w : World} {A : Around} {E : Value → Shared → Prop} {s : Shared} {h₀ : Heap} {L : Addr} {m m₂ : Str → Option Value} {news : List (Addr × Obj)} {env : Env} {K : Frag} {scope : Scope} {cl : List (Str × Addr)}
/-- a bound method out of a cell, called with the block's own name -/
theorem pq_eval {f x : Str} {fp np pos : Pos} {C c q g : Addr} {oC o : Obj} {self v : Value} {Q : Value → Shared → Prop} (X : K.In h₀) (F : Fr h₀ L s.heap m) (N : News h₀ L s.heap news) (hC : (C, oC) ∈ news) (nC : LCg.NsObj oC m₂) (hv : m₂ x = some v)
    (hcl : cl.lookup f = some c) (hm : (c, o) ∈ news) (hd : o.data = .cell (some (.ref q))) (hq : (q, methodObj (.ref g) self) ∈ news) (hf : fnIn K g = true)
    (hk : (compEnvC scope cl C env).scope.kind = .function) (hxf : (compEnvC scope cl C env).kindOf f = some .cell) (hxn : (compEnvC scope cl C env).kindOf x = some .local) (hbf : (f == ("__debug__" : Str)) = false) (hbn : (x == ("__debug__" : Str)) = false)
    (h : codeAny (model prog w) A (.call (.ref g) ⟨[self, v], []⟩) (fun r s' => match r with | .ok (.ret v) => Q v s' | .ok _ => False | .error e => E e s') s) :
    wpAny (model prog w) A (eval (.Call (.Name f fp) [.Name x np] [] pos) (compEnvC scope cl C env)) Q E s := by
  k_with "proof" =>
    refine Call_ ?_
    refine kcf_cell N hcl hm hd ?_ hk hxf hbf
    refine callWith_M (self := self) X N hq hf ?_
    refine PyProof.Rows.args_cons (LCgL.ld_own N hC nC hv ?_ hk hxn hbn)
    refine PyProof.Rows.args_nil ?_
    exact ⟨methP N hq (X.keeps F.keep), call_meth N hq h⟩
  run_tac Mine.sq default
end
theorem memSh {X ob Y Wl R : List (Addr × Obj)} (p : Addr × Obj) : p ∈ X ++ (ob ++ (Y ++ (Wl ++ R))) ↔ p ∈ Wl ++ (X ++ (ob ++ (Y ++ R))) := by
  k_with "proof" =>
    simp only [List.mem_append]
    constructor
    · rintro (h | h | h | h | h)
      · exact .inr (.inl h)
      · exact .inr (.inr (.inl h))
      · exact .inr (.inr (.inr (.inl h)))
      · exact .inl h
      · exact .inr (.inr (.inr (.inr h)))
    · rintro (h | h | h | h | h)
      · exact .inr (.inr (.inr (.inl h)))
      · exact .inl h
      · exact .inr (.inl h)
      · exact .inr (.inr (.inl h))
      · exact .inr (.inr (.inr (.inr h)))
  run_tac Mine.sq default
theorem woff_app {W : WA} {a b : List (Addr × Obj)} (h1 : WOff W a) (h2 : WOff W b) : WOff W (a ++ b) := fun p hp => (List.mem_append.mp hp).elim (h1 p) (h2 p)
/-- what lies above the whole ledger is off the writer's own -/
theorem woff_of_lt {W : WA} {a news : List (Addr × Obj)} (h : AllLtL news a) (hx : ∃ o, (W.x, o) ∈ news) (h1 : ∃ o, (W.dx, o) ∈ news) (h2 : ∃ o, (W.ln, o) ∈ news) (h3 : ∃ o, (W.b0, o) ∈ news) (h4 : ∃ o, (W.T0, o) ∈ news) (h5 : ∃ o, (W.ld, o) ∈ news)
    (h6 : ∃ o, (W.lw, o) ∈ news) (h7 : ∃ o, (W.ls, o) ∈ news) (h8 : ∃ o, (W.lz, o) ∈ news) (h9 : ∃ o, (W.bm, o) ∈ news) : WOff W a := fun p hp => by
  have key : ∀ z : Addr, (∃ o, (z, o) ∈ news) → @Ne Nat p.1 z := fun z ⟨o, hz⟩ => Nat.ne_of_gt (h p hp _ hz)
  exact ⟨key _ hx, key _ h1, key _ h2, key _ h3, key _ h4, key _ h5, key _ h6, key _ h7, key _ h8, key _ h9⟩
theorem stk_mono {W : WA} {tl tl' : List (Addr × Obj)} {stk : Array Value} (h : StkOk W tl stk) (hs : ∀ p ∈ tl, p ∈ tl') : StkOk W tl' stk :=
  ⟨h.1, fun k v e => by obtain ⟨a, m, e1, e2⟩ := h.2 k v e; exact ⟨a, m, e1, hs _ e2⟩⟩
theorem dturn {w : World} {mean : ExcName → Option Value} {mg mb : Str → Option Value} {W : WA} {T : WT} {rs rd : Bool} {n : Nat} {stk data wr nsl pres : Array Value} {k1 k2 k3 k4 k5 : Nat} {tl : List (Addr × Obj)} {dp un : Nat} {gd : Option (List Code)} {cn : Str} {cs : Scope} {a : Addr} {ccd : Value} {cl0 : List (Str × Addr)} {outer : List Env} {A₀ : Around} {base g : Heap} {L : Addr} {m : Str → Option Value}
    {x1 x4 : Addr × Obj} {c q : Addr} {o : Obj} {fp np pos : Pos} {scope : Scope} {cl : List (Str × Addr)} {vs : List Value} {o₀ : OsState}
    (hW : WOrd W) (hO : WOff W tl) (hS : StkOk W tl stk) (B : Below A₀ base outer g) (X : (K w.params).In g) (Tp : Top VW LO mean mg mb g) (hk : cs.kind = .function) (hd : dp + 2 < recursionLimit) (hu : un + 40 < cLine)
    (hY : WOff W [x1, (q, methodObj (.ref 186) (.ref W.x)), (c, o), x4]) (hcl : cl.lookup (Str.ofString "parse_qname") = some c) (hdo : o.data = .cell (some (.ref q)))
    (hc1 : ∀ C, (compEnvC scope cl C (envX cn cs L a ccd cl0)).scope.kind = .function) (hc2 : ∀ C, (compEnvC scope cl C (envX cn cs L a ccd cl0)).kindOf (Str.ofString "parse_qname") = some .cell) (hc3 : ∀ C, (compEnvC scope cl C (envX cn cs L a ccd cl0)).kindOf (Str.ofString "n") = some .local)
    (hf : fnIn (K w.params) 186 = true) (hvs : ∀ y t, Value.str y t ∈ vs → y = Str.ofString "r" ∨ y = Str.ofString "E" ∨ y = Str.ofString "a" ∨ y = Str.ofString "K") :
    DTurn PG w (ktrTop dp un gd cn cs L a ccd cl0 outer) g L m (envX cn cs L a ccd cl0) (.Call (.Name (Str.ofString "parse_qname") fp) [.Name (Str.ofString "n") np] [] pos) (Str.ofString "n") scope cl
      (x1 :: (q, methodObj (.ref 186) (.ref W.x)) :: (c, o) :: x4 :: wL w W T rs rd n stk data wr nsl pres k1 k2 k3 k4 k5 tl) vs o₀ := by
  k_with "proof" =>
    intro y t I oI C oC D oD m₂ ob s' E' hy nC hm2 F N hall hg ht ho
    have inN : ∀ p ∈ x1 :: (q, methodObj (.ref 186) (.ref W.x)) :: (c, o) :: x4 :: wL w W T rs rd n stk data wr nsl pres k1 k2 k3 k4 k5 tl, p ∈ (I, oI) :: (C, oC) :: (D, oD) :: (ob ++ (x1 :: (q, methodObj (.ref 186) (.ref W.x)) :: (c, o) :: x4 :: wL w W T rs rd n stk data wr nsl pres k1 k2 k3 k4 k5 tl)) := fun p hp => .tail _ (.tail _ (.tail _ (List.mem_append_right _ hp)))
    refine pq_eval X F N (.tail _ (.head _)) nC hm2 hcl (inN _ (.tail _ (.tail _ (.head _)))) hdo (inN _ (.tail _ (.head _))) hf (hc1 C) (hc2 C) (hc3 C) (by decide +kernel) (by decide +kernel) ?_
    have hsh := fun p => memSh (X := [(I, oI), (C, oC), (D, oD)]) (ob := ob) (Y := [x1, (q, methodObj (.ref 186) (.ref W.x)), (c, o), x4]) (Wl := wL w W T rs rd n stk data wr nsl pres k1 k2 k3 k4 k5 []) (R := tl) p
    have N' : News g L s'.heap (wL w W T rs rd n stk data wr nsl pres k1 k2 k3 k4 k5 ([(I, oI), (C, oC), (D, oD)] ++ (ob ++ ([x1, (q, methodObj (.ref 186) (.ref W.x)), (c, o), x4] ++ tl)))) := fun p hp => N p ((hsh p).mpr hp)
    have mW : ∀ z : Addr × Obj, z ∈ wL w W T rs rd n stk data wr nsl pres k1 k2 k3 k4 k5 tl → ∃ o', (z.1, o') ∈ x1 :: (q, methodObj (.ref 186) (.ref W.x)) :: (c, o) :: x4 :: wL w W T rs rd n stk data wr nsl pres k1 k2 k3 k4 k5 tl := fun z hz => ⟨z.2, .tail _ (.tail _ (.tail _ (.tail _ hz)))⟩
    have hO3 : WOff W ((I, oI) :: (C, oC) :: (D, oD) :: ob) := woff_of_lt hall (mW (W.x, _) (.head _)) (mW (W.dx, _) (.tail _ (.head _))) (mW (W.ln, _) (.tail _ (.tail _ (.head _)))) (mW (W.b0, _) (.tail _ (.tail _ (.tail _ (.head _)))))
      (mW (W.T0, _) (.tail _ (.tail _ (.tail _ (.tail _ (.head _)))))) (mW (W.ld, _) (.tail _ (.tail _ (.tail _ (.tail _ (.tail _ (.head _))))))) (mW (W.lw, _) (.tail _ (.tail _ (.tail _ (.tail _ (.tail _ (.tail _ (.head _)))))))) (mW (W.ls, _) (.tail _ (.tail _ (.tail _ (.tail _ (.tail _ (.tail _ (.tail _ (.head _)))))))))
      (mW (W.lz, _) (.tail _ (.tail _ (.tail _ (.tail _ (.tail _ (.tail _ (.tail _ (.tail _ (.head _)))))))))) (mW (W.bm, _) (.tail _ (.tail _ (.tail _ (.tail _ (.tail _ (.tail _ (.tail _ (.tail _ (.tail _ (.head _)))))))))))
    have hOall : WOff W ([(I, oI), (C, oC), (D, oD)] ++ (ob ++ ([x1, (q, methodObj (.ref 186) (.ref W.x)), (c, o), x4] ++ tl))) := fun p hp => by
      rcases List.mem_append.mp hp with h | h
      · exact hO3 p (by simp only [List.mem_cons, List.not_mem_nil, or_false] at h ⊢; rcases h with h | h | h <;> simp [h])
      · rcases List.mem_append.mp h with h | h
        · exact hO3 p (.tail _ (.tail _ (.tail _ h)))
        · exact (woff_app hY hO) p h
    refine qname_k w mean mg mb ([(I, oI), (C, oC), (D, oD)] ++ (ob ++ ([x1, (q, methodObj (.ref 186) (.ref W.x)), (c, o), x4] ++ tl))) W T rs rd n stk data wr nsl pres k1 k2 k3 k4 k5 hW hOall
      (stk_mono hS fun p hp => List.mem_append_right _ (List.mem_append_right _ (List.mem_append_right _ hp))) y t (hvs y t hy) dp un gd cn cs a ccd cl0 outer A₀ base g L m s' _ _ B F X N' Tp hk hd hu ht hg ?_
    rintro v news' s'' F2 N2 ⟨so, sd, sg⟩ ht2 ⟨Tq, t1, t2, t3, rfl, hlt, rfl⟩
    have hlt' := allLt_all hlt
    refine ⟨Tq, t1, t2, t3, rfl, F2, fun p hp => N2 p ?_, fun p hp => hlt' p ((hsh p).mp hp), so, sg, ht2⟩
    rcases List.mem_cons.mp hp with rfl | hp
    · exact .head _
    · exact .tail _ ((hsh p).mp hp)
  run_tac Mine.sq default
end Mine
end
section -- WSetQ
open PySem PySem.W PySem.Calls PyProof.Rows
namespace Mine
structure SameD (s s' : Shared) : Prop where
  o : s'.os = s.os
  g : AllBare s'.gens
theorem shut_sameD {s₀ : Shared} : Shut (SameD s₀) := fun _ _ _ x => ⟨x.o, x.g⟩
/-- the end of the first turn -/
noncomputable def AJ1 (la : Addr) (rest : List (Addr × Obj)) (x y : Str) (ys : List Str) (m₀ m' : Str → Option Value) (n' : List (Addr × Obj)) : Prop :=
  ∃ k S t u, n' = (la, listOf #[.ref S] k) :: (S, tupO #[.str x t, .str y u] 0) :: rest ∧ (∀ p ∈ (la, listOf #[] 0) :: rest, p.1 < S) ∧ ∀ z, z ∉ ys → m' z = m₀ z
noncomputable def AJ2 (la : Addr) (rest : List (Addr × Obj)) (x y x' y' : Str) (ys : List Str) (m₀ m' : Str → Option Value) (n' : List (Addr × Obj)) : Prop :=
  ∃ k S t u S' t' u', n' = (la, listOf #[.ref S, .ref S'] k) :: (S', tupO #[.str x' t', .str y' u'] 0) :: (S, tupO #[.str x t, .str y u] 0) :: rest ∧ (∀ p ∈ (la, listOf #[] 0) :: rest, p.1 < S) ∧ (∀ p ∈ (la, listOf #[] 0) :: rest, p.1 < S') ∧ ∀ z, z ∉ ys → m' z = m₀ z
section
variable {prog : Program} {w : World} {A : Around} {E : Value → Shared → Prop} {s : Shared} {h₀ : Heap}
theorem MFor.attrs {G : Shared → Prop} {env : Env} {target : PySem.Expr} {body : List Stmt} {Q : Flow → Shared → Prop} (hG : Shut G) {ax la : Addr} {n k0 : Nat} {T0 T1 : Addr} {x0 y0 x1 y1 : Str} {rest : List (Addr × Obj)} {m₀ : Str → Option Value} (ys : List Str)
    (hh : A.handled = none) (F : Fr h₀ env.locals s.heap m₀) (N : News h₀ env.locals s.heap ((la, listOf #[] k0) :: rest)) (hg : G s) (ht : 0 < s.toks) (hax : (ax, listOf #[.ref T0, .ref T1] n) ∈ rest)
    (turn0 : ∀ I oI m₁ k (s₁ : Shared), (∀ p ∈ (la, listOf #[] k0) :: rest, p.1 < I) → (∀ z, z ∉ ys → m₁ z = m₀ z) → Fr h₀ env.locals s₁.heap m₁ → News h₀ env.locals s₁.heap ((I, oI) :: (la, listOf #[] k) :: rest) → G s₁ → 0 < s₁.toks →
      wpAny (model prog w) A (assign target env (.ref T0)) (fun _ s₂ => wpAny (model prog w) A (execs body env) (TEnd h₀ env.locals G I oI (AJ1 la rest x0 y0 ys m₀) Q) (fun _ _ => False) s₂) (fun _ _ => False) s₁)
    (turn1 : ∀ I oI m₁ k S t u (s₁ : Shared), (∀ p ∈ (la, listOf #[] k0) :: rest, p.1 < I) → (∀ p ∈ (la, listOf #[] 0) :: rest, p.1 < S) → S ≠ I → (∀ z, z ∉ ys → m₁ z = m₀ z) → Fr h₀ env.locals s₁.heap m₁ → News h₀ env.locals s₁.heap ((I, oI) :: (la, listOf #[.ref S] k) :: (S, tupO #[.str x0 t, .str y0 u] 0) :: rest) → G s₁ → 0 < s₁.toks →
      wpAny (model prog w) A (assign target env (.ref T1)) (fun _ s₂ => wpAny (model prog w) A (execs body env) (TEnd h₀ env.locals G I oI (AJ2 la rest x0 y0 x1 y1 ys m₀) Q) (fun _ _ => False) s₂) (fun _ _ => False) s₁)
    (fin : ∀ m' n' (s' : Shared), AJ2 la rest x0 y0 x1 y1 ys m₀ m' n' → Fr h₀ env.locals s'.heap m' → News h₀ env.locals s'.heap n' → G s' → 0 < s'.toks → Q .next s') :
    MFor prog w A E env target body Q (.ref ax) s := by
  k_with "proof" =>
    refine MFor.list (G := G) (ax := ax) (items := #[.ref T0, .ref T1]) hG hh F N ⟨hg, ht⟩ (fun i m' n' => match i with
        | 0 => (∃ k, n' = (la, listOf #[] k) :: rest) ∧ ∀ z, z ∉ ys → m' z = m₀ z
        | 1 => AJ1 la rest x0 y0 ys m₀ m' n'
        | _ => AJ2 la rest x0 y0 x1 y1 ys m₀ m' n') ?_ ?_ ?_ ?_
    · intro i m' n' h
      have hin : (ax, listOf #[.ref T0, .ref T1] n) ∈ n' := by
        match i, h with
        | 0, ⟨⟨k, e⟩, _⟩ => rw [e]; exact .tail _ hax
        | 1, ⟨k, S, t, u, e, _⟩ => rw [e]; exact .tail _ (.tail _ hax)
        | i + 2, ⟨k, S, t, u, S', t', u', e, _⟩ => rw [e]; exact .tail _ (.tail _ (.tail _ hax))
      exact .inr ⟨_, hin, rfl, n, rfl⟩
    · exact ⟨⟨k0, rfl⟩, fun _ _ => rfl⟩
    · intro I hI i v oI m₁ news₁ s₁ hi hv h hoff F₁ N₁ O₁
      match i, hi, hv, h with
      | 0, _, hv, ⟨⟨k, e⟩, hm⟩ =>
        subst e
        cases (Option.some.inj hv : Value.ref T0 = v)
        exact turn0 I oI m₁ k s₁ hI hm F₁ N₁ O₁.g O₁.t
      | 1, _, hv, ⟨k, S, t, u, e, hS, hm⟩ =>
        subst e
        cases (Option.some.inj hv : Value.ref T1 = v)
        exact turn1 I oI m₁ k S t u s₁ hI hS (hoff (S, _) (.tail _ (.head _))) hm F₁ N₁ O₁.g O₁.t
      | i + 2, hi, _, _ => exact absurd hi (by show ¬ (i + 2 < 2); omega)
    · intro m' news' s' h F' N' O'
      exact fin m' news' s' h F' N' O'.g O'.t
  run_tac Mine.sq default
end
section
variable {h₀ : Heap} {L la I T' S : Addr} {G : Shared → Prop} {oI : Obj} {Q : Flow → Shared → Prop} {s₂ : Shared} {m₀ m' : Str → Option Value} {rest : List (Addr × Obj)} {x y x' y' : Str} {t u t' u' : Tok} {k k0 : Nat} {ys : List Str}
theorem turnEnd0 (F : Fr h₀ L s₂.heap m') (N : News h₀ L s₂.heap ((T', tupO #[.str x t, .str y u] 0) :: (I, oI) :: (la, listOf (#[].push (.ref T')) k) :: rest)) (hlt : AllLt T' ((I, oI) :: (la, listOf #[] k0) :: rest)) (hI : ∀ p ∈ (la, listOf #[] k0) :: rest, p.1 < I)
    (hm : ∀ z, z ∉ ys → m' z = m₀ z) (hg : G s₂) (ht : 0 < s₂.toks) : TEnd h₀ L G I oI (AJ1 la rest x y ys m₀) Q .next s₂ := by
  k_with "proof" =>
    have hl := allLt_all hlt
    refine TEnd.next (news' := (la, listOf #[.ref T'] k) :: (T', tupO #[.str x t, .str y u] 0) :: rest) F (fun p hp => N p ?_) (fun p hp => ?_) ⟨k, T', t, u, rfl, fun p hp => ?_, hm⟩ hg ht
    · rcases List.mem_cons.mp hp with e | hp
      · exact .tail _ (e ▸ .head _)
      · rcases List.mem_cons.mp hp with e | hp
        · exact .tail _ (.tail _ (e ▸ .head _))
        · rcases List.mem_cons.mp hp with e | hp
          · exact e ▸ .head _
          · exact .tail _ (.tail _ (.tail _ hp))
    · rcases List.mem_cons.mp hp with rfl | hp
      · exact Nat.ne_of_lt (hI (la, listOf #[] k0) (.head _))
      · rcases List.mem_cons.mp hp with rfl | hp
        · exact Nat.ne_of_gt (hl (I, oI) (.head _))
        · exact Nat.ne_of_lt (hI p (.tail _ hp))
    · rcases List.mem_cons.mp hp with rfl | hp
      · exact hl (la, listOf #[] k0) (.tail _ (.head _))
      · exact hl p (.tail _ (.tail _ hp))
  run_tac Mine.sq default
theorem turnEnd1 (F : Fr h₀ L s₂.heap m') (N : News h₀ L s₂.heap ((T', tupO #[.str x' t', .str y' u'] 0) :: (I, oI) :: (la, listOf (#[.ref S].push (.ref T')) k) :: (S, tupO #[.str x t, .str y u] 0) :: rest)) (hlt : AllLt T' ((I, oI) :: (la, listOf #[] k0) :: rest)) (hI : ∀ p ∈ (la, listOf #[] k0) :: rest, p.1 < I)
    (hS : ∀ p ∈ (la, listOf #[] 0) :: rest, p.1 < S) (hSI : S ≠ I) (hm : ∀ z, z ∉ ys → m' z = m₀ z) (hg : G s₂) (ht : 0 < s₂.toks) : TEnd h₀ L G I oI (AJ2 la rest x y x' y' ys m₀) Q .next s₂ := by
  k_with "proof" =>
    have hl := allLt_all hlt
    refine TEnd.next (news' := (la, listOf #[.ref S, .ref T'] k) :: (T', tupO #[.str x' t', .str y' u'] 0) :: (S, tupO #[.str x t, .str y u] 0) :: rest) F (fun p hp => N p ?_) (fun p hp => ?_) ⟨k, S, t, u, T', t', u', rfl, hS, fun p hp => ?_, hm⟩ hg ht
    · rcases List.mem_cons.mp hp with e | hp
      · exact .tail _ (e ▸ .head _)
      · rcases List.mem_cons.mp hp with e | hp
        · exact .tail _ (.tail _ (e ▸ .head _))
        · rcases List.mem_cons.mp hp with e | hp
          · exact e ▸ .head _
          · exact .tail _ (.tail _ (.tail _ hp))
    · rcases List.mem_cons.mp hp with rfl | hp
      · exact Nat.ne_of_lt (hI (la, listOf #[] k0) (.head _))
      · rcases List.mem_cons.mp hp with rfl | hp
        · exact Nat.ne_of_gt (hl (I, oI) (.head _))
        · rcases List.mem_cons.mp hp with rfl | hp
          · exact hSI
          · exact Nat.ne_of_lt (hI p (.tail _ hp))
    · rcases List.mem_cons.mp hp with rfl | hp
      · exact hl (la, listOf #[] k0) (.tail _ (.head _))
      · exact hl p (.tail _ (.tail _ hp))
  run_tac Mine.sq default
end
end Mine
end
section -- WStA
open PySem PySem.W PyProof.Rows
open Lean Meta Elab Tactic
namespace Mine
def defSt : TermElabM Unit := do
  let some (h, _) ← twoRuns (← progOf (mkConst ``PySem.Challenge.pw_if0034_01)) | throwError "the top does not come through"
  let some o := h.get? 222 | throwError "222"
  let .func fd := o.data | throwError "no function"
  let .stmts b := fd.body | throwError "no body"
  logInfo m!"{b.length}"
  addDecl (.defnDecl { name := `Mine.stTail, levelParams := [], type := mkApp (mkConst ``List [0]) (mkConst ``PySem.Stmt), value := toExpr (b.drop 9), hints := .abbrev, safety := .safe })
  addDecl (.defnDecl { name := `Mine.stScope, levelParams := [], type := mkConst ``PySem.Scope, value := toExpr fd.scope, hints := .abbrev, safety := .safe })
theorem stDone : True := by
  run_tac defSt
  trivial
end Mine
end
section -- WStB
open PySem PySem.W PySem.Calls PyProof.Rows
namespace Mine
theorem wl_WStB_0 : True := by
  k_with_none
  trivial
theorem wlt2t {a b : Nat} (h : a + 2 < b) : a + 1 < b := by omega
theorem wunitsT {a b : Nat} (h : a + 50 < b) : a + 8 < b := by omega
theorem escA_len (l : List Nat) : (escA l).length ≤ l.length * 117649 := by
  k_with "proof" =>
    unfold escA
    have r : ∀ (c : Nat) (z l : List Nat) (n : Nat), z.length ≤ 6 → l.length ≤ n → (rep c z l).length ≤ n * 7 := fun c z l n hz hl => by
      have h := rep_len c z l
      have h2 : l.length * z.length ≤ n * 6 := Nat.mul_le_mul hl hz
      omega
    have h1 := r 38 [38, 97, 109, 112, 59] l _ (by decide) (Nat.le_refl _)
    have h2 := r 60 [38, 108, 116, 59] _ _ (by decide) h1
    have h3 := r 34 [38, 113, 117, 111, 116, 59] _ _ (by decide) h2
    have h4 := r 9 [38, 35, 120, 57, 59] _ _ (by decide) h3
    have h5 := r 10 [38, 35, 120, 65, 59] _ _ (by decide) h4
    have h6 := r 13 [38, 35, 120, 68, 59] _ _ (by decide) h5
    omega
  run_tac Mine.sq default
theorem esc_len2 {x y : Str} (h : y.cps.toList = escA x.cps.toList) (hx : x.length ≤ 16) : y.length ≤ 1882384 := by
  k_with "proof" =>
    have h1 := escA_len x.cps.toList
    rw [← h, Array.length_toList, Array.length_toList] at h1
    have h2 : x.cps.size ≤ 16 := hx
    show y.cps.size ≤ 1882384
    omega
  run_tac Mine.sq default
theorem app_len {a b : Str} {n k : Nat} (h1 : a.length ≤ n) (h2 : b.length ≤ k) : (a ++ b).length ≤ n + k := by
  k_with "proof" =>
    have e : (a ++ b).length = a.length + b.length := by show (a.cps ++ b.cps).size = _; rw [Array.size_append]; rfl
    omega
  run_tac Mine.sq default
theorem wl_WStB_1 : True := by
  k_with "call ref" => run_tac Mine.ln "WStB.1"
  k_with "own WStB.1" => (k_here; (with_reducible show wpAny _ _ (call (Value.ref 264) _) _ _ _); k_dflt (refine' esc_attrib _ _ _ _ _ _ _ ?eal _ _ _ _ _ _ _ _ _ _ _ _ _ _ _ _ _ ?eaB ?eaF ?eaX ?eaN ?eaT ?eak ?ear ?eau ?eap ?eag ?_; (case eal => assumption); (case eaB => k_asm); (case eaF => k_asm); (case eaX => k_asm); (case eaN => k_asm); (case eaT => k_asm); (case eak => assumption); (case ear => exact wlt2t (by assumption)); (case eau => exact wunitsT (by assumption)); (case eap => first | assumption | (dsimp only; omega)); (case eag => assumption)); intro v' n' s' F' N' S' t' P'; k_dflt (obtain ⟨en', y', ty', ev', ec'⟩ := P'; subst ev'; subst en'; have el' := esc_len2 ec' (by assumption); obtain ⟨hh', gg', dd', tt', oo'⟩ := s'; obtain ⟨eo', ed', eg'⟩ := S'; dsimp only at eo' ed' eg' F' N' t'; subst eo' ed' eg'))
  trivial
theorem wl_WStB_2 : True := by
  k_with "eval Name" => run_tac Mine.ln "WStB.2"
  k_with "own WStB.2" => (k_here; (with_reducible show wpAny _ _ (eval (PySem.Expr.Name _ _) (compEnvC _ _ _ _)) _ _ _); k_dflt (first | refine LCgL.ld_own (by k_asm) (List.mem_cons_self ..) (by assumption) (by assumption) ?_ | refine LCgL.ld_global (by k_asm) (by k_asm) (by k_asm) (by k_is) ?_))
  trivial
noncomputable abbrev eltScope : Scope := { kind := .function, names := [(Str.ofString ".0", .local), (Str.ofString "k", .local), (Str.ofString "v", .local), (Str.ofString "_escape_attrib_c14n", .globalImplicit)], isGenerator := false, isCoroutine := false }
theorem attr_elt (w : World) (mean : ExcName → Option Value) (mg mb : Str → Option Value) (nw : List (Addr × Obj)) (C : Addr) (oC : Obj) (m₂ : Str → Option Value) (x y : Str) (t u : Tok) (cl : List (Str × Addr)) (p1 p2 p3 p4 p5 p6 p7 p8 p9 p10 : Pos) (hx : m₂ (Str.ofString "k") = some (.str x t)) (hy : m₂ (Str.ofString "v") = some (.str y u)) (hxl : x.length ≤ 1) (hyl : y.length ≤ 16) (nC : LCg.NsObj oC m₂) :
    ∀ (dp un : Nat) (gd : Option (List Code)) (cn : Str) (cs : Scope) (a : Addr) (ccd : Value) (cl0 : List (Str × Addr)) (outer : List Env) (A₀ : Around) (base h₀ : Heap) (L : Addr) (m : Str → Option Value) (s : Shared) (Q E : Value → Shared → Prop),
    Below A₀ base outer h₀ → Fr h₀ L s.heap m → (K w.params).In h₀ → News h₀ L s.heap ((C, oC) :: nw) → Top VW LO mean mg mb h₀ → cs.kind = .function → dp + 2 < recursionLimit → un + 50 < cLine → AllBare s.gens →
    (∀ Z t' h' tk, Fr h₀ L h' m → News h₀ L h' ((C, oC) :: nw) → codes Z = codes (Str.ofString " ") ++ codes x ++ codes (Str.ofString "=\"") ++ escA (codes y) ++ codes (Str.ofString "\"") → Q (.str Z t') { s with heap := h', toks := tk }) →
    wpAny (model PG w) (ktrTop dp un gd cn cs L a ccd cl0 outer) (eval (.JoinedStr [.Constant (.str (Str.ofString " ")) 0 p1, .FormattedValue (.Name (Str.ofString "k") p2) (-1) none p3, .Constant (.str (Str.ofString "=\"")) 0 p4, .FormattedValue (.Call (.Name (Str.ofString "_escape_attrib_c14n") p5) [.Name (Str.ofString "v") p6] [] p7) (-1) none p8, .Constant (.str (Str.ofString "\"")) 0 p9] p10) (compEnvC eltScope cl C (envX cn cs L a ccd cl0))) Q E s := by
  k_with "proof" =>
    dsimp only [PG, VW, LO]
    k_fill
    intro dp un gd cn cs a ccd cl0 outer A₀ base h₀ L m s Q E B F X N Tp hk hd hu hg hQ
    obtain ⟨h9, gn9, d9, t9, o9⟩ := s
    dsimp only at F N hg
    k_steps
    with_reducible rename News _ _ _ _ => NZ
    with_reducible rename Fr _ _ _ _ => FZ
    refine hQ _ _ _ _ FZ NZ ?_
    show (Str.empty ++ Str.ofString " " ++ x ++ Str.ofString "=\"" ++ _ ++ Str.ofString "\"").cps.toList = codes (Str.ofString " ") ++ codes x ++ codes (Str.ofString "=\"") ++ escA (codes y) ++ codes (Str.ofString "\"")
    simp only [Str.cps_append, Array.toList_append]
    rw [show (Str.empty).cps.toList = [] from rfl, List.nil_append]
    unfold codes
    congr 2
  run_tac Mine.sq default
end Mine
end
theorem Mine.wl_WStB_end : True := by
  k_with_none
  trivial
section -- WStT
open PySem PySem.W PySem.Calls PyProof.Rows
namespace Mine
theorem wl_WStT_0 : True := by
  k_with_none
  trivial
theorem put_rs2 {w : World} {W : WA} {T : WT} {rs rd b : Bool} {h : Int} {k : Value} {n : Nat} : (putL (Str.ofString "_root_seen") h k (.bool b) (wD w W T rs rd), putN (Str.ofString "_root_seen") (wD w W T rs rd) n) = (wD w W T b rd, n) := by with_unfolding_all rfl
theorem lastL {prog : Program} {w : World} {A : Around} {E : Value → Shared → Prop} {s : Shared} {h₀ : Heap} {L l : Addr} {news : List (Addr × Obj)} {its : Array Value} {n : Nat} {t : Tok} {value slice : PySem.Expr} {Q : Value → Shared → Prop} (N : News h₀ L s.heap news) (hm : (l, listOf its n) ∈ news) (hz : 1 ≤ its.size ∧ its.size ≤ 100) (h : ∀ v, Q v s)
    (hs : subscripted slice false (.ref l) (.int (-1) t) = operate [.ref l, .int (-1) t] (getItem (.ref l) (.int (-1) t)) := by with_unfolding_all rfl) : wpAny (model prog w) A (subscriptTail value slice (.ref l) (.int (-1) t)) Q E s := by
  k_with "proof" =>
    have hl : s.heap.IsList l its := ⟨_, (N _ hm).1, rfl, _, rfl⟩
    have hi : its.size - 1 < its.size := by omega
    refine tail_any ⟨_, (N _ hm).1, rfl⟩ slot_list_getitem.lookup (wpAny_getItem_list_neg hl (x := its[its.size - 1]) (by decide) (by omega) (by decide) ?_ (h _)) hs
    have e : (-1 + (its.size : Int)).toNat = its.size - 1 := by omega
    rw [e, Array.getElem?_eq_getElem hi]
  run_tac Mine.sq default
theorem wl_WStT_1 : True := by
  k_with "execs cons" => run_tac Mine.ln "WStT.1"
  k_with "own WStT.1" => (k_here; (with_reducible show wpAny _ _ _ _ _ (Shared.mk _ _ _ (_ + _) _)); refine gen_tok (by omega) ?_; intro _ _)
  trivial
theorem wl_WStT_2 : True := by
  k_with "execs cons" => run_tac Mine.ln "WStT.2"
  k_with "own WStT.2" => (k_here; (with_reducible show wpAny _ _ _ _ _ (Shared.mk _ _ _ (Shared.toks _) _)); refine gen_tok (by first | assumption | (dsimp only; omega)) ?_; intro _ _)
  trivial
theorem wl_WStT_3 : True := by
  k_with "execs nil" => run_tac Mine.ln "WStT.3"
  k_with "own WStT.3" => (k_here; (with_reducible show wpAny _ _ _ _ _ (Shared.mk _ _ _ (_ + _) _)); refine gen_tok (by omega) ?_; intro _ _)
  trivial
theorem wl_WStT_4 : True := by
  k_with "execs nil" => run_tac Mine.ln "WStT.4"
  k_with "own WStT.4" => (k_here; (with_reducible show wpAny _ _ _ _ _ (Shared.mk _ _ _ (Shared.toks _) _)); refine gen_tok (by first | assumption | (dsimp only; omega)) ?_; intro _ _)
  trivial
theorem wl_WStT_5 : True := by
  k_with "exec Expr" => run_tac Mine.ln "WStT.5"
  k_with "own WStT.5" => (k_here; (fail_if_success (with_reducible show wpAny _ _ _ (fun _ s' => 0 < Shared.toks s' → _) _ _)); refine' pos_toks ?pxh ?_; (case pxh => first | assumption | (dsimp only; omega)))
  trivial
theorem wl_WStT_6 : True := by
  k_with "exec Assign" => run_tac Mine.ln "WStT.6"
  k_with "own WStT.6" => (k_here; (fail_if_success (with_reducible show wpAny _ _ _ (fun _ s' => 0 < Shared.toks s' → _) _ _)); refine' pos_toks ?pxh ?_; (case pxh => first | assumption | (dsimp only; omega)))
  trivial
theorem wl_WStT_7 : True := by
  k_with "callWith ref" => run_tac Mine.ln "WStT.7"
  k_with "own WStT.7" => (k_here; (with_reducible show wpAny _ _ (callWith _ (Value.ref (WA.bm _)) _ _ _) _ _ _); k_dflt (refine callWith_W ?_))
  trivial
theorem wl_WStT_8 : True := by
  k_with "And" => run_tac Mine.ln "WStT.8"
  k_with "own WStT.8" => ((with_reducible show _ = some (bmO _ _) ∧ _); k_dflt (refine ⟨(News.get (by k_asm) (by k_mem)), ?_⟩))
  trivial
theorem wl_WStT_9 : True := by
  k_with "call ref cons nil" => run_tac Mine.ln "WStT.9"
  k_with "own WStT.9" => (k_here; (with_reducible show wpAny _ _ (call (Value.ref (WA.bm _)) _) _ _ _); k_dflt (refine' bm_push ?bpF ?bpN ?bpb ?bpU ?bpz ?_; (case bpF => k_asm); (case bpN => k_asm); (case bpb => k_mem); (case bpU => (iterate 24 (first | done | (apply Upd.head; (repeat (first | assumption | refine List.forall_mem_cons.mpr ⟨by dsimp only; k_ne, ?_⟩))) | (apply Upd.tail; · k_ne)))); (case bpz => (rw [sizeLine_eq]; (try simp only [Array.size_push]); omega))); intro h' F' N')
  trivial
theorem wl_WStT_10 : True := by
  k_with "setAttr ref" => run_tac Mine.ln "WStT.10"
  k_with "own WStT.10" => (k_here; k_dflt (refine' set_dict ?sk1 ?sk2 ?sk3 ?sk4 ?sk5 ?sk6 ?sk7 ?sk8 ?sk9 ?sk10 ?sk11 ?sk12 ?sk13 ?_; (case sk1 => k_asm); (case sk2 => k_asm); (case sk3 => k_asm); (case sk4 => k_inst); (case sk5 => exact rfl); (case sk6 => k_is); (case sk7 => k_is); (case sk8 => k_is); (case sk9 => k_is); (case sk10 => k_get); (case sk11 => first | exact put_rs2 .. | exact put_rs2 ..); (case sk12 => (iterate 24 (first | done | (apply Upd.head; (repeat (first | assumption | refine List.forall_mem_cons.mpr ⟨by dsimp only; k_ne, ?_⟩))) | (apply Upd.tail; · k_ne)))); (case sk13 => exact Nat.le_of_ble_eq_true rfl); k_whole); intro h' F' N'; (try dsimp only [wD] at N'))
  trivial
theorem wl_WStT_11 : True := by
  k_with "call builtin:list.append" => run_tac Mine.ln "WStT.11"
  k_with "own WStT.11" => (k_here; (with_reducible show wpAny _ _ (call (Value.builtin _) [Value.ref _, _]) _ _ _); k_dflt (refine' append_K ?apF ?apN ?apU ?_ ?apz; (case apF => k_asm); (case apN => k_asm); (case apU => (iterate 24 (first | done | (apply Upd.head; (repeat (first | assumption | refine List.forall_mem_cons.mpr ⟨by dsimp only; k_ne, ?_⟩))) | (apply Upd.tail; · k_ne)))); (case apz => (rw [sizeLine_eq]; (try simp only [Array.size_push]); omega)); k_whole); intro h' F' N')
  trivial
theorem wl_WStT_12 : True := by
  k_with "subscriptTail" => run_tac Mine.ln "WStT.12"
  k_with "own WStT.12" => (k_here; (with_reducible show wpAny _ _ (subscriptTail _ _ (Value.ref (WA.lz _)) _) _ _ _); k_dflt (refine pos_toks (by first | assumption | (dsimp only; omega)) ?_; refine' lastL ?laN ?lam ?laz ?_; (case laN => k_asm); (case lam => k_mem); (case laz => assumption)); intro _ _)
  trivial
theorem wl_WStT_13 : True := by
  k_with "subscriptTail Name Name ref str" => run_tac Mine.ln "WStT.13"
  k_with "own WStT.13" => (k_here; k_dflt (refine' kda_item (knd := PySem.strKind _ _) ?iN ?im ?id (strKind_is _ _ _ _) ?il ?_; (case iN => k_asm); (case im => k_mem); (case id => assumption); (case il => assumption)))
  trivial
theorem wl_WStT_14 : True := by
  k_with "call ref" => run_tac Mine.ln "WStT.14"
  k_with "own WStT.14" => (k_here; (with_reducible show wpAny _ _ (call (Value.ref 264) _) _ _ _); k_dflt (refine' esc_attrib _ _ _ _ _ _ _ ?eal _ _ _ _ _ _ _ _ _ _ _ _ _ _ _ _ _ ?eaB ?eaF ?eaX ?eaN ?eaT ?eak ?ear ?eau ?eap ?eag ?_; (case eal => assumption); (case eaB => k_asm); (case eaF => k_asm); (case eaX => k_asm); (case eaN => k_asm); (case eaT => k_asm); (case eak => rfl); (case ear => exact wlt2t (by assumption)); (case eau => exact wunitsT (by assumption)); (case eap => first | assumption | (dsimp only; omega)); (case eag => assumption)); intro v' n' s' F' N' S' t' P'; k_dflt (obtain ⟨en', y', ty', ev', ec'⟩ := P'; subst ev'; subst en'; have g2' : AllBare (Shared.gens s') := (by rw [S'.g]; assumption); have so' := S'.o; obtain ⟨hh', gg', dd', tt', oo'⟩ := s'; dsimp only at F' N' t' so' g2'))
  trivial
/-- the names that the end of _start reads -/
noncomputable abbrev tVals (q : Str) (tq : Tok) (ae la D : Addr) : List (Str × Option Value) := [(Str.ofString "attrs", some (.ref ae)), (Str.ofString "attr_list", some (.ref la)), (Str.ofString "parsed_qnames", some (.ref D)), (Str.ofString "tag", some (.str q tq)), (Str.ofString "qname_text", some .none)]
noncomputable abbrev stEnv (L : Addr) : Env := envOfC (Str.ofString "C14NWriterTarget._start") stScope L 222 (.ref 221)
/-- a start's marks and values -/
noncomputable def startWc (wv ov : List Nat) : List Nat := codes (Str.ofString "<E") ++ (codes (Str.ofString " K=\"") ++ escA wv ++ codes (Str.ofString "\"") ++ (codes (Str.ofString " a=\"") ++ escA ov ++ codes (Str.ofString "\""))) ++ codes (Str.ofString ">")
theorem wl_WStT_15 : True := by
  k_with "eval ListComp" => run_tac Mine.ln "WStT.15"
  k_with "own WStT.15" => (k_here; refine held ?_)
  trivial
theorem wl_WStT_16 : True := by
  k_with "eval JoinedStr" => run_tac Mine.ln "WStT.16"
  k_with "own WStT.16" => (k_here; refine held ?_)
  trivial
theorem wl_WStT_17 : True := by
  k_with "SrcLP" => run_tac Mine.ln "WStT.17"
  k_with "own WStT.17" => (k_here; refine held ?_)
  trivial
theorem pullC {h₀ h : Heap} {L : Addr} {i c d : Addr × Obj} {r : List (Addr × Obj)} (N : News h₀ L h (i :: c :: d :: r)) : News h₀ L h (c :: i :: d :: r) := fun p hp => N p (by
  simp only [List.mem_cons] at hp ⊢
  rcases hp with e | e | e | e
  · exact .inr (.inl e)
  · exact .inl e
  · exact .inr (.inr (.inl e))
  · exact .inr (.inr (.inr e)))
theorem backC {i c d : Addr × Obj} {r : List (Addr × Obj)} : ∀ p ∈ i :: c :: d :: r, p ∈ c :: i :: d :: r := fun p hp => by
  simp only [List.mem_cons] at hp ⊢
  rcases hp with e | e | e | e
  · exact .inr (.inl e)
  · exact .inl e
  · exact .inr (.inr (.inl e))
  · exact .inr (.inr (.inr e))
theorem wl_WStT_18 : True := by
  k_with "call builtin:str.join" => run_tac Mine.ln "WStT.18"
  k_with "own WStT.18" => (k_here; refine held ?_)
  trivial
theorem z_len {Z x y : Str} (h : codes Z = codes (Str.ofString " ") ++ codes x ++ codes (Str.ofString "=\"") ++ escA (codes y) ++ codes (Str.ofString "\"")) (hx : x.length ≤ 1) (hy : y.length ≤ 16) : Z.length ≤ 1882400 := by
  k_with "proof" =>
    have e := congrArg List.length h
    have h1 := escA_len (codes y)
    have h2 : (codes Z).length = Z.length := by unfold codes; rw [Array.length_toList]; rfl
    have h3 : (codes x).length = x.length := by unfold codes; rw [Array.length_toList]; rfl
    have h4 : (codes y).length = y.length := by unfold codes; rw [Array.length_toList]; rfl
    have a1 : (codes (Str.ofString " ")).length = 1 := by decide +kernel
    have a2 : (codes (Str.ofString "=\"")).length = 2 := by decide +kernel
    have a3 : (codes (Str.ofString "\"")).length = 1 := by decide +kernel
    simp only [List.length_append] at e
    omega
  run_tac Mine.sq default
theorem codes_start {Z1 Z2 va vk : Str} (h1 : codes Z1 = codes (Str.ofString " ") ++ codes (Str.ofString "K") ++ codes (Str.ofString "=\"") ++ escA (codes vk) ++ codes (Str.ofString "\"")) (h2 : codes Z2 = codes (Str.ofString " ") ++ codes (Str.ofString "a") ++ codes (Str.ofString "=\"") ++ escA (codes va) ++ codes (Str.ofString "\"")) :
    codes (Str.ofString "<" ++ Str.ofString "E") ++ codes (Txt.join (Str.ofString "") [Z1, Z2]) ++ codes (Str.ofString ">") = startWc (codes vk) (codes va) := by
  k_with "proof" =>
    rw [join_codes]
    have e0 : codes (Str.ofString "<" ++ Str.ofString "E") = codes (Str.ofString "<E") := by decide +kernel
    have e1 : codes (Str.ofString " ") ++ codes (Str.ofString "K") ++ codes (Str.ofString "=\"") = codes (Str.ofString " K=\"") := by decide +kernel
    have e2 : codes (Str.ofString " ") ++ codes (Str.ofString "a") ++ codes (Str.ofString "=\"") = codes (Str.ofString " a=\"") := by decide +kernel
    rw [e1] at h1
    rw [e2] at h2
    rw [e0]
    show _ ++ (codes Z1 ++ (codes Z2 ++ [])) ++ _ = _
    rw [h1, h2, List.append_nil]
    rfl
  run_tac Mine.sq default
theorem st_tail (w : World) (mean : ExcName → Option Value) (mg mb : Str → Option Value) (tl : List (Addr × Obj)) (W : WA) (T : WT) (rs rd : Bool) (n : Nat) (stk data wr nsl pres ps : Array Value) (k1 k2 k3 k4 k5 kla : Nat) (tq : Tok) (va vk : Str) (tva tvk : Tok) (ae la D S S' T1 : Addr) (oA oD o2 : Obj) (kvs : List (Str × Value)) (a1 a2 a3 b1 b2 c1 c2 : Tok)
    (hW : WOrd W) (hO : WOff W ((219, tabObj ps) :: (ae, oA) :: tl)) (hdA : oA.IsDictOf (PySem.strKind PG w) [(Str.ofString "a", .str va tva), (Str.ofString "K", .str vk tvk)]) (hlo : (ae == sysModules) = false) (hdO : oD.IsDictOf (PySem.strKind PG w) kvs) (hv1 : valueAt kvs (Str.ofString "E") = some (.ref T1))
    (hw : wr.size ≤ 300) (hns : nsl.size ≤ 100) (hps : 1 ≤ pres.size ∧ pres.size ≤ 100) (hva : va.length ≤ 16) (hvk : vk.length ≤ 16) (dp un : Nat) (gd : Option (List Code)) (outer : List Env) (A₀ : Around) (base h₀ : Heap) (L : Addr) (m0 : Str → Option Value) (s : Shared) (Q : Flow → Shared → Prop) (E : Value → Shared → Prop)
    (hc2 : o2.data = .cell (some (.ref W.x))) (l1 : @LT.lt Nat _ W.lz L) (l2 : @LT.lt Nat _ (L + 1) D) (l3 : @LT.lt Nat _ (L + 1) T1) (l4 : @LT.lt Nat _ (L + 1) la) (l5 : @LT.lt Nat _ la S) (l6 : @LT.lt Nat _ la S')
    (B : Below A₀ base outer h₀) (F : Fr h₀ L s.heap (ovr (tVals (Str.ofString "E") tq ae la D) m0)) (X : (K w.params).In h₀)
    (N : News h₀ L s.heap ((la, listOf #[.ref S, .ref S'] kla) :: (S', tupO #[.str (Str.ofString "a") b1, .str va b2] 0) :: (S, tupO #[.str (Str.ofString "K") c1, .str vk c2] 0) :: (D, oD) :: (T1, tupO #[.str (Str.ofString "E") a1, .str (Str.ofString "E") a2, .str (Str.ofString "") a3] 0) :: (L + 1, o2) :: wL w W T rs rd n stk data wr nsl pres k1 k2 k3 k4 k5 ((219, tabObj ps) :: (ae, oA) :: tl)))
    (Tp : Top VW LO mean mg mb h₀) (hd : dp + 2 < recursionLimit) (hu : un + 50 < cLine) (ht : 0 < s.toks) (hg : AllBare s.gens)
    (hQ : ∀ m' h' tk ls v X1 X2 X3 t1 t2 t3, Fr h₀ L h' m' → News h₀ L h' (wL w W T true rd n stk data (((wr.push (.str X1 t1)).push (.str X2 t2)).push (.str X3 t3)) (nsl.push (.ref ls)) (pres.push v) k1 k2 (k3 + 1 + 1 + 1) (k4 + 1) (k5 + 1) ((219, tabObj ps) :: (ae, oA) :: tl)) → 0 < tk → codes X1 ++ codes X2 ++ codes X3 = startWc (codes vk) (codes va) → Q .next { s with heap := h', toks := tk }) :
    wpAny (model PG w) (ktrTop dp un gd (Str.ofString "C14NWriterTarget._start") stScope L 222 (.ref 221) (cellsFrom (L + 1) stScope.names []) outer) (execs stTail (stEnv L)) Q E s := by
  k_with "proof" =>
    have o_lw := fun p hp => (hO p hp).2.2.2.2.2.2.1
    have o_ls := fun p hp => (hO p hp).2.2.2.2.2.2.2.1
    have o_lz := fun p hp => (hO p hp).2.2.2.2.2.2.2.2.1
    have o_dx := fun p hp => (hO p hp).2.1
    revert B F X N Tp hd hu ht hg hdA hdO
    dsimp only [PG, VW, LO, wL, wD, ovr, tVals]
    k_fill
    intro hdA hdO B F X N Tp hd hu ht hg
    obtain ⟨h9, gn9, d9, t9, o9⟩ := s
    dsimp only at F N ht hg
    delta stTail stEnv stScope
    dsimp only
    k_steps
    refine Held.go ?_
    refine pos_toks (by first | assumption | (dsimp only; omega)) ?_
    k_dflt (refine LCp.ListComp_P (F₀ := by k_asm) (by with_unfolding_all rfl) (by decide) (by rfl) (by decide) (by rfl) (by rfl) (by decide) ?_)
    k_steps
    refine Held.go ?_
    with_reducible rename News _ _ _ _ => NL
    with_reducible rename Fr _ _ _ _ => FL
    k_dflt (refine LCp.SrcLP.ledger rfl FL NL (by k_mem) (by rw [sizeLine_eq]; exact Nat.le_of_ble_eq_true rfl) ?_)
    intro gL
    k_dflt (refine LCp.CompRestP.succ ?_)
    intro v hv
    cases (Option.some.inj hv : Value.ref S = v)
    refine ⟨S, _, _, _, _, rfl, by k_mem, rfl, rfl, ?_⟩
    intro I oI C oC D9 m2 h8 tk8 E' nC hk1 hk2 F1 N1 off ne1
    k_dflt (refine attr_elt w mean mg mb ((I, oI) :: (D9, _) :: _) C oC m2 _ _ _ _ _ _ _ _ _ _ _ _ _ _ _ hk1 hk2 (by decide) hvk nC _ _ _ _ _ _ _ _ _ _ _ _ _ _ _ _ _ B F1 X (pullC N1) Tp rfl hd hu hg ?_)
    intro Z1 tz1 h7 tk7 F2 N2 hz1
    k_dflt (refine LCg.CompEnd.intro F2 N2 _ backC off (.inr ⟨_, by k_mem, rfl, _, rfl⟩) ?_)
    clear F2 N2 F1 N1 off ne1
    k_dflt (refine LCp.CompRestP.succ ?_)
    intro v hv
    cases (Option.some.inj hv : Value.ref S' = v)
    refine ⟨S', _, _, _, _, rfl, by k_mem, rfl, rfl, ?_⟩
    intro I oI C oC D9 m2 h8 tk8 E' nC hk1 hk2 F1 N1 off ne1
    k_dflt (refine attr_elt w mean mg mb ((I, oI) :: (D9, _) :: _) C oC m2 _ _ _ _ _ _ _ _ _ _ _ _ _ _ _ hk1 hk2 (by decide) hva nC _ _ _ _ _ _ _ _ _ _ _ _ _ _ _ _ _ B F1 X (pullC N1) Tp rfl hd hu hg ?_)
    intro Z2 tz2 h7 tk7 F2 N2 hz2
    k_dflt (refine LCg.CompEnd.intro F2 N2 _ backC off (.inr ⟨_, by k_mem, rfl, _, rfl⟩) ?_)
    clear F2 N2 F1 N1 off ne1
    k_dflt (refine LCp.CompRestP.zero ?_)
    intro DL hL tkL FF NF oL
    clear oL
    intro htL
    dsimp only at htL
    clear NL FL
    k_steps
    refine Held.go ?_
    refine pos_toks (by first | assumption | (dsimp only; omega)) ?_
    have hzl : (([Z1, Z2] : List Str).map (·.length)).sum ≤ 3764800 := by
      have e1 := z_len hz1 (by decide) hvk
      have e2 := z_len hz2 (by decide) hva
      simp only [List.map_cons, List.map_nil, List.sum_cons, List.sum_nil]
      omega
    k_dflt (refine join_listC (items := #[.str Z1 tz1, .str Z2 tz2]) (ys := [Z1, Z2]) ⟨_, (NF _ (.head _)).1, rfl, _, rfl⟩ (by repeat constructor) (by decide) (by simp only [List.length_cons, List.length_nil]; omega) ?_)
    intro tj kj htj
    dsimp only at htj
    have NF2 : News h₀ L _ _ := fun p hp => NF p (.tail _ hp)
    clear NF
    k_steps
    with_reducible rename News _ _ _ _ => NE
    with_reducible rename Fr _ _ _ _ => FE
    refine hQ _ _ _ _ _ _ _ _ _ _ _ FE (fun p hp => NE p (.tail _ (.tail _ (.tail _ (.tail _ (.tail _ (.tail _ (.tail _ hp)))))))) (by first | assumption | (dsimp only; omega)) ?_
    exact codes_start hz1 hz2
  run_tac Mine.sq default
end Mine
end
theorem Mine.wl_WStT_end : True := by
  k_with_none
  trivial
section -- WSt
open PySem PySem.W PySem.Calls PyProof.Rows
namespace Mine
theorem wl_WSt_0 : True := by
  k_with_none
  trivial
inductive Shape : Str → List (Str × Tok × Value) → Prop
  | root : Shape (Str.ofString "r") []
  | elt {ta tk tv tw : Tok} {va vk : Str} : va.length ≤ 16 → vk.length ≤ 16 → Shape (Str.ofString "E") [(Str.ofString "a", ta, .str va tv), (Str.ofString "K", tk, .str vk tw)]
theorem Shape.le {q : Str} {as : List (Str × Tok × Value)} (h : Shape q as) : as.length ≤ 3 := by cases h <;> simp
theorem Shape.nd {q : Str} {as : List (Str × Tok × Value)} (h : Shape q as) : (as.map (·.1) ++ [q]).Nodup := by
  cases h with
  | root => show [Str.ofString "r"].Nodup; decide +kernel
  | elt => show [Str.ofString "a", Str.ofString "K", Str.ofString "E"].Nodup; decide +kernel
theorem Shape.sz {q : Str} {as : List (Str × Tok × Value)} (h : Shape q as) : ((as.map (·.1)).reverse ++ [q]).length = 1 ∨ ((as.map (·.1)).reverse ++ [q]).length = 3 := by cases h <;> simp
theorem Shape.mem {q : Str} {as : List (Str × Tok × Value)} (h : Shape q as) : ∀ x ∈ (as.map (·.1)).reverse ++ [q], x = Str.ofString "r" ∨ x = Str.ofString "E" ∨ x = Str.ofString "a" ∨ x = Str.ofString "K" := by cases h <;> simp
theorem wl_WSt_1 : True := by
  k_with "execs cons" => run_tac Mine.ln "WSt.1"
  k_with "own WSt.1" => (k_here; (with_reducible show wpAny _ _ _ _ _ (Shared.mk _ _ _ (_ + _) _)); refine gen_tok (by omega) ?_; intro _ _)
  trivial
theorem wl_WSt_2 : True := by
  k_with "execs nil" => run_tac Mine.ln "WSt.2"
  k_with "own WSt.2" => (k_here; (with_reducible show wpAny _ _ _ _ _ (Shared.mk _ _ _ (_ + _) _)); refine gen_tok (by omega) ?_; intro _ _)
  trivial
theorem wl_WSt_3 : True := by
  k_with "eval Set" => run_tac Mine.ln "WSt.3"
  k_with "own WSt.3" => (k_here; k_dflt (refine' sset_eval ?sF ?sN ?sX ?sc ?sp ?_; (case sF => k_asm); (case sN => k_asm); (case sX => k_asm); (case sc => rfl); (case sp => rfl)); intro D' h' so' F' N' l1 hs'; have lD' := l1; (try k_lt l1))
  trivial
theorem wl_WSt_4 : True := by
  k_with "setAdd str" => run_tac Mine.ln "WSt.4"
  k_with "own WSt.4" => (k_here; k_dflt (refine' sset_add0 ?sF ?sN ?sl ?ss ?_; (case sF => k_asm); (case sN => assumption); (case sl => assumption); (case ss => assumption)); intro h' so' F' N' hs')
  trivial
theorem wl_WSt_5 : True := by
  k_with "setDisplayStar" => run_tac Mine.ln "WSt.5"
  k_with "own WSt.5" => (k_here; k_dflt (refine' sset_star1 ?sA ?sF ?sN ?sl ?ss ?sm ?so ?sle ?snd ?_; (case sA => exact rfl); (case sF => k_asm); (case sN => assumption); (case sl => assumption); (case ss => assumption); (case sm => k_mem); (case so => assumption); (case sle => exact Shape.le (by assumption)); (case snd => exact Shape.nd (by assumption))); intro h' tk' so' F' N' hs')
  trivial
theorem wl_WSt_6 : True := by
  k_with "call builtin:sorted" => run_tac Mine.ln "WSt.6"
  k_with "own WSt.6" => (k_here; (fail_if_success (with_reducible show wpAny _ _ (call (Value.builtin _) [Value.ref _]) _ _ _)); refine held ?_)
  trivial
theorem wl_WSt_7 : True := by
  k_with "exec Assign cons DictComp" => run_tac Mine.ln "WSt.7"
  k_with "own WSt.7" => (k_here; refine held ?_)
  trivial
theorem wl_WSt_8 : True := by
  k_with "eval Lambda" => run_tac Mine.ln "WSt.8"
  k_with "own WSt.8" => (k_here; refine held ?_)
  trivial
theorem uS {dp un : Nat} {gd : Option (List Code)} {cn : Str} {cs : Scope} {L a : Addr} {ccd : Value} {cl : List (Str × Addr)} {outer : List Env} {e : Env} {x : Nat} (hu : un + 60 < cLine) (h : x ≤ 50) : ((ktrTop dp un gd cn cs L a ccd cl outer).deeper e).units + x < cLine := by
  k_with "proof" =>
    show un + 3 + x < cLine
    omega
  run_tac Mine.sq default
theorem dS {dp un : Nat} {gd : Option (List Code)} {cn : Str} {cs : Scope} {L a : Addr} {ccd : Value} {cl : List (Str × Addr)} {outer : List Env} {e : Env} (hd : dp + 4 < recursionLimit) : ((ktrTop dp un gd cn cs L a ccd cl outer).deeper e).in1.in1.depth < recursionLimit := by
  k_with "proof" =>
    show dp + 1 < recursionLimit
    omega
  run_tac Mine.sq default
theorem split_x {x : Str} (hq : x = Str.ofString "r" ∨ x = Str.ofString "E" ∨ x = Str.ofString "a" ∨ x = Str.ofString "K") : Txt.splitMax x (Str.ofString "}") 1 = [x] := by
  rcases hq with e | e | e | e <;> (rw [e]; decide +kernel)
section
variable {prog : Program} {w : World} {A : Around} {E : Value → Shared → Prop} {s : Shared} {h₀ : Heap} {L : Addr} {m : Str → Option Value} {news : List (Addr × Obj)}
theorem split_c {x : Str} {t u v : Tok} {Q : Value → Shared → Prop} (hq : x = Str.ofString "r" ∨ x = Str.ofString "E" ∨ x = Str.ofString "a" ∨ x = Str.ofString "K") (F : Fr h₀ L s.heap m) (N : News h₀ L s.heap news)
    (h : ∀ R t' h' tk, Fr h₀ L h' m → News h₀ L h' ((R, listOf #[.str x t'] 0) :: news) → (∀ p ∈ news, p.1 < R) → Q (.ref R) { s with heap := h', toks := tk }) :
    wpAny (model prog w) A (call (.builtin "str.split") [.str x t, .str (Str.ofString "}") u, .int 1 v]) Q E s := by
  k_with "proof" =>
    have h1 : x.length ≤ 1 := by rcases hq with e | e | e | e <;> (rw [e]; decide)
    refine splitN2A (hsz := by rw [sizeLine_eq]; omega) F N (by decide +kernel) (by decide) fun l h' tk e _ _ _ F' N' => ?_
    rw [split_x hq] at e
    match l, e with
    | [(x', t')], e =>
      have : x' = x := by simpa using e
      subst this
      exact h _ t' h' tk F' N' fun p hp => Heap.lt_size (N p hp).1
  run_tac Mine.sq default
end
theorem subNB {a f q d D c1 c2 : Addr × Obj} {r : List (Addr × Obj)} : ∀ p ∈ a :: q :: c1 :: c2 :: r, p ∈ a :: f :: q :: d :: D :: c1 :: c2 :: r := fun p hp => by
  simp only [List.mem_cons] at hp ⊢
  rcases hp with h | h | h | h | h
  · exact .inl h
  · exact .inr (.inr (.inl h))
  · exact .inr (.inr (.inr (.inr (.inr (.inl h)))))
  · exact .inr (.inr (.inr (.inr (.inr (.inr (.inl h))))))
  · exact .inr (.inr (.inr (.inr (.inr (.inr (.inr h))))))
theorem off1 {w : World} {W : WA} {T : WT} {rs rd : Bool} {n : Nat} {stk data wr nsl pres : Array Value} {k1 k2 k3 k4 k5 : Nat} {tl : List (Addr × Obj)} {b : Addr} (l : ∀ p ∈ wL w W T rs rd n stk data wr nsl pres k1 k2 k3 k4 k5 tl, p.1 < b) {c : Addr} (hc : b ≤ c) (o : Obj) : WOff W [(c, o)] := fun p hp => by
  rw [List.mem_singleton.mp hp]
  have key : ∀ z ∈ wL w W T rs rd n stk data wr nsl pres k1 k2 k3 k4 k5 tl, @Ne Nat c z.1 := fun z hz => Nat.ne_of_gt (Nat.lt_of_lt_of_le (l z hz) hc)
  exact ⟨key (W.x, _) (.head _), key (W.dx, _) (.tail _ (.head _)), key (W.ln, _) (.tail _ (.tail _ (.head _))), key (W.b0, _) (.tail _ (.tail _ (.tail _ (.head _)))), key (W.T0, _) (.tail _ (.tail _ (.tail _ (.tail _ (.head _))))),
    key (W.ld, _) (.tail _ (.tail _ (.tail _ (.tail _ (.tail _ (.head _)))))), key (W.lw, _) (.tail _ (.tail _ (.tail _ (.tail _ (.tail _ (.tail _ (.head _))))))), key (W.ls, _) (.tail _ (.tail _ (.tail _ (.tail _ (.tail _ (.tail _ (.tail _ (.head _)))))))),
    key (W.lz, _) (.tail _ (.tail _ (.tail _ (.tail _ (.tail _ (.tail _ (.tail _ (.tail _ (.head _))))))))), key (W.bm, _) (.tail _ (.tail _ (.tail _ (.tail _ (.tail _ (.tail _ (.tail _ (.tail _ (.tail _ (.head _))))))))))⟩
theorem subW {w : World} {W : WA} {T : WT} {rs rd : Bool} {n : Nat} {stk data wr nsl pres : Array Value} {k1 k2 k3 k4 k5 : Nat} {tl : List (Addr × Obj)} {x1 x2 x3 x4 x5 : Addr × Obj} : ∀ {z : Addr × Obj}, z ∈ wL w W T rs rd n stk data wr nsl pres k1 k2 k3 k4 k5 [] → z ∈ x1 :: x2 :: x3 :: x4 :: x5 :: wL w W T rs rd n stk data wr nsl pres k1 k2 k3 k4 k5 tl := fun {z} hz => by
  have e : wL w W T rs rd n stk data wr nsl pres k1 k2 k3 k4 k5 tl = wL w W T rs rd n stk data wr nsl pres k1 k2 k3 k4 k5 [] ++ tl := rfl
  rw [e]
  exact .tail _ (.tail _ (.tail _ (.tail _ (.tail _ (List.mem_append_left _ hz)))))
theorem uS2 {a b : Nat} (h : a + 60 < b) : a + 3 + 40 < b := by omega
theorem uS4 {a b : Nat} (h : a + 60 < b) : a + 3 + 50 < b := by omega
theorem wlt4b {a b : Nat} (h : a + 4 < b) : a + 1 + 2 < b := by omega
theorem woff_cons {W : WA} {x : Addr × Obj} {r : List (Addr × Obj)} (h1 : WOff W [x]) (h2 : WOff W r) : WOff W (x :: r) := woff_app h1 h2
theorem kv_at {vs : List Value} {xs : List Str} {kvs : List (Str × Value)} {ob : List (Addr × Obj)} (hk : kvs.map (·.1) = vs.map strOfV) (hv : Texts vs xs) (ht : TupIn kvs ob) {x : Str} (hx : x ∈ xs) :
    ∃ T t1 t2 t3, valueAt kvs x = some (.ref T) ∧ (T, tupO #[.str x t1, .str x t2, .str (Str.ofString "") t3] 0) ∈ ob := by
  k_with "proof" =>
    have h1 : x ∈ kvs.map (·.1) := hk ▸ hv.1.mem_iff.mpr hx
    obtain ⟨p, hp, e⟩ := List.mem_map.mp h1
    have hf : (kvs.find? fun kv => kv.1 = x).isSome := List.find?_isSome.mpr ⟨p, hp, by simpa using e⟩
    obtain ⟨r, hr⟩ := Option.isSome_iff_exists.mp hf
    have hr1 : r.1 = x := by simpa using List.find?_some hr
    obtain ⟨T, t1, t2, t3, e1, e2⟩ := ht r (List.mem_of_find?_eq_some hr)
    refine ⟨T, t1, t2, t3, ?_, hr1 ▸ e2⟩
    unfold valueAt
    rw [hr, ← e1]; rfl
  run_tac Mine.sq default
theorem mem4 {x a b : Addr × Obj} {tl : List (Addr × Obj)} (ha : a ∈ tl) (hb : b ∈ tl) : ∀ p ∈ x :: a :: b :: tl, p ∈ x :: tl := fun p hp => by
  rcases List.mem_cons.mp hp with h | hp
  · exact h ▸ .head _
  · rcases List.mem_cons.mp hp with h | hp
    · exact h ▸ .tail _ ha
    · rcases List.mem_cons.mp hp with h | hp
      · exact h ▸ .tail _ hb
      · exact .tail _ hp
theorem mem3 {a b c : Addr × Obj} {l : List (Addr × Obj)} (h1 : a ∈ l) (h2 : b ∈ l) (h3 : c ∈ l) : ∀ t ∈ [a, b, c], t ∈ l := fun t ht => by
  simp only [List.mem_cons, List.not_mem_nil, or_false] at ht
  rcases ht with h | h | h
  · exact h ▸ h1
  · exact h ▸ h2
  · exact h ▸ h3
theorem pull5 {h₀ h : Heap} {L : Addr} {x1 x2 x3 x4 la : Addr × Obj} {r : List (Addr × Obj)} (N : News h₀ L h (x1 :: x2 :: x3 :: x4 :: la :: r)) : News h₀ L h (la :: x1 :: x2 :: x3 :: r) := fun p hp => N p (by
  simp only [List.mem_cons] at hp ⊢
  rcases hp with e | e | e | e | e
  · exact .inr (.inr (.inr (.inr (.inl e))))
  · exact .inl e
  · exact .inr (.inl e)
  · exact .inr (.inr (.inl e))
  · exact .inr (.inr (.inr (.inr (.inr e)))))
noncomputable abbrev ysA : List Str := [Str.ofString "k", Str.ofString "v", Str.ofString "attr_qname", Str.ofString "attr_name", Str.ofString "uri"]
theorem tl_of {d S I la : Addr} {oI oS o o' : Obj} {rest : List (Addr × Obj)} (h : AllLt d ((I, oI) :: (la, o) :: (S, oS) :: rest)) : AllLt d ((I, oI) :: (la, o') :: rest) := ⟨h.1, h.2.1, h.2.2.2⟩
noncomputable def startCodes (as : List (Str × Tok × Value)) : List Nat := match as with
  | [(_, _, .str va _), (_, _, .str vk _)] => startWc (codes vk) (codes va)
  | _ => codes (Str.ofString "<r>")
noncomputable abbrev lamQ : Str := Str.ofString "C14NWriterTarget._start.<locals>.<lambda>"
/-- what a start leaves -/
noncomputable def StP (w : World) (W : WA) (T : WT) (rd : Bool) (n : Nat) (stk data wr nsl pres : Array Value) (k1 k2 k4 k5 : Nat) (as : List (Str × Tok × Value)) (ps : Array Value) (tl0 : List (Addr × Obj)) (news' : List (Addr × Obj)) : Prop :=
  ∃ ps' tl' ws k3' ls y, news' = wL w W T true rd n stk data (wr ++ ws) (nsl.push (.ref ls)) (pres.push y) k1 k2 k3' (k4 + 1) (k5 + 1) ((219, tabObj ps') :: tl') ∧ LamTab lamQ 167 71 ps' tl' ∧ WOff W ((219, tabObj ps') :: tl') ∧ (∀ p ∈ tl', p.1 ≠ 219) ∧ (∀ p ∈ tl0, p ∈ tl') ∧ ws.size ≤ 3 ∧
    (∃ zs, StrsAre ws.toList zs ∧ zs.flatMap codes = startCodes as) ∧ ∃ nw, tl' = nw ++ tl0 ∧ Grew lamQ 167 71 ps tl0 ps' nw
theorem push3 {wr : Array Value} {a b c : Value} : ((wr.push a).push b).push c = wr ++ #[a, b, c] := by rw [← Array.toList_inj]; simp
theorem push2 {wr : Array Value} {a b : Value} : (wr.push a).push b = wr ++ #[a, b] := by rw [← Array.toList_inj]; simp
theorem dropA {wl tl : List (Addr × Obj)} {x a : Addr × Obj} : ∀ p ∈ wl ++ (x :: tl), p ∈ wl ++ (x :: a :: tl) := fun p hp => by
  rcases List.mem_append.mp hp with h | h
  · exact List.mem_append_left _ h
  · rcases List.mem_cons.mp h with e | h
    · exact List.mem_append_right _ (e ▸ .head _)
    · exact List.mem_append_right _ (.tail _ (.tail _ h))
theorem dropB {wl tl : List (Addr × Obj)} {x a b c d e f g : Addr × Obj} : ∀ p ∈ wl ++ (x :: tl), p ∈ c :: d :: e :: f :: g :: (wl ++ (x :: a :: b :: tl)) := fun p hp => .tail _ (.tail _ (.tail _ (.tail _ (.tail _ (by
  rcases List.mem_append.mp hp with h | h
  · exact List.mem_append_left _ h
  · rcases List.mem_cons.mp h with e | h
    · exact List.mem_append_right _ (e ▸ .head _)
    · exact List.mem_append_right _ (.tail _ (.tail _ (.tail _ h))))))))
section
variable {w : World} {W : WA} {T : WT} {rd : Bool} {n : Nat} {stk data wr nsl pres ps ps' : Array Value} {k1 k2 k3' k4 k5 : Nat} {as : List (Str × Tok × Value)} {tl0 tl' : List (Addr × Obj)} {h₀ hh : Heap} {L : Addr} {x1 x2 x3 x4 x5 a b : Addr × Obj} {X1 X2 X3 : Str} {t1 t2 t3 : Tok} {ls : Addr} {y : Value}
theorem stEnd2 (N : News h₀ L hh (x1 :: x2 :: x3 :: x4 :: x5 :: wL w W T true rd n stk data ((wr.push (.str X1 t1)).push (.str X2 t2)) (nsl.push (.ref ls)) (pres.push y) k1 k2 k3' (k4 + 1) (k5 + 1) ((219, tabObj ps') :: a :: b :: tl')))
    (h1 : LamTab lamQ 167 71 ps' tl') (h2 : WOff W ((219, tabObj ps') :: tl')) (h3 : ∀ p ∈ tl', p.1 ≠ 219) (h4 : ∀ p ∈ tl0, p ∈ tl') (h5 : codes X1 ++ codes X2 = startCodes as) (h6 : ∃ nw, tl' = nw ++ tl0 ∧ Grew lamQ 167 71 ps tl0 ps' nw) :
    ∃ news', News h₀ L hh news' ∧ StP w W T rd n stk data wr nsl pres k1 k2 k4 k5 as ps tl0 news' := by
  k_with "proof" =>
    refine ⟨_, fun p hp => N p (dropB (wl := wL w W T true rd n stk data ((wr.push (.str X1 t1)).push (.str X2 t2)) (nsl.push (.ref ls)) (pres.push y) k1 k2 k3' (k4 + 1) (k5 + 1) []) p hp), ps', tl', #[.str X1 t1, .str X2 t2], k3', ls, y, ?_, h1, h2, h3, h4, by simp, ⟨[X1, X2], by repeat constructor, ?_⟩, h6⟩
    · rw [← push2]; rfl
    · rw [← h5]; simp
  run_tac Mine.sq default
theorem stEnd3 (N : News h₀ L hh (wL w W T true rd n stk data (((wr.push (.str X1 t1)).push (.str X2 t2)).push (.str X3 t3)) (nsl.push (.ref ls)) (pres.push y) k1 k2 k3' (k4 + 1) (k5 + 1) ((219, tabObj ps') :: a :: tl')))
    (h1 : LamTab lamQ 167 71 ps' tl') (h2 : WOff W ((219, tabObj ps') :: tl')) (h3 : ∀ p ∈ tl', p.1 ≠ 219) (h4 : ∀ p ∈ tl0, p ∈ tl') (h5 : codes X1 ++ codes X2 ++ codes X3 = startCodes as) (h6 : ∃ nw, tl' = nw ++ tl0 ∧ Grew lamQ 167 71 ps tl0 ps' nw) :
    ∃ news', News h₀ L hh news' ∧ StP w W T rd n stk data wr nsl pres k1 k2 k4 k5 as ps tl0 news' := by
  k_with "proof" =>
    refine ⟨_, fun p hp => N p (dropA (wl := wL w W T true rd n stk data (((wr.push (.str X1 t1)).push (.str X2 t2)).push (.str X3 t3)) (nsl.push (.ref ls)) (pres.push y) k1 k2 k3' (k4 + 1) (k5 + 1) []) p hp), ps', tl', #[.str X1 t1, .str X2 t2, .str X3 t3], k3', ls, y, ?_, h1, h2, h3, h4, by simp, ⟨[X1, X2, X3], by repeat constructor, ?_⟩, h6⟩
    · rw [← push3]; rfl
    · rw [← h5]; simp
  run_tac Mine.sq default
end
theorem memO {x a b : Addr × Obj} {tl : List (Addr × Obj)} : ∀ p ∈ x :: a :: tl, p ∈ x :: a :: b :: tl := fun p hp => by
  rcases List.mem_cons.mp hp with e | hp
  · exact e ▸ .head _
  · rcases List.mem_cons.mp hp with e | hp
    · exact .tail _ (e ▸ .head _)
    · exact .tail _ (.tail _ (.tail _ hp))
theorem memT {a b c x y z d t1 t2 t3 s1 x219 ae ne : Addr × Obj} {wl tl : List (Addr × Obj)} : ∀ p ∈ a :: b :: c :: d :: t1 :: s1 :: (wl ++ (x219 :: ae :: tl)), p ∈ a :: b :: c :: x :: y :: z :: d :: t1 :: t2 :: t3 :: s1 :: (wl ++ (x219 :: ae :: ne :: tl)) := fun p hp => by
  simp only [List.mem_cons, List.mem_append] at hp ⊢
  rcases hp with h | h | h | h | h | h | h | h | h | h
  · exact .inl h
  · exact .inr (.inl h)
  · exact .inr (.inr (.inl h))
  · exact .inr (.inr (.inr (.inr (.inr (.inr (.inl h))))))
  · exact .inr (.inr (.inr (.inr (.inr (.inr (.inr (.inl h)))))))
  · exact .inr (.inr (.inr (.inr (.inr (.inr (.inr (.inr (.inr (.inr (.inl h))))))))))
  · exact .inr (.inr (.inr (.inr (.inr (.inr (.inr (.inr (.inr (.inr (.inr (.inl h)))))))))))
  · exact .inr (.inr (.inr (.inr (.inr (.inr (.inr (.inr (.inr (.inr (.inr (.inr (.inl h))))))))))))
  · exact .inr (.inr (.inr (.inr (.inr (.inr (.inr (.inr (.inr (.inr (.inr (.inr (.inr (.inl h)))))))))))))
  · exact .inr (.inr (.inr (.inr (.inr (.inr (.inr (.inr (.inr (.inr (.inr (.inr (.inr (.inr (.inr h))))))))))))))
theorem memC {d c2 s q c1 x219 a b : Addr × Obj} {ts ob wl tl : List (Addr × Obj)} (ht : ∀ t ∈ ts, t ∈ ob) (ha : a ∈ tl) (hb : b ∈ tl) : ∀ p, p ∈ d :: (ts ++ (c2 :: (wl ++ (x219 :: a :: b :: tl)))) → p ∈ d :: (ob ++ (s :: q :: c1 :: c2 :: (wl ++ (x219 :: tl)))) := fun p hp => by
  simp only [List.mem_cons, List.mem_append] at hp ⊢
  rcases hp with h | h | h | h | h | h | h | h
  · exact .inl h
  · exact .inr (.inl (ht _ h))
  · exact .inr (.inr (.inr (.inr (.inr (.inl h)))))
  · exact .inr (.inr (.inr (.inr (.inr (.inr (.inl h))))))
  · exact .inr (.inr (.inr (.inr (.inr (.inr (.inr (.inl h)))))))
  · exact .inr (.inr (.inr (.inr (.inr (.inr (.inr (.inr (h ▸ ha))))))))
  · exact .inr (.inr (.inr (.inr (.inr (.inr (.inr (.inr (h ▸ hb))))))))
  · exact .inr (.inr (.inr (.inr (.inr (.inr (.inr (.inr h)))))))
theorem wl_WSt_9 : True := by
  k_with "exec Expr" => run_tac Mine.ln "WSt.9"
  k_with "own WSt.9" => (k_here; (fail_if_success (with_reducible show wpAny _ _ _ (fun _ s' => 0 < Shared.toks s' → _) _ _)); refine' pos_toks ?pxh ?_; (case pxh => first | assumption | (dsimp only; omega)))
  trivial
theorem wl_WSt_10 : True := by
  k_with "exec Assign" => run_tac Mine.ln "WSt.10"
  k_with "own WSt.10" => (k_here; (fail_if_success (with_reducible show wpAny _ _ _ (fun _ s' => 0 < Shared.toks s' → _) _ _)); refine' pos_toks ?pxh ?_; (case pxh => first | assumption | (dsimp only; omega)))
  trivial
theorem wl_WSt_11 : True := by
  k_with "callWith ref" => run_tac Mine.ln "WSt.11"
  k_with "own WSt.11" => (k_here; (with_reducible show wpAny _ _ (callWith _ (Value.ref (WA.bm _)) _ _ _) _ _ _); k_dflt (refine callWith_W ?_))
  trivial
theorem wl_WSt_12 : True := by
  k_with "And" => run_tac Mine.ln "WSt.12"
  k_with "own WSt.12" => ((with_reducible show _ = some (bmO _ _) ∧ _); k_dflt (refine ⟨(News.get (by k_asm) (by k_mem)), ?_⟩))
  trivial
theorem wl_WSt_13 : True := by
  k_with "call ref cons nil" => run_tac Mine.ln "WSt.13"
  k_with "own WSt.13" => (k_here; (with_reducible show wpAny _ _ (call (Value.ref (WA.bm _)) _) _ _ _); k_dflt (refine' bm_push ?bpF ?bpN ?bpb ?bpU ?bpz ?_; (case bpF => k_asm); (case bpN => k_asm); (case bpb => k_mem); (case bpU => (iterate 24 (first | done | (apply Upd.head; (repeat (first | assumption | refine List.forall_mem_cons.mpr ⟨by dsimp only; k_ne, ?_⟩))) | (apply Upd.tail; · k_ne)))); (case bpz => (rw [sizeLine_eq]; (try simp only [Array.size_push]); omega))); intro h' F' N')
  trivial
theorem wl_WSt_14 : True := by
  k_with "setAttr ref" => run_tac Mine.ln "WSt.14"
  k_with "own WSt.14" => (k_here; k_dflt (refine' set_dict ?sk1 ?sk2 ?sk3 ?sk4 ?sk5 ?sk6 ?sk7 ?sk8 ?sk9 ?sk10 ?sk11 ?sk12 ?sk13 ?_; (case sk1 => k_asm); (case sk2 => k_asm); (case sk3 => k_asm); (case sk4 => k_inst); (case sk5 => exact rfl); (case sk6 => k_is); (case sk7 => k_is); (case sk8 => k_is); (case sk9 => k_is); (case sk10 => k_get); (case sk11 => first | exact put_rs2 .. | exact put_rs2 ..); (case sk12 => (iterate 24 (first | done | (apply Upd.head; (repeat (first | assumption | refine List.forall_mem_cons.mpr ⟨by dsimp only; k_ne, ?_⟩))) | (apply Upd.tail; · k_ne)))); (case sk13 => exact Nat.le_of_ble_eq_true rfl); k_whole); intro h' F' N'; (try dsimp only [wD] at N'))
  trivial
theorem wl_WSt_15 : True := by
  k_with "call builtin:list.append" => run_tac Mine.ln "WSt.15"
  k_with "own WSt.15" => (k_here; (with_reducible show wpAny _ _ (call (Value.builtin _) [Value.ref _, _]) _ _ _); k_dflt (refine' append_K ?apF ?apN ?apU ?_ ?apz; (case apF => k_asm); (case apN => k_asm); (case apU => (iterate 24 (first | done | (apply Upd.head; (repeat (first | assumption | refine List.forall_mem_cons.mpr ⟨by dsimp only; k_ne, ?_⟩))) | (apply Upd.tail; · k_ne)))); (case apz => (rw [sizeLine_eq]; (try simp only [Array.size_push]); omega)); k_whole); intro h' F' N')
  trivial
theorem aD_is {prog : Program} {w : World} {as : List (Str × Tok × Value)} {n : Nat} (hnd : (as.map (·.1)).Nodup) : (dictOf (aD w as) n).IsDictOf (strKind prog w) (aK as) := by
  k_with "proof" =>
    refine ⟨(aD w as).toArray, n, ⟨rfl, rfl, rfl⟩, rfl, ?_, ?_, ?_⟩
    · intro e he
      have he' : e ∈ aD w as := by simpa using he
      obtain ⟨p, _, rfl⟩ := List.mem_map.mp he'
      exact ⟨p.1, strKind_is _ _ _ _, rfl⟩
    · simpa using aD_pairs (prog := prog) as
    · simpa [Function.comp_def] using hnd
  run_tac Mine.sq default
theorem truthyD {prog : Program} {w : World} {A : Around} {E : Value → Shared → Prop} {s : Shared} {h₀ : Heap} {L d : Addr} {news : List (Addr × Obj)} {o : Obj} {kvs : List (Str × Value)} {Q : Bool → Shared → Prop} (N : News h₀ L s.heap news) (hm : (d, o) ∈ news) (hd : o.IsDictOf (strKind prog w) kvs) (hlo : (d == sysModules) = false) (hl : kvs.length ≤ 1000) (h : ∀ k, Q (!kvs.isEmpty) { s with toks := k }) :
    wpAny (model prog w) A (truthy (.ref d)) Q E s :=
  wpAny_truthy_dict hlo (Heap.dictOf_iff.mpr ⟨o, (N _ hm).1, hd⟩) (by omega) (h _)
theorem truthyD1 {prog : Program} {w : World} {A : Around} {E : Value → Shared → Prop} {s : Shared} {h₀ : Heap} {L d : Addr} {news : List (Addr × Obj)} {o : Obj} {kv : Str × Value} {kvs : List (Str × Value)} {Q : Bool → Shared → Prop} (N : News h₀ L s.heap news) (hm : (d, o) ∈ news) (hd : o.IsDictOf (strKind prog w) (kv :: kvs)) (hlo : (d == sysModules) = false) (hl : (kv :: kvs).length ≤ 1000) (h : ∀ k, Q true { s with toks := k }) :
    wpAny (model prog w) A (truthy (.ref d)) Q E s := truthyD N hm hd hlo hl h
theorem truthyD0 {prog : Program} {w : World} {A : Around} {E : Value → Shared → Prop} {s : Shared} {h₀ : Heap} {L d : Addr} {news : List (Addr × Obj)} {o : Obj} {Q : Bool → Shared → Prop} (N : News h₀ L s.heap news) (hm : (d, o) ∈ news) (hd : o.IsDictOf (strKind prog w) ([] : List (Str × Value))) (hlo : (d == sysModules) = false) (hl : ([] : List (Str × Value)).length ≤ 1000) (h : ∀ k, Q false { s with toks := k }) :
    wpAny (model prog w) A (truthy (.ref d)) Q E s := truthyD N hm hd hlo hl h
theorem wl_WSt_16 : True := by
  k_with "truthy ref" => run_tac Mine.ln "WSt.16"
  k_with "own WSt.16" => (k_here; k_dflt (refine pos_toks (by first | assumption | (dsimp only; omega)) ?_; refine' truthyD1 ?tdN ?tdm ?tdd ?tdo ?tdl ?_; (case tdN => k_asm); (case tdm => k_mem); (case tdd => assumption); (case tdo => assumption); (case tdl => exact Nat.le_of_ble_eq_true rfl)); intro _ _)
  trivial
theorem wl_WSt_17 : True := by
  k_with "truthy ref" => run_tac Mine.ln "WSt.17"
  k_with "own WSt.17" => (k_here; k_dflt (refine pos_toks (by first | assumption | (dsimp only; omega)) ?_; refine' truthyD0 ?tdN ?tdm ?tdd ?tdo ?tdl ?_; (case tdN => k_asm); (case tdm => k_mem); (case tdd => assumption); (case tdo => assumption); (case tdl => exact Nat.le_of_ble_eq_true rfl)); intro _ _)
  trivial
theorem wl_WSt_18 : True := by
  k_with "subscriptTail" => run_tac Mine.ln "WSt.18"
  k_with "own WSt.18" => (k_here; (with_reducible show wpAny _ _ (subscriptTail _ _ (Value.ref (WA.lz _)) _) _ _ _); k_dflt (refine pos_toks (by first | assumption | (dsimp only; omega)) ?_; refine' lastL ?laN ?lam ?laz ?_; (case laN => k_asm); (case lam => k_mem); (case laz => assumption)); intro _ _)
  trivial
theorem wl_WSt_19 : True := by
  k_with "subscriptTail Name Name ref str" => run_tac Mine.ln "WSt.19"
  k_with "own WSt.19" => (k_here; k_dflt (refine' kda_item (knd := PySem.strKind _ _) ?iN ?im ?id (strKind_is _ _ _ _) ?il ?_; (case iN => k_asm); (case im => k_mem); (case id => assumption); (case il => assumption)))
  trivial
theorem wl_WSt_20 : True := by
  k_with "exec For Tuple Call cons nil" => run_tac Mine.ln "WSt.20"
  k_with "own WSt.20" => (k_here; k_dflt (refine' m_for' ?mft ?_; (case mft => first | assumption | (dsimp only; omega))))
  trivial
theorem wl_WSt_21 : True := by
  k_with "exec For Tuple Call" => run_tac Mine.ln "WSt.21"
  k_with "own WSt.21" => (k_here; k_dflt (refine' m_for' ?mft ?_; (case mft => first | assumption | (dsimp only; omega))))
  trivial
theorem wl_WSt_22 : True := by
  k_with "call builtin:list.sort" => run_tac Mine.ln "WSt.22"
  k_with "own WSt.22" => (k_here; refine held ?_)
  trivial
theorem wl_WSt_23 : True := by
  k_with "execs nil" => run_tac Mine.ln "WSt.23"
  k_with "own WSt.23" => (k_here; (with_reducible show wpAny _ _ _ _ _ (Shared.mk _ _ _ (Shared.toks _) _)); refine gen_tok (by first | assumption | (dsimp only; omega)) ?_; intro _ _)
  trivial
theorem wl_WSt_24 : True := by
  k_with "execs cons" => run_tac Mine.ln "WSt.24"
  k_with "own WSt.24" => (k_here; (with_reducible show wpAny _ _ _ _ _ (Shared.mk _ _ _ (Shared.toks _) _)); refine gen_tok (by first | assumption | (dsimp only; omega)) ?_; intro _ _)
  trivial
theorem wl_WSt_25 : True := by
  k_with "eval ListComp" => run_tac Mine.ln "WSt.25"
  k_with "own WSt.25" => (k_here; refine held ?_)
  trivial
theorem start0_c (w : World) (mean : ExcName → Option Value) (mg mb : Str → Option Value) (tl : List (Addr × Obj)) (W : WA) (T : WT) (rs rd : Bool) (n : Nat) (stk data wr nsl pres ps : Array Value) (k1 k2 k3 k4 k5 : Nat) (q : Str) (tq : Tok) (as : List (Str × Tok × Value)) (na nn : Nat) (ae ne : Addr) (hsh : Shape q as)
    (hW : WOrd W) (hO : WOff W ((219, tabObj ps) :: (ae, dictOf (aD w as) na) :: (ne, listOf #[] nn) :: tl)) (hS : StkOk W ((ae, dictOf (aD w as) na) :: (ne, listOf #[] nn) :: tl) stk) (hw : wr.size ≤ 300) (hns : nsl.size ≤ 100) (hps : 1 ≤ pres.size ∧ pres.size ≤ 100) (hlo : (ae == sysModules) = false)
    (h219 : ∀ p ∈ (ae, dictOf (aD w as) na) :: (ne, listOf #[] nn) :: tl, p.1 ≠ 219) (hLT : LamTab (Str.ofString "C14NWriterTarget._start.<locals>.<lambda>") 167 71 ps ((ae, dictOf (aD w as) na) :: (ne, listOf #[] nn) :: tl)) :
    CtR SameD w mean mg mb 222 4 60 (wL w W T rs rd n stk data wr nsl pres k1 k2 k3 k4 k5 ((219, tabObj ps) :: (ae, dictOf (aD w as) na) :: (ne, listOf #[] nn) :: tl)) [.ref W.x, .str q tq, .ref ae, .ref ne] (fun _ news' => StP w W T rd n stk data wr nsl pres k1 k2 k4 k5 as ps ((ae, dictOf (aD w as) na) :: (ne, listOf #[] nn) :: tl) news') := by
  k_with "proof" =>
    dsimp only [CtR, CtRet, PG, VW, LO, wL, wD]
    k_fill
    intros; rename_i hret
    with_reducible rename AllBare _ => hg0
    refine pos_toks (by assumption) (wpAny_call ?_)
    (k_dflt (refine' code_defC ?k1 ?k2 ?k3 ?k4 ?k5 ?kA ?kF ?kK ?k6 ?k7 ?k8 ?k9 ?kB ?kD ?_ ?c2 ?c3 ?c4; (case kA => exact rfl); (case kF => exact rfl); (case kK => assumption); (case k1 => k_asm); (case k2 => k_asm); (case k3 => k_asm); (case k4 => k_asm); (case k5 => k_asm); (case k6 => k_is); (case k7 => k_is); (case k8 => ktr_room); (case k9 => exact binds_K (by k_in) rfl (by k_is) rfl rfl rfl); (case kB => exact rfl); (case kD => decide +kernel); (case c2 => exact rfl); (case c3 => exact rfl); (case c4 => exact rfl); k_whole; intro g' L' h' tk' cells' FG' F' N' Y' B' X' T' l1; have lL := l1; (try k_lt l1); k_cells Y'; (try simp only [List.cons_append, List.nil_append] at N'); (try dsimp only); (try k_lift B'); (try k_fold)))
    k_steps
    (k_dflt (refine' storeX_C ?uF ?uN ?uc ?uU ?ud ?_ ?ua ?ub; (case uF => k_asm); (case uN => k_asm); (case uc => exact rfl); (case ua => exact rfl); (case ub => exact rfl); (case uU => exact UpdF.tail (by k_ne) (UpdF.tail (by k_ne) (UpdF.tail (by k_ne) (UpdF.head (by (intro p hp; (rcases List.mem_cons.mp hp with rfl | hp); all_goals (first | k_ne | exact Nat.ne_of_lt (Nat.lt_succ_of_lt (Nat.lt_succ_of_lt (lL p hp)))))))))); (case ud => k_asm); k_whole; intro h' o' F' N' d'; (try dsimp only at N')))
    k_steps
    refine Held.go ?_
    k_dflt (refine Assign_Dict (F₀ := by k_asm) (by rfl) (by with_unfolding_all rfl) (by with_unfolding_all rfl) (by decide) (by rfl) (by decide +kernel) (by decide) (by rfl) (by rfl) (by rfl) ?_)
    k_steps
    refine Held.go ?_
    have hcd : CodeHd g' 221 219 := codeHd_of_K (by k_asm) (by kernel_rfl)
    refine pos_toks (by first | assumption | (dsimp only; omega)) ?_
    k_dflt (refine' kla_eval rfl ?_)
    (k_dflt (refine' lam15 ?lF ?lN ?lT ?lC ?lc ?lp ?lt ?lL ?ll ?_; (case lF => k_asm); (case lN => k_asm); (case lT => k_asm); (case lC => assumption); (case lc => exact rfl); (case lt => assumption); (case lL => assumption); (case ll => exact rfl); k_whole))
    case lp =>
      have h9 := hO _ (List.mem_cons_self ..)
      have h8 : @LT.lt Nat _ 219 L' := lL (219, tabObj ps) (by simp)
      dsimp only at h9
      (repeat (refine List.forall_mem_cons.mpr ⟨by dsimp only; k_ne, ?_⟩))
      exact fun p hp => nomatch hp
    intro f c' oc vs t ctv h' tk' ps' tl' F' N' hcm hcv hct hLT' hsub hnew hlf hgr
    intro htk1
    dsimp only at htk1
    have lf := hlf
    k_steps
    refine Held.go ?_
    refine pos_toks (by first | assumption | (dsimp only; omega)) ?_
    k_dflt (show wpAny _ _ (call (Value.builtin "sorted") [Value.ref _] [(Str.ofString "key", Value.ref f)]) _ _ _)
    (k_dflt (refine' sset_sortedK ?zA ?zu ?zF ?zN ?zD ?zs ?zn ?zk ?_; (case zA => exact rfl); (case zF => k_asm); (case zN => k_asm); (case zD => k_mem); (case zs => assumption); (case zn => exact Shape.sz hsh); k_whole))
    case zu => exact uS (by assumption) (by decide)
    case zk =>
      intro x t1 nw s1 Q1 hx1 hin1 F1 N1 hQ1
      k_dflt (refine wpAny_call ?_)
      k_dflt (refine' kla_code ?k1 ?k2 ?k3 ?k4 ?k5 ?kA ?kF ?kK ?k6 ?k7 ?k8 ?k9 ?kB ?_ ?c2 ?c3 ?c4 ?c5; (case kA => exact rfl); (case kF => exact rfl); (case kK => exact rfl); (case k1 => k_asm); (case k2 => exact F1); (case k3 => k_asm); (case k4 => exact N1); (case k5 => k_asm); (case k6 => exact hin1 _ (by k_mem)); (case k7 => exact codeRec_news N1 (hin1 _ (by (iterate 17 apply List.mem_cons_of_mem); exact hcm)) hcv hct); (case k9 => exact rfl); (case c5 => decide); (case kB => exact locs rfl); (case c2 => exact rfl); (case c3 => exact rfl); (case c4 => exact rfl); k_whole)
      case k8 => exact dS (by assumption)
      intro g2 L2 h2 FG2 F2 N2 B2 X2 T2
      k_steps
      k_dflt (refine split_c (Shape.mem hsh _ hx1) F2 N2 fun R t' hR tkR FR NR lR => leaveK_ FR NR fun F3 N3 => ?_)
      exact hQ1 R t' 0 _ _ F3 N3 lR
    intro S nS vs hB tkB drB hvs FB NB hlS
    intro htkB
    dsimp only at htkB
    have NB' : News g' L' hB _ := fun p hp => NB p (subNB p hp)
    have hOt : WOff W ((219, tabObj ps') :: tl') := by
      refine woff_cons (fun p hp => by rw [List.mem_singleton.mp hp]; exact hO (219, tabObj ps) (.head _)) fun p hp => ?_
      rcases hnew p hp with h | h
      · exact hO p (.tail _ h)
      · exact off1 (T := T) (rs := rs) (rd := rd) (n := n) (stk := stk) (data := data) (wr := wr) (nsl := nsl) (pres := pres) (k1 := k1) (k2 := k2) (k3 := k3) (k4 := k4) (k5 := k5) (tl := []) (b := p.1) (w := w) (fun z hz => h z (subW hz)) (Nat.le_refl _) p.2 p (List.mem_singleton.mpr rfl)
    have hSt : StkOk W ((219, tabObj ps') :: tl') stk := stk_mono hS fun p hp => .tail _ (hsub p hp)
    refine ⟨S, vs, nS, _, rfl, rfl, FB, NB', List.mem_cons_self .., ?dl, hvs.2, ?dn, hg0, htkB, ?dt, ?df⟩
    case dl => rw [texts_len hvs]; rcases Shape.sz hsh with e | e <;> omega
    case dn => exact hvs.1.nodup_iff.mpr (((List.reverse_perm _).append_right _).nodup_iff.mpr (Shape.nd hsh))
    case dt =>
      k_dflt (refine dturn hW hOt hSt (by k_asm) (by k_asm) (by k_asm) rfl ?da ?db ?dY rfl d' (fun _ => rfl) (fun _ => rfl) (fun _ => rfl) ?dd ?dv)
      case da => exact wlt4b (by assumption)
      case db => exact uS2 (by assumption)
      case dd => with_unfolding_all rfl
      case dv => exact fun y t hy => Shape.mem hsh y (by obtain ⟨x, t', e, hx⟩ := texts_each hvs _ hy; cases e; exact hx)
      case dY =>
        refine woff_cons (off1 lL ?ea _) (woff_cons (off1 lL ?eb _) (woff_cons (off1 lL ?ec _) (off1 lL ?ed _)))
        case ea => exact Nat.le_of_lt (Nat.lt_trans (Nat.lt_succ_self _) (hlS (L' + 1, _) (by k_mem)))
        case eb => show @LE.le Nat _ _ _; omega
        case ec => exact Nat.le_of_lt (Nat.lt_succ_of_lt (Nat.lt_succ_self _))
        case ed => exact Nat.le_of_lt (Nat.lt_succ_self _)
    case df =>
      intro D oD kvs ob s9 hdO hkeys htup F9 N9 hall ho9 hg9 ht9
      have hDL : @LT.lt Nat _ (L' + 1) D := hall (D, oD) (.head _) (L' + 1, _) (by k_mem)
      have hobL : ∀ p ∈ ob, @LT.lt Nat _ (L' + 1) p.1 := fun p hp => hall p (.tail _ hp) (L' + 1, _) (by k_mem)
      have n219 : ∀ p ∈ tl', p.1 ≠ 219 := fun p hp => by
        rcases hnew p hp with h | h
        · exact h219 p h
        · exact Nat.ne_of_gt (h (219, tabObj ps) (by k_mem))
      have hae := hsub _ (.head _)
      have hne := hsub _ (.tail _ (.head _))
      cases hsh with
      | root =>
        obtain ⟨T1, a1, a2, a3, hv1, hm1⟩ := kv_at hkeys hvs htup (x := Str.ofString "r") (by simp)
        have hT1 := hobL _ hm1
        have NC : News g' L' s9.heap _ := fun p hp => N9 p (memC (ts := [(T1, tupO #[.str (Str.ofString "r") a1, .str (Str.ofString "r") a2, .str (Str.ofString "") a3] 0)]) (fun t ht => by rw [List.mem_singleton.mp ht]; exact hm1) (wl := wL w W T rs rd n stk data wr nsl pres k1 k2 k3 k4 k5 []) hae hne p hp)
        dsimp only [List.cons_append, List.nil_append, wL, wD, aD, List.map] at NC
        dsimp only at hT1
        obtain ⟨h9, gn9, d9, t9, o9⟩ := s9
        dsimp only at F9 NC ho9 hg9 ht9
        clear N9 N' NB NB' FB F'
        have hdA : (dictOf (aD w []) na).IsDictOf (PySem.strKind PG w) (aK []) := aD_is (by simp)
        have hO4 : WOff W ((219, tabObj ps') :: (ae, dictOf (aD w []) na) :: (ne, listOf #[] nn) :: tl') := fun p hp => hOt p (mem4 hae hne p hp)
        dsimp only [aD, aK, List.map] at hdA hO4
        generalize hoA : dictOf [] na = oA at NC hdA hO4
        have o_lw := fun p hp => (hO4 p hp).2.2.2.2.2.2.1
        have o_ls := fun p hp => (hO4 p hp).2.2.2.2.2.2.2.1
        have o_lz := fun p hp => (hO4 p hp).2.2.2.2.2.2.2.2.1
        have o_dx := fun p hp => (hO4 p hp).2.1
        k_dflt (show wpAny _ _ (execs _ _) _ _ _)
        k_steps
        with_reducible rename News _ _ _ _ => NE
        with_reducible rename Fr _ _ _ _ => FE
        obtain ⟨nw, N9, P9⟩ := stEnd2 (as := []) NE hLT' hOt n219 hsub (by decide +kernel) hgr
        exact hret _ nw _ FE N9 ⟨ho9, hg9⟩ (by first | assumption | (dsimp only; omega)) P9
      | @elt ta tk tv tw va vk z1 z2 =>
        obtain ⟨T1, a1, a2, a3, hv1, hm1⟩ := kv_at hkeys hvs htup (x := Str.ofString "E") (by simp)
        obtain ⟨T2, b1, b2, b3, hv2, hm2⟩ := kv_at hkeys hvs htup (x := Str.ofString "a") (by simp)
        obtain ⟨T3, c1, c2, c3, hv3, hm3⟩ := kv_at hkeys hvs htup (x := Str.ofString "K") (by simp)
        have hT1 := hobL _ hm1
        have hT2 := hobL _ hm2
        have hT3 := hobL _ hm3
        have NC : News g' L' s9.heap _ := fun p hp => N9 p (memC (ts := [(T1, tupO #[.str (Str.ofString "E") a1, .str (Str.ofString "E") a2, .str (Str.ofString "") a3] 0), (T2, tupO #[.str (Str.ofString "a") b1, .str (Str.ofString "a") b2, .str (Str.ofString "") b3] 0), (T3, tupO #[.str (Str.ofString "K") c1, .str (Str.ofString "K") c2, .str (Str.ofString "") c3] 0)]) (mem3 hm1 hm2 hm3) (wl := wL w W T rs rd n stk data wr nsl pres k1 k2 k3 k4 k5 []) hae hne p hp)
        dsimp only [List.cons_append, List.nil_append, wL, wD, aD, List.map] at NC
        dsimp only at hT1 hT2 hT3
        obtain ⟨h9, gn9, d9, t9, o9⟩ := s9
        dsimp only at F9 NC ho9 hg9 ht9
        clear N9 N' NB NB' FB F'
        have hdA : (dictOf (aD w [(Str.ofString "a", ta, .str va tv), (Str.ofString "K", tk, .str vk tw)]) na).IsDictOf (PySem.strKind PG w) (aK [(Str.ofString "a", ta, .str va tv), (Str.ofString "K", tk, .str vk tw)]) := aD_is (by show [Str.ofString "a", Str.ofString "K"].Nodup; decide +kernel)
        have hO4 : WOff W ((219, tabObj ps') :: (ae, dictOf (aD w [(Str.ofString "a", ta, .str va tv), (Str.ofString "K", tk, .str vk tw)]) na) :: (ne, listOf #[] nn) :: tl') := fun p hp => hOt p (mem4 hae hne p hp)
        dsimp only [aD, aK, List.map] at hdA hO4
        generalize hoA : dictOf [_, _] na = oA at NC hdA hO4
        have o_lw := fun p hp => (hO4 p hp).2.2.2.2.2.2.1
        have o_ls := fun p hp => (hO4 p hp).2.2.2.2.2.2.2.1
        have o_lz := fun p hp => (hO4 p hp).2.2.2.2.2.2.2.2.1
        have o_dx := fun p hp => (hO4 p hp).2.1
        k_dflt (show wpAny _ _ (execs _ _) _ _ _)
        k_steps
        refine pos_toks (by first | assumption | (dsimp only; omega)) ?_
        k_dflt (refine kdx_sortedN (knd := PySem.strKind _ _) (enc := PyData.str) (ps := [(fun t => Value.str (Str.ofString "a") t, .str va tv), (fun t => Value.str (Str.ofString "K") t, .str vk tw)]) (by rfl) (by k_asm) (by k_asm) (by k_mem) (by k_mem) hdA (by exact Nat.le_of_ble_eq_true rfl) (fun _ _ h => Value.isStrOf_shape h) (by rfl) ?_)
        intro lo' l0'
        (try k_lt l0')
        k_steps
        refine Held.go ?_
        (k_dflt (refine' kat_lsort ?sF ?sN ?sU ?se ?sz ?sy ?_; (case sF => k_asm); (case sN => k_asm); (case sU => exact UpdF.head (fun p hp => Nat.ne_of_lt (allLt_all (by assumption) p hp))); (case se => kso_lit); (case sz => exact Nat.le_of_ble_eq_true rfl); (case sy => exact Nat.le_of_ble_eq_true rfl); k_whole))
        intro e' hS FS NS
        (try dsimp only at NS)
        kat_kinds
        k_steps
        with_reducible rename News _ _ _ _ => NF
        with_reducible rename Fr _ _ _ _ => FF
        have NG := pull5 NF
        (k_dflt (refine' MFor.attrs (G := fun s => s.os = o9 ∧ AllBare s.gens) (x0 := Str.ofString "K") (y0 := vk) (x1 := Str.ofString "a") (y1 := va) (fun _ _ _ x => x) ysA rfl FF NG ?ag ?atk ?ax ?t0 ?t1 ?fi))
        case ag => exact ⟨rfl, hg9⟩
        case atk => first | assumption | (dsimp only; omega)
        case ax => k_mem
        case t0 =>
          intro I oI m1 k s1 hI hm F1 N1 hg1 ht1
          have hI' := allLt_of hI
          dsimp only [AllLt] at hI'
          have F2 := Fr.ovr F1 [(Str.ofString "k", m1 (Str.ofString "k")), (Str.ofString "v", m1 (Str.ofString "v")), (Str.ofString "attr_qname", m1 (Str.ofString "attr_qname")), (Str.ofString "attr_name", m1 (Str.ofString "attr_name")), (Str.ofString "uri", m1 (Str.ofString "uri"))] (by simp) (by intro y hy; exact hm y (by simpa using hy))
          dsimp only [ovr] at F2
          clear F1 FF NF
          obtain ⟨hp1, gp1, dp1, tp1, op1⟩ := s1
          dsimp only at hg1 ht1 F2 N1
          k_steps
          with_reducible rename News _ _ _ _ => NT
          with_reducible rename Fr _ _ _ _ => FT
          k_dflt (refine turnEnd0 FT NT (by assumption) hI ?_ hg1 (by first | assumption | (dsimp only; omega)))
          intro z hz
          simp only [List.mem_cons, List.not_mem_nil, or_false, not_or] at hz
          obtain ⟨e1, e2, e3, e4, e5⟩ := hz
          simp only [if_neg e1, if_neg e2, if_neg e3, if_neg e4, if_neg e5]
        case t1 =>
          intro I oI m1 k S tS uS s1 hI hS hSI hm F1 N1 hg1 ht1
          have hI' := allLt_of hI
          have hS' := allLt_of hS
          have hSI' : @Ne Nat S I := hSI
          dsimp only [AllLt] at hI' hS'
          have F2 := Fr.ovr F1 [(Str.ofString "k", m1 (Str.ofString "k")), (Str.ofString "v", m1 (Str.ofString "v")), (Str.ofString "attr_qname", m1 (Str.ofString "attr_qname")), (Str.ofString "attr_name", m1 (Str.ofString "attr_name")), (Str.ofString "uri", m1 (Str.ofString "uri"))] (by simp) (by intro y hy; exact hm y (by simpa using hy))
          dsimp only [ovr] at F2
          clear F1 FF NF
          obtain ⟨hp1, gp1, dp1, tp1, op1⟩ := s1
          dsimp only at hg1 ht1 F2 N1
          k_steps
          with_reducible rename News _ _ _ _ => NT
          with_reducible rename Fr _ _ _ _ => FT
          k_dflt (refine turnEnd1 FT NT ?tl hI hS hSI ?tm hg1 (by first | assumption | (dsimp only; omega)))
          case tm =>
            intro z hz
            simp only [List.mem_cons, List.not_mem_nil, or_false, not_or] at hz
            obtain ⟨e1, e2, e3, e4, e5⟩ := hz
            simp only [if_neg e1, if_neg e2, if_neg e3, if_neg e4, if_neg e5]
          case tl => exact tl_of (o := listOf #[.ref S] k) (oS := tupO #[.str (Str.ofString "K") tS, .str vk uS] 0) (by assumption)
        case fi =>
          rintro m' n' s' ⟨k, S, t6, u6, S', t7, u7, rfl, hS, hS', hm⟩ F1 N1 hg1 ht1
          have F2 := Fr.ovr F1 (tVals (Str.ofString "E") tq ae _ D) (by
            intro p hp
            simp only [tVals, List.mem_cons, List.not_mem_nil, or_false] at hp
            rcases hp with rfl | rfl | rfl | rfl | rfl
            · exact (hm (Str.ofString "attrs") (by decide +kernel)).trans rfl
            · exact (hm (Str.ofString "attr_list") (by decide +kernel)).trans rfl
            · exact (hm (Str.ofString "parsed_qnames") (by decide +kernel)).trans rfl
            · exact (hm (Str.ofString "tag") (by decide +kernel)).trans rfl
            · exact (hm (Str.ofString "qname_text") (by decide +kernel)).trans rfl) (fun _ _ => rfl)
          have N2 : News g' L' s'.heap _ := fun p hp => N1 p (memT (wl := wL w W T rs rd n stk data wr nsl pres k1 k2 k3 k4 k5 []) p hp)
          clear F1 N1 FF NF NG
          k_dflt (show wpAny _ _ (execs _ _) _ _ _)
          k_dflt (refine wpAny_pure ?_)
          k_dflt (show wpAny _ _ (execs _ _) _ _ _)
          k_dflt (refine st_tail w mean mg mb tl' W T rs rd n stk data wr nsl pres ps' k1 k2 k3 k4 k5 _ tq va vk tv tw ae _ D S S' T1 oA oD _ kvs a1 a2 a3 _ _ _ _ hW (fun p hp => hO4 p (memO p hp)) hdA hlo hdO hv1 hw hns hps z1 z2 _ _ _ _ _ _ _ _ _ _ _ _ ?c9 ?q1 hDL hT1 ?q4 ?q5 ?q6 (by k_asm) F2 (by k_asm) N2 (by k_asm) ?qd ?qu ht1 hg1.2 ?qQ)
          case c9 => assumption
          case q1 => exact lL (W.lz, _) (by k_mem)
          case q4 => show @LT.lt Nat _ _ _; omega
          case q5 => exact hS _ (.head _)
          case q6 => exact hS' _ (.head _)
          case qd => exact wlt4b (by assumption)
          case qu => exact uS4 (by assumption)
          case qQ =>
            intro m7 h7 tk7 ls7 v7 X1 X2 X3 t1 t2 t3 F7 N7 ht7 hx7
            k_dflt (refine leaveK_ F7 N7 fun F8 N8 => ?_)
            intro _
            obtain ⟨nw, N9, P9⟩ := stEnd3 (as := [(Str.ofString "a", ta, .str va tv), (Str.ofString "K", tk, .str vk tw)]) N8 hLT' hOt n219 hsub hx7 hgr
            exact hret _ nw _ F8 N9 ⟨hg1.1.trans ho9, hg1.2⟩ ht7 P9
  run_tac Mine.sq default
end Mine
end
theorem Mine.wl_WSt_end : True := by
  k_with_none
  trivial
section -- WEndT
open PySem PySem.W PySem.Calls PyProof.Rows
namespace Mine
theorem wl_WEndT_0 : True := by
  k_with_none
  trivial
theorem wl_WEndT_1 : True := by
  k_with "execs cons" => run_tac Mine.ln "WEndT.1"
  k_with "own WEndT.1" => (k_here; (with_reducible show wpAny _ _ _ _ _ (Shared.mk _ _ _ (_ + _) _)); refine gen_tok (by omega) ?_; intro _ _)
  trivial
theorem wl_WEndT_2 : True := by
  k_with "execs nil" => run_tac Mine.ln "WEndT.2"
  k_with "own WEndT.2" => (k_here; (with_reducible show wpAny _ _ _ _ _ (Shared.mk _ _ _ (_ + _) _)); refine gen_tok (by omega) ?_; intro _ _)
  trivial
theorem wl_WEndT_3 : True := by
  k_with "exec Expr" => run_tac Mine.ln "WEndT.3"
  k_with "own WEndT.3" => (k_here; (fail_if_success (with_reducible show wpAny _ _ _ (fun _ s' => 0 < Shared.toks s' → _) _ _)); refine' pos_toks ?pxh ?_; (case pxh => first | assumption | (dsimp only; omega)))
  trivial
theorem wl_WEndT_4 : True := by
  k_with "exec Assign" => run_tac Mine.ln "WEndT.4"
  k_with "own WEndT.4" => (k_here; (fail_if_success (with_reducible show wpAny _ _ _ (fun _ s' => 0 < Shared.toks s' → _) _ _)); refine' pos_toks ?pxh ?_; (case pxh => first | assumption | (dsimp only; omega)))
  trivial
theorem wl_WEndT_5 : True := by
  k_with "callWith ref" => run_tac Mine.ln "WEndT.5"
  k_with "own WEndT.5" => (k_here; (with_reducible show wpAny _ _ (callWith _ (Value.ref (WA.bm _)) _ _ _) _ _ _); k_dflt (refine callWith_W ?_))
  trivial
theorem wl_WEndT_6 : True := by
  k_with "And" => run_tac Mine.ln "WEndT.6"
  k_with "own WEndT.6" => ((with_reducible show _ = some (bmO _ _) ∧ _); k_dflt (refine ⟨(News.get (by k_asm) (by k_mem)), ?_⟩))
  trivial
theorem wl_WEndT_7 : True := by
  k_with "call ref cons nil" => run_tac Mine.ln "WEndT.7"
  k_with "own WEndT.7" => (k_here; (with_reducible show wpAny _ _ (call (Value.ref (WA.bm _)) _) _ _ _); k_dflt (refine' bm_push ?bpF ?bpN ?bpb ?bpU ?bpz ?_; (case bpF => k_asm); (case bpN => k_asm); (case bpb => k_mem); (case bpU => (iterate 12 (first | done | (apply Upd.head; (repeat (refine List.forall_mem_cons.mpr ⟨by dsimp only; k_ne, ?_⟩)); assumption) | (apply Upd.tail; · k_ne)))); (case bpz => assumption)); intro h' F' N')
  trivial
theorem wl_WEndT_8 : True := by
  k_with "call ref" => run_tac Mine.ln "WEndT.8"
  k_with "own WEndT.8" => (k_here; (with_reducible show wpAny _ _ (call (Value.ref 202) _) _ _ _); refine held ?_)
  trivial
theorem wl_WEndT_9 : True := by
  k_with "call ref" => run_tac Mine.ln "WEndT.9"
  k_with "own WEndT.9" => (k_here; (with_reducible show wpAny _ _ (call (Value.ref 186) _) _ _ _); refine held ?_)
  trivial
noncomputable abbrev QSet (q : Str) : Prop := q = Str.ofString "r" ∨ q = Str.ofString "E" ∨ q = Str.ofString "a" ∨ q = Str.ofString "K"
theorem fitq {q : Str} (hq : QSet q) : (Str.empty ++ Str.ofString "</" ++ q).length ≤ sizeLine := by
  rw [sizeLine_eq]
  rcases hq with e | e | e | e <;> (rw [e]; decide)
theorem fitq2 {q : Str} (hq : QSet q) : (Str.empty ++ Str.ofString "</" ++ q ++ Str.ofString ">").length ≤ sizeLine := by
  rw [sizeLine_eq]
  rcases hq with e | e | e | e <;> (rw [e]; decide)
theorem last_of : ∀ (l : List Value), l ≠ [] → ∃ y, kl_last l = some (l.dropLast, y)
  | [], h => absurd rfl h
  | [a], _ => ⟨a, rfl⟩
  | a :: b :: r, _ => by
    obtain ⟨y, e⟩ := last_of (b :: r) (by simp)
    exact ⟨y, by show (match kl_last (b :: r) with | some (p, y) => some (a :: p, y) | none => some ([], a)) = _; rw [e]; rfl⟩
section
variable {prog : Program} {w : World} {A : Around} {E : Value → Shared → Prop} {s : Shared} {h₀ : Heap} {L D : Addr} {m : Str → Option Value} {news news' : List (Addr × Obj)} {its : Array Value} {n : Nat}
theorem popS {Q : Value → Shared → Prop} (F : Fr h₀ L s.heap m) (N : News h₀ L s.heap news) (U : Upd D (listOf its n) (listOf its.pop (n + 1)) news news') (hz : its.size ≠ 0) (hs : its.size ≤ 1000)
    (h : ∀ y h', Fr h₀ L h' m → News h₀ L h' news' → Q y { s with heap := h' }) : wpAny (model prog w) A (call (.builtin "list.pop") [.ref D]) Q E s := by
  k_with "proof" =>
    obtain ⟨y, e⟩ := last_of its.toList (by intro q; apply hz; rw [← Array.length_toList, q]; rfl)
    have e2 : its.toList.dropLast.toArray = its.pop := by apply Array.toList_inj.mp; simp
    exact kl_pop F N e (by rw [e2]; exact U) (by rw [sizeLine_eq, Array.length_toList]; omega) fun h' F' N' => h y h' F' N'
  run_tac Mine.sq default
end
theorem joinNil {M : Model} {A : Around} {E : Value → Shared → Prop} {s : Shared} {X : Str} {env : Env} {Q : Value → Shared → Prop} (hz : X.length ≤ sizeLine) (h : ∀ t k, Q (.str X t) { s with toks := k }) : wpAny M A (joinParts X (evalEach [] env)) Q E s := by
  have e : evalEach [] env = [] := by first | rfl | simp [evalEach]
  rw [e]
  exact wpAny_mkStr (h _ _) hz
theorem wl_WEndT_10 : True := by
  k_with "joinParts" => run_tac Mine.ln "WEndT.10"
  k_with "own WEndT.10" => (k_here; (with_reducible show wpAny _ _ (joinParts _ (evalEach [] _)) _ _ _); k_dflt (refine pos_toks (by first | assumption | (dsimp only; omega)) ?_; refine joinNil (fitq2 ‹_›) ?_); intro _ _ _)
  trivial
theorem flushR_size {ys : List Str} {wr wr' : Array Value} (h : FlushR ys wr wr') (hw : wr.size ≤ 400) : wr'.size ≤ sizeLine := by
  k_with "proof" =>
    rw [sizeLine_eq]
    rcases h with ⟨_, e⟩ | ⟨_, y, t, e, _⟩
    · rw [e]; omega
    · rw [e, Array.size_push]; omega
  run_tac Mine.sq default
theorem wl_WEndT_11 : True := by
  k_with "formatField str" => run_tac Mine.ln "WEndT.11"
  k_with "own WEndT.11" => (k_here; (with_reducible show wpAny _ _ (formatField (Value.str _ _) _) _ _ _); k_dflt (refine pos_toks (by first | assumption | (dsimp only; omega)) ?_; refine SB.field_str (hsz := ?fsz) ?_; (case fsz => exact q_size ‹_›)); intro _ _)
  trivial
theorem wl_WEndT_12 : True := by
  k_with "And" => run_tac Mine.ln "WEndT.12"
  k_with "own WEndT.12" => ((with_reducible show (_ ≤ sizeLine) ∧ _); k_dflt (first | refine ⟨fitq ‹_›, ?_⟩ | refine ⟨fitq2 ‹_›, ?_⟩))
  trivial
theorem wl_WEndT_13 : True := by
  k_with "call builtin:list.pop" => run_tac Mine.ln "WEndT.13"
  k_with "own WEndT.13" => (k_here; (with_reducible show wpAny _ _ (call (Value.builtin _) [Value.ref _]) _ _ _); k_dflt (refine pos_toks (by first | assumption | (dsimp only; omega)) ?_; refine' popS ?poF ?poN ?poU ?poz ?pos ?_; (case poF => k_asm); (case poN => k_asm); (case poU => (iterate 12 (first | done | (apply Upd.head; (repeat (refine List.forall_mem_cons.mpr ⟨by dsimp only; k_ne, ?_⟩)); assumption) | (apply Upd.tail; · k_ne)))); (case poz => omega); (case pos => omega)); intro y' h' F' N' _)
  trivial
theorem put_rd {w : World} {W : WA} {T : WT} {rs rd b : Bool} {h : Int} {k : Value} {n : Nat} : (putL (Str.ofString "_root_done") h k (.bool b) (wD w W T rs rd), putN (Str.ofString "_root_done") (wD w W T rs rd) n) = (wD w W T rs b, n) := by with_unfolding_all rfl
theorem put_rs {w : World} {W : WA} {T : WT} {rs rd b : Bool} {h : Int} {k : Value} {n : Nat} : (putL (Str.ofString "_root_seen") h k (.bool b) (wD w W T rs rd), putN (Str.ofString "_root_seen") (wD w W T rs rd) n) = (wD w W T b rd, n) := by with_unfolding_all rfl
theorem lenL {prog : Program} {w : World} {A : Around} {E : Value → Shared → Prop} {s : Shared} {h₀ : Heap} {L l : Addr} {news : List (Addr × Obj)} {its : Array Value} {n : Nat} {Q : Value → Shared → Prop} (N : News h₀ L s.heap news) (hm : (l, listOf its n) ∈ news) (hl : its.size ≤ 1000) (h : ∀ t k, Q (.int its.size t) { s with toks := k }) :
    wpAny (model prog w) A (call (.builtin "len") [.ref l]) Q E s := call_len_list (items := its) ⟨_, (N _ hm).1, rfl, _, rfl⟩ (by omega) (h _ _)
theorem wl_WEndT_14 : True := by
  k_with "call builtin:len" => run_tac Mine.ln "WEndT.14"
  k_with "own WEndT.14" => (k_here; (with_reducible show wpAny _ _ (call (Value.builtin "len") [Value.ref _]) _ _ _); k_dflt (refine pos_toks (by first | assumption | (dsimp only; omega)) ?_; refine' lenL ?llN ?llm ?lll ?_; (case llN => k_asm); (case llm => k_mem); (case lll => (rw [Array.size_pop]; omega))); intro _ _ _)
  trivial
theorem wl_WEndT_15 : True := by
  k_with "setAttr ref" => run_tac Mine.ln "WEndT.15"
  k_with "own WEndT.15" => (k_here; k_dflt (refine' set_dict ?sk1 ?sk2 ?sk3 ?sk4 ?sk5 ?sk6 ?sk7 ?sk8 ?sk9 ?sk10 ?sk11 ?sk12 ?sk13 ?_; (case sk1 => k_asm); (case sk2 => k_asm); (case sk3 => k_asm); (case sk4 => k_inst); (case sk5 => exact rfl); (case sk6 => k_is); (case sk7 => k_is); (case sk8 => k_is); (case sk9 => k_is); (case sk10 => k_get); (case sk11 => first | exact put_rd .. | exact put_rs ..); (case sk12 => (iterate 12 (first | done | (apply Upd.head; (repeat (refine List.forall_mem_cons.mpr ⟨by dsimp only; k_ne, ?_⟩)); assumption) | (apply Upd.tail; · k_ne)))); (case sk13 => exact Nat.le_of_ble_eq_true rfl); k_whole); intro h' F' N'; (try dsimp only [wD] at N'))
  trivial
noncomputable abbrev EndP (w : World) (W : WA) (T : WT) (n : Nat) (stk wr nsl pres : Array Value) (tl : List (Addr × Obj)) (ys : List Str) (q : Str) (news' : List (Addr × Obj)) : Prop :=
  ∃ wr1 y t rd' k1' k2' k3' k4' k5', FlushR ys wr wr1 ∧ codes y = [60, 47] ++ codes q ++ [62] ∧ news' = wL w W T true rd' n stk.pop #[] (wr1.push (.str y t)) nsl.pop pres.pop k1' k2' k3' k4' k5' tl
theorem endEnd {w : World} {W : WA} {T : WT} {n : Nat} {stk wr nsl pres wr1 : Array Value} {tl : List (Addr × Obj)} {ys : List Str} {q : Str} {h₀ hh : Heap} {L : Addr} {x1 : Addr × Obj} {rd' : Bool} {t : Tok} {k1' k2' k3' k4' k5' : Nat}
    (N : News h₀ L hh (x1 :: wL w W T true rd' n stk.pop #[] (wr1.push (.str (Str.empty ++ Str.ofString "</" ++ q ++ Str.ofString ">") t)) nsl.pop pres.pop k1' k2' k3' k4' k5' tl)) (hf : FlushR ys wr wr1) : ∃ news', News h₀ L hh news' ∧ EndP w W T n stk wr nsl pres tl ys q news' :=
  ⟨_, fun p hp => N p (List.mem_cons_of_mem _ hp), wr1, _, t, rd', k1', k2', k3', k4', k5', hf, by
    rw [codes_app, codes_app, codes_app]
    have e1 : codes Str.empty = [] := rfl
    have e2 : codes (Str.ofString "</") = [60, 47] := by decide +kernel
    have e3 : codes (Str.ofString ">") = [62] := by decide +kernel
    rw [e1, e2, e3]; rfl, rfl⟩
theorem wlt4 {a b : Nat} (h : a + 4 < b) : a + 1 + 2 < b := by omega
theorem wunits6 {dp un : Nat} {gd : Option (List Code)} {cn : Str} {cs : Scope} {L a : Addr} {ccd : Value} {cl : List (Str × Addr)} {outer : List Env} {x y : Nat} (hu : un + 60 < cLine) (h : x + y ≤ 60) : (ktrTop dp un gd cn cs L a ccd cl outer).units + x + y < cLine := by
  k_with "proof" =>
    show un + x + y < cLine
    omega
  run_tac Mine.sq default
theorem truthyL {prog : Program} {w : World} {A : Around} {E : Value → Shared → Prop} {s : Shared} {h₀ : Heap} {L l : Addr} {news : List (Addr × Obj)} {its : Array Value} {n : Nat} {Q : Bool → Shared → Prop} (N : News h₀ L s.heap news) (hm : (l, listOf its n) ∈ news) (hl : its.size ≤ 1000) (h1 : ∀ k, its = #[] → Q false { s with toks := k }) (h2 : ∀ k, its.size ≠ 0 → Q true { s with toks := k }) :
    wpAny (model prog w) A (truthy (.ref l)) Q E s := by
  k_with "proof" =>
    refine wpAny_truthy_list (items := its) ⟨_, (N _ hm).1, rfl, _, rfl⟩ (by omega) ?_
    by_cases e : its.size = 0
    · have e2 : its = #[] := Array.eq_empty_of_size_eq_zero e
      subst e2
      exact h1 _ rfl
    · have e3 : (!its.isEmpty) = true := by simp [Array.isEmpty, e]
      rw [e3]
      exact h2 _ e
  run_tac Mine.sq default
theorem wl_WEndT_16 : True := by
  k_with "truthy ref" => run_tac Mine.ln "WEndT.16"
  k_with "own WEndT.16" => (k_here; k_dflt (refine pos_toks (by first | assumption | (dsimp only; omega)) ?_; refine' truthyL ?tlN ?tlm ?tll ?_ ?_; (case tlN => k_asm); (case tlm => k_mem); (case tll => assumption)) <;> intro _ _ _)
  trivial
theorem end_c (w : World) (mean : ExcName → Option Value) (mg mb : Str → Option Value) (tl : List (Addr × Obj)) (W : WA) (T : WT) (rd : Bool) (n : Nat) (stk data wr nsl pres : Array Value) (k1 k2 k3 k4 k5 : Nat) (hW : WOrd W) (hO : WOff W tl) (hS : StkOk W tl stk) (hw : wr.size ≤ 400) (hsk : 2 ≤ stk.size ∧ stk.size ≤ 100) (hns : 1 ≤ nsl.size ∧ nsl.size ≤ 100) (hps : 1 ≤ pres.size ∧ pres.size ≤ 100) (hds : data.size ≤ 100)
    (ys : List Str) (hi : StrsAre data.toList ys) (hl : (ys.map (·.length)).sum ≤ 64) (q : Str) (tq : Tok) (hq : q = Str.ofString "r" ∨ q = Str.ofString "E" ∨ q = Str.ofString "a" ∨ q = Str.ofString "K") :
    CtR SameB w mean mg mb 229 4 60 (wL w W T true rd n stk data wr nsl pres k1 k2 k3 k4 k5 tl) [.ref W.x, .str q tq] (fun _ news' => EndP w W T n stk wr nsl pres tl ys q news') := by
  k_with "proof" =>
    have o_ld : ∀ p ∈ tl, p.1 ≠ W.ld := fun p hp => (hO p hp).2.2.2.2.2.1
    have o_lw : ∀ p ∈ tl, p.1 ≠ W.lw := fun p hp => (hO p hp).2.2.2.2.2.2.1
    have o_ln : ∀ p ∈ tl, p.1 ≠ W.ln := fun p hp => (hO p hp).2.2.1
    have o_ls : ∀ p ∈ tl, p.1 ≠ W.ls := fun p hp => (hO p hp).2.2.2.2.2.2.2.1
    have o_lz : ∀ p ∈ tl, p.1 ≠ W.lz := fun p hp => (hO p hp).2.2.2.2.2.2.2.2.1
    have o_dx : ∀ p ∈ tl, p.1 ≠ W.dx := fun p hp => (hO p hp).2.1
    have hwz : wr.size ≤ sizeLine := by rw [sizeLine_eq]; omega
    have hds' : data.size ≤ 1000 := by omega
    dsimp only [Ct, CtR, CtRet, PG, VW, LO, wL, wD]
    k_fill
    intros; rename_i hret
    refine pos_toks (by assumption) (wpAny_call ?_)
    (k_dflt cell_enter)
    k_steps
    · refine Held.go ?_
      with_reducible rename data = #[] => hde
      subst hde
      refine' qname_c _ _ _ _ _ _ _ _ _ _ _ _ _ _ _ _ _ _ _ _ ?qaW ?qaO ?qaS _ _ ?qaq _ _ _ _ _ _ _ _ _ _ _ _ _ _ _ _ _ ?qaB ?qaF ?qaX ?qaN ?qaT ?qak ?qar ?qau ?qap ?qag ?_
      case qaN => k_asm
      case qaW => assumption
      case qaO => assumption
      case qaS => assumption
      case qaq => assumption
      case qaB => k_asm
      case qaF => k_asm
      case qaX => k_asm
      case qaT => k_asm
      case qak => rfl
      case qar => exact wlt4 (by assumption)
      case qau => exact wunits6 (by assumption) (by decide)
      case qap => first | assumption | (dsimp only; omega)
      case qag => assumption
      intro v' n' s1 F' N' S1 t' P'
      obtain ⟨Tq', t1', t2', t3', ev', lq', e'⟩ := P'
      subst ev'
      subst e'
      dsimp only [wL, wD, tupO] at N'
      dsimp only [AllLt, wL] at lq'
      have g1 := S1.g
      k_steps
      with_reducible rename Fr _ _ _ _ => kF
      with_reducible rename News _ _ _ _ => kN
      obtain ⟨nw, N9, P9⟩ := endEnd (ys := ys) (wr := wr) kN (by cases hi; exact .inl ⟨rfl, rfl⟩)
      exact hret _ nw _ kF N9 ⟨S1.o, S1.d, S1.g⟩ (by first | assumption | (dsimp only; omega)) P9
    · refine Held.go ?_
      refine' flush_c _ _ _ _ _ _ _ _ _ _ _ _ _ _ _ _ _ _ _ ?faW ?faO ?faw _ ?fai ?fal _ _ _ _ _ _ _ _ _ _ _ _ _ _ _ _ _ ?faB ?faF ?faX ?faN ?faT ?fak ?far ?fau ?fap ?fag ?_
      case faN => k_asm
      case faW => assumption
      case faO => assumption
      case faw => omega
      case fai => assumption
      case fal => assumption
      case faB => k_asm
      case faF => k_asm
      case faX => k_asm
      case faT => k_asm
      case fak => rfl
      case far => exact wlt4 (by assumption)
      case fau => exact wunits6 (by assumption) (by decide)
      case fap => first | assumption | (dsimp only; omega)
      case fag => assumption
      intro v' n' s0 F' N' S0 t' P'
      obtain ⟨wr', k2', k3', hfl', e'⟩ := P'
      subst e'
      dsimp only [wL, wD, tupO] at N'
      have g0 : AllBare s0.gens := by rw [S0.g]; assumption
      have hwz2 := flushR_size hfl' hw
      k_steps
      refine Held.go ?_
      refine' qname_c _ _ _ _ _ _ _ _ _ _ _ _ _ _ _ _ _ _ _ _ ?qbW ?qbO ?qbS _ _ ?qbq _ _ _ _ _ _ _ _ _ _ _ _ _ _ _ _ _ ?qbB ?qbF ?qbX ?qbN ?qbT ?qbk ?qbr ?qbu ?qbp ?qbg ?_
      case qbN => k_asm
      case qbW => assumption
      case qbO => assumption
      case qbS => assumption
      case qbq => assumption
      case qbB => k_asm
      case qbF => k_asm
      case qbX => k_asm
      case qbT => k_asm
      case qbk => rfl
      case qbr => exact wlt4 (by assumption)
      case qbu => exact wunits6 (by assumption) (by decide)
      case qbp => first | assumption | (dsimp only; omega)
      case qbg => assumption
      intro v' n' s1 F' N' S1 t' P'
      obtain ⟨Tq', t1', t2', t3', ev', lq', e'⟩ := P'
      subst ev'
      subst e'
      dsimp only [wL, wD, tupO] at N'
      dsimp only [AllLt, wL] at lq'
      have g1 := S1.g
      k_steps
      with_reducible rename Fr _ _ _ _ => kF
      with_reducible rename News _ _ _ _ => kN
      obtain ⟨nw, N9, P9⟩ := endEnd (ys := ys) (wr := wr) kN hfl'
      exact hret _ nw _ kF N9 ⟨S1.o.trans S0.o, S1.d.trans S0.d, S1.g⟩ (by first | assumption | (dsimp only; omega)) P9
  run_tac Mine.sq default
end Mine
end
theorem Mine.wl_WEndT_end : True := by
  k_with_none
  trivial
section -- WSx
open PySem PySem.W PySem.Calls PyProof.Rows
namespace Mine
theorem wl_WSx_0 : True := by
  k_with_none
  trivial
theorem wl_WSx_1 : True := by
  k_with "execs cons" => run_tac Mine.ln "WSx.1"
  k_with "own WSx.1" => (k_here; (with_reducible show wpAny _ _ _ _ _ (Shared.mk _ _ _ (_ + _) _)); refine gen_tok (by omega) ?_; intro _ _)
  trivial
theorem wl_WSx_2 : True := by
  k_with "execs nil" => run_tac Mine.ln "WSx.2"
  k_with "own WSx.2" => (k_here; (with_reducible show wpAny _ _ _ _ _ (Shared.mk _ _ _ (_ + _) _)); refine gen_tok (by omega) ?_; intro _ _)
  trivial
theorem wl_WSx_3 : True := by
  k_with "execs nil" => run_tac Mine.ln "WSx.3"
  k_with "own WSx.3" => (k_here; (with_reducible show wpAny _ _ _ _ _ (Shared.mk _ _ _ (Shared.toks _) _)); refine gen_tok (by first | assumption | (dsimp only; omega)) ?_; intro _ _)
  trivial
theorem wl_WSx_4 : True := by
  k_with "execs cons" => run_tac Mine.ln "WSx.4"
  k_with "own WSx.4" => (k_here; (with_reducible show wpAny _ _ _ _ _ (Shared.mk _ _ _ (Shared.toks _) _)); refine gen_tok (by first | assumption | (dsimp only; omega)) ?_; intro _ _)
  trivial
theorem wl_WSx_5 : True := by
  k_with "exec Expr" => run_tac Mine.ln "WSx.5"
  k_with "own WSx.5" => (k_here; (fail_if_success (with_reducible show wpAny _ _ _ (fun _ s' => 0 < Shared.toks s' → _) _ _)); refine' pos_toks ?pxh ?_; (case pxh => first | assumption | (dsimp only; omega)))
  trivial
theorem wl_WSx_6 : True := by
  k_with "exec Assign" => run_tac Mine.ln "WSx.6"
  k_with "own WSx.6" => (k_here; (fail_if_success (with_reducible show wpAny _ _ _ (fun _ s' => 0 < Shared.toks s' → _) _ _)); refine' pos_toks ?pxh ?_; (case pxh => first | assumption | (dsimp only; omega)))
  trivial
theorem wl_WSx_7 : True := by
  k_with "call ref" => run_tac Mine.ln "WSx.7"
  k_with "own WSx.7" => (k_here; (with_reducible show wpAny _ _ (call (Value.ref 202) _) _ _ _); refine held ?_)
  trivial
theorem wl_WSx_8 : True := by
  k_with "call ref" => run_tac Mine.ln "WSx.8"
  k_with "own WSx.8" => (k_here; (with_reducible show wpAny _ _ (call (Value.ref 222) _) _ _ _); refine held ?_)
  trivial
theorem wl_WSx_9 : True := by
  k_with "truthy ref" => run_tac Mine.ln "WSx.9"
  k_with "own WSx.9" => (k_here; k_dflt (refine pos_toks (by first | assumption | (dsimp only; omega)) ?_; refine' truthyL ?tlN ?tlm ?tll ?_ ?_; (case tlN => k_asm); (case tlm => k_mem); (case tll => assumption)) <;> intro _ _ _)
  trivial
theorem wl_WSx_10 : True := by
  k_with "call builtin:list.append" => run_tac Mine.ln "WSx.10"
  k_with "own WSx.10" => (k_here; (with_reducible show wpAny _ _ (call (Value.builtin _) [Value.ref _, _]) _ _ _); k_dflt (refine' append_K ?apF ?apN ?apU ?_ ?apz; (case apF => k_asm); (case apN => k_asm); (case apU => (iterate 24 (first | done | (apply Upd.head; (repeat (first | assumption | refine List.forall_mem_cons.mpr ⟨by dsimp only; k_ne, ?_⟩))) | (apply Upd.tail; · k_ne)))); (case apz => (rw [sizeLine_eq]; (try simp only [Array.size_push]); omega)); k_whole); intro h' F' N')
  trivial
/-- what start leaves -/
noncomputable def StartP (w : World) (W : WA) (T : WT) (rd : Bool) (n : Nat) (stk wr nsl pres : Array Value) (k4 k5 : Nat) (ys : List Str) (as : List (Str × Tok × Value)) (ps : Array Value) (a : Addr × Obj) (tl0 : List (Addr × Obj)) (news' : List (Addr × Obj)) : Prop :=
  ∃ ne wr1 k1' k2', FlushR ys wr wr1 ∧ (∀ p ∈ wL w W T true rd n stk #[] wr1 nsl pres 0 0 0 k4 k5 (a :: tl0), p.1 < ne) ∧ StP w W T rd n (stk.push (.ref ne)) #[] wr1 nsl pres k1' k2' k4 k5 as ps (a :: (ne, listOf #[] 0) :: tl0) news'
theorem moveX {h₀ h : Heap} {L : Addr} {x c a : Addr × Obj} {wl tl : List (Addr × Obj)} (N : News h₀ L h (x :: (wl ++ (c :: a :: tl)))) : News h₀ L h (wl ++ (c :: a :: x :: tl)) := fun p hp => N p (by
  simp only [List.mem_cons, List.mem_append] at hp ⊢
  rcases hp with h | h | h | h | h
  · exact .inr (.inl h)
  · exact .inr (.inr (.inl h))
  · exact .inr (.inr (.inr (.inl h)))
  · exact .inl h
  · exact .inr (.inr (.inr (.inr h))))
theorem stk_push {W : WA} {tl tl' : List (Addr × Obj)} {stk : Array Value} {ne : Addr} {m : Nat} (h : StkOk W tl stk) (hs : ∀ p ∈ tl, p ∈ tl') (hm : (ne, listOf #[] m) ∈ tl') : StkOk W tl' (stk.push (.ref ne)) := by
  k_with "proof" =>
    have h0 : 0 < stk.size := by
      have := h.1
      by_cases e : 0 < stk.size
      · exact e
      · rw [Array.getElem?_eq_none (by omega)] at this; cases this
    refine ⟨?_, fun k v e => ?_⟩
    · rw [Array.getElem?_push_lt h0, ← Array.getElem?_eq_getElem h0]; exact h.1
    · by_cases hk : k + 1 < stk.size
      · rw [Array.getElem?_push_lt hk, ← Array.getElem?_eq_getElem hk] at e
        obtain ⟨a, m', e1, e2⟩ := h.2 k v e
        exact ⟨a, m', e1, hs _ e2⟩
      · by_cases hk2 : k + 1 = stk.size
        · rw [hk2, Array.getElem?_push_size] at e
          exact ⟨ne, m, (Option.some.inj e).symm, hm⟩
        · rw [Array.getElem?_eq_none (by rw [Array.size_push]; omega)] at e; cases e
  run_tac Mine.sq default
theorem mem2 {a x : Addr × Obj} {tl : List (Addr × Obj)} : ∀ p ∈ a :: tl, p ∈ a :: x :: tl := fun p hp => by
  rcases List.mem_cons.mp hp with e | hp
  · exact e ▸ .head _
  · exact .tail _ (.tail _ hp)
theorem wlt5 {a b : Nat} (h : a + 5 < b) : a + 1 + 4 < b := by omega
theorem wlt5b {a b : Nat} (h : a + 5 < b) : a + 1 + 2 < b := by omega
theorem wu7 {a b : Nat} (h : a + 70 < b) : a + 3 + 60 < b := by omega
theorem wu7b {a b : Nat} (h : a + 70 < b) : a + 3 + 40 < b := by omega
theorem off3 {W : WA} {x a : Addr × Obj} {c : Addr × Obj} {tl : List (Addr × Obj)} (h : WOff W (c :: a :: tl)) (hx : WOff W [x]) : WOff W (c :: a :: x :: tl) := fun p hp => by
  rcases List.mem_cons.mp hp with e | hp
  · exact h p (e ▸ .head _)
  · rcases List.mem_cons.mp hp with e | hp
    · exact h p (e ▸ .tail _ (.head _))
    · rcases List.mem_cons.mp hp with e | hp
      · exact hx p (e ▸ .head _)
      · exact h p (.tail _ (.tail _ hp))
theorem ne3 {x a : Addr × Obj} {tl : List (Addr × Obj)} (h : ∀ p ∈ a :: tl, p.1 ≠ 219) (hx : x.1 ≠ 219) : ∀ p ∈ a :: x :: tl, p.1 ≠ 219 := fun p hp => by
  rcases List.mem_cons.mp hp with e | hp
  · exact h p (e ▸ .head _)
  · rcases List.mem_cons.mp hp with e | hp
    · exact e ▸ hx
    · exact h p (.tail _ hp)
theorem flushR_small {ys : List Str} {wr wr' : Array Value} (h : FlushR ys wr wr') (hw : wr.size ≤ 290) : wr'.size ≤ 300 := by
  k_with "proof" =>
    rcases h with ⟨_, e⟩ | ⟨_, y, t, e, _⟩
    · rw [e]; omega
    · rw [e, Array.size_push]; omega
  run_tac Mine.sq default
theorem dropN {w : World} {W : WA} {T : WT} {rs rd : Bool} {n : Nat} {stk data wr wr1 nsl pres : Array Value} {k1 k2 k3 k4 k5 : Nat} {x : Addr × Obj} {tl : List (Addr × Obj)} {b : Addr} (h : ∀ p ∈ wL w W T rs rd n stk data wr nsl pres k1 k2 k3 k4 k5 (x :: tl), p.1 < b) : ∀ p ∈ wL w W T true rd n stk #[] wr1 nsl pres 0 0 0 k4 k5 tl, p.1 < b := fun p hp => by
  have key : ∀ z ∈ wL w W T rs rd n stk data wr nsl pres k1 k2 k3 k4 k5 (x :: tl), z.1 < b := h
  simp only [List.mem_cons] at hp
  rcases hp with e | e | e | e | e | e | e | e | e | e | e
  · rw [e]; have hh := key _ (.head _); exact hh
  · rw [e]; have hh := key _ (.tail _ (.head _)); exact hh
  · rw [e]; have hh := key _ (.tail _ (.tail _ (.head _))); exact hh
  · rw [e]; have hh := key _ (.tail _ (.tail _ (.tail _ (.head _)))); exact hh
  · rw [e]; have hh := key _ (.tail _ (.tail _ (.tail _ (.tail _ (.head _))))); exact hh
  · rw [e]; have hh := key _ (.tail _ (.tail _ (.tail _ (.tail _ (.tail _ (.head _)))))); exact hh
  · rw [e]; have hh := key _ (.tail _ (.tail _ (.tail _ (.tail _ (.tail _ (.tail _ (.head _))))))); exact hh
  · rw [e]; have hh := key _ (.tail _ (.tail _ (.tail _ (.tail _ (.tail _ (.tail _ (.tail _ (.head _)))))))); exact hh
  · rw [e]; have hh := key _ (.tail _ (.tail _ (.tail _ (.tail _ (.tail _ (.tail _ (.tail _ (.tail _ (.head _))))))))); exact hh
  · rw [e]; have hh := key _ (.tail _ (.tail _ (.tail _ (.tail _ (.tail _ (.tail _ (.tail _ (.tail _ (.tail _ (.head _)))))))))); exact hh
  · exact key p (.tail _ (.tail _ (.tail _ (.tail _ (.tail _ (.tail _ (.tail _ (.tail _ (.tail _ (.tail _ (.tail _ e)))))))))))
theorem start_c (w : World) (mean : ExcName → Option Value) (mg mb : Str → Option Value) (tl : List (Addr × Obj)) (W : WA) (T : WT) (rs rd : Bool) (n : Nat) (stk data wr nsl pres ps : Array Value) (k1 k2 k3 k4 k5 : Nat) (q : Str) (tq : Tok) (as : List (Str × Tok × Value)) (na : Nat) (ae : Addr) (hsh : Shape q as)
    (hW : WOrd W) (hO : WOff W ((219, tabObj ps) :: (ae, dictOf (aD w as) na) :: tl)) (hS : StkOk W ((ae, dictOf (aD w as) na) :: tl) stk) (hw : wr.size ≤ 290) (hsk : stk.size ≤ 100) (hns : nsl.size ≤ 100) (hps : 1 ≤ pres.size ∧ pres.size ≤ 100) (hds : data.size ≤ 100) (hlo : (ae == sysModules) = false)
    (h219 : ∀ p ∈ (ae, dictOf (aD w as) na) :: tl, p.1 ≠ 219) (hLT : LamTab lamQ 167 71 ps ((ae, dictOf (aD w as) na) :: tl)) (ys : List Str) (hi : StrsAre data.toList ys) (hl : (ys.map (·.length)).sum ≤ 64) (hrs : data = #[] ∨ rs = true) :
    CtR SameD w mean mg mb 216 5 70 (wL w W T rs rd n stk data wr nsl pres k1 k2 k3 k4 k5 ((219, tabObj ps) :: (ae, dictOf (aD w as) na) :: tl)) [.ref W.x, .str q tq, .ref ae] (fun _ news' => StartP w W T rd n stk wr nsl pres k4 k5 ys as ps (ae, dictOf (aD w as) na) tl news') := by
  k_with "proof" =>
    have o_ln := fun p hp => (hO p hp).2.2.1
    have hds' : data.size ≤ 1000 := by omega
    dsimp only [Ct, CtR, CtRet, PG, VW, LO, wL, wD]
    k_fill
    intros; rename_i hret
    with_reducible rename AllBare _ => hg0
    refine pos_toks (by assumption) (wpAny_call ?_)
    (k_dflt cell_enter)
    k_steps
    · with_reducible rename data = #[] => hde
      subst hde
      with_reducible rename News _ _ _ _ => NX
      have NY := moveX (wl := wL w W T rs rd n _ #[] wr nsl pres _ _ _ k4 k5 []) NX
      refine Held.go ?_
      k_dflt (refine start0_c w mean mg mb tl W T rs rd n _ #[] wr nsl pres ps _ _ _ k4 k5 q tq as na 0 ae _ hsh hW (off3 hO (off1 (w := w) (T := T) (rs := rs) (rd := rd) (n := n) (stk := stk) (data := #[]) (wr := wr) (nsl := nsl) (pres := pres) (k1 := k1) (k2 := k2) (k3 := k3) (k4 := k4) (k5 := k5) (tl := (219, tabObj ps) :: (ae, dictOf (aD w as) na) :: tl) (allLt_all (by assumption)) (Nat.le_refl _) _)) (stk_push hS mem2 (.tail _ (.head _))) (by omega) hns hps hlo (ne3 h219 ?zan) (hLT.mono mem2) _ _ _ _ _ _ _ _ _ _ _ _ _ _ _ _ _ (by k_asm) (by k_asm) (by k_asm) NY (by k_asm) rfl ?zar ?zau ?zap ?zag ?_)
      case zan => show @Ne Nat _ 219; omega
      case zar => exact wlt5 (by assumption)
      case zau => exact wu7 (by assumption)
      case zap => first | assumption | (dsimp only; omega)
      case zag => exact hg0
      intro v7 n7 s7 F7 N7 S7 t7 P7
      k_steps
      with_reducible rename Fr _ _ _ _ => FE
      with_reducible rename News _ _ _ _ => NE
      exact hret _ _ _ FE NE ⟨S7.o, S7.g⟩ (by first | assumption | (dsimp only; omega)) ⟨_, _, _, _, (by cases hi; exact .inl ⟨rfl, rfl⟩), dropN (rs := rs) (data := #[]) (wr := wr) (k1 := k1) (k2 := k2) (k3 := k3) (x := (219, tabObj ps)) (allLt_all (by assumption)), P7⟩
    · refine Held.go ?_
      rcases hrs with hrs | hrs
      · subst hrs; exact absurd rfl (by assumption)
      subst hrs
      refine' flush_c _ _ _ _ _ _ _ _ _ _ _ _ _ _ _ _ _ _ _ ?faW ?faO ?faw _ ?fai ?fal _ _ _ _ _ _ _ _ _ _ _ _ _ _ _ _ _ ?faB ?faF ?faX ?faN ?faT ?fak ?far ?fau ?fap ?fag ?_
      case faN => k_asm
      case faW => assumption
      case faO => assumption
      case faw => omega
      case fai => assumption
      case fal => assumption
      case faB => k_asm
      case faF => k_asm
      case faX => k_asm
      case faT => k_asm
      case fak => rfl
      case far => exact wlt5b (by assumption)
      case fau => exact wu7b (by assumption)
      case fap => first | assumption | (dsimp only; omega)
      case fag => exact hg0
      intro v' n' s0 F' N' S0 t' P'
      obtain ⟨wr', k2', k3', hfl', e'⟩ := P'
      subst e'
      dsimp only [wL, wD, tupO] at N'
      have g0 : AllBare s0.gens := by rw [S0.g]; exact hg0
      k_steps
      with_reducible rename News _ _ _ _ => NX
      have NY := moveX (wl := wL w W T true rd n _ #[] wr' nsl pres _ _ _ k4 k5 []) NX
      refine Held.go ?_
      k_dflt (refine start0_c w mean mg mb tl W T true rd n _ #[] wr' nsl pres ps _ _ _ k4 k5 q tq as na 0 ae _ hsh hW (off3 hO (off1 (w := w) (T := T) (rs := true) (rd := rd) (n := n) (stk := stk) (data := #[]) (wr := wr') (nsl := nsl) (pres := pres) (k1 := k1) (k2 := k2') (k3 := k3') (k4 := k4) (k5 := k5) (tl := (219, tabObj ps) :: (ae, dictOf (aD w as) na) :: tl) (allLt_all (by assumption)) (Nat.le_refl _) _)) (stk_push hS mem2 (.tail _ (.head _))) (flushR_small hfl' hw) hns hps hlo (ne3 h219 ?zbn) (hLT.mono mem2) _ _ _ _ _ _ _ _ _ _ _ _ _ _ _ _ _ (by k_asm) (by k_asm) (by k_asm) NY (by k_asm) rfl ?zbr ?zbu ?zbp ?zbg ?_)
      case zbn => show @Ne Nat _ 219; omega
      case zbr => exact wlt5 (by assumption)
      case zbu => exact wu7 (by assumption)
      case zbp => first | assumption | (dsimp only; omega)
      case zbg => exact g0
      intro v7 n7 s7 F7 N7 S7 t7 P7
      k_steps
      with_reducible rename Fr _ _ _ _ => FE
      with_reducible rename News _ _ _ _ => NE
      exact hret _ _ _ FE NE ⟨S7.o.trans S0.o, S7.g⟩ (by first | assumption | (dsimp only; omega)) ⟨_, _, _, _, hfl', dropN (rs := true) (data := #[]) (wr := wr') (k1 := k1) (k2 := k2') (k3 := k3') (x := (219, tabObj ps)) (allLt_all (by assumption)), P7⟩
  run_tac Mine.sq default
end Mine
end
theorem Mine.wl_WSx_end : True := by
  k_with_none
  trivial
section -- PageT
open PySem PySem.W PySem.Calls PyProof.Rows
namespace Mine
theorem wl_PageT_0 : True := by
  k_with_none
  trivial
theorem wl_PageT_1 : True := by
  k_with "execs cons" => run_tac Mine.ln "PageT.1"
  k_with "own PageT.1" => (k_here; (with_reducible show wpAny _ _ _ _ _ (Shared.mk _ _ _ (_ + _) _)); refine gen_tok (by omega) ?_; intro _ _)
  trivial
theorem wl_PageT_2 : True := by
  k_with "execs nil" => run_tac Mine.ln "PageT.2"
  k_with "own PageT.2" => (k_here; (with_reducible show wpAny _ _ _ _ _ (Shared.mk _ _ _ (_ + _) _)); refine gen_tok (by omega) ?_; intro _ _)
  trivial
theorem wl_PageT_3 : True := by
  k_with "execs cons" => run_tac Mine.ln "PageT.3"
  k_with "own PageT.3" => (k_here; (with_reducible show wpAny _ _ _ _ _ (Shared.mk _ _ _ (Shared.toks _) _)); refine gen_tok (by first | assumption | (dsimp only; omega)) ?_; intro _ _)
  trivial
theorem wl_PageT_4 : True := by
  k_with "execs nil" => run_tac Mine.ln "PageT.4"
  k_with "own PageT.4" => (k_here; (with_reducible show wpAny _ _ _ _ _ (Shared.mk _ _ _ (Shared.toks _) _)); refine gen_tok (by first | assumption | (dsimp only; omega)) ?_; intro _ _)
  trivial
theorem wl_PageT_5 : True := by
  k_with "exec Expr" => run_tac Mine.ln "PageT.5"
  k_with "own PageT.5" => (k_here; (fail_if_success (with_reducible show wpAny _ _ _ (fun _ s' => 0 < Shared.toks s' → _) _ _)); refine' pos_toks ?pxh ?_; (case pxh => first | assumption | (dsimp only; omega)))
  trivial
theorem wl_PageT_6 : True := by
  k_with "exec For Tuple Name cons nil" => run_tac Mine.ln "PageT.6"
  k_with "own PageT.6" => (k_here; k_dflt (refine' m_for' ?mft ?_; (case mft => first | assumption | (dsimp only; omega))))
  trivial
theorem wl_PageT_7 : True := by
  k_with "exec For Tuple List cons nil" => run_tac Mine.ln "PageT.7"
  k_with "own PageT.7" => (k_here; k_dflt (refine' m_for' ?mfl ?_; (case mfl => first | assumption | (dsimp only; omega))))
  trivial
theorem wl_PageT_8 : True := by
  k_with "eval ListComp" => run_tac Mine.ln "PageT.8"
  k_with "own PageT.8" => (k_here; refine held ?_)
  trivial
theorem wl_PageT_9 : True := by
  k_with "CompSrc" => run_tac Mine.ln "PageT.9"
  k_with "own PageT.9" => (k_here; refine held ?_)
  trivial
theorem wl_PageT_10 : True := by
  k_with "call builtin:list.append" => run_tac Mine.ln "PageT.10"
  k_with "own PageT.10" => (k_here; (with_reducible show wpAny _ _ (call (Value.builtin _) [Value.ref _, _]) _ _ _); k_dflt (refine' append_K ?apF ?apN ?apU ?_ ?apz; (case apF => k_asm); (case apN => k_asm); (case apU => (iterate 3 (first | done | (apply Upd.head; first | assumption | ((repeat (refine List.forall_mem_cons.mpr ⟨by dsimp only; k_ne, ?_⟩)); assumption)) | (apply Upd.tail; · k_ne)))); (case apz => assumption); k_whole); intro h' F' N')
  trivial
theorem page_c (w : World) (mean : ExcName → Option Value) (mg mb : Str → Option Value) (news : List (Addr × Obj)) (l : Addr) (vs : List Value) (k : Nat) (cs : List Cl) (hm : (l, listOf vs.toArray k) ∈ news) (hd : DatAll news vs (cs.map callDat)) (hn : cs.length ≤ 12) (hok : ∀ c ∈ cs, c.ok) :
    Ct w mean mg mb 283 1 20 news [.ref l] (fun v news' => Grow news' news fun add => ∃ D vs k, v = .ref D ∧ (D, listOf vs k) ∈ add ∧ PairAll add vs.toList (pageF cs)) := by
  k_with "proof" =>
    dsimp only [Ct, CtR, CtRet, PG, VW, LO]
    k_fill
    intros; rename_i hret
    refine pos_toks (by assumption) (wpAny_call ?_)
    (k_dflt cell_enter)
    k_steps
    rename_i tpos
    with_reducible rename News _ _ _ _ => N
    with_reducible rename Fr _ _ _ _ => F
    refine MFor.page (add0 := [_]) (G := Same _) shut_same rfl F N ⟨rfl,rfl,rfl⟩ tpos ?_ ?_ hm hd ?_ ?_
    · intro p hp
      rw [List.mem_singleton.mp hp]
      with_reducible rename (_ ∧ AllLt _ _) => hI
      with_reducible rename (∀ p ∈ news, _) => l1
      exact ⟨Nat.ne_of_lt hI.1, allLt_of l1⟩
    · exact PairAll.one (List.mem_cons_self ..) (by decide +kernel)
    · intro I hI i c T t v1 v2 oI m₁ vs' k' add s₁ hi hc hT w1 w2 hadd hP hmy F₁ N₁ S₁ t₁
      have okc := hok c (List.mem_of_getElem? hc)
      obtain ⟨a1, ws1, n1, rfl, hm1, hd1⟩ := w1
      obtain ⟨a2, ws2, n2, rfl, hm2, hd2⟩ := w2
      have F₂ := Fr.ovr F₁ (ysG.map fun y => (y, m₁ y)) (by simp [ysG]) (by intro y hy; exact hmy y (by simpa [ysG] using hy))
      dsimp only [ovr, ysG, List.map] at F₂
      clear F₁
      have hgx : AllBare s₁.gens := by rw [S₁.g]; assumption
      have hsz : vs'.size ≤ sizeLine := by
        have h1 := PairAll.len hP
        have h2 := pageB_len (cs := cs.take i) fun c hc => hok c (List.mem_of_mem_take hc)
        have h3 : (cs.take i).length ≤ 12 := Nat.le_trans (List.length_take_le' ..) hn
        rw [Array.length_toList] at h1
        rw [sizeLine_eq]; omega
      have hbl : (pageB (cs.take i)).length ≤ 160 := by
        have h2 := pageB_len (cs := cs.take i) fun c hc => hok c (List.mem_of_mem_take hc)
        have h3 : (cs.take i).length ≤ 12 := Nat.le_trans (List.length_take_le' ..) hn
        omega
      dsimp only [AllLt] at hI
      have hIn : AllLt I news := hI.2.2
      with_reducible rename (_ ∧ AllLt _ news) => lD
      have offl : ∀ p ∈ add ++ news, p.1 ≠ _ := fun p hp => by
        rcases List.mem_append.mp hp with hp | hp
        · exact (hadd p hp).1
        · exact Nat.ne_of_lt (allLt_all lD.2 p hp)
      cases c with
      | start lw lo =>
        dsimp only [Cl.what, Cl.w, Cl.o] at hT hd1 hd2
        k_steps
        with_reducible rename News _ _ _ _ => N3
        with_reducible rename Fr _ _ _ _ => F3
        refine MFor.words (G := Same _) (I := I) shut_same rfl F3 (pre4 N3) (shut_same s₁ _ _ S₁) (by assumption) (List.mem_cons_self ..) (List.mem_cons_of_mem _ (List.mem_cons_of_mem _ (List.mem_cons_self ..))) (List.mem_cons_of_mem _ (List.mem_cons_self ..)) ⟨a1, ws1, n1, rfl, hm1, hd1⟩ ⟨a2, ws2, n2, rfl, hm2, hd2⟩ okc.1 okc.2 hadd hP hbl ?_ ?_
        · intro I2 hI2 T3 x tx y ty v l2 base' oI2 m₂ vs2 k2 add2 s₂ hT2 hw2 hl2 hP2 hsz2 hadd2 hnI2 hm2' F₂' N₂' S₂ t₂
          obtain ⟨a3, ws3, n3, rfl, hm3, hd3⟩ := hw2
          have F₃ := Fr.ovr F₂' (ysW.map fun y => (y, m₂ y)) (by simp [ysW]) (by intro y hy; exact hm2' y (by simpa [ysW] using hy))
          dsimp only [ovr, ysW, List.map] at F₃
          clear F₂'
          dsimp only [AllLt] at hI2
          have hgx2 : AllBare s₂.gens := by rw [S₂.g]; assumption
          dsimp only [List.cons_append, List.nil_append] at N₂'
          k_steps
          rename_i D4 h2 l4 D5 h1 l5 lq h0 F0 N0 l0
          have hT4 : D4 ≠ _ ∧ AllLt D4 news ∧ D4 ≠ I ∧ D4 ≠ I2 := ⟨Nat.ne_of_gt l4.2.1, allLt_of fun p hp => allLt_all l4.2.2.2.2.2.2 p (List.mem_append_right _ hp), Nat.ne_of_gt l4.2.2.2.2.2.1, Nat.ne_of_gt l4.1⟩
          have hT5 : D5 ≠ _ ∧ AllLt D5 news ∧ D5 ≠ I ∧ D5 ≠ I2 := ⟨Nat.ne_of_gt l5.2.2.1, allLt_of fun p hp => allLt_all l5.2.2.2.2.2.2.2 p (List.mem_append_right _ hp), Nat.ne_of_gt l5.2.2.2.2.2.2.1, Nat.ne_of_gt l5.2.1⟩
          have offl2 : ∀ p ∈ add2 ++ news, p.1 ≠ _ := fun p hp => by
            rcases List.mem_append.mp hp with hp | hp
            · exact (hadd2 p hp).1
            · exact Nat.ne_of_lt (allLt_all lD.2 p hp)
          refine extendG (vs := vs2) (k := k2) (ys := #[Value.ref D4, Value.ref D5]) F0 (rot5 N0) ?_ (List.mem_cons_self ..) (by show vs2.size + 2 ≤ 1000; omega) ?_
          · iterate 8 (refine List.forall_mem_cons.mpr ⟨by dsimp only; k_ne, ?_⟩)
            exact offl2
          · intro h9 k9 F9 N9
            k_steps
            refine Held.go ?_
            refine (pos_toks (by first | assumption | (dsimp only; omega)) ?_)
            refine LCg.ListComp_U F9 (by rfl) (by decide) (by rfl) (by decide) (by rfl) ?_
            k_steps
            refine Held.go ?_
            refine CompSrc.signs (i := 1) (j := 2) rfl F9 N9 ⟨a3, ws3, n3, rfl, in9 _ hm3, DatAll.mono in9 hd3⟩ hl2 ?_ ?_
            · intros
              k_steps
              refine' SEnd.intro ?tF ?tN ?tl
              case tF => assumption
              case tN => assumption
              case tl => (dsimp only [AllLt]; run_tac mHyp)
            · intro ys add3 D h tk hp3 ha3 off3 F10 N10
              dsimp only
              have hysz : ys.length ≤ 3 := by
                have := PairAll.len hp3
                rw [this]; simpa [signsP] using hl2
              have hadd3 : ∀ p ∈ add3, p.1 ≠ _ ∧ AllLt p.1 news ∧ p.1 ≠ I ∧ p.1 ≠ I2 := fun p hp => okOf (ha3 p hp) (List.mem_cons_self ..) (by repeat (first | exact List.mem_cons_self .. | apply List.mem_cons_of_mem)) (by repeat (first | exact List.mem_cons_self .. | apply List.mem_cons_of_mem)) in9
              k_steps
              have offx : ∀ p ∈ add3 ++ add2, p.1 ≠ _ := fun p hp => by
                rcases List.mem_append.mp hp with hp | hp
                · exact (hadd3 p hp).1
                · exact (hadd2 p hp).1
              have hDlp := off3 _ (List.mem_append_right _ (List.mem_cons_self ..))
              refine extendG (vs := (vs2.toList ++ #[Value.ref D4, Value.ref D5].toList).toArray) (k := k9) (ys := ys.toArray) F10 (reord3 N10) ?_ (List.mem_cons_self ..) ?_ ?_
              · refine List.forall_mem_cons.mpr ⟨fun e => hDlp e.symm, ?_⟩
                iterate 5 (refine List.forall_mem_cons.mpr ⟨by dsimp only; k_ne, ?_⟩)
                refine List.forall_mem_cons.mpr ⟨hT5.1, List.forall_mem_cons.mpr ⟨hT4.1, ?_⟩⟩
                intro p hp
                rcases List.mem_append.mp hp with hp | hp
                · exact offx p hp
                · exact Nat.ne_of_lt (allLt_all lD.2 p hp)
              · have h7 : (vs2.toList ++ #[Value.ref D4, Value.ref D5].toList).toArray.size = vs2.size + 2 := by simp
                rw [h7, List.size_toArray]
                exact Nat.le_trans (Nat.add_le_add (Nat.add_le_add_right hsz2 2) hysz) (by decide)
              · intro h11 k11 F11 N11
                obtain ⟨add4, N12, hadd4, hP4⟩ : ∃ add4, News _ _ h11 ((I2, oI2) :: _ :: _ :: _ :: _ :: (I, oI) :: (add4 ++ news)) ∧ (∀ p ∈ add4, p.1 ≠ _ ∧ AllLt p.1 news ∧ p.1 ≠ I ∧ p.1 ≠ I2) ∧ PairAll add4 ((vs2.toList ++ [Value.ref D4, Value.ref D5]) ++ ys) (base' ++ [(codes x, codes y), pq] ++ signsP 1 2 l2) :=
                  ⟨_, reord4 N11, by
                    refine List.forall_mem_cons.mpr ⟨hT5, List.forall_mem_cons.mpr ⟨hT4, ?_⟩⟩
                    intro p hp
                    rcases List.mem_append.mp hp with hp | hp
                    · exact hadd3 p hp
                    · exact hadd2 p hp, by
                    refine PairAll.append (PairAll.append (PairAll.mono (fun p hp => ?_) hP2) (pairTwo (List.mem_cons_of_mem _ (List.mem_cons_self ..)) (List.mem_cons_self ..))) (PairAll.mono (fun p hp => ?_) hp3)
                    · exact List.mem_cons_of_mem _ (List.mem_cons_of_mem _ (List.mem_append_right _ hp))
                    · exact List.mem_cons_of_mem _ (List.mem_cons_of_mem _ (List.mem_append_left _ hp))⟩
                clear N11
                have hsz3 : ((vs2.toList ++ #[Value.ref D4, Value.ref D5].toList).toArray.toList ++ ys.toArray.toList).toArray.size ≤ sizeLine := by
                  have h7 : ((vs2.toList ++ #[Value.ref D4, Value.ref D5].toList).toArray.toList ++ ys.toArray.toList).toArray.size = vs2.size + 2 + ys.length := by simp; omega
                  rw [h7]
                  exact Nat.le_trans (Nat.add_le_add (Nat.add_le_add_right hsz2 2) hysz) (by rw [sizeLine_eq]; decide)
                have offl4 : ∀ p ∈ add4 ++ news, p.1 ≠ _ := fun p hp => by
                  rcases List.mem_append.mp hp with hp | hp
                  · exact (hadd4 p hp).1
                  · exact Nat.ne_of_lt (allLt_all lD.2 p hp)
                k_steps
                rename_i D8 h8 F8 N8 l8 h7 F7 N7 p7 k7 p6
                refine' wEnd (add := add4) (pre := [_, _, _, (I, oI)]) (ws := ((vs2.toList ++ #[Value.ref D4, Value.ref D5].toList).toArray.toList ++ ys.toArray.toList).toArray) (T := D8) F7 N7 (fun p hp => hp) (Nat.ne_of_lt hI2.1) ?wp hnI2 ⟨Nat.ne_of_gt l8.2.1, allLt_of fun p hp => allLt_all l8.2.2.2.2.2.2 p (List.mem_append_right _ hp), Nat.ne_of_gt l8.2.2.2.2.2.1, Nat.ne_of_gt l8.1⟩ hadd4 hP4 ?wm (shut_same s₂ _ _ S₂) ?wt
                case wp =>
                  refine List.forall_mem_cons.mpr ⟨Nat.ne_of_lt hI2.2.1, List.forall_mem_cons.mpr ⟨Nat.ne_of_lt hI2.2.2.1, List.forall_mem_cons.mpr ⟨Nat.ne_of_lt hI2.2.2.2.1, List.forall_mem_cons.mpr ⟨Nat.ne_of_lt hI2.2.2.2.2.1, List.forall_mem_nil _⟩⟩⟩⟩
                case wm =>
                  intro y hy
                  simp only [ysW, List.mem_cons, not_or, List.not_mem_nil, not_false_eq_true, and_true] at hy
                  simp only [if_neg hy.1, if_neg hy.2.1, if_neg hy.2.2]
                  rfl
                case wt => first | assumption | (dsimp only; omega)
        · intro m' vs2 k2 add2 s₂ hP2 hadd2 hm2' F₂' N₂' S₂ t₂
          have N4 := rot2 N₂'
          clear N₂'
          have F₃ := Fr.ovr F₂' (ysW.map fun y => (y, m' y)) (by simp [ysW]) (by intro y hy; exact hm2' y (by simpa [ysW] using hy))
          dsimp only [ovr, ysW, List.map] at F₃
          clear F₂'
          have hgx2 : AllBare s₂.gens := by rw [S₂.g]; assumption
          have hsz2 : vs2.size ≤ sizeLine := by
            have h1 := PairAll.len hP2
            have ok1 := okc.1.1
            have ok2 := okc.2.1
            simp only [partP, signsP, List.length_append, List.length_map, List.length_cons, List.length_nil] at h1
            rw [Array.length_toList] at h1
            rw [sizeLine_eq]; omega
          have offl2 : ∀ p ∈ add2 ++ news, p.1 ≠ _ := fun p hp => by
            rcases List.mem_append.mp hp with hp | hp
            · exact (hadd2 p hp).1
            · exact Nat.ne_of_lt (allLt_all lD.2 p hp)
          (show wpAny _ _ _ _ _ _)
          k_steps
          refine' pgEnd1 (add := add2) (vs' := vs2) (cs := cs) (c := .start lw lo) (P := partP (Str.ofString "<E K=") (Str.ofString "<e k=") lw ++ partP (Str.ofString " a=") (Str.ofString " a=") lo) ?gF ?gN ?gl (Nat.ne_of_lt hI.1) hIn hadd2 hc (by rw [← List.append_assoc]; exact hP2) (pageC_start ..) ?gm (shut_same s₂ _ _ S₂) ?gt
          case gF => assumption
          case gN => assumption
          case gl => run_tac mHyp
          case gm =>
            intro y hy
            simp only [ysG, List.mem_cons, not_or, List.not_mem_nil, not_false_eq_true, and_true] at hy
            simp only [if_neg hy.1, if_neg hy.2.1, if_neg hy.2.2.1, if_neg hy.2.2.2.1, if_neg hy.2.2.2.2.1, if_neg hy.2.2.2.2.2]
            rfl
          case gt => first | assumption | (dsimp only; omega)
      | close =>
        dsimp only [Cl.what, Cl.w, Cl.o] at hT hd1 hd2
        k_steps
        refine' pgEnd1 (add := add) (vs' := vs') (cs := cs) (c := .close) (P := []) ?cF ?cN ?cl (Nat.ne_of_lt hI.1) hIn hadd hc (by rw [List.append_nil]; exact hP) rfl ?cm (shut_same s₁ _ _ S₁) ?ct
        case cF => assumption
        case cN => assumption
        case cl => run_tac mHyp
        case cm =>
          intro y hy
          simp only [ysG, List.mem_cons, not_or, List.not_mem_nil, not_false_eq_true, and_true] at hy
          simp only [if_neg hy.1, if_neg hy.2.1, if_neg hy.2.2.1, if_neg hy.2.2.2.1, if_neg hy.2.2.2.2.1, if_neg hy.2.2.2.2.2]
          rfl
        case ct => first | assumption | (dsimp only; omega)
      | data lw =>
        dsimp only [Cl.what, Cl.w, Cl.o] at hT hd1 hd2
        k_steps
        refine Held.go ?_
        with_reducible rename Fr _ _ _ _ => F3
        refine (pos_toks (by first | assumption | (dsimp only; omega)) ?_)
        refine LCg.ListComp_U F3 (by rfl) (by decide) (by rfl) (by decide) (by rfl) ?_
        k_steps
        refine Held.go ?_
        with_reducible rename News _ _ _ _ => N3
        refine CompSrc.signs (i := 3) (j := 4) rfl F3 N3 ⟨a1, ws1, n1, rfl, in2 _ hm1, DatAll.mono in2 hd1⟩ okc.1 ?_ ?_
        · intros
          k_steps
          refine' SEnd.intro ?sF ?sN ?sl
          case sF => assumption
          case sN => assumption
          case sl => (dsimp only [AllLt]; run_tac mHyp)
        · intro ys add2 D h tk hp2 ha2 off2 F4 N4
          dsimp only
          have hadd3 : ∀ p ∈ add2, p.1 ≠ _ ∧ AllLt p.1 news ∧ p.1 ≠ I ∧ p.1 ≠ I := fun p hp => okOf (ha2 p hp) (List.mem_cons_of_mem _ (List.mem_cons_self ..)) (List.mem_cons_self ..) (List.mem_cons_self ..) in2
          k_steps
          refine extendG (lp := _) (vs := vs') (k := k') (rest := (D, LCg.lst ys) :: (I, oI) :: ((add2 ++ add) ++ news)) (ys := ys.toArray) F4 (fun p hp => N4 p ?_) ?_ (List.mem_cons_self ..) ?_ ?_
          · simp only [List.mem_cons, List.mem_append] at hp ⊢
            rcases hp with e | e | e | (e | e) | e <;> simp [e]
          · intro p hp
            rcases List.mem_cons.mp hp with e | hp
            · rw [e]; exact fun e => off2 _ (List.mem_append_right _ (List.mem_cons_of_mem _ (List.mem_cons_self ..))) e.symm
            · rcases List.mem_cons.mp hp with e | hp
              · rw [e]; exact Nat.ne_of_gt hI.1
              · rcases List.mem_append.mp hp with hp | hp
                · rcases List.mem_append.mp hp with hp | hp
                  · exact (hadd3 p hp).1
                  · exact (hadd p hp).1
                · exact Nat.ne_of_lt (allLt_all lD.2 p hp)
          · have h9 := PairAll.len hP
            have h8 : ys.length ≤ 3 := by
              rw [PairAll.len hp2]; simpa [signsP] using okc.1
            have h7 : vs'.size ≤ 160 := by
              rw [← Array.length_toList, h9]; exact hbl
            rw [List.size_toArray]
            exact Nat.le_trans (Nat.add_le_add h7 h8) (by decide)
          · intro h9 k9 F9 N9
            k_steps
            refine' pgEnd (add := add2 ++ add) (ws := (vs'.toList ++ ys.toArray.toList).toArray) (k := k9) (cs := cs) (c := .data lw) ?eF ?eN ?es (Nat.ne_of_lt hI.1) hIn ?ea hc ?ep ?em (shut_same s₁ _ _ S₁) ?et
            case eF => assumption
            case eN => assumption
            case es =>
              intro p hp
              simp only [List.mem_cons] at hp ⊢
              rcases hp with e | e | e
              · exact .inr (.inr (.inl e))
              · exact .inl e
              · exact .inr (.inr (.inr e))
            case ea =>
              intro p hp
              rcases List.mem_append.mp hp with hp | hp
              · exact ⟨(hadd3 p hp).1, (hadd3 p hp).2.1, (hadd3 p hp).2.2.1⟩
              · exact hadd p hp
            case ep => exact PairAll.append (PairAll.mono (fun p hp => List.mem_append_right _ hp) hP) (PairAll.mono (fun p hp => List.mem_append_left _ hp) hp2)
            case em =>
              intro y hy
              simp only [ysG, List.mem_cons, not_or, List.not_mem_nil, not_false_eq_true, and_true] at hy
              simp only [if_neg hy.1, if_neg hy.2.1, if_neg hy.2.2.1, if_neg hy.2.2.2.1, if_neg hy.2.2.2.2.1, if_neg hy.2.2.2.2.2]
              rfl
            case et => first | assumption | (dsimp only; omega)
    · intro m' vs' k' add s' hP hadd hmy F₁ N₁ S₁ t₁
      with_reducible rename (_ ∧ AllLt _ news) => lD
      have F₂ := Fr.ovr F₁ (ysG.map fun y => (y, m' y)) (by simp [ysG]) (by intro y hy; exact hmy y (by simpa [ysG] using hy))
      dsimp only [ovr, ysG, List.map] at F₂
      clear F₁
      have hgx : AllBare s'.gens := by rw [S₁.g]; assumption
      k_steps
      have hszl : vs'.size + 1 ≤ sizeLine := by
        have h1 := PairAll.len hP
        have h2 := pageB_len hok
        rw [Array.length_toList] at h1
        rw [sizeLine_eq]; omega
      refine' addMem' ?qF ?qN ?q1 ?q2 ?qs ?_
      case qF => k_asm
      case qN => k_asm
      case q1 => k_mem
      case q2 => k_mem
      case qs => exact hszl
      intro D9 h9 F9 N9 l9
      dsimp only [AllLt] at l9
      k_steps
      refine' hret _ _ _ ?rF ?rN ⟨S₁.o, S₁.d, S₁.g⟩ (by assumption) ?_
      case rF => assumption
      case rN => assumption
      refine Grow.succ (allLt_of fun p hp => allLt_all l9.2.2.2 p (List.mem_append_right _ hp)) ?_
      refine Grow.succ (by (with_reducible rename (_ ∧ _ ∧ AllLt _ (add ++ news)) => lx); exact allLt_of fun p hp => allLt_all lx.2.2 p (List.mem_append_right _ hp)) ?_
      refine Grow.succ (by (with_reducible rename (_ ∧ AllLt _ (add ++ news)) => lx); exact allLt_of fun p hp => allLt_all lx.2 p (List.mem_append_right _ hp)) ?_
      refine Grow.succ lD.2 ?_
      refine Grow.left (l := []) (fun p hp => (hadd p hp).2) ⟨_, _, _, rfl, List.mem_cons_self .., ?_⟩
      refine PairAll.append (PairAll.mono (fun p hp => ?_) hP) (PairAll.one (List.mem_cons_of_mem _ (List.mem_cons_of_mem _ (List.mem_cons_self ..))) (by decide +kernel))
      iterate 4 apply List.mem_cons_of_mem
      exact hp
  run_tac Mine.sq default
end Mine
end
theorem Mine.wl_PageT_end : True := by
  k_with_none
  trivial
section -- CutT
open PySem PySem.W PySem.Calls PyProof.Rows
namespace Mine
theorem wl_CutT_0 : True := by
  k_with_none
  trivial
noncomputable def ysK : List Str := [Str.ofString "sign", Str.ofString "run", Str.ofString "part"]
section
variable {prog : Program} {w : World} {A : Around} {E : Value → Shared → Prop} {s : Shared} {env : Env} {h₀ : Heap} {target : Expr} {body : List Stmt} {Q : Flow → Shared → Prop} {G : Shared → Prop}
theorem MFor.cut (hG : Shut G) {l lp : Addr} {vs : List Value} {n : Nat} {xs : List (List Nat)} {news : List (Addr × Obj)} {m₀ : Str → Option Value} {t0 t1 : Tok} (hh : A.handled = none) (F : Fr h₀ env.locals s.heap m₀) (N : News h₀ env.locals s.heap ((lp, listOf #[] 0) :: news)) (hg : G s) (ht : 0 < s.toks)
    (hm : (l, listOf vs.toArray n) ∈ news) (hx : TxtAll vs xs) (hp0 : m₀ (Str.ofString "part") = some (.str Str.empty t0)) (hr0 : m₀ (Str.ofString "run") = some (.int 0 t1))
    (turn : ∀ I, AllLt I ((lp, listOf #[] 0) :: news) → ∀ (i : Nat) y ty oI m₁ vs' k part run tp tr s₁, i < vs.length → xs[i]? = some (codes y) → TxtAll vs'.toList (cutRun (xs.take i)).1 → codes part = (cutRun (xs.take i)).2.1 → run = (cutRun (xs.take i)).2.2 → (∀ y, y ∉ ysK → m₁ y = m₀ y) → m₁ (Str.ofString "part") = some (.str part tp) → m₁ (Str.ofString "run") = some (.int (run : Nat) tr) →
      Fr h₀ env.locals s₁.heap m₁ → News h₀ env.locals s₁.heap ((I, oI) :: (lp, listOf vs' k) :: news) → G s₁ → 0 < s₁.toks →
        wpAny (model prog w) A (assign target env (.str y ty)) (fun _ s₂ => wpAny (model prog w) A (execs body env) (TEnd h₀ env.locals G I oI (fun m' n' => ∃ vs' k part run tp tr, n' = (lp, listOf vs' k) :: news ∧ TxtAll vs'.toList (cutRun (xs.take (i + 1))).1 ∧ codes part = (cutRun (xs.take (i + 1))).2.1 ∧ run = (cutRun (xs.take (i + 1))).2.2 ∧ (∀ y, y ∉ ysK → m' y = m₀ y) ∧ m' (Str.ofString "part") = some (.str part tp) ∧ m' (Str.ofString "run") = some (.int (run : Nat) tr)) Q) (fun _ _ => False) s₂) (fun _ _ => False) s₁)
    (fin : ∀ m' vs' k part tp s', TxtAll vs'.toList (cutRun xs).1 → codes part = (cutRun xs).2.1 → (∀ y, y ∉ ysK → m' y = m₀ y) → m' (Str.ofString "part") = some (.str part tp) → Fr h₀ env.locals s'.heap m' → News h₀ env.locals s'.heap ((lp, listOf vs' k) :: news) → G s' → 0 < s'.toks → Q .next s') :
    MFor prog w A E env target body Q (.ref l) s := by
  k_with "proof" =>
    have hlen := hx.len
    refine MFor.list (G := G) (ax := l) (items := vs.toArray) hG hh F N ⟨hg, ht⟩ (fun i m' n' => ∃ vs' k part run tp tr, n' = (lp, listOf vs' k) :: news ∧ TxtAll vs'.toList (cutRun (xs.take i)).1 ∧ codes part = (cutRun (xs.take i)).2.1 ∧ run = (cutRun (xs.take i)).2.2 ∧ (∀ y, y ∉ ysK → m' y = m₀ y) ∧ m' (Str.ofString "part") = some (.str part tp) ∧ m' (Str.ofString "run") = some (.int (run : Nat) tr)) ?_ ?_ ?_ ?_
    · rintro i m' n' ⟨vs', k, part, run, tp, tr, rfl, _⟩
      exact .inr ⟨_, List.mem_cons_of_mem _ hm, rfl, n, rfl⟩
    · exact ⟨#[], 0, Str.empty, 0, t0, t1, rfl, TxtAll.nil, rfl, rfl, fun _ _ => rfl, hp0, hr0⟩
    · rintro I hI i v oI m₁ news₁ s₁ hi hv ⟨vs', k, part, run, tp, tr, rfl, h1, h2, h3, h4, h5, h6⟩ hoff F₁ N₁ O₁
      have hv' : vs[i]? = some v := by simpa using hv
      obtain ⟨y, ty, rfl, hy⟩ := hx.at hv'
      exact turn I (allLt_of hI) i y ty oI m₁ vs' k part run tp tr s₁ (by simpa using hi) hy h1 h2 h3 h4 h5 h6 F₁ N₁ O₁.g O₁.t
    · rintro m' news' s' ⟨vs', k, part, run, tp, tr, rfl, h1, h2, h3, h4, h5, h6⟩ F' N' O'
      have e : xs.take vs.toArray.size = xs := List.take_of_length_le (by simp [hlen])
      rw [e] at h1 h2
      exact fin m' vs' k part tp s' h1 h2 h4 h5 F' N' O'.g O'.t
  run_tac Mine.sq default
end
theorem cutEnd {h₀ : Heap} {L I lp : Addr} {G : Shared → Prop} {oI : Obj} {vs2 : Array Value} {k2 i run2 : Nat} {z : Int} {part2 : Str} {tp tr : Tok} {news : List (Addr × Obj)} {m' m₀ : Str → Option Value} {s₂ : Shared} {xs : List (List Nat)} {st : CSt} {Q : Flow → Shared → Prop} (F : Fr h₀ L s₂.heap m') (N : News h₀ L s₂.heap ((I, oI) :: (lp, listOf vs2 k2) :: news)) (off : AllLt I ((lp, listOf #[] 0) :: news))
    (hst : cutRun (xs.take (i + 1)) = st) (hT : TxtAll vs2.toList st.1) (hp : codes part2 = st.2.1) (hr : run2 = st.2.2) (hz : z = (run2 : Int)) (hpart : m' (Str.ofString "part") = some (.str part2 tp)) (hrun : m' (Str.ofString "run") = some (.int z tr)) (hm : ∀ y, y ∉ ysK → m' y = m₀ y) (hg : G s₂) (ht : 0 < s₂.toks) :
    TEnd h₀ L G I oI (fun m' n' => ∃ vs' k part run tp tr, n' = (lp, listOf vs' k) :: news ∧ TxtAll vs'.toList (cutRun (xs.take (i + 1))).1 ∧ codes part = (cutRun (xs.take (i + 1))).2.1 ∧ run = (cutRun (xs.take (i + 1))).2.2 ∧ (∀ y, y ∉ ysK → m' y = m₀ y) ∧ m' (Str.ofString "part") = some (.str part tp) ∧ m' (Str.ofString "run") = some (.int (run : Nat) tr)) Q .next s₂ := by
  k_with "proof" =>
    subst hst hz
    exact TEnd.next F N (off_of off) ⟨_, _, _, _, _, _, rfl, hT, hp, hr, hm, hpart, hrun⟩ hg ht
  run_tac Mine.sq default
theorem wl_CutT_1 : True := by
  k_with "execs cons" => run_tac Mine.ln "CutT.1"
  k_with "own CutT.1" => (k_here; (with_reducible show wpAny _ _ _ _ _ (Shared.mk _ _ _ (_ + _) _)); refine gen_tok (by omega) ?_; intro _ _)
  trivial
theorem wl_CutT_2 : True := by
  k_with "execs nil" => run_tac Mine.ln "CutT.2"
  k_with "own CutT.2" => (k_here; (with_reducible show wpAny _ _ _ _ _ (Shared.mk _ _ _ (_ + _) _)); refine gen_tok (by omega) ?_; intro _ _)
  trivial
theorem wl_CutT_3 : True := by
  k_with "exec For Name Name cons nil" => run_tac Mine.ln "CutT.3"
  k_with "own CutT.3" => (k_here; k_dflt (refine' m_for' ?mft ?_; (case mft => first | assumption | (dsimp only; omega))))
  trivial
theorem wl_CutT_4 : True := by
  k_with "binaryOp Mult str int" => run_tac Mine.ln "CutT.4"
  k_with "own CutT.4" => (k_here; (with_reducible show wpAny _ _ (binaryOp Operator.Mult (Value.str _ _) (Value.int (Int.fdiv _ 2) _)) _ _ _); k_dflt (refine' mulQ ?mqr ?_; (case mqr => omega)); intro _ _ _ _ _)
  trivial
theorem wl_CutT_5 : True := by
  k_with "inplaceOp Add str str" => run_tac Mine.ln "CutT.5"
  k_with "own CutT.5" => (k_here; (with_reducible show wpAny _ _ (inplaceOp Operator.Add (Value.str _ _) (Value.str _ _)) _ _ _); k_dflt (refine' iaddQ ?iqs ?_; (case iqs => ((try simp only [len_app]); omega))); intro _ _)
  trivial
theorem wl_CutT_6 : True := by
  k_with "call builtin:list.append" => run_tac Mine.ln "CutT.6"
  k_with "own CutT.6" => (k_here; (with_reducible show wpAny _ _ (call (Value.builtin _) [Value.ref _, _]) _ _ _); k_dflt (refine' append_K ?apF ?apN ?apU ?_ ?apz; (case apF => k_asm); (case apN => k_asm); (case apU => (apply Upd.tail; · k_ne; apply Upd.head; exact fun p hp => Nat.ne_of_lt (allLt_all (by assumption) p hp))); (case apz => assumption); k_whole); intro h' F' N'; (try k_sweep))
  trivial
theorem cut_c (w : World) (mean : ExcName → Option Value) (mg mb : Str → Option Value) (news : List (Addr × Obj)) (l : Addr) (vs : List Value) (xs : List (List Nat)) (k : Nat) (hm : (l, listOf vs.toArray k) ∈ news) (hx : TxtAll vs xs) (hn : xs.length ≤ 300) (hl : ∀ x ∈ xs, x.length ≤ 8) :
    Ct w mean mg mb 290 1 20 news [.ref l] (fun v news' => Grow news' news fun add => ∃ D vs k, v = .ref D ∧ (D, listOf vs k) ∈ add ∧ TxtAll vs.toList (cutF xs)) := by
  k_with "proof" =>
    dsimp only [Ct, CtR, CtRet, PG, VW, LO]
    k_fill
    intros; rename_i hret
    refine pos_toks (by assumption) (wpAny_call ?_)
    (k_dflt cell_enter)
    k_steps
    rename_i tpos
    with_reducible rename News _ _ _ _ => N
    with_reducible rename Fr _ _ _ _ => F
    refine MFor.cut (G := Same _) shut_same rfl F N (⟨rfl, rfl, rfl⟩ : Same _ _) tpos hm hx rfl rfl ?_ ?_
    · intro I hI i y ty oI m₁ vs' k part run tp tr s₁ hi hy h1 h2 h3 h4 h5 h6 F₁ N₁ g₁ t₁
      have F₂ := Fr.ovr F₁ [(Str.ofString "sign", m₁ (Str.ofString "sign")), (Str.ofString "run", some (.int (run : Nat) tr)), (Str.ofString "part", some (.str part tp))] (List.forall_mem_cons.mpr ⟨rfl, List.forall_mem_cons.mpr ⟨h6, List.forall_mem_cons.mpr ⟨h5, List.forall_mem_nil _⟩⟩⟩) h4
      dsimp only [ovr] at F₂
      clear F₁
      have hI0 := hI
      dsimp only [AllLt] at hI
      have hyl : y.length ≤ 8 := by
        rw [← codes_len]; exact hl _ (List.mem_of_getElem? hy)
      have hB := cutRun_len (xs.take i) (fun x hx => hl x (List.mem_of_mem_take hx)) ([], [], 0)
      have hB1 : part.length + run ≤ 2400 := by
        have e1 : part.length = (cutRun (xs.take i)).2.1.length := by rw [← h2, codes_len]
        have e2 : (xs.take i).length ≤ 300 := by rw [List.length_take]; omega
        have e3 := hB.1
        rw [e1, h3]
        simp only [List.length_nil] at e3
        unfold cutRun
        omega
      have hB2 : vs'.size ≤ sizeLine := by
        have e1 := h1.len
        have e2 : (xs.take i).length ≤ 300 := by rw [List.length_take]; omega
        have e3 := hB.2
        simp only [List.length_nil] at e3
        rw [sizeLine_eq]
        unfold cutRun at e1
        rw [← Array.length_toList]
        omega
      k_steps
      · refine' cutEnd (run2 := run + 1) ?cAF ?cAN hI0 ((cut_take hy).trans ?cAs) ?cAT ?cAP ?cAR ?cAz ?cAp ?cAr ?cAm ⟨g₁.o, g₁.d, g₁.g⟩ ?cAt
        case cAF => assumption
        case cAN => assumption
        case cAp => exact rfl
        case cAr => exact rfl
        case cAs => exact (if_pos (codes_q (by assumption)))
        case cAT => exact h1
        case cAP => exact h2
        case cAR => (rw [h3])
        case cAz => first | rfl | omega
        case cAm =>
          intro y hy
          simp only [ysK, List.mem_cons, not_or, List.not_mem_nil, not_false_eq_true, and_true] at hy
          simp only [if_neg hy.1, if_neg hy.2.1, if_neg hy.2.2]
        case cAt => first | assumption | (dsimp only; omega)
      · refine' cutEnd (run2 := 0) ?cBF ?cBN hI0 ((cut_take hy).trans ?cBs) ?cBT ?cBP ?cBR ?cBz ?cBp ?cBr ?cBm ⟨g₁.o, g₁.d, g₁.g⟩ ?cBt
        case cBF => assumption
        case cBN => assumption
        case cBp => exact rfl
        case cBr => exact rfl
        case cBs => exact ((if_neg (codes_nq (by assumption))).trans ((if_neg (codes_ne (by assumption))).trans (if_pos (h3 ▸ odd_of (by assumption)))))
        case cBT => exact (by rw [← h2, ← h3, ← ‹codes _ = List.replicate (run / 2) 34›, ← codes_app, Array.toList_push]; exact h1.snoc)
        case cBP => (rw [codes_app]; rfl)
        case cBR => rfl
        case cBz => first | rfl | omega
        case cBm =>
          intro y hy
          simp only [ysK, List.mem_cons, not_or, List.not_mem_nil, not_false_eq_true, and_true] at hy
          simp only [if_neg hy.1, if_neg hy.2.1, if_neg hy.2.2]
        case cBt => first | assumption | (dsimp only; omega)
      · refine' cutEnd (run2 := 0) ?cCF ?cCN hI0 ((cut_take hy).trans ?cCs) ?cCT ?cCP ?cCR ?cCz ?cCp ?cCr ?cCm ⟨g₁.o, g₁.d, g₁.g⟩ ?cCt
        case cCF => assumption
        case cCN => assumption
        case cCp => exact rfl
        case cCr => exact rfl
        case cCs => exact ((if_neg (codes_nq (by assumption))).trans ((if_neg (codes_ne (by assumption))).trans (if_neg (h3 ▸ even_of (by assumption)))))
        case cCT => exact h1
        case cCP => (rw [codes_app, codes_app, h2, ← h3, ‹codes _ = List.replicate (run / 2) 34›])
        case cCR => rfl
        case cCz => first | rfl | omega
        case cCm =>
          intro y hy
          simp only [ysK, List.mem_cons, not_or, List.not_mem_nil, not_false_eq_true, and_true] at hy
          simp only [if_neg hy.1, if_neg hy.2.1, if_neg hy.2.2]
        case cCt => first | assumption | (dsimp only; omega)
      · refine' cutEnd (run2 := run) ?cDF ?cDN hI0 ((cut_take hy).trans ?cDs) ?cDT ?cDP ?cDR ?cDz ?cDp ?cDr ?cDm ⟨g₁.o, g₁.d, g₁.g⟩ ?cDt
        case cDF => assumption
        case cDN => assumption
        case cDp => exact rfl
        case cDr => exact rfl
        case cDs => exact ((if_neg (codes_nq (by assumption))).trans (if_pos (codes_e (by assumption))))
        case cDT => exact h1
        case cDP => exact h2
        case cDR => exact h3
        case cDz => first | rfl | omega
        case cDm =>
          intro y hy
          simp only [ysK, List.mem_cons, not_or, List.not_mem_nil, not_false_eq_true, and_true] at hy
          simp only [if_neg hy.1, if_neg hy.2.1, if_neg hy.2.2]
        case cDt => first | assumption | (dsimp only; omega)
    · intro m' vs' k part tp s' h1 h2 h4 h5 F₁ N₁ g₁ t₁
      have F₂ := Fr.ovr F₁ [(Str.ofString "sign", m' (Str.ofString "sign")), (Str.ofString "run", m' (Str.ofString "run")), (Str.ofString "part", some (.str part tp))] (List.forall_mem_cons.mpr ⟨rfl, List.forall_mem_cons.mpr ⟨rfl, List.forall_mem_cons.mpr ⟨h5, List.forall_mem_nil _⟩⟩⟩) h4
      dsimp only [ovr] at F₂
      clear F₁
      have hB := cutRun_len xs hl ([], [], 0)
      have hB2 : vs'.size ≤ 300 := by
        have e1 := h1.len
        have e3 := hB.2
        simp only [List.length_nil] at e3
        unfold cutRun at e1
        rw [← Array.length_toList]
        omega
      k_steps
      refine' addMem' ?qF ?qN ?q1 ?q2 ?qs ?_
      case qF => k_asm
      case qN => k_asm
      case q1 => k_mem
      case q2 => k_mem
      case qs => (rw [sizeLine_eq]; show vs'.size + 1 ≤ _; omega)
      intro D9 h9 F9 N9 l9
      dsimp only [AllLt] at l9
      k_steps
      refine' hret _ _ _ ?rF ?rN ⟨g₁.o, g₁.d, g₁.g⟩ (by assumption) ?_
      case rF => assumption
      case rN => assumption
      iterate 3 refine Grow.succ (by first | run_tac mHyp | exact allLt_of (by assumption)) ?_
      refine Grow.zero ⟨_, _, _, rfl, List.mem_cons_self .., ?_⟩
      show TxtAll (vs'.toList ++ [.str part tp]) (cutF xs)
      unfold cutF
      rw [← h2]
      exact h1.snoc
  run_tac Mine.sq default
end Mine
end
theorem Mine.wl_CutT_end : True := by
  k_with_none
  trivial
section -- ParT
open PySem PySem.W PySem.Calls PyProof.Rows
namespace Mine
theorem wl_ParT_0 : True := by
  k_with_none
  trivial
theorem wl_ParT_1 : True := by
  k_with "execs cons" => run_tac Mine.ln "ParT.1"
  k_with "own ParT.1" => (k_here; (with_reducible show wpAny _ _ _ _ _ (Shared.mk _ _ _ (_ + _) _)); refine gen_tok (by omega) ?_; intro _ _)
  trivial
theorem wl_ParT_2 : True := by
  k_with "execs nil" => run_tac Mine.ln "ParT.2"
  k_with "own ParT.2" => (k_here; (with_reducible show wpAny _ _ _ _ _ (Shared.mk _ _ _ (_ + _) _)); refine gen_tok (by omega) ?_; intro _ _)
  trivial
theorem wl_ParT_3 : True := by
  k_with "exec While Compare" => run_tac Mine.ln "ParT.3"
  k_with "own ParT.3" => (k_here; k_dflt (refine m_while ?_))
  trivial
theorem wl_ParT_4 : True := by
  k_with "subscriptTail" => run_tac Mine.ln "ParT.4"
  k_with "own ParT.4" => (k_here; (with_reducible show wpAny _ _ (subscriptTail _ (Expr.Slice _ _ _ _) (Value.str _ _) (Value.ref _)) _ _ _); (with_reducible rename Fr _ _ _ _ => F'); (with_reducible rename News _ _ _ _ => N'); k_dflt (first | refine slNS (s := ⟨_, _, _, _, _⟩) F' N' (by assumption) (by assumption) ?_ | refine slSS (s := ⟨_, _, _, _, _⟩) F' N' (by assumption) (by assumption) ?_); intro _ _ _ _ _)
  trivial
theorem wl_ParT_5 : True := by
  k_with "subscriptTail Name Name str int" => run_tac Mine.ln "ParT.5"
  k_with "own ParT.5" => (k_here; (with_reducible show wpAny _ _ (subscriptTail _ _ (Value.str _ _) (Value.int (Nat.cast (5 + _)) _)) _ _ _); k_dflt (refine' itAt ?iaR ?iax ?iai ?iap ?_; (case iaR => assumption); (case iax => assumption); (case iai => exact rfl); (case iap => (have hdec := of_decide_eq_true ‹decide _ = true›; omega))); intro _ _ _ _)
  trivial
theorem wl_ParT_6 : True := by
  k_with "subscriptTail Name Name str int" => run_tac Mine.ln "ParT.6"
  k_with "own ParT.6" => (k_here; (with_reducible show wpAny _ _ (subscriptTail _ _ (Value.str _ _) (Value.int (Nat.cast (5 + _) + 1) _)) _ _ _); k_dflt (refine' itAt1 ?ibR ?ibx ?ibp ?_; (case ibR => assumption); (case ibx => assumption); (case ibp => omega)); intro _ _ _ _)
  trivial
theorem wl_ParT_7 : True := by
  k_with "binaryOp Add str str" => run_tac Mine.ln "ParT.7"
  k_with "own ParT.7" => (k_here; (with_reducible show wpAny _ _ (binaryOp Operator.Add (Value.str _ _) (Value.str _ _)) _ _ _); k_dflt (refine' add1 ?adl ?_; (case adl => omega)); intro _ _)
  trivial
theorem wl_ParT_8 : True := by
  k_with "call builtin:len" => run_tac Mine.ln "ParT.8"
  k_with "own ParT.8" => (k_here; (with_reducible show wpAny _ _ (call (Value.builtin "len") [Value.str _ _]) _ _ _); k_dflt (refine' lenR ?leR ?lex ?_; (case leR => assumption); (case lex => assumption)); intro _ _)
  trivial
theorem par_c (w : World) (mean : ExcName → Option Value) (mg mb : Str → Option Value) (news : List (Addr × Obj)) (R : Str) (t : Tok) (x : List Nat) (hR : R.cps.toList = [50, 53, 55, 32, 34] ++ x) (hx : x.length ≤ 4096) :
    Ct w mean mg mb 134 1 20 news [.str R t] (fun v news' => news' = news ∧ ∃ y t', v = .str y t' ∧ y.cps.toList = par x) := by
  k_with "proof" =>
    dsimp only [Ct, CtR, CtRet, PG, VW, LO]
    k_fill
    intros; rename_i hret
    refine pos_toks (by assumption) (wpAny_call ?_)
    (k_dflt cell_enter)
    k_steps
    with_reducible rename News _ _ _ _ => N
    with_reducible rename Fr _ _ _ _ => F
    refine MWhl.par (x := x) F N rfl rfl ?_ ?_
    · intro m₁ d t p ti s₁ F₁ N₁ S₁ hd hi hp hl hr hm
      have F₂ := Fr.ovr F₁ [(Str.ofString "i", some (.int ((5 + p : Nat) : Int) ti)), (Str.ofString "c", m₁ (Str.ofString "c")), (Str.ofString "dirname", some (.str d t))] (List.forall_mem_cons.mpr ⟨hi, List.forall_mem_cons.mpr ⟨rfl, List.forall_mem_cons.mpr ⟨hd, List.forall_mem_nil _⟩⟩⟩) hm
      dsimp only [ovr] at F₂
      clear F₁
      k_steps
      · show PFin _ _ _ _ _ _ _
        refine' pfin ?fAF ?fAN ⟨S₁.o, S₁.d, S₁.g⟩ ?fAd ?fAr ?fAm
        case fAF => assumption
        case fAN => assumption
        case fAd => exact rfl
        case fAr => exact par_end1 hr (by assumption) (is34 (by assumption)) (by omega)
        case fAm =>
          intro y hy
          simp only [ysP, List.mem_cons, not_or, List.not_mem_nil, not_false_eq_true, and_true] at hy
          simp only [if_neg hy.1, if_neg hy.2.1, if_neg hy.2.2]
      · show PFin _ _ _ _ _ _ _
        refine' pfin ?fBF ?fBN ⟨S₁.o, S₁.d, S₁.g⟩ ?fBd ?fBr ?fBm
        case fBF => assumption
        case fBN => assumption
        case fBd => exact rfl
        case fBr => exact par_end2 hr (by assumption) (is34 (by assumption)) (by assumption) (ne34 (by assumption))
        case fBm =>
          intro y hy
          simp only [ysP, List.mem_cons, not_or, List.not_mem_nil, not_false_eq_true, and_true] at hy
          simp only [if_neg hy.1, if_neg hy.2.1, if_neg hy.2.2]
      · refine' pnext (p' := p + 2) ?nAF ?nAN ⟨S₁.o, S₁.d, S₁.g⟩ ?nAd ?nAi ?nAz ?nAp ?nAl ?nAr ?nAm ?nAt
        case nAF => assumption
        case nAN => assumption
        case nAd => exact rfl
        case nAi => exact rfl
        case nAz => omega
        case nAp => first | omega | ((have hdec := of_decide_eq_true ‹decide _ = true›); omega)
        case nAl => (rw [len1]; omega)
        case nAr => exact par_step2 hr (by assumption) (is34 (by assumption)) (by assumption) (by first | exact eq34 (by assumption) | exact eq34' (by assumption))
        case nAm =>
          intro y hy
          simp only [ysP, List.mem_cons, not_or, List.not_mem_nil, not_false_eq_true, and_true] at hy
          simp only [if_neg hy.1, if_neg hy.2.1, if_neg hy.2.2]
        case nAt => omega
      · refine' pnext (p' := p + 1) ?nBF ?nBN ⟨S₁.o, S₁.d, S₁.g⟩ ?nBd ?nBi ?nBz ?nBp ?nBl ?nBr ?nBm ?nBt
        case nBF => assumption
        case nBN => assumption
        case nBd => exact rfl
        case nBi => exact rfl
        case nBz => omega
        case nBp => first | omega | ((have hdec := of_decide_eq_true ‹decide _ = true›); omega)
        case nBl => (rw [len1]; omega)
        case nBr => exact par_step1 hr (by assumption) (by first | exact not34 (by assumption) | exact not34' (by assumption))
        case nBm =>
          intro y hy
          simp only [ysP, List.mem_cons, not_or, List.not_mem_nil, not_false_eq_true, and_true] at hy
          simp only [if_neg hy.1, if_neg hy.2.1, if_neg hy.2.2]
        case nBt => omega
      · skip
        refine' pfin ?fCF ?fCN ⟨S₁.o, S₁.d, S₁.g⟩ ?fCd ?fCr ?fCm
        case fCF => assumption
        case fCN => assumption
        case fCd => exact rfl
        case fCr => exact par_end0 hr (by have hdec := of_decide_eq_false ‹decide _ = false›; omega)
        case fCm =>
          intro y hy
          simp only [ysP, List.mem_cons, not_or, List.not_mem_nil, not_false_eq_true, and_true] at hy
          simp only [if_neg hy.1, if_neg hy.2.1, if_neg hy.2.2]
    · intro m' d t s' F₁ N₁ S₁ hd hp hm
      have F₂ := Fr.ovr F₁ [(Str.ofString "i", m' (Str.ofString "i")), (Str.ofString "c", m' (Str.ofString "c")), (Str.ofString "dirname", some (.str d t))] (List.forall_mem_cons.mpr ⟨rfl, List.forall_mem_cons.mpr ⟨rfl, List.forall_mem_cons.mpr ⟨hd, List.forall_mem_nil _⟩⟩⟩) hm
      dsimp only [ovr] at F₂
      clear F₁
      k_steps
      exact hret _ _ _ (by assumption) (by assumption) ⟨S₁.o, S₁.d, S₁.g⟩ (by assumption) ⟨rfl, d, t, rfl, hp⟩
  run_tac Mine.sq default
end Mine
end
theorem Mine.wl_ParT_end : True := by
  k_with_none
  trivial
section -- ReadL
open PySem PySem.W PySem.Calls PySem.Spec PyProof.Rows
namespace Mine
/-- _law_read over codes; the number is fuel -/
noncomputable def readN : Nat → List Nat → List (List Nat)
  | 0, _ => []
  | n + 1, x => if x.length < (par x).length + (par x).count 34 + 1 then [par x] else par x :: readN n (x.drop ((par x).length + (par x).count 34 + 1))
noncomputable def readF (x : List Nat) : List (List Nat) := readN (x.length + 1) x
theorem readN_fuel : ∀ (n m : Nat) (x : List Nat), x.length < n → x.length < m → readN n x = readN m x
  | 0, _, _, h, _ => absurd h (Nat.not_lt_zero _)
  | _ + 1, 0, _, _, h => absurd h (Nat.not_lt_zero _)
  | n + 1, m + 1, x, hn, hm => by
    unfold readN
    split
    · rfl
    · rename_i h
      rw [readN_fuel n m _ (by rw [List.length_drop]; omega) (by rw [List.length_drop]; omega)]
theorem readF_stop {x : List Nat} (h : x.length < (par x).length + (par x).count 34 + 1) : readF x = [par x] := by
  unfold readF readN; rw [if_pos h]
theorem readF_go {x : List Nat} (h : ¬ x.length < (par x).length + (par x).count 34 + 1) : readF x = par x :: readF (x.drop ((par x).length + (par x).count 34 + 1)) := by
  k_with "proof" =>
    unfold readF
    rw [readN, if_neg h]
    congr 1
    exact readN_fuel _ _ _ (by rw [List.length_drop]; omega) (by omega)
  run_tac Mine.sq default
theorem par_len : ∀ (n : Nat) (x : List Nat), x.length ≤ n → (par x).length ≤ x.length
  | _, [], _ => by simp [par]
  | _, [c], _ => by unfold par; split <;> simp
  | 0, _ :: _ :: _, h => by simp at h
  | n + 1, c :: d :: r, h => by
    unfold par
    split
    · split
      · have := par_len n r (by simp at h; omega)
        simp; omega
      · simp
    · have := par_len n (d :: r) (by simpa using h)
      simp at this ⊢; omega
noncomputable def ysR : List Str := [Str.ofString "part", Str.ofString "used", Str.ofString "rest"]
section
variable {prog : Program} {w : World} {A : Around} {E : Value → Shared → Prop} {s : Shared} {env : Env} {test : Expr} {body : List Stmt} {Q : Flow → Shared → Prop} {h₀ : Heap} {news : List (Addr × Obj)}
noncomputable def RJ (h₀ : Heap) (L lp : Addr) (s0 : Shared) (m₀ : Str → Option Value) (news : List (Addr × Obj)) (x : List Nat) (k : Nat) (s' : Shared) : Prop :=
  ∃ m' vs' kk r tr pre, Fr h₀ L s'.heap m' ∧ News h₀ L s'.heap ((lp, listOf vs' kk) :: news) ∧ Same s0 s' ∧ 0 < s'.toks ∧ m' (Str.ofString "rest") = some (.str r tr) ∧ r.length ≤ x.length ∧ vs'.size + r.length ≤ x.length ∧ TxtAll vs'.toList pre ∧ pre ++ readF (codes r) = readF x ∧ (∀ y, y ∉ ysR → m' y = m₀ y) ∧ k = r.length
noncomputable def REnd (J : Nat → Shared → Prop) (h₀ : Heap) (L lp : Addr) (s0 : Shared) (news : List (Addr × Obj)) (x : List Nat) (k : Nat) (f : Flow) (s₃ : Shared) : Prop :=
  match f with
  | .brk => False
  | .ret v => v = .ref lp ∧ ∃ m' vs' kk, Fr h₀ L s₃.heap m' ∧ News h₀ L s₃.heap ((lp, listOf vs' kk) :: news) ∧ Same s0 s₃ ∧ 0 < s₃.toks ∧ TxtAll vs'.toList (readF x)
  | _ => ∃ k', k' < k ∧ J k' s₃
theorem MWhl.read {lp : Addr} {m₀ : Str → Option Value} {P : Str} {t : Tok} (F : Fr h₀ env.locals s.heap m₀) (N : News h₀ env.locals s.heap ((lp, listOf #[] 0) :: news)) (ht : 0 < s.toks) (hr0 : m₀ (Str.ofString "rest") = some (.str P t))
    (turn : ∀ m₁ vs' kk r tr pre s₁, Fr h₀ env.locals s₁.heap m₁ → News h₀ env.locals s₁.heap ((lp, listOf vs' kk) :: news) → Same s s₁ → 0 < s₁.toks → m₁ (Str.ofString "rest") = some (.str r tr) → vs'.size + r.length ≤ (codes P).length → TxtAll vs'.toList pre → pre ++ readF (codes r) = readF (codes P) → (∀ y, y ∉ ysR → m₁ y = m₀ y) →
      wpAny (model prog w) A (isTrue test env (eval test env)) (fun b s₂ => (b = true → wpAny (model prog w) A (execs body env) (REnd (RJ h₀ env.locals lp s m₀ news (codes P)) h₀ env.locals lp s news (codes P) r.length) (fun _ _ => False) s₂) ∧ (b = false → False)) (fun _ _ => False) s₁)
    (fin : ∀ m' vs' kk s', Fr h₀ env.locals s'.heap m' → News h₀ env.locals s'.heap ((lp, listOf vs' kk) :: news) → Same s s' → 0 < s'.toks → TxtAll vs'.toList (readF (codes P)) → Q (.ret (.ref lp)) s') :
    MWhl prog w A E env test body Q s := by
  k_with "proof" =>
    refine MWhl.inv (RJ h₀ env.locals lp s m₀ news (codes P)) ?_ P.length ⟨m₀, #[], 0, P, t, [], F, N, Same.rfl', ht, hr0, by rw [codes_len]; exact Nat.le_refl _, by rw [codes_len]; simp, TxtAll.nil, rfl, fun _ _ => rfl, rfl⟩
    rintro k s₁ ⟨m₁, vs', kk, r, tr, pre, F₁, N₁, S₁, t₁, hr₁, _, hs, hT, hp, hm, rfl⟩
    refine wpAny_mono (turn m₁ vs' kk r tr pre s₁ F₁ N₁ S₁ t₁ hr₁ hs hT hp hm) (fun b s₂ h₂ => ⟨fun e => ?_, fun e => (h₂.2 e).elim⟩) fun _ _ e => e
    refine wpAny_mono (h₂.1 e) (fun f s₃ h₃ => ?_) fun _ _ e => e
    cases f with
    | next => exact h₃
    | cont => exact h₃
    | brk => exact h₃.elim
    | ret v =>
      obtain ⟨rfl, m', vs', kk, a, b, c, d, e⟩ := h₃
      exact fin m' vs' kk _ a b c d e
  run_tac Mine.sq default
end
theorem sum_count (c : Nat) : ∀ l : List Nat, (l.map fun n => if decide (n = c) = true then (1 : Int) else 0).sum = ((l.count c : Nat) : Int)
  | [] => rfl
  | n :: r => by
    rw [List.map_cons, List.sum_cons, sum_count c r, List.count_cons]
    by_cases e : n = c
    · simp [e]; omega
    · simp [e]
theorem count34 (y : Str) : Txt.count y (Str.ofString "\"") = (((codes y).count 34 : Nat) : Int) := by
  have e := count_is y 34
  rw [countIn_signs_sum, sum_count] at e
  exact e
theorem slice_drop {x : Str} {n : Nat} (h : n ≤ x.length) : codes (Txt.slice x (some ((n : Nat) : Int)) none) = (codes x).drop n := by
  k_with "proof" =>
    rw [slice_from_eq (b := x.length) (by omega) (by omega) rfl]
    show (List.take _ (List.drop _ x.cps.toList)) = _
    rw [List.take_of_length_le]
    · rfl
    · rw [List.length_drop]
      have : x.cps.toList.length = x.length := codes_len x
      omega
  run_tac Mine.sq default
section
variable {h₀ : Heap} {L lp : Addr} {s0 s₃ : Shared} {m₀ m' : Str → Option Value} {news : List (Addr × Obj)} {vs' : Array Value} {kk : Nat} {P r y : Str} {ty tr : Tok} {J : Nat → Shared → Prop} {pre : List (List Nat)} {z : Int} {k : Nat}
theorem rret (F : Fr h₀ L s₃.heap m') (N : News h₀ L s₃.heap ((lp, listOf (vs'.push (.str y ty)) kk) :: news)) (S : Same s0 s₃) (ht : 0 < s₃.toks) (hT : TxtAll vs'.toList pre) (hp : pre ++ readF (codes r) = readF (codes P)) (hy : y.cps.toList = par (codes r))
    (h : ((codes r).length : Int) < ((codes y).length : Int) + Txt.count y (Str.ofString "\"") + 1) : REnd J h₀ L lp s0 news (codes P) k (.ret (.ref lp)) s₃ := by
  k_with "proof" =>
    refine ⟨rfl, m', _, _, F, N, S, ht, ?_⟩
    have e : codes y = par (codes r) := hy
    rw [count34, e] at h
    rw [← hp, readF_stop (by omega), Array.toList_push, ← e]
    exact hT.snoc
  run_tac Mine.sq default
theorem rnext (F : Fr h₀ L s₃.heap m') (N : News h₀ L s₃.heap ((lp, listOf (vs'.push (.str y ty)) kk) :: news)) (S : Same s0 s₃) (ht : 0 < s₃.toks) (hr : m' (Str.ofString "rest") = some (.str (Txt.slice r (some (((codes y).length : Int) + Txt.count y (Str.ofString "\"") + 1)) none) tr)) (hs : vs'.size + r.length ≤ (codes P).length) (hT : TxtAll vs'.toList pre) (hp : pre ++ readF (codes r) = readF (codes P)) (hm : ∀ y, y ∉ ysR → m' y = m₀ y) (hy : y.cps.toList = par (codes r))
    (h : ¬ ((codes r).length : Int) < ((codes y).length : Int) + Txt.count y (Str.ofString "\"") + 1) : REnd (RJ h₀ L lp s0 m₀ news (codes P)) h₀ L lp s0 news (codes P) r.length .next s₃ := by
  k_with "proof" =>
    have e : codes y = par (codes r) := hy
    rw [count34] at h hr
    have hi : (((codes y).length : Int) + (((codes y).count 34 : Nat) : Int) + 1) = (((codes y).length + (codes y).count 34 + 1 : Nat) : Int) := by omega
    rw [hi] at hr
    have hle : (codes y).length + (codes y).count 34 + 1 ≤ r.length := by rw [← codes_len r]; omega
    have hd := slice_drop (x := r) hle
    have hl : (Txt.slice r (some (((codes y).length + (codes y).count 34 + 1 : Nat) : Int)) none).length = r.length - ((codes y).length + (codes y).count 34 + 1) := by
      rw [← codes_len, hd, List.length_drop, codes_len]
    refine ⟨_, ?_, m', _, _, _, tr, pre ++ [codes y], F, N, S, ht, hr, ?_, ?_, ?_, ?_, hm, rfl⟩
    · rw [hl]; omega
    · rw [hl]; omega
    · rw [hl, Array.size_push]; omega
    · rw [Array.toList_push]; exact hT.snoc
    · rw [hd, ← hp, readF_go (x := codes r) (by rw [← e]; omega), List.append_assoc, e]; rfl
  run_tac Mine.sq default
end
end Mine
end
section -- ReadT
open PySem PySem.W PySem.Calls PyProof.Rows
namespace Mine
theorem wl_ReadT_0 : True := by
  k_with_none
  trivial
section
variable {prog : Program} {w : World} {A : Around} {E : Value → Shared → Prop} {s : Shared} {Q : Value → Shared → Prop}
theorem addP {r : Str} {t u : Tok} (hr : r.length ≤ 4096) (h : ∀ y t' k, y.cps.toList = [50, 53, 55, 32, 34] ++ codes r → Q (.str y t') { s with toks := k }) : wpAny (model prog w) A (binaryOp .Add (.str (Str.ofString "257 \"") t) (.str r u)) Q E s :=
  PyProof.Rows.add_str (fun t' k => h _ t' k (by
    have e := codes_app (Str.ofString "257 \"") r
    exact e)) (by rw [sizeLine_eq]; show 5 + r.length ≤ _; omega)
end
theorem lenS {prog : Program} {w : World} {A : Around} {E : Value → Shared → Prop} {s : Shared} {QQ : Value → Shared → Prop} {y : Str} {t : Tok} (hy : y.length ≤ 4096) (h : ∀ t' k, QQ (.int ((codes y).length : Nat) t') { s with toks := k }) : wpAny (model prog w) A (call (.builtin "len") [.str y t]) QQ E s := by
  k_with "proof" =>
    refine len_str (by omega) ?_
    rw [← codes_len]
    exact h _ _
  run_tac Mine.sq default
theorem par_le {y r : Str} (hy : y.cps.toList = par (codes r)) : y.length ≤ r.length := by
  rw [← codes_len y, ← codes_len r]
  show y.cps.toList.length ≤ _
  rw [hy]
  exact par_len _ _ (Nat.le_refl _)
theorem lt3 {a b : Nat} (h : a + 3 < b) : a + 1 + 1 < b := by omega
theorem unitsR {dp un : Nat} {gd : Option (List Code)} {cn : Str} {cs : Scope} {L a : Addr} {ccd : Value} {cl : List (Str × Addr)} {outer : List Env} {x y : Nat} (hu : un + 40 < cLine) (h : x + y ≤ 40) : (ktrTop dp un gd cn cs L a ccd cl outer).units + x + y < cLine := by
  show un + x + y < cLine
  omega
theorem wl_ReadT_1 : True := by
  k_with "execs cons" => run_tac Mine.ln "ReadT.1"
  k_with "own ReadT.1" => (k_here; (with_reducible show wpAny _ _ _ _ _ (Shared.mk _ _ _ (_ + _) _)); refine gen_tok (by omega) ?_; intro _ _)
  trivial
theorem wl_ReadT_2 : True := by
  k_with "execs nil" => run_tac Mine.ln "ReadT.2"
  k_with "own ReadT.2" => (k_here; (with_reducible show wpAny _ _ _ _ _ (Shared.mk _ _ _ (_ + _) _)); refine gen_tok (by omega) ?_; intro _ _)
  trivial
theorem wl_ReadT_3 : True := by
  k_with "exec While" => run_tac Mine.ln "ReadT.3"
  k_with "own ReadT.3" => (k_here; k_dflt (refine m_while ?_))
  trivial
theorem wl_ReadT_4 : True := by
  k_with "exec Assign" => run_tac Mine.ln "ReadT.4"
  k_with "own ReadT.4" => (k_here; (fail_if_success (with_reducible show wpAny _ _ _ (fun _ s' => 0 < Shared.toks s' → _) _ _)); refine' pos_toks ?pxh ?_; (case pxh => first | assumption | (dsimp only; omega)))
  trivial
theorem wl_ReadT_5 : True := by
  k_with "binaryOp Add str str" => run_tac Mine.ln "ReadT.5"
  k_with "own ReadT.5" => (k_here; (with_reducible show wpAny _ _ (binaryOp Operator.Add (Value.str _ _) (Value.str _ _)) _ _ _); k_dflt (refine pos_toks (by first | assumption | (dsimp only; omega)) ?_; refine' addP ?apl ?_; (case apl => omega)); intro _ _ _ _ _)
  trivial
theorem wl_ReadT_6 : True := by
  k_with "call ref" => run_tac Mine.ln "ReadT.6"
  k_with "own ReadT.6" => (k_here; (with_reducible show wpAny _ _ (call (Value.ref 134) _) _ _ _); k_dflt (refine' par_c _ _ _ _ _ _ _ _ ?pcR ?pcx _ _ _ _ _ _ _ _ _ _ _ _ _ _ _ _ _ ?pcB ?pcF ?pcX ?pcN ?pcT ?pck ?pcr ?pcu ?pcp ?pcg ?_; (case pcR => assumption); (case pcx => (rw [codes_len]; omega)); (case pcB => k_asm); (case pcF => k_asm); (case pcX => k_asm); (case pcN => k_asm); (case pcT => k_asm); (case pck => rfl); (case pcr => exact lt3 (by assumption)); (case pcu => exact unitsR (by assumption) (by decide)); (case pcp => first | assumption | (dsimp only; omega)); (case pcg => assumption)); intro v' n' s' F' N' S' t' P'; k_dflt (obtain ⟨e', y', ty', ev', hy'⟩ := P'; subst e'; subst ev'; have hyl' := par_le hy'))
  trivial
theorem wl_ReadT_7 : True := by
  k_with "call builtin:len" => run_tac Mine.ln "ReadT.7"
  k_with "own ReadT.7" => (k_here; (with_reducible show wpAny _ _ (call (Value.builtin "len") [Value.str _ _]) _ _ _); k_dflt (refine pos_toks (by first | assumption | (dsimp only; omega)) ?_; refine' lenS ?lsy ?_; (case lsy => omega)); intro _ _ _)
  trivial
theorem read_c (w : World) (mean : ExcName → Option Value) (mg mb : Str → Option Value) (news : List (Addr × Obj)) (P : Str) (t : Tok) (hx : P.length ≤ 2000) :
    Ct w mean mg mb 297 3 40 news [.str P t] (fun v news' => Grow news' news fun add => ∃ D vs k, v = .ref D ∧ (D, listOf vs k) ∈ add ∧ TxtAll vs.toList (readF (codes P))) := by
  k_with "proof" =>
    dsimp only [Ct, CtR, CtRet, PG, VW, LO]
    k_fill
    intros; rename_i hret
    refine pos_toks (by assumption) (wpAny_call ?_)
    (k_dflt cell_enter)
    k_steps
    with_reducible rename News _ _ _ _ => N
    with_reducible rename Fr _ _ _ _ => F
    refine MWhl.read (P := P) F N (by first | assumption | (dsimp only; omega)) rfl ?_ ?_
    · intro m₁ vs' kk r tr pre s₁ F₁ N₁ S₁ t₁ hr hs hT hp hm
      have F₂ := Fr.ovr F₁ [(Str.ofString "part", m₁ (Str.ofString "part")), (Str.ofString "used", m₁ (Str.ofString "used")), (Str.ofString "rest", some (.str r tr))] (List.forall_mem_cons.mpr ⟨rfl, List.forall_mem_cons.mpr ⟨rfl, List.forall_mem_cons.mpr ⟨hr, List.forall_mem_nil _⟩⟩⟩) hm
      dsimp only [ovr] at F₂
      clear F₁
      rw [codes_len] at hs
      have hgx : AllBare s₁.gens := by rw [S₁.g]; assumption
      k_steps
      · show REnd _ _ _ _ _ _ _ _ (Flow.ret _) _
        with_reducible rename Same _ _ => S2
        refine' rret (y := _) (pre := pre) (vs' := vs') (r := r) ?eF ?eN ⟨S2.o.trans S₁.o, S2.d.trans S₁.d, S2.g.trans S₁.g⟩ ?et hT hp ?ey ?eh
        case eF => assumption
        case eN => assumption
        case et => first | assumption | (dsimp only; omega)
        case ey => assumption
        case eh => assumption
      · with_reducible rename Same _ _ => S2
        refine' rnext (y := _) (pre := pre) (vs' := vs') (r := r) ?gF ?gN ⟨S2.o.trans S₁.o, S2.d.trans S₁.d, S2.g.trans S₁.g⟩ ?gt ?gr (by rw [codes_len]; exact hs) hT hp ?gm ?gy ?gh
        case gF => assumption
        case gN => assumption
        case gt => first | assumption | (dsimp only; omega)
        case gr => exact rfl
        case gm =>
          intro y hy
          simp only [ysR, List.mem_cons, not_or, List.not_mem_nil, not_false_eq_true, and_true] at hy
          simp only [if_neg hy.1, if_neg hy.2.1, if_neg hy.2.2]
        case gy => assumption
        case gh => assumption
    · intro m' vs' kk s' F₁ N₁ S₁ t₁ hT
      k_steps
      refine' hret _ _ _ ?rF ?rN ⟨S₁.o, S₁.d, S₁.g⟩ (by assumption) ?_
      case rF => assumption
      case rN => assumption
      refine Grow.succ (by first | run_tac mHyp | exact allLt_of (by assumption)) ?_
      exact Grow.zero ⟨_, _, _, rfl, List.mem_cons_self .., hT⟩
  run_tac Mine.sq default
end Mine
end
theorem Mine.wl_ReadT_end : True := by
  k_with_none
  trivial
section -- WInit
open PySem PySem.W PySem.Calls PyProof.Rows
namespace Mine
theorem wl_WInit_0 : True := by
  k_with_none
  trivial
theorem wl_WInit_1 : True := by
  k_with "execs cons" => run_tac Mine.ln "WInit.1"
  k_with "own WInit.1" => (k_here; (with_reducible show wpAny _ _ _ _ _ (Shared.mk _ _ _ (_ + _) _)); refine gen_tok (by omega) ?_; intro _ _)
  trivial
theorem wl_WInit_2 : True := by
  k_with "execs nil" => run_tac Mine.ln "WInit.2"
  k_with "own WInit.2" => (k_here; (with_reducible show wpAny _ _ _ _ _ (Shared.mk _ _ _ (_ + _) _)); refine gen_tok (by omega) ?_; intro _ _)
  trivial
theorem wl_WInit_3 : True := by
  k_with "getMethod ref" => run_tac Mine.ln "WInit.3"
  k_with "own WInit.3" => (k_here; (with_reducible show wpAny _ _ (getMethod (Value.ref 140) (Str.ofString "items") _) _ _ _); k_dflt (refine' ns_get ?ngX ?ngF ?_; (case ngX => k_asm); (case ngF => k_asm)))
  trivial
theorem wl_WInit_4 : True := by
  k_with "call builtin:dict.items" => run_tac Mine.ln "WInit.4"
  k_with "own WInit.4" => (k_here; (with_reducible show wpAny _ _ (call (Value.builtin _) [Value.ref 140]) _ _ _); k_dflt (refine' ns_items ?niX ?niF ?niN ?_; (case niX => k_asm); (case niF => k_asm); (case niN => k_asm)); intro _ _ _ _ _)
  trivial
theorem wl_WInit_5 : True := by
  k_with "call type:list" => run_tac Mine.ln "WInit.5"
  k_with "own WInit.5" => (k_here; (with_reducible show wpAny _ _ (call (Value.type _) [Value.ref _]) _ _ _); k_dflt (refine' ns_list ?nlX ?nlh ?nlF ?nlN ?_; (case nlX => k_asm); (case nlh => rfl); (case nlF => k_asm); (case nlN => k_asm)); intro _ _ _ _ _)
  trivial
noncomputable abbrev InitP (w : World) (bm lw : Nat) (wr : Array Value) (k3 : Nat) (tl : List (Addr × Obj)) (v : Value) (news' : List (Addr × Obj)) : Prop :=
  ∃ W T n nsl k1 k4, v = .ref W.x ∧ W.bm = bm ∧ W.lw = lw ∧ WOrd W ∧ (∀ p ∈ tl, p.1 < W.dx) ∧ 0 < nsl.size ∧ nsl.size ≤ 4 ∧ news' = wL w W T false false n #[.ref W.b0] #[] wr nsl #[.bool false] k1 0 k3 k4 0 tl
theorem initEnd {w : World} {h₀ hh : Heap} {L : Addr} {lz pm li ls ln b0 T0 ld x dx bm lw : Nat} {oP : Obj} {r1 r2 : Value} {k3 k4 n : Nat} {wr : Array Value} {tl : List (Addr × Obj)} {t0 t1 t2 t3 t4 t5 t6 t7 t8 t9 t10 t11 t12 t13 t14 t15 t16 tz u1 u2 : Tok}
    (N : News h₀ L hh ((lz, listOf #[.bool false] 0) :: (pm, oP) :: (li, listOf #[] 0) :: (ls, listOf ((#[].push r1).push r2) k4) :: (ln, listOf #[.ref b0] 0) :: (b0, listOf #[.ref T0] 0) :: (T0, tupO #[.str nsU u1, .str (Str.ofString "xml") u2] 0) :: (ld, listOf #[] 0) :: (x, instObj 246 dx) ::
      (dx, dictOf (wD w ⟨x, dx, ld, T0, b0, ln, ls, pm, lz, bm, lw⟩ ⟨t0, t1, t2, t3, t4, t5, t6, t7, t8, t9, t10, t11, t12, t13, t14, t15, t16, tz, u1, u2⟩ false false) n) :: (bm, bmO "list.append" (.ref lw)) :: (lw, listOf wr k3) :: tl))
    (hne : lw ≠ bm) (hx : bm < dx ∧ lw < dx ∧ AllLt dx tl) (e1 : dx < x) (e2 : x < ld) (e3 : ld < T0) (e4 : T0 < b0) (e5 : b0 < ln) (e6 : ln < ls) (e7 : ls < lz) : ∃ news', News h₀ L hh news' ∧ InitP w bm lw wr k3 tl (.ref x) news' := by
  k_with "proof" =>
    refine ⟨_, fun p hp => N p ?_, ⟨x, dx, ld, T0, b0, ln, ls, pm, lz, bm, lw⟩, ⟨t0, t1, t2, t3, t4, t5, t6, t7, t8, t9, t10, t11, t12, t13, t14, t15, t16, tz, u1, u2⟩, n, (#[].push r1).push r2, 0, k4, rfl, rfl, rfl, ⟨hne, hx.2.1, hx.1, e1, e2, e3, e4, e5, e6, e7⟩, allLt_all hx.2.2, by simp, by simp, rfl⟩
    simp only [List.mem_cons] at hp ⊢
    rcases hp with e | e | e | e | e | e | e | e | e | e | e <;> simp [e]
  run_tac Mine.sq default
theorem init_c (w : World) (mean : ExcName → Option Value) (mg mb : Str → Option Value) (tl : List (Addr × Obj)) (bm lw : Nat) (wr : Array Value) (k3 : Nat) (hne : lw ≠ bm) :
    Ct w mean mg mb 246 2 40 ((bm, bmO "list.append" (.ref lw)) :: (lw, listOf wr k3) :: tl) [.ref bm] (InitP w bm lw wr k3 tl) := by
  k_with "proof" =>
    dsimp only [Ct, CtR, CtRet, PG, VW, LO]
    k_fill
    intros; rename_i hret
    refine pos_toks (by assumption) ?_
    (k_dflt (refine' call_cls ?k1 ?k2 ?k3 ?k4 ?k5 ?k6 ?_))
    case k1 => k_asm
    case k2 => k_asm
    case k3 => k_asm
    case k4 => k_dflt k_is
    case k5 => k_dflt k_is
    case k6 => k_dflt k_is
    k_whole
    intro x' d' h' F' N' l1 l2; (try k_lt l1); (try k_lt2 l2); (try k_sweep)
    (k_dflt (refine' code_def ?k1 ?k2 ?k3 ?k4 ?k5 ?kA ?kF ?kK ?k6 ?k7 ?k8 ?k9 ?kB ?_ ?c2 ?c3 ?c4 ?c5; (case kA => exact rfl); (case kF => exact rfl); (case kK => assumption); (case k1 => k_asm); (case k2 => k_asm); (case k3 => k_asm); (case k4 => k_asm); (case k5 => k_asm); (case k6 => k_is); (case k7 => k_is); (case k8 => ktr_room); (case k9 => exact kp_binds (by k_in) (fun _ => by with_unfolding_all rfl)); (case c5 => decide); (case kB => exact locs rfl); (case c2 => exact rfl); (case c3 => exact rfl); (case c4 => exact rfl); k_whole; intro g' L' h' FG' F' N' B' X' T'; (try dsimp only); (try k_lift B'); (try k_fold)))
    k_steps
    rename_i lz h0 kF kN Tc kX kt
    obtain ⟨nw, N9, P9⟩ := initEnd (w := w) kN hne (by run_tac mHyp) (by run_tac mHyp) (by run_tac mHyp) (by run_tac mHyp) (by run_tac mHyp) (by run_tac mHyp) (by run_tac mHyp) (by run_tac mHyp)
    exact hret _ nw _ kF N9 ⟨rfl, rfl, rfl⟩ kt P9
  run_tac Mine.sq default
end Mine
end
theorem Mine.wl_WInit_end : True := by
  k_with_none
  trivial
section -- PlainL
namespace Mine
noncomputable def ext (p : List Nat) : List (List Nat) → List (List Nat)
  | [] => [p]
  | h :: t => (p ++ h) :: t
theorem ext_ext (a b : List Nat) (l : List (List Nat)) : ext a (ext b l) = ext (a ++ b) l := by
  cases l <;> simp [ext]
theorem ext_nil {l : List (List Nat)} (h : l ≠ []) : ext [] l = l := by
  cases l with
  | nil => exact absurd rfl h
  | cons a r => simp [ext]
theorem readF_ne (x : List Nat) : readF x ≠ [] := by
  unfold readF readN
  split <;> simp
theorem readF_nil : readF [] = [[]] := by decide
theorem readF_cons {c : Nat} (h : c ≠ 34) (r : List Nat) : readF (c :: r) = ext [c] (readF r) := by
  k_with "proof" =>
    have e : par (c :: r) = c :: par r := par_other h r
    have hc : (c :: par r).count 34 = (par r).count 34 := by rw [List.count_cons]; simp [h]
    by_cases hs : r.length < (par r).length + (par r).count 34 + 1
    · rw [readF_stop hs, readF_stop (by rw [e, hc]; simp only [List.length_cons]; omega), e]; rfl
    · rw [readF_go hs, readF_go (by rw [e, hc]; simp only [List.length_cons]; omega), e, hc]
      simp only [ext, List.length_cons, List.singleton_append]
      rw [show (par r).length + 1 + (par r).count 34 + 1 = ((par r).length + (par r).count 34 + 1) + 1 by omega, List.drop_succ_cons]
  run_tac Mine.sq default
theorem readF_two (y : List Nat) : readF (34 :: 34 :: y) = ext [34] (readF y) := by
  k_with "proof" =>
    have e : par (34 :: 34 :: y) = 34 :: par y := by rw [par]; simp
    have hc : (34 :: par y).count 34 = (par y).count 34 + 1 := by rw [List.count_cons]; simp
    by_cases hs : y.length < (par y).length + (par y).count 34 + 1
    · rw [readF_stop hs, readF_stop (by rw [e, hc]; simp only [List.length_cons]; omega), e]; rfl
    · rw [readF_go hs, readF_go (by rw [e, hc]; simp only [List.length_cons]; omega), e, hc]
      simp only [ext, List.length_cons, List.singleton_append]
      rw [show (par y).length + 1 + ((par y).count 34 + 1) + 1 = ((par y).length + (par y).count 34 + 1) + 1 + 1 by omega, List.drop_succ_cons, List.drop_succ_cons]
  run_tac Mine.sq default
theorem readF_one {c : Nat} (h : c ≠ 34) (r : List Nat) : readF (34 :: c :: r) = [] :: readF (c :: r) := by
  k_with "proof" =>
    have e : par (34 :: c :: r) = [] := by rw [par]; simp [h]
    rw [readF_go (by rw [e]; simp), e]
    rfl
  run_tac Mine.sq default
theorem readF_run {c : Nat} (h : c ≠ 34) (r : List Nat) : ∀ k : Nat, readF (List.replicate k 34 ++ c :: r) = if k % 2 = 1 then List.replicate (k / 2) 34 :: readF (c :: r) else ext (List.replicate (k / 2) 34) (readF (c :: r))
  | 0 => by simp [ext_nil (readF_ne _)]
  | 1 => by
    have := readF_one h r
    simpa using this
  | k + 2 => by
    have ih := readF_run h r k
    rw [List.replicate_succ, List.replicate_succ, List.cons_append, List.cons_append, readF_two, ih]
    have e1 : (k + 2) % 2 = k % 2 := by omega
    have e2 : (k + 2) / 2 = k / 2 + 1 := by omega
    rw [e1, e2, List.replicate_succ]
    split
    · rfl
    · rw [ext_ext]; rfl
noncomputable def sing (x : List Nat) : List (List Nat) := x.map fun c => [c]
theorem cut_read : ∀ (x : List Nat) (k : Nat) (ps : List (List Nat)) (p : List Nat), (x = [] → k = 0) → (∀ c, x.getLast? = some c → c ≠ 34) →
    ((sing x).foldl cutStep (ps, p, k)).1 ++ [((sing x).foldl cutStep (ps, p, k)).2.1] = ps ++ ext p (readF (List.replicate k 34 ++ x))
  | [], k, ps, p, h0, _ => by
    rw [h0 rfl]
    simp [sing, readF_nil, ext]
  | c :: r, k, ps, p, _, hl => by
    have hlr : ∀ d, r.getLast? = some d → d ≠ 34 := fun d hd => hl d (by
      cases r with
      | nil => simp at hd
      | cons a t => rw [List.getLast?_cons_cons]; exact hd)
    by_cases hc : c = 34
    · subst hc
      have hr : r ≠ [] := fun e => by subst e; exact hl 34 (by simp) rfl
      have ih := cut_read r (k + 1) ps p (fun e => absurd e hr) hlr
      have e : List.replicate k 34 ++ 34 :: r = List.replicate (k + 1) 34 ++ r := by
        rw [List.replicate_succ', List.append_assoc]; rfl
      rw [e, ← ih]
      simp [sing, cutStep]
    · have hne : ([c] : List Nat) ≠ [34] := by simp [hc]
      have hne2 : ([c] : List Nat) ≠ [] := by simp
      rw [readF_run hc r k]
      show ((sing r).foldl cutStep (cutStep (ps, p, k) [c])).1 ++ [((sing r).foldl cutStep (cutStep (ps, p, k) [c])).2.1] = _
      unfold cutStep
      rw [if_neg hne, if_neg hne2]
      dsimp only
      split
      · rename_i hk
        have ih := cut_read r 0 (ps ++ [p ++ List.replicate (k / 2) 34]) [c] (fun _ => rfl) hlr
        unfold cutStep at ih
        rw [ih]
        simp only [List.replicate_zero, List.nil_append]
        rw [readF_cons hc]
        simp [ext]
      · have ih := cut_read r 0 ps (p ++ List.replicate (k / 2) 34 ++ [c]) (fun _ => rfl) hlr
        unfold cutStep at ih
        rw [ih]
        simp only [List.replicate_zero, List.nil_append]
        rw [readF_cons hc, ext_ext, ext_ext, List.append_assoc]
/-- texts that are a quote, or have none -/
noncomputable def QT (xs : List (List Nat)) : Prop := ∀ x ∈ xs, x = [34] ∨ 34 ∉ x
theorem fold_free : ∀ (x : List Nat) (s : CSt), s.2.2 = 0 → 34 ∉ x → (sing x).foldl cutStep s = (s.1, s.2.1 ++ x, 0)
  | [], s, h, _ => by
    obtain ⟨a, b, c⟩ := s
    dsimp only at h
    subst h
    simp [sing]
  | c :: r, s, h, hn => by
    obtain ⟨a, b, k⟩ := s
    dsimp only at h
    subst h
    have hc : c ≠ 34 := fun e => hn (e ▸ List.mem_cons_self ..)
    show (sing r).foldl cutStep (cutStep (a, b, 0) [c]) = _
    have e : cutStep (a, b, 0) [c] = (a, b ++ [c], 0) := by simp [cutStep, hc]
    rw [e, fold_free r _ rfl fun hm => hn (List.mem_cons_of_mem _ hm)]
    simp
theorem fold_text {x : List Nat} (s : CSt) (h : x = [34] ∨ 34 ∉ x) : (sing x).foldl cutStep s = cutStep s x := by
  k_with "proof" =>
    rcases h with e | hn
    · subst e; rfl
    · cases x with
      | nil => obtain ⟨a, b, k⟩ := s; simp [sing, cutStep]
      | cons c r =>
        have hc : c ≠ 34 := fun e => hn (e ▸ List.mem_cons_self ..)
        have hr : 34 ∉ r := fun hm => hn (List.mem_cons_of_mem _ hm)
        obtain ⟨a, b, k⟩ := s
        show (sing r).foldl cutStep (cutStep (a, b, k) [c]) = _
        have h1 : (c :: r) ≠ [34] := by intro e; cases e; exact hc rfl
        by_cases hk : k % 2 = 1
        · have e : cutStep (a, b, k) [c] = (a ++ [b ++ List.replicate (k / 2) 34], [c], 0) := by simp [cutStep, hc, hk]
          rw [e, fold_free r _ rfl hr]
          unfold cutStep
          rw [if_neg h1, if_neg (by simp), if_pos hk]
          rfl
        · have e : cutStep (a, b, k) [c] = (a, b ++ List.replicate (k / 2) 34 ++ [c], 0) := by simp [cutStep, hc, hk]
          rw [e, fold_free r _ rfl hr]
          unfold cutStep
          rw [if_neg h1, if_neg (by simp), if_neg hk]
          simp
  run_tac Mine.sq default
theorem fold_all : ∀ (xs : List (List Nat)) (s : CSt), QT xs → (sing xs.flatten).foldl cutStep s = xs.foldl cutStep s
  | [], _, _ => rfl
  | x :: r, s, h => by
    have e : sing (x :: r).flatten = sing x ++ sing r.flatten := by simp [sing]
    rw [e, List.foldl_append, fold_text s (h x (List.mem_cons_self ..)), fold_all r _ fun y hy => h y (List.mem_cons_of_mem _ hy)]
    rfl
/-- what a reader that knows quotes alone tells of a page is what the marks' row is cut into -/
theorem read_cut {xs : List (List Nat)} (h : QT xs) (hl : ∀ c, xs.flatten.getLast? = some c → c ≠ 34) : readF xs.flatten = cutF xs := by
  have e := cut_read xs.flatten 0 [] [] (fun _ => rfl) hl
  rw [fold_all xs _ h] at e
  simp only [List.replicate_zero, List.nil_append] at e
  rw [ext_nil (readF_ne _)] at e
  exact e.symm
end Mine
end
section -- PlainP
namespace Mine
/-- every pair that a page may hold -/
noncomputable def allP : PP := [pq, (codes (PySem.Str.ofString "<r>"), codes (PySem.Str.ofString "<r>")), (codes (PySem.Str.ofString "</r>"), codes (PySem.Str.ofString "</r>")), (codes (PySem.Str.ofString "<E K="), codes (PySem.Str.ofString "<e k=")), (codes (PySem.Str.ofString " a="), codes (PySem.Str.ofString " a=")), (codes (PySem.Str.ofString ">"), codes (PySem.Str.ofString ">")), (codes (PySem.Str.ofString "</E>"), codes (PySem.Str.ofString "</e>"))]
  ++ (List.range 10).map (fun s => (look s 1, look s 2)) ++ (List.range 10).map (fun s => (look s 3, look s 4))
theorem sign12 {s : Nat} (h : s < 10) : (look s 1, look s 2) ∈ allP := by
  unfold allP
  exact List.mem_append_left _ (List.mem_append_right _ (List.mem_map.mpr ⟨s, List.mem_range.mpr h, rfl⟩))
theorem sign34 {s : Nat} (h : s < 10) : (look s 3, look s 4) ∈ allP := by
  unfold allP
  exact List.mem_append_right _ (List.mem_map.mpr ⟨s, List.mem_range.mpr h, rfl⟩)
theorem markIn {p : List Nat × List Nat} (h : p ∈ [pq, (codes (PySem.Str.ofString "<r>"), codes (PySem.Str.ofString "<r>")), (codes (PySem.Str.ofString "</r>"), codes (PySem.Str.ofString "</r>")), (codes (PySem.Str.ofString "<E K="), codes (PySem.Str.ofString "<e k=")), (codes (PySem.Str.ofString " a="), codes (PySem.Str.ofString " a=")), (codes (PySem.Str.ofString ">"), codes (PySem.Str.ofString ">")), (codes (PySem.Str.ofString "</E>"), codes (PySem.Str.ofString "</e>"))]) : p ∈ allP :=
  List.mem_append_left _ (List.mem_append_left _ h)
theorem signs12_in {l : List Nat} (h : ∀ i ∈ l, i < 10) : ∀ p ∈ signsP 1 2 l, p ∈ allP := fun p hp => by
  obtain ⟨s, hs, rfl⟩ := List.mem_map.mp hp
  exact sign12 (h s hs)
theorem signs34_in {l : List Nat} (h : ∀ i ∈ l, i < 10) : ∀ p ∈ signsP 3 4 l, p ∈ allP := fun p hp => by
  obtain ⟨s, hs, rfl⟩ := List.mem_map.mp hp
  exact sign34 (h s hs)
theorem partP_in {x y : PySem.Str} {l : List Nat} (hm : (codes x, codes y) ∈ allP) (h : ∀ i ∈ l, i < 10) : ∀ p ∈ partP x y l, p ∈ allP := fun p hp => by
  have hq : pq ∈ allP := markIn (List.mem_cons_self ..)
  simp only [partP, List.mem_append, List.mem_cons, List.not_mem_nil, or_false] at hp
  rcases hp with ((e | e) | e) | e
  · rw [e]; exact hm
  · rw [e]; exact hq
  · exact signs12_in h p e
  · rw [e]; exact hq
theorem pageC_in {c : Cl} (hc : c.ok) : ∀ p ∈ pageC c, p ∈ allP := fun p hp => by
  cases c with
  | start w o =>
    rw [pageC_start] at hp
    simp only [List.mem_append, List.mem_cons, List.not_mem_nil, or_false] at hp
    rcases hp with (e | e) | e
    · exact partP_in (markIn (by simp)) hc.1.2 p e
    · exact partP_in (markIn (by simp)) hc.2.2 p e
    · rw [e]; exact markIn (by simp)
  | close =>
    simp only [pageC, List.mem_cons, List.not_mem_nil, or_false] at hp
    rw [hp]; exact markIn (by simp)
  | data w => exact signs34_in hc.2 p hp
theorem pageF_in {cs : List Cl} (ok : ∀ c ∈ cs, c.ok) : ∀ p ∈ pageF cs, p ∈ allP := fun p hp => by
  simp only [pageF, pageB, List.mem_append, List.mem_cons, List.mem_flatMap, List.not_mem_nil, or_false] at hp
  rcases hp with (e | ⟨c, hc, e⟩) | e
  · rw [e]; exact markIn (by simp)
  · exact pageC_in (ok c hc) p e
  · rw [e]; exact markIn (by simp)
/-- a sign prepared -/
noncomputable def prep1 (c : Nat) : List Nat := if c = 173 ∨ c = 8203 then [] else if c = 223 then [115, 115] else if 65 ≤ c ∧ c ≤ 90 then [c + 32] else [c]
noncomputable def alph : List Nat := [10, 32, 34, 35, 38, 47, 59, 60, 61, 62, 65, 68, 69, 75, 97, 103, 109, 111, 112, 113, 114, 116, 117, 120, 173, 223, 8203]
theorem all_prep : ∀ p ∈ allP, p.2 = p.1.flatMap prep1 := by decide +kernel
theorem all_alph : ∀ p ∈ allP, ∀ c ∈ p.1, c ∈ alph := by decide +kernel
theorem all_q1 : ∀ p ∈ allP, p.1 = [34] ∨ 34 ∉ p.1 := by decide +kernel
theorem all_q2 : ∀ p ∈ allP, p.2 = [34] ∨ 34 ∉ p.2 := by decide +kernel
theorem all_len : ∀ p ∈ allP, p.1.length ≤ 6 ∧ p.2.length ≤ 6 := by decide +kernel
noncomputable def first (cs : List Cl) : List (List Nat) := (pageF cs).map (·.1)
noncomputable def second (cs : List Cl) : List (List Nat) := (pageF cs).map (·.2)
theorem first_QT {cs : List Cl} (ok : ∀ c ∈ cs, c.ok) : QT (first cs) := fun x hx => by
  obtain ⟨p, hp, rfl⟩ := List.mem_map.mp hx
  exact all_q1 p (pageF_in ok p hp)
theorem second_QT {cs : List Cl} (ok : ∀ c ∈ cs, c.ok) : QT (second cs) := fun x hx => by
  obtain ⟨p, hp, rfl⟩ := List.mem_map.mp hx
  exact all_q2 p (pageF_in ok p hp)
theorem last_r : codes (PySem.Str.ofString "</r>") = [60, 47, 114] ++ [62] := by decide +kernel
theorem first_last (cs : List Cl) : ∀ c, (first cs).flatten.getLast? = some c → c ≠ 34 := by
  k_with "proof" =>
    intro c h
    have e : (first cs).flatten = (((pageB cs).map (·.1)).flatten ++ [60, 47, 114]) ++ [62] := by
      simp only [first, pageF, List.map_append, List.map_cons, List.map_nil, List.flatten_append, List.flatten_cons, List.flatten_nil, List.append_nil, last_r, List.append_assoc]
    rw [e, List.getLast?_concat] at h
    cases h; decide
  run_tac Mine.sq default
theorem second_last (cs : List Cl) : ∀ c, (second cs).flatten.getLast? = some c → c ≠ 34 := by
  k_with "proof" =>
    intro c h
    have e : (second cs).flatten = (((pageB cs).map (·.2)).flatten ++ [60, 47, 114]) ++ [62] := by
      simp only [second, pageF, List.map_append, List.map_cons, List.map_nil, List.flatten_append, List.flatten_cons, List.flatten_nil, List.append_nil, last_r, List.append_assoc]
    rw [e, List.getLast?_concat] at h
    cases h; decide
  run_tac Mine.sq default
theorem read_first {cs : List Cl} (ok : ∀ c ∈ cs, c.ok) : readF (first cs).flatten = cutF (first cs) := read_cut (first_QT ok) (first_last cs)
theorem read_second {cs : List Cl} (ok : ∀ c ∈ cs, c.ok) : readF (second cs).flatten = cutF (second cs) := read_cut (second_QT ok) (second_last cs)
theorem prep_page {cs : List Cl} (ok : ∀ c ∈ cs, c.ok) : (first cs).flatten.flatMap prep1 = (second cs).flatten := by
  have go : ∀ l : PP, (∀ p ∈ l, p ∈ allP) → (l.map (·.1)).flatten.flatMap prep1 = (l.map (·.2)).flatten := by
    intro l
    induction l with
    | nil => intro _; rfl
    | cons p r ih =>
      intro h
      simp only [List.map_cons, List.flatten_cons, List.flatMap_append]
      rw [ih fun q hq => h q (List.mem_cons_of_mem _ hq), all_prep p (h p (List.mem_cons_self ..))]
  exact go _ (pageF_in ok)
theorem page_alph {cs : List Cl} (ok : ∀ c ∈ cs, c.ok) : ∀ c ∈ (first cs).flatten, c ∈ alph := fun c hc => by
  obtain ⟨x, hx, hcx⟩ := List.mem_flatten.mp hc
  obtain ⟨p, hp, rfl⟩ := List.mem_map.mp hx
  exact all_alph p (pageF_in ok p hp) c hcx
theorem flat_le {l : List (List Nat)} (h : ∀ x ∈ l, x.length ≤ 6) : l.flatten.length ≤ 6 * l.length := by
  k_with "proof" =>
    induction l with
    | nil => simp
    | cons a r ih =>
      have := h a (List.mem_cons_self ..)
      have := ih fun x hx => h x (List.mem_cons_of_mem _ hx)
      simp only [List.flatten_cons, List.length_append, List.length_cons]
      omega
  run_tac Mine.sq default
theorem pageF_len {cs : List Cl} (ok : ∀ c ∈ cs, c.ok) : (pageF cs).length ≤ 2 + 13 * cs.length := by
  k_with "proof" =>
    have := pageB_len ok
    simp only [pageF, List.length_append, List.length_cons, List.length_nil]
    omega
  run_tac Mine.sq default
theorem first_len {cs : List Cl} (ok : ∀ c ∈ cs, c.ok) (hn : cs.length ≤ 12) : (first cs).flatten.length ≤ 1000 := by
  k_with "proof" =>
    have h := flat_le (l := first cs) fun x hx => by
      obtain ⟨p, hp, rfl⟩ := List.mem_map.mp hx
      exact (all_len p (pageF_in ok p hp)).1
    have h2 := pageF_len ok
    simp only [first, List.length_map] at h
    show (first cs).flatten.length ≤ 1000
    simp only [first]
    omega
  run_tac Mine.sq default
theorem second_len {cs : List Cl} (ok : ∀ c ∈ cs, c.ok) (hn : cs.length ≤ 12) : (second cs).flatten.length ≤ 1000 := by
  k_with "proof" =>
    have h := flat_le (l := second cs) fun x hx => by
      obtain ⟨p, hp, rfl⟩ := List.mem_map.mp hx
      exact (all_len p (pageF_in ok p hp)).2
    have h2 := pageF_len ok
    simp only [second, List.length_map] at h
    show (second cs).flatten.length ≤ 1000
    simp only [second]
    omega
  run_tac Mine.sq default
end Mine
end
section -- PlainW
namespace Mine
theorem escC_append (a b : List Nat) : escC (a ++ b) = escC a ++ escC b := by unfold escC; simp only [rep_append]
theorem escA_append (a b : List Nat) : escA (a ++ b) = escA a ++ escA b := by unfold escA; simp only [rep_append]
theorem escC_sign : ∀ s < 10, escC (look s 0) = look s 3 := by decide +kernel
theorem escA_sign : ∀ s < 10, escA (look s 0) = look s 1 := by decide +kernel
noncomputable def raw (l : List Nat) : List Nat := l.flatMap fun s => look s 0
theorem escC_raw : ∀ {l : List Nat}, (∀ i ∈ l, i < 10) → escC (raw l) = ((signsP 3 4 l).map (·.1)).flatten
  | [], _ => rfl
  | s :: r, h => by
    have ih := escC_raw (l := r) fun i hi => h i (List.mem_cons_of_mem _ hi)
    have e : raw (s :: r) = look s 0 ++ raw r := by simp [raw]
    rw [e, escC_append, escC_sign s (h s (List.mem_cons_self ..)), ih]
    simp [signsP]
theorem escA_raw : ∀ {l : List Nat}, (∀ i ∈ l, i < 10) → escA (raw l) = ((signsP 1 2 l).map (·.1)).flatten
  | [], _ => rfl
  | s :: r, h => by
    have ih := escA_raw (l := r) fun i hi => h i (List.mem_cons_of_mem _ hi)
    have e : raw (s :: r) = look s 0 ++ raw r := by simp [raw]
    rw [e, escA_append, escA_sign s (h s (List.mem_cons_self ..)), ih]
    simp [signsP]
noncomputable def flat1 (l : PP) : List Nat := (l.map (·.1)).flatten
theorem flat1_append (a b : PP) : flat1 (a ++ b) = flat1 a ++ flat1 b := by simp [flat1]
/-- what a start writes behind a flush -/
noncomputable def startW (w o : List Nat) : List Nat := codes (PySem.Str.ofString "<E") ++ (codes (PySem.Str.ofString " K=\"") ++ escA (raw w) ++ codes (PySem.Str.ofString "\"") ++ (codes (PySem.Str.ofString " a=\"") ++ escA (raw o) ++ codes (PySem.Str.ofString "\""))) ++ codes (PySem.Str.ofString ">")
theorem flat_start {w o : List Nat} (hw : ∀ i ∈ w, i < 10) (ho : ∀ i ∈ o, i < 10) : flat1 (pageC (.start w o)) = startW w o := by
  k_with "proof" =>
    unfold startW
    rw [escA_raw hw, escA_raw ho]
    have e1 : codes (PySem.Str.ofString "<E") = [60, 69] := by decide +kernel
    have e2 : codes (PySem.Str.ofString " K=\"") = [32, 75, 61, 34] := by decide +kernel
    have e3 : codes (PySem.Str.ofString "\"") = [34] := by decide +kernel
    have e4 : codes (PySem.Str.ofString " a=\"") = [32, 97, 61, 34] := by decide +kernel
    have e5 : codes (PySem.Str.ofString ">") = [62] := by decide +kernel
    have e6 : codes (PySem.Str.ofString "<E K=") = [60, 69, 32, 75, 61] := by decide +kernel
    have e7 : codes (PySem.Str.ofString " a=") = [32, 97, 61] := by decide +kernel
    rw [pageC_start]
    simp [flat1, partP, pq, e1, e2, e3, e4, e5, e6, e7]
  run_tac Mine.sq default
theorem flat_data {w : List Nat} (hw : ∀ i ∈ w, i < 10) : flat1 (pageC (.data w)) = escC (raw w) := (escC_raw hw).symm
theorem flat_close : flat1 (pageC .close) = codes (PySem.Str.ofString "</E>") := by simp [flat1, pageC]
/-- the text written and the text that waits make the page so far -/
noncomputable def WInv (cs : List Cl) (out buf : List Nat) : Prop := out ++ escC buf = flat1 (pageB cs)
theorem WInv.start0 : WInv [] (codes (PySem.Str.ofString "<r>")) [] := by
  show _ ++ escC [] = _
  have : escC [] = [] := rfl
  rw [this]; simp [flat1, pageB]
theorem WInv.data {cs : List Cl} {out buf w : List Nat} (h : WInv cs out buf) (hw : ∀ i ∈ w, i < 10) : WInv (cs ++ [.data w]) out (buf ++ raw w) := by
  unfold WInv at h ⊢
  rw [pageB_snoc, flat1_append, flat_data hw, escC_append, ← List.append_assoc, h]
theorem WInv.start {cs : List Cl} {out buf w o : List Nat} (h : WInv cs out buf) (hw : ∀ i ∈ w, i < 10) (ho : ∀ i ∈ o, i < 10) : WInv (cs ++ [.start w o]) (out ++ escC buf ++ startW w o) [] := by
  k_with "proof" =>
    unfold WInv at h ⊢
    have e0 : escC [] = [] := rfl
    rw [pageB_snoc, flat1_append, flat_start hw ho, e0, List.append_nil, h]
  run_tac Mine.sq default
theorem WInv.close {cs : List Cl} {out buf : List Nat} (h : WInv cs out buf) : WInv (cs ++ [.close]) (out ++ escC buf ++ codes (PySem.Str.ofString "</E>")) [] := by
  unfold WInv at h ⊢
  have e0 : escC [] = [] := rfl
  rw [pageB_snoc, flat1_append, flat_close, e0, List.append_nil, h]
theorem WInv.fin {cs : List Cl} {out buf : List Nat} (h : WInv cs out buf) : out ++ escC buf ++ codes (PySem.Str.ofString "</r>") = (first cs).flatten := by
  unfold WInv at h
  rw [h]
  simp [first, pageF, flat1]
end Mine
end
section -- B1
open PySem PySem.W PyProof.Rows
namespace Mine
theorem wl_B1_0 : True := by
  k_with_none
  trivial
noncomputable def o46 (P : Params) : Obj := ((K P).lookup 46).getD default
noncomputable def o57 (P : Params) : Obj := ((K P).lookup 57).getD default
noncomputable def es46 (P : Params) : List (Int × Value) := match (o46 P).data with | .set es _ _ => es.toList | _ => []
noncomputable def t46 (P : Params) : SetTable := match (o46 P).data with | .set _ _ t => t | _ => default
noncomputable def es57 (P : Params) : List DictEntry := match (o57 P).data with | .dict es _ => es.toList | _ => []
noncomputable def n57 (P : Params) : Nat := match (o57 P).data with | .dict _ n => n | _ => 0
theorem at46 (P : Params) : (K P).lookup 46 = some (o46 P) := by kernel_rfl
theorem at57 (P : Params) : (K P).lookup 57 = some (o57 P) := by kernel_rfl
noncomputable def chkE (e : Int × Value) : Bool := match e.2 with | .int k _ => e.1 == hashInt k | _ => false
noncomputable def chkD (e : DictEntry) : Bool := match e.key with | .int k _ => e.hash == hashInt k | _ => false
theorem ok46 (P : Params) : (es46 P).all chkE = true := by kernel_rfl
theorem ok57 (P : Params) : (es57 P).all chkD = true := by kernel_rfl
theorem is46 (P : Params) : o46 P = ⟨.type "set", none, .set (es46 P).toArray 29 (t46 P), #[]⟩ := by kernel_rfl
theorem is57 (P : Params) : o57 P = ⟨.type "dict", none, .dict (es57 P).toArray (n57 P), #[]⟩ := by kernel_rfl
theorem sz46 (P : Params) : (es46 P).length = 27 := by kernel_rfl
theorem fit46 (P : Params) : (t46 P).fits 27 = true := by kernel_rfl
noncomputable def S46 (P : Params) (k : Int) : Bool := (es46 P).any fun e => Value.isInt k e.2
noncomputable def b3v (P : Params) (k : Int) : Option Value := PySem.findBy Value.isInt (es57 P).toArray k
theorem set46 {prog : Program} {w : World} {h : Heap} (X : (K w.params).In h) : h.SetOf (intKind prog w) 46 (S46 w.params) 27 := by
  k_with "proof" =>
    refine ⟨_, (es46 w.params).toArray, 29, t46 w.params, X _ _ ((at46 w.params).trans (congrArg some (is46 w.params))), ⟨rfl, rfl, rfl⟩, rfl, ?_, ?_, ?_, ?_, ?_⟩
    · intro e he
      have q := List.all_eq_true.mp (ok46 w.params) e he
      obtain ⟨i, v⟩ := e
      cases v <;> simp only [chkE] at q <;> first | cases q | skip
      rename_i k t
      exact ⟨⟨k, by simp [intKind, Value.isInt], show i = hashInt k by simpa using q⟩, rfl⟩
    · intro k
      exact List.any_eq_true
    · show (es46 w.params).length < _
      rw [sz46 w.params]; decide
    · show (t46 w.params).fits (es46 w.params).length = true
      rw [sz46 w.params]; exact fit46 w.params
    · exact sz46 w.params
  run_tac Mine.sq default
theorem map57 {prog : Program} {w : World} {h : Heap} (X : (K w.params).In h) : h.MapOf (intKind prog w) 57 (b3v w.params) := by
  k_with "proof" =>
    refine ⟨_, (es57 w.params).toArray, n57 w.params, X _ _ ((at57 w.params).trans (congrArg some (is57 w.params))), ⟨rfl, rfl, rfl⟩, rfl, ?_, fun _ => rfl⟩
    intro e he
    have q := List.all_eq_true.mp (ok57 w.params) e (by simpa using he)
    obtain ⟨i, key, v⟩ := e
    cases key <;> simp only [chkD] at q <;> first | cases q | skip
    rename_i k t
    exact ⟨k, by simp [intKind, Value.isInt], show i = hashInt k by simpa using q⟩
  run_tac Mine.sq default
section
variable {prog : Program} {w : World} {A : Around} {E : Value → Shared → Prop} {s : Shared}
theorem in_46 {k : Int} {t : Tok} {Q : Value → Shared → Prop} (X : (K w.params).In s.heap) (h : Q (.bool (S46 w.params k)) { s with toks := s.toks + 1 }) : wpAny (model prog w) A (compareOp .In (.int k t) (.ref 46)) Q E s :=
  wpAny_inSet_of (knd := intKind prog w) (k := k) (by simp [intKind, Value.isInt]) rfl (set46 X) h
theorem meth_57 {pl : Sem Bool} {Q : Value × List Value → Shared → Prop} (X : (K w.params).In s.heap) (h : Q (.builtin "dict.get", [.ref 57]) s) :
    wpAny (model prog w) A (getMethod (.ref 57) (Str.ofString "get") pl) Q E s :=
  getMethod_builtin (map57 (prog := prog) X).typeIs PySem.F.plainAttrs_dict PySem.F.slot_dict_get PySem.F.type_dict_get (map57 (prog := prog) X).noDict h
theorem get_57 {k : Int} {t : Tok} {Q : Value → Shared → Prop} (X : (K w.params).In s.heap) (h : Q ((b3v w.params k).getD .none) { s with toks := s.toks + 1 }) : wpAny (model prog w) A (call (.builtin "dict.get") [.ref 57, .int k t]) Q E s :=
  call_meetsIn PySem.F.slot_dict_get (map57 (prog := prog) X).typeIs PySem.F.entry_dict_get (PySem.F.args_dict_get_2 _ _) (PySem.meets_dict_get (intKind prog w) 57 (k := k) (by simp [intKind, Value.isInt]) (by decide)) ⟨_, map57 X, h⟩
end
theorem wl_B1_1 : True := by
  k_with "execs cons" => run_tac Mine.ln "B1.1"
  k_with "own B1.1" => (k_here; (with_reducible show wpAny _ _ _ _ _ (Shared.mk _ _ _ (_ + _) _)); refine gen_tok (by omega) ?_; intro _ _)
  trivial
theorem wl_B1_2 : True := by
  k_with "execs nil" => run_tac Mine.ln "B1.2"
  k_with "own B1.2" => (k_here; (with_reducible show wpAny _ _ _ _ _ (Shared.mk _ _ _ (_ + _) _)); refine gen_tok (by omega) ?_; intro _ _)
  trivial
theorem wl_B1_3 : True := by
  k_with "compareOp In int ref" => run_tac Mine.ln "B1.3"
  k_with "own B1.3" => (k_here; k_dflt (refine' in_46 ?ibX ?_; (case ibX => k_in)))
  trivial
theorem wl_B1_4 : True := by
  k_with "getMethod ref" => run_tac Mine.ln "B1.4"
  k_with "own B1.4" => (k_here; k_dflt (refine' meth_57 ?mbX ?_; (case mbX => k_in)))
  trivial
theorem wl_B1_5 : True := by
  k_with "call builtin:dict.get" => run_tac Mine.ln "B1.5"
  k_with "own B1.5" => (k_here; k_dflt (refine' get_57 ?gbX ?_; (case gbX => k_in)))
  trivial
theorem in_b1 (w : World) (mean : ExcName → Option Value) (mg mb : Str → Option Value) (news : List (Addr × Obj)) (k : Nat) (t : Tok) :
    Ct w mean mg mb 56 1 8 news [.str ⟨#[k]⟩ t] (fun v news' => news' = news ∧ v = .bool (S46 w.params k)) := by
  k_with "proof" =>
    dsimp only [Ct, CtR, CtRet, PG, VW, LO]
    k_fill
    intros; rename_i hret
    refine wpAny_call ?_
    (k_dflt cell_enter)
    k_steps
    exact hret _ _ _ (by assumption) (by assumption) ⟨rfl, rfl, rfl⟩ (by first | assumption | (dsimp only; omega)) ⟨rfl, rfl⟩
  run_tac Mine.sq default
theorem wl_B1_6 : True := by
  k_with "call builtin:str.lower" => run_tac Mine.ln "B1.6"
  k_with "own B1.6" => (k_here; k_dflt ((try dsimp only); refine SCL.lower (by show 1 ≤ 5592405; decide) ?_; intro _))
  trivial
theorem map_b3 (w : World) (mean : ExcName → Option Value) (mg mb : Str → Option Value) (news : List (Addr × Obj)) (k : Nat) (t : Tok) (hb : b3v w.params k = none) :
    Ct w mean mg mb 102 1 8 news [.str ⟨#[k]⟩ t] (fun v news' => news' = news ∧ ∃ t', v = .str (Txt.lower ⟨#[k]⟩) t') := by
  k_with "proof" =>
    dsimp only [Ct, CtR, CtRet, PG, VW, LO]
    k_fill
    intros; rename_i hret
    refine wpAny_call ?_
    (k_dflt cell_enter)
    k_steps
    rw [hb]
    dsimp only [Option.getD]
    k_steps
    exact hret _ _ _ (by assumption) (by assumption) ⟨rfl, rfl, rfl⟩ (by first | assumption | (dsimp only; omega)) ⟨rfl, _, rfl⟩
  run_tac Mine.sq default
theorem map_b3' (w : World) (mean : ExcName → Option Value) (mg mb : Str → Option Value) (news : List (Addr × Obj)) (k : Nat) (t : Tok) (x : Str) (u : Tok) (hb : b3v w.params k = some (.str x u)) :
    Ct w mean mg mb 102 1 8 news [.str ⟨#[k]⟩ t] (fun v news' => news' = news ∧ ∃ t', v = .str x t') := by
  k_with "proof" =>
    dsimp only [Ct, CtR, CtRet, PG, VW, LO]
    k_fill
    intros; rename_i hret
    refine wpAny_call ?_
    (k_dflt cell_enter)
    k_steps
    rw [hb]
    dsimp only [Option.getD]
    k_steps
    have e9 : (b3v w.params k).getD .none = .str x u := by rw [hb]; rfl
    rw [e9]
    exact hret _ _ _ (by assumption) (by assumption) ⟨rfl, rfl, rfl⟩ (by first | assumption | (dsimp only; omega)) ⟨rfl, _, rfl⟩
  run_tac Mine.sq default
end Mine
end
theorem Mine.wl_B1_end : True := by
  k_with_none
  trivial
section -- LwA
open PySem PySem.W PyProof.Rows
open Lean Meta Elab Tactic
namespace Mine
def defLaw : TermElabM Unit := do
  let some (h, _) ← twoRuns (← progOf (mkConst ``PySem.Challenge.pw_if0034_01)) | throwError "the top does not come through"
  let some o := h.get? 302 | throwError "302"
  let .func fd := o.data | throwError "no function"
  let .stmts b := fd.body | throwError "no body"
  logInfo m!"{b.length}"
  for (n, k) in [(`Mine.lawWr, 1), (`Mine.lawFor, 4), (`Mine.lawEnd, 5), (`Mine.lawPrep, 7), (`Mine.lawDue, 8)] do
    addDecl (.defnDecl { name := n, levelParams := [], type := mkApp (mkConst ``List [0]) (mkConst ``PySem.Stmt), value := toExpr (b.drop k), hints := .abbrev, safety := .safe })
  addDecl (.defnDecl { name := `Mine.lawScope, levelParams := [], type := mkConst ``PySem.Scope, value := toExpr fd.scope, hints := .abbrev, safety := .safe })
theorem lawDone : True := by
  run_tac defLaw
  trivial
end Mine
end
section -- LwB
open PySem PySem.W PySem.Calls PyProof.Rows PyProof.Rows.LCg
namespace Mine
theorem wl_LwB_0 : True := by
  k_with_none
  trivial
theorem wl_LwB_1 : True := by
  k_with "eval Name" => run_tac Mine.ln "LwB.1"
  k_with "own LwB.1" => (k_here; (with_reducible show wpAny _ _ (eval (PySem.Expr.Name _ _) (compEnvC _ _ _ _)) _ _ _); k_dflt (refine LCgL.ld_own (by k_asm) (by k_mem) (by assumption) (by assumption) ?_))
  trivial
theorem strs_snoc {x : Str} {vs : List Value} {ys : List Str} (h : StrsAre vs ys) (t : Tok) : StrsAre (vs ++ [.str x t]) (ys ++ [x]) := by
  induction h with
  | nil => exact .cons _ _ .nil
  | cons y u r ih => exact .cons _ _ ih
noncomputable abbrev sgScope : Scope := { kind := .function, names := [(Str.ofString ".0", .local), (Str.ofString "sign", .local)], isGenerator := false, isCoroutine := false }
theorem raw_turn (w : World) (nw : List (Addr × Obj)) (T I C D : Addr) (oI oC : Obj) (ys : List Value) (sg : Nat) (t0 t1 t2 t3 t4 : Tok) (n : Nat) (m₂ : Str → Option Value) (cl : List (Str × Addr)) (p1 p2 p3 : Pos) (cn : Str) (cs : Scope) (a : Addr) (ccd : Value) (cl0 : List (Str × Addr)) (A : Around) (h₀ : Heap) (L : Addr) (m : Str → Option Value) (s : Shared) (Q E : Value → Shared → Prop)
    (nC : LCg.NsObj oC m₂) (hx : m₂ (Str.ofString "sign") = some (.ref T)) (X : (K w.params).In h₀) (F : Fr h₀ L s.heap m)
    (N : News h₀ L s.heap ((T, tupO #[.str (lookS sg 0) t0, .str (lookS sg 1) t1, .str (lookS sg 2) t2, .str (lookS sg 3) t3, .str (lookS sg 4) t4] n) :: (I, oI) :: (C, oC) :: (D, lst ys) :: nw))
    (h : ∀ t tk h', Fr h₀ L h' m → News h₀ L h' ((T, tupO #[.str (lookS sg 0) t0, .str (lookS sg 1) t1, .str (lookS sg 2) t2, .str (lookS sg 3) t3, .str (lookS sg 4) t4] n) :: (I, oI) :: (C, oC) :: (D, lst ys) :: nw) → Q (.str (lookS sg 0) t) { s with heap := h', toks := tk }) :
    wpAny (model PG w) A (eval (.Subscript (.Name (Str.ofString "sign") p1) (.Constant (.int 0) 0 p2) p3) (compEnvC sgScope cl C (envX cn cs L a ccd cl0))) Q E s := by
  k_with "proof" =>
    revert X F N h
    dsimp only [PG]
    k_fill
    intro X F N h
    obtain ⟨h9, gn9, d9, tk9, o9⟩ := s
    dsimp only at F N
    k_steps
    exact h _ _ _ F N
  run_tac Mine.sq default
section
variable {w : World} {A : Around} {E : Value → Shared → Prop} {s : Shared} {h₀ : Heap} {L : Addr} {m : Str → Option Value}
theorem CompSrc.raw {Q : Value → Shared → Prop} {nw : List (Addr × Obj)} {v : Value} {l : List Nat} {cl : List (Str × Addr)} {p1 p2 p3 : Pos} {cn : Str} {cs : Scope} {a : Addr} {ccd : Value} {cl0 : List (Str × Addr)} (X : (K w.params).In h₀)
    (hh : A.handled = none) (F : Fr h₀ L s.heap m) (N : News h₀ L s.heap nw) (hw : WordAt nw v l) (hl : l.length ≤ 3)
    (fin : ∀ (ys : List Value) D h tk, StrsAre ys (l.map (lookS · 0)) → (∀ p ∈ nw, p.1 ≠ D) → Fr h₀ L h m → News h₀ L h ((D, lst ys) :: nw) → Q (.ref D) { s with heap := h, toks := tk }) :
    CompSrc PG w A h₀ L m (envX cn cs L a ccd cl0) (.Subscript (.Name (Str.ofString "sign") p1) (.Constant (.int 0) 0 p2) p3) (Str.ofString "sign") sgScope cl (fun s₂ => FinE h₀ L m s₂ Q) v s := by
  k_with "proof" =>
    obtain ⟨a', ws, n, rfl, hm, hd⟩ := hw
    have hsz : ws.size = l.length := by have := DatAll.length hd; simpa using this
    refine CompSrc.ledger hh F N hm (by rw [hsz, sizeLine_eq]; omega) fun g => ?_
    refine compRest_ind (fun i' ys nws => nws = nw ∧ StrsAre ys ((l.take i').map (lookS · 0))) ws.size ?_ ?_ ws.size 0 [] nw (Nat.zero_add _) ⟨rfl, .nil⟩
    · rintro k ys nws hk ⟨rfl, hp⟩ v I oI C oC D m₂ h tk E' hv hC hx F' N' off ne
      obtain ⟨sg, T, t0, t1, t2, t3, t4, n', hsg, rfl, hT⟩ := signAt hd (by simpa using hv : ws.toList[k]? = some v)
      have hT' := N' _ (List.mem_cons_of_mem _ (List.mem_cons_of_mem _ (List.mem_cons_of_mem _ hT)))
      have N2 : News h₀ L h ((T, tupO #[.str (lookS sg 0) t0, .str (lookS sg 1) t1, .str (lookS sg 2) t2, .str (lookS sg 3) t3, .str (lookS sg 4) t4] n') :: (I, oI) :: (C, oC) :: (D, lst ys) :: nws) := fun p hp => by
        rcases List.mem_cons.mp hp with rfl | hp
        · exact hT'
        · exact N' p hp
      refine raw_turn w nws T I C D oI oC ys sg t0 t1 t2 t3 t4 n' m₂ cl p1 p2 p3 cn cs a ccd cl0 A h₀ L m _ _ _ hC hx X F' N2 fun t tk' h' F3 N3 => ?_
      refine ⟨h', tk', nws, rfl, F3, fun p hp => N3 p (.tail _ hp), off, .inr ⟨_, hm, rfl, _, rfl⟩, rfl, ?_⟩
      have e : l.take (k + 1) = l.take k ++ [sg] := by rw [List.take_add_one, hsg]; rfl
      rw [e, List.map_append]
      exact strs_snoc hp t
    · rintro ys nws ⟨rfl, hp⟩
      intro D h tk F' N' o1
      have e : l.take ws.size = l := List.take_of_length_le (by omega)
      rw [e] at hp
      refine fin ys D h tk hp (fun p hp => ?_) F' N'
      have go : ∀ {l : List (Addr × Obj)}, Off1 D l → ∀ p ∈ l, p.1 ≠ D := by
        intro l
        induction l with
        | nil => intro _ p hp; cases hp
        | cons q r ih =>
          intro h p hp
          rcases List.mem_cons.mp hp with rfl | hp
          · exact h.1
          · exact ih h.2 p hp
      exact go o1 p hp
  run_tac Mine.sq default
end
theorem codes_raw (l : List Nat) : codes (Txt.join (Str.ofString "") (l.map (lookS · 0))) = raw l := by
  rw [join_codes]
  unfold raw
  induction l with
  | nil => rfl
  | cons a r ih =>
    show codes (lookS a 0) ++ _ = look a 0 ++ _
    rw [codes_lookS]
    exact congrArg _ ih
theorem look0_len (s : Nat) : (look s 0).length ≤ 1 := by
  k_with "proof" =>
    rcases s with _ | _ | _ | _ | _ | _ | _ | _ | _ | s
    all_goals exact Nat.le_of_ble_eq_true rfl
  run_tac Mine.sq default
theorem raw_len (l : List Nat) : (raw l).length ≤ l.length := by
  k_with "proof" =>
    unfold raw
    induction l with
    | nil => simp
    | cons a r ih =>
      rw [List.flatMap_cons, List.length_append, List.length_cons]
      have := look0_len a
      omega
  run_tac Mine.sq default
theorem len_codes (x : Str) : (codes x).length = x.length := by unfold codes; rw [Array.length_toList]; rfl
theorem join_raw_len {l : List Nat} (h : l.length ≤ 3) : (Txt.join (Str.ofString "") (l.map (lookS · 0))).length ≤ 3 := by
  rw [← len_codes, codes_raw]
  exact Nat.le_trans (raw_len l) h
theorem sum_raw {l : List Nat} (h : l.length ≤ 3) : ((l.map (lookS · 0)).map (·.length)).sum ≤ 3 := by
  have e := join_len (l.map (lookS · 0))
  rw [← e]
  exact join_raw_len h
/-- a dict of texts, in its written form -/
theorem dict_exact {prog : Program} {w : World} {o : Obj} {kvs : List (Str × Value)} (h : o.IsDictOf (strKind prog w) kvs) : ∃ as n, o = dictOf (aD w as) n ∧ aK as = kvs := by
  k_with "proof" =>
    obtain ⟨es, n, ⟨h1, h2, h3⟩, h4, h5, h6, h7⟩ := h
    have key : ∀ (l : List DictEntry) (kv : List (Str × Value)), (∀ e ∈ l, ∃ k, (strKind prog w).is k e.key = true ∧ e.hash = (strKind prog w).hash k) → Pairs (strKind prog w) l kv → ∃ as, l = aD w as ∧ aK as = kv := by
      intro l
      induction l with
      | nil => intro kv _ hp; cases hp; exact ⟨[], rfl, rfl⟩
      | cons e r ih =>
        intro kv hk hp
        cases hp with
        | cons g1 g2 g3 =>
          obtain ⟨as, e1, e2⟩ := ih _ (fun e' he' => hk e' (.tail _ he')) g3
          obtain ⟨k, k1, k2⟩ := hk e (.head _)
          rename_i kv1 kvs1
          obtain ⟨t, ht⟩ := Value.isStrOf_shape g1
          obtain ⟨t', ht'⟩ := Value.isStrOf_shape k1
          rw [ht] at ht'
          cases ht'
          obtain ⟨eh, ek, ev⟩ := e
          dsimp only at ht k2 g2
          subst ht k2 g2
          refine ⟨(kv1.1, t, kv1.2) :: as, ?_, ?_⟩
          · rw [e1]; rfl
          · show (kv1.1, kv1.2) :: aK as = _
            rw [e2]
    obtain ⟨as, e1, e2⟩ := key es.toList kvs (fun e he => h5 e (by simpa using he)) h6
    refine ⟨as, n, ?_, e2⟩
    obtain ⟨oc, od, oda, osl⟩ := o
    dsimp only at h1 h2 h3 h4
    subst h1 h2 h3 h4
    rw [← e1, Array.toArray_toList]
  run_tac Mine.sq default
end Mine
end
theorem Mine.wl_LwB_end : True := by
  k_with_none
  trivial
section -- LwC
open PySem PySem.W PySem.Calls PyProof.Rows
namespace Mine
noncomputable def LInv (w : World) (W : WA) (T : WT) (cs : List Cl) (tl0 : List (Addr × Obj)) (i : Nat) (n' : List (Addr × Obj)) : Prop :=
  ∃ rd n stk data wr nsl pres k1 k2 k3 k4 k5 ps nw d z ws ys, n' = wL w W T true rd n stk data wr nsl pres k1 k2 k3 k4 k5 ((219, tabObj ps) :: (nw ++ tl0)) ∧
    WOff W ((219, tabObj ps) :: (nw ++ tl0)) ∧ (∀ p ∈ nw ++ tl0, p.1 ≠ 219) ∧ LamTab lamQ 167 71 ps (nw ++ tl0) ∧ StkOk W (nw ++ tl0) stk ∧
    stk.size = 2 + d ∧ (nsl.size = z + d ∧ 1 ≤ z ∧ z ≤ 6) ∧ pres.size = 2 + d ∧ data.size ≤ i ∧ wr.size ≤ 4 + 4 * i ∧ StrsAre wr.toList ws ∧ StrsAre data.toList ys ∧ (ys.map (·.length)).sum ≤ 3 * i ∧ WInv (cs.take i) (ws.flatMap codes) (ys.flatMap codes) ∧ WF d (cs.drop i) ∧ d ≤ i
theorem strs_app {vs us : List Value} {xs ys : List Str} (h : StrsAre vs xs) (g : StrsAre us ys) : StrsAre (vs ++ us) (xs ++ ys) := by
  induction h with
  | nil => exact g
  | cons y u r ih => exact .cons _ _ ih
theorem flush_strs {ys ws : List Str} {wr wr1 : Array Value} (h : FlushR ys wr wr1) (hw : StrsAre wr.toList ws) : ∃ ws1, StrsAre wr1.toList ws1 ∧ ws1.flatMap codes = ws.flatMap codes ++ escC (ys.flatMap codes) ∧ wr1.size ≤ wr.size + 1 := by
  k_with "proof" =>
    rcases h with ⟨e, rfl⟩ | ⟨_, y, t, rfl, e⟩
    · refine ⟨ws, hw, ?_, Nat.le_succ _⟩
      rw [e]; show _ = _ ++ []
      rw [List.append_nil]
    · refine ⟨ws ++ [y], ?_, ?_, by rw [Array.size_push]; exact Nat.le_refl _⟩
      · rw [Array.toList_push]; exact strs_app hw (.cons _ _ .nil)
      · rw [List.flatMap_append, List.flatMap_cons, e]; simp
  run_tac Mine.sq default
theorem take_snoc {cs : List Cl} {i : Nat} {c : Cl} (h : cs[i]? = some c) : cs.take (i + 1) = cs.take i ++ [c] := by rw [List.take_add_one, h]; rfl
theorem drop_cons {cs : List Cl} {i : Nat} {c : Cl} (h : cs[i]? = some c) : cs.drop i = c :: cs.drop (i + 1) := by
  obtain ⟨h1, h2⟩ := List.getElem?_eq_some_iff.mp h
  rw [List.drop_eq_getElem_cons h1, h2]
theorem wf_start {d : Nat} {w o : List Nat} {r : List Cl} (h : WF d (.start w o :: r)) : WF (d + 1) r := by unfold WF at h; exact h
theorem wf_data {d : Nat} {w : List Nat} {r : List Cl} (h : WF d (.data w :: r)) : WF d r := by
  cases d <;> (unfold WF at h; exact h)
theorem wf_close {d : Nat} {r : List Cl} (h : WF d (.close :: r)) : ∃ e, d = e + 1 ∧ WF e r := by
  cases d with
  | zero => unfold WF at h; exact h.elim
  | succ e => unfold WF at h; exact ⟨e, rfl, h⟩
section
variable {w : World} {W : WA} {T : WT} {rd : Bool} {n : Nat} {stk data wr wr1 wsA nsl pres ps ps' : Array Value} {k1 k2 k3 k4 k5 i d z : Nat} {nw nw' tl0 : List (Addr × Obj)} {h₀ hh : Heap} {L ae ne I ls : Addr} {oI oAe : Obj} {y v : Value} {ws ys zs : List Str} {cs : List Cl} {lw lo : List Nat} {va vk : Str}
theorem lamTab_grew {tl tl' : List (Addr × Obj)} (hg : Grew lamQ 167 71 ps tl ps' nw') (hL : LamTab lamQ 167 71 ps tl') : LamTab lamQ 167 71 ps' (nw' ++ tl') := by
  k_with "proof" =>
    rcases hg with ⟨rfl, rfl⟩ | ⟨c', oc, vs, t, rfl, rfl, hd, hv, _⟩
    · exact hL
    · exact .inr ⟨c', oc, vs, t, rfl, .head _, hd, hv⟩
  run_tac Mine.sq default
theorem linv_start (hN : News h₀ L hh (wL w W T true rd n (stk.push (.ref ne)) #[] (wr1 ++ wsA) (nsl.push (.ref ls)) (pres.push y) k1 k2 k3 k4 k5 ((219, tabObj ps') :: (nw' ++ ((ae, oAe) :: (ne, listOf #[] 0) :: (I, oI) :: (nw ++ tl0))))))
    (hO : WOff W ((219, tabObj ps') :: (nw' ++ ((ae, oAe) :: (ne, listOf #[] 0) :: (I, oI) :: (nw ++ tl0))))) (h219 : ∀ p ∈ nw' ++ ((ae, oAe) :: (ne, listOf #[] 0) :: (I, oI) :: (nw ++ tl0)), p.1 ≠ 219)
    (hgr : Grew lamQ 167 71 ps ((ae, oAe) :: (ne, listOf #[] 0) :: (I, oI) :: (nw ++ tl0)) ps' nw') (hLT : LamTab lamQ 167 71 ps (nw ++ tl0)) (hS : StkOk W (nw ++ tl0) stk) (hoff : ∀ p ∈ nw ++ tl0, p.1 ≠ I) (haeI : I < ae) (hneI : I < ne)
    (e1 : stk.size = 2 + d) (e2 : nsl.size = z + d ∧ 1 ≤ z ∧ z ≤ 6) (e3 : pres.size = 2 + d) (e4 : wr.size ≤ 4 + 4 * i) (e5 : wsA.size ≤ 3) (hws : StrsAre wr.toList ws) (hzs : StrsAre wsA.toList zs) (hfl : FlushR ys wr wr1)
    (hz : zs.flatMap codes = startWc (codes vk) (codes va)) (hvk : codes vk = raw lw) (hva : codes va = raw lo) (hI : WInv (cs.take i) (ws.flatMap codes) (ys.flatMap codes)) (hc : cs[i]? = some (.start lw lo)) (o1 : okW lw) (o2 : okW lo) (hWF : WF d (cs.drop i)) (hd : d ≤ i) :
    ∃ news', News h₀ L hh ((I, oI) :: news') ∧ (∀ p ∈ news', p.1 ≠ I) ∧ LInv w W T cs tl0 (i + 1) news' := by
  k_with "proof" =>
    have hsub : ∀ p ∈ (nw' ++ ((ae, oAe) :: (ne, listOf #[] 0) :: nw)) ++ tl0, p ∈ nw' ++ ((ae, oAe) :: (ne, listOf #[] 0) :: (I, oI) :: (nw ++ tl0)) := fun p hp => by
      simp only [List.mem_append, List.mem_cons] at hp ⊢
      rcases hp with (h | h | h | h) | h
      · exact .inl h
      · exact .inr (.inl h)
      · exact .inr (.inr (.inl h))
      · exact .inr (.inr (.inr (.inr (.inl h))))
      · exact .inr (.inr (.inr (.inr (.inr h))))
    obtain ⟨ws1, s1, s2, s3⟩ := flush_strs hfl hws
    have hOI := hO (I, oI) (.tail _ (List.mem_append_right _ (.tail _ (.tail _ (.head _)))))
    have h219I := h219 (I, oI) (List.mem_append_right _ (.tail _ (.tail _ (.head _))))
    have hnI : ∀ p ∈ (nw' ++ ((ae, oAe) :: (ne, listOf #[] 0) :: nw)) ++ tl0, p.1 ≠ I := fun p hp => by
      simp only [List.mem_append, List.mem_cons] at hp
      rcases hp with (h | h | h | h) | h
      · rcases hgr with ⟨rfl, _⟩ | ⟨c', oc, vs, t, rfl, _, _, _, hlt⟩
        · cases h
        · rw [List.mem_singleton.mp h]; exact Nat.ne_of_gt (hlt (I, oI) (.tail _ (.tail _ (.head _))))
      · rw [h]; exact Nat.ne_of_gt haeI
      · rw [h]; exact Nat.ne_of_gt hneI
      · exact hoff p (List.mem_append_left _ h)
      · exact hoff p (List.mem_append_right _ h)
    have hwl : ∀ p ∈ wL w W T true rd n (stk.push (.ref ne)) #[] (wr1 ++ wsA) (nsl.push (.ref ls)) (pres.push y) k1 k2 k3 k4 k5 ((219, tabObj ps') :: ((nw' ++ ((ae, oAe) :: (ne, listOf #[] 0) :: nw)) ++ tl0)), p ∈ wL w W T true rd n (stk.push (.ref ne)) #[] (wr1 ++ wsA) (nsl.push (.ref ls)) (pres.push y) k1 k2 k3 k4 k5 ((219, tabObj ps') :: (nw' ++ ((ae, oAe) :: (ne, listOf #[] 0) :: (I, oI) :: (nw ++ tl0)))) := fun p hp => by
      have e : ∀ tl, wL w W T true rd n (stk.push (.ref ne)) #[] (wr1 ++ wsA) (nsl.push (.ref ls)) (pres.push y) k1 k2 k3 k4 k5 tl = wL w W T true rd n (stk.push (.ref ne)) #[] (wr1 ++ wsA) (nsl.push (.ref ls)) (pres.push y) k1 k2 k3 k4 k5 [] ++ tl := fun _ => rfl
      rw [e] at hp ⊢
      rcases List.mem_append.mp hp with h | h
      · exact List.mem_append_left _ h
      · rcases List.mem_cons.mp h with h | h
        · exact List.mem_append_right _ (h ▸ .head _)
        · exact List.mem_append_right _ (.tail _ (hsub p h))
    refine ⟨_, fun p hp => ?_, fun p hp => ?_, rd, n, stk.push (.ref ne), #[], wr1 ++ wsA, nsl.push (.ref ls), pres.push y, k1, k2, k3, k4, k5, ps', nw' ++ ((ae, oAe) :: (ne, listOf #[] 0) :: nw), d + 1, z, ws1 ++ zs, [], rfl, ?_, ?_, ?_, ?_, ?_, ⟨?_, e2.2⟩, ?_, ?_, ?_, ?_, .nil, ?_, ?_, ?_, ?_⟩
    · rcases List.mem_cons.mp hp with h | h
      · subst h
        refine hN (I, oI) ?_
        iterate 11 apply List.mem_cons_of_mem
        exact List.mem_append_right _ (.tail _ (.tail _ (.head _)))
      · exact hN p (hwl p h)
    · obtain ⟨f1, f2, f3, f4, f5, f6, f7, f8, f9, f10⟩ := hOI
      simp only [List.mem_cons] at hp
      rcases hp with e | e | e | e | e | e | e | e | e | e | e | e
      · rw [e]; exact f1.symm
      · rw [e]; exact f2.symm
      · rw [e]; exact f3.symm
      · rw [e]; exact f4.symm
      · rw [e]; exact f5.symm
      · rw [e]; exact f6.symm
      · rw [e]; exact f7.symm
      · rw [e]; exact f8.symm
      · rw [e]; exact f9.symm
      · rw [e]; exact f10.symm
      · rw [e]; exact Ne.symm h219I
      · exact hnI p e
    · exact fun p hp => by
        rcases List.mem_cons.mp hp with h | h
        · exact hO p (h ▸ .head _)
        · exact hO p (.tail _ (hsub p h))
    · exact fun p hp => h219 p (hsub p hp)
    · have := lamTab_grew hgr (hLT.mono (tl' := (ae, oAe) :: (ne, listOf #[] 0) :: (nw ++ tl0)) fun p hp => .tail _ (.tail _ hp))
      simpa using this
    · refine stk_push (m := 0) hS (fun p hp => ?_) ?_
      · simp only [List.mem_append, List.mem_cons] at hp ⊢
        rcases hp with h | h
        · exact .inl (.inr (.inr (.inr h)))
        · exact .inr h
      · simp
    · rw [Array.size_push, e1]; omega
    · rw [Array.size_push, e2.1]; omega
    · rw [Array.size_push, e3]; omega
    · simp
    · rw [Array.size_append]; omega
    · rw [Array.toList_append]; exact strs_app s1 hzs
    · simp
    · rw [take_snoc hc]
      have := WInv.start (w := lw) (o := lo) hI o1.2 o2.2
      rw [List.flatMap_append, s2, hz, hvk, hva]
      exact this
    · rw [drop_cons hc] at hWF; exact wf_start hWF
    · omega
  run_tac Mine.sq default
theorem dropI {wl r : List (Addr × Obj)} {c x : Addr × Obj} : ∀ p ∈ wl ++ (c :: r), p ∈ wl ++ (c :: x :: r) := fun p hp => by
  rcases List.mem_append.mp hp with h | h
  · exact List.mem_append_left _ h
  · rcases List.mem_cons.mp h with h | h
    · exact List.mem_append_right _ (h ▸ .head _)
    · exact List.mem_append_right _ (.tail _ (.tail _ h))
theorem off_I {rs : Bool} {tl : List (Addr × Obj)} (hOI : WOff W [(I, oI)]) (h219I : (219 : Addr) ≠ I) (hoff : ∀ p ∈ tl, p.1 ≠ I) : ∀ p ∈ wL w W T rs rd n stk data wr nsl pres k1 k2 k3 k4 k5 ((219, tabObj ps) :: tl), p.1 ≠ I := fun p hp => by
  obtain ⟨f1, f2, f3, f4, f5, f6, f7, f8, f9, f10⟩ := hOI (I, oI) (.head _)
  simp only [List.mem_cons] at hp
  rcases hp with e | e | e | e | e | e | e | e | e | e | e | e
  · rw [e]; exact f1.symm
  · rw [e]; exact f2.symm
  · rw [e]; exact f3.symm
  · rw [e]; exact f4.symm
  · rw [e]; exact f5.symm
  · rw [e]; exact f6.symm
  · rw [e]; exact f7.symm
  · rw [e]; exact f8.symm
  · rw [e]; exact f9.symm
  · rw [e]; exact f10.symm
  · rw [e]; exact h219I
  · exact hoff p e
theorem stk_pop {tl : List (Addr × Obj)} (h : StkOk W tl stk) (hs : 2 ≤ stk.size) : StkOk W tl stk.pop := by
  k_with "proof" =>
    have key : ∀ j, j < stk.size - 1 → stk.pop[j]? = stk[j]? := fun j hj => by
      rw [Array.getElem?_pop]; simp [hj]
    refine ⟨?_, fun k v e => ?_⟩
    · rw [key 0 (by omega)]; exact h.1
    · by_cases hk : k + 1 < stk.size - 1
      · rw [key _ hk] at e; exact h.2 k v e
      · rw [Array.getElem?_eq_none (by rw [Array.size_pop]; omega)] at e; cases e
  run_tac Mine.sq default
theorem linv_close {yy : Str} {t : Tok} {rd' : Bool} (hN : News h₀ L hh (wL w W T true rd' n stk.pop #[] (wr1.push (.str yy t)) nsl.pop pres.pop k1 k2 k3 k4 k5 ((219, tabObj ps) :: (I, oI) :: (nw ++ tl0))))
    (hO : WOff W ((219, tabObj ps) :: (I, oI) :: (nw ++ tl0))) (h219 : ∀ p ∈ nw ++ tl0, p.1 ≠ 219) (h219I : (219 : Addr) ≠ I) (hLT : LamTab lamQ 167 71 ps (nw ++ tl0)) (hS : StkOk W (nw ++ tl0) stk) (hoff : ∀ p ∈ nw ++ tl0, p.1 ≠ I)
    (e1 : stk.size = 2 + d) (e2 : nsl.size = z + d ∧ 1 ≤ z ∧ z ≤ 6) (e3 : pres.size = 2 + d) (e4 : wr.size ≤ 4 + 4 * i) (hws : StrsAre wr.toList ws) (hfl : FlushR ys wr wr1)
    (hz : codes yy = [60, 47] ++ codes (Str.ofString "E") ++ [62]) (hI : WInv (cs.take i) (ws.flatMap codes) (ys.flatMap codes)) (hc : cs[i]? = some .close) (hWF : WF d (cs.drop i)) (hd : d ≤ i) :
    ∃ news', News h₀ L hh ((I, oI) :: news') ∧ (∀ p ∈ news', p.1 ≠ I) ∧ LInv w W T cs tl0 (i + 1) news' := by
  k_with "proof" =>
    obtain ⟨ws1, s1, s2, s3⟩ := flush_strs hfl hws
    rw [drop_cons hc] at hWF
    obtain ⟨e, rfl, hWF⟩ := wf_close hWF
    refine ⟨_, fun p hp => ?_, off_I (fun p hp => by rw [List.mem_singleton.mp hp]; exact hO _ (.tail _ (.head _))) h219I hoff, rd', n, stk.pop, #[], wr1.push (.str yy t), nsl.pop, pres.pop, k1, k2, k3, k4, k5, ps, nw, e, z, ws1 ++ [yy], [], rfl, fun p hp => hO p ?_, h219, hLT, stk_pop hS (by omega), ?_, ⟨?_, e2.2⟩, ?_, ?_, ?_, ?_, .nil, ?_, ?_, hWF, by omega⟩
    · rcases List.mem_cons.mp hp with h | h
      · subst h
        refine hN (I, oI) ?_
        iterate 11 apply List.mem_cons_of_mem
        exact .head _
      · exact hN p (dropI (wl := wL w W T true rd' n stk.pop #[] (wr1.push (.str yy t)) nsl.pop pres.pop k1 k2 k3 k4 k5 []) p h)
    · exact dropI (wl := []) p hp
    · rw [Array.size_pop, e1]; omega
    · rw [Array.size_pop, e2.1]; omega
    · rw [Array.size_pop, e3]; omega
    · simp
    · rw [Array.size_push]; omega
    · rw [Array.toList_push]; exact strs_app s1 (.cons _ _ .nil)
    · simp
    · rw [take_snoc hc]
      have := WInv.close hI
      rw [List.flatMap_append, s2, List.flatMap_cons, hz]
      have e0 : [60, 47] ++ codes (Str.ofString "E") ++ [62] = codes (Str.ofString "</E>") := by decide +kernel
      rw [e0]
      simpa using this
  run_tac Mine.sq default
theorem linv_data {X : Str} {t : Tok} (hN : News h₀ L hh (wL w W T true rd n stk (data.push (.str X t)) wr nsl pres k1 k2 k3 k4 k5 ((219, tabObj ps) :: (I, oI) :: (nw ++ tl0))))
    (hO : WOff W ((219, tabObj ps) :: (I, oI) :: (nw ++ tl0))) (h219 : ∀ p ∈ nw ++ tl0, p.1 ≠ 219) (h219I : (219 : Addr) ≠ I) (hLT : LamTab lamQ 167 71 ps (nw ++ tl0)) (hS : StkOk W (nw ++ tl0) stk) (hoff : ∀ p ∈ nw ++ tl0, p.1 ≠ I)
    (e1 : stk.size = 2 + d) (e2 : nsl.size = z + d ∧ 1 ≤ z ∧ z ≤ 6) (e3 : pres.size = 2 + d) (e4 : wr.size ≤ 4 + 4 * i) (e5 : data.size ≤ i) (hws : StrsAre wr.toList ws) (hys : StrsAre data.toList ys) (e6 : (ys.map (·.length)).sum ≤ 3 * i)
    (hz : codes X = raw lw) (hI : WInv (cs.take i) (ws.flatMap codes) (ys.flatMap codes)) (hc : cs[i]? = some (.data lw)) (o1 : okW lw) (hWF : WF d (cs.drop i)) (hd : d ≤ i) :
    ∃ news', News h₀ L hh ((I, oI) :: news') ∧ (∀ p ∈ news', p.1 ≠ I) ∧ LInv w W T cs tl0 (i + 1) news' := by
  k_with "proof" =>
    rw [drop_cons hc] at hWF
    have hX : X.length ≤ 3 := by
      rw [← len_codes, hz]
      exact Nat.le_trans (raw_len lw) o1.1
    refine ⟨_, fun p hp => ?_, off_I (fun p hp => by rw [List.mem_singleton.mp hp]; exact hO _ (.tail _ (.head _))) h219I hoff, rd, n, stk, data.push (.str X t), wr, nsl, pres, k1, k2, k3, k4, k5, ps, nw, d, z, ws, ys ++ [X], rfl, fun p hp => hO p ?_, h219, hLT, hS, e1, e2, e3, ?_, by omega, hws, ?_, ?_, ?_, wf_data hWF, by omega⟩
    · rcases List.mem_cons.mp hp with h | h
      · subst h
        refine hN (I, oI) ?_
        iterate 11 apply List.mem_cons_of_mem
        exact .head _
      · exact hN p (dropI (wl := wL w W T true rd n stk (data.push (.str X t)) wr nsl pres k1 k2 k3 k4 k5 []) p h)
    · exact dropI (wl := []) p hp
    · rw [Array.size_push]; omega
    · rw [Array.toList_push]; exact strs_app hys (.cons _ _ .nil)
    · rw [List.map_append, List.sum_append]; simp only [List.map_cons, List.map_nil, List.sum_cons, List.sum_nil]; omega
    · rw [take_snoc hc, List.flatMap_append, List.flatMap_cons, hz]
      have := WInv.data (w := lw) hI o1.2
      simpa using this
  run_tac Mine.sq default
end
end Mine
end
section -- LwD
open PySem PySem.W PySem.Calls PyProof.Rows
namespace Mine
theorem wl_LwD_0 : True := by
  k_with_none
  trivial
theorem wl_LwD_1 : True := by
  k_with "execs cons" => run_tac Mine.ln "LwD.1"
  k_with "own LwD.1" => (k_here; (with_reducible show wpAny _ _ _ _ _ (Shared.mk _ _ _ (_ + _) _)); refine gen_tok (by omega) ?_; intro _ _)
  trivial
theorem wl_LwD_2 : True := by
  k_with "execs nil" => run_tac Mine.ln "LwD.2"
  k_with "own LwD.2" => (k_here; (with_reducible show wpAny _ _ _ _ _ (Shared.mk _ _ _ (_ + _) _)); refine gen_tok (by omega) ?_; intro _ _)
  trivial
theorem wl_LwD_3 : True := by
  k_with "execs nil" => run_tac Mine.ln "LwD.3"
  k_with "own LwD.3" => (k_here; (with_reducible show wpAny _ _ _ _ _ (Shared.mk _ _ _ (Shared.toks _) _)); refine gen_tok (by first | assumption | (dsimp only; omega)) ?_; intro _ _)
  trivial
theorem wl_LwD_4 : True := by
  k_with "execs cons" => run_tac Mine.ln "LwD.4"
  k_with "own LwD.4" => (k_here; (with_reducible show wpAny _ _ _ _ _ (Shared.mk _ _ _ (Shared.toks _) _)); refine gen_tok (by first | assumption | (dsimp only; omega)) ?_; intro _ _)
  trivial
theorem wl_LwD_5 : True := by
  k_with "exec Expr" => run_tac Mine.ln "LwD.5"
  k_with "own LwD.5" => (k_here; (fail_if_success (with_reducible show wpAny _ _ _ (fun _ s' => 0 < Shared.toks s' → _) _ _)); refine' pos_toks ?pxh ?_; (case pxh => first | assumption | (dsimp only; omega)))
  trivial
theorem wl_LwD_6 : True := by
  k_with "exec For Tuple Name cons nil" => run_tac Mine.ln "LwD.6"
  k_with "own LwD.6" => (k_here; k_dflt (refine' m_for' ?mft ?_; (case mft => first | assumption | (dsimp only; omega))))
  trivial
theorem wl_LwD_7 : True := by
  k_with "call ref" => run_tac Mine.ln "LwD.7"
  k_with "own LwD.7" => (k_here; (with_reducible show wpAny _ _ (call (Value.ref 216) _) _ _ _); refine held ?_)
  trivial
theorem wl_LwD_8 : True := by
  k_with "call ref" => run_tac Mine.ln "LwD.8"
  k_with "own LwD.8" => (k_here; (with_reducible show wpAny _ _ (call (Value.ref 229) _) _ _ _); refine held ?_)
  trivial
theorem wl_LwD_9 : True := by
  k_with "call ref" => run_tac Mine.ln "LwD.9"
  k_with "own LwD.9" => (k_here; (with_reducible show wpAny _ _ (call (Value.ref 193) _) _ _ _); refine held ?_)
  trivial
theorem wl_LwD_10 : True := by
  k_with "call builtin:str.join" => run_tac Mine.ln "LwD.10"
  k_with "own LwD.10" => (k_here; refine held ?_)
  trivial
theorem wl_LwD_11 : True := by
  k_with "eval ListComp" => run_tac Mine.ln "LwD.11"
  k_with "own LwD.11" => (k_here; refine held ?_)
  trivial
theorem wordAt_mono {news news' : List (Addr × Obj)} {v : Value} {l : List Nat} (h : WordAt news v l) (hs : ∀ p ∈ news, p ∈ news') : WordAt news' v l := by
  k_with "proof" =>
    obtain ⟨a, ws, n, e, hm, hd⟩ := h
    exact ⟨a, ws, n, e, hs _ hm, DatAll.mono hs hd⟩
  run_tac Mine.sq default
theorem sum3 {l : List Nat} (h : l.length ≤ 3) : ((l.map (lookS · 0)).map (·.length)).sum + (l.map (lookS · 0)).length * 64 ≤ 16777216 := by
  k_with "proof" =>
    have := sum_raw h
    rw [List.length_map]
    omega
  run_tac Mine.sq default
theorem aK_two {as : List (Str × Tok × Value)} {x y : Str} {u v : Value} (h : aK as = [(x, u), (y, v)]) : ∃ t t', as = [(x, t, u), (y, t', v)] := by
  k_with "proof" =>
    rcases as with _ | ⟨⟨x1, t1, u1⟩, _ | ⟨⟨y1, t2, v1⟩, _ | ⟨c, r⟩⟩⟩
    · simp [aK] at h
    · simp [aK] at h
    · simp only [aK, List.map_cons, List.map_nil, List.cons.injEq, Prod.mk.injEq, and_true] at h
      obtain ⟨⟨rfl, rfl⟩, rfl, rfl⟩ := h
      exact ⟨t1, t2, rfl⟩
    · simp [aK] at h
  run_tac Mine.sq default
theorem mv3 {wl r : List (Addr × Obj)} {c d i t : Addr × Obj} : ∀ p ∈ wl ++ (c :: d :: i :: r), p ∈ d :: t :: i :: (wl ++ (c :: r)) := fun p hp => by
  simp only [List.mem_append, List.mem_cons] at hp ⊢
  rcases hp with h | h | h | h | h
  · exact .inr (.inr (.inr (.inl h)))
  · exact .inr (.inr (.inr (.inr (.inl h))))
  · exact .inl h
  · exact .inr (.inr (.inl h))
  · exact .inr (.inr (.inr (.inr (.inr h))))
theorem mv2 {wl r : List (Addr × Obj)} {c i t : Addr × Obj} : ∀ p ∈ wl ++ (c :: i :: r), p ∈ t :: i :: (wl ++ (c :: r)) := fun p hp => by
  simp only [List.mem_append, List.mem_cons] at hp ⊢
  rcases hp with h | h | h | h
  · exact .inr (.inr (.inl h))
  · exact .inr (.inr (.inr (.inl h)))
  · exact .inr (.inl h)
  · exact .inr (.inr (.inr (.inr h)))
theorem wlt7c {a b : Nat} (h : a + 7 < b) : a + 4 < b := by omega
theorem wlt7d {a b : Nat} (h : a + 7 < b) : a + 2 < b := by omega
theorem wu10c {a b : Nat} (h : a + 100 < b) : a + 60 < b := by omega
theorem wu10d {a b : Nat} (h : a + 100 < b) : a + 40 < b := by omega
theorem wlt7 {a b : Nat} (h : a + 7 < b) : a + 5 < b := by omega
theorem wu10 {a b : Nat} (h : a + 100 < b) : a + 70 < b := by omega
theorem offI {w : World} {W : WA} {T : WT} {rs rd : Bool} {n : Nat} {stk data wr nsl pres : Array Value} {k1 k2 k3 k4 k5 : Nat} {tl : List (Addr × Obj)} {I : Addr} (h : ∀ p ∈ wL w W T rs rd n stk data wr nsl pres k1 k2 k3 k4 k5 tl, p.1 ≠ I) (o : Obj) : WOff W [(I, o)] := fun p hp => by
  rw [List.mem_singleton.mp hp]
  have key : ∀ z ∈ wL w W T rs rd n stk data wr nsl pres k1 k2 k3 k4 k5 tl, @Ne Nat I z.1 := fun z hz => (h z hz).symm
  exact ⟨key (W.x, _) (.head _), key (W.dx, _) (.tail _ (.head _)), key (W.ln, _) (.tail _ (.tail _ (.head _))), key (W.b0, _) (.tail _ (.tail _ (.tail _ (.head _)))), key (W.T0, _) (.tail _ (.tail _ (.tail _ (.tail _ (.head _))))),
    key (W.ld, _) (.tail _ (.tail _ (.tail _ (.tail _ (.tail _ (.head _)))))), key (W.lw, _) (.tail _ (.tail _ (.tail _ (.tail _ (.tail _ (.tail _ (.head _))))))), key (W.ls, _) (.tail _ (.tail _ (.tail _ (.tail _ (.tail _ (.tail _ (.tail _ (.head _)))))))),
    key (W.lz, _) (.tail _ (.tail _ (.tail _ (.tail _ (.tail _ (.tail _ (.tail _ (.tail _ (.head _))))))))), key (W.bm, _) (.tail _ (.tail _ (.tail _ (.tail _ (.tail _ (.tail _ (.tail _ (.tail _ (.tail _ (.head _))))))))))⟩
theorem woff_ins {W : WA} {c x : Addr × Obj} {r : List (Addr × Obj)} (h : WOff W (c :: r)) (hx : WOff W [x]) : WOff W (c :: x :: r) := fun p hp => by
  rcases List.mem_cons.mp hp with e | hp
  · exact h p (e ▸ .head _)
  · rcases List.mem_cons.mp hp with e | hp
    · exact hx p (e ▸ .head _)
    · exact h p (.tail _ hp)
theorem ne_cons {x : Addr × Obj} {r : List (Addr × Obj)} (hx : x.1 ≠ 219) (h : ∀ p ∈ r, p.1 ≠ 219) : ∀ p ∈ x :: r, p.1 ≠ 219 := fun p hp => by
  rcases List.mem_cons.mp hp with e | hp
  · exact e ▸ hx
  · exact h p hp
noncomputable abbrev lVals (lc : Addr) (W : WA) : List (Str × Option Value) := [(Str.ofString "calls", some (.ref lc)), (Str.ofString "writer", some (.ref W.x)), (Str.ofString "written", some (.ref W.lw))]
noncomputable abbrev ysL : List Str := [Str.ofString "what", Str.ofString "word", Str.ofString "other"]
theorem law_for (w : World) (mean : ExcName → Option Value) (mg mb : Str → Option Value) (W : WA) (T : WT) (cs : List Cl) (tl0 : List (Addr × Obj)) (lc : Addr) (vs : List Value) (nv : Nat) (hW : WOrd W) (hcs : cs.length ≤ 12) (hok : ∀ c ∈ cs, c.ok) (hlc : (lc, listOf vs.toArray nv) ∈ tl0) (hdat : DatAll tl0 vs (cs.map callDat))
    (dp un : Nat) (gd : Option (List Code)) (a : Addr) (ccd : Value) (outer : List Env) (A₀ : Around) (base h₀ : Heap) (L : Addr) (m0 : Str → Option Value) (s : Shared) (Q : Flow → Shared → Prop) (E : Value → Shared → Prop) (n0 : List (Addr × Obj))
    (B : Below A₀ base outer h₀) (F : Fr h₀ L s.heap (ovr (lVals lc W) m0)) (X : (K w.params).In h₀) (N : News h₀ L s.heap n0) (hI0 : LInv w W T cs tl0 0 n0) (Tp : Top VW LO mean mg mb h₀) (hdp : dp + 7 < recursionLimit) (hu : un + 100 < cLine) (ht : 0 < s.toks) (hg : AllBare s.gens)
    (hQ : ∀ m' n' s', LInv w W T cs tl0 cs.length n' → Fr h₀ L s'.heap (ovr (lVals lc W) m') → News h₀ L s'.heap n' → s'.os = s.os → AllBare s'.gens → 0 < s'.toks → wpAny (model PG w) (ktrTop dp un gd (Str.ofString "law") lawScope L a ccd [] outer) (execs lawEnd (envX (Str.ofString "law") lawScope L a ccd [])) Q E s') :
    wpAny (model PG w) (ktrTop dp un gd (Str.ofString "law") lawScope L a ccd [] outer) (execs lawFor (envX (Str.ofString "law") lawScope L a ccd [])) Q E s := by
  k_with "proof" =>
    have hvl : vs.length = cs.length := by have := DatAll.length hdat; simpa using this
    revert B F X N Tp hdp hu ht hg hQ
    dsimp only [PG, VW, LO, ovr, lVals]
    k_fill
    intro B F X N Tp hdp hu ht hg hQ
    obtain ⟨h9, gn9, d9, t9, o9⟩ := s
    dsimp only at F N ht hg
    delta lawFor lawScope
    delta lawEnd lawScope at hQ
    dsimp only at hQ ⊢
    k_steps
    (k_dflt (refine' MFor.list (G := fun s => s.os = o9 ∧ AllBare s.gens) (ax := lc) (items := vs.toArray) (fun _ _ _ x => x) rfl F N ⟨⟨rfl, hg⟩, ?lp⟩ (fun i m' n' => LInv w W T cs tl0 i n' ∧ ∀ z, z ∉ ysL → m' z = ovr (lVals lc W) m0 z) ?lJ ⟨hI0, fun _ _ => rfl⟩ ?lt ?lf))
    case lp => first | assumption | (dsimp only; omega)
    case lJ =>
      rintro i m' n' ⟨⟨rd, n, stk, data, wr, nsl, pres, k1, k2, k3, k4, k5, ps, nw, d, z, ws, ys, rfl, _⟩, _⟩
      refine .inr ⟨listOf vs.toArray nv, ?_, rfl, nv, rfl⟩
      iterate 11 apply List.mem_cons_of_mem
      exact List.mem_append_right _ hlc
    case lt =>
      rintro I hI i v oI m1 n1 s1 hi hv ⟨⟨rd, n, stk, data, wr, nsl, pres, k1, k2, k3, k4, k5, ps, nw, d, z, ws, ys, rfl, q1, q2, q3, q4, q5, q6, q7, q8, q9, q10, q11, q12, q13, q14, q15⟩, hm⟩ hoff F1 N1 O1
      have hi' : i < cs.length := by rw [← hvl]; simpa using hi
      obtain ⟨c, hc⟩ : ∃ c, cs[i]? = some c := ⟨cs[i], List.getElem?_eq_getElem hi'⟩
      obtain ⟨dd, hd1, hd2⟩ := datAll_at hdat (by simpa using hv : vs[i]? = some v)
      rw [List.getElem?_map, hc] at hd1
      cases (Option.some.inj hd1 : callDat c = dd)
      obtain ⟨Tc, tc, v1, v2, nc, rfl, hTc, hw1, hw2⟩ := callAt' hd2
      have hokc := hok c (List.mem_of_getElem? hc)
      have hTc' := N1 _ (List.mem_cons_of_mem _ (by (iterate 11 apply List.mem_cons_of_mem); exact List.mem_append_right _ hTc))
      have N2 : News h₀ L s1.heap ((Tc, tupO #[.str c.what tc, v1, v2] nc) :: (I, oI) :: wL w W T true rd n stk data wr nsl pres k1 k2 k3 k4 k5 ((219, tabObj ps) :: (nw ++ tl0))) := fun p hp => by
        rcases List.mem_cons.mp hp with rfl | hp
        · exact hTc'
        · exact N1 p hp
      have F2 := Fr.ovr F1 [(Str.ofString "what", m1 (Str.ofString "what")), (Str.ofString "word", m1 (Str.ofString "word")), (Str.ofString "other", m1 (Str.ofString "other"))] (by simp) (by intro y hy; exact hm y (by simpa using hy))
      obtain ⟨⟨os1, gs1⟩, ts1⟩ := O1
      obtain ⟨hp1, gp1, dp1, tp1, op1⟩ := s1
      dsimp only at os1 gs1 ts1 F2 N2
      clear F1 N1
      dsimp only [ovr, lVals] at F2
      cases c with
      | start lw lo =>
        dsimp only [Cl.what, Cl.w, Cl.o, sS, wL, wD] at N2 hw1 hw2 hokc
        obtain ⟨x1, wz1, nz1, rfl, hz1, hz2⟩ := hw1
        obtain ⟨x2, wz2, nz2, rfl, hz3, hz4⟩ := hw2
        k_steps
        refine Held.go ?_
        refine pos_toks (by first | assumption | (dsimp only; omega)) ?_
        k_dflt (refine LCg.ListComp_U (F₀ := by k_asm) (by with_unfolding_all rfl) (by decide) (by rfl) (by decide) (by rfl) ?_)
        k_steps
        with_reducible rename News _ _ _ _ => NP1
        with_reducible rename Fr _ _ _ _ => FP1
        k_dflt (refine CompSrc.raw X rfl FP1 NP1 (wordAt_mono ⟨x2, wz2, nz2, rfl, hz3, hz4⟩ ?su1) hokc.2.1 ?_)
        case su1 => intro p hp; repeat (first | exact List.mem_append_right _ hp | apply List.mem_cons_of_mem)
        intro ys1 D1 h1 tk1 hs1 hn1 FA1 NA1
        clear FP1
        intro ht1
        dsimp only at ht1
        k_steps
        refine Held.go ?_
        refine pos_toks (by first | assumption | (dsimp only; omega)) ?_
        k_dflt (refine join_listC (items := ys1.toArray) (ys := lo.map (lookS · 0)) ⟨_, (NA1 _ (.head _)).1, rfl, _, rfl⟩ (by simpa using hs1) (by decide) (sum3 hokc.2.1) ?_)
        intro tj1 kj1 hj1
        dsimp only at hj1
        have NB1 : News h₀ L _ _ := fun p hp => NA1 p (.tail _ hp)
        clear NA1
        k_steps
        refine Held.go ?_
        refine pos_toks (by first | assumption | (dsimp only; omega)) ?_
        k_dflt (refine LCg.ListComp_U (F₀ := by k_asm) (by with_unfolding_all rfl) (by decide) (by rfl) (by decide) (by rfl) ?_)
        k_steps
        with_reducible rename News _ _ _ _ => NP2
        with_reducible rename Fr _ _ _ _ => FP2
        k_dflt (refine CompSrc.raw X rfl FP2 NP2 (wordAt_mono ⟨x1, wz1, nz1, rfl, hz1, hz2⟩ ?su2) hokc.1.1 ?_)
        case su2 => intro p hp; repeat (first | exact List.mem_append_right _ hp | apply List.mem_cons_of_mem)
        intro ys2 D2 h2 tk2 hs2 hn2 FA2 NA2
        clear FP2
        intro ht2
        dsimp only at ht2
        k_steps
        refine Held.go ?_
        refine pos_toks (by first | assumption | (dsimp only; omega)) ?_
        k_dflt (refine join_listC (items := ys2.toArray) (ys := lw.map (lookS · 0)) ⟨_, (NA2 _ (.head _)).1, rfl, _, rfl⟩ (by simpa using hs2) (by decide) (sum3 hokc.1.1) ?_)
        intro tj2 kj2 hj2
        dsimp only at hj2
        have NB2 : News h₀ L _ _ := fun p hp => NA2 p (.tail _ hp)
        clear NA2
        k_steps
        with_reducible rename Obj.IsDictOf _ _ _ => HD
        with_reducible rename News _ _ _ _ => NX
        with_reducible rename Fr _ _ _ _ => FX
        obtain ⟨as, na, rfl, has⟩ := dict_exact HD
        obtain ⟨ta, tk, rfl⟩ := aK_two (x := Str.ofString "a") (y := Str.ofString "K") (u := .str (Txt.join (Str.ofString "") (lo.map (lookS · 0))) tj1) (v := .str (Txt.join (Str.ofString "") (lw.map (lookS · 0))) tj2) has
        have hWI := offI hoff oI
        have h219I : (219 : Addr) ≠ I := hoff (219, tabObj ps) (by (iterate 10 apply List.mem_cons_of_mem); exact .head _)
        have hoffn : ∀ p ∈ nw ++ tl0, p.1 ≠ I := fun p hp => hoff p (by (iterate 11 apply List.mem_cons_of_mem); exact hp)
        have NY : News h₀ L _ _ := fun p hp => NX p (mv3 (wl := wL w W T true rd n stk data wr nsl pres k1 k2 k3 k4 k5 []) p hp)
        refine Held.go ?_
        k_dflt (refine start_c w mean mg mb ((I, oI) :: (nw ++ tl0)) W T true rd n stk data wr nsl pres ps k1 k2 k3 k4 k5 (Str.ofString "E") _ _ na _ (.elt (Nat.le_trans (join_raw_len hokc.2.1) (by decide)) (Nat.le_trans (join_raw_len hokc.1.1) (by decide))) hW (woff_ins (woff_ins q1 hWI) ?s1) (stk_mono q4 fun p hp => .tail _ (.tail _ hp)) (by omega) (by omega) (by omega) (by omega) (by omega) ?s2 (ne_cons ?s3 (ne_cons h219I.symm q2)) (q3.mono fun p hp => .tail _ (.tail _ hp)) ys q11 (by omega) (.inr rfl) _ _ _ _ _ _ _ _ _ _ _ _ _ _ _ _ _ B FX X NY Tp rfl (wlt7 hdp) (wu10 hu) ?s4 gs1 ?s5)
        case s1 =>
          intro p hp
          rw [List.mem_singleton.mp hp]
          refine ⟨?_, ?_, ?_, ?_, ?_, ?_, ?_, ?_, ?_, ?_⟩ <;> (show @Ne Nat _ _; dsimp only; omega)
        case s2 => assumption
        case s3 => show @Ne Nat _ 219; dsimp only; omega
        case s4 => first | assumption | (dsimp only; omega)
        case s5 =>
          intro v7 n7 s7 F7 N7 S7 t7 P7
          obtain ⟨ne, wr1, k1', k2', hfl, hne, ps', tl', wsA, k3', ls, yy, rfl, hLT7, hO7, h2197, hsub7, hsz7, ⟨zs, hzs, hz⟩, nw', rfl, hgr⟩ := P7
          clear NX NY
          obtain ⟨nn, N9, off9, LI9⟩ := linv_start (ws := ws) (ys := ys) (cs := cs) (lw := lw) (lo := lo) N7 hO7 h2197 hgr q3 q4 hoffn (by show @LT.lt Nat _ I _; omega) (hne (I, oI) (by (iterate 11 apply List.mem_cons_of_mem); exact .head _)) q5 q6 q7 q9 hsz7 q10 hzs hfl hz (codes_raw lw) (codes_raw lo) q13 hc hokc.1 hokc.2 q14 q15
          clear N7
          obtain ⟨hp7, gp7, dp7, tp7, op7⟩ := s7
          obtain ⟨eo7, eg7⟩ := S7
          dsimp only at eo7 eg7 F7 N9 t7
          k_steps
          k_dflt (refine TEnd.next F7 N9 off9 ⟨LI9, ?tm1⟩ ⟨eo7.trans os1, eg7⟩ (by first | assumption | (dsimp only; omega)))
          intro z hz
          simp only [List.mem_cons, List.not_mem_nil, or_false, not_or] at hz
          obtain ⟨e1, e2, e3⟩ := hz
          dsimp only [ovr, lVals]
          simp only [if_neg e1, if_neg e2, if_neg e3]
      | close =>
        dsimp only [Cl.what, Cl.w, Cl.o, sE, wL, wD] at N2 hw1 hw2 hokc
        obtain ⟨x1, wz1, nz1, rfl, hz1, hz2⟩ := hw1
        obtain ⟨x2, wz2, nz2, rfl, hz3, hz4⟩ := hw2
        k_steps
        with_reducible rename News _ _ _ _ => NX
        with_reducible rename Fr _ _ _ _ => FX
        have hWI := offI hoff oI
        have h219I : (219 : Addr) ≠ I := hoff (219, tabObj ps) (by (iterate 10 apply List.mem_cons_of_mem); exact .head _)
        have hoffn : ∀ p ∈ nw ++ tl0, p.1 ≠ I := fun p hp => hoff p (by (iterate 11 apply List.mem_cons_of_mem); exact hp)
        have NY : News h₀ L _ _ := fun p hp => NX p (mv2 (wl := wL w W T true rd n stk data wr nsl pres k1 k2 k3 k4 k5 []) p hp)
        refine Held.go ?_
        k_dflt (refine end_c w mean mg mb ((219, tabObj ps) :: (I, oI) :: (nw ++ tl0)) W T rd n stk data wr nsl pres k1 k2 k3 k4 k5 hW (woff_ins q1 hWI) (stk_mono q4 fun p hp => .tail _ (.tail _ hp)) (by omega) (by omega) (by omega) (by omega) (by omega) ys q11 (by omega) (Str.ofString "E") _ (.inr (.inl rfl)) _ _ _ _ _ _ _ _ _ _ _ _ _ _ _ _ _ B FX X NY Tp rfl (wlt7c hdp) (wu10c hu) ?u4 gs1 ?u5)
        case u4 => first | assumption | (dsimp only; omega)
        case u5 =>
          intro v7 n7 s7 F7 N7 S7 t7 P7
          obtain ⟨wr1, yy, ty, rd', k1', k2', k3', k4', k5', hfl, hyy, rfl⟩ := P7
          clear NX NY
          obtain ⟨nn, N9, off9, LI9⟩ := linv_close (ws := ws) (ys := ys) (cs := cs) N7 (woff_ins q1 hWI) q2 h219I q3 q4 hoffn q5 q6 q7 q9 q10 hfl hyy q13 hc q14 q15
          clear N7
          obtain ⟨hp7, gp7, dp7, tp7, op7⟩ := s7
          obtain ⟨eo7, ed7, eg7⟩ := S7
          dsimp only at eo7 eg7 F7 N9 t7
          k_steps
          k_dflt (refine TEnd.next F7 N9 off9 ⟨LI9, ?tm2⟩ ⟨eo7.trans os1, eg7⟩ (by first | assumption | (dsimp only; omega)))
          intro z hz
          simp only [List.mem_cons, List.not_mem_nil, or_false, not_or] at hz
          obtain ⟨e1, e2, e3⟩ := hz
          dsimp only [ovr, lVals]
          simp only [if_neg e1, if_neg e2, if_neg e3]
      | data lw =>
        dsimp only [Cl.what, Cl.w, Cl.o, sD, wL, wD] at N2 hw1 hw2 hokc
        obtain ⟨x1, wz1, nz1, rfl, hz1, hz2⟩ := hw1
        obtain ⟨x2, wz2, nz2, rfl, hz3, hz4⟩ := hw2
        k_steps
        refine Held.go ?_
        refine pos_toks (by first | assumption | (dsimp only; omega)) ?_
        k_dflt (refine LCg.ListComp_U (F₀ := by k_asm) (by with_unfolding_all rfl) (by decide) (by rfl) (by decide) (by rfl) ?_)
        k_steps
        with_reducible rename News _ _ _ _ => NP3
        with_reducible rename Fr _ _ _ _ => FP3
        k_dflt (refine CompSrc.raw X rfl FP3 NP3 (wordAt_mono ⟨x1, wz1, nz1, rfl, hz1, hz2⟩ ?su3) hokc.1 ?_)
        case su3 => intro p hp; repeat (first | exact List.mem_append_right _ hp | apply List.mem_cons_of_mem)
        intro ys3 D3 h3 tk3 hs3 hn3 FA3 NA3
        clear FP3
        intro ht3
        dsimp only at ht3
        k_steps
        refine Held.go ?_
        refine pos_toks (by first | assumption | (dsimp only; omega)) ?_
        k_dflt (refine join_listC (items := ys3.toArray) (ys := lw.map (lookS · 0)) ⟨_, (NA3 _ (.head _)).1, rfl, _, rfl⟩ (by simpa using hs3) (by decide) (sum3 hokc.1) ?_)
        intro tj3 kj3 hj3
        dsimp only at hj3
        have NB3 : News h₀ L _ _ := fun p hp => NA3 p (.tail _ hp)
        clear NA3
        k_steps
        with_reducible rename News _ _ _ _ => NX
        with_reducible rename Fr _ _ _ _ => FX
        have hWI := offI hoff oI
        have h219I : (219 : Addr) ≠ I := hoff (219, tabObj ps) (by (iterate 10 apply List.mem_cons_of_mem); exact .head _)
        have hoffn : ∀ p ∈ nw ++ tl0, p.1 ≠ I := fun p hp => hoff p (by (iterate 11 apply List.mem_cons_of_mem); exact hp)
        have NY : News h₀ L _ _ := fun p hp => NX p (mv2 (wl := wL w W T true rd n stk data wr nsl pres k1 k2 k3 k4 k5 []) p hp)
        refine Held.go ?_
        k_dflt (refine data_c w mean mg mb ((219, tabObj ps) :: (I, oI) :: (nw ++ tl0)) W T true rd n stk data wr nsl pres k1 k2 k3 k4 k5 hW (woff_ins q1 hWI) (by omega) _ _ _ _ _ _ _ _ _ _ _ _ _ _ _ _ _ _ B FX X NY Tp rfl (wlt7d hdp) (wu10d hu) ?w4 gs1 ?w5)
        case w4 => first | assumption | (dsimp only; omega)
        case w5 =>
          intro v7 n7 s7 F7 N7 S7 t7 P7
          subst P7
          clear NX NY
          obtain ⟨nn, N9, off9, LI9⟩ := linv_data (ws := ws) (ys := ys) (cs := cs) N7 (woff_ins q1 hWI) q2 h219I q3 q4 hoffn q5 q6 q7 q9 q8 q10 q11 q12 (codes_raw lw) q13 hc hokc q14 q15
          clear N7
          obtain ⟨hp7, gp7, dp7, tp7, op7⟩ := s7
          obtain ⟨eo7, ed7, eg7⟩ := S7
          dsimp only at eo7 eg7 F7 N9 t7
          have eg8 : AllBare gp7 := by rw [eg7]; exact gs1
          k_steps
          k_dflt (refine TEnd.next F7 N9 off9 ⟨LI9, ?tm3⟩ ⟨eo7.trans os1, eg8⟩ (by first | assumption | (dsimp only; omega)))
          intro z hz
          simp only [List.mem_cons, List.not_mem_nil, or_false, not_or] at hz
          obtain ⟨e1, e2, e3⟩ := hz
          dsimp only [ovr, lVals]
          simp only [if_neg e1, if_neg e2, if_neg e3]
    case lf =>
      rintro m' n' s' ⟨LI, hm⟩ F' N' O'
      k_dflt (show wpAny _ _ (execs _ _) _ _ _)
      refine hQ m' n' s' (by have e : vs.toArray.size = cs.length := by simpa using hvl
                             rw [← e]; exact LI) (Fr.ovr F' (lVals lc W) ?m9 (fun _ _ => rfl)) N' O'.g.1 O'.g.2 O'.t
      intro p hp
      simp only [lVals, List.mem_cons, List.not_mem_nil, or_false] at hp
      rcases hp with rfl | rfl | rfl
      · exact (hm (Str.ofString "calls") (by decide +kernel)).trans rfl
      · exact (hm (Str.ofString "writer") (by decide +kernel)).trans rfl
      · exact (hm (Str.ofString "written") (by decide +kernel)).trans rfl
  run_tac Mine.sq default
end Mine
end
theorem Mine.wl_LwD_end : True := by
  k_with_none
  trivial
section -- LwE
open PySem PySem.W PySem.Calls PyProof.Rows
namespace Mine
theorem wl_LwE_0 : True := by
  k_with_none
  trivial
theorem wl_LwE_1 : True := by
  k_with "execs cons" => run_tac Mine.ln "LwE.1"
  k_with "own LwE.1" => (k_here; (with_reducible show wpAny _ _ _ _ _ (Shared.mk _ _ _ (_ + _) _)); refine gen_tok (by omega) ?_; intro _ _)
  trivial
theorem wl_LwE_2 : True := by
  k_with "execs nil" => run_tac Mine.ln "LwE.2"
  k_with "own LwE.2" => (k_here; (with_reducible show wpAny _ _ _ _ _ (Shared.mk _ _ _ (_ + _) _)); refine gen_tok (by omega) ?_; intro _ _)
  trivial
theorem wl_LwE_3 : True := by
  k_with "execs cons" => run_tac Mine.ln "LwE.3"
  k_with "own LwE.3" => (k_here; (with_reducible show wpAny _ _ _ _ _ (Shared.mk _ _ _ (Shared.toks _) _)); refine gen_tok (by first | assumption | (dsimp only; omega)) ?_; intro _ _)
  trivial
theorem wl_LwE_4 : True := by
  k_with "exec Expr" => run_tac Mine.ln "LwE.4"
  k_with "own LwE.4" => (k_here; (fail_if_success (with_reducible show wpAny _ _ _ (fun _ s' => 0 < Shared.toks s' → _) _ _)); refine' pos_toks ?pxh ?_; (case pxh => first | assumption | (dsimp only; omega)))
  trivial
theorem wl_LwE_5 : True := by
  k_with "call ref" => run_tac Mine.ln "LwE.5"
  k_with "own LwE.5" => (k_here; (with_reducible show wpAny _ _ (call (Value.ref 229) _) _ _ _); refine held ?_)
  trivial
theorem wl_LwE_6 : True := by
  k_with "call builtin:str.join" => run_tac Mine.ln "LwE.6"
  k_with "own LwE.6" => (k_here; refine held ?_)
  trivial
theorem wl_LwE_7 : True := by
  k_with "execs cons" => run_tac Mine.ln "LwE.7"
  k_with "own LwE.7" => (k_here; (with_reducible show wpAny _ _ (execs (Stmt.Assign [PySem.Expr.Name (Str.ofString "prepared") _] _ _ :: _) _) _ _ _); refine held ?_)
  trivial
theorem strs_len {vs : List Value} {ys : List Str} (h : StrsAre vs ys) : vs.length = ys.length := by
  induction h with
  | nil => rfl
  | cons y u r ih => rw [List.length_cons, List.length_cons, ih]
noncomputable abbrev pVals (lc : Addr) (P : Str) (tP : Tok) : List (Str × Option Value) := [(Str.ofString "calls", some (.ref lc)), (Str.ofString "page", some (.str P tP))]
theorem law_end (w : World) (mean : ExcName → Option Value) (mg mb : Str → Option Value) (W : WA) (T : WT) (cs : List Cl) (tl0 : List (Addr × Obj)) (lc : Addr) (hW : WOrd W) (hcs : cs.length ≤ 12) (hok : ∀ c ∈ cs, c.ok)
    (dp un : Nat) (gd : Option (List Code)) (a : Addr) (ccd : Value) (outer : List Env) (A₀ : Around) (base h₀ : Heap) (L : Addr) (m0 : Str → Option Value) (s : Shared) (Q : Flow → Shared → Prop) (E : Value → Shared → Prop) (n0 : List (Addr × Obj))
    (B : Below A₀ base outer h₀) (F : Fr h₀ L s.heap (ovr (lVals lc W) m0)) (X : (K w.params).In h₀) (N : News h₀ L s.heap n0) (hI0 : LInv w W T cs tl0 cs.length n0) (Tp : Top VW LO mean mg mb h₀) (hdp : dp + 7 < recursionLimit) (hu : un + 100 < cLine) (ht : 0 < s.toks) (hg : AllBare s.gens)
    (hQ : ∀ m' P tP s' ps nw, codes P = (first cs).flatten → Fr h₀ L s'.heap (ovr (pVals lc P tP) m') → News h₀ L s'.heap ((219, tabObj ps) :: (nw ++ tl0)) → s'.os = s.os → AllBare s'.gens → 0 < s'.toks → wpAny (model PG w) (ktrTop dp un gd (Str.ofString "law") lawScope L a ccd [] outer) (execs lawPrep (envX (Str.ofString "law") lawScope L a ccd [])) Q E s') :
    wpAny (model PG w) (ktrTop dp un gd (Str.ofString "law") lawScope L a ccd [] outer) (execs lawEnd (envX (Str.ofString "law") lawScope L a ccd [])) Q E s := by
  k_with "proof" =>
    obtain ⟨rd, n, stk, data, wr, nsl, pres, k1, k2, k3, k4, k5, ps, nw, d, z, ws, ys, rfl, q1, q2, q3, q4, q5, q6, q7, q8, q9, q10, q11, q12, q13, q14, q15⟩ := hI0
    have hd0 : d = 0 := by rw [List.drop_length] at q14; exact q14
    subst hd0
    rw [List.take_length] at q13
    revert B F X N Tp hdp hu ht hg hQ
    dsimp only [PG, VW, LO, ovr, lVals, wL, wD]
    k_fill
    intro B F X Tp hdp hu ht hg hQ N
    obtain ⟨h9, gn9, d9, t9, o9⟩ := s
    dsimp only at F N ht hg
    delta lawEnd lawScope
    k_steps
    with_reducible rename News _ _ _ _ => NX
    with_reducible rename Fr _ _ _ _ => FX
    refine Held.go ?_
    k_dflt (refine end_c w mean mg mb ((219, tabObj ps) :: (nw ++ tl0)) W T rd n stk data wr nsl pres k1 k2 k3 k4 k5 hW q1 (stk_mono q4 fun p hp => .tail _ hp) (by omega) (by omega) (by omega) (by omega) (by omega) ys q11 (by omega) (Str.ofString "r") _ (.inl rfl) _ _ _ _ _ _ _ _ _ _ _ _ _ _ _ _ _ B FX X NX Tp rfl (wlt7c hdp) (wu10c hu) ?u4 hg ?u5)
    case u4 => first | assumption | (dsimp only; omega)
    intro v7 n7 s7 F7 N7 S7 t7 P7
    obtain ⟨wr1, yy, ty, rd', k1', k2', k3', k4', k5', hfl, hyy, rfl⟩ := P7
    obtain ⟨hp7, gp7, dp7, tp7, op7⟩ := s7
    obtain ⟨eo7, ed7, eg7⟩ := S7
    dsimp only at eo7 eg7 F7 N7 t7
    clear NX FX
    obtain ⟨ws1, s1, s2, s3⟩ := flush_strs hfl q10
    have hz : [60, 47] ++ codes (Str.ofString "r") ++ [62] = codes (Str.ofString "</r>") := by decide +kernel
    have hcodes : (ws1 ++ [yy]).flatMap codes = (first cs).flatten := by
      have := WInv.fin q13
      rw [List.flatMap_append, s2, List.flatMap_cons, hyy, hz]
      simpa using this
    have hstr : StrsAre (wr1.push (.str yy ty)).toList (ws1 ++ [yy]) := by rw [Array.toList_push]; exact strs_app s1 (.cons _ _ .nil)
    have hP : codes (Txt.join (Str.ofString "") (ws1 ++ [yy])) = (first cs).flatten := by rw [join_codes, hcodes]
    have hwl : (ws1 ++ [yy]).length ≤ 60 := by
      have e : (ws1 ++ [yy]).length = (wr1.push (.str yy ty)).toList.length := (strs_len hstr).symm
      rw [e, Array.length_toList, Array.size_push]; omega
    have hsum : ((ws1 ++ [yy]).map (·.length)).sum ≤ 1000 := by
      rw [← join_len, ← len_codes, hP]
      exact first_len hok hcs
    dsimp only [wL, wD] at N7
    k_steps
    refine Held.go ?_
    refine pos_toks (by first | assumption | (dsimp only; omega)) ?_
    k_dflt (refine join_listC (items := wr1.push (.str yy ty)) (ys := ws1 ++ [yy]) ⟨_, (N7 (W.lw, _) (by k_mem)).1, rfl, _, rfl⟩ hstr (by decide) (by omega) ?_)
    intro tj kj hj
    dsimp only at hj
    k_steps
    refine Held.go ?_
    with_reducible rename News _ _ _ _ => NE
    with_reducible rename Fr _ _ _ _ => FE
    refine hQ _ _ tj _ ps nw hP (Fr.ovr FE (pVals lc _ tj) ?m9 (fun _ _ => rfl)) (fun p hp => NE p ?_) eo7 eg7 (by first | assumption | (dsimp only; omega))
    case m9 =>
      intro p hp
      simp only [pVals, List.mem_cons, List.not_mem_nil, or_false] at hp
      rcases hp with rfl | rfl <;> rfl
    · iterate 10 apply List.mem_cons_of_mem
      exact hp
  run_tac Mine.sq default
end Mine
end
theorem Mine.wl_LwE_end : True := by
  k_with_none
  trivial
section -- LwF
open PySem PySem.W PySem.Calls PyProof.Rows
namespace Mine
section
variable {prog : Program} {w : World} {A : Around} {E : Value → Shared → Prop} {s : Shared} {h₀ : Heap} {L : Addr} {m : Str → Option Value} {env : Env}
theorem walks_str (hh : A.handled = none) (I : Addr) (x : Str) (t : Tok) : Walks prog w A I [I] [I] x.cps.size (SignAt x) (fun i h => h.IsStrIter I (strIterType x) x t i) := by
  k_with "proof" =>
    cases ha : x.cps.all (· < 128)
    · have e : strIterType x = "str_iterator" := by simp [strIterType, ha]
      rw [e]; exact Walks.strWide hh I x t
    · have e : strIterType x = "str_ascii_iterator" := by simp [strIterType, ha]
      rw [e]; exact Walks.strAscii hh I x t
  run_tac Mine.sq default
theorem append_lst {D : Addr} {ys : List Value} {v : Value} {E : Value → Shared → Prop} {Q : Value → Shared → Prop} (ho : s.heap.get? D = some (LCg.lst ys)) (hz : ys.length ≤ 20000) (h : ∀ h', Heap.SameBut D s.heap h' → h'.get? D = some (LCg.lst (ys ++ [v])) → Q .none { s with heap := h' }) :
    wpAny (model prog w) A (call (.builtin "list.append") [.ref D, v]) Q E s :=
  append_at (hsz := by rw [List.size_toArray, sizeLine_eq]; omega) ho fun h' hs hD => h h' hs (hD.trans (congrArg some (LCg.lst_snoc ys v)))
noncomputable def SSrc (prog : Program) (w : World) (A : Around) (h₀ : Heap) (L : Addr) (m : Str → Option Value) (env : Env) (elt tst : PySem.Expr) (x : Str) (scope : Scope) (cl : List (Str × Addr)) (keep : Nat → Bool) (g : Nat → Str) (Q : Value → Shared → Prop) (xv : Value) (s₁ : Shared) : Prop :=
  ∃ P tP nw, xv = .str P tP ∧ A.handled = none ∧ Fr h₀ L s₁.heap m ∧ News h₀ L s₁.heap nw ∧ 0 < s₁.toks ∧ P.cps.size ≤ 10000 ∧
    (∀ k t C oC m₂ r (s' : Shared) (E' : Value → Shared → Prop), k ∈ codes P → LCg.NsObj oC m₂ → m₂ x = some (.str ⟨#[k]⟩ t) → Fr h₀ L s'.heap m → News h₀ L s'.heap ((C, oC) :: (r ++ nw)) → Same s₁ s' → 0 < s'.toks →
      wpAny (model prog w) A (isTrue tst (compEnvC scope cl C env) (eval tst (compEnvC scope cl C env))) (fun b s'' => b = keep k ∧ Fr h₀ L s''.heap m ∧ News h₀ L s''.heap ((C, oC) :: (r ++ nw)) ∧ Same s₁ s'' ∧ 0 < s''.toks) E' s') ∧
    (∀ k t C oC m₂ r (s' : Shared) (E' : Value → Shared → Prop), k ∈ codes P → keep k = true → LCg.NsObj oC m₂ → m₂ x = some (.str ⟨#[k]⟩ t) → Fr h₀ L s'.heap m → News h₀ L s'.heap ((C, oC) :: (r ++ nw)) → Same s₁ s' → 0 < s'.toks →
      wpAny (model prog w) A (eval elt (compEnvC scope cl C env)) (fun v s'' => (∃ t', v = .str (g k) t') ∧ Fr h₀ L s''.heap m ∧ News h₀ L s''.heap ((C, oC) :: (r ++ nw)) ∧ Same s₁ s'' ∧ 0 < s''.toks) E' s') ∧
    (∀ (ys : List Value) D (s' : Shared), StrsAre ys (((codes P).filter keep).map g) → Fr h₀ L s'.heap m → News h₀ L s'.heap ((D, LCg.lst ys) :: nw) → (∀ p ∈ nw, p.1 < D) → Same s₁ s' → 0 < s'.toks → Q (.ref D) s')
theorem list_str {elt tst iter : PySem.Expr} {x : Str} {px : Pos} {scope : Scope} {cl : List (Str × Addr)} {pos : Pos} {keep : Nat → Bool} {g : Nat → Str} {Q : Value → Shared → Prop} (hLe : env.locals = L)
    (hclos : closureFor scope env = pure cl) (hcell : ∀ z ∈ scope.names, z.2 ≠ .cell) (hkind : scope.kind = .function)
    (hnames : ∀ z ∈ scope.names, z.2 = .local → scope.names.lookup z.1 = some .local) (hx : scope.names.lookup x = some .local)
    (h : wpAny (model prog w) A (eval iter env) (SSrc prog w A h₀ L m env elt tst x scope cl keep g Q) E s)
    (hs : ∀ x, foldedSetIterable iter env x = pure x := by intro _; rfl) :
    wpAny (model prog w) A (eval (.ListComp elt [⟨.Name x px, iter, [tst], 0⟩] scope pos) env) Q E s := by
  k_with "proof" =>
    subst hLe
    rw [eval_ListComp]
    refine wpAny_comprehension_free (use := none) rfl hs hclos hkind hnames (wpAny_mono h (fun xv s₁ h₁ => ?_) fun _ _ e => e)
    obtain ⟨P, tP, news, rfl, hh, F, N, htk, hPs, turnT, turnE, fin⟩ := h₁
    refine wpAny_pyIter_strU ?_
    have W := walks_str (prog := prog) (w := w) hh s₁.heap.objs.size P tP
    generalize hH1 : s₁.heap.push { cls := .type (strIterType P), data := .fields #[.str P tP, .int 0 0] } = H1
    have hst : H1.IsStrIter s₁.heap.objs.size (strIterType P) P tP 0 := ⟨_, hH1 ▸ Heap.get?_push_size _ rfl, rfl, rfl⟩
    have up : ∀ b o, s₁.heap.get? b = some o → H1.get? b = some o := fun b o e => hH1 ▸ Heap.get?_push_of_some _ e
    have sz1 : H1.objs.size = s₁.heap.objs.size + 1 := by rw [← hH1, size_push']
    have F1 : Fr h₀ env.locals H1 m := F.keeps up
    have N1 : News h₀ env.locals H1 news := N.grown up
    refine wpAny_newObj_type (wpAny_newFunctionEnv hcell (by intro y hy; simp at hy) (fun h₁ hns₁ hsb₁ => ?_) hkind)
    dsimp only at hns₁ hsb₁ ⊢
    generalize hH2 : H1.push { cls := .type "list", dict := none, data := .seq ([] : List Value).toArray } = H2 at hns₁ hsb₁ ⊢
    have hC : H2.objs.size = s₁.heap.objs.size + 2 := by rw [← hH2, size_push', sz1]
    have hlN : ∀ p ∈ news, p.1 < s₁.heap.objs.size := fun p hp => Heap.lt_size (N p hp).1
    have hLlt : env.locals < s₁.heap.objs.size := F.ns.lt
    have hI₀ : h₀.get? s₁.heap.objs.size = none := Heap.get?_none_of_le (Nat.le_trans F.above (Nat.le_of_lt hLlt))
    have hD₀ : h₀.get? H1.objs.size = none := Heap.get?_none_of_le (by rw [sz1]; exact Nat.le_trans F.above (Nat.le_of_lt (Nat.lt_succ_of_lt hLlt)))
    have hC₀ : h₀.get? H2.objs.size = none := Heap.get?_none_of_le (by rw [hC]; exact Nat.le_trans F.above (Nat.le_of_lt (Nat.lt_succ_of_lt (Nat.lt_succ_of_lt hLlt))))
    have hID : s₁.heap.objs.size < H1.objs.size := by rw [sz1]; exact Nat.lt_succ_self _
    have hDC : H1.objs.size < H2.objs.size := by rw [hC, sz1]; exact Nat.lt_succ_self _
    have old : ∀ b o, H1.get? b = some o → h₁.get? b = some o := fun b o e => hsb₁.extBut b o (Nat.ne_of_lt (Nat.lt_trans (Heap.lt_size e) hDC)) (Heap.get?_push_of_some _ (hH2 ▸ Heap.get?_push_of_some _ e))
    have hacc : h₁.get? H1.objs.size = some (LCg.lst []) := hsb₁.extBut _ _ (Nat.ne_of_lt hDC) (Heap.get?_push_of_some _ (hH2 ▸ Heap.get?_push_size _ rfl))
    have hst1 : h₁.IsStrIter s₁.heap.objs.size (strIterType P) P tP 0 := W.frame _ _ _ hst fun b _ o e => old b o e
    have loop : ∀ s₃ : Shared, s₃ = { s₁ with heap := h₁, toks := s₁.toks + ([] : List (Str × Value)).length } →
        codeAny (model prog w) A (.compLoop (.ListComp elt [⟨.Name x px, iter, [tst], 0⟩] scope pos) 0 (.ref s₁.heap.objs.size) (.ref H1.objs.size) (compEnvC scope cl H2.objs.size env))
          (compPost (model prog w) A E none Q (.ref H1.objs.size) H2.objs.size) s₃ := by
      rintro s₃ rfl
      refine codeAny_compLoop_tests
        (fun k s' => ∃ i ys m', i ≤ P.cps.size ∧ k = P.cps.size + 1 - i ∧ s'.heap.IsStrIter s₁.heap.objs.size (strIterType P) P tP i ∧ Fr h₀ env.locals s'.heap m ∧ s'.heap.Ns H2.objs.size m' ∧ StrsAre ys ((((codes P).take i).filter keep).map g) ∧ ys.length ≤ i ∧
          News h₀ env.locals s'.heap ((H1.objs.size, LCg.lst ys) :: news) ∧ Same s₁ s' ∧ 0 < s'.toks) ?_ (P.cps.size + 1)
        ⟨0, [], _, Nat.zero_le _, rfl, hst1, F1.keeps old, hns₁, .nil, Nat.le_refl _, fun p hp => ?_, ⟨rfl, rfl, rfl⟩, htk⟩
      · rintro k s' ⟨i, ys, m', hi, rfl, hit, F', hn', hys, hyl, N', hsm, htk'⟩
        have kC : (compEnvC scope cl H2.objs.size env).scope.kind = .function := by simp [compEnvC, relabel, hkind]
        have hLI : env.locals ≠ s₁.heap.objs.size := Nat.ne_of_lt hLlt
        by_cases hin : i < P.cps.size
        · refine pos_toks htk' (W.item i s' _ _ hin hit fun v h₂ tk₂ hPv hst₂ hk₂ => ?_)
          intro ht2
          obtain ⟨c, u, hc, rfl⟩ := hPv
          have hcm : c ∈ codes P := by
            have : P.cps.toList[i]? = some c := by simpa using hc
            exact List.mem_of_getElem? this
          dsimp only at ht2 ⊢
          have k2 : ∀ b o, b ≠ s₁.heap.objs.size → s'.heap.get? b = some o → h₂.get? b = some o := fun b o q e => hk₂ b o (by simpa using q) e
          refine wpAny_assign_Name (wpAny_storeName_local (lookup_relabel_local hx) (hn'.at' fun o e => k2 _ o (Nat.ne_of_gt (Nat.lt_trans hID hDC)) e) (fun h₃ hn₃ hs₃ => ?_) (by simp [compEnvC, relabel, hkind]))
          have k3 : ∀ b o, b ≠ H2.objs.size → h₂.get? b = some o → h₃.get? b = some o := fun b o q e => hs₃.extBut b o q e
          obtain ⟨oI, gI, cI, dI⟩ := hst₂
          have gI3 : h₃.get? s₁.heap.objs.size = some oI := k3 _ _ (Nat.ne_of_lt (Nat.lt_trans hID hDC)) gI
          obtain ⟨oC, gC, nC⟩ := LCg.ns_obj hn₃
          have N3 : News h₀ env.locals h₃ ((H2.objs.size, oC) :: ([(s₁.heap.objs.size, oI), (H1.objs.size, LCg.lst ys)] ++ news)) := fun p hp => by
            rcases List.mem_cons.mp hp with rfl | hp
            · exact ⟨gC, Nat.ne_of_gt (Nat.lt_trans (Nat.lt_trans hLlt hID) hDC), hC₀⟩
            · rcases List.mem_cons.mp hp with rfl | hp
              · exact ⟨gI3, Nat.ne_of_gt hLlt, hI₀⟩
              · have z9 := N' p hp
                refine ⟨k3 _ _ ?_ (k2 _ _ ?_ z9.1), z9.2⟩
                · rcases List.mem_cons.mp hp with rfl | hp
                  · exact Nat.ne_of_lt hDC
                  · exact Nat.ne_of_lt (Nat.lt_trans (Nat.lt_trans (hlN p hp) hID) hDC)
                · rcases List.mem_cons.mp hp with rfl | hp
                  · exact Nat.ne_of_gt hID
                  · exact Nat.ne_of_lt (hlN p hp)
          have F3 : Fr h₀ env.locals h₃ m := ⟨F'.ns.at' fun o e => k3 _ _ (Nat.ne_of_lt (Nat.lt_trans (Nat.lt_trans hLlt hID) hDC)) (k2 _ _ hLI e), fun b o e => k3 b o (fun q => by rw [q, hC₀] at e; cases e) (k2 b o (fun q => by rw [q, hI₀] at e; cases e) (F'.keep b o e)), F'.above⟩
          have S3 : Same s₁ ⟨h₃, s'.gens, s'.drawn, tk₂ + 1, s'.os⟩ := ⟨hsm.o, hsm.d, hsm.g⟩
          have etake : (codes P).take (i + 1) = (codes P).take i ++ [c] := by
            have : (codes P)[i]? = some c := by unfold codes; simpa using hc
            rw [List.take_add_one, this]; rfl
          have next : ∀ (ys' : List Value) (s4 : Shared), s4.heap.get? H1.objs.size = some (LCg.lst ys') → StrsAre ys' ((((codes P).take (i + 1)).filter keep).map g) → ys'.length ≤ i + 1 → Fr h₀ env.locals s4.heap m → News h₀ env.locals s4.heap ((H2.objs.size, oC) :: ((s₁.heap.objs.size, oI) :: news)) → Same s₁ s4 → 0 < s4.toks →
              ∃ j, j < P.cps.size + 1 - i ∧ ∃ i ys m', i ≤ P.cps.size ∧ j = P.cps.size + 1 - i ∧ s4.heap.IsStrIter s₁.heap.objs.size (strIterType P) P tP i ∧ Fr h₀ env.locals s4.heap m ∧ s4.heap.Ns H2.objs.size m' ∧ StrsAre ys ((((codes P).take i).filter keep).map g) ∧ ys.length ≤ i ∧ News h₀ env.locals s4.heap ((H1.objs.size, LCg.lst ys) :: news) ∧ Same s₁ s4 ∧ 0 < s4.toks := by
            intro ys' s4 gD hy hl F4 N4 S4 t4
            refine ⟨P.cps.size + 1 - (i + 1), by omega, i + 1, ys', _, hin, rfl, ⟨oI, (N4 _ (.tail _ (.head _))).1, cI, dI⟩, F4, nC.ns (N4 _ (.head _)).1, hy, hl, fun p hp => ?_, S4, t4⟩
            rcases List.mem_cons.mp hp with rfl | hp
            · exact ⟨gD, Nat.ne_of_gt (Nat.lt_trans hLlt hID), hD₀⟩
            · exact N4 p (.tail _ (.tail _ hp))
          show wpAny _ _ (forIn [tst] true _) _ _ _
          rw [List.forIn_cons]
          refine wpAny_bind ?_
          simp only [if_true]
          refine wpAny_bind (wpAny_mono (turnT c u _ oC _ _ ⟨h₃, s'.gens, s'.drawn, tk₂ + 1, s'.os⟩ _ hcm nC (if_pos rfl) F3 N3 S3 (Nat.succ_pos _)) (fun b s4 h4 => ?_) fun _ _ e => e)
          obtain ⟨rfl, F4, N4, S4, t4⟩ := h4
          refine wpAny_pure ?_
          dsimp only
          rw [List.forIn_nil]
          refine wpAny_pure ?_
          cases hkc : keep c with
          | false =>
            simp only [Bool.false_eq_true, if_false]
            refine next ys s4 (N4 _ (.tail _ (.tail _ (.head _)))).1 ?_ (by omega) F4 (fun p hp => N4 p ?_) S4 t4
            · rw [etake, List.filter_append]
              simpa [hkc] using hys
            · rcases List.mem_cons.mp hp with e | hp
              · exact e ▸ .head _
              · rcases List.mem_cons.mp hp with e | hp
                · exact e ▸ .tail _ (.head _)
                · exact .tail _ (.tail _ (.tail _ hp))
          | true =>
            simp only [if_true]
            refine wpAny_mono (turnE c u _ oC _ _ s4 _ hcm hkc nC (if_pos rfl) F4 N4 S4 t4) (fun v s5 h5 => ?_) fun _ _ e => e
            obtain ⟨⟨t', rfl⟩, F5, N5, S5, t5⟩ := h5
            have zD := (N5 (H1.objs.size, LCg.lst ys) (.tail _ (.tail _ (.head _)))).1
            refine append_lst zD (by omega) fun h₆ hs₆ hD₆ => ?_
            have k6 : ∀ b o, b ≠ H1.objs.size → s5.heap.get? b = some o → h₆.get? b = some o := fun b o q e => hs₆.extBut b o q e
            refine next (ys ++ [.str (g c) t']) ⟨h₆, s5.gens, s5.drawn, s5.toks, s5.os⟩ hD₆ ?_ (by rw [List.length_append, List.length_singleton]; omega) (F5.change hs₆ (Nat.ne_of_gt (Nat.lt_trans hLlt hID)) hD₀) (fun p hp => ?_) ⟨S5.o, S5.d, S5.g⟩ t5
            · rw [etake, List.filter_append, List.map_append]
              have : List.filter keep [c] = [c] := by simp [hkc]
              rw [this]
              exact strs_snoc hys t'
            · have hp' : p ∈ (H2.objs.size, oC) :: ([(s₁.heap.objs.size, oI), (H1.objs.size, LCg.lst ys)] ++ news) := by
                rcases List.mem_cons.mp hp with e | hp
                · exact e ▸ .head _
                · rcases List.mem_cons.mp hp with e | hp
                  · exact e ▸ .tail _ (.head _)
                  · exact .tail _ (.tail _ (.tail _ hp))
              refine ⟨k6 _ _ ?_ (N5 p hp').1, (N5 p hp').2⟩
              rcases List.mem_cons.mp hp with rfl | hp
              · exact Nat.ne_of_gt hDC
              · rcases List.mem_cons.mp hp with rfl | hp
                · exact Nat.ne_of_lt hID
                · exact Nat.ne_of_lt (Nat.lt_trans (hlN p hp) hID)
        · obtain rfl : i = P.cps.size := Nat.le_antisymm hi (Nat.not_lt.mp hin)
          refine pos_toks htk' (W.done s' _ _ hit fun h₂ tk₂ hk₂ => ?_)
          intro ht2
          dsimp only at ht2 ⊢
          have k2 : ∀ b o, b ≠ s₁.heap.objs.size → s'.heap.get? b = some o → h₂.get? b = some o := fun b o q e => hk₂ b o (by simpa using q) e
          have F2 : Fr h₀ env.locals h₂ m := ⟨F'.ns.at' fun o e => k2 _ _ hLI e, fun b o e => k2 b o (fun q => by rw [q, hI₀] at e; cases e) (F'.keep b o e), F'.above⟩
          have etake : (codes P).take P.cps.size = codes P := List.take_of_length_le (by unfold codes; rw [Array.length_toList]; exact Nat.le_refl _)
          rw [etake] at hys
          have hCL : H2.objs.size ≠ env.locals := Nat.ne_of_gt (Nat.lt_trans (Nat.lt_trans hLlt hID) hDC)
          refine ⟨m', hn'.at' fun o e => k2 _ _ (Nat.ne_of_gt (Nat.lt_trans hID hDC)) e, fun h4 hs4 => ?_⟩
          refine fin ys _ ⟨h4, s'.gens, s'.drawn, tk₂, s'.os⟩ hys (F2.change hs4 hCL hC₀) (fun p hp => ?_) (fun p hp => Nat.lt_trans (hlN p hp) hID) ⟨hsm.o, hsm.d, hsm.g⟩ ht2
          refine ⟨hs4.extBut _ _ ?_ (k2 _ _ ?_ (N' p hp).1), (N' p hp).2⟩
          · rcases List.mem_cons.mp hp with rfl | hp
            · exact Nat.ne_of_lt hDC
            · exact Nat.ne_of_lt (Nat.lt_trans (Nat.lt_trans (hlN p hp) hID) hDC)
          · rcases List.mem_cons.mp hp with rfl | hp
            · exact Nat.ne_of_gt hID
            · exact Nat.ne_of_lt (hlN p hp)
      · rcases List.mem_cons.mp hp with rfl | hp
        · exact ⟨hacc, Nat.ne_of_gt (Nat.lt_trans hLlt hID), hD₀⟩
        · exact ⟨old _ _ (N1 p hp).1, (N p hp).2⟩
    exact codeAny_compStart_list (loop _ rfl) (W.self 0 _ _ _ hst1 (loop _ rfl))
  run_tac Mine.sq default
end
end Mine
end
section -- LwG
open PySem PySem.W PySem.Calls PyProof.Rows
namespace Mine
theorem wl_LwG_0 : True := by
  k_with_none
  trivial
noncomputable abbrev pScope : Scope := { kind := .function, names := [(Str.ofString ".0", .local), (Str.ofString "sign", .local), (Str.ofString "in_table_b1", .globalImplicit), (Str.ofString "map_table_b3", .globalImplicit)], isGenerator := false, isCoroutine := false }
theorem wl_LwG_1 : True := by
  k_with "eval Name" => run_tac Mine.ln "LwG.1"
  k_with "own LwG.1" => (k_here; (with_reducible show wpAny _ _ (eval (PySem.Expr.Name _ _) (compEnvC _ _ _ _)) _ _ _); k_dflt (first | refine LCgL.ld_own (by k_asm) (List.mem_cons_self ..) (by assumption) (by assumption) ?_ | refine LCgL.ld_global (by k_asm) (by k_asm) (by k_asm) (by k_is) ?_))
  trivial
theorem wl_LwG_2 : True := by
  k_with "call ref" => run_tac Mine.ln "LwG.2"
  k_with "own LwG.2" => (k_here; (with_reducible show wpAny _ _ (call (Value.ref 56) _) _ _ _); refine held ?_)
  trivial
theorem wl_LwG_3 : True := by
  k_with "call ref" => run_tac Mine.ln "LwG.3"
  k_with "own LwG.3" => (k_here; (with_reducible show wpAny _ _ (call (Value.ref 102) _) _ _ _); refine held ?_)
  trivial
theorem prep_tst (w : World) (mean : ExcName → Option Value) (mg mb : Str → Option Value) (k : Nat) (t : Tok) (C : Addr) (oC : Obj) (m₂ : Str → Option Value) (r : List (Addr × Obj)) (p1 p2 p3 p4 : Pos) (cl : List (Str × Addr)) (nC : LCg.NsObj oC m₂) (hx : m₂ (Str.ofString "sign") = some (.str ⟨#[k]⟩ t))
    (dp un : Nat) (gd : Option (List Code)) (cn : Str) (cs : Scope) (a : Addr) (ccd : Value) (cl0 : List (Str × Addr)) (outer : List Env) (A₀ : Around) (base h₀ : Heap) (L : Addr) (m : Str → Option Value) (s : Shared) (Q : Bool → Shared → Prop) (E : Value → Shared → Prop)
    (B : Below A₀ base outer h₀) (F : Fr h₀ L s.heap m) (X : (K w.params).In h₀) (N : News h₀ L s.heap ((C, oC) :: r)) (Tp : Top VW LO mean mg mb h₀) (hk : cs.kind = .function) (hdp : dp + 1 < recursionLimit) (hu : un + 60 < cLine) (ht : 0 < s.toks) (hg : AllBare s.gens)
    (hQ : ∀ s', Fr h₀ L s'.heap m → News h₀ L s'.heap ((C, oC) :: r) → Same s s' → 0 < s'.toks → Q (!S46 w.params k) s') :
    wpAny (model PG w) (ktrTop dp un gd cn cs L a ccd cl0 outer) (isTrue (.UnaryOp .Not (.Call (.Name (Str.ofString "in_table_b1") p1) [.Name (Str.ofString "sign") p2] [] p3) p4) (compEnvC pScope cl C (envX cn cs L a ccd cl0)) (eval (.UnaryOp .Not (.Call (.Name (Str.ofString "in_table_b1") p1) [.Name (Str.ofString "sign") p2] [] p3) p4) (compEnvC pScope cl C (envX cn cs L a ccd cl0)))) Q E s := by
  k_with "proof" =>
    revert B F X N Tp hdp hu ht hg hQ
    dsimp only [PG, VW, LO]
    k_fill
    intro B F X N Tp hdp hu ht hg hQ
    obtain ⟨h9, gn9, d9, t9, o9⟩ := s
    dsimp only at F N ht hg
    refine pos_toks ht ?_
    k_steps
    refine Held.go ?_
    k_dflt (refine in_b1 w mean mg mb _ k t _ _ _ _ _ _ _ _ _ _ _ _ _ _ _ _ _ B (by k_asm) X (by k_asm) Tp hk hdp (by omega) ?u1 hg ?u2)
    case u1 => first | assumption | (dsimp only; omega)
    rintro v' n' s' F' N' S' t' ⟨rfl, rfl⟩
    obtain ⟨h8, gn8, d8, t8, o8⟩ := s'
    obtain ⟨e1, e2, e3⟩ := S'
    dsimp only at F' N' t' e1 e2 e3
    subst e1 e2 e3
    k_steps
    exact hQ _ F' N' ⟨rfl, rfl, rfl⟩ t'
  run_tac Mine.sq default
theorem prep_elt (w : World) (mean : ExcName → Option Value) (mg mb : Str → Option Value) (k : Nat) (t : Tok) (C : Addr) (oC : Obj) (m₂ : Str → Option Value) (r : List (Addr × Obj)) (p1 p2 p3 p4 : Pos) (cl : List (Str × Addr)) (nC : LCg.NsObj oC m₂) (hx : m₂ (Str.ofString "sign") = some (.str ⟨#[k]⟩ t)) (y : Str)
    (hy : (b3v w.params k = none ∧ y = Txt.lower ⟨#[k]⟩) ∨ ∃ u, b3v w.params k = some (.str y u))
    (dp un : Nat) (gd : Option (List Code)) (cn : Str) (cs : Scope) (a : Addr) (ccd : Value) (cl0 : List (Str × Addr)) (outer : List Env) (A₀ : Around) (base h₀ : Heap) (L : Addr) (m : Str → Option Value) (s : Shared) (Q : Value → Shared → Prop) (E : Value → Shared → Prop)
    (B : Below A₀ base outer h₀) (F : Fr h₀ L s.heap m) (X : (K w.params).In h₀) (N : News h₀ L s.heap ((C, oC) :: r)) (Tp : Top VW LO mean mg mb h₀) (hk : cs.kind = .function) (hdp : dp + 1 < recursionLimit) (hu : un + 60 < cLine) (ht : 0 < s.toks) (hg : AllBare s.gens)
    (hQ : ∀ t' s', Fr h₀ L s'.heap m → News h₀ L s'.heap ((C, oC) :: r) → Same s s' → 0 < s'.toks → Q (.str y t') s') :
    wpAny (model PG w) (ktrTop dp un gd cn cs L a ccd cl0 outer) (eval (.Call (.Name (Str.ofString "map_table_b3") p1) [.Name (Str.ofString "sign") p2] [] p3) (compEnvC pScope cl C (envX cn cs L a ccd cl0))) Q E s := by
  k_with "proof" =>
    revert B F X N Tp hdp hu ht hg hQ
    dsimp only [PG, VW, LO]
    k_fill
    intro B F X N Tp hdp hu ht hg hQ
    obtain ⟨h9, gn9, d9, t9, o9⟩ := s
    dsimp only at F N ht hg
    refine pos_toks ht ?_
    k_steps
    refine Held.go ?_
    rcases hy with ⟨hb, rfl⟩ | ⟨u, hb⟩
    · k_dflt (refine map_b3 w mean mg mb _ k t hb _ _ _ _ _ _ _ _ _ _ _ _ _ _ _ _ _ B (by k_asm) X (by k_asm) Tp hk hdp (by omega) ?u1 hg ?u2)
      case u1 => first | assumption | (dsimp only; omega)
      rintro v' n' s' F' N' S' t' ⟨rfl, t9, rfl⟩
      k_steps
      exact hQ _ _ F' N' S' t'
    · k_dflt (refine map_b3' w mean mg mb _ k t y u hb _ _ _ _ _ _ _ _ _ _ _ _ _ _ _ _ _ B (by k_asm) X (by k_asm) Tp hk hdp (by omega) ?u3 hg ?u4)
      case u3 => first | assumption | (dsimp only; omega)
      rintro v' n' s' F' N' S' t' ⟨rfl, t9, rfl⟩
      k_steps
      exact hQ _ _ F' N' S' t'
  run_tac Mine.sq default
noncomputable def okS3 (P : Params) (k : Nat) : Bool := S46 P k == (k == 173 || k == 8203)
/-- the table looked up along its list -/
noncomputable def b3l (P : Params) (k : Int) : Option Value := ((es57 P).find? fun e => Value.isInt k e.key).map (·.val)
theorem b3l_eq (P : Params) (k : Int) : b3v P k = b3l P k := by
  unfold b3v b3l PySem.findBy
  rw [List.find?_toArray]
noncomputable def okB3 (P : Params) (k : Nat) : Bool := match b3l P k with
  | none => !(k == 223)
  | some (.str y _) => k == 223 && y.cps.toList == [115, 115]
  | _ => false
theorem alphS (P : Params) : alph.all (okS3 P) = true := by kernel_rfl
theorem alphB (P : Params) : alph.all (okB3 P) = true := by kernel_rfl
noncomputable def gOf (k : Nat) : Str := if k = 223 then ⟨#[115, 115]⟩ else Txt.lower ⟨#[k]⟩
theorem keep_alph {P : Params} {k : Nat} (h : k ∈ alph) : S46 P k = (k == 173 || k == 8203) := eq_of_beq (List.all_eq_true.mp (alphS P) k h)
theorem map_alph {P : Params} {k : Nat} (h : k ∈ alph) : (b3v P k = none ∧ gOf k = Txt.lower ⟨#[k]⟩) ∨ ∃ u, b3v P k = some (.str (gOf k) u) := by
  k_with "proof" =>
    have q := List.all_eq_true.mp (alphB P) k h
    unfold okB3 at q
    rw [b3l_eq]
    split at q
    · rename_i e
      refine .inl ⟨e, ?_⟩
      have : k ≠ 223 := by simpa using q
      simp [gOf, this]
    · rename_i y u e
      simp only [Bool.and_eq_true, beq_iff_eq] at q
      obtain ⟨q1, q2⟩ := q
      subst q1
      refine .inr ⟨u, ?_⟩
      rw [e]
      have : y = gOf 223 := by
        obtain ⟨⟨l⟩⟩ := y
        simp only at q2
        subst q2
        rfl
      rw [this]
    · cases q
  run_tac Mine.sq default
theorem gOf_alph : ∀ k ∈ alph, (k == 173 || k == 8203) = false → codes (gOf k) = prep1 k := by decide +kernel
theorem prep_keep {P : Params} : ∀ l : List Nat, (∀ k ∈ l, k ∈ alph) → ((l.filter fun k : Nat => !S46 P k).map gOf).flatMap codes = l.flatMap prep1 := by
  k_with "proof" =>
    intro l
    induction l with
    | nil => intro _; rfl
    | cons k r ih =>
      intro h
      have e := keep_alph (P := P) (h k (List.mem_cons_self ..))
      have ih' := ih fun x hx => h x (List.mem_cons_of_mem _ hx)
      rw [List.flatMap_cons, ← ih']
      cases hb : (k == 173 || k == 8203) with
      | true =>
        have e2 : prep1 k = [] := by
          have : k = 173 ∨ k = 8203 := by simpa using hb
          simp [prep1, this]
        rw [e2, List.filter_cons_of_neg (by rw [e, hb]; decide)]; rfl
      | false =>
        rw [List.filter_cons_of_pos (by rw [e, hb]; decide), List.map_cons, List.flatMap_cons, gOf_alph k (h k (List.mem_cons_self ..)) hb]
  run_tac Mine.sq default
end Mine
end
theorem Mine.wl_LwG_end : True := by
  k_with_none
  trivial
section -- LwH
open PySem PySem.W PySem.Calls PyProof.Rows
namespace Mine
theorem wl_LwH_0 : True := by
  k_with_none
  trivial
theorem wl_LwH_1 : True := by
  k_with "execs cons" => run_tac Mine.ln "LwH.1"
  k_with "own LwH.1" => (k_here; (with_reducible show wpAny _ _ _ _ _ (Shared.mk _ _ _ (_ + _) _)); refine gen_tok (by omega) ?_; intro _ _)
  trivial
theorem wl_LwH_2 : True := by
  k_with "execs nil" => run_tac Mine.ln "LwH.2"
  k_with "own LwH.2" => (k_here; (with_reducible show wpAny _ _ _ _ _ (Shared.mk _ _ _ (_ + _) _)); refine gen_tok (by omega) ?_; intro _ _)
  trivial
theorem wl_LwH_3 : True := by
  k_with "execs cons" => run_tac Mine.ln "LwH.3"
  k_with "own LwH.3" => (k_here; (with_reducible show wpAny _ _ _ _ _ (Shared.mk _ _ _ (Shared.toks _) _)); refine gen_tok (by first | assumption | (dsimp only; omega)) ?_; intro _ _)
  trivial
theorem wl_LwH_4 : True := by
  k_with "eval ListComp" => run_tac Mine.ln "LwH.4"
  k_with "own LwH.4" => (k_here; refine held ?_)
  trivial
theorem wl_LwH_5 : True := by
  k_with "call builtin:str.join" => run_tac Mine.ln "LwH.5"
  k_with "own LwH.5" => (k_here; refine held ?_)
  trivial
theorem wl_LwH_6 : True := by
  k_with "execs cons" => run_tac Mine.ln "LwH.6"
  k_with "own LwH.6" => (k_here; (with_reducible show wpAny _ _ (execs (Stmt.Assign [PySem.Expr.Name (Str.ofString "due") _] _ _ :: _) _) _ _ _); refine held ?_)
  trivial
noncomputable abbrev qVals (lc : Addr) (P : Str) (tP : Tok) (R : Str) (tR : Tok) : List (Str × Option Value) := [(Str.ofString "calls", some (.ref lc)), (Str.ofString "page", some (.str P tP)), (Str.ofString "prepared", some (.str R tR))]
theorem law_prep (w : World) (mean : ExcName → Option Value) (mg mb : Str → Option Value) (cs : List Cl) (tl0 : List (Addr × Obj)) (lc : Addr) (P : Str) (tP : Tok) (hcs : cs.length ≤ 12) (hok : ∀ c ∈ cs, c.ok) (hP : codes P = (first cs).flatten)
    (dp un : Nat) (gd : Option (List Code)) (a : Addr) (ccd : Value) (outer : List Env) (A₀ : Around) (base h₀ : Heap) (L : Addr) (m0 : Str → Option Value) (s : Shared) (Q : Flow → Shared → Prop) (E : Value → Shared → Prop)
    (B : Below A₀ base outer h₀) (F : Fr h₀ L s.heap (ovr (pVals lc P tP) m0)) (X : (K w.params).In h₀) (N : News h₀ L s.heap tl0) (Tp : Top VW LO mean mg mb h₀) (hdp : dp + 7 < recursionLimit) (hu : un + 100 < cLine) (ht : 0 < s.toks) (hg : AllBare s.gens)
    (hQ : ∀ m' R tR s', codes R = (second cs).flatten → Fr h₀ L s'.heap (ovr (qVals lc P tP R tR) m') → News h₀ L s'.heap tl0 → s'.os = s.os → AllBare s'.gens → 0 < s'.toks → wpAny (model PG w) (ktrTop dp un gd (Str.ofString "law") lawScope L a ccd [] outer) (execs lawDue (envX (Str.ofString "law") lawScope L a ccd [])) Q E s') :
    wpAny (model PG w) (ktrTop dp un gd (Str.ofString "law") lawScope L a ccd [] outer) (execs lawPrep (envX (Str.ofString "law") lawScope L a ccd [])) Q E s := by
  k_with "proof" =>
    have hPl : P.cps.size ≤ 1000 := by
      have := first_len hok hcs
      rw [← hP] at this
      simpa [codes] using this
    have hPa : ∀ k ∈ codes P, k ∈ alph := by rw [hP]; exact page_alph hok
    have hR : codes (Txt.join (Str.ofString "") (((codes P).filter fun k : Nat => !S46 w.params k).map gOf)) = (second cs).flatten := by

      rw [join_codes, prep_keep _ hPa, hP, prep_page hok]
    have hsz : ((((codes P).filter fun k : Nat => !S46 w.params k).map gOf).map (·.length)).sum + (((codes P).filter fun k : Nat => !S46 w.params k).map gOf).length * 64 ≤ 16777216 := by
      have h1 := second_len hok hcs
      rw [← hR, len_codes, join_len] at h1
      have h2 : (((codes P).filter fun k : Nat => !S46 w.params k).map gOf).length ≤ 1000 := by
        rw [List.length_map]
        refine Nat.le_trans (List.length_filter_le _ _) ?_
        rw [len_codes]; exact hPl
      omega
    have Tp0 := Tp
    revert B F X N Tp hdp hu ht hg hQ
    dsimp only [PG, VW, LO, ovr, pVals]
    k_fill
    intro B F X N Tp hdp hu ht hg hQ
    obtain ⟨h9, gn9, d9, t9, o9⟩ := s
    dsimp only at F N ht hg
    delta lawPrep lawScope
    k_steps
    refine Held.go ?_
    refine pos_toks (by first | assumption | (dsimp only; omega)) ?_
    k_dflt (refine list_str (h₀ := h₀) (L := L) (m := fun x => if x = Str.ofString "calls" then some (Value.ref lc) else if x = Str.ofString "page" then some (Value.str P tP) else m0 x) (keep := fun k : Nat => !S46 w.params k) (g := gOf) rfl (by with_unfolding_all rfl) (by decide) rfl (by decide) rfl ?_)
    k_steps
    with_reducible rename News _ _ _ _ => NP1
    with_reducible rename Fr _ _ _ _ => FP1
    refine ⟨P, _, tl0, rfl, rfl, FP1, NP1, ?tk, by omega, ?tT, ?tE, ?fn⟩
    case tk => first | assumption | (dsimp only; omega)
    case tT =>
      intro k t C oC m₂ r s' E' hk nC hx F' N' S' t'
      exact prep_tst w mean mg mb k t C oC m₂ (r ++ tl0) _ _ _ _ _ nC hx _ _ _ _ _ _ _ _ _ _ _ _ _ _ _ _ _ B F' X N' Tp0 rfl (by omega) (by omega) t' (S'.g ▸ hg) fun s'' F'' N'' S'' t'' => ⟨rfl, F'', N'', S'.trans S'', t''⟩
    case tE =>
      intro k t C oC m₂ r s' E' hk hkp nC hx F' N' S' t'
      exact prep_elt w mean mg mb k t C oC m₂ (r ++ tl0) _ _ _ default _ nC hx (gOf k) (map_alph (hPa k hk)) _ _ _ _ _ _ _ _ _ _ _ _ _ _ _ _ _ B F' X N' Tp0 rfl (by omega) (by omega) t' (S'.g ▸ hg) fun t3 s'' F'' N'' S'' t'' => ⟨⟨t3, rfl⟩, F'', N'', S'.trans S'', t''⟩
    case fn =>
      intro ys D s' hs' F' N' hnD S' t'
      obtain ⟨h8, gn8, d8, t8, o8⟩ := s'
      obtain ⟨e1, e2, e3⟩ := S'
      dsimp only at F' N' t' e1 e2 e3
      subst e1 e2 e3
      clear NP1 FP1
      intro t8p
      dsimp only at t8p
      k_steps
      refine Held.go ?_
      refine pos_toks (by first | assumption | (dsimp only; omega)) ?_
      k_dflt (refine join_listC (items := ys.toArray) (ys := ((codes P).filter fun k : Nat => !S46 w.params k).map gOf) ⟨_, (N' _ (.head _)).1, rfl, _, rfl⟩ (by simpa using hs') (by decide) hsz ?_)
      intro tj kj hj
      dsimp only at hj
      have N8 : News h₀ L _ _ := fun p hp => N' p (.tail _ hp)
      clear N'
      k_steps
      refine Held.go ?_
      with_reducible rename News _ _ _ _ => NE
      with_reducible rename Fr _ _ _ _ => FE
      refine hQ _ _ tj _ hR (Fr.ovr FE (qVals lc P tP _ tj) ?m9 (fun _ _ => rfl)) NE rfl hg (by first | assumption | (dsimp only; omega))
      intro p hp
      simp only [qVals, List.mem_cons, List.not_mem_nil, or_false] at hp
      rcases hp with rfl | rfl | rfl <;> rfl
  run_tac Mine.sq default
end Mine
end
theorem Mine.wl_LwH_end : True := by
  k_with_none
  trivial
section -- LwI
open PySem PySem.W PySem.Calls PySem.SeqAt PyProof.Rows
namespace Mine
theorem codes_inj {x y : Str} (h : codes x = codes y) : x = y := by
  obtain ⟨⟨a⟩⟩ := x
  obtain ⟨⟨b⟩⟩ := y
  simp only [codes] at h
  rw [h]
theorem txt_same {vs us : List Value} {xs : List (List Nat)} (h : TxtAll vs xs) (k : TxtAll us xs) {A : Around} {s : Shared} (j : Nat) (h1 : j < vs.toArray.size) (h2 : j < us.toArray.size) : EqAt A s vs.toArray[j] us.toArray[j] true := by
  k_with "proof" =>
    obtain ⟨y, t, e1, e2⟩ := h.at (i := j) (v := vs.toArray[j]) (by simp)
    obtain ⟨z, u, e3, e4⟩ := k.at (i := j) (v := us.toArray[j]) (by simp)
    rw [e2] at e4
    have := codes_inj (Option.some.inj e4)
    subst this
    rw [e1, e3]
    have q := (eqGives_str y y t u).at A s
    rwa [beq_self_eq_true] at q
  run_tac Mine.sq default
section
variable {prog : Program} {w : World} {A : Around} {E : Value → Shared → Prop} {s : Shared} {l b : Addr} {v1 v2 : Array Value} {xs : List (List Nat)} {Q : Value → Shared → Prop}
theorem all_true (n : Nat) : ((List.range n).all fun _ => true) = true := by simp
theorem txt_eq (hl : s.heap.IsList l v1) (hb : s.heap.IsList b v2) (h1 : TxtAll v1.toList xs) (h2 : TxtAll v2.toList xs) (hu : A.units < cLine) (h : Q (.bool true) s) : wpAny (model prog w) A (compareOp .Eq (.ref l) (.ref b)) Q E s :=
  eq_listAt (e := fun _ => true) hl hb (by have := h1.len; have := h2.len; simp at *; omega) hu (fun j h3 h4 => txt_same h1 h2 j h3 h4) (by rw [all_true]; exact h)
theorem txt_ne (hl : s.heap.IsList l v1) (hb : s.heap.IsList b v2) (h1 : TxtAll v1.toList xs) (h2 : TxtAll v2.toList xs) (hu : A.units < cLine) (h : Q (.bool false) s) : wpAny (model prog w) A (compareOp .NotEq (.ref l) (.ref b)) Q E s :=
  (RcNeAt.lists (e := fun _ => true) hl hb (by have := h1.len; have := h2.len; simp at *; omega) hu (fun j h3 h4 => txt_same h1 h2 j h3 h4)) prog w E Q (by rw [all_true]; exact h)
end
theorem PairAll.at {news : List (Addr × Obj)} {vs : List Value} {ps : PP} {i : Nat} {v : Value} (h : PairAll news vs ps) (hv : vs[i]? = some v) : ∃ T x y t u n, v = .ref T ∧ (T, tupO #[.str x t, .str y u] n) ∈ news ∧ ps[i]? = some (codes x, codes y) := by
  k_with "proof" =>
    obtain ⟨ys, rfl, hd⟩ := h
    obtain ⟨d, h1, h2⟩ := datAll_at hd hv
    rw [List.getElem?_map] at h1
    cases hy : ys[i]? with
    | none => rw [hy] at h1; cases h1
    | some y =>
      rw [hy] at h1
      cases h1
      cases h2 with
      | tuple hm r =>
        cases r with
        | cons a1 r =>
          cases r with
          | cons a2 r =>
            cases r
            cases a1
            cases a2
            exact ⟨_, _, _, _, _, _, rfl, hm, by rw [List.getElem?_map, hy]; rfl⟩
  run_tac Mine.sq default
noncomputable abbrev cvScope : Scope := { kind := .function, names := [(Str.ofString ".0", .local), (Str.ofString "came", .local), (Str.ofString "left", .local)], isGenerator := false, isCoroutine := false }
open PyProof.Rows.LCg PyProof.Rows.LCp in
theorem rest_pairs {w : World} {A : Around} {h₀ : Heap} {L : Addr} {m : Str → Option Value} {env : Env} {p : Pos} {cl : List (Str × Addr)} {s : Shared} {tl : List (Addr × Obj)} {ax : Addr} {its : Array Value} {kn : Nat} {ps : PP} {e : Str} {pr : List Nat × List Nat → List Nat} {Fin : List Value → List (Addr × Obj) → Prop}
    (hpr : (e = Str.ofString "came" ∧ pr = Prod.fst) ∨ (e = Str.ofString "left" ∧ pr = Prod.snd)) (hm : (ax, listOf its kn) ∈ tl) (hp : PairAll tl its.toList ps) (hf : ∀ ys, TxtAll ys (ps.map pr) → Fin ys tl) :
    ∀ n i ys, i + n = its.size → TxtAll ys ((ps.take i).map pr) → CompRestP PG w A h₀ L m env (.Name e p) (Str.ofString "came") (Str.ofString "left") cvScope cl s (SrcAt h₀ ax its) (fun i v => its[i]? = some v) Fin n i ys tl
  | 0, i, ys, e, ht => by
    refine CompRestP.zero (hf ys ?_)
    have := hp.len
    rwa [List.take_of_length_le (by rw [← this, Array.length_toList]; omega)] at ht
  | n + 1, i, ys, e, ht => CompRestP.succ fun v hv => by
    obtain ⟨T, x, y, t, u, nt, rfl, hT, hps⟩ := hp.at (i := i) (v := v) (by simpa using hv)
    have et : ps.take (i + 1) = ps.take i ++ [(codes x, codes y)] := by rw [List.take_add_one, hps]; rfl
    refine ⟨T, _, .str x t, .str y u, nt, rfl, hT, rfl, rfl, ?_⟩
    intro I oI C oC D m₂ h tk E' nC h1 h2 F N off ne
    rcases hpr with ⟨rfl, rfl⟩ | ⟨rfl, rfl⟩
    · refine LCgL.ld_own N (by k_mem) nC h1 ?_
      refine ⟨h, tk, tl, rfl, F, N, off, .inr ⟨_, hm, rfl, _, rfl⟩, ?_⟩
      refine rest_pairs (.inl ⟨rfl, rfl⟩) hm hp hf n (i + 1) _ (by omega) ?_
      rw [et, List.map_append]
      exact ht.snoc
    · refine LCgL.ld_own N (by k_mem) nC h2 ?_
      refine ⟨h, tk, tl, rfl, F, N, off, .inr ⟨_, hm, rfl, _, rfl⟩, ?_⟩
      refine rest_pairs (.inr ⟨rfl, rfl⟩) hm hp hf n (i + 1) _ (by omega) ?_
      rw [et, List.map_append]
      exact ht.snoc
end Mine
end
section -- LwJ
open PySem PySem.W PySem.Calls PySem.SeqAt PyProof.Rows
namespace Mine
theorem wl_LwJ_0 : True := by
  k_with_none
  trivial
theorem wl_LwJ_1 : True := by
  k_with "execs cons" => run_tac Mine.ln "LwJ.1"
  k_with "own LwJ.1" => (k_here; (with_reducible show wpAny _ _ _ _ _ (Shared.mk _ _ _ (_ + _) _)); refine gen_tok (by omega) ?_; intro _ _)
  trivial
theorem wl_LwJ_2 : True := by
  k_with "execs nil" => run_tac Mine.ln "LwJ.2"
  k_with "own LwJ.2" => (k_here; (with_reducible show wpAny _ _ _ _ _ (Shared.mk _ _ _ (_ + _) _)); refine gen_tok (by omega) ?_; intro _ _)
  trivial
theorem wl_LwJ_3 : True := by
  k_with "execs cons" => run_tac Mine.ln "LwJ.3"
  k_with "own LwJ.3" => (k_here; (with_reducible show wpAny _ _ _ _ _ (Shared.mk _ _ _ (Shared.toks _) _)); refine gen_tok (by first | assumption | (dsimp only; omega)) ?_; intro _ _)
  trivial
theorem wl_LwJ_4 : True := by
  k_with "eval ListComp" => run_tac Mine.ln "LwJ.4"
  k_with "own LwJ.4" => (k_here; refine held ?_)
  trivial
theorem wl_LwJ_5 : True := by
  k_with "call ref" => run_tac Mine.ln "LwJ.5"
  k_with "own LwJ.5" => (k_here; (with_reducible show wpAny _ _ (call (Value.ref 283) _) _ _ _); refine held ?_)
  trivial
theorem wl_LwJ_6 : True := by
  k_with "call ref" => run_tac Mine.ln "LwJ.6"
  k_with "own LwJ.6" => (k_here; (with_reducible show wpAny _ _ (call (Value.ref 297) _) _ _ _); refine held ?_)
  trivial
theorem wl_LwJ_7 : True := by
  k_with "call ref" => run_tac Mine.ln "LwJ.7"
  k_with "own LwJ.7" => (k_here; (with_reducible show wpAny _ _ (call (Value.ref 290) _) _ _ _); refine held ?_)
  trivial
theorem wl_LwJ_8 : True := by
  k_with "compareOp Eq ref ref" => run_tac Mine.ln "LwJ.8"
  k_with "own LwJ.8" => (k_here; refine held ?_)
  trivial
theorem wl_LwJ_9 : True := by
  k_with "compareOp NotEq ref ref" => run_tac Mine.ln "LwJ.9"
  k_with "own LwJ.9" => (k_here; refine held ?_)
  trivial
theorem cut_lens {cs : List Cl} (ok : ∀ c ∈ cs, c.ok) (hn : cs.length ≤ 12) : (pageF cs).length ≤ 200 := by
  k_with "proof" =>
    have := pageF_len ok; omega
  run_tac Mine.sq default
theorem law_due (w : World) (mean : ExcName → Option Value) (mg mb : Str → Option Value) (cs : List Cl) (tl0 : List (Addr × Obj)) (lc : Addr) (vs : List Value) (nv : Nat) (P R : Str) (tP tR : Tok) (hcs : cs.length ≤ 12) (hok : ∀ c ∈ cs, c.ok) (hP : codes P = (first cs).flatten) (hR : codes R = (second cs).flatten) (hlc : (lc, listOf vs.toArray nv) ∈ tl0) (hdat : DatAll tl0 vs (cs.map callDat))
    (dp un : Nat) (gd : Option (List Code)) (a : Addr) (ccd : Value) (outer : List Env) (A₀ : Around) (base h₀ : Heap) (L : Addr) (m0 : Str → Option Value) (s : Shared) (Q : Flow → Shared → Prop) (E : Value → Shared → Prop)
    (B : Below A₀ base outer h₀) (F : Fr h₀ L s.heap (ovr (qVals lc P tP R tR) m0)) (X : (K w.params).In h₀) (N : News h₀ L s.heap tl0) (Tp : Top VW LO mean mg mb h₀) (hdp : dp + 7 < recursionLimit) (hu : un + 100 < cLine) (ht : 0 < s.toks) (hg : AllBare s.gens)
    (hQ : ∀ m' s', Fr h₀ L s'.heap m' → News h₀ L s'.heap tl0 → s'.os = s.os → AllBare s'.gens → 0 < s'.toks → Q (.ret (.bool true)) s') :
    wpAny (model PG w) (ktrTop dp un gd (Str.ofString "law") lawScope L a ccd [] outer) (execs lawDue (envX (Str.ofString "law") lawScope L a ccd [])) Q E s := by
  k_with "proof" =>
    have hPl : P.length ≤ 2000 := by
      have := first_len hok hcs
      rw [← hP, len_codes] at this; omega
    have hRl : R.length ≤ 2000 := by
      have := second_len hok hcs
      rw [← hR, len_codes] at this; omega
    have hpl := cut_lens hok hcs
    have hrf : readF (codes P) = cutF (first cs) := by rw [hP]; exact read_first hok
    have hrs : readF (codes R) = cutF (second cs) := by rw [hR]; exact read_second hok
    have l1 : ∀ x ∈ first cs, x.length ≤ 8 := fun x hx => by
      obtain ⟨p, hp, rfl⟩ := List.mem_map.mp hx
      have := (all_len p (pageF_in hok p hp)).1; omega
    have l2 : ∀ x ∈ second cs, x.length ≤ 8 := fun x hx => by
      obtain ⟨p, hp, rfl⟩ := List.mem_map.mp hx
      have := (all_len p (pageF_in hok p hp)).2; omega
    have Tp0 := Tp
    revert B F X N Tp hdp hu ht hg hQ
    dsimp only [PG, VW, LO, ovr, qVals]
    k_fill
    intro B F X N Tp hdp hu ht hg hQ
    obtain ⟨h9, gn9, d9, t9, o9⟩ := s
    dsimp only at F N ht hg
    delta lawDue lawScope
    k_steps
    refine Held.go ?_
    k_dflt (refine page_c w mean mg mb tl0 lc vs nv cs hlc hdat hcs hok _ _ _ _ _ _ _ _ _ _ _ _ _ _ _ _ _ B (by k_asm) X (by k_asm) Tp0 rfl (by omega) (by omega) ?u1 hg ?u2)
    case u1 => first | assumption | (dsimp only; omega)
    rintro v' n' s' F' N' S' t' ⟨add, rfl, habv, D, dvs, dk, rfl, hD, hPA⟩
    obtain ⟨h8, gn8, d8, t8, o8⟩ := s'
    obtain ⟨e1, e2, e3⟩ := S'
    dsimp only at F' N' t' e1 e2 e3
    subst e1 e2 e3
    have hDm : (D, listOf dvs dk) ∈ add ++ tl0 := List.mem_append_left _ hD
    have hPA' : PairAll (add ++ tl0) dvs.toList (pageF cs) := hPA.mono fun p hp => List.mem_append_left _ hp
    have hdl : dvs.size ≤ 200 := by have := hPA.len; simp at this; omega
    clear hPA N F habv
    k_steps
    refine Held.go ?_
    with_reducible rename News _ _ _ _ => NX1
    with_reducible rename Fr _ _ _ _ => FX1
    k_dflt (refine read_c w mean mg mb _ P tP hPl _ _ _ _ _ _ _ _ _ _ _ _ _ _ _ _ _ B FX1 X NX1 Tp0 rfl (by omega) (by omega) ?u11 hg ?u12)
    case u11 => first | assumption | (dsimp only; omega)
    rintro v' n' s' F' N' S' t' ⟨add1, rfl, habv, R1, rvs1, rk1, rfl, hR1, hT1⟩
    obtain ⟨h1, gn8, d8, t8, o8⟩ := s'
    obtain ⟨e1, e2, e3⟩ := S'
    dsimp only at F' N' t' e1 e2 e3
    subst e1 e2 e3
    rw [hrf] at hT1
    clear NX1 FX1 habv
    k_steps
    refine Held.go ?_
    refine pos_toks (by first | assumption | (dsimp only; omega)) ?_
    k_dflt (refine LCp.ListComp_P (F₀ := by k_asm) (by with_unfolding_all rfl) (by decide) (by rfl) (by decide) (by rfl) (by rfl) (by decide) ?_)
    k_steps
    with_reducible rename News _ _ _ _ => NY1
    with_reducible rename Fr _ _ _ _ => FY1
    k_dflt (refine LCp.SrcLP.ledger (its := dvs) (k := dk) (ax := D) rfl FY1 NY1 ?m1 (by rw [sizeLine_eq]; omega) fun g => rest_pairs (ps := pageF cs) (pr := Prod.fst) (.inl ⟨rfl, rfl⟩) ?m1 ?q1 ?f1 _ 0 [] (Nat.zero_add _) TxtAll.nil)
    case m1 => exact List.mem_append_right _ hDm
    case q1 => exact hPA'.mono fun p hp => List.mem_append_right _ hp
    case f1 =>
      intro ys1 hy1 C1 h1c tk1 FZ1 NZ1 _
      clear NY1 FY1
      intro htk1
      dsimp only at htk1
      k_steps
      refine Held.go ?_
      k_dflt (refine cut_c w mean mg mb _ C1 ys1 (first cs) _ (.head _) hy1 (by rw [show (first cs) = (pageF cs).map _ from rfl, List.length_map]; omega) l1 _ _ _ _ _ _ _ _ _ _ _ _ _ _ _ _ _ B FZ1 X NZ1 Tp0 rfl (by omega) (by omega) ?w11 hg ?w12)
      case w11 => first | assumption | (dsimp only; omega)
      rintro v' n' s' F' N' S' t' ⟨bdd1, rfl, habv, G1, gvs1, gk1, rfl, hG1, hV1⟩
      obtain ⟨h1g, gn8, d8, t8, o8⟩ := s'
      obtain ⟨e1, e2, e3⟩ := S'
      dsimp only at F' N' t' e1 e2 e3
      subst e1 e2 e3
      clear NZ1 FZ1 habv
      k_steps
      refine Held.go ?_
      k_dflt (refine txt_ne (v1 := rvs1) (v2 := gvs1) ⟨_, (N' (R1, _) (List.mem_append_right _ (.tail _ (List.mem_append_left _ hR1)))).1, rfl, _, rfl⟩ ⟨_, (N' (G1, _) (List.mem_append_left _ hG1)).1, rfl, _, rfl⟩ hT1 hV1 (by first | k_units | (show un < cLine; omega)) ?_)
      k_steps
      refine Held.go ?_
      with_reducible rename News _ _ _ _ => NX2
      with_reducible rename Fr _ _ _ _ => FX2
      k_dflt (refine read_c w mean mg mb _ R tR hRl _ _ _ _ _ _ _ _ _ _ _ _ _ _ _ _ _ B FX2 X NX2 Tp0 rfl (by omega) (by omega) ?u21 hg ?u22)
      case u21 => first | assumption | (dsimp only; omega)
      rintro v' n' s' F' N' S' t' ⟨add2, rfl, habv, R2, rvs2, rk2, rfl, hR2, hT2⟩
      obtain ⟨h2, gn8, d8, t8, o8⟩ := s'
      obtain ⟨e1, e2, e3⟩ := S'
      dsimp only at F' N' t' e1 e2 e3
      subst e1 e2 e3
      rw [hrs] at hT2
      clear NX2 FX2 habv
      k_steps
      refine Held.go ?_
      refine pos_toks (by first | assumption | (dsimp only; omega)) ?_
      k_dflt (refine LCp.ListComp_P (F₀ := by k_asm) (by with_unfolding_all rfl) (by decide) (by rfl) (by decide) (by rfl) (by rfl) (by decide) ?_)
      k_steps
      with_reducible rename News _ _ _ _ => NY2
      with_reducible rename Fr _ _ _ _ => FY2
      k_dflt (refine LCp.SrcLP.ledger (its := dvs) (k := dk) (ax := D) rfl FY2 NY2 ?m2 (by rw [sizeLine_eq]; omega) fun g => rest_pairs (ps := pageF cs) (pr := Prod.snd) (.inr ⟨rfl, rfl⟩) ?m2 ?q2 ?f2 _ 0 [] (Nat.zero_add _) TxtAll.nil)
      case m2 => exact List.mem_append_right _ (List.mem_append_right _ (.tail _ (List.mem_append_right _ hDm)))
      case q2 => exact hPA'.mono fun p hp => List.mem_append_right _ (List.mem_append_right _ (.tail _ (List.mem_append_right _ hp)))
      case f2 =>
        intro ys2 hy2 C2 h2c tk2 FZ2 NZ2 _
        clear NY2 FY2
        intro htk2
        dsimp only at htk2
        k_steps
        refine Held.go ?_
        k_dflt (refine cut_c w mean mg mb _ C2 ys2 (second cs) _ (.head _) hy2 (by rw [show (second cs) = (pageF cs).map _ from rfl, List.length_map]; omega) l2 _ _ _ _ _ _ _ _ _ _ _ _ _ _ _ _ _ B FZ2 X NZ2 Tp0 rfl (by omega) (by omega) ?w21 hg ?w22)
        case w21 => first | assumption | (dsimp only; omega)
        rintro v' n' s' F' N' S' t' ⟨bdd2, rfl, habv, G2, gvs2, gk2, rfl, hG2, hV2⟩
        obtain ⟨h2g, gn8, d8, t8, o8⟩ := s'
        obtain ⟨e1, e2, e3⟩ := S'
        dsimp only at F' N' t' e1 e2 e3
        subst e1 e2 e3
        clear NZ2 FZ2 habv
        k_steps
        refine Held.go ?_
        k_dflt (refine txt_eq (v1 := rvs2) (v2 := gvs2) ⟨_, (N' (R2, _) (List.mem_append_right _ (.tail _ (List.mem_append_left _ hR2)))).1, rfl, _, rfl⟩ ⟨_, (N' (G2, _) (List.mem_append_left _ hG2)).1, rfl, _, rfl⟩ hT2 hV2 (by first | k_units | (show un < cLine; omega)) ?_)
        k_steps
        exact hQ _ _ F' (fun p hp => N' p (List.mem_append_right _ (.tail _ (List.mem_append_right _ (List.mem_append_right _ (.tail _ (List.mem_append_right _ (List.mem_append_right _ hp)))))))) rfl hg t'
  run_tac Mine.sq default
end Mine
end
theorem Mine.wl_LwJ_end : True := by
  k_with_none
  trivial
section -- LwK
open PySem PySem.W PySem.Calls PySem.SeqAt PyProof.Rows
namespace Mine
theorem wl_LwK_0 : True := by
  k_with_none
  trivial
theorem wl_LwK_1 : True := by
  k_with "execs cons" => run_tac Mine.ln "LwK.1"
  k_with "own LwK.1" => (k_here; (with_reducible show wpAny _ _ _ _ _ (Shared.mk _ _ _ (_ + _) _)); refine gen_tok (by omega) ?_; intro _ _)
  trivial
theorem wl_LwK_2 : True := by
  k_with "execs nil" => run_tac Mine.ln "LwK.2"
  k_with "own LwK.2" => (k_here; (with_reducible show wpAny _ _ _ _ _ (Shared.mk _ _ _ (_ + _) _)); refine gen_tok (by omega) ?_; intro _ _)
  trivial
theorem wl_LwK_3 : True := by
  k_with "execs cons" => run_tac Mine.ln "LwK.3"
  k_with "own LwK.3" => (k_here; (with_reducible show wpAny _ _ _ _ _ (Shared.mk _ _ _ (Shared.toks _) _)); refine gen_tok (by first | assumption | (dsimp only; omega)) ?_; intro _ _)
  trivial
theorem wl_LwK_4 : True := by
  k_with "exec Expr" => run_tac Mine.ln "LwK.4"
  k_with "own LwK.4" => (k_here; (fail_if_success (with_reducible show wpAny _ _ _ (fun _ s' => 0 < Shared.toks s' → _) _ _)); refine' pos_toks ?pxh ?_; (case pxh => first | assumption | (dsimp only; omega)))
  trivial
theorem wl_LwK_5 : True := by
  k_with "call ref" => run_tac Mine.ln "LwK.5"
  k_with "own LwK.5" => (k_here; (with_reducible show wpAny _ _ (call (Value.ref 216) _) _ _ _); refine held ?_)
  trivial
theorem wl_LwK_6 : True := by
  k_with "call ref" => run_tac Mine.ln "LwK.6"
  k_with "own LwK.6" => (k_here; (with_reducible show wpAny _ _ (call (Value.ref 246) _) _ _ _); refine held ?_)
  trivial
theorem wl_LwK_7 : True := by
  k_with "getAttr ref" => run_tac Mine.ln "LwK.7"
  k_with "own LwK.7" => (k_here; (with_reducible show wpAny _ _ (getAttr (Value.ref _) (Str.ofString "append") true) _ _ _); refine' pos_toks ?gap ?_; (case gap => first | assumption | (dsimp only; omega)); k_dflt (refine' ga_news ?gaF ?gaN ?gam ?_; (case gaF => k_asm); (case gaN => k_asm); (case gam => k_mem)); intro a' h' tk' F' N' ne' tp'; dsimp only at tp')
  trivial
theorem wl_LwK_8 : True := by
  k_with "execs cons" => run_tac Mine.ln "LwK.8"
  k_with "own LwK.8" => (k_here; (with_reducible show wpAny _ _ (execs (Stmt.For _ _ _ _ _ :: _) _) _ _ _); refine held ?_)
  trivial
theorem mvA {wl r : List (Addr × Obj)} {c d : Addr × Obj} : ∀ p ∈ wl ++ (c :: d :: r), p ∈ d :: (wl ++ (c :: r)) := fun p hp => by
  simp only [List.mem_append, List.mem_cons] at hp ⊢
  rcases hp with h | h | h | h
  · exact .inr (.inl h)
  · exact .inr (.inr (.inl h))
  · exact .inl h
  · exact .inr (.inr (.inr h))
theorem linv_zero {w : World} {W : WA} {T : WT} {rd : Bool} {n : Nat} {wr1 ws nsl : Array Value} {k1 k2 k3 k4 k5 : Nat} {ps : Array Value} {nw tl0 : List (Addr × Obj)} {ne ls : Addr} {y : Value} {oA : Addr × Obj} {zs : List Str} {cs : List Cl} {h₀ hh : Heap} {L : Addr}
    (hfl : FlushR [] #[] wr1) (hLT : LamTab lamQ 167 71 ps (nw ++ (oA :: (ne, listOf #[] 0) :: tl0))) (hO : WOff W ((219, tabObj ps) :: (nw ++ (oA :: (ne, listOf #[] 0) :: tl0)))) (h7 : ∀ p ∈ nw ++ (oA :: (ne, listOf #[] 0) :: tl0), p.1 ≠ 219)
    (hws : ws.size ≤ 3) (hzs : StrsAre ws.toList zs) (hz : zs.flatMap codes = startCodes []) (hsub : ∀ p ∈ oA :: (ne, listOf #[] 0) :: tl0, p ∈ nw ++ (oA :: (ne, listOf #[] 0) :: tl0)) (hWF : WF 0 cs) (z1 : 0 < nsl.size) (z4 : nsl.size ≤ 4)
    (hn : News h₀ L hh (wL w W T true rd n ((#[.ref W.b0] : Array Value).push (.ref ne)) #[] (wr1 ++ ws) (nsl.push (.ref ls)) ((#[.bool false] : Array Value).push y) k1 k2 k3 k4 k5 ((219, tabObj ps) :: (nw ++ (oA :: (ne, listOf #[] 0) :: tl0))))) : ∃ n7, News h₀ L hh n7 ∧ LInv w W T cs tl0 0 n7 := by
  k_with "proof" =>
    have e : nw ++ (oA :: (ne, listOf #[] 0) :: tl0) = (nw ++ [oA, (ne, listOf #[] 0)]) ++ tl0 := by simp
    have hw1 : wr1 = #[] := by
      rcases hfl with ⟨_, h⟩ | ⟨h, _⟩
      · exact h
      · exact absurd rfl h
    subst hw1
    rw [e] at hLT hO h7 hsub hn
    refine ⟨_, hn, rd, n, _, _, _, _, _, _, _, _, _, _, ps, nw ++ [oA, (ne, listOf #[] 0)], 0, nsl.size + 1, zs, [], rfl, hO, h7, hLT, ?_, rfl, ⟨by simp, by omega, by omega⟩, rfl, Nat.le_refl _, ?_, ?_, .nil, Nat.le_refl _, ?_, hWF, Nat.le_refl _⟩
    · refine ⟨rfl, fun k v h => ?_⟩
      have : k = 0 ∧ v = .ref ne := by
        match k, h with
        | 0, h => exact ⟨rfl, (Option.some.inj h).symm⟩
      obtain ⟨rfl, rfl⟩ := this
      exact ⟨ne, 0, rfl, hsub _ (.tail _ (.head _))⟩
    · simp; omega
    · simpa using hzs
    · rw [hz]; exact WInv.start0
  run_tac Mine.sq default
theorem law_start (w : World) (mean : ExcName → Option Value) (mg mb : Str → Option Value) (cs : List Cl) (tl0 : List (Addr × Obj)) (lc : Addr) (hWF : WF 0 cs) (h219 : ∀ p ∈ tl0, p.1 ≠ 219)
    (dp un : Nat) (gd : Option (List Code)) (a : Addr) (ccd : Value) (outer : List Env) (A₀ : Around) (base h₀ : Heap) (L : Addr) (m0 : Str → Option Value) (s : Shared) (Q : Flow → Shared → Prop) (E : Value → Shared → Prop)
    (B : Below A₀ base outer h₀) (F : Fr h₀ L s.heap (ovr [(Str.ofString "calls", some (.ref lc))] m0)) (X : (K w.params).In h₀) (N : News h₀ L s.heap ((219, tabObj #[]) :: tl0)) (Tp : Top VW LO mean mg mb h₀) (hdp : dp + 7 < recursionLimit) (hu : un + 100 < cLine) (ht : 0 < s.toks) (hg : AllBare s.gens)
    (hQ : ∀ W T m' n' s', WOrd W → LInv w W T cs tl0 0 n' → Fr h₀ L s'.heap (ovr (lVals lc W) m') → News h₀ L s'.heap n' → s'.os = s.os → AllBare s'.gens → 0 < s'.toks → wpAny (model PG w) (ktrTop dp un gd (Str.ofString "law") lawScope L a ccd [] outer) (execs lawFor (envX (Str.ofString "law") lawScope L a ccd [])) Q E s') :
    wpAny (model PG w) (ktrTop dp un gd (Str.ofString "law") lawScope L a ccd [] outer) (execs lawWr (envX (Str.ofString "law") lawScope L a ccd [])) Q E s := by
  k_with "proof" =>
    have Tp0 := Tp
    revert B F X N Tp hdp hu ht hg hQ
    dsimp only [PG, VW, LO, ovr]
    k_fill
    intro B F X N Tp hdp hu ht hg hQ
    obtain ⟨h9, gn9, d9, t9, o9⟩ := s
    dsimp only at F N ht hg
    delta lawWr lawScope
    k_steps
    rename_i lA hA hl1 hB FX0 NX0 k0 tp0 aB hC tkC FX NX hne1 tpC
    refine Held.go ?_
    k_dflt (refine init_c w mean mg mb ((219, tabObj #[]) :: tl0) _ _ #[] 0 ?ne _ _ _ _ _ _ _ _ _ _ _ _ _ _ _ _ _ B FX X NX Tp0 rfl (by omega) (by omega) ?u1 hg ?u2)
    case ne => exact hne1 _ (.head _)
    case u1 => assumption
    rintro v' n' s' F' N' S' t' ⟨W, T, n, nsl, k1, k4, rfl, hbm, hlw, hW, hdx, z1, z4, rfl⟩
    clear NX FX
    subst hbm hlw
    obtain ⟨h8, gn8, d8, t8, o8⟩ := s'
    obtain ⟨e1, e2, e3⟩ := S'
    dsimp only at F' N' t' e1 e2 e3
    subst e1 e2 e3
    have hO : WOff W ((219, tabObj #[]) :: tl0) := fun p hp => by
      have a1 : @LT.lt Nat _ p.1 W.dx := hdx p hp
      have a2 := hne1 p (.tail _ hp)
      have a3 : @LT.lt Nat _ p.1 W.lw := by
        rcases List.mem_cons.mp hp with rfl | hp
        · exact hl1.1
        · exact allLt_all hl1.2 p hp
      obtain ⟨b1, b2, b3, b4, b5, b6, b7, b8, b9, b10⟩ := hW
      refine ⟨?_, ?_, ?_, ?_, ?_, ?_, ?_, ?_, ?_, a2⟩ <;> (show @Ne Nat _ _; clear a2; omega)
    clear hne1 hl1
    have N2 := N'
    clear N'
    dsimp only [wL, wD] at N2
    k_steps
    with_reducible rename Obj.IsDictOf (PySem.strKind _ _) _ _ => HD
    with_reducible rename Obj.IsDictOf _ _ _ => HD2
    with_reducible rename News _ _ _ _ => NX
    with_reducible rename Fr _ _ _ _ => FX
    obtain ⟨as, na, rfl, has⟩ := dict_exact HD
    obtain rfl : as = [] := List.map_eq_nil_iff.mp has
    clear HD HD2 has
    have NY : News h₀ L _ _ := fun p hp => NX p (mvA (wl := wL w W T false false n #[.ref W.b0] #[] #[] nsl #[.bool false] k1 0 0 k4 0 []) p hp)
    clear NX
    refine Held.go ?_
    k_dflt (refine start_c w mean mg mb tl0 W T false false n #[.ref W.b0] #[] #[] nsl #[.bool false] #[] k1 0 0 k4 0 (Str.ofString "r") _ [] na _ .root hW (woff_ins hO ?s1) ⟨rfl, ?sk⟩ (by decide) (by show 1 ≤ 100; decide) (by omega) (by show 1 ≤ 1 ∧ 1 ≤ 100; decide) (by decide) ?s2 (ne_cons ?s3 h219) (.inl rfl) [] .nil (by decide) (.inl rfl) _ _ _ _ _ _ _ _ _ _ _ _ _ _ _ _ _ B FX X NY Tp0 rfl (by omega) (by omega) ?s4 hg ?s5)
    case s1 =>
      intro p hp
      rw [List.mem_singleton.mp hp]
      refine ⟨?_, ?_, ?_, ?_, ?_, ?_, ?_, ?_, ?_, ?_⟩ <;> (show @Ne Nat _ _; dsimp only; omega)
    case sk => intro k v h; simp at h
    case s2 => assumption
    case s3 => show @Ne Nat _ 219; dsimp only; omega
    case s4 => first | assumption | (dsimp only; omega)
    case s5 =>
      intro v7 n7 s7 F7 N7 S7 t7 P7
      clear NY FX
      obtain ⟨ne, wr1, k1', k2', hfl, hne, ps', tl', ws, k3', ls, y, rfl, hLT, hO7, h7, hsub, hws, ⟨zs, hzs, hz⟩, nw, rfl, hgr⟩ := P7
      obtain ⟨hp7, gp7, dp7, tp7, op7⟩ := s7
      obtain ⟨eo7, eg7⟩ := S7
      dsimp only at eo7 eg7 F7 t7 N7
      obtain ⟨n9, N9, LI⟩ := linv_zero hfl hLT hO7 h7 hws hzs hz hsub hWF z1 z4 N7
      clear N7
      k_steps
      refine Held.go ?_
      refine hQ W T _ n9 _ hW LI (Fr.ovr F7 (lVals lc W) ?m9 (fun _ _ => rfl)) N9 eo7 eg7 t7
      intro p hp
      simp only [lVals, List.mem_cons, List.not_mem_nil, or_false] at hp
      rcases hp with rfl | rfl | rfl <;> rfl
  run_tac Mine.sq default
end Mine
end
theorem Mine.wl_LwK_end : True := by
  k_with_none
  trivial
section -- LwM
open PySem PySem.W PySem.Calls PySem.SeqAt PyProof.Rows
namespace Mine
theorem law_all (w : World) (mean : ExcName → Option Value) (mg mb : Str → Option Value) (cs : List Cl) (tl0 : List (Addr × Obj)) (lc : Addr) (vs : List Value) (nv : Nat) (hG : Good cs) (hlc : (lc, listOf vs.toArray nv) ∈ tl0) (hdat : DatAll tl0 vs (cs.map callDat)) (h219 : ∀ p ∈ tl0, p.1 ≠ 219)
    (dp un : Nat) (gd : Option (List Code)) (a : Addr) (ccd : Value) (outer : List Env) (A₀ : Around) (base h₀ : Heap) (L : Addr) (m0 : Str → Option Value) (s : Shared) (Q : Flow → Shared → Prop) (E : Value → Shared → Prop)
    (B : Below A₀ base outer h₀) (F : Fr h₀ L s.heap (ovr [(Str.ofString "calls", some (.ref lc))] m0)) (X : (K w.params).In h₀) (N : News h₀ L s.heap ((219, tabObj #[]) :: tl0)) (Tp : Top VW LO mean mg mb h₀) (hdp : dp + 7 < recursionLimit) (hu : un + 100 < cLine) (ht : 0 < s.toks) (hg : AllBare s.gens)
    (hQ : ∀ m' s' ps nw, Fr h₀ L s'.heap m' → News h₀ L s'.heap ((219, tabObj ps) :: nw) → s'.os = s.os → AllBare s'.gens → 0 < s'.toks → Q (.ret (.bool true)) s') :
    wpAny (model PG w) (ktrTop dp un gd (Str.ofString "law") lawScope L a ccd [] outer) (execs lawWr (envX (Str.ofString "law") lawScope L a ccd [])) Q E s := by
  k_with "proof" =>
    refine law_start w mean mg mb cs tl0 lc hG.1 h219 _ _ _ _ _ _ _ _ _ _ _ _ _ _ B F X N Tp hdp hu ht hg fun W T m1 n1 s1 hW LI F1 N1 o1 g1 t1 => ?_
    refine law_for w mean mg mb W T cs tl0 lc vs nv hW hG.2.2 hG.2.1 hlc hdat _ _ _ _ _ _ _ _ _ _ _ _ _ _ _ B F1 X N1 LI Tp hdp hu t1 g1 fun m2 n2 s2 LI2 F2 N2 o2 g2 t2 => ?_
    refine law_end w mean mg mb W T cs tl0 lc hW hG.2.2 hG.2.1 _ _ _ _ _ _ _ _ _ _ _ _ _ _ _ B F2 X N2 LI2 Tp hdp hu t2 g2 fun m3 P tP s3 ps nw hP F3 N3 o3 g3 t3 => ?_
    refine law_prep w mean mg mb cs ((219, tabObj ps) :: (nw ++ tl0)) lc P tP hG.2.2 hG.2.1 hP _ _ _ _ _ _ _ _ _ _ _ _ _ _ B F3 X N3 Tp hdp hu t3 g3 fun m4 R tR s4 hR F4 N4 o4 g4 t4 => ?_
    refine law_due w mean mg mb cs ((219, tabObj ps) :: (nw ++ tl0)) lc vs nv P R tP tR hG.2.2 hG.2.1 hP hR (.tail _ (List.mem_append_right _ hlc)) (DatAll.mono (fun p hp => .tail _ (List.mem_append_right _ hp)) hdat) _ _ _ _ _ _ _ _ _ _ _ _ _ _ B F4 X N4 Tp hdp hu t4 g4 fun m5 s5 F5 N5 o5 g5 t5 => ?_
    exact hQ _ _ ps (nw ++ tl0) F5 N5 (o5.trans (o4.trans (o3.trans (o2.trans o1)))) g5 t5
  run_tac Mine.sq default
theorem calls_g (w : World) (mean : ExcName → Option Value) (mg mb : Str → Option Value) (g : Heap) (dp un : Nat) (gd : Option (List Code)) (cn : Str) (cs : Scope) (a : Addr) (ccd : Value) (cl : List (Str × Addr)) (L : Addr) (m : Str → Option Value) (s : Shared) (Q E : Value → Shared → Prop)
    (l : Addr) (vs : List Value) (ns : List Int) (hT : TabsAt [(221, 219)] g) (h9 : ∀ P ∈ [219], g.get? P = some (tabObj #[])) (F : Fr (ghostOf g [(221, 219)]) L s.heap m) (X : (K w.params).In (ghostOf g [(221, 219)])) (N : News (ghostOf g [(221, 219)]) L s.heap [(219, tabObj #[])]) (Tp : Top VW LO mean mg mb (ghostOf g [(221, 219)])) (hk : cs.kind = .function) (hl : g.IsList l vs.toArray) (hi : IntsAre vs ns) (hn : ns.length ≤ 63) (hdp : dp + 4 < recursionLimit) (hu : un + 40 < cLine) (ht : 0 < s.toks) (hg : AllBare s.gens)
    (hQ : ∀ (v : Value) (nw : List (Addr × Obj)) (s' : Shared) (cs : List Cl), Good cs → DatIn nw v (.list (cs.map callDat)) → (∀ p ∈ nw, p.1 ≠ 219) → Fr (ghostOf g [(221, 219)]) L s'.heap m → News (ghostOf g [(221, 219)]) L s'.heap ((219, tabObj #[]) :: nw) → Same s s' → 0 < s'.toks → Q v s') :
    wpAny (model PG w) (ktrTop dp un gd cn cs L a ccd cl []) (call (.ref 278) [.ref l]) Q E s := by
  k_with "proof" =>
    have up : ∀ b o, (ghostOf g [(221, 219)]).get? b = some o → g.get? b = some o := fun b o e => of_hideAll _ e
    have g9 := h9 219 (by simp)
    have F1 : Fr g L s.heap m := ⟨F.ns, fun b o e => by
      by_cases hb : b = 219
      · subst hb
        rw [g9] at e
        cases e
        exact (N _ (.head _)).1
      · exact F.keep b o (ghost_ne e (by simpa using hb)), Nat.le_trans (Nat.le_of_eq (hideAll_size _ _).symm) F.above⟩
    refine calls_c w mean mg mb dp un gd cn cs a ccd cl [] callerA g g L m s Q E l vs ns (below_caller g) F1 (fun b o e => up b o (X b o e)) (fun p hp => by cases hp) (Tp.keeps up) hk hl hi hn hdp hu ht hg ?_
    rintro v nw s' F' N' S' t' ⟨cs, hG, hd⟩
    refine hQ v nw s' cs hG hd (fun p hp q => ?_) (ghost_fr hT F') (fun p hp => ?_) S' t'
    · have := (N' p hp).2.2
      rw [q, g9] at this
      cases this
    · have := ghost_news hT F' N'
      refine this p ?_
      rcases List.mem_cons.mp hp with rfl | hp
      · exact List.mem_append_right _ (.head _)
      · exact List.mem_append_left _ hp
  run_tac Mine.sq default
end Mine
end
section -- LwT
open PySem PySem.W PySem.Calls PyProof.Rows
namespace Mine
theorem wl_LwT_0 : True := by
  k_with_none
  trivial
theorem wl_LwT_1 : True := by
  k_with "execs cons" => run_tac Mine.ln "LwT.1"
  k_with "own LwT.1" => (k_here; (with_reducible show wpAny _ _ _ _ _ (Shared.mk _ _ _ (_ + _) _)); refine gen_tok (by omega) ?_; intro _ _)
  trivial
theorem wl_LwT_2 : True := by
  k_with "execs nil" => run_tac Mine.ln "LwT.2"
  k_with "own LwT.2" => (k_here; (with_reducible show wpAny _ _ _ _ _ (Shared.mk _ _ _ (_ + _) _)); refine gen_tok (by omega) ?_; intro _ _)
  trivial
theorem wl_LwT_3 : True := by
  k_with "execs cons" => run_tac Mine.ln "LwT.3"
  k_with "own LwT.3" => (k_here; (with_reducible show wpAny _ _ _ _ _ (Shared.mk _ _ _ (Shared.toks _) _)); refine gen_tok (by first | assumption | (dsimp only; omega)) ?_; intro _ _)
  trivial
theorem wl_LwT_4 : True := by
  k_with "call ref" => run_tac Mine.ln "LwT.4"
  k_with "own LwT.4" => (k_here; (with_reducible show wpAny _ _ (call (Value.ref 278) _) _ _ _); k_dflt (refine held ?_))
  trivial
theorem wl_LwT_5 : True := by
  k_with "execs cons" => run_tac Mine.ln "LwT.5"
  k_with "own LwT.5" => (k_here; (with_reducible show wpAny _ _ (execs (Stmt.Assign [PySem.Expr.Name (Str.ofString "written") _] _ _ :: _) _) _ _ _); refine held ?_)
  trivial
/-- the end, with generators that are made and gone -/
noncomputable def GoodB (cw : ClaimW) (cl : Str → Option Addr) (mean : ExcName → Option Value) (args : List WData) (s₁ : Shared) (r : Result) (s' : Shared) : Prop := GoodW cw cl mean args s₁ r { s' with gens := #[] } ∧ AllBare s'.gens
theorem kn_postB {M : Model} {A : Around} {cd : Code} {s s₁ : Shared} {cw : ClaimW} {cl : Str → Option Addr} {mean : ExcName → Option Value} {args : List WData} {tabs : List (Addr × Addr)} (hT : TabsAt tabs s₁.heap) (hr : ∀ a x, cw.raises a x = false)
    (h : codeAny M A cd (fun r s' => GoodB cw cl mean args { s₁ with heap := ghostOf s₁.heap tabs } r s' ∧ GrownAll tabs s'.heap) s) : codeAny M A cd (GoodWG cw cl mean args s₁) s := by
  k_with "proof" =>
    refine codeAny_mono h fun r s' z => ?_
    obtain ⟨⟨⟨hc, hk, hos, _⟩, hg⟩, hgr⟩ := z
    have tab : ∀ b o, b ∈ tabs.map (·.2) → s₁.heap.get? b = some o → isCodeTable s₁.heap b ∧ o = tabObj #[] ∧ ∃ ps, s'.heap.get? b = some (tabObj ps) := fun b o hb e => by
      obtain ⟨q, hq, rfl⟩ := List.mem_map.mp hb
      have e2 := (hT q hq).2
      rw [e] at e2
      exact ⟨((hT q hq).1.tab (hT q hq).2).isCodeTable, Option.some.inj e2, hgr.get q hq⟩
    refine ⟨?_, ⟨fun b o e => ?_, fun b o e => ?_⟩, hos, hg⟩
    · rcases hc with ⟨v, d, as, r1, r2, r3, r4, r5⟩ | ⟨e, ob, x, _, _, _, r4, _⟩
      · refine .inl ⟨v, d, as, r1, r2, r3, r4, fun q => ⟨(r5 q).1, fun a ha => ?_⟩⟩
        by_cases hb : a ∈ tabs.map (·.2)
        · cases q1 : s₁.heap.get? a with
          | none => rfl
          | some o =>
            obtain ⟨_, _, ps, hP⟩ := tab a o hb q1
            exact absurd ha (readsW_apart hP rfl r3)
        · cases q1 : s₁.heap.get? a with
          | none => rfl
          | some o =>
            have := (r5 q).2 a ha
            rw [show (ghostOf s₁.heap tabs).get? a = some o from ghost_ne q1 hb] at this
            cases this
      · rw [hr] at r4; cases r4
    · by_cases hb : b ∈ tabs.map (·.2)
      · obtain ⟨ht, rfl, ps, hP⟩ := tab b o hb e
        exact .inr (.inl ⟨ht, rfl, #[], ps, rfl, by rw [Array.empty_append]; exact hP⟩)
      · exact .inl (hk b o (ghost_ne e hb))
    · by_cases hb : b ∈ tabs.map (·.2)
      · obtain ⟨_, _, ps, hP⟩ := tab b o hb e
        exact ⟨_, hP⟩
      · exact ⟨o, hk b o (ghost_ne e hb)⟩
  run_tac Mine.sq default
local macro_rules | `(tactic| kn_posts) => `(tactic| refine kn_postB (tabs := [(221, 219)]) (by assumption) (fun _ _ => rfl) ?_)
theorem dat_list {news : List (Addr × Obj)} {v : Value} {ds : List Dat} (h : DatIn news v (.list ds)) : ∃ l vs n, v = .ref l ∧ (l, listOf vs.toArray n) ∈ news ∧ DatAll news vs ds := by
  k_with "proof" =>
    cases h with
    | list hm r => exact ⟨_, _, _, rfl, hm, r⟩
  run_tac Mine.sq default
theorem wk : PySem.Challenge.rw_if0034_01.Holds := by
  k_with "proof" =>
    refine Mine.hd ?_
    w_strict (
      k_go0
      all_goals try k_fold
      k_steps
      refine Held.go ?_
      with_reducible rename News _ _ _ _ => NX
      with_reducible rename Fr _ _ _ _ => FX
      with_reducible rename IntsAre _ _ => hIX
      with_reducible rename Top _ _ _ _ _ _ => TX
      with_reducible rename TabsAt _ _ => hTX
      k_dflt (refine calls_g _ _ _ _ _ _ _ _ _ _ _ _ _ _ _ _ _ _ _ _ _ hTX (by assumption) FX (by assumption) NX TX rfl (by assumption) hIX (by omega) ?d1 ?d2 ?d3 ?d4 ?d5)
      case d1 => decide +kernel
      case d2 => decide +kernel
      case d3 => exact Nat.succ_pos _
      case d4 =>
        show AllBare (Shared.gens _)
        (with_reducible rename (Shared.gens _ = #[]) => hgX)
        rw [hgX]
        intro i hi
        simp at hi
      case d5 =>
        clear NX FX
        rintro v nw s' csX hG hd h219X F' N' S' t'
        obtain ⟨lc, vsX, nvX, rfl, hlc, hdat⟩ := dat_list hd
        obtain ⟨h7, gn7, d7, t7, o7⟩ := s'
        obtain ⟨e1, e2, e3⟩ := S'
        dsimp only at F' N' t' e1 e2 e3
        subst e1 e2 e3
        k_steps
        refine Held.go ?_
        with_reducible rename News _ _ _ _ => NE
        with_reducible rename Fr _ _ _ _ => FE
        k_dflt (refine law_all _ _ _ _ csX nw lc vsX nvX hG hlc hdat h219X _ _ _ _ _ _ _ _ _ _ _ _ _ _ (below_caller _) (Fr.ovr FE [(Str.ofString "calls", some (.ref lc))] ?mm (fun _ _ => rfl)) (by assumption) NE TX (by decide +kernel) (by decide +kernel) (Nat.succ_pos _) ?ga ?qq)
        case mm =>
          intro p hp
          simp only [List.mem_cons, List.not_mem_nil, or_false] at hp
          rcases hp with rfl
          rfl
        case ga =>
          show AllBare (Shared.gens _)
          (with_reducible rename (Shared.gens _ = #[]) => hgX)
          rw [hgX]
          intro i hi
          simp at hi
        case qq =>
          clear NE FE
          intro m8 s8 ps8 nw8 F8 N8 o8 g8 t8
          obtain ⟨h8, gn8, d8, tk8, os8⟩ := s8
          dsimp only at F8 N8 o8 g8 t8
          subst o8
          k_steps
          refine ⟨?_, g8⟩
          dsimp only
          refine ⟨.inl ⟨_, ofPy (PyData.bool true), [], rfl, fun _ => rfl, by constructor, ?pst, fun _ => ⟨.nil, by intro a ha; cases ha⟩⟩, fun b o e => F8.keep b o e, rfl, rfl⟩
          case pst => first | kernel_rfl | with_unfolding_all rfl | (simp only [row_post]; rfl))
  run_tac Mine.sq default
end Mine
end
theorem Mine.wl_LwT_end : True := by
  k_with_none
  trivial
theorem PySem.Challenge.cw_if0034_01_holds : PySem.Challenge.rw_if0034_01.Holds :=
  Mine.wk
