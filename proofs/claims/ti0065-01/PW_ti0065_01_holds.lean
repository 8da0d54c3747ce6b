import PyProof.Rows.All
import Wide.All
import OpenK.AllK
import Wide.FinOn
import PyProof.NeKinds
import PyProof.ListNew
import PyProof.ListMulAny
import PyProof.AutoSeq1
import PyProof.SliceList
import PyProof.SumAny
import PyProof.Rows.SumAny
import Lean
import PySem.Challenge.RW_ti0065_01
set_option Elab.async false
set_option maxRecDepth 100000
set_option linter.unusedVariables false
set_option cleanup.letToHave false
set_option genSizeOf false
set_option bootstrap.genMatcherCode false
section
open PySem PySem.W PyProof.Rows
set_option maxHeartbeats 0
namespace Mine
open PySem.W.X in
noncomputable def lhsF (p q : Program) (loose mods : List Str) (Xt : Shared → Bool) (as : List Addr) (N : Nat) (w : World) :=
  (openEnds treeTable p w N).map (fun s => (openSeen q loose mods Xt true s,obsZ as s))
open PySem.W.X in
noncomputable def rhsF (q : Program) (loose : List Str) (K : Params → Frag) (n t : Nat) (w : World) :=
  some (openGood q loose,valZ K n t w)
lay_quick lhsF rhsF
noncomputable abbrev lhsY := PySem.W.Fast.tw9246333973048606402
noncomputable abbrev rhsY := PySem.W.Fast.tw8568103433188807956
theorem left_of {p q : Program} {loose : List Str} {Xt : Shared → Bool} {as : List Addr} {K : Params → Frag} {n t N : Nat}
    (h0 : ∀ w : World, lhsY p q loose (importedModules p.main.body) Xt as N (w.withFollow "special-get-raises" false) = rhsY q loose K n t (w.withFollow "special-get-raises" false))
    (h1 : ∀ w : World, lhsY p q loose (importedModules p.main.body) Xt as N (w.withFollow "special-get-raises" true) = rhsY q loose K n t (w.withFollow "special-get-raises" true)) :
    LeftO p q loose Xt (PySem.W.X.obsZ as) (PySem.W.X.valZ K n t) N := fun w => by
  show lhsF p q loose (importedModules p.main.body) Xt as N w = rhsF q loose K n t w
  rw [PySem.W.Fast.te9246333973048606402,PySem.W.Fast.te8568103433188807956]
  have e := World.withFollow_self w "special-get-raises"
  cases hb : w.params.followText "special-get-raises" <;> rw [hb] at e
  · have := h0 w
    rw [e] at this
    exact this
  · have := h1 w
    rw [e] at this
    exact this
local macro_rules | `(tactic| k_head) => `(tactic| z_head)
local macro_rules | `(tactic| o_law) => `(tactic| refine holds_law (by decide +kernel) fun said => ?_)
local macro_rules | `(tactic| first | refine $e | fail $_) => do
  let t ← e.raw.replaceM fun s => do
    if s.isOfKind ``Lean.Parser.Term.syntheticHole then
      if s[1].getId == `hl then return some (← `(hb.1))
      if s[1].getId == `hc then return some (← `(hb.2))
    return none
  let t : Lean.TSyntax `term := ⟨t⟩
  `(tactic| refine (fun hb : _ ∧ _ => $t) ?bb)
open_top hd for PySem.Challenge.rw_ti0065_01
end Mine
namespace Mine
def topL : List Str := [Str.ofString "COMPILER_FLAG_NAMES", Str.ofString "length_hint", Str.ofString "_name_disallowed_re", Str.ofString "_value_disallowed_re"]
noncomputable def topX (s : Shared) : Bool := xlAt hd.view_671 [] s && recOk PySem.Challenge.rw_ti0065_01.row.records s
def topA : List Addr := [0,1,2,3,4,5,6,7,8,9,10,11,12,13,14,15,32,33,34,35,36,37,38,46,47,48,49,50,51,52,53,54,55,56,57,58,59,60,61,62,63,64,65,66,67,68,69,70,71,72,73,74,75,76,77,78,81,82,83,84,85,86,87,88,89,90,91,92,93,94,95,96,97,98,99,100,101,102,103,104,105,106,107,108,109,110,111,112,113,114,115,116,117,118,119,120,121,122,123,124,125,126,127,128,129,130,131,132,133,134,135,136,137,138,139,140,141,142,143,144,145,146,147,148,149,150,151,152,153,154,155,156,157,158,159,160,161,162,163,164,165,166,170,171,175,176,184,185,186,187,188,189,190,191,192,193,194,195,196,197,198,199,200,201,202,203,204,205,206,207,208,209,210,211,212,213,214,215,216,217,218,219,220,221,222,223,224,225,226,227,228,229,230,231,232,233,234,235,236,237,238,239,240,241,242,243,244,245,246,247,248,249,250,251,252,253,254,255,256,257,258,259,260,261,262,263,264,265,266,267,268,269,270,271,272,273,274,275,276,277,278,279,280,281,282,283,284,285,286,287,288,289,290,291,292,293,294,295,296,297,298,299,300,301,304,305,306,307,308,309,310,311,312,313,314,315,316,317,318,319,320,321,322,323,324,325,326,327,328,329,330,331,332,333,334,335,336,337,338,339,340,341,342,343,344,345,346,347,348,349,350,351,352,353,354,355,356]
theorem left0 : ∀ w : World, lhsY PySem.Challenge.rw_ti0065_01.row.prog hd.view_671 topL (importedModules PySem.Challenge.rw_ti0065_01.row.prog.main.body) topX topA 4200 (w.withFollow "special-get-raises" false) = rhsY hd.view_671 topL hd.heap_317 357 778 (w.withFollow "special-get-raises" false) := fun w => by kernel_rfl
theorem left1 : ∀ w : World, lhsY PySem.Challenge.rw_ti0065_01.row.prog hd.view_671 topL (importedModules PySem.Challenge.rw_ti0065_01.row.prog.main.body) topX topA 4200 (w.withFollow "special-get-raises" true) = rhsY hd.view_671 topL hd.heap_317 357 778 (w.withFollow "special-get-raises" true) := fun w => by kernel_rfl
theorem left : LeftO PySem.Challenge.rw_ti0065_01.row.prog hd.view_671 topL topX (PySem.W.X.obsZ topA) (PySem.W.X.valZ hd.heap_317 357 778) 4200 := left_of left0 left1
end Mine
end
section
namespace Mine
/-! ### small sums: what omega proves at length -/
theorem lw {D a b R : Nat} (h : D + a ≤ R) (k : Nat.ble b a = true) : D + b ≤ R := Nat.le_trans (Nat.add_le_add_left (Nat.le_of_ble_eq_true k) D) h
theorem lx {D a b c R : Nat} (h : D + a ≤ R) (k : Nat.ble (c + b) a = true) : D + c + b ≤ R := Nat.add_assoc D c b ▸ lw h k
theorem ly {D a b c d R : Nat} (h : D + a ≤ R) (k : Nat.ble (c + d + b) a = true) : D + c + d + b ≤ R := by
  rw [Nat.add_assoc D c d]
  exact lx h k
theorem cw {D a b R : Nat} (h : 8 * D + a < R) (k : Nat.ble b a = true) : 8 * D + b < R := Nat.lt_of_le_of_lt (Nat.add_le_add_left (Nat.le_of_ble_eq_true k) _) h
theorem cx {D a b c R : Nat} (h : 8 * D + a < R) (k : Nat.ble (8 * c + b) a = true) : 8 * (D + c) + b < R := by
  rw [Nat.mul_add,Nat.add_assoc]
  exact cw h k
theorem su {i m T : Nat} (h : i + (m + 1) = T) : i + 1 + m = T := (Nat.succ_add_eq_add_succ i m).trans h
theorem lk {i k N : Nat} (h : i + (k + 1) = N) : i < N := Nat.lt_of_lt_of_eq (Nat.lt_add_of_pos_right (Nat.succ_pos k)) h
theorem sb {a b : Nat} (h : b < a) : a - b = a - (b + 1) + 1 := by omega
theorem lt_t {a b c : Nat} (h : a ≤ b) (k : Nat.ble b c = true) : a ≤ c := Nat.le_trans h (Nat.le_of_ble_eq_true k)
theorem lt_s {a b c : Nat} (h : a < b) (k : Nat.ble b (c + 1) = true) : a ≤ c := Nat.le_of_lt_succ (Nat.lt_of_lt_of_le h (Nat.le_of_ble_eq_true k))
theorem lt_u {a b c : Nat} (h : a < b) (k : Nat.ble b c = true) : a < c := Nat.lt_of_lt_of_le h (Nat.le_of_ble_eq_true k)
theorem lt_v {a b c : Nat} (h : a ≤ b) (k : Nat.blt b c = true) : a < c := Nat.lt_of_le_of_lt h (Nat.le_of_ble_eq_true k)
theorem gt_v {a b c : Nat} (h : b ≤ a) (k : Nat.blt c b = true) : c < a := Nat.lt_of_lt_of_le (Nat.le_of_ble_eq_true k) h
theorem ad2 {a b m n c : Nat} (h : a ≤ m) (g : b ≤ n) (k : Nat.ble (m + n) c = true) : a + b ≤ c := Nat.le_trans (Nat.add_le_add h g) (Nat.le_of_ble_eq_true k)
theorem ad3 {a b m n c : Nat} (h : a ≤ m) (g : b ≤ n) (k : Nat.blt (m + n) c = true) : a + b < c := Nat.lt_of_le_of_lt (Nat.add_le_add h g) (Nat.le_of_ble_eq_true k)
theorem ri {a b m c : Nat} (h : b + a ≤ m) (k : Nat.ble m c = true) : a ≤ c := Nat.le_trans (Nat.le_trans (Nat.le_add_left a b) h) (Nat.le_of_ble_eq_true k)
theorem ri2 {a b m c : Nat} (h : b + a ≤ m) (k : Nat.ble (2 * m) c = true) : 2 * a ≤ c := Nat.le_trans (Nat.mul_le_mul_left 2 (Nat.le_trans (Nat.le_add_left a b) h)) (Nat.le_of_ble_eq_true k)
theorem oa {a c : Nat} (h : a = 4 ∨ a = 6) (k : Nat.blt c 4 = true) : c < a := by
  have := Nat.le_of_ble_eq_true k
  omega
theorem ob' {a c : Nat} (h : a = 4 ∨ a = 6) (k : Nat.ble 6 c = true) : a ≤ c := by
  have := Nat.le_of_ble_eq_true k
  omega
theorem dd {D₀ D k a : Nat} (h : D₀ + 50 ≤ D) (h1 : k ≤ 50) (h2 : a ≤ D₀) : a + k ≤ D := Nat.le_trans (Nat.add_le_add h2 h1) h
theorem uu {D₀ D k a : Nat} (h : D₀ + 50 ≤ D) (h1 : k ≤ 400) (h2 : a ≤ 8 * D₀ + 300) : a + k ≤ 8 * D + 300 := by omega
theorem dv {N a b c : Nat} (h : N < a) (k : Nat.ble a (b * c) = true) : N / b < c := Nat.div_lt_of_lt_mul (Nat.lt_of_lt_of_le h (Nat.le_of_ble_eq_true k))
theorem md {N b c : Nat} (k : Nat.ble (b + 1) c = true) : N % (b + 1) < c := Nat.lt_of_lt_of_le (Nat.mod_lt _ (Nat.succ_pos b)) (Nat.le_of_ble_eq_true k)
theorem pdv {a k w m n c : Nat} (h : a < m) (g : k < n) (x : Nat.ble (m + n) c = true) : a + k / w < c := Nat.lt_of_lt_of_le (Nat.add_lt_add_of_lt_of_le h (Nat.le_trans (Nat.div_le_self k w) (Nat.le_of_lt g))) (Nat.le_of_ble_eq_true x)
theorem pmd {a k w m n c : Nat} (h : a < m) (g : k < n) (x : Nat.ble (m + n) c = true) : a + k % w < c := Nat.lt_of_lt_of_le (Nat.add_lt_add_of_lt_of_le h (Nat.le_trans (Nat.mod_le k w) (Nat.le_of_lt g))) (Nat.le_of_ble_eq_true x)
theorem tr1 {a b c : Nat} (h : a < b) (g : b ≤ c) : a < c := Nat.lt_of_lt_of_le h g
theorem tr2 {a b k c : Nat} (h : k < b) (g : a + b ≤ c) : a + k < c := Nat.lt_of_lt_of_le (Nat.add_lt_add_left h a) g
theorem be {a b : Nat} (k : Nat.ble a b = true) : a ≤ b := Nat.le_of_ble_eq_true k
theorem rl {a : Nat} : a ≤ a := Nat.le_refl a
theorem z0 {T : Nat} : 0 + T = T := Nat.zero_add T
end Mine
end
local macro_rules | `(tactic| omega) => do { let mut t ← `(tactic| fail); for (n, k, r) in [(`tr2, 2, false), (`tr1, 2, false), (`z0, 0, false), (`md, 0, true), (`oa, 1, true), (`ob', 1, true), (`ri2, 1, true), (`ri, 1, true), (`pdv, 2, true), (`pmd, 2, true), (`dv, 1, true), (`uu, 3, false), (`dd, 3, false), (`ad3, 2, true), (`ad2, 2, true), (`gt_v, 1, true), (`lt_v, 1, true), (`lt_u, 1, true), (`lt_s, 1, true), (`lt_t, 1, true), (`sb, 1, false), (`lk, 1, false), (`su, 1, false), (`cw, 1, true), (`cx, 1, true), (`ly, 1, true), (`lw, 1, true), (`lx, 1, true), (`be, 0, true), (`rl, 0, false)] do { let mut a : Lean.TSyntaxArray `term := #[]; for _ in [0:k] do { a := a.push (← `(‹_›)) }; let b ← `(by rfl); a := if r then a.push b else a; let i := Lean.mkIdent (`Mine ++ n); t ← `(tactic| first | exact $i $a* | $t:tactic) }; return ← `(tactic| first | assumption | $t:tactic) }
section
open PySem PySem.W PySem.W.X PyProof.Rows PySem.Spec PySem.Calls
namespace Mine

/-! ### the walk by evaluation: a ledger of the call's own objects (newest first),a trace of where each load goes -/
abbrev Led := List (Addr × Obj)
noncomputable def lget : Led → Nat → Option (Addr × Obj)
  | [],_ => none
  | p :: l,i => match i with
    | 0 => some p
    | i + 1 => lget l i
noncomputable def lset : Led → Nat → Obj → Led
  | [],_,_ => []
  | p :: l,i,o => match i with
    | 0 => (p.1,o) :: l
    | i + 1 => p :: lset l i o

structure Rw where
  c : Code
  t : Sem PySem.Fin
  ok : denote table c = t
inductive Ev where
  | n (k : Nat)
  | rw (r : Rw)
  | stop
  | ask (row : String)
  | mid (k : Nat)
inductive Ob where
  | addr (a : Addr)
  | code (c : Code)
  | tree (t : Sem PySem.Fin)
inductive Kt where
  | base
  | ret (c : Code) (hd : Option Value) (k : Result → Sem PySem.Fin) (κ : Kt)
structure St where
  led : Led
  sz : Nat
  tk : Nat
  obs : List (Ob × Ob)
inductive Out where
  | ret (r : Result) (s : St)
  | stop (c : Code) (κ : Kt) (tr : List Ev) (s : St)
  | mid (c : Code) (κ : Kt) (t : Sem PySem.Fin) (tr : List Ev) (s : St)
  | bad (n a : Nat)
  | badW (w : String)
inductive Go where
  | tree (t : Sem PySem.Fin) (tr : List Ev) (obs : List (Ob × Ob))
  | stop (tr : List Ev)
  | bad (n a : Nat)

noncomputable def Kt.hd : Kt → Option Value
  | .base => none
  | .ret _ hd _ κ => hd.or κ.hd
noncomputable def Kt.depth : Kt → Nat
  | .base => 0
  | .ret c _ _ κ => c.weight + κ.depth
noncomputable def Kt.units : Kt → Nat
  | .base => 0
  | .ret c _ _ κ => c.cUnits + κ.units

noncomputable def bodyCode (b : FuncBody) (env : Env) : Code := match b with
  | .stmts b => .func b env
  | .expr e => .expr e env
noncomputable def noLimit (o : Obj) : Bool := match o.data with
  | .dict es _ => es.toList.all fun e => match e.key with
    | .str x _ => !decide (x = "sys.recursionlimit")
    | _ => false
  | _ => false
noncomputable def enterTree (a : Addr) (fd : FuncData) (args : Args) : Sem PySem.Fin :=
  (bindArgs fd args).bind fun binds => (newFunctionEnv fd.scope fd.globals fd.closure binds (fd.qualname ++ ".<locals>.") (some a) fd.code none fd.builtins).bind fun env =>
    .load cStatics none fun o => match noLimit o with
      | true => .pure (.again (bodyCode fd.body env))
      | false => .unsupported "limit"
noncomputable def roomHere (κ : Kt) : Bool := Nat.ble (κ.depth + 20) 100

noncomputable def tellsName (oc : Obj) (q : Str) : Bool := match oc.data with
  | .fields vs => match vs[1]? with
    | some v => match v with
      | .str x _ => decide (x = q)
      | _ => false
    | none => false
  | _ => false
noncomputable def goFn (kt : KT) (tab : Addr) (a : Addr) (o : Obj) (args : Args) (κ : Kt) (L : Led) (tr : List Ev) (obs : List (Ob × Ob)) : Go := match o.data with
  | .func fd => match fd.scope.isCoroutine with
    | true => .bad 30 a
    | false => match fd.scope.isGenerator with
      | true => .bad 31 a
      | false => match roomHere κ with
        | false => .bad 32 a
        | true => match fd.code with
          | .ref c => match tr with
            | .n e :: tr => match e with
              | 0 => match Nat.beq c tab with
                | true => .bad 33 c
                | false => match kt.get c with
                  | some oc => match tellsName oc fd.qualname with
                    | true => .tree (enterTree a fd args) tr obs
                    | false => .bad 34 c
                  | none => .bad 35 c
              | e + 1 => match lget L e with
                | some p => match tellsName p.2 fd.qualname with
                  | true => .tree (enterTree a fd args) tr ((.addr c,.addr p.1) :: obs)
                  | false => .bad 34 c
                | none => .bad 35 c
            | _ => .bad 36 a
          | _ => .bad 37 a
  | _ => .bad 38 a
noncomputable def iterOk (o : Obj) : Bool := match o.cls with
  | .type n => ["list_iterator", "range_iterator", "str_iterator", "str_ascii_iterator", "tuple_iterator"].contains n
  | _ => false
noncomputable def plainComp (e : PySem.Expr) (depth : Nat) : Bool := match e with
  | .ListComp _ gens _ _ => match gens with
    | [] => false
    | g :: _ => match depth with
      | 0 => decide (g.is_async = 0)
      | _ + 1 => false
  | _ => false
noncomputable def go (kt : KT) (tab : Addr) (tr : List Ev) (c : Code) (κ : Kt) (L : Led) (obs : List (Ob × Ob)) : Go := match c with
  | .call f args => match f with
    | .ref a => match tr with
      | [] => .bad 40 a
      | ev :: tr => match ev with
        | .n e => match e with
          | 0 => .tree (denote treeTable (.call (.ref a) args)) tr obs
          | e + 1 => match e with
            | 0 => match Nat.beq a tab with
              | true => .bad 41 a
              | false => match kt.get a with
                | some o => goFn kt tab a o args κ L tr obs
                | none => .bad 42 a
            | e + 1 => match lget L e with
              | some p => goFn kt tab a p.2 args κ L tr ((.addr a,.addr p.1) :: obs)
              | none => .bad 43 a
        | .stop => .stop tr
        | .rw _ => .bad 44 a
        | .ask _ => .bad 44 a
        | .mid _ => .bad 44 a
    | _ => .tree (denote treeTable c) tr obs
  | .builtin id args => match tr with
    | [] => .tree (denote treeTable (.builtin id args)) tr obs
    | ev :: tr' => match ev with
      | .n _ => .tree (denote treeTable (.builtin id args)) tr obs
      | .ask _ => .tree (denote treeTable (.builtin id args)) tr obs
      | .mid _ => .tree (denote treeTable (.builtin id args)) tr obs
      | .stop => .stop tr'
      | .rw r => .tree r.t tr' ((.code (.builtin id args),.code r.c) :: obs)
  | .compStart e depth it acc env => match tr with
    | [] => .bad 45 0
    | ev :: tr' => match ev with
      | .stop => .stop tr'
      | .rw _ => .bad 46 0
      | .ask _ => .bad 46 0
      | .mid _ => .bad 46 0
      | .n k => match k with
        | 0 => .tree (denote treeTable (.compStart e depth it acc env)) tr' obs
        | i + 1 => match lget L i with
          | none => .bad 47 0
          | some p => match it with
            | .ref a => match iterOk p.2 with
              | false => .bad 48 a
              | true => match plainComp e depth with
                | false => .bad 49 a
                | true => .tree (.pure (.again (.compLoop e depth (.ref a) acc env))) tr' ((.addr a,.addr p.1) :: obs)
            | _ => .bad 50 0
  | c => match tr with
    | [] => .tree (denote treeTable c) tr obs
    | ev :: tr' => match ev with
      | .stop => .stop tr'
      | _ => .tree (denote treeTable c) tr obs
noncomputable def okMark (hd : Option Value) : Bool := match hd with
  | none => true
  | some v => !decide (v = byPass)

noncomputable def followS (s : Setting) (row : String) (b : Bool) : Setting := ⟨s.program,{ s.params with followText := fun r => if r = row then b else s.params.followText r }⟩
theorem follow_self (s : Setting) (row : String) : followS s row (s.params.followText row) = s := by
  obtain ⟨p,P⟩ := s
  unfold followS
  have : (fun r => if r = row then P.followText row else P.followText r) = P.followText := by
    funext r
    split
    · rename_i h; rw [h]
    · rfl
  simp only [this]
section
variable (kt : KT) (tab : Addr) (set : Setting)
noncomputable def run : Nat → List Ev → Code → Kt → Sem PySem.Fin → Led → Nat → Nat → List (Ob × Ob) → Out
  | 0,_,_,_,_,_,_,_,_ => .bad 0 0
  | n + 1,tr,c,κ,t,L,sz,tk,obs => match t with
    | .pure fin => match fin with
      | .done f => match κ with
        | .base => match tr with
          | [] => .ret (.ok f) ⟨L,sz,tk,obs⟩
          | _ :: _ => .bad 1 0
        | .ret c _ k κ => run n tr c κ (k (.ok f)) L sz tk obs
      | .again c' => match c'.quiet with
        | false => .bad 2 0
        | true => match go kt tab tr c' κ L obs with
          | .tree t tr obs => run n tr c' κ t L sz tk obs
          | .stop tr => .stop c' κ tr ⟨L,sz,tk,obs⟩
          | .bad n a => .bad n a
    | .raise e => match κ with
        | .base => match tr with
          | [] => .ret (.error e) ⟨L,sz,tk,obs⟩
          | _ :: _ => .bad 3 0
        | .ret c _ k κ => run n tr c κ (k (.error e)) L sz tk obs
    | .rule _ k => run n tr c κ (k ()) L sz tk obs
    | .at _ k => run n tr c κ (k ()) L sz tk obs
    | .point _ k => run n tr c κ (k ()) L sz tk obs
    | .ask k => match tr with
      | [] => run n [] c κ (k set) L sz tk obs
      | ev :: tr' => match ev with
        | .ask row => run n tr' c κ (k (followS set row true)) L sz tk ((.tree (k (followS set row true)),.tree (k (followS set row false))) :: obs)
        | .n e => run n (.n e :: tr') c κ (k set) L sz tk obs
        | .rw r => run n (.rw r :: tr') c κ (k set) L sz tk obs
        | .stop => run n (.stop :: tr') c κ (k set) L sz tk obs
        | .mid e => run n (.mid e :: tr') c κ (k set) L sz tk obs
    | .load a _ k => match tr with
      | [] => .bad 4 a
      | ev :: tr => match ev with
        | .n e => match e with
          | 0 => match Nat.beq a tab with
            | true => .bad 5 a
            | false => match kt.get a with
              | some o => run n tr c κ (k o) L sz tk obs
              | none => .bad 6 a
          | e + 1 => match lget L e with
            | some p => run n tr c κ (k p.2) L sz tk ((.addr a,.addr p.1) :: obs)
            | none => .bad 7 a
        | .mid e => match lget L e with
          | some p => .mid c κ (k p.2) tr ⟨L,sz,tk,(.addr a,.addr p.1) :: obs⟩
          | none => .bad 7 a
        | _ => .bad 8 a
    | .loadIfAlive a k => match tr with
      | [] => .bad 4 a
      | ev :: tr => match ev with
        | .n e => match e with
          | 0 => match Nat.beq a tab with
            | true => .bad 5 a
            | false => match kt.get a with
              | some o => run n tr c κ (k (some o)) L sz tk obs
              | none => .bad 6 a
          | e + 1 => match lget L e with
            | some p => run n tr c κ (k (some p.2)) L sz tk ((.addr a,.addr p.1) :: obs)
            | none => .bad 7 a
        | _ => .bad 8 a
    | .alloc o k => match o.isFreed with
      | true => .bad 9 0
      | false => run n tr c κ (k sz) ((sz,o) :: L) (sz + 1) tk obs
    | .update a _ f k => match tr with
      | [] => .bad 10 a
      | ev :: tr => match ev with
        | .n e => match e with
          | 0 => .bad 11 a
          | e + 1 => match lget L e with
            | some p => match (f p.2).isFreed with
              | true => .bad 12 a
              | false => run n tr c κ (k ()) (lset L e (f p.2)) sz tk ((.addr a,.addr p.1) :: obs)
            | none => .bad 13 a
        | _ => .bad 14 a
    | .fresh k => run n tr c κ (k tk) L sz (tk + 1) obs
    | .handled own k => match own with
      | true => .bad 15 0
      | false => run n tr c κ (k κ.hd) L sz tk obs
    | .call c' hd _ _ k => match okMark hd with
      | false => .bad 16 0
      | true => match go kt tab tr c' (.ret c hd k κ) L obs with
        | .tree t tr obs => run n tr c' (.ret c hd k κ) t L sz tk obs
        | .stop tr => .stop c' (.ret c hd k κ) tr ⟨L,sz,tk,obs⟩
        | .bad n a => .bad n a
    | .unsupported w => .badW w
    | .stack k => match tr with
      | [] => .bad 17 0
      | ev :: tr => match ev with
        | .mid _ => .mid c κ (.stack k) tr ⟨L,sz,tk,obs⟩
        | _ => .bad 17 0
    | _ => .bad 18 0
noncomputable def resume (n : Nat) (tr : List Ev) (κ : Kt) (r : Result) (L : Led) (sz tk : Nat) : Out := match κ with
  | .base => .bad 19 0
  | .ret c _ k κ => run kt tab set n tr c κ (k r) L sz tk []
noncomputable def contM (n : Nat) (out : Out) (t : Sem PySem.Fin) (tr : List Ev) : Out := match out with
  | .mid c κ _ _ s => run kt tab set n tr c κ t s.led s.sz s.tk []
  | _ => .bad 29 0
noncomputable def startCode (n : Nat) (tr : List Ev) (c : Code) (L : Led) (sz tk : Nat) : Out := match go kt tab tr c .base L [] with
  | .tree t tr obs => run kt tab set n tr c .base t L sz tk obs
  | .stop _ => .bad 20 0
  | .bad n a => .bad n a
end
end Mine
namespace Mine

theorem noLimit_ok {h : Heap} {o : Obj} (ho : h.get? cStatics = some o) (hn : noLimit o = true) : h.NoLimit := by
  unfold noLimit at hn
  split at hn
  · rename_i es ep hd
    refine ⟨nsFind es,⟨o,es,ep,ho,hd,?_,fun _ => rfl⟩,?_⟩
    · intro e he
      have := List.all_eq_true.mp hn e (Array.mem_toList_iff.mpr he)
      split at this
      · rename_i x t hk; exact ⟨x,t,hk⟩
      · cases this
    · unfold nsFind findBy
      have : es.find? (fun e => e.key.isStr "sys.recursionlimit") = none := by
        rw [Array.find?_eq_none]
        intro e he
        have := List.all_eq_true.mp hn e (Array.mem_toList_iff.mpr he)
        split at this
        · rename_i x t hk
          rw [hk]
          simp only [Value.isStr]
          intro hh
          have : x = "sys.recursionlimit" := by simpa using hh
          simp [this] at *
        · cases this
      rw [this]; rfl
  · cases hn

theorem tellsName_ok {h : Heap} {c : Addr} {oc : Obj} {q : Str} (ho : h.get? c = some oc) (ht : tellsName oc q = true) : h.CodeRec (.ref c) q := by
  unfold tellsName at ht
  split at ht
  · rename_i vs hd
    split at ht
    · rename_i v hv
      split at ht
      · rename_i x t
        have : x = q := of_decide_eq_true ht
        subst this
        exact ⟨c,oc,vs,t,rfl,ho,hd,hv⟩
      · cases ht
    · cases ht
  · cases ht

structure Gc where
  prog : Program
  w : World
  kt : KT
  tab : Addr
  h₁ : Heap
  d : Drawn
  os : OsState
  ok : kt.Holds h₁ 1 0

structure Gc.Base (G : Gc) (h : Heap) : Prop where
  keep : ∀ b o,G.h₁.get? b = some o → b ≠ G.tab → h.get? b = some o
  big : G.h₁.objs.size ≤ h.objs.size
  tab : G.tab < G.h₁.objs.size

structure Rep (G : Gc) (h₀ : Heap) (H : List Addr) (h : Heap) (L : Led) (sz : Nat) : Prop where
  size : h.objs.size = sz
  base : G.Base h
  own : ∀ p ∈ L,h.get? p.1 = some p.2
  nodup : (L.map (·.1)).Nodup
  young : ∀ p ∈ L,G.h₁.objs.size ≤ p.1 ∨ p.1 = G.tab
  grown : h₀.objs.size ≤ sz
  keep : ∀ b o,h₀.get? b = some o → b ∉ H → h.get? b = some o
  mine : ∀ p ∈ L,p.1 ∈ H ∨ h₀.objs.size ≤ p.1

theorem lget_zero (p : Addr × Obj) (l : Led) : lget (p :: l) 0 = some p := rfl
theorem lget_succ (p : Addr × Obj) (l : Led) (i : Nat) : lget (p :: l) (i + 1) = lget l i := rfl
theorem lset_zero (p : Addr × Obj) (l : Led) (o : Obj) : lset (p :: l) 0 o = (p.1,o) :: l := rfl
theorem lset_succ (p : Addr × Obj) (l : Led) (i : Nat) (o : Obj) : lset (p :: l) (i + 1) o = p :: lset l i o := rfl
theorem lget_mem (L : Led) : ∀ (i : Nat) (p : Addr × Obj),lget L i = some p → p ∈ L := by
  induction L with
  | nil => intro i p h; exact absurd h (by simp [lget])
  | cons q l ih =>
    intro i p h
    cases i with
    | zero => rw [lget_zero] at h; rw [Option.some.inj h]; exact List.mem_cons_self
    | succ i => rw [lget_succ] at h; exact List.mem_cons_of_mem _ (ih i p h)
theorem lset_keys (L : Led) : ∀ (i : Nat) (o : Obj),(lset L i o).map (·.1) = L.map (·.1) := by
  induction L with
  | nil => intro i o; rfl
  | cons p l ih =>
    intro i o
    cases i with
    | zero => rfl
    | succ i => rw [lset_succ,List.map_cons,List.map_cons,ih]
theorem lset_mem (L : Led) : ∀ (i : Nat) (o : Obj) (p q : Addr × Obj),(L.map (·.1)).Nodup → lget L i = some p → q ∈ lset L i o → (q = (p.1,o)) ∨ (q ∈ L ∧ q.1 ≠ p.1) := by
  induction L with
  | nil => intro i o p q _ h _; exact absurd h (by simp [lget])
  | cons r l ih =>
    intro i o p q hn h hq
    rw [List.map_cons,List.nodup_cons] at hn
    cases i with
    | zero =>
      rw [lget_zero] at h
      have h := Option.some.inj h
      subst h
      rw [lset_zero] at hq
      rcases List.mem_cons.mp hq with e | hq
      · exact .inl e
      · exact .inr ⟨List.mem_cons_of_mem _ hq,fun e => hn.1 (e ▸ List.mem_map_of_mem hq)⟩
    | succ i =>
      rw [lget_succ] at h
      rw [lset_succ] at hq
      rcases List.mem_cons.mp hq with e | hq
      · exact .inr ⟨e ▸ List.mem_cons_self,fun e' => hn.1 (by rw [e] at e'; rw [e']; exact List.mem_map_of_mem (lget_mem _ _ _ h))⟩
      · rcases ih i o p q hn.2 h hq with e | e
        · exact .inl e
        · exact .inr ⟨List.mem_cons_of_mem _ e.1,e.2⟩

section
variable {G : Gc} {h₀ : Heap} {H : List Addr} {h : Heap} {L : Led} {sz : Nat}
theorem Rep.own' (D : Rep G h₀ H h L sz) {i : Nat} {p : Addr × Obj} (e : lget L i = some p) : h.get? p.1 = some p.2 := D.own p (lget_mem _ _ _ e)
theorem kt_get {h : Heap} {t : KT} (H : KT.Holds h 1 0 t) {a : Addr} {o : Obj} (e : t.get a = some o) : h.get? a = some o := by
  have := KT.Holds.get H e
  rw [Nat.one_mul,Nat.add_zero] at this
  exact this
theorem Gc.Base.old (D : G.Base h) {a : Addr} {o : Obj} (e : G.kt.get a = some o) (hn : Nat.beq a G.tab = false) : h.get? a = some o :=
  D.keep a o (kt_get G.ok e) (Nat.ne_of_beq_eq_false hn)
theorem Gc.Base.push (D : G.Base h) (o : Obj) : G.Base (h.push o) :=
  ⟨fun b o' e q => Heap.get?_push_of_some _ (D.keep b o' e q),by rw [Heap.size_push]; have := D.big; omega,D.tab⟩
theorem Rep.alloc (D : Rep G h₀ H h L sz) {o : Obj} (hf : o.isFreed = false) : Rep G h₀ H (h.push o) ((sz,o) :: L) (sz + 1) := by
  have lt : ∀ p ∈ L,p.1 < sz := fun p hp => D.size ▸ Heap.lt_size (D.own p hp)
  refine ⟨by rw [Heap.size_push,D.size],D.base.push o,fun p hp => ?_,?_,fun p hp => ?_,Nat.le_succ_of_le D.grown,fun b o' e q => Heap.get?_push_of_some _ (D.keep b o' e q),fun p hp => ?_⟩
  · cases hp with
    | head => show (h.push o).get? sz = some o; rw [← D.size]; exact Heap.get?_push_size _ hf
    | tail _ hp => exact Heap.get?_push_of_some _ (D.own p hp)
  · rw [List.map_cons,List.nodup_cons]
    refine ⟨fun hm => ?_,D.nodup⟩
    obtain ⟨p,hp,e⟩ := List.mem_map.mp hm
    exact absurd (lt p hp) (by show ¬ p.1 < sz; rw [e]; exact Nat.lt_irrefl _)
  · cases hp with
    | head => left; show _ ≤ sz; rw [← D.size]; exact D.base.big
    | tail _ hp => exact D.young p hp
  · cases hp with
    | head => right; exact D.grown
    | tail _ hp => exact D.mine p hp
theorem Rep.update (D : Rep G h₀ H h L sz) {i : Nat} {p : Addr × Obj} {f : Obj → Obj} (e : lget L i = some p) (hf : (f p.2).isFreed = false) : Rep G h₀ H (h.update p.1 f) (lset L i (f p.2)) sz := by
  have z := D.own' e
  have hm := lget_mem _ _ _ e
  have hs : Heap.SameBut p.1 h (h.update p.1 f) := Heap.SameBut.update ..
  have ge : (h.update p.1 f).get? p.1 = some (f p.2) := by first | exact Heap.get?_update_self f z hf | exact Heap.get?_update_self _ z hf
  have young := D.young p hm
  have old : ∀ b o',G.h₁.get? b = some o' → b ≠ G.tab → b ≠ p.1 := by
    intro b o' eb nb hb
    subst hb
    rcases young with y | y
    · exact absurd (Heap.lt_size eb) (Nat.not_lt.mpr y)
    · exact nb y
  refine ⟨by rw [hs.1,D.size],⟨fun b o' eb nb => (hs.2 b (old b o' eb nb)).trans (D.base.keep b o' eb nb),by rw [hs.1]; exact D.base.big,D.base.tab⟩,fun q hq => ?_,by rw [lset_keys]; exact D.nodup,fun q hq => ?_,D.grown,fun b o' eb nb => ?_,fun q hq => ?_⟩
  · rcases lset_mem _ _ _ _ _ D.nodup e hq with rfl | ⟨hq,ne⟩
    · exact ge
    · exact (hs.2 _ ne).trans (D.own q hq)
  · rcases lset_mem _ _ _ _ _ D.nodup e hq with rfl | ⟨hq,_⟩
    · exact young
    · exact D.young q hq
  · refine (hs.2 b ?_).trans (D.keep b o' eb nb)
    intro hb
    subst hb
    rcases D.mine p hm with m | m
    · exact nb m
    · exact absurd (Heap.lt_size eb) (Nat.not_lt.mpr m)
  · rcases lset_mem _ _ _ _ _ D.nodup e hq with rfl | ⟨hq,_⟩
    · exact D.mine p hm
    · exact D.mine q hq
end

noncomputable def around (A₀ : Around) : Kt → Around
  | .base => A₀
  | .ret c hd _ κ => ((around A₀ κ).under c).mark hd
noncomputable def endOf (prog : Program) (w : World) (A₀ : Around) (R₀ : Result → Shared → Prop) : Kt → Result → Shared → Prop
  | .base => R₀
  | .ret c _ k κ => postR prog w (around A₀ κ) c (postC prog w (around A₀ κ) (endOf prog w A₀ R₀ κ)) (postE (endOf prog w A₀ R₀ κ)) k
theorem around_hd {A₀ : Around} (h0 : A₀.handled = none) : ∀ κ,(around A₀ κ).handled = κ.hd
  | .base => h0
  | .ret c hd k κ => by show hd.or ((around A₀ κ).under c).handled = hd.or κ.hd; rw [← around_hd h0 κ]; rfl
theorem around_depth {A₀ : Around} : ∀ κ,(around A₀ κ).depth = A₀.depth + κ.depth
  | .base => rfl
  | .ret c hd k κ => by show (around A₀ κ).depth + c.weight = A₀.depth + (c.weight + κ.depth); rw [around_depth κ]; omega
theorem around_units {A₀ : Around} : ∀ κ,(around A₀ κ).units = A₀.units + κ.units
  | .base => rfl
  | .ret c hd k κ => by show (around A₀ κ).units + c.cUnits = A₀.units + (c.cUnits + κ.units); rw [around_units κ]; omega

theorem own_bind_mono {α β : Type} {M : Model} {A : Around} {c : Code} {m : Sem α} {f f' : α → Sem β} {Q : β → Shared → Prop} {E : Value → Shared → Prop} {s : Shared} (h : wpOwn M A c (m >>= f') Q E s)
    (hf : ∀ Γ p a s',Γ.code = c → Γ.Below A → Sem.wp M Γ (f' a) (fun a _ s' => Q a s') (fun e _ s' => E e s') p s' → Sem.wp M Γ (f a) (fun a _ s' => Q a s') (fun e _ s' => E e s') p s') : wpOwn M A c (m >>= f) Q E s := fun Γ p hc hΓ => by
  have := h Γ p hc hΓ
  rw [Sem.wp_bind'] at this ⊢
  exact Sem.wp_mono M Γ m (fun a p' s' => hf Γ p' a s' hc hΓ) (fun _ _ _ h => h) p s this

theorem enter_own {prog : Program} {w : World} {A : Around} {R : Result → Shared → Prop} {s : Shared} {a : Addr} {args : Args} {o : Obj} {fd : FuncData} (hroom : A.depth < recursionLimit)
    (ho : s.heap.get? a = some o) (hd' : o.data = .func fd) (hco : fd.scope.isCoroutine = false) (hgen : fd.scope.isGenerator = false) (hcd : s.heap.CodeRec fd.code fd.qualname)
    (h : wpOwn (model prog w) A (.call (.ref a) args) (enterTree a fd args) (postC prog w A R) (postE R) s) : codeAny (model prog w) A (.call (.ref a) args) R s := by
  refine y_code prog w A R s _ ?_
  have e1 : A.under (.call (.ref a) args) = A.in1 := Around.under_plain rfl rfl
  show wpOwn _ A _ (callAny (.ref a) args) _ _ s
  simp only [callAny]
  refine wpOwn_bind (wpOwn_of_wpAny (wpAny_load ho ?_))
  obtain ⟨c,oc,vs,tq,hcc,hoc,hdc,hq⟩ := hcd
  unfold enterTree at h
  rw [hcc] at h
  simp only [hd',callFunction,hco,hgen,hcc]
  refine wpOwn_bind (wpOwn_of_wpAny (wpAny_field hoc hdc hq ?_))
  refine wpOwn_bind (wpOwn_of_wpAny (wpAny_pure ?_))
  refine own_bind_mono (m := bindArgs fd args) h ?_
  intro Γ p binds s' hc hΓ h1
  have h1' : Sem.wp (model prog w) Γ (newFunctionEnv fd.scope fd.globals fd.closure binds (fd.qualname ++ ".<locals>.") (some a) (.ref c) none fd.builtins >>= fun env =>
    .load cStatics none fun o => match noLimit o with
      | true => .pure (.again (bodyCode fd.body env))
      | false => .unsupported "limit") (fun a _ s' => postC prog w A R a s') (fun e _ s' => postE R e s') p s' := h1
  rw [Sem.wp_bind'] at h1' ⊢
  refine Sem.wp_mono _ Γ _ (fun env p' s'' h2 => ?_) (fun _ _ _ h => h) p s' h1'
  rw [Sem.wp_load] at h2
  obtain ⟨o',ho',h3⟩ := h2
  cases hn : noLimit o' with
  | false => rw [hn] at h3; simp only [Sem.wp] at h3
  | true =>
    rw [hn] at h3
    have hin : Γ.In A.in1 := by
      have := hΓ.in
      rw [hc,e1] at this
      exact this
    rw [Sem.wp_bind']
    have he := wpAny_enterFrame (M := model prog w) (A := A.in1) (E := fun e s' => postE R e s') (Q := fun _ s₂ => s₂ = s'') (noLimit_ok ho' hn) hroom rfl Γ p' hin
    refine Sem.wp_mono _ Γ _ (fun u p'' s₂ h4 => ?_) (fun _ _ _ h => h) p' s'' he
    subst h4
    cases hb : fd.body with
    | stmts b => rw [hb] at h3; exact h3
    | expr e => rw [hb] at h3; exact h3

section
variable {G : Gc} {h₀ : Heap} {H : List Addr} {A₀ : Around} {R₀ : Result → Shared → Prop}
abbrev Gc.sh (G : Gc) (h : Heap) (tk : Nat) : Shared := ⟨h,#[],G.d,tk,G.os⟩
abbrev Gc.set (G : Gc) : Setting := ⟨G.prog,G.w.params⟩
noncomputable def Means (G : Gc) (A₀ : Around) (R₀ : Result → Shared → Prop) (c : Code) (κ : Kt) (t : Sem PySem.Fin) (s : Shared) : Prop :=
  wpOwn (model G.prog G.w) (around A₀ κ) c t (postC G.prog G.w (around A₀ κ) (endOf G.prog G.w A₀ R₀ κ)) (postE (endOf G.prog G.w A₀ R₀ κ)) s
noncomputable def Enters (G : Gc) (A₀ : Around) (R₀ : Result → Shared → Prop) (c : Code) (κ : Kt) (s : Shared) : Prop :=
  codeAny (model G.prog G.w) (around A₀ κ) c (endOf G.prog G.w A₀ R₀ κ) s
theorem Means.enters {c : Code} {κ : Kt} {s : Shared} (h : Means G A₀ R₀ c κ (denote treeTable c) s) : Enters G A₀ R₀ c κ s :=
  y_code _ _ _ _ _ _ (by rw [table_eq_tree]; exact h)
noncomputable def Alike (obs : List (Ob × Ob)) : Prop := ∀ p ∈ obs,p.1 = p.2
theorem Alike.tail {p : Ob × Ob} {obs : List (Ob × Ob)} (h : Alike (p :: obs)) : Alike obs := fun q hq => h q (List.mem_cons_of_mem _ hq)
theorem Alike.addr {a b : Addr} {obs : List (Ob × Ob)} (h : Alike ((.addr a,.addr b) :: obs)) : a = b := by
  have := h _ List.mem_cons_self
  simpa using this
theorem Alike.tree {a b : Sem PySem.Fin} {obs : List (Ob × Ob)} (h : Alike ((.tree a,.tree b) :: obs)) : a = b := by
  have := h _ (List.mem_cons_self ..)
  simpa using this
theorem Alike.code {a b : Code} {obs : List (Ob × Ob)} (h : Alike ((.code a,.code b) :: obs)) : a = b := by
  have := h _ List.mem_cons_self
  simpa using this
noncomputable def Out.Good (G : Gc) (h₀ : Heap) (H : List Addr) (A₀ : Around) (R₀ : Result → Shared → Prop) : Out → Prop
  | .ret r st => Alike st.obs ∧ ∀ h,Rep G h₀ H h st.led st.sz → R₀ r (G.sh h st.tk)
  | .stop c κ _ st => Alike st.obs ∧ ∀ h,Rep G h₀ H h st.led st.sz → Enters G A₀ R₀ c κ (G.sh h st.tk)
  | .mid c κ t _ st => Alike st.obs ∧ ∀ h,Rep G h₀ H h st.led st.sz → Means G A₀ R₀ c κ t (G.sh h st.tk)
  | .bad _ _ => False
  | .badW _ => False
noncomputable def Go.Good (G : Gc) (h : Heap) (tk : Nat) (A₀ : Around) (R₀ : Result → Shared → Prop) (c : Code) (κ : Kt) (obs : List (Ob × Ob)) : Go → Prop
  | .tree t _ obs' => Alike obs' → Alike obs ∧ (Means G A₀ R₀ c κ t (G.sh h tk) → Enters G A₀ R₀ c κ (G.sh h tk))
  | .stop _ => True
  | .bad _ _ => True
theorem room_ok {κ : Kt} (hA : A₀.depth + 100 ≤ recursionLimit) (h : roomHere κ = true) : (around A₀ κ).depth < recursionLimit := by
  have := Nat.le_of_ble_eq_true h
  rw [around_depth]
  omega
theorem goFn_good {h : Heap} {L : Led} {sz tk : Nat} {a : Addr} {o : Obj} {args : Args} {κ : Kt} {tr : List Ev} {obs obs₁ : List (Ob × Ob)} (hA : A₀.depth + 100 ≤ recursionLimit) (D : Rep G h₀ H h L sz)
    (hob : Alike obs₁ → Alike obs ∧ h.get? a = some o) : (goFn G.kt G.tab a o args κ L tr obs₁).Good G h tk A₀ R₀ (.call (.ref a) args) κ obs := by
  unfold goFn
  split
  · rename_i fd hfd
    split
    · trivial
    · rename_i hco
      split
      · trivial
      · rename_i hgen
        split
        · trivial
        · rename_i hroom
          split
          · rename_i c hc
            split
            · rename_i e tr'
              split
              · split
                · trivial
                · rename_i hb
                  split
                  · rename_i oc hoc
                    split
                    · rename_i ht
                      intro hal
                      refine ⟨(hob hal).1,fun hm => enter_own (room_ok hA hroom) (hob hal).2 hfd hco hgen ?_ hm⟩
                      rw [hc]
                      exact tellsName_ok (D.base.old hoc hb) ht
                    · trivial
                  · trivial
              · split
                · rename_i p hp
                  split
                  · rename_i ht
                    intro hal
                    have ha := hal.addr
                    refine ⟨(hob hal.tail).1,fun hm => enter_own (room_ok hA hroom) (hob hal.tail).2 hfd hco hgen ?_ hm⟩
                    rw [hc,ha]
                    exact tellsName_ok (D.own' hp) ht
                  · trivial
                · trivial
            · trivial
          · trivial
  · trivial
theorem pyIter_same {prog : Program} {w : World} {A : Around} {E : Value → Shared → Prop} {s : Shared} {a : Addr} {o : Obj} {Q : Value → Shared → Prop} (ho : s.heap.get? a = some o) (hi : iterOk o = true) (h : Q (.ref a) s) :
    wpAny (model prog w) A (pyIter (.ref a)) Q E s := by
  unfold iterOk at hi
  split at hi
  · rename_i n hc
    have hT : s.TypeIs (.ref a) n := ⟨o,ho,hc⟩
    have hi := List.contains_iff_mem.mp hi
    simp only [List.mem_cons,List.not_mem_nil,or_false] at hi
    rcases hi with rfl | rfl | rfl | rfl | rfl
    · refine wpAny_pyIter_slot hT slot_listiter_iter (wpAny_call_entry slot_listiter_iter hT entry_listiter_iter ?_ (args_listiter_iter _))
      show wpAny _ _ (PySem.ret (.ref a)) _ _ s
      exact wpAny_pure ⟨_, rfl, "list_iterator", _, hT, slot_listiter_next.lookup, h⟩
    · refine wpAny_pyIter_slot hT F.slot_range_iterator_iter (wpAny_call_entry F.slot_range_iterator_iter hT F.entry_range_iterator_iter ?_ (F.args_range_iterator_iter_1 _))
      show wpAny _ _ (PySem.ret (.ref a)) _ _ s
      exact wpAny_pure ⟨_, rfl, "range_iterator", _, hT, F.slot_range_iterator_next.lookup, h⟩
    · refine wpAny_pyIter_slot hT F.slot_str_iterator_iter (wpAny_call_entry F.slot_str_iterator_iter hT F.entry_str_iterator_iter ?_ (F.args_str_iterator_iter_1 _))
      show wpAny _ _ (PySem.ret (.ref a)) _ _ s
      exact wpAny_pure ⟨_, rfl, "str_iterator", _, hT, F.slot_str_iterator_next.lookup, h⟩
    · refine wpAny_pyIter_slot hT F.slot_str_ascii_iterator_iter (wpAny_call_entry F.slot_str_ascii_iterator_iter hT F.entry_str_ascii_iterator_iter ?_ (F.args_str_ascii_iterator_iter_1 _))
      show wpAny _ _ (PySem.ret (.ref a)) _ _ s
      exact wpAny_pure ⟨_, rfl, "str_ascii_iterator", _, hT, F.slot_str_ascii_iterator_next.lookup, h⟩
    · refine wpAny_pyIter_slot hT F.slot_tuple_iterator_iter (wpAny_call_entry F.slot_tuple_iterator_iter hT F.entry_tuple_iterator_iter ?_ (F.args_tuple_iterator_iter_1 _))
      show wpAny _ _ (PySem.ret (.ref a)) _ _ s
      exact wpAny_pure ⟨_, rfl, "tuple_iterator", _, hT, F.slot_tuple_iterator_next.lookup, h⟩
  · cases hi
theorem comp_start {e : PySem.Expr} {depth : Nat} {a : Addr} {acc : Value} {env : Env} {κ : Kt} {s : Shared} {o : Obj} (ho : s.heap.get? a = some o) (hi : iterOk o = true) (hp : plainComp e depth = true)
    (hm : Means G A₀ R₀ (.compStart e depth (.ref a) acc env) κ (.pure (.again (.compLoop e depth (.ref a) acc env))) s) : Enters G A₀ R₀ (.compStart e depth (.ref a) acc env) κ s := by
  unfold plainComp at hp
  split at hp
  · rename_i elt gens scope pos
    split at hp
    · cases hp
    · rename_i g rest
      split at hp
      · have hz := of_decide_eq_true hp
        obtain ⟨t,i,f,z⟩ := g
        simp only at hz
        subst hz
        intro Γ p hc hΓ
        have hl := (hm Γ p hc hΓ).2
        exact codeAny_compStart_list hl (pyIter_same ho hi hl) Γ p hc hΓ
      · cases hp
  · cases hp
theorem go_good {h : Heap} {L : Led} {sz tk : Nat} {c : Code} {κ : Kt} {tr : List Ev} {obs : List (Ob × Ob)} (hA : A₀.depth + 100 ≤ recursionLimit) (D : Rep G h₀ H h L sz) :
    (go G.kt G.tab tr c κ L obs).Good G h tk A₀ R₀ c κ obs := by
  have plain : ∀ c tr,(Go.tree (denote treeTable c) tr obs).Good G h tk A₀ R₀ c κ obs := fun c tr hal => ⟨hal,Means.enters⟩
  unfold go
  split
  · rename_i f args
    split
    · rename_i a
      split
      · trivial
      · rename_i ev tr'
        split
        · rename_i e
          split
          · exact plain _ _
          · split
            · split
              · trivial
              · rename_i hb
                split
                · rename_i o ho
                  exact goFn_good hA D fun hal => ⟨hal,D.base.old ho hb⟩
                · trivial
            · split
              · rename_i p hp
                exact goFn_good hA D fun hal => ⟨hal.tail,by rw [hal.addr]; exact D.own' hp⟩
              · trivial
        · trivial
        · trivial
        · trivial
        · trivial
    · exact plain _ _
  · rename_i id args
    split
    · exact plain _ _
    · split
      · exact plain _ _
      · exact plain _ _
      · exact plain _ _
      · trivial
      · rename_i r
        intro hal
        refine ⟨hal.tail,fun hm => ?_⟩
        have hc := hal.code
        refine y_code _ _ _ _ _ _ ?_
        have : denote table (.builtin id args) = r.t := hc ▸ r.ok
        rw [this]; exact hm
  · rename_i e depth it acc env
    split
    · trivial
    · split
      · trivial
      · trivial
      · trivial
      · trivial
      · split
        · exact plain _ _
        · split
          · trivial
          · rename_i p hp
            split
            · split
              · trivial
              · rename_i hi
                split
                · trivial
                · rename_i hpc
                  intro hal
                  refine ⟨hal.tail,fun hm => comp_start (by rw [hal.addr]; exact D.own' hp) hi hpc hm⟩
            · trivial
  · split
    · exact plain _ _
    · split
      · trivial
      · exact plain _ _
theorem run_sound (h0 : A₀.handled = none) (hA : A₀.depth + 100 ≤ recursionLimit) : ∀ (n : Nat) (tr : List Ev) (c : Code) (κ : Kt) (t : Sem PySem.Fin) (L : Led) (sz tk : Nat) (obs : List (Ob × Ob)),
    (run G.kt G.tab G.set n tr c κ t L sz tk obs).Good G h₀ H A₀ R₀ → ∀ h,Rep G h₀ H h L sz → Alike obs ∧ Means G A₀ R₀ c κ t (G.sh h tk) := by
  intro n
  induction n with
  | zero => intro tr c κ t L sz tk obs hg; exact hg.elim
  | succ n ih =>
    intro tr c κ t L sz tk obs hg h D
    cases t with
    | pure fin =>
      cases fin with
      | done f =>
        cases κ with
        | base =>
          cases tr with
          | nil => exact ⟨hg.1,y_pure _ _ _ _ _ _ _ _ _ (hg.2 h D)⟩
          | cons => exact hg.elim
        | ret c₁ hd k κ =>
          have z := ih _ _ _ _ _ _ _ _ hg h D
          exact ⟨z.1,y_pure _ _ _ _ _ _ _ _ _ z.2⟩
      | again c' =>
        simp only [run] at hg
        split at hg
        · exact hg.elim
        · rename_i hq
          have gg := go_good (G := G) (tk := tk) (c := c') (κ := κ) (tr := tr) (obs := obs) (R₀ := R₀) hA D
          split at hg
          · rename_i t' tr' obs' e
            rw [e] at gg
            have z := ih _ _ _ _ _ _ _ _ hg h D
            have y := gg z.1
            exact ⟨y.1,y_pure _ _ _ _ _ _ _ _ _ ⟨hq,y.2 z.2⟩⟩
          · exact ⟨hg.1,y_pure _ _ _ _ _ _ _ _ _ ⟨hq,hg.2 h D⟩⟩
          · exact hg.elim
    | raise e =>
      cases κ with
      | base =>
        cases tr with
        | nil => exact ⟨hg.1,y_raise _ _ _ _ _ _ _ _ _ (hg.2 h D)⟩
        | cons => exact hg.elim
      | ret c₁ hd k κ =>
        have z := ih _ _ _ _ _ _ _ _ hg h D
        exact ⟨z.1,y_raise _ _ _ _ _ _ _ _ _ z.2⟩
    | rule tag k =>
      have z := ih _ _ _ _ _ _ _ _ hg h D
      exact ⟨z.1,y_skim _ _ _ _ _ _ _ _ _ 1 z.2⟩
    | «at» q k =>
      have z := ih _ _ _ _ _ _ _ _ hg h D
      exact ⟨z.1,y_skim _ _ _ _ _ _ _ _ _ 1 z.2⟩
    | point l k =>
      have z := ih _ _ _ _ _ _ _ _ hg h D
      exact ⟨z.1,y_skim _ _ _ _ _ _ _ _ _ 1 z.2⟩
    | ask k =>
      simp only [run] at hg
      split at hg
      · have z := ih _ _ _ _ _ _ _ _ hg h D
        exact ⟨z.1,y_skim _ _ _ _ _ _ _ _ _ 1 z.2⟩
      · split at hg
        · rename_i row
          have z := ih _ _ _ _ _ _ _ _ hg h D
          have e : k G.set = k (followS G.set row true) := by
            have e1 := z.1.tree
            have e2 := follow_self G.set row
            cases hb : G.set.params.followText row with
            | true => rw [hb] at e2; rw [e2]
            | false => rw [hb] at e2; rw [e1,e2]
          refine ⟨z.1.tail,y_skim _ _ _ _ _ _ _ _ _ 1 ?_⟩
          have z2 := z.2
          rw [← e] at z2
          exact z2
        all_goals
          have z := ih _ _ _ _ _ _ _ _ hg h D
          exact ⟨z.1,y_skim _ _ _ _ _ _ _ _ _ 1 z.2⟩
    | load a q k =>
      simp only [run] at hg
      split at hg
      · exact hg.elim
      · split at hg
        · split at hg
          · split at hg
            · exact hg.elim
            · rename_i hb
              split at hg
              · rename_i o ho
                have z := ih _ _ _ _ _ _ _ _ hg h D
                exact ⟨z.1,y_load _ _ _ _ _ _ _ _ _ _ _ _ _ _ _ _ (D.base.old ho hb) z.2⟩
              · exact hg.elim
          · split at hg
            · rename_i p hp
              have z := ih _ _ _ _ _ _ _ _ hg h D
              exact ⟨z.1.tail,y_load _ _ _ _ _ _ _ _ _ _ _ _ _ _ _ _ (by rw [z.1.addr]; exact D.own' hp) z.2⟩
            · exact hg.elim
        · split at hg
          · rename_i p hp
            exact ⟨hg.1.tail,y_load _ _ _ _ _ _ _ _ _ _ _ _ _ _ _ _ (by rw [hg.1.addr]; exact D.own' hp) (hg.2 h D)⟩
          · exact hg.elim
        · exact hg.elim
    | loadIfAlive a k =>
      simp only [run] at hg
      split at hg
      · exact hg.elim
      · split at hg
        · split at hg
          · split at hg
            · exact hg.elim
            · rename_i hb
              split at hg
              · rename_i o ho
                have z := ih _ _ _ _ _ _ _ _ hg h D
                exact ⟨z.1,y_alive _ _ _ _ _ _ _ _ _ _ _ _ _ _ _ (D.base.old ho hb) z.2⟩
              · exact hg.elim
          · split at hg
            · rename_i p hp
              have z := ih _ _ _ _ _ _ _ _ hg h D
              exact ⟨z.1.tail,y_alive _ _ _ _ _ _ _ _ _ _ _ _ _ _ _ (by rw [z.1.addr]; exact D.own' hp) z.2⟩
            · exact hg.elim
        · exact hg.elim
    | alloc o k =>
      simp only [run] at hg
      split at hg
      · exact hg.elim
      · rename_i hf
        have z := ih _ _ _ _ _ _ _ _ hg (h.push o) (D.alloc hf)
        refine ⟨z.1,wpOwn_bind (m := alloc o) (f := k) (wpOwn_of_wpAny (wpAny_alloc ?_))⟩
        rw [D.size]
        exact z.2
    | update a q f k =>
      simp only [run] at hg
      split at hg
      · exact hg.elim
      · split at hg
        · split at hg
          · exact hg.elim
          · split at hg
            · rename_i p hp
              split at hg
              · exact hg.elim
              · rename_i hf
                have z := ih _ _ _ _ _ _ _ _ hg (h.update p.1 f) (D.update hp hf)
                have ha := z.1.addr
                subst ha
                exact ⟨z.1.tail,wpOwn_bind (m := updatePart p.1 q f) (f := k) (wpOwn_of_wpAny (wpAny_updatePart (D.own' hp) z.2))⟩
            · exact hg.elim
        · exact hg.elim
    | fresh k =>
      have z := ih _ _ _ _ _ _ _ _ hg h D
      exact ⟨z.1,y_fresh _ _ _ _ _ _ _ _ _ _ _ _ _ z.2⟩
    | handled own k =>
      cases own with
      | true => exact hg.elim
      | false =>
        have z := ih _ _ _ _ _ _ _ _ hg h D
        refine ⟨z.1,y_handled _ _ _ _ _ _ _ _ _ ?_⟩
        rw [around_hd h0 κ]
        exact z.2
    | call c' hd g l k =>
      simp only [run] at hg
      split at hg
      · exact hg.elim
      · rename_i hq
        have hnb : hd ≠ some byPass := by
          intro e
          subst e
          simp [okMark] at hq
        have gg := go_good (G := G) (tk := tk) (c := c') (κ := .ret c hd k κ) (tr := tr) (obs := obs) (R₀ := R₀) hA D
        split at hg
        · rename_i t' tr' obs' e
          rw [e] at gg
          have z := ih _ _ _ _ _ _ _ _ hg h D
          have y := gg z.1
          exact ⟨y.1,y_call _ _ _ _ _ _ _ _ _ _ _ _ _ hnb (y.2 z.2)⟩
        · exact ⟨hg.1,y_call _ _ _ _ _ _ _ _ _ _ _ _ _ hnb (hg.2 h D)⟩
        · exact hg.elim
    | unsupported => exact hg.elim
    | stack k =>
      simp only [run] at hg
      split at hg
      · exact hg.elim
      · split at hg
        · exact ⟨hg.1,hg.2 h D⟩
        · exact hg.elim
    | finish => exact hg.elim
    | register => exact hg.elim
    | choose => exact hg.elim
    | os => exact hg.elim
    | newGen => exact hg.elim
    | genState => exact hg.elim
    | resume => exact hg.elim
    | yield => exact hg.elim
    | fork => exact hg.elim
    | thread => exact hg.elim
    | await => exact hg.elim
end
end Mine
namespace Mine

/-! ### contracts -/
noncomputable def Own (h : Heap) (L : Led) : Prop := ∀ p ∈ L,h.get? p.1 = some p.2
noncomputable def keys (L : Led) : List Addr := L.map (·.1)
structure Gc.Fine (G : Gc) (s : Shared) : Prop where
  base : G.Base s.heap
  gens : s.gens = #[]
  drawn : s.drawn = G.d
  os : s.os = G.os
theorem Gc.Fine.eq {G : Gc} {s : Shared} (h : G.Fine s) : s = G.sh s.heap s.toks := by
  obtain ⟨hp,g,d,t,os⟩ := s
  obtain ⟨_,hg,hd,ho⟩ := h
  simp only at hg hd ho
  subst hg hd ho
  rfl
structure Keeps (mods : List Addr) (h h' : Heap) : Prop where
  grown : h.objs.size ≤ h'.objs.size
  keep : ∀ b o,h.get? b = some o → b ∉ mods → h'.get? b = some o
noncomputable def Gc.Young (G : Gc) (L : Led) : Prop := ∀ p ∈ L,G.h₁.objs.size ≤ p.1 ∨ p.1 = G.tab

structure Calm (A : Around) (D : Nat) : Prop where
  hd : A.handled = none
  deep : A.depth ≤ D
  units : A.units ≤ 8 * D + 300
noncomputable def Does (G : Gc) (D : Nat) (c : Code) (pre : Led) {α : Type} (ok : α → Prop) (res : α → Result) (post news : α → Led) : Prop :=
  ∀ (A : Around) (R : Result → Shared → Prop) (s : Shared),Calm A D → A.depth ≤ D → G.Fine s → Own s.heap pre → (keys pre).Nodup → G.Young pre →
    (∀ x s',ok x → G.Fine s' → Own s'.heap (post x) → Own s'.heap (news x) → Keeps (keys pre) s.heap s'.heap → (∀ p ∈ news x,s.heap.objs.size ≤ p.1) → (keys (news x)).Nodup → R (res x) s') →
    codeAny (model G.prog G.w) A c R s

noncomputable def lpick1 : Led → Nat → Option ((Addr × Obj) × Led)
  | [],_ => none
  | p :: l,i => match i with
    | 0 => some (p,l)
    | i + 1 => match lpick1 l i with
      | some q => some (q.1,p :: q.2)
      | none => none
noncomputable def lpick : Led → List Nat → Option (Led × Led)
  | L,[] => some ([],L)
  | L,i :: is => match lpick1 L i with
    | some q => match lpick q.2 is with
      | some r => some (q.1 :: r.1,r.2)
      | none => none
    | none => none
theorem lpick1_perm (L : Led) : ∀ (i : Nat) (p : Addr × Obj) (l : Led),lpick1 L i = some (p,l) → (p :: l).Perm L := by
  induction L with
  | nil => intro i p l h; simp [lpick1] at h
  | cons q L ih =>
    intro i p l h
    cases i with
    | zero =>
      simp only [lpick1,Option.some.injEq,Prod.mk.injEq] at h
      rw [h.1,h.2]
    | succ i =>
      simp only [lpick1] at h
      split at h
      · rename_i r e
        simp only [Option.some.injEq,Prod.mk.injEq] at h
        obtain ⟨rfl,rfl⟩ := h
        exact (List.Perm.swap q r.1 r.2).trans ((ih i r.1 r.2 e).cons q)
      · cases h
theorem lpick_perm (is : List Nat) : ∀ (L P l : Led),lpick L is = some (P,l) → (P ++ l).Perm L := by
  induction is with
  | nil =>
    intro L P l h
    simp only [lpick,Option.some.injEq,Prod.mk.injEq] at h
    rw [← h.1,← h.2]; exact List.Perm.refl _
  | cons i is ih =>
    intro L P l h
    simp only [lpick] at h
    split at h
    · rename_i q e
      split at h
      · rename_i r e'
        simp only [Option.some.injEq,Prod.mk.injEq] at h
        obtain ⟨rfl,rfl⟩ := h
        exact ((ih _ _ _ e').cons q.1).trans (lpick1_perm _ _ _ _ e)
      · cases h
    · cases h

section
variable {G : Gc} {h₀ : Heap} {H : List Addr} {h : Heap} {L L' : Led} {sz : Nat}
theorem Rep.perm (D : Rep G h₀ H h L sz) (p : L'.Perm L) : Rep G h₀ H h L' sz :=
  ⟨D.size,D.base,fun q hq => D.own q (p.mem_iff.mp hq),(p.map (·.1)).nodup_iff.mpr D.nodup,fun q hq => D.young q (p.mem_iff.mp hq),D.grown,D.keep,fun q hq => D.mine q (p.mem_iff.mp hq)⟩
theorem Rep.start (hb : G.Base h) (ho : Own h L) (hn : (keys L).Nodup) (hy : G.Young L) : Rep G h (keys L) h L h.objs.size :=
  ⟨rfl,hb,ho,hn,hy,Nat.le_refl _,fun _ _ e _ => e,fun p hp => .inl (List.mem_map_of_mem hp)⟩
theorem Rep.lt (D : Rep G h₀ H h L sz) {p : Addr × Obj} (hp : p ∈ L) : p.1 < sz := D.size ▸ Heap.lt_size (D.own p hp)
theorem Rep.called {h' : Heap} {pre rest post news : Led} (D : Rep G h₀ H h (pre ++ rest) sz) (hb : G.Base h') (hk : keys post = keys pre) (ho : Own h' post) (hn : Own h' news) (hK : Keeps (keys pre) h h')
    (hf : ∀ p ∈ news,h.objs.size ≤ p.1) (hd : (keys news).Nodup) : Rep G h₀ H h' (news ++ (post ++ rest)) h'.objs.size := by
  have nd : (keys pre ++ keys rest).Nodup := by
    have := D.nodup
    rw [List.map_append] at this
    exact this
  have inpre : ∀ p ∈ post,p.1 ∈ keys pre := fun p hp => hk ▸ List.mem_map_of_mem hp
  have old : ∀ p ∈ post,∃ q ∈ pre,q.1 = p.1 := fun p hp => by
    obtain ⟨q,hq,e⟩ := List.mem_map.mp (inpre p hp)
    exact ⟨q,hq,e⟩
  have lt : ∀ p ∈ post ++ rest,p.1 < h.objs.size := by
    intro p hp
    rw [D.size]
    rcases List.mem_append.mp hp with hp | hp
    · obtain ⟨q,hq,e⟩ := old p hp
      rw [← e]
      exact D.lt (List.mem_append.mpr (.inl hq))
    · exact D.lt (List.mem_append.mpr (.inr hp))
  refine ⟨rfl,hb,?_,?_,?_,?_,?_,?_⟩
  · intro p hp
    rcases List.mem_append.mp hp with hp | hp
    · exact hn p hp
    · rcases List.mem_append.mp hp with hp | hp
      · exact ho p hp
      · refine hK.keep _ _ (D.own p (List.mem_append.mpr (.inr hp))) fun hm => ?_
        exact (List.nodup_append.mp nd).2.2 _ hm _ (List.mem_map_of_mem hp) rfl
  · rw [List.map_append,List.map_append]
    refine List.nodup_append.mpr ⟨hd,?_,?_⟩
    · show (keys post ++ keys rest).Nodup
      rw [hk]; exact nd
    · intro a ha b hb' e
      subst e
      obtain ⟨p,hp,e⟩ := List.mem_map.mp ha
      rw [← List.map_append] at hb'
      obtain ⟨q,hq,e'⟩ := List.mem_map.mp hb'
      have h1 := hf p hp
      have h2 := lt q hq
      have e3 : p.1 = q.1 := e.trans e'.symm
      rw [e3] at h1
      exact absurd h2 (Nat.not_lt.mpr h1)
  · intro p hp
    rcases List.mem_append.mp hp with hp | hp
    · exact .inl (Nat.le_trans D.base.big (hf p hp))
    · rcases List.mem_append.mp hp with hp | hp
      · obtain ⟨q,hq,e⟩ := old p hp
        rw [← e]
        exact D.young q (List.mem_append.mpr (.inl hq))
      · exact D.young p (List.mem_append.mpr (.inr hp))
  · have := D.grown; have := D.size; have := hK.grown; omega
  · intro b o e nb
    refine hK.keep b o (D.keep b o e nb) fun hm => ?_
    obtain ⟨q,hq,e'⟩ := List.mem_map.mp hm
    rcases D.mine q (List.mem_append.mpr (.inl hq)) with m | m
    · exact nb (e' ▸ m)
    · rw [e'] at m
      exact absurd (Heap.lt_size e) (Nat.not_lt.mpr m)
  · intro p hp
    rcases List.mem_append.mp hp with hp | hp
    · right
      have := hf p hp
      have := D.grown; have := D.size; omega
    · rcases List.mem_append.mp hp with hp | hp
      · obtain ⟨q,hq,e⟩ := old p hp
        rw [← e]
        exact D.mine q (List.mem_append.mpr (.inl hq))
      · exact D.mine p (List.mem_append.mpr (.inr hp))
end

noncomputable def Out.st : Out → St
  | .ret _ s => s
  | .stop _ _ _ s => s
  | .mid _ _ _ _ s => s
  | .bad .. => ⟨[],0,0,[]⟩
  | .badW .. => ⟨[],0,0,[]⟩
noncomputable def Out.obsL (o : Out) : List Ob := o.st.obs.map (·.1)
noncomputable def Out.obsR (o : Out) : List Ob := o.st.obs.map (·.2)
noncomputable def Out.ret? (o : Out) (idx : List Nat) : Option (Result × Led) := match o with
  | .ret r s => match lpick s.led idx with
    | some q => some (r,q.1)
    | none => none
  | _ => none
noncomputable def Out.kt : Out → Kt
  | .stop _ κ _ _ => κ
  | _ => .base
noncomputable def Out.tr : Out → List Ev
  | .stop _ _ tr _ => tr
  | _ => []
noncomputable def Out.rest (o : Out) (idx : List Nat) : Led := match lpick o.st.led idx with
  | some q => q.2
  | none => []
noncomputable def Out.stop? (o : Out) (idx : List Nat) : Option (Code × Led × Option Value × Bool) := match o with
  | .stop c κ _ s => match lpick s.led idx with
    | some q => some (c,q.1,κ.hd,Nat.ble κ.depth 50 && Nat.ble κ.units 400)
    | none => none
  | _ => none
noncomputable def cont (kt : KT) (tab : Addr) (set : Setting) (n : Nat) (out : Out) (idx : List Nat) (r : Result) (top : Led) (sz tk : Nat) : Out := match out with
  | .stop _ κ tr s => match lpick s.led idx with
    | some q => resume kt tab set n tr κ r (top ++ q.2) sz tk
    | none => .bad 21 0
  | .ret .. => .bad 22 0
  | .mid .. => .bad 22 0
  | .bad .. => .bad 23 0
  | .badW .. => .bad 24 0
noncomputable def Out.tail? (o : Out) (idx : List Nat) : Option (Code × Led) := match o with
  | .stop c κ tr s => match κ with
    | .base => match tr with
      | [] => match lpick s.led idx with
        | some q => some (c,q.1)
        | none => none
      | _ :: _ => none
    | .ret .. => none
  | _ => none
noncomputable def contB (out : Out) (idx : List Nat) (r : Result) (top : Led) (sz tk : Nat) : Out := match out with
  | .stop _ _ _ s => match lpick s.led idx with
    | some q => .ret r ⟨top ++ q.2,sz,tk,[]⟩
    | none => .bad 25 0
  | .ret .. => .bad 26 0
  | .mid .. => .bad 26 0
  | .bad .. => .bad 27 0
  | .badW .. => .bad 28 0
theorem alike_of {o : Out} (h : o.obsL = o.obsR) : Alike o.st.obs := fun p hp => List.map_inj_left.mp h p hp

section
variable {G : Gc} {h₀ : Heap} {H : List Addr} {A₀ : Around} {R₀ : Result → Shared → Prop}
theorem Enters.of_start {n : Nat} {tr : List Ev} {c : Code} {L : Led} {h : Heap} {sz tk : Nat} (h0 : A₀.handled = none) (hA : A₀.depth + 100 ≤ recursionLimit)
    (hg : (startCode G.kt G.tab G.set n tr c L sz tk).Good G h₀ H A₀ R₀) (D : Rep G h₀ H h L sz) : codeAny (model G.prog G.w) A₀ c R₀ (G.sh h tk) := by
  unfold startCode at hg
  have gg := go_good (G := G) (tk := tk) (c := c) (κ := .base) (tr := tr) (obs := []) (R₀ := R₀) hA D
  split at hg
  · rename_i t tr' obs e
    rw [e] at gg
    have z := run_sound h0 hA _ _ _ _ _ _ _ _ _ hg h D
    exact (gg z.1).2 z.2
  · exact hg.elim
  · exact hg.elim
theorem ret_good {α : Type} {pre : Led} {ok : α → Prop} {res : α → Result} {post news : α → Led} {out : Out} (x : α) (idx : List Nat) (hx : ok x)
    (hfin : ∀ x s',ok x → G.Fine s' → Own s'.heap (post x) → Own s'.heap (news x) → Keeps (keys pre) h₀ s'.heap → (∀ p ∈ news x,h₀.objs.size ≤ p.1) → (keys (news x)).Nodup → R₀ (res x) s')
    (hk : keys (post x) = keys pre)
    (h1 : out.obsL = out.obsR := by kernel_rfl) (h2 : out.ret? idx = some (res x,post x ++ news x) := by kernel_rfl) : out.Good G h₀ (keys pre) A₀ R₀ := by
  cases out with
  | ret r st =>
    refine ⟨alike_of h1,fun h D => ?_⟩
    simp only [Out.ret?] at h2
    split at h2
    · rename_i q e
      simp only [Option.some.injEq,Prod.mk.injEq] at h2
      obtain ⟨rfl,e2⟩ := h2
      have pm := lpick_perm _ _ _ _ e
      rw [e2] at pm
      have D' := D.perm pm
      have nd := D'.nodup
      rw [List.map_append,List.map_append] at nd
      have nd1 := (List.nodup_append.mp nd).1
      refine hfin x (G.sh h st.tk) hx ⟨D.base,rfl,rfl,rfl⟩ (fun p hp => D'.own p (List.mem_append.mpr (.inl (List.mem_append.mpr (.inl hp))))) (fun p hp => D'.own p (List.mem_append.mpr (.inl (List.mem_append.mpr (.inr hp))))) ⟨?_,D.keep⟩ (fun p hp => ?_) (List.nodup_append.mp nd1).2.1
      · show _ ≤ h.objs.size
        rw [D.size]; exact D.grown
      · rcases D'.mine p (List.mem_append.mpr (.inl (List.mem_append.mpr (.inr hp)))) with m | m
        · rw [← hk] at m
          exact absurd rfl ((List.nodup_append.mp nd1).2.2 _ m _ (List.mem_map_of_mem hp))
        · exact m
    · cases h2
  | stop => cases h2
  | mid => cases h2
  | bad => cases h2
  | badW => cases h2
theorem stop_good {α : Type} {D n : Nat} {c : Code} {pre : Led} {ok : α → Prop} {res : α → Result} {post news : α → Led} {out : Out} {D₀ : Nat} (h0 : Calm A₀ D₀) (hA : A₀.depth + 100 ≤ recursionLimit) (idx : List Nat)
    (does : Does G D c pre ok res post news) (hD : D₀ + 50 ≤ D)
    (h1 : out.obsL = out.obsR) (h2 : out.stop? idx = some (c,pre,none,true)) (hk : ∀ x,keys (post x) = keys pre)
    (next : ∀ x sz tk,ok x → (cont G.kt G.tab G.set n out idx (res x) (news x ++ post x) sz tk).Good G h₀ H A₀ R₀) : out.Good G h₀ H A₀ R₀ := by
  cases out with
  | ret => cases h2
  | bad => cases h2
  | badW => cases h2
  | mid => cases h2
  | stop c' κ tr st =>
    refine ⟨alike_of h1,fun h Dh => ?_⟩
    simp only [Out.stop?] at h2
    split at h2
    · rename_i q e
      simp only [Option.some.injEq,Prod.mk.injEq] at h2
      obtain ⟨rfl,e2,e3,e4⟩ := h2
      have pm := lpick_perm _ _ _ _ e
      have Dh' := Dh.perm pm
      rw [e2] at Dh'
      refine does (around A₀ κ) _ (G.sh h st.tk) ?_ ?_ ⟨Dh.base,rfl,rfl,rfl⟩ (fun p hp => Dh'.own p (List.mem_append.mpr (.inl hp))) ?_ (fun p hp => Dh'.young p (List.mem_append.mpr (.inl hp))) fun x s' hx hf ho hn hK hfr hnd => ?_
      · have e5 := Bool.and_eq_true_iff.mp e4
        have e6 := Nat.le_of_ble_eq_true e5.1
        have e7 := Nat.le_of_ble_eq_true e5.2
        have := h0.deep
        have := h0.units
        exact ⟨by rw [around_hd h0.hd,e3],by rw [around_depth]; omega,by rw [around_units]; omega⟩
      · rw [around_depth]; have := Nat.le_of_ble_eq_true (Bool.and_eq_true_iff.mp e4).1; have := h0.deep; omega
      · have := Dh'.nodup
        rw [List.map_append] at this
        exact (List.nodup_append.mp this).1
      · have nx := next x s'.heap.objs.size s'.toks hx
        simp only [cont,e,List.append_assoc] at nx
        have D2 := Dh'.called hf.base (hk x) ho hn hK hfr hnd
        cases κ with
        | base => exact nx.elim
        | ret c₁ hd k κ =>
          have z := run_sound h0.hd hA _ _ _ _ _ _ _ _ _ nx s'.heap D2
          show Means G A₀ R₀ c₁ κ (k (res x)) s'
          rw [hf.eq]
          exact z.2
    · cases h2
theorem tail_good {α : Type} {D : Nat} {c : Code} {pre : Led} {ok : α → Prop} {res : α → Result} {post news : α → Led} {out : Out} (h0 : Calm A₀ D) (idx : List Nat)
    (does : Does G D c pre ok res post news) (hD : A₀.depth ≤ D)
    (h1 : out.obsL = out.obsR) (h2 : out.tail? idx = some (c,pre)) (hk : ∀ x,keys (post x) = keys pre)
    (next : ∀ x sz tk,ok x → (contB out idx (res x) (news x ++ post x) sz tk).Good G h₀ H A₀ R₀) : out.Good G h₀ H A₀ R₀ := by
  cases out with
  | ret => cases h2
  | bad => cases h2
  | badW => cases h2
  | mid => cases h2
  | stop c' κ tr st =>
    refine ⟨alike_of h1,fun h Dh => ?_⟩
    simp only [Out.tail?] at h2
    split at h2
    · split at h2
      · split at h2
        · rename_i q e
          simp only [Option.some.injEq,Prod.mk.injEq] at h2
          obtain ⟨rfl,e2⟩ := h2
          have pm := lpick_perm _ _ _ _ e
          have Dh' := Dh.perm pm
          rw [e2] at Dh'
          refine does (around A₀ .base) _ (G.sh h st.tk) ?_ ?_ ⟨Dh.base,rfl,rfl,rfl⟩ (fun p hp => Dh'.own p (List.mem_append.mpr (.inl hp))) ?_ (fun p hp => Dh'.young p (List.mem_append.mpr (.inl hp))) fun x s' hx hf ho hn hK hfr hnd => ?_
          · exact h0
          · rw [around_depth]; simpa [Kt.depth] using hD
          · have := Dh'.nodup
            rw [List.map_append] at this
            exact (List.nodup_append.mp this).1
          · have nx := next x s'.heap.objs.size s'.toks hx
            simp only [contB,e,List.append_assoc] at nx
            have D2 := Dh'.called hf.base (hk x) ho hn hK hfr hnd
            have z := nx.2 s'.heap D2
            show R₀ (res x) s'
            rw [hf.eq]
            exact z
        · cases h2
      · cases h2
    · cases h2
theorem tail_same {α : Type} {D : Nat} {c : Code} {pre pre' : Led} {ok : α → Prop} {res : α → Result} {post news : α → Led} {out : Out} (h0 : Calm A₀ D) (idx : List Nat)
    (does : Does G D c pre' ok res post news) (hD : A₀.depth ≤ D)
    (h1 : out.obsL = out.obsR) (h2 : out.tail? idx = some (c,pre'))
    (hfin : ∀ x s',ok x → G.Fine s' → Own s'.heap (post x) → Own s'.heap (news x) → Keeps (keys pre) h₀ s'.heap → (∀ p ∈ news x,h₀.objs.size ≤ p.1) → (keys (news x)).Nodup → R₀ (res x) s') :
    out.Good G h₀ (keys pre) A₀ R₀ := by
  cases out with
  | ret => cases h2
  | bad => cases h2
  | badW => cases h2
  | mid => cases h2
  | stop c' κ tr st =>
    refine ⟨alike_of h1,fun h Dh => ?_⟩
    simp only [Out.tail?] at h2
    split at h2
    · split at h2
      · split at h2
        · rename_i q e
          simp only [Option.some.injEq,Prod.mk.injEq] at h2
          obtain ⟨rfl,e2⟩ := h2
          have pm := lpick_perm _ _ _ _ e
          have Dh' := Dh.perm pm
          rw [e2] at Dh'
          refine does (around A₀ .base) _ (G.sh h st.tk) ?_ ?_ ⟨Dh.base,rfl,rfl,rfl⟩ (fun p hp => Dh'.own p (List.mem_append.mpr (.inl hp))) ?_ (fun p hp => Dh'.young p (List.mem_append.mpr (.inl hp))) fun x s' hx hf ho hn hK hfr hnd => ?_
          · exact h0
          · rw [around_depth]; simpa [Kt.depth] using hD
          · have := Dh'.nodup
            rw [List.map_append] at this
            exact (List.nodup_append.mp this).1
          · have hsz : h₀.objs.size ≤ h.objs.size := by rw [Dh.size]; exact Dh.grown
            refine hfin x s' hx hf ho hn ⟨Nat.le_trans hsz hK.grown,fun b o eb nb => ?_⟩ (fun p hp => Nat.le_trans hsz (hfr p hp)) hnd
            refine hK.keep b o (Dh.keep b o eb nb) fun hm => ?_
            obtain ⟨p,hp,ep⟩ := List.mem_map.mp hm
            rcases Dh'.mine p (List.mem_append.mpr (.inl hp)) with m | m
            · exact nb (ep ▸ m)
            · rw [ep] at m
              exact absurd (Heap.lt_size eb) (Nat.not_lt.mpr m)
        · cases h2
      · cases h2
    · cases h2
noncomputable def Out.midT : Out → Sem PySem.Fin
  | .mid _ _ t _ _ => t
  | _ => .unsupported ""
noncomputable def Out.isMid : Out → Bool
  | .mid .. => true
  | _ => false
theorem mid_good {D n : Nat} {out : Out} (h0 : Calm A₀ D) (hA : A₀.depth + 100 ≤ recursionLimit) (t : Sem PySem.Fin) (tr : List Ev) (h1 : out.obsL = out.obsR) (h2 : out.isMid = true) (heq : out.midT = t)
    (next : (contM G.kt G.tab G.set n out t tr).Good G h₀ H A₀ R₀) : out.Good G h₀ H A₀ R₀ := by
  cases out with
  | ret => cases h2
  | bad => cases h2
  | badW => cases h2
  | stop => cases h2
  | mid c κ t' tr' st =>
    refine ⟨alike_of h1,fun h Dh => ?_⟩
    have z := run_sound h0.hd hA _ _ _ _ _ _ _ _ _ next h Dh
    simp only [Out.midT] at heq
    rw [heq]
    exact z.2
noncomputable def Kt.small (κ : Kt) (c : Code) : Bool := Nat.ble (κ.units + c.cUnits) 1000
noncomputable def Out.small : Out → Bool
  | .mid c κ _ _ _ => κ.small c
  | _ => false
theorem room_good {D n : Nat} {out : Out} (h0 : Calm A₀ D) (hA : A₀.depth + 100 ≤ recursionLimit) (hD : 8 * D + 1300 < cLine) (k : List (Code × Pos) → Sem PySem.Fin) (t : Sem PySem.Fin) (tr : List Ev) (h1 : out.obsL = out.obsR) (h2 : out.small = true) (heq : out.midT = .stack k)
    (hk : ∀ acts : List (Code × Pos),¬ (acts.map (·.1.cUnits)).sum ≥ cLine → k acts = t)
    (next : (contM G.kt G.tab G.set n out t tr).Good G h₀ H A₀ R₀) : out.Good G h₀ H A₀ R₀ := by
  cases out with
  | ret => cases h2
  | bad => cases h2
  | badW => cases h2
  | stop => cases h2
  | mid c κ t' tr' st =>
    refine ⟨alike_of h1,fun h Dh => ?_⟩
    have z := run_sound h0.hd hA _ _ _ _ _ _ _ _ _ next h Dh
    simp only [Out.midT] at heq
    rw [heq]
    refine y_stack _ _ _ _ _ _ _ _ _ fun p below l => ?_
    rw [hk _ ?_]
    · exact z.2
    · have h3 := Nat.le_of_ble_eq_true h2
      have h4 : ((around A₀ κ).under c).units = A₀.units + κ.units + c.cUnits := by
        show (around A₀ κ).units + c.cUnits = _
        rw [around_units]
      have := h0.units
      have h5 := l.units
      rw [h4] at h5
      omega
theorem does_of {α : Type} {D n : Nat} {tr : List Ev} {c : Code} {pre : Led} {ok : α → Prop} {res : α → Result} {post news : α → Led} (hD : D + 100 ≤ recursionLimit)
    (walk : ∀ (A₀ : Around) (R₀ : Result → Shared → Prop) (h₀ : Heap) (sz tk : Nat),Calm A₀ D → A₀.depth ≤ D → A₀.depth + 100 ≤ recursionLimit →
      (∀ x s',ok x → G.Fine s' → Own s'.heap (post x) → Own s'.heap (news x) → Keeps (keys pre) h₀ s'.heap → (∀ p ∈ news x,h₀.objs.size ≤ p.1) → (keys (news x)).Nodup → R₀ (res x) s') →
      (startCode G.kt G.tab G.set n tr c pre sz tk).Good G h₀ (keys pre) A₀ R₀) : Does G D c pre ok res post news := by
  intro A R s h0 hd hf ho hn hy hfin
  rw [hf.eq]
  have hA : A.depth + 100 ≤ recursionLimit := by omega
  exact Enters.of_start h0.hd hA (walk A R s.heap s.heap.objs.size s.toks h0 hd hA hfin) (Rep.start hf.base ho hn hy)
end
end Mine
end
section
open PySem PySem.W PySem.W.X PyProof.Rows PySem.Spec PySem.Calls
set_option genInjectivity false
set_option genCtorIdx false
set_option backward.match.sparseCases false
set_option maxHeartbeats 0
namespace Mine

noncomputable def kt (w : World) : KT := Mine.hd.ktop_670 w.params
noncomputable def sett (w : World) : Setting := ⟨PySem.Challenge.rw_ti0065_01.row.prog,w.params⟩
lay_quick startCode cont contM
noncomputable abbrev settY := @sett
theorem settY_eq : @sett = settY := rfl
noncomputable abbrev startY := PySem.W.Fast.tw13975275536868320984
theorem startY_eq : @startCode = startY := PySem.W.Fast.te13975275536868320984
noncomputable abbrev contY := PySem.W.Fast.tw11683840887183146591
theorem contY_eq : @cont = contY := PySem.W.Fast.te11683840887183146591
noncomputable abbrev contMY := PySem.W.Fast.tw16951814746116056273
theorem contMY_eq : @contM = contMY := PySem.W.Fast.te16951814746116056273
end Mine
end
section
open PySem PySem.W PySem.W.X PyProof.Rows PySem.Spec PySem.Calls
set_option genInjectivity false
set_option genCtorIdx false
set_option backward.match.sparseCases false
namespace Mine
noncomputable def evN (n : Nat) : Ev := match n with
  | 1000 => .ask "for-iterable-display-folded"
  | 1001 => .ask "special-get-raises"
  | 1002 => .ask "comprehension-iter-twice"
  | n => .n n
noncomputable def tn : List Nat → List Ev → List Ev
  | [],l => l
  | n :: ns,l => evN n :: tn ns l
noncomputable def ts (a : List Nat) (l : List Ev) : List Ev := tn a (.stop :: l)
noncomputable def iob (c d : Addr) : Obj := { cls := .ref c,dict := some d }
noncomputable def lob (xs : List Value) (n : Nat) : Obj := { cls := .type "list", data := .seq ⟨xs⟩ n }
noncomputable def sOf (s : List Nat) : Str := ⟨⟨s⟩⟩
noncomputable def ent (hh : Nat → Int) (tt : Nat → Tok) (k : Nat) (s : List Nat) (v : Value) : DictEntry := ⟨hh k,.str (sOf s) (tt k),v⟩
noncomputable def retV (v : Value) : Result := .ok (.ret v)

structure Env0 where

  w : World
  h₁ : Heap
  d : Drawn
  os : OsState
  ok : (kt w).Holds h₁ 1 0
noncomputable def Env0.G (e : Env0) : Gc := ⟨PySem.Challenge.rw_ti0065_01.row.prog,e.w,kt e.w,312,e.h₁,e.d,e.os,e.ok⟩
theorem set_is (e : Env0) : e.G.set = settY e.w := by
  rw [← settY_eq]; rfl

section
variable {e : Env0}
theorem start_good {n : Nat} {tr : List Ev} {c : Code} {L : Led} {sz tk : Nat} {h₀ : Heap} {H : List Addr} {A₀ : Around} {R₀ : Result → Shared → Prop}
    (h : (startY (kt e.w) 312 (settY e.w) n tr c L sz tk).Good e.G h₀ H A₀ R₀) : (startCode e.G.kt e.G.tab e.G.set n tr c L sz tk).Good e.G h₀ H A₀ R₀ := by
  rw [set_is,startY_eq]; exact h
theorem cont_good {n : Nat} {out : Out} {idx : List Nat} {r : Result} {L : Led} {sz tk : Nat} {h₀ : Heap} {H : List Addr} {A₀ : Around} {R₀ : Result → Shared → Prop}
    (h : (contY (kt e.w) 312 (settY e.w) n out idx r L sz tk).Good e.G h₀ H A₀ R₀) : (cont e.G.kt e.G.tab e.G.set n out idx r L sz tk).Good e.G h₀ H A₀ R₀ := by
  rw [set_is,contY_eq]; exact h
end
noncomputable def fuel : Nat := 1000000
noncomputable def stepF (e : Env0) (out : Out) (idx : List Nat) {α : Type} (res : α → Result) (post news : α → Led) (x : α) (sz tk : Nat) : Out := contY (kt e.w) 312 (settY e.w) fuel out idx (res x) (news x ++ post x) sz tk

section
variable {e : Env0} {h₀ : Heap} {H : List Addr} {A₀ : Around} {R₀ : Result → Shared → Prop}
theorem meet {α : Type} {D : Nat} {c : Code} {pre : Led} {ok : α → Prop} {res : α → Result} {post news : α → Led} {out : Out} {D₀ : Nat} (h0 : Calm A₀ D₀) (hA : A₀.depth + 100 ≤ recursionLimit) (idx : List Nat)
    (does : Does e.G D c pre ok res post news) (hD : D₀ + 50 ≤ D)
    (h1 : out.obsL = out.obsR) (h2 : out.stop? idx = some (c,pre,none,true)) (hk : ∀ x,keys (post x) = keys pre)
    (next : let F := stepF e out idx res post news; ∀ x sz tk,ok x → (F x sz tk).Good e.G h₀ H A₀ R₀) : out.Good e.G h₀ H A₀ R₀ :=
  stop_good h0 hA idx does hD h1 h2 hk fun x sz tk hx => cont_good (next x sz tk hx)
noncomputable def okL {α : Type} (o : Out) (idx : List Nat) (post : α → Led) := (o.obsL,o.stop? idx,fun x => keys (post x))
abbrev MeetOk {α : Type} (o : Out) (idx : List Nat) (c : Code) (pre : Led) (post : α → Led) : Prop := okL o idx post = (o.obsR,some (c,pre,none,true),fun _ => keys pre)
abbrev Meeter (e : Env0) (D : Nat) (gd : Out → Prop) : Prop := ∀ {α : Type} {c : Code} {pre : Led} {ok : α → Prop} {res : α → Result} {post news : α → Led} {out : Out} (idx : List Nat)
    (_ : Does e.G (D + 50) c pre ok res post news)
    (_ : let F := stepF e out idx res post news; ∀ x sz tk,ok x → gd (F x sz tk))
    (_ : MeetOk out idx c pre post := by kernel_rfl),gd out
theorem meeter {D : Nat} (h0 : Calm A₀ D) (hA : A₀.depth + 100 ≤ recursionLimit) : Meeter e D (fun o => o.Good e.G h₀ H A₀ R₀) := by
  intro α c pre ok res post news out idx does next h
  exact meet h0 hA idx does (Nat.le_refl _) (congrArg Prod.fst h) (congrArg (fun x => x.2.1) h) (fun x => congrFun (congrArg (fun x => x.2.2) h) x) next
theorem walk {α : Type} {D : Nat} {c : Code} {pre : Led} {ok : α → Prop} {res : α → Result} {post news : α → Led} (tr : List Ev) (hD : D + 100 ≤ recursionLimit)
    (go : ∀ (A₀ : Around) (R₀ : Result → Shared → Prop) (h₀ : Heap) (sz tk : Nat),Calm A₀ D → A₀.depth ≤ D → A₀.depth + 100 ≤ recursionLimit →
      (∀ x s',ok x → e.G.Fine s' → Own s'.heap (post x) → Own s'.heap (news x) → Keeps (keys pre) h₀ s'.heap → (∀ p ∈ news x,h₀.objs.size ≤ p.1) → (keys (news x)).Nodup → R₀ (res x) s') →
      let gd := fun o : Out => o.Good e.G h₀ (keys pre) A₀ R₀; Meeter e D gd → let o := startY (kt e.w) 312 (settY e.w) fuel tr c pre sz tk; gd o) : Does e.G D c pre ok res post news :=
  does_of hD fun A₀ R₀ h₀ sz tk a b c d => start_good (go A₀ R₀ h₀ sz tk a b c d (@meeter e h₀ (keys pre) A₀ R₀ D a c))
end

theorem tail {h₀ : Heap} {H : List Addr} {e : Env0} {A₀ : Around} {R₀ : Result → Shared → Prop} {α : Type} {D : Nat} {c : Code} {pre : Led} {ok : α → Prop} {res : α → Result} {post news : α → Led} {out : Out} (h0 : Calm A₀ D) (idx : List Nat)
    (does : Does e.G D c pre ok res post news) (hD : A₀.depth ≤ D)
    (h1 : out.obsL = out.obsR) (h2 : out.tail? idx = some (c,pre)) (hk : ∀ x,keys (post x) = keys pre)
    (next : ∀ x sz tk,ok x → (contB out idx (res x) (news x ++ post x) sz tk).Good e.G h₀ H A₀ R₀) : out.Good e.G h₀ H A₀ R₀ :=
  tail_good h0 idx does hD h1 h2 hk next
section
variable {e : Env0} {h₀ : Heap} {H : List Addr} {A₀ : Around} {R₀ : Result → Shared → Prop}
theorem mid {D : Nat} {out : Out} (h0 : Calm A₀ D) (hA : A₀.depth + 100 ≤ recursionLimit) (t : Sem PySem.Fin) (tr : List Ev) (h1 : out.obsL = out.obsR) (h2 : out.isMid = true) (heq : out.midT = t)
    (next : let o := contMY (kt e.w) 312 (settY e.w) fuel out t tr; o.Good e.G h₀ H A₀ R₀) : out.Good e.G h₀ H A₀ R₀ :=
  mid_good h0 hA t tr h1 h2 heq (by rw [set_is,contMY_eq]; exact next)
theorem room {D : Nat} {out : Out} (h0 : Calm A₀ D) (hA : A₀.depth + 100 ≤ recursionLimit) (hD : 8 * D + 1300 < cLine) (k : List (Code × Pos) → Sem PySem.Fin) (t : Sem PySem.Fin) (tr : List Ev) (h1 : out.obsL = out.obsR) (h2 : out.small = true) (heq : out.midT = .stack k)
    (hk : ∀ acts : List (Code × Pos),¬ (acts.map (·.1.cUnits)).sum ≥ cLine → k acts = t)
    (next : let o := contMY (kt e.w) 312 (settY e.w) fuel out t tr; o.Good e.G h₀ H A₀ R₀) : out.Good e.G h₀ H A₀ R₀ :=
  room_good h0 hA hD k t tr h1 h2 heq hk (by rw [set_is,contMY_eq]; exact next)
end
theorem does_of_meets {G : Gc} {D : Nat} {id : String} {args : Args} {B : Builtin} {S : Around → (Result → Shared → Prop) → Shared → Prop} {α : Type} {pre : Led} {ok : α → Prop} {res : α → Result} {post news : α → Led} (hp : plainId id = true) (he : entryFor table id = some B) (m : Meets (B args) S)
    (hS : ∀ (A : Around) (R : Result → Shared → Prop) (s : Shared),G.Fine s → Own s.heap pre → (keys pre).Nodup → G.Young pre →
      (∀ x s',ok x → G.Fine s' → Own s'.heap (post x) → Own s'.heap (news x) → Keeps (keys pre) s.heap s'.heap → (∀ p ∈ news x,s.heap.objs.size ≤ p.1) → (keys (news x)).Nodup → R (res x) s') → S A R s) :
    Does G D (.builtin id args) pre ok res post news := by
  intro A R s _ _ hf ho hn hy hfin
  refine codeAny_builtin he ?_
  rw [Around.under_plainId hp args]
  exact m _ _ _ _ _ (hS A R s hf ho hn hy hfin)
theorem Gc.Base.set {G : Gc} {h : Heap} {a : Addr} {f : Obj → Obj} (D : G.Base h) (hy : G.h₁.objs.size ≤ a ∨ a = G.tab) : G.Base (h.update a f) := by
  have hs : Heap.SameBut a h (h.update a f) := Heap.SameBut.update ..
  refine ⟨fun b o' eb nb => (hs.2 b ?_).trans (D.keep b o' eb nb),by rw [hs.1]; exact D.big,D.tab⟩
  intro hb
  subst hb
  rcases hy with y | y
  · exact absurd (Heap.lt_size eb) (Nat.not_lt.mpr y)
  · exact nb y
theorem own_one {h : Heap} {a : Addr} {o : Obj} : Own h [(a,o)] ↔ h.get? a = some o := by
  constructor
  · intro x; exact x _ (List.mem_singleton.mpr rfl)
  · intro x p hp; rw [List.mem_singleton.mp hp]; exact x
theorem own_nil {h : Heap} : Own h [] := fun _ hp => nomatch hp
theorem keeps_update {h : Heap} {a : Addr} {f : Obj → Obj} : Keeps [a] h (h.update a f) := by
  have hs : Heap.SameBut a h (h.update a f) := Heap.SameBut.update ..
  exact ⟨Nat.le_of_eq hs.1.symm,fun b o e nb => (hs.2 b (fun x => nb (by rw [x]; exact List.mem_singleton.mpr rfl))).trans e⟩
theorem fine_update {G : Gc} {s : Shared} {a : Addr} {f : Obj → Obj} {tk : Nat} (hf : G.Fine s) (hy : G.Young [(a,(default : Obj))]) : G.Fine { s with heap := s.heap.update a f,toks := tk } :=
  ⟨hf.base.set (hy _ (List.mem_singleton.mpr rfl)),hf.gens,hf.drawn,hf.os⟩

theorem append_does {G : Gc} {D : Nat} {l : Addr} {xs : List Value} {n : Nat} {v : Value} (hn : xs.length ≤ sizeLine) :
    Does G D (.builtin "list.append" ⟨[.ref l, v], []⟩) [(l, lob xs n)] (fun _ : Unit => True) (fun _ => retV .none) (fun _ => [(l, lob (xs ++ [v]) (n + 1))]) (fun _ => []) := by
  refine does_of_meets (by decide +kernel) PySem.entry_list_append (PySem.AutoListH.list_append_list_val_0 l ⟨xs⟩ n v hn) ?_
  intro A R s hf ho hd hy hfin
  have ho' := own_one.mp ho
  refine ⟨ho',?_⟩
  refine hfin () _ trivial (fine_update hf fun p hp => by rw [List.mem_singleton.mp hp]; exact hy (l,lob xs n) (List.mem_singleton.mpr rfl)) (own_one.mpr ?_) own_nil keeps_update (fun _ hp => nomatch hp) List.nodup_nil
  have : Obj.mapSeq (fun x_1 => x_1.push v) (lob xs n) = lob (xs ++ [v]) (n + 1) := by
    simp [Obj.mapSeq,lob]
  rw [← this]
  exact Heap.get?_update_self _ ho' (by rw [this]; rfl)

/-! ### builtins that give a value -/
theorem val_does {G : Gc} {D : Nat} {id : String} {args : Args} {B : Builtin} {v : Value} (hp : plainId id = true) (he : entryFor table id = some B) (g : Gives (B args) (.val v)) :
    Does G D (.builtin id args) [] (fun _ : Unit => True) (fun _ => retV v) (fun _ => []) (fun _ => []) := by
  refine does_of_meets hp he g.meets ?_
  intro A R s hf ho hd hy hfin
  exact hfin () s trivial hf own_nil own_nil ⟨Nat.le_refl _,fun _ _ e _ => e⟩ (fun _ hp => nomatch hp) List.nodup_nil
theorem str_does {G : Gc} {D : Nat} {id : String} {args : Args} {B : Builtin} {x : Str} (hp : plainId id = true) (he : entryFor table id = some B) (g : Gives (B args) (.str x)) (hx : x.length ≤ sizeLine) :
    Does G D (.builtin id args) [] (fun _ : Tok => True) (fun k => retV (.str x k)) (fun _ => []) (fun _ => []) := by
  refine does_of_meets hp he g.meets ?_
  intro A R s hf ho hd hy hfin
  exact ⟨hx,hfin s.toks _ trivial ⟨hf.base,hf.gens,hf.drawn,hf.os⟩ own_nil own_nil ⟨Nat.le_refl _,fun _ _ e _ => e⟩ (fun _ hp => nomatch hp) List.nodup_nil⟩
theorem int_does {G : Gc} {D : Nat} {id : String} {args : Args} {B : Builtin} {i : Int} (hp : plainId id = true) (he : entryFor table id = some B) (g : Gives (B args) (.int i)) :
    Does G D (.builtin id args) [] (fun _ : Tok => True) (fun k => retV (.int i k)) (fun _ => []) (fun _ => []) := by
  refine does_of_meets hp he g.meets ?_
  intro A R s hf ho hd hy hfin
  exact hfin s.toks _ trivial ⟨hf.base,hf.gens,hf.drawn,hf.os⟩ own_nil own_nil ⟨Nat.le_refl _,fun _ _ e _ => e⟩ (fun _ hp => nomatch hp) List.nodup_nil
theorem lower_does {G : Gc} {D : Nat} {x : Str} {t : Tok} (h : Builtin.Str.tooLong (Txt.lower x).length = false) :
    Does G D (.builtin "str.lower" ⟨[.str x t], []⟩) [] (fun _ : Tok => True) (fun k => retV (.str (Txt.lower x) k)) (fun _ => []) (fun _ => []) :=
  str_does (by decide +kernel) F.entry_str_lower (gives_str_lower x t h) (fit_le h)
noncomputable def same (x y : Str) : Bool := x.cps.toList == y.cps.toList
theorem same_iff {x y : Str} : same x y = true ↔ x = y := by
  unfold same
  constructor
  · intro h
    have h := eq_of_beq h
    obtain ⟨⟨x⟩⟩ := x
    obtain ⟨⟨y⟩⟩ := y
    simpa using h
  · rintro rfl; simp
theorem str_eq_does {G : Gc} {D : Nat} {x y : Str} {t u : Tok} {b : Bool} (h : same x y = b) :
    Does G D (.builtin "str.__eq__" ⟨[.str x t, .str y u], []⟩) [] (fun _ : Unit => True) (fun _ => retV (.bool b)) (fun _ => []) (fun _ => []) :=
  val_does (by decide +kernel) F.entry_str_eq (h ▸ gives_str_eq x y t u)
theorem str_ne_does {G : Gc} {D : Nat} {x y : Str} {t u : Tok} {b : Bool} (h : same x y = b) :
    Does G D (.builtin "str.__ne__" ⟨[.str x t, .str y u], []⟩) [] (fun _ : Unit => True) (fun _ => retV (.bool (!b))) (fun _ => []) (fun _ => []) :=
  val_does (by decide +kernel) F.entry_str_ne (h ▸ gives_str_ne x y t u)

theorem Env0.byRow (row : String) {P : Env0 → Prop} (h : ∀ (b : Bool) (w : World) (h₁ : Heap) (d : Drawn) (os : OsState) (ok : (kt (w.withFollow row b)).Holds h₁ 1 0),P ⟨w.withFollow row b,h₁,d,os,ok⟩) (e : Env0) : P e := by
  obtain ⟨w,h₁,d,os,ok⟩ := e
  have key : ∀ w' : World,w' = w → (∀ ok',P ⟨w',h₁,d,os,ok'⟩) → P ⟨w,h₁,d,os,ok⟩ := by
    rintro w' rfl k; exact k ok
  exact key _ (World.withFollow_self w row) (fun ok' => h _ w h₁ d os ok')
end Mine
end
section
open PySem PySem.W PySem.W.X PyProof.Rows
set_option genInjectivity false
set_option genCtorIdx false
set_option backward.match.sparseCases false
namespace Mine
theorem young_one {G : Gc} {a : Addr} {o : Obj} (h : G.Young [(a,o)]) : G.Young [(a,(default : Obj))] := fun p hp => by
  rw [List.mem_singleton.mp hp]; exact h (a,o) (List.mem_singleton.mpr rfl)
theorem update_does {G : Gc} {D : Nat} {id : String} {args : Args} {B : Builtin} {l : Addr} {o o' : Obj} {f : Obj → Obj} {v : Value} (hp : plainId id = true) (he : entryFor table id = some B) (ho' : f o = o') (hfree : o'.isFreed = false)
    (m : Meets (B args) (fun _ R s => s.heap.get? l = some o ∧ R (.ok (.ret v)) { s with heap := s.heap.update l f })) :
    Does G D (.builtin id args) [(l,o)] (fun _ : Unit => True) (fun _ => retV v) (fun _ => [(l,o')]) (fun _ => []) := by
  refine does_of_meets hp he m ?_
  intro A R s hf ho hd hy hfin
  have h1 := own_one.mp ho
  refine ⟨h1,hfin () _ trivial (fine_update hf (young_one hy)) (own_one.mpr ?_) own_nil keeps_update (fun _ hp => nomatch hp) List.nodup_nil⟩
  rw [← ho']
  exact Heap.get?_update_self _ h1 (by rw [ho']; exact hfree)
theorem pop0_does {G : Gc} {D : Nat} {l : Addr} {xs : List Value} {n : Nat} {v : Value} {u : Tok} (hn : xs.length < sizeLine) :
    Does G D (.builtin "list.pop" ⟨[.ref l, .int 0 u], []⟩) [(l, lob (v :: xs) n)] (fun _ : Unit => True) (fun _ => retV v) (fun _ => [(l, lob xs (n + 1))]) (fun _ => []) := by
  refine update_does (by decide +kernel) PySem.F.entry_list_pop ?_ rfl (PySem.MeetsSeq.list_pop_at l ⟨v :: xs⟩ n 0 u 0 v (by decide +kernel) ?_ rfl hn)
  · show Obj.mapSeq _ (lob (v :: xs) n) = _
    simp [Obj.mapSeq,lob]
  · simp [seqIndex?]
theorem poplast_does {G : Gc} {D : Nat} {l : Addr} {xs : List Value} {n : Nat} {v : Value} (hn : xs.length < sizeLine) :
    Does G D (.builtin "list.pop" ⟨[.ref l], []⟩) [(l, lob (xs ++ [v]) n)] (fun _ : Unit => True) (fun _ => retV v) (fun _ => [(l, lob xs (n + 1))]) (fun _ => []) := by
  refine update_does (by decide +kernel) PySem.F.entry_list_pop ?_ rfl (PySem.MeetsSeq.list_pop_last l ⟨xs ++ [v]⟩ n v ?_ (by show (xs ++ [v]).length ≤ _; rw [List.length_append]; exact hn))
  · show Obj.mapSeq _ (lob (xs ++ [v]) n) = _
    have e : (xs ++ [v]).eraseIdx xs.length = xs := by
      rw [List.eraseIdx_append_of_length_le (Nat.le_refl _)]; simp
    simp [Obj.mapSeq,lob,Array.eraseIdxIfInBounds,e]
  · simp
theorem len_does {G : Gc} {D : Nat} {l : Addr} {xs : List Value} {n : Nat} {m : Nat} (hm : xs.length = m) (hs : m < 2 ^ 63) :
    Does G D (.builtin "len" ⟨[.ref l], []⟩) [(l, lob xs n)] (fun _ : Tok => True) (fun k => retV (.int (.ofNat m) k)) (fun _ => [(l, lob xs n)]) (fun _ => []) := by
  have mt : Meets (Builtin.«len» ⟨[.ref l],[]⟩) (fun _ R s => s.heap.get? l = some (lob xs n) ∧ R (.ok (.ret (.int (.ofNat m) (s.toks + 1)))) { s with toks := s.toks + 1 + 1 }) :=
    .of_wp fun prog w A R s h => by
      have hl : s.heap.IsList l ⟨xs⟩ := ⟨_,h.1,rfl,n,rfl⟩
      refine wpAny_len_body_list (Q := fun v s' => R (.ok (.ret v)) s') hl (by show ((xs.length : Nat) : Int) < _; omega) ?_
      show R (.ok (.ret (.int (xs.length : Nat) _))) _
      rw [hm]; exact h.2
  refine does_of_meets (by decide +kernel) PySem.entry_len mt ?_
  intro A R s hf ho hd hy hfin
  exact ⟨own_one.mp ho,hfin _ _ trivial ⟨hf.base,hf.gens,hf.drawn,hf.os⟩ ho own_nil ⟨Nat.le_refl _,fun _ _ e _ => e⟩ (fun _ hp => nomatch hp) List.nodup_nil⟩
end Mine
namespace Mine
structure Lx where
  l : Addr
  d : Addr
  p : Addr
  hh : Nat → Int
  tt : Nat → Tok
  ins : Value
  ws : Tok
noncomputable def wsS : Str := sOf [10,9,13,32]
noncomputable def lexD (X : Lx) (ln : Value) : Obj :=
  { cls := .type "dict", data := .dict ⟨[ent X.hh X.tt 0 [108,105,110,101,110,111] ln, ent X.hh X.tt 1 [105,110,115,116,114,101,97,109] X.ins, ent X.hh X.tt 2 [119,104,105,116,101,115,112,97,99,101] (.str wsS X.ws), ent X.hh X.tt 3 [112,117,115,104,98,97,99,107] (.ref X.p)]⟩ 4 }
noncomputable def Lx.L (X : Lx) (ln : Value) (xs : List Value) (n : Nat) : Led := [(X.l,iob 76 X.d),(X.d,lexD X ln),(X.p,lob xs n)]
theorem push_does {e : Env0} {D : Nat} {X : Lx} {ln : Value} {xs : List Value} {n : Nat} {sv : Str} {tv : Tok} (hD : D + 100 ≤ recursionLimit) (hn : xs.length ≤ sizeLine) :
    Does e.G D (.call (.ref 73) ⟨[.ref X.l,.str sv tv],[]⟩) (X.L ln xs n) (fun _ : Unit => True) (fun _ => retV .none)
      (fun _ => X.L ln (xs ++ [.str sv tv]) (n + 1)) (fun _ => []) := by
  refine walk (tn [1,0,1,1,1,1,0,1,2,0,0,0,2,0,0,0,2,2,0,3,4,4,4,4,1,4] [.stop]) hD ?_; intro A₀ R₀ h₀ sz tk a0 ad aD fin gd mm o
  refine mm [3] (append_does (l := X.p) (n := n) (v := .str sv tv) hn) ?_; intro o x sz tk _
  exact ret_good () [2,2,0] trivial fin rfl
theorem getq_does {e : Env0} {D : Nat} {X : Lx} {ln : Value} {xs : List Value} {n : Nat} {sv : Str} {tv : Tok} (hD : D + 100 ≤ recursionLimit) (hn : xs.length < sizeLine) :
    Does e.G D (.call (.ref 66) ⟨[.ref X.l],[]⟩) (X.L ln (.str sv tv :: xs) n) (fun _ : Unit => True) (fun _ => retV (.str sv tv))
      (fun _ => X.L ln xs (n + 1)) (fun _ => []) := by
  have h63 : sizeLine < 2 ^ 63 := by decide
  refine walk (ts [1,0,1,1,0,1,2,0,0,0,2,0,0,0,2,2,0,3,4,4] <| ts [2,3,0,0,0,3,0,0,0,3,3,0,4,1,1,1,1,1] <| tn [] []) hD ?_; intro A₀ R₀ h₀ sz0 tk0 a0 ad aD fin gd mm o
  refine mm [3] (len_does (l := X.p) (xs := .str sv tv :: xs) (n := n) (m := xs.length + 1) rfl (by omega)) ?_; intro o k0 sz1 tk1 _
  refine mm [0] (pop0_does (l := X.p) (xs := xs) (n := n) (v := .str sv tv) (u := (tk1 + 1)) hn) ?_; intro o _ sz2 tk2 _
  exact ret_good () [2,2,0] trivial fin rfl
end Mine
namespace Mine
noncomputable def fdAt (w : World) (a : Addr) : FuncData := match (kt w).get a with
  | some o => match o.data with
    | .func fd => fd
    | _ => default
  | none => default
noncomputable def bodyAt (w : World) (a : Addr) : List Stmt := match (fdAt w a).body with
  | .stmts b => b
  | .expr _ => []
noncomputable def valOf (s : Stmt) : Expr := match s with
  | .Assign _ v _ => v
  | _ => default
structure Rx where
  st : Addr
  sd : Addr
  fn : Addr
  co : Addr
  cell : Addr
  lf : Addr
  hh : Nat → Int
  tt : Nat → Tok
  ws : Tok
  sp : Addr
  ct : Addr
  mt : Tok
  ft : Nat → Tok
  more : List Value
noncomputable def qLam : Str := sOf [95,108,97,119,95,108,101,120,101,114,46,60,108,111,99,97,108,115,62,46,60,108,97,109,98,100,97,62]
noncomputable def lamOb (w : World) (R : Rx) : Obj := match valOf (bodyAt w 315)[3]! with
  | .Lambda args body scope _ => { cls := .type "function", data := .func { name := sOf [60,108,97,109,98,100,97,62], qualname := qLam, params := args, body := .expr body, scope := scope, globals := 3, closure := [(sOf [108,101,102,116], R.cell)], defaults := .none, kwdefaults := .none, pyModule := .str (sOf [108,97,119,95,116,105,48,48,54,53,95,48,49]) R.mt, code := .ref R.co, closureTuple := .ref R.ct } }
  | _ => default
noncomputable def streamD (R : Rx) : Obj :=
  { cls := .type "dict", data := .dict ⟨[ent R.hh R.tt 0 [108,105,110,101,110,111] (.int 1 (R.ft 0)), ent R.hh R.tt 1 [105,110,115,116,114,101,97,109] .none, ent R.hh R.tt 2 [119,104,105,116,101,115,112,97,99,101] (.str wsS R.ws), ent R.hh R.tt 3 [112,117,115,104,98,97,99,107] (.ref R.sp), ent R.hh R.tt 4 [114,101,97,100] (.ref R.fn)]⟩ 5 }
noncomputable def codeOb (R : Rx) : Obj := { cls := .type "code", data := .fields ⟨.str (sOf [60,108,97,109,98,100,97,62]) (R.ft 1) :: .str qLam (R.ft 2) :: R.more⟩ }
noncomputable def Rx.L (w : World) (R : Rx) (cs : List Value) (n : Nat) : Led :=
  [(R.st, iob 76 R.sd), (R.sd, streamD R), (R.fn, lamOb w R), (R.co, codeOb R), (R.cell, { cls := .type "cell", data := .cell (some (.ref R.lf)) }), (R.lf, lob cs n)]
noncomputable def chV (c : Nat) (t : Tok) : Value := .str (sOf [c]) t
noncomputable def nlS : Str := sOf [10]
theorem read_other {e : Env0} {D : Nat} {X : Lx} {R : Rx} {ln : Value} {q cs : List Value} {m n : Nat} {c : Nat} {t : Tok} (hD : D + 100 ≤ recursionLimit) (hi : X.ins = .ref R.st) (hn : cs.length < sizeLine) (hc : same (sOf [c]) nlS = false) :
    Does e.G D (.call (.ref 59) ⟨[.ref X.l],[]⟩) (X.L ln q m ++ R.L e.w (cs ++ [chV c t]) n) (fun _ : Unit => True) (fun _ => retV (chV c t))
      (fun _ => X.L ln q m ++ R.L e.w cs (n + 1)) (fun _ => []) := by
  have h63 : sizeLine < 2 ^ 63 := by decide
  obtain ⟨Xl,Xd,Xp,Xhh,Xtt,Xins,Xws⟩ := X
  simp only at hi
  subst hi
  refine walk (ts [1,0,1,1,0,1,2,0,0,0,2,0,0,0,2,2,0,3,5,0,0,0,5,0,0,0,5,0,0,0,5,0,0,0,5,0,0,0,5,5,0,6,7,8,8,1,1,0,10,11,11] <| ts [2,1001,11,1,1,1,1,1] <| ts [3,3,3,1001] <| tn [3] []) hD ?_; intro A₀ R₀ h₀ sz0 tk0 a0 ad aD fin gd mm o
  refine mm [10] (len_does (l := R.lf) (xs := cs ++ [chV c t]) (n := n) (m := cs.length + 1) (by simp) (by omega)) ?_; intro o k0 sz1 tk1 _
  refine mm [0] (poplast_does (l := R.lf) (xs := cs) (n := n) (v := chV c t) hn) ?_; intro o _ sz2 tk2 _
  refine mm [] (str_eq_does (x := sOf [c]) (t := t) (y := nlS) (u := (tk2 + 1)) (b := false) hc) ?_; intro o _ sz3 tk3 _
  exact ret_good () [3,3,3,3,3,3,3,3,0] trivial fin rfl
theorem read_end {e : Env0} {D : Nat} {X : Lx} {R : Rx} {ln : Value} {q : List Value} {m n : Nat} (hD : D + 100 ≤ recursionLimit) (hi : X.ins = .ref R.st) :
    Does e.G D (.call (.ref 59) ⟨[.ref X.l],[]⟩) (X.L ln q m ++ R.L e.w [] n) (fun _ : Tok => True) (fun k => retV (.str (sOf []) k))
      (fun _ => X.L ln q m ++ R.L e.w [] n) (fun _ => []) := by
  have h63 : sizeLine < 2 ^ 63 := by decide
  obtain ⟨Xl,Xd,Xp,Xhh,Xtt,Xins,Xws⟩ := X
  simp only at hi
  subst hi
  refine walk (ts [1,0,1,1,0,1,2,0,0,0,2,0,0,0,2,2,0,3,5,0,0,0,5,0,0,0,5,0,0,0,5,0,0,0,5,0,0,0,5,5,0,6,7,8,8,1,1,0,10,11,11] <| ts [3,3,3,1001] <| tn [3] []) hD ?_; intro A₀ R₀ h₀ sz0 tk0 a0 ad aD fin gd mm o
  refine mm [10] (len_does (l := R.lf) (xs := []) (n := n) (m := 0) (by simp) (by omega)) ?_; intro o k0 sz1 tk1 _
  refine mm [] (str_eq_does (x := sOf []) (t := tk1) (y := nlS) (u := (tk1 + 2)) (b := false) (by decide)) ?_; intro o _ sz2 tk2 _
  exact ret_good tk1 [3,3,3,3,3,3,3,3,0] trivial fin rfl
theorem read_nl {e : Env0} {D : Nat} {X : Lx} {R : Rx} {i : Nat} {u : Tok} {q cs : List Value} {m n : Nat} {t : Tok} (hD : D + 100 ≤ recursionLimit) (hi : X.ins = .ref R.st) (hn : cs.length < sizeLine) :
    Does e.G D (.call (.ref 59) ⟨[.ref X.l],[]⟩) (X.L (.int (.ofNat i) u) q m ++ R.L e.w (cs ++ [chV 10 t]) n) (fun _ : Tok => True) (fun _ => retV (chV 10 t))
      (fun k => X.L (.int (.ofNat (i + 1)) k) q m ++ R.L e.w cs (n + 1)) (fun _ => []) := by
  have h63 : sizeLine < 2 ^ 63 := by decide
  obtain ⟨Xl,Xd,Xp,Xhh,Xtt,Xins,Xws⟩ := X
  simp only at hi
  subst hi
  refine walk (ts [1,0,1,1,0,1,2,0,0,0,2,0,0,0,2,2,0,3,5,0,0,0,5,0,0,0,5,0,0,0,5,0,0,0,5,0,0,0,5,5,0,6,7,8,8,1,1,0,10,11,11] <| ts [2,1001,11,1,1,1,1,1] <| ts [3,3,3,1001] <| tn [3,4,0,0,0,4,0,0,0,4,4,0,5,4,0,0,0,4,0,4,0,4,0,0,0,4,0,5,5,5,3] []) hD ?_; intro A₀ R₀ h₀ sz0 tk0 a0 ad aD fin gd mm o
  refine mm [10] (len_does (l := R.lf) (xs := cs ++ [chV 10 t]) (n := n) (m := cs.length + 1) (by simp) (by omega)) ?_; intro o k0 sz1 tk1 _
  refine mm [0] (poplast_does (l := R.lf) (xs := cs) (n := n) (v := chV 10 t) hn) ?_; intro o _ sz2 tk2 _
  refine mm [] (str_eq_does (x := sOf [10]) (t := t) (y := nlS) (u := (tk2 + 1)) (b := true) (by decide)) ?_; intro o _ sz3 tk3 _
  exact ret_good (tk3 + 2) [3,3,3,3,3,3,3,3,0] trivial fin rfl
end Mine
namespace Mine
theorem str_app_nil (x y : Str) (h : (y.length == 0) = true) : x ++ y = x := by
  obtain ⟨⟨x⟩⟩ := x
  obtain ⟨⟨y⟩⟩ := y
  have : y = [] := List.length_eq_zero_iff.mp (by simpa [Str.length] using h)
  subst this
  show Str.mk (_ ++ _) = _
  simp
theorem str_nil_app (x y : Str) (h : (x.length == 0) = true) : x ++ y = y := by
  obtain ⟨⟨x⟩⟩ := x
  obtain ⟨⟨y⟩⟩ := y
  have : x = [] := List.length_eq_zero_iff.mp (by simpa [Str.length] using h)
  subst this
  show Str.mk (_ ++ _) = _
  simp
theorem add_does {G : Gc} {D : Nat} {x y : Str} {t u : Tok} (h : (x ++ y).length ≤ sizeLine) :
    Does G D (.builtin "str.__add__" ⟨[.str x t, .str y u], []⟩) [] (fun _ : Tok => True) (fun k => retV (.str (x ++ y) k)) (fun _ => []) (fun _ => []) := by
  have g := gives_str_add x y t u
  intro A R s a b hf ho hn hy hfin
  split at g
  · rename_i h0
    have e := str_nil_app x y h0
    exact val_does (by decide +kernel) F.entry_str_add g A R s a b hf ho hn hy fun _ s' _ p1 p2 p3 p4 p5 p6 => e ▸ hfin u s' trivial p1 p2 p3 p4 p5 p6
  · split at g
    · rename_i h0
      have e := str_app_nil x y h0
      refine val_does (by decide +kernel) F.entry_str_add g A R s a b hf ho hn hy fun _ s' _ p1 p2 p3 p4 p5 p6 => ?_
      have := hfin t s' trivial p1 p2 p3 p4 p5 p6
      rw [e] at this
      exact this
    · exact str_does (by decide +kernel) F.entry_str_add g h A R s a b hf ho hn hy hfin
noncomputable def inWs (c : Nat) : Bool := !(Builtin.Str.occurrences wsS (sOf [c]) 0 wsS.length 1).isEmpty
theorem ws_does {G : Gc} {D : Nat} {c : Nat} {t u : Tok} {b : Bool} (h : inWs c = b) :
    Does G D (.builtin "str.__contains__" ⟨[.str wsS t, .str (sOf [c]) u], []⟩) [] (fun _ : Unit => True) (fun _ => retV (.bool b)) (fun _ => []) (fun _ => []) :=
  val_does (by decide +kernel) F.entry_str_contains (h ▸ gives_str_contains wsS (sOf [c]) t u)
end Mine
end
section
open PySem PySem.W PySem.W.X PyProof.Rows
set_option genInjectivity false
set_option genCtorIdx false
namespace Mine
open PySem.Builtin PySem.Builtin.SmallTypes in
noncomputable def restL (id : String) (self : Value) (i : Int) (o : Option Value) : Sem PySem.Fin := do
  match o with
  | some x => setField self 1 (rawInt (i + 1)); ret x
  | none => rule s!"{id}.end"; setField self 0 .none; stopIteration
open PySem.Builtin in
noncomputable def restS (ty : String) (it seq : Value) (i : Int) (o : Option Nat) : Sem PySem.Fin := do
  let stop : Sem PySem.Fin := do raiseNew (← newExc (.type "StopIteration") [])
  match o with
  | some c => setField it 1 (rawInt (i + 1)); retStr ⟨#[c]⟩
  | none =>
    rule s!"{ty}.__next__.end"
    setField it 0 .none
    letGo [seq]
    stop
lay_quick restL restS
noncomputable abbrev restLY := PySem.W.Fast.tw3446729620022955362
theorem restLY_eq : @restL = restLY := PySem.W.Fast.te3446729620022955362
noncomputable abbrev restSY := PySem.W.Fast.tw8270540567067066443
theorem restSY_eq : @restS = restSY := PySem.W.Fast.te8270540567067066443
noncomputable def litO (l : Addr) (i : Nat) : Obj := { cls := .type "list_iterator", data := .fields ⟨[.ref l, .int (.ofNat i) 0]⟩ }
noncomputable def litE (i : Nat) : Obj := { cls := .type "list_iterator", data := .fields ⟨[.none, .int (.ofNat i) 0]⟩ }
noncomputable def sitO (ty : String) (s : Str) (t : Tok) (i : Nat) : Obj := { cls := .type ty,data := .fields ⟨[.str s t,.int (.ofNat i) 0]⟩ }
noncomputable def sitE (ty : String) (i : Nat) : Obj := { cls := .type ty,data := .fields ⟨[.none,.int (.ofNat i) 0]⟩ }
noncomputable def ritO (i k : Nat) : Obj := { cls := .type "range_iterator", data := .fields ⟨[.int (.ofNat i) 0, .int (.ofNat k) 0, .int (.ofNat 1) 0]⟩ }
noncomputable def stopO (a : Addr) : Obj := { cls := .type "StopIteration", data := .fields ⟨[.ref a, .none, .none, .none, .bool false, .none]⟩ }
noncomputable def nilT : Obj := { cls := .type "tuple", data := .seq ⟨[]⟩ 0 }
section
variable {e : Env0} {D : Nat} {it l : Addr} {xs : List Value} {n i k : Nat} {v : Value} {s : List Nat} {t : Tok} {c : Nat}
theorem lget_arr (h : xs[i]? = some v) : (⟨xs⟩ : Array Value)[(Int.ofNat i).toNat]? = some v := by simpa using h
theorem lget_arr0 (h : xs[i]? = none) : (⟨xs⟩ : Array Value)[(Int.ofNat i).toNat]? = none := by simpa using h
theorem lnext_some (hD : D + 100 ≤ recursionLimit) (h : xs[i]? = some v) :
    Does e.G D (.builtin "list_iterator.__next__" ⟨[.ref it], []⟩) [(it, litO l i), (l, lob xs n)] (fun _ : Unit => True) (fun _ => retV v) (fun _ => [(it, litO l (i + 1)), (l, lob xs n)]) (fun _ => []) := by
  refine walk (tn [1,1] [.mid 1]) (by omega) ?_; intro A₀ R₀ h₀ sz0 tk0 a0 ad aD fin gd mm o
  refine mid a0 aD (restLY "list_iterator.__next__" (.ref it) (.ofNat i) (some v)) (tn [1, 1] []) (by kernel_rfl) (by kernel_rfl) ((by kernel_rfl : _ = restLY "list_iterator.__next__" (.ref it) (.ofNat i) ((⟨xs⟩ : Array Value)[(Int.ofNat i).toNat]?)).trans (congrArg _ (lget_arr h))) ?_; intro o
  exact ret_good () [0,0] trivial fin rfl
theorem lnext_end (hD : D + 100 ≤ recursionLimit) (h : xs[i]? = none) :
    Does e.G D (.builtin "list_iterator.__next__" ⟨[.ref it], []⟩) [(it, litO l i), (l, lob xs n)] (fun _ : Addr × Addr => True) (fun x => .error (.ref x.1)) (fun _ => [(it, litE i), (l, lob xs n)]) (fun x => [(x.1, stopO x.2), (x.2, nilT)]) := by
  refine walk (tn [1,1] [.mid 1]) (by omega) ?_; intro A₀ R₀ h₀ sz0 tk0 a0 ad aD fin gd mm o
  refine mid a0 aD (restLY "list_iterator.__next__" (.ref it) (.ofNat i) none) (tn [1, 1] []) (by kernel_rfl) (by kernel_rfl) ((by kernel_rfl : _ = restLY "list_iterator.__next__" (.ref it) (.ofNat i) ((⟨xs⟩ : Array Value)[(Int.ofNat i).toNat]?)).trans (congrArg _ (lget_arr0 h))) ?_; intro o
  exact ret_good (sz0 + 1,sz0) [2,2,0,0] trivial fin rfl
theorem snext_some (hD : D + 100 ≤ recursionLimit) (h : s[i]? = some c) :
    Does e.G D (.builtin "str_iterator.__next__" ⟨[.ref it], []⟩) [(it, sitO "str_iterator" (sOf s) t i)] (fun _ : Tok => True) (fun k => retV (.str (sOf [c]) k)) (fun _ => [(it, sitO "str_iterator" (sOf s) t (i + 1))]) (fun _ => []) := by
  refine walk (tn [1] [.mid 0]) (by omega) ?_; intro A₀ R₀ h₀ sz0 tk0 a0 ad aD fin gd mm o
  refine mid a0 aD (restSY "str_iterator" (.ref it) (.str (sOf s) t) (.ofNat i) (some c)) (tn [1, 1] []) (by kernel_rfl) (by kernel_rfl) ((by kernel_rfl : _ = restSY "str_iterator" (.ref it) (.str (sOf s) t) (.ofNat i) ((⟨s⟩ : Array Nat)[(Int.ofNat i).toNat]?)).trans (congrArg _ (by simpa using h))) ?_; intro o
  exact ret_good tk0 [0] trivial fin rfl
theorem snext_end (hD : D + 100 ≤ recursionLimit) (h : s[i]? = none) :
    Does e.G D (.builtin "str_iterator.__next__" ⟨[.ref it], []⟩) [(it, sitO "str_iterator" (sOf s) t i)] (fun _ : Addr × Addr => True) (fun x => .error (.ref x.1)) (fun _ => [(it, sitE "str_iterator" i)]) (fun x => [(x.1, stopO x.2), (x.2, nilT)]) := by
  refine walk (tn [1] [.mid 0]) (by omega) ?_; intro A₀ R₀ h₀ sz0 tk0 a0 ad aD fin gd mm o
  refine mid a0 aD (restSY "str_iterator" (.ref it) (.str (sOf s) t) (.ofNat i) none) (tn [1, 1] []) (by kernel_rfl) (by kernel_rfl) ((by kernel_rfl : _ = restSY "str_iterator" (.ref it) (.str (sOf s) t) (.ofNat i) ((⟨s⟩ : Array Nat)[(Int.ofNat i).toNat]?)).trans (congrArg _ (by simpa using h))) ?_; intro o
  exact ret_good (sz0 + 1,sz0) [2,0,0] trivial fin rfl
theorem anext_some (hD : D + 100 ≤ recursionLimit) (h : s[i]? = some c) :
    Does e.G D (.builtin "str_ascii_iterator.__next__" ⟨[.ref it], []⟩) [(it, sitO "str_ascii_iterator" (sOf s) t i)] (fun _ : Tok => True) (fun k => retV (.str (sOf [c]) k)) (fun _ => [(it, sitO "str_ascii_iterator" (sOf s) t (i + 1))]) (fun _ => []) := by
  refine walk (tn [1] [.mid 0]) (by omega) ?_; intro A₀ R₀ h₀ sz0 tk0 a0 ad aD fin gd mm o
  refine mid a0 aD (restSY "str_ascii_iterator" (.ref it) (.str (sOf s) t) (.ofNat i) (some c)) (tn [1, 1] []) (by kernel_rfl) (by kernel_rfl) ((by kernel_rfl : _ = restSY "str_ascii_iterator" (.ref it) (.str (sOf s) t) (.ofNat i) ((⟨s⟩ : Array Nat)[(Int.ofNat i).toNat]?)).trans (congrArg _ (by simpa using h))) ?_; intro o
  exact ret_good tk0 [0] trivial fin rfl
theorem anext_end (hD : D + 100 ≤ recursionLimit) (h : s[i]? = none) :
    Does e.G D (.builtin "str_ascii_iterator.__next__" ⟨[.ref it], []⟩) [(it, sitO "str_ascii_iterator" (sOf s) t i)] (fun _ : Addr × Addr => True) (fun x => .error (.ref x.1)) (fun _ => [(it, sitE "str_ascii_iterator" i)]) (fun x => [(x.1, stopO x.2), (x.2, nilT)]) := by
  refine walk (tn [1] [.mid 0]) (by omega) ?_; intro A₀ R₀ h₀ sz0 tk0 a0 ad aD fin gd mm o
  refine mid a0 aD (restSY "str_ascii_iterator" (.ref it) (.str (sOf s) t) (.ofNat i) none) (tn [1, 1] []) (by kernel_rfl) (by kernel_rfl) ((by kernel_rfl : _ = restSY "str_ascii_iterator" (.ref it) (.str (sOf s) t) (.ofNat i) ((⟨s⟩ : Array Nat)[(Int.ofNat i).toNat]?)).trans (congrArg _ (by simpa using h))) ?_; intro o
  exact ret_good (sz0 + 1,sz0) [2,0,0] trivial fin rfl
theorem heap_twice {h : Heap} {a : Addr} {f g : Obj → Obj} : (h.update a f).update a g = h.update a (fun o => g (f o)) := by
  obtain ⟨objs,life⟩ := h
  simp only [Heap.update,Heap.mk.injEq,and_true]
  apply Array.ext_getElem?
  intro i
  simp only [Array.getElem?_modify]
  by_cases h1 : a = i
  · subst h1
    cases objs[a]? <;> simp
  · simp [h1]
theorem heap_upd {h : Heap} {a : Addr} {o : Obj} {f g : Obj → Obj} (ho : h.get? a = some o) (e : f o = g o) : h.update a f = h.update a g := by
  have h2 := ((Heap.get?_eq_some _ _ _).1 ho).1
  obtain ⟨objs,life⟩ := h
  simp only [Heap.update,Heap.mk.injEq,and_true]
  apply Array.ext_getElem?
  intro i
  simp only [Array.getElem?_modify]
  by_cases h1 : a = i
  · subst h1
    have h3 : objs[a]? = some o := h2
    simp [h3,e]
  · simp [h1]
theorem rnext_some : Does e.G D (.builtin "range_iterator.__next__" ⟨[.ref it], []⟩) [(it, ritO i (k + 1))] (fun _ : Tok => True) (fun t => retV (.int (.ofNat i) t)) (fun _ => [(it, ritO (i + 1) k)]) (fun _ => []) := by
  refine does_of_meets (by decide +kernel) PySem.F.entry_range_iterator_next (PySem.AutoRange.range_iterator___next___range_iterator_1 it (.ofNat i) (.ofNat (k + 1)) 1 (by simp)) ?_
  intro A R s hf ho hd hy hfin
  have h1 := own_one.mp ho
  refine ⟨h1,?_⟩
  have hs : (s.heap.update it (Obj.mapFields fun x_1 => x_1.setIfInBounds 0 (rawInt (.ofNat i + 1)))).update it (Obj.mapFields fun x => x.setIfInBounds 1 (rawInt (.ofNat (k + 1) - 1))) = s.heap.update it fun _ => ritO (i + 1) k := by
    rw [heap_twice]
    refine heap_upd h1 ?_
    simp [ritO,Obj.mapFields,rawInt]
  rw [hs]
  exact hfin _ _ trivial (fine_update hf (young_one hy)) (own_one.mpr (Heap.get?_update_self _ h1 rfl)) own_nil keeps_update (fun _ hp => nomatch hp) List.nodup_nil
end
end Mine
end
section
open PySem PySem.W PySem.W.X PyProof.Rows
set_option genInjectivity false
set_option genCtorIdx false
set_option maxHeartbeats 4000000
namespace Mine
open PySem.Builtin PySem.Builtin.SmallTypes in
noncomputable def restN (f : Value → Sem Unit) (self r : Value) (E : Sem Bool) : Sem PySem.Fin := do
  if !(← E) then return ← ret r
  rule "callable_iterator.__next__.sentinel"; f self; stopIteration
noncomputable def eqNe (a b : Value) : Sem Bool := do truthOfDropped (← richCompare .Eq a b)
noncomputable def eqId : Sem Bool := rule "eq-bool.same-object" >>= fun _ => pure true
lay_quick restN eqNe eqId eqBool
noncomputable abbrev restNY := PySem.W.Fast.tw15392685305995672728
theorem restNY_eq : @restN = restNY := PySem.W.Fast.te15392685305995672728
noncomputable abbrev eqNeY := PySem.W.Fast.tw18392491671357727341
theorem eqNeY_eq : @eqNe = eqNeY := PySem.W.Fast.te18392491671357727341
noncomputable abbrev eqIdY := PySem.W.Fast.tw538673673962322703
theorem eqIdY_eq : @eqId = eqIdY := PySem.W.Fast.te538673673962322703
noncomputable abbrev eqBoolY := PySem.W.Fast.tw13926502685295537346
theorem eqBoolY_eq : @eqBool = eqBoolY := PySem.W.Fast.te13926502685295537346
theorem eqBool_same (s : Str) (t : Tok) : eqBoolY (.str s t) (.str s t) = eqIdY := by
  rw [← eqBoolY_eq,← eqIdY_eq]
  unfold eqBool eqId
  simp [holding]
theorem eqBool_strs (s : Str) (t u : Tok) (h : t ≠ u) : eqBoolY (.str s t) (.str s u) = eqNeY (.str s t) (.str s u) := by
  rw [← eqBoolY_eq,← eqNeY_eq]
  unfold eqBool eqNe
  simp [holding,h]
theorem ret_of {G : Gc} {h₀ : Heap} {A₀ : Around} {R₀ : Result → Shared → Prop} {α : Type} {pre : Led} {ok : α → Prop} {res : α → Result} {post news : α → Led} {out : Out} (f : Out → α) (idx : List Nat) (hx : ok (f out))
    (hfin : ∀ x s',ok x → G.Fine s' → Own s'.heap (post x) → Own s'.heap (news x) → Keeps (keys pre) h₀ s'.heap → (∀ p ∈ news x,h₀.objs.size ≤ p.1) → (keys (news x)).Nodup → R₀ (res x) s')
    (hk : keys (post (f out)) = keys pre)
    (h1 : out.obsL = out.obsR := by kernel_rfl) (h2 : out.ret? idx = some (res (f out),post (f out) ++ news (f out)) := by kernel_rfl) : out.Good G h₀ (keys pre) A₀ R₀ := ret_good (f out) idx hx hfin hk h1 h2
noncomputable def Out.ob (o : Out) (i : Nat) : Obj := match lget o.st.led i with
  | some p => p.2
  | none => default
noncomputable def entOf (o : Obj) (i : Nat) : Int × Tok := match o.data with
  | .dict es _ => match es.toList[i]? with
    | some e => match e.key with
      | .str _ t => (e.hash,t)
      | _ => (0,0)
    | none => (0,0)
  | _ => (0,0)
noncomputable def forBody (s : Stmt) : List Stmt := match s with
  | .For _ _ b _ _ => b
  | _ => []
noncomputable def ifBody (s : Stmt) : List Stmt := match s with
  | .If _ b _ _ => b
  | _ => []
noncomputable def ifElse (s : Stmt) : List Stmt := match s with
  | .If _ _ b _ => b
  | _ => []
noncomputable def forOf (s : Stmt) (it : Addr) (env : Env) : Code := match s with
  | .For t _ b o _ => .forLoop t (.ref it) b o env
  | _ => default
structure Fx where
  fr : Addr
  fi : Addr
  bm : Addr
  se : Tok
  hh : Nat → Int
  tt : Nat → Tok
noncomputable def gtEnv (w : World) (F : Fx) : Env := { scope := (fdAt w 66).scope,locals := F.fr,globals := 3,cells := [],qual := sOf [95,110,101,116,114,99,108,101,120,46,103,101,116,95,116,111,107,101,110,46,60,108,111,99,97,108,115,62,46],func := some 66,code := .ref 65,frame := some F.fr }
noncomputable def stA (w : World) : Stmt := (bodyAt w 66)[3]!
noncomputable def stB (w : World) : Stmt := (ifBody (forBody (stA w))[1]!)[0]!
noncomputable def stC (w : World) : Stmt := (ifElse (forBody (stA w))[1]!)[2]!
noncomputable def loopA (w : World) (F : Fx) : Code := forOf (stA w) F.fi (gtEnv w F)
noncomputable def loopB (w : World) (F : Fx) : Code := forOf (stB w) F.fi (gtEnv w F)
noncomputable def loopC (w : World) (F : Fx) : Code := forOf (stC w) F.fi (gtEnv w F)
noncomputable def fr3 (F : Fx) (l : Addr) (tok : Value) : Obj := { cls := .type "frame", data := .dict ⟨[ent F.hh F.tt 0 [115,101,108,102] (.ref l), ent F.hh F.tt 1 [116,111,107,101,110] tok, ent F.hh F.tt 2 [102,105,116,101,114] (.ref F.fi)]⟩ 3 }
noncomputable def fr4 (F : Fx) (g : Int × Tok) (l : Addr) (tok ch : Value) : Obj := { cls := .type "frame", data := .dict ⟨[ent F.hh F.tt 0 [115,101,108,102] (.ref l), ent F.hh F.tt 1 [116,111,107,101,110] tok, ent F.hh F.tt 2 [102,105,116,101,114] (.ref F.fi), ⟨g.1, .str (sOf [99,104]) g.2, ch⟩]⟩ 4 }
noncomputable def frO (F : Fx) (b : Option ((Int × Tok) × Value)) (l : Addr) (tok : Value) : Obj := match b with
  | none => fr3 F l tok
  | some p => fr4 F p.1 l tok p.2
noncomputable def itOn (F : Fx) : Obj := { cls := .type "callable_iterator", data := .fields ⟨[.ref F.bm, .str (sOf []) F.se, .bool false]⟩ }
noncomputable def itOff : Obj := { cls := .type "callable_iterator", data := .fields ⟨[.none, .none, .bool true]⟩ }
noncomputable def bmOb (l : Addr) : Obj := { cls := .type "method", data := .fields ⟨[.ref 59, .ref l]⟩ }
noncomputable def Fx.T (F : Fx) (l : Addr) (fo : Obj) : Led := [(F.fi,itOn F),(F.bm,bmOb l),(F.fr,fo)]
noncomputable def Fx.E (F : Fx) (l : Addr) (fo : Obj) : Led := [(F.fi,itOff),(F.bm,bmOb l),(F.fr,fo)]
noncomputable def TokL (w : World) (X : Lx) (R : Rx) (F : Fx) (ln : Value) (q : List Value) (m : Nat) (cs : List Value) (n : Nat) (fo : Obj) : Led := (X.L ln q m ++ R.L w cs n) ++ F.T X.l fo
noncomputable def TokE (w : World) (X : Lx) (R : Rx) (F : Fx) (ln : Value) (q : List Value) (m : Nat) (cs : List Value) (n : Nat) (fo : Obj) : Led := (X.L ln q m ++ R.L w cs n) ++ F.E X.l fo
noncomputable def bsS : Str := sOf [92]
noncomputable def quS : Str := sOf [34]
theorem nil_ne (c : Nat) : same (sOf []) (sOf [c]) = false := by simp [same,sOf]
theorem sOf_app (a b : List Nat) : sOf a ++ sOf b = sOf (a ++ b) := by
  show Str.mk (_ ++ _) = _
  simp [sOf]
theorem sOf_len (a : List Nat) : (sOf a).length = a.length := by simp [sOf,Str.length]
section
variable {e : Env0} {D : Nat} {X : Lx} {R : Rx} {F : Fx} {ln : Value} {q cs : List Value} {m n : Nat} {c : Nat} {t te : Tok} {x : List Nat} {tx : Tok} {g : Int × Tok} {ch : Value} {b : Option ((Int × Tok) × Value)}
variable {α : Type} {ok : α → Prop} {res : α → Result} {post news : α → Led}

theorem C_plain (hD : D + 150 ≤ recursionLimit) (hi : X.ins = .ref R.st) (hn : cs.length < sizeLine) (h0 : c ≠ 0) (hc : same (sOf [c]) nlS = false) (hw : inWs c = false) (hb : same (sOf [c]) bsS = false) (hx : (sOf x ++ sOf [c]).length ≤ sizeLine)
    (next : ∀ k,Does e.G D (loopC e.w F) (TokL e.w X R F ln q m cs (n + 1) (fr4 F g X.l (.str (sOf x ++ sOf [c]) k) (chV c t))) ok res post news) :
    Does e.G D (loopC e.w F) (TokL e.w X R F ln q m (cs ++ [chV c t]) n (fr4 F g X.l (.str (sOf x) tx) ch)) ok res post news := by
  obtain ⟨c,rfl⟩ := Nat.exists_eq_succ_of_ne_zero h0
  have he := nil_ne c.succ
  refine walk (ts [10,10,10,10,11,0,0,11] <| ts [10,10,1001] <| ts [12,12,12,12,1,0,0,0,1,0,0,0,1,1,0,2] <| ts [12,1001] <| ts [12,12] <| ts [12,12] <| tn [] []) (by omega) ?_; intro A₀ R₀ h₀ sz0 tk0 a0 ad aD fin gd mm o
  refine mm [0,0,0,0,0,0,0,0,0] (read_other (X := X) (R := R) (q := q) (m := m) (n := n) (ln := ln) (cs := cs) (c := c.succ) (t := t) (by omega) hi (by assumption) (by assumption)) ?_; intro o _ sz1 tk1 _
  refine mm [] (str_eq_does (x := (sOf [])) (t := F.se) (y := (sOf [c.succ])) (u := t) (b := false) (by assumption)) ?_; intro o _ sz2 tk2 _
  refine mm [] (ws_does (c := c.succ) (t := X.ws) (u := t) (b := false) (by assumption)) ?_; intro o _ sz3 tk3 _
  refine mm [] (str_eq_does (x := (sOf [c.succ])) (t := t) (y := (sOf [92])) (u := tk3) (b := false) (by assumption)) ?_; intro o _ sz4 tk4 _
  refine mm [] (add_does (x := sOf x) (t := tx) (y := (sOf [c.succ])) (u := t) (by assumption)) ?_; intro o k1 sz5 tk5 _
  exact tail_same a0 [0,0,0,0,0,0,0,0,0,0,0,0] (next k1) ad (by kernel_rfl) (by kernel_rfl) fin

theorem C_esc (hD : D + 150 ≤ recursionLimit) (hi : X.ins = .ref R.st) (hn : cs.length < sizeLine) (h0 : c ≠ 0) (hc : same (sOf [c]) nlS = false) (hx : (sOf x ++ sOf [c]).length ≤ sizeLine) (hn1 : (cs ++ [chV c t]).length < sizeLine)
    (next : ∀ k,Does e.G D (loopC e.w F) (TokL e.w X R F ln q m cs (n + 1 + 1) (fr4 F g X.l (.str (sOf x ++ sOf [c]) k) (chV c t))) ok res post news) :
    Does e.G D (loopC e.w F) (TokL e.w X R F ln q m ((cs ++ [chV c t]) ++ [chV 92 te]) n (fr4 F g X.l (.str (sOf x) tx) ch)) ok res post news := by
  obtain ⟨c,rfl⟩ := Nat.exists_eq_succ_of_ne_zero h0
  have he := nil_ne c.succ
  have he2 := nil_ne 92
  have h92 : same (sOf [92]) nlS = false := by decide
  have hb : same (sOf [92]) (sOf [92]) = true := by decide
  have hq : same (sOf [92]) (sOf [34]) = false := by decide
  have hw : inWs 92 = false := by decide +kernel
  refine walk (ts [10,10,10,10,11,0,0,11] <| ts [10,10,1001] <| ts [12,12,12,12,1,0,0,0,1,0,0,0,1,1,0,2] <| ts [12,1001] <| ts [12,1,0,0,0,1,0,0,0,1,0,0,0,0,1,2,0] <| ts [12,12,12,12] <| ts [12,12] <| tn [] []) (by omega) ?_; intro A₀ R₀ h₀ sz0 tk0 a0 ad aD fin gd mm o
  refine mm [0,0,0,0,0,0,0,0,0] (read_other (X := X) (R := R) (q := q) (m := m) (n := n) (ln := ln) (cs := (cs ++ [chV c.succ t])) (c := 92) (t := te) (by omega) hi (by assumption) h92) ?_; intro o _ sz1 tk1 _
  refine mm [] (str_eq_does (x := (sOf [])) (t := F.se) (y := (sOf [92])) (u := te) (b := false) (by assumption)) ?_; intro o _ sz2 tk2 _
  refine mm [] (ws_does (c := 92) (t := X.ws) (u := te) (b := false) (by assumption)) ?_; intro o _ sz3 tk3 _
  refine mm [] (str_eq_does (x := (sOf [92])) (t := te) (y := (sOf [92])) (u := tk3) (b := true) (by assumption)) ?_; intro o _ sz4 tk4 _
  refine mm [0,0,0,0,0,0,0,0,0] (read_other (X := X) (R := R) (q := q) (m := m) (n := (n + 1)) (ln := ln) (cs := cs) (c := c.succ) (t := t) (by omega) hi (by assumption) (by assumption)) ?_; intro o _ sz5 tk5 _
  refine mm [] (add_does (x := sOf x) (t := tx) (y := (sOf [c.succ])) (u := t) (by assumption)) ?_; intro o k2 sz6 tk6 _
  exact tail_same a0 [0,0,0,0,0,0,0,0,0,0,0,0] (next k2) ad (by kernel_rfl) (by kernel_rfl) fin

theorem B_plain (hD : D + 150 ≤ recursionLimit) (hi : X.ins = .ref R.st) (hn : cs.length < sizeLine) (h0 : c ≠ 0) (hc : same (sOf [c]) nlS = false) (hq : same (sOf [c]) quS = false) (hb : same (sOf [c]) bsS = false) (hx : (sOf x ++ sOf [c]).length ≤ sizeLine)
    (next : ∀ k,Does e.G D (loopB e.w F) (TokL e.w X R F ln q m cs (n + 1) (fr4 F g X.l (.str (sOf x ++ sOf [c]) k) (chV c t))) ok res post news) :
    Does e.G D (loopB e.w F) (TokL e.w X R F ln q m (cs ++ [chV c t]) n (fr4 F g X.l (.str (sOf x) tx) ch)) ok res post news := by
  obtain ⟨c,rfl⟩ := Nat.exists_eq_succ_of_ne_zero h0
  have he := nil_ne c.succ
  refine walk (ts [10,10,10,10,11,0,0,11] <| ts [10,10,1001] <| ts [12,12,12,1001] <| ts [12,1001] <| ts [12,12] <| ts [12,12] <| tn [] []) (by omega) ?_; intro A₀ R₀ h₀ sz0 tk0 a0 ad aD fin gd mm o
  refine mm [0,0,0,0,0,0,0,0,0] (read_other (X := X) (R := R) (q := q) (m := m) (n := n) (ln := ln) (cs := cs) (c := c.succ) (t := t) (by omega) hi (by assumption) (by assumption)) ?_; intro o _ sz1 tk1 _
  refine mm [] (str_eq_does (x := (sOf [])) (t := F.se) (y := (sOf [c.succ])) (u := t) (b := false) (by assumption)) ?_; intro o _ sz2 tk2 _
  refine mm [] (str_eq_does (x := (sOf [c.succ])) (t := t) (y := (sOf [34])) (u := (tk2 + 1)) (b := false) (by assumption)) ?_; intro o _ sz3 tk3 _
  refine mm [] (str_eq_does (x := (sOf [c.succ])) (t := t) (y := (sOf [92])) (u := tk3) (b := false) (by assumption)) ?_; intro o _ sz4 tk4 _
  refine mm [] (add_does (x := sOf x) (t := tx) (y := (sOf [c.succ])) (u := t) (by assumption)) ?_; intro o k1 sz5 tk5 _
  exact tail_same a0 [0,0,0,0,0,0,0,0,0,0,0,0] (next k1) ad (by kernel_rfl) (by kernel_rfl) fin

theorem B_esc (hD : D + 150 ≤ recursionLimit) (hi : X.ins = .ref R.st) (hn : cs.length < sizeLine) (h0 : c ≠ 0) (hc : same (sOf [c]) nlS = false) (hx : (sOf x ++ sOf [c]).length ≤ sizeLine) (hn1 : (cs ++ [chV c t]).length < sizeLine)
    (next : ∀ k,Does e.G D (loopB e.w F) (TokL e.w X R F ln q m cs (n + 1 + 1) (fr4 F g X.l (.str (sOf x ++ sOf [c]) k) (chV c t))) ok res post news) :
    Does e.G D (loopB e.w F) (TokL e.w X R F ln q m ((cs ++ [chV c t]) ++ [chV 92 te]) n (fr4 F g X.l (.str (sOf x) tx) ch)) ok res post news := by
  obtain ⟨c,rfl⟩ := Nat.exists_eq_succ_of_ne_zero h0
  have he := nil_ne c.succ
  have he2 := nil_ne 92
  have h92 : same (sOf [92]) nlS = false := by decide
  have hb : same (sOf [92]) (sOf [92]) = true := by decide
  have hq : same (sOf [92]) (sOf [34]) = false := by decide
  have hw : inWs 92 = false := by decide +kernel
  refine walk (ts [10,10,10,10,11,0,0,11] <| ts [10,10,1001] <| ts [12,12,12,1001] <| ts [12,1001] <| ts [12,1,0,0,0,1,0,0,0,1,0,0,0,0,1,2,0] <| ts [12,12,12,12] <| ts [12,12] <| tn [] []) (by omega) ?_; intro A₀ R₀ h₀ sz0 tk0 a0 ad aD fin gd mm o
  refine mm [0,0,0,0,0,0,0,0,0] (read_other (X := X) (R := R) (q := q) (m := m) (n := n) (ln := ln) (cs := (cs ++ [chV c.succ t])) (c := 92) (t := te) (by omega) hi (by assumption) h92) ?_; intro o _ sz1 tk1 _
  refine mm [] (str_eq_does (x := (sOf [])) (t := F.se) (y := (sOf [92])) (u := te) (b := false) (by assumption)) ?_; intro o _ sz2 tk2 _
  refine mm [] (str_eq_does (x := (sOf [92])) (t := te) (y := (sOf [34])) (u := (tk2 + 1)) (b := false) (by assumption)) ?_; intro o _ sz3 tk3 _
  refine mm [] (str_eq_does (x := (sOf [92])) (t := te) (y := (sOf [92])) (u := tk3) (b := true) (by assumption)) ?_; intro o _ sz4 tk4 _
  refine mm [0,0,0,0,0,0,0,0,0] (read_other (X := X) (R := R) (q := q) (m := m) (n := (n + 1)) (ln := ln) (cs := cs) (c := c.succ) (t := t) (by omega) hi (by assumption) (by assumption)) ?_; intro o _ sz5 tk5 _
  refine mm [] (add_does (x := sOf x) (t := tx) (y := (sOf [c.succ])) (u := t) (by assumption)) ?_; intro o k2 sz6 tk6 _
  exact tail_same a0 [0,0,0,0,0,0,0,0,0,0,0,0] (next k2) ad (by kernel_rfl) (by kernel_rfl) fin

theorem C_ws (hD : D + 150 ≤ recursionLimit) (hi : X.ins = .ref R.st) (hn : cs.length < sizeLine) (h0 : c ≠ 0) (hc : same (sOf [c]) nlS = false) (hw : inWs c = true) :
    Does e.G D (loopC e.w F) (TokL e.w X R F ln q m (cs ++ [chV c t]) n (fr4 F g X.l (.str (sOf x) tx) ch)) (fun _ : Tok => True) (fun _ => retV (.str (sOf x) tx)) (fun _ => TokL e.w X R F ln q m cs (n + 1) (fr4 F g X.l (.str (sOf x) tx) (chV c t))) (fun _ => []) := by
  obtain ⟨c,rfl⟩ := Nat.exists_eq_succ_of_ne_zero h0
  have he := nil_ne c.succ
  refine walk (ts [10,10,10,10,11,0,0,11] <| ts [10,10,1001] <| ts [12,12,12,12,1,0,0,0,1,0,0,0,1,1,0,2] <| tn [12] []) (by omega) ?_; intro A₀ R₀ h₀ sz0 tk0 a0 ad aD fin gd mm o
  refine mm [0,0,0,0,0,0,0,0,0] (read_other (X := X) (R := R) (q := q) (m := m) (n := n) (ln := ln) (cs := cs) (c := c.succ) (t := t) (by omega) hi (by assumption) (by assumption)) ?_; intro o _ sz1 tk1 _
  refine mm [] (str_eq_does (x := (sOf [])) (t := F.se) (y := (sOf [c.succ])) (u := t) (b := false) (by assumption)) ?_; intro o _ sz2 tk2 _
  refine mm [] (ws_does (c := c.succ) (t := X.ws) (u := t) (b := true) (by assumption)) ?_; intro o _ sz3 tk3 _
  exact ret_good 0 [0,0,0,0,0,0,0,0,0,0,0,0] trivial fin rfl

theorem C_nl (hD : D + 150 ≤ recursionLimit) (hi : X.ins = .ref R.st) {i : Nat} {u : Tok} (hn : cs.length < sizeLine) :
    Does e.G D (loopC e.w F) (TokL e.w X R F (.int (.ofNat i) u) q m (cs ++ [chV 10 t]) n (fr4 F g X.l (.str (sOf x) tx) ch)) (fun _ : Tok => True) (fun _ => retV (.str (sOf x) tx)) (fun k => TokL e.w X R F (.int (.ofNat (i + 1)) k) q m cs (n + 1) (fr4 F g X.l (.str (sOf x) tx) (chV 10 t))) (fun _ => []) := by
  have he := nil_ne 10
  have hw : inWs 10 = true := by decide +kernel
  refine walk (ts [10,10,10,10,11,0,0,11] <| ts [10,10,1001] <| ts [12,12,12,12,1,0,0,0,1,0,0,0,1,1,0,2] <| tn [12] []) (by omega) ?_; intro A₀ R₀ h₀ sz0 tk0 a0 ad aD fin gd mm o
  refine mm [0,0,0,0,0,0,0,0,0] (read_nl (i := i) (u := u) (X := X) (R := R) (q := q) (m := m) (n := n) (cs := cs) (t := t) (by omega) hi (by assumption)) ?_; intro o k0 sz1 tk1 _
  refine mm [] (str_eq_does (x := (sOf [])) (t := F.se) (y := (sOf [10])) (u := t) (b := false) (by assumption)) ?_; intro o _ sz2 tk2 _
  refine mm [] (ws_does (c := 10) (t := X.ws) (u := t) (b := true) (by assumption)) ?_; intro o _ sz3 tk3 _
  exact ret_good k0 [0,0,0,0,0,0,0,0,0,0,0,0] trivial fin rfl

theorem C_end (hD : D + 150 ≤ recursionLimit) (hi : X.ins = .ref R.st)  :
    Does e.G D (loopC e.w F) (TokL e.w X R F ln q m [] n (fr4 F g X.l (.str (sOf x) tx) ch)) (fun _ : Unit => True) (fun _ => .ok .next) (fun _ => TokE e.w X R F ln q m [] n (fr4 F g X.l (.str (sOf x) tx) ch)) (fun _ => []) := by
  have he : same (sOf []) (sOf []) = true := by decide
  refine walk (ts [10,10,10,10,11,0,0,11] <| tn [10] <| [.mid 9]) (by omega) ?_; intro A₀ R₀ h₀ sz0 tk0 a0 ad aD fin gd mm o
  refine mm [0,0,0,0,0,0,0,0,0] (read_end (ln := ln) (X := X) (R := R) (q := q) (m := m) (n := n) (by omega) hi) ?_; intro o k0 sz1 tk1 _
  by_cases hk : F.se = k0
  · subst hk
    refine mid a0 aD (restNY PySem.W.Fast.tw7774638238746244234 (.ref F.fi) (.str (sOf []) F.se) eqIdY) (tn [10,11,0,10,10,10,10,10,10,1] []) (by kernel_rfl) (by kernel_rfl) ((by kernel_rfl : _ = restNY PySem.W.Fast.tw7774638238746244234 (.ref F.fi) (.str (sOf []) F.se) (eqBoolY (.str (sOf []) F.se) (.str (sOf []) F.se))).trans (congrArg _ (eqBool_same _ _))) ?_; intro o
    exact ret_good () [2,2,2,2,2,2,2,2,2,2,2,2] trivial fin rfl
  · refine mid a0 aD (restNY PySem.W.Fast.tw7774638238746244234 (.ref F.fi) (.str (sOf []) k0) (eqNeY (.str (sOf []) F.se) (.str (sOf []) k0))) (ts [1001] <| tn [10,11,0,10,10,10,10,10,10,1] []) (by kernel_rfl) (by kernel_rfl) ((by kernel_rfl : _ = restNY PySem.W.Fast.tw7774638238746244234 (.ref F.fi) (.str (sOf []) k0) (eqBoolY (.str (sOf []) F.se) (.str (sOf []) k0))).trans (congrArg _ (eqBool_strs _ _ _ hk))) ?_; intro o
    refine mm [] (str_eq_does (x := (sOf [])) (t := F.se) (y := (sOf [])) (u := k0) (b := true) (by assumption)) ?_; intro o _ sz2 tk2 _
    exact ret_good () [2,2,2,2,2,2,2,2,2,2,2,2] trivial fin rfl

theorem B_end (hD : D + 150 ≤ recursionLimit) (hi : X.ins = .ref R.st)  :
    Does e.G D (loopB e.w F) (TokL e.w X R F ln q m [] n (fr4 F g X.l (.str (sOf x) tx) ch)) (fun _ : Unit => True) (fun _ => .ok .next) (fun _ => TokE e.w X R F ln q m [] n (fr4 F g X.l (.str (sOf x) tx) ch)) (fun _ => []) := by
  have he : same (sOf []) (sOf []) = true := by decide
  refine walk (ts [10,10,10,10,11,0,0,11] <| tn [10] <| [.mid 9]) (by omega) ?_; intro A₀ R₀ h₀ sz0 tk0 a0 ad aD fin gd mm o
  refine mm [0,0,0,0,0,0,0,0,0] (read_end (ln := ln) (X := X) (R := R) (q := q) (m := m) (n := n) (by omega) hi) ?_; intro o k0 sz1 tk1 _
  by_cases hk : F.se = k0
  · subst hk
    refine mid a0 aD (restNY PySem.W.Fast.tw7774638238746244234 (.ref F.fi) (.str (sOf []) F.se) eqIdY) (tn [10,11,0,10,10,10,10,10,10,1] []) (by kernel_rfl) (by kernel_rfl) ((by kernel_rfl : _ = restNY PySem.W.Fast.tw7774638238746244234 (.ref F.fi) (.str (sOf []) F.se) (eqBoolY (.str (sOf []) F.se) (.str (sOf []) F.se))).trans (congrArg _ (eqBool_same _ _))) ?_; intro o
    exact ret_good () [2,2,2,2,2,2,2,2,2,2,2,2] trivial fin rfl
  · refine mid a0 aD (restNY PySem.W.Fast.tw7774638238746244234 (.ref F.fi) (.str (sOf []) k0) (eqNeY (.str (sOf []) F.se) (.str (sOf []) k0))) (ts [1001] <| tn [10,11,0,10,10,10,10,10,10,1] []) (by kernel_rfl) (by kernel_rfl) ((by kernel_rfl : _ = restNY PySem.W.Fast.tw7774638238746244234 (.ref F.fi) (.str (sOf []) k0) (eqBoolY (.str (sOf []) F.se) (.str (sOf []) k0))).trans (congrArg _ (eqBool_strs _ _ _ hk))) ?_; intro o
    refine mm [] (str_eq_does (x := (sOf [])) (t := F.se) (y := (sOf [])) (u := k0) (b := true) (by assumption)) ?_; intro o _ sz2 tk2 _
    exact ret_good () [2,2,2,2,2,2,2,2,2,2,2,2] trivial fin rfl

theorem A_end (hD : D + 150 ≤ recursionLimit) (hi : X.ins = .ref R.st)  :
    Does e.G D (loopA e.w F) (TokL e.w X R F ln q m [] n (frO F b X.l (.str (sOf x) tx))) (fun _ : Unit => True) (fun _ => .ok .next) (fun _ => TokE e.w X R F ln q m [] n (frO F b X.l (.str (sOf x) tx))) (fun _ => []) := by
  cases b
  all_goals
    have he : same (sOf []) (sOf []) = true := by decide
    refine walk (ts [10,10,10,10,11,0,0,11] <| tn [10] <| [.mid 9]) (by omega) ?_; intro A₀ R₀ h₀ sz0 tk0 a0 ad aD fin gd mm o
    refine mm [0,0,0,0,0,0,0,0,0] (read_end (ln := ln) (X := X) (R := R) (q := q) (m := m) (n := n) (by omega) hi) ?_; intro o k0 sz1 tk1 _
    by_cases hk : F.se = k0
    · subst hk
      refine mid a0 aD (restNY PySem.W.Fast.tw7774638238746244234 (.ref F.fi) (.str (sOf []) F.se) eqIdY) (tn [10,11,0,10,10,10,10,10,10,1] []) (by kernel_rfl) (by kernel_rfl) ((by kernel_rfl : _ = restNY PySem.W.Fast.tw7774638238746244234 (.ref F.fi) (.str (sOf []) F.se) (eqBoolY (.str (sOf []) F.se) (.str (sOf []) F.se))).trans (congrArg _ (eqBool_same _ _))) ?_; intro o
      exact ret_good () [2,2,2,2,2,2,2,2,2,2,2,2] trivial fin rfl
    · refine mid a0 aD (restNY PySem.W.Fast.tw7774638238746244234 (.ref F.fi) (.str (sOf []) k0) (eqNeY (.str (sOf []) F.se) (.str (sOf []) k0))) (ts [1001] <| tn [10,11,0,10,10,10,10,10,10,1] []) (by kernel_rfl) (by kernel_rfl) ((by kernel_rfl : _ = restNY PySem.W.Fast.tw7774638238746244234 (.ref F.fi) (.str (sOf []) k0) (eqBoolY (.str (sOf []) F.se) (.str (sOf []) k0))).trans (congrArg _ (eqBool_strs _ _ _ hk))) ?_; intro o
      refine mm [] (str_eq_does (x := (sOf [])) (t := F.se) (y := (sOf [])) (u := k0) (b := true) (by assumption)) ?_; intro o _ sz2 tk2 _
      exact ret_good () [2,2,2,2,2,2,2,2,2,2,2,2] trivial fin rfl

theorem B_close (hD : D + 150 ≤ recursionLimit) (hi : X.ins = .ref R.st) (hn : cs.length < sizeLine) :
    Does e.G D (loopB e.w F) (TokL e.w X R F ln q m (cs ++ [chV 34 t]) n (fr4 F g X.l (.str (sOf x) tx) ch)) (fun _ : Tok => True) (fun _ => retV (.str (sOf x) tx)) (fun _ => TokL e.w X R F ln q m cs (n + 1) (fr4 F g X.l (.str (sOf x) tx) (chV 34 t))) (fun _ => []) := by
  have he := nil_ne 34
  have hc : same (sOf [34]) nlS = false := by decide
  have hq : same (sOf [34]) (sOf [34]) = true := by decide
  refine walk (ts [10,10,10,10,11,0,0,11] <| ts [10,10,1001] <| ts [12,12,12,1001] <| tn [12] []) (by omega) ?_; intro A₀ R₀ h₀ sz0 tk0 a0 ad aD fin gd mm o
  refine mm [0,0,0,0,0,0,0,0,0] (read_other (X := X) (R := R) (q := q) (m := m) (n := n) (ln := ln) (cs := cs) (c := 34) (t := t) (by omega) hi (by assumption) (by assumption)) ?_; intro o _ sz1 tk1 _
  refine mm [] (str_eq_does (x := (sOf [])) (t := F.se) (y := (sOf [34])) (u := t) (b := false) (by assumption)) ?_; intro o _ sz2 tk2 _
  refine mm [] (str_eq_does (x := (sOf [34])) (t := t) (y := (sOf [34])) (u := (tk2 + 1)) (b := true) (by assumption)) ?_; intro o _ sz3 tk3 _
  exact ret_good 0 [0,0,0,0,0,0,0,0,0,0,0,0] trivial fin rfl

end
end Mine
end
section
open PySem PySem.W PySem.W.X PyProof.Rows
set_option genInjectivity false
set_option genCtorIdx false
set_option backward.match.sparseCases false
namespace Mine
structure Un where
  esc : Option Tok
  c : Nat
  t : Tok
noncomputable def Un.signs (u : Un) : List Value := match u.esc with
  | some te => [chV 92 te,chV u.c u.t]
  | none => [chV u.c u.t]
noncomputable def signsOf (us : List Un) : List Value := us.flatMap Un.signs
noncomputable def txtOf (us : List Un) : List Nat := us.map (·.c)
noncomputable def okU (p : Nat → Bool) (u : Un) : Bool := decide (u.c ≠ 0) && !same (sOf [u.c]) nlS && (match u.esc with | some _ => true | none => p u.c && !same (sOf [u.c]) bsS)
noncomputable def okC : Un → Bool := okU fun c => !inWs c
noncomputable def okB : Un → Bool := okU fun c => !same (sOf [c]) quS
theorem signs_len (u : Un) : 1 ≤ u.signs.length ∧ u.signs.length ≤ 2 := by
  obtain ⟨o,c,t⟩ := u
  cases o <;> simp [Un.signs]
section
variable {e : Env0} {D : Nat} {X : Lx} {R : Rx} {F : Fx} {ln : Value} {q rest : List Value} {m n n' : Nat} {x y : List Nat} {tx : Tok} {g : Int × Tok} {ch : Value} {b : Option ((Int × Tok) × Value)}
variable {α : Type} {ok : α → Prop} {res : α → Result} {post news : α → Led}
theorem C_units (hD : D + 150 ≤ recursionLimit) (hi : X.ins = .ref R.st) : ∀ (us : List Un) (x : List Nat) (tx : Tok) (ch : Value) (n : Nat),us.all okC = true → (rest.length + (signsOf us).length < sizeLine) → (x.length + us.length ≤ sizeLine) → 
    (∀ k ch,Does e.G D (loopC e.w F) (TokL e.w X R F ln q m rest (n + (signsOf us).length) (fr4 F g X.l (.str (sOf (x ++ txtOf us)) k) ch)) ok res post news) →
    Does e.G D (loopC e.w F) (TokL e.w X R F ln q m (rest ++ (signsOf us).reverse) n (fr4 F g X.l (.str (sOf x) tx) ch)) ok res post news := by
  intro us
  induction us with
  | nil => intro x tx ch n _ _ _ next; simpa [signsOf,txtOf] using next tx ch
  | cons u us ih =>
    intro x tx ch n hu hs hx next
    obtain ⟨o,c,t⟩ := u
    have hs0 : (signsOf (⟨o,c,t⟩ :: us)).length = (Un.signs ⟨o,c,t⟩).length + (signsOf us).length := by simp [signsOf]
    simp only [List.all_cons,Bool.and_eq_true,okC,okU,decide_eq_true_eq,Bool.not_eq_true'] at hu
    obtain ⟨⟨⟨h0,hc⟩,hq⟩,hus⟩ := hu
    simp only [List.length_cons] at hx
    have hl : (sOf x ++ sOf [c]).length ≤ sizeLine := by rw [sOf_app,sOf_len]; simp; omega
    have step : ∀ n',n' + (signsOf us).length = n + (signsOf (⟨o,c,t⟩ :: us)).length → ∀ k,Does e.G D (loopC e.w F) (TokL e.w X R F ln q m (rest ++ (signsOf us).reverse) n' (fr4 F g X.l (.str (sOf x ++ sOf [c]) k) (chV c t))) ok res post news := by
      intro n' hn' k
      rw [sOf_app]
      refine ih _ _ _ _ (by simpa [okC,okU] using hus) (by omega) (by simp; omega) fun k ch => ?_
      have := next k ch
      rw [hn']
      simpa [txtOf] using this
    cases o with
    | none =>
      simp only [Bool.and_eq_true,Bool.not_eq_true'] at hq
      have := C_plain (e := e) (F := F) (ln := ln) (q := q) (cs := rest ++ (signsOf us).reverse) (m := m) (n := n) (c := c) (t := t) (x := x) (tx := tx) (g := g) (ch := ch) hD hi (by simp only [List.length_append,List.length_reverse]; omega) h0 hc hq.1 hq.2 hl (step (n + 1) (by rw [hs0]; simp [Un.signs]; omega))
      simpa [signsOf,Un.signs] using this
    | some te =>
      have := C_esc (e := e) (F := F) (ln := ln) (q := q) (cs := rest ++ (signsOf us).reverse) (m := m) (n := n) (c := c) (t := t) (te := te) (x := x) (tx := tx) (g := g) (ch := ch) hD hi (by simp only [List.length_append,List.length_reverse]; omega) h0 hc hl (by simp only [List.length_append,List.length_reverse,List.length_cons,List.length_nil]; simp [Un.signs] at hs0; omega) (step (n + 1 + 1) (by rw [hs0]; simp [Un.signs]; omega))
      simpa [signsOf,Un.signs] using this
theorem B_units (hD : D + 150 ≤ recursionLimit) (hi : X.ins = .ref R.st) : ∀ (us : List Un) (x : List Nat) (tx : Tok) (ch : Value) (n : Nat),us.all okB = true → (rest.length + (signsOf us).length < sizeLine) → (x.length + us.length ≤ sizeLine) → 
    (∀ k ch,Does e.G D (loopB e.w F) (TokL e.w X R F ln q m rest (n + (signsOf us).length) (fr4 F g X.l (.str (sOf (x ++ txtOf us)) k) ch)) ok res post news) →
    Does e.G D (loopB e.w F) (TokL e.w X R F ln q m (rest ++ (signsOf us).reverse) n (fr4 F g X.l (.str (sOf x) tx) ch)) ok res post news := by
  intro us
  induction us with
  | nil => intro x tx ch n _ _ _ next; simpa [signsOf,txtOf] using next tx ch
  | cons u us ih =>
    intro x tx ch n hu hs hx next
    obtain ⟨o,c,t⟩ := u
    have hs0 : (signsOf (⟨o,c,t⟩ :: us)).length = (Un.signs ⟨o,c,t⟩).length + (signsOf us).length := by simp [signsOf]
    simp only [List.all_cons,Bool.and_eq_true,okB,okU,decide_eq_true_eq,Bool.not_eq_true'] at hu
    obtain ⟨⟨⟨h0,hc⟩,hq⟩,hus⟩ := hu
    simp only [List.length_cons] at hx
    have hl : (sOf x ++ sOf [c]).length ≤ sizeLine := by rw [sOf_app,sOf_len]; simp; omega
    have step : ∀ n',n' + (signsOf us).length = n + (signsOf (⟨o,c,t⟩ :: us)).length → ∀ k,Does e.G D (loopB e.w F) (TokL e.w X R F ln q m (rest ++ (signsOf us).reverse) n' (fr4 F g X.l (.str (sOf x ++ sOf [c]) k) (chV c t))) ok res post news := by
      intro n' hn' k
      rw [sOf_app]
      refine ih _ _ _ _ (by simpa [okB,okU] using hus) (by omega) (by simp; omega) fun k ch => ?_
      have := next k ch
      rw [hn']
      simpa [txtOf] using this
    cases o with
    | none =>
      simp only [Bool.and_eq_true,Bool.not_eq_true'] at hq
      have := B_plain (e := e) (F := F) (ln := ln) (q := q) (cs := rest ++ (signsOf us).reverse) (m := m) (n := n) (c := c) (t := t) (x := x) (tx := tx) (g := g) (ch := ch) hD hi (by simp only [List.length_append,List.length_reverse]; omega) h0 hc hq.1 hq.2 hl (step (n + 1) (by rw [hs0]; simp [Un.signs]; omega))
      simpa [signsOf,Un.signs] using this
    | some te =>
      have := B_esc (e := e) (F := F) (ln := ln) (q := q) (cs := rest ++ (signsOf us).reverse) (m := m) (n := n) (c := c) (t := t) (te := te) (x := x) (tx := tx) (g := g) (ch := ch) hD hi (by simp only [List.length_append,List.length_reverse]; omega) h0 hc hl (by simp only [List.length_append,List.length_reverse,List.length_cons,List.length_nil]; simp [Un.signs] at hs0; omega) (step (n + 1 + 1) (by rw [hs0]; simp [Un.signs]; omega))
      simpa [signsOf,Un.signs] using this
end
end Mine
namespace Mine
theorem meet_w {e : Env0} {h₀ : Heap} {H : List Addr} {A₀ : Around} {R₀ : Result → Shared → Prop} {α β : Type} {D : Nat} {c : Code} {pre : β → Led} {ok : α → Prop} {res : α → Result} {post news : α → Led} {out : Out} {D₀ : Nat} (h0 : Calm A₀ D₀) (hA : A₀.depth + 100 ≤ recursionLimit) (idx : List Nat) (f : Out → β)
    (does : ∀ b,Does e.G D c (pre b) ok res post news) (hD : D₀ + 50 ≤ D)
    (h1 : out.obsL = out.obsR) (h2 : out.stop? idx = some (c,pre (f out),none,true)) (hk : ∀ x,keys (post x) = keys (pre (f out)))
    (next : let F := stepF e out idx res post news; ∀ x sz tk,ok x → (F x sz tk).Good e.G h₀ H A₀ R₀) : out.Good e.G h₀ H A₀ R₀ :=
  meet h0 hA idx (does (f out)) hD h1 h2 hk next
theorem tail_same_w {G : Gc} {h₀ : Heap} {A₀ : Around} {R₀ : Result → Shared → Prop} {α β : Type} {D : Nat} {c : Code} {pre : Led} {pre' : β → Led} {ok : α → Prop} {res : α → Result} {post news : α → Led} {out : Out} (h0 : Calm A₀ D) (idx : List Nat) (f : Out → β)
    (does : ∀ b,Does G D c (pre' b) ok res post news) (hD : A₀.depth ≤ D)
    (h1 : out.obsL = out.obsR) (h2 : out.tail? idx = some (c,pre' (f out)))
    (hfin : ∀ x s',ok x → G.Fine s' → Own s'.heap (post x) → Own s'.heap (news x) → Keeps (keys pre) h₀ s'.heap → (∀ p ∈ news x,h₀.objs.size ≤ p.1) → (keys (news x)).Nodup → R₀ (res x) s') :
    out.Good G h₀ (keys pre) A₀ R₀ := tail_same h0 idx (does (f out)) hD h1 h2 hfin
noncomputable def GivesTok (e : Env0) (D : Nat) (c : Code) (pre : Led) (X : Lx) (R : Rx) (F : Fx) (lnf : Tok → Value) (q : List Value) (m : Nat) (cs : List Value) (n : Nat) (y : List Nat) : Prop :=
  Does e.G D c pre (fun _ : Tok × Tok × Obj => True) (fun z => retV (.str (sOf y) z.1)) (fun z => TokL e.w X R F (lnf z.2.1) q m cs n z.2.2) (fun _ => [])
noncomputable def EndsTok (e : Env0) (D : Nat) (c : Code) (pre : Led) (X : Lx) (R : Rx) (F : Fx) (ln : Value) (q : List Value) (m : Nat) (n : Nat) (y : List Nat) : Prop :=
  Does e.G D c pre (fun _ : Tok × (Int × Tok) × Value => True) (fun z => .ok .next) (fun z => TokE e.w X R F ln q m [] n (fr4 F z.2.1 X.l (.str (sOf y) z.1) z.2.2)) (fun _ => [])
section
variable {e : Env0} {D : Nat} {X : Lx} {R : Rx} {F : Fx} {ln : Value} {lnf : Tok → Value} {q cs rest : List Value} {m n n' : Nat} {c : Nat} {t te : Tok} {x y : List Nat} {tx : Tok} {g : Int × Tok} {ch : Value} {b : Option ((Int × Tok) × Value)}
variable {α : Type} {ok : α → Prop} {res : α → Result} {post news : α → Led}

theorem A_plain (hD : D + 200 ≤ recursionLimit) (hi : X.ins = .ref R.st) (hn : cs.length < sizeLine) (h0 : c ≠ 0) (hc : same (sOf [c]) nlS = false) (hw : inWs c = false) (hq : same (sOf [c]) quS = false) (hb : same (sOf [c]) bsS = false)
    (hC : ∀ (g : Int × Tok) (k : Tok),GivesTok e (D + 50) (loopC e.w F) (TokL e.w X R F ln q m cs (n + 1) (fr4 F g X.l (.str (sOf [c]) k) (chV c t))) X R F lnf q m rest n' y) :
    GivesTok e D (loopA e.w F) (TokL e.w X R F ln q m (cs ++ [chV c t]) n (frO F b X.l (.str (sOf []) tx))) X R F lnf q m rest n' y := by
  obtain ⟨c,rfl⟩ := Nat.exists_eq_succ_of_ne_zero h0
  have he := nil_ne c.succ
  have hl : (sOf [] ++ sOf [c.succ]).length ≤ sizeLine := by rw [sOf_app,sOf_len]; exact (by decide : 1 ≤ sizeLine)
  cases b
  all_goals
    refine walk (ts [10,10,10,10,11,0,0,11] <| ts [10,10,1001] <| ts [12,12,12,12,1,0,0,0,1,0,0,0,1,1,0,2] <| ts [12,1001] <| ts [12,1001] <| ts [12,12] <| ts [12,12,12,10,10,1001,10,10] <| tn [] []) (by omega) ?_; intro A₀ R₀ h₀ sz0 tk0 a0 ad aD fin gd mm o
    refine mm [0,0,0,0,0,0,0,0,0] (read_other (X := X) (R := R) (q := q) (m := m) (n := n) (ln := ln) (cs := cs) (c := c.succ) (t := t) (by omega) hi (by assumption) (by assumption)) ?_; intro o _ sz1 tk1 _
    refine mm [] (str_eq_does (x := (sOf [])) (t := F.se) (y := (sOf [c.succ])) (u := t) (b := false) (by assumption)) ?_; intro o _ sz2 tk2 _
    refine mm [] (ws_does (c := c.succ) (t := X.ws) (u := t) (b := false) (by assumption)) ?_; intro o _ sz3 tk3 _
    refine mm [] (str_eq_does (x := (sOf [c.succ])) (t := t) (y := (sOf [34])) (u := tk3) (b := false) (by assumption)) ?_; intro o _ sz4 tk4 _
    refine mm [] (str_eq_does (x := (sOf [c.succ])) (t := t) (y := (sOf [92])) (u := tk4) (b := false) (by assumption)) ?_; intro o _ sz5 tk5 _
    refine mm [] (add_does (x := sOf []) (t := tx) (y := (sOf [c.succ])) (u := t) (by assumption)) ?_; intro o k1 sz6 tk6 _
    refine meet_w (D := D + 50) a0 aD [0,0,0,0,0,0,0,0,0,0,0,0] (fun o => entOf (o.ob 11) 3) (fun g => hC g k1) (by omega) (by kernel_rfl) (by kernel_rfl) (fun _ => rfl) ?_; intro o x sz7 tk7 _
    exact ret_good x [0,0,0,0,0,0,0,0,0,0,0,0] trivial fin rfl

theorem A_quote (hD : D + 200 ≤ recursionLimit) (hi : X.ins = .ref R.st) (hn : cs.length < sizeLine)
    (hC : ∀ (g : Int × Tok) (k : Tok),GivesTok e (D + 50) (loopB e.w F) (TokL e.w X R F ln q m cs (n + 1) (fr4 F g X.l (.str (sOf []) tx) (chV 34 t))) X R F lnf q m rest n' y) :
    GivesTok e D (loopA e.w F) (TokL e.w X R F ln q m (cs ++ [chV 34 t]) n (frO F b X.l (.str (sOf []) tx))) X R F lnf q m rest n' y := by
  have he := nil_ne 34
  have hc : same (sOf [34]) nlS = false := by decide
  have hw : inWs 34 = false := by decide +kernel
  have hq : same (sOf [34]) (sOf [34]) = true := by decide
  cases b
  all_goals
    refine walk (ts [10,10,10,10,11,0,0,11] <| ts [10,10,1001] <| ts [12,12,12,12,1,0,0,0,1,0,0,0,1,1,0,2] <| ts [12,1001] <| ts [12,10,10,1001,10,10] <| tn [] []) (by omega) ?_; intro A₀ R₀ h₀ sz0 tk0 a0 ad aD fin gd mm o
    refine mm [0,0,0,0,0,0,0,0,0] (read_other (X := X) (R := R) (q := q) (m := m) (n := n) (ln := ln) (cs := cs) (c := 34) (t := t) (by omega) hi (by assumption) (by assumption)) ?_; intro o _ sz1 tk1 _
    refine mm [] (str_eq_does (x := (sOf [])) (t := F.se) (y := (sOf [34])) (u := t) (b := false) (by assumption)) ?_; intro o _ sz2 tk2 _
    refine mm [] (ws_does (c := 34) (t := X.ws) (u := t) (b := false) (by assumption)) ?_; intro o _ sz3 tk3 _
    refine mm [] (str_eq_does (x := (sOf [34])) (t := t) (y := (sOf [34])) (u := tk3) (b := true) (by assumption)) ?_; intro o _ sz4 tk4 _
    refine meet_w (D := D + 50) a0 aD [0,0,0,0,0,0,0,0,0,0,0,0] (fun o => entOf (o.ob 11) 3) (fun g => hC g tx) (by omega) (by kernel_rfl) (by kernel_rfl) (fun _ => rfl) ?_; intro o x sz5 tk5 _
    exact ret_good x [0,0,0,0,0,0,0,0,0,0,0,0] trivial fin rfl

theorem A_plain_end (hD : D + 200 ≤ recursionLimit) (hi : X.ins = .ref R.st) (hn : cs.length < sizeLine) (h0 : c ≠ 0) (hc : same (sOf [c]) nlS = false) (hw : inWs c = false) (hq : same (sOf [c]) quS = false) (hb : same (sOf [c]) bsS = false)
    (hC : ∀ (g : Int × Tok) (k : Tok),EndsTok e (D + 50) (loopC e.w F) (TokL e.w X R F ln q m cs (n + 1) (fr4 F g X.l (.str (sOf [c]) k) (chV c t))) X R F ln q m n' y) :
    EndsTok e D (loopA e.w F) (TokL e.w X R F ln q m (cs ++ [chV c t]) n (frO F b X.l (.str (sOf []) tx))) X R F ln q m n' y := by
  obtain ⟨c,rfl⟩ := Nat.exists_eq_succ_of_ne_zero h0
  have he := nil_ne c.succ
  have hl : (sOf [] ++ sOf [c.succ]).length ≤ sizeLine := by rw [sOf_app,sOf_len]; exact (by decide : 1 ≤ sizeLine)
  cases b
  all_goals
    refine walk (ts [10,10,10,10,11,0,0,11] <| ts [10,10,1001] <| ts [12,12,12,12,1,0,0,0,1,0,0,0,1,1,0,2] <| ts [12,1001] <| ts [12,1001] <| ts [12,12] <| ts [12,12,12,10,10,1001,10,10] <| tn [10,10,10,1] []) (by omega) ?_; intro A₀ R₀ h₀ sz0 tk0 a0 ad aD fin gd mm o
    refine mm [0,0,0,0,0,0,0,0,0] (read_other (X := X) (R := R) (q := q) (m := m) (n := n) (ln := ln) (cs := cs) (c := c.succ) (t := t) (by omega) hi (by assumption) (by assumption)) ?_; intro o _ sz1 tk1 _
    refine mm [] (str_eq_does (x := (sOf [])) (t := F.se) (y := (sOf [c.succ])) (u := t) (b := false) (by assumption)) ?_; intro o _ sz2 tk2 _
    refine mm [] (ws_does (c := c.succ) (t := X.ws) (u := t) (b := false) (by assumption)) ?_; intro o _ sz3 tk3 _
    refine mm [] (str_eq_does (x := (sOf [c.succ])) (t := t) (y := (sOf [34])) (u := tk3) (b := false) (by assumption)) ?_; intro o _ sz4 tk4 _
    refine mm [] (str_eq_does (x := (sOf [c.succ])) (t := t) (y := (sOf [92])) (u := tk4) (b := false) (by assumption)) ?_; intro o _ sz5 tk5 _
    refine mm [] (add_does (x := sOf []) (t := tx) (y := (sOf [c.succ])) (u := t) (by assumption)) ?_; intro o k1 sz6 tk6 _
    refine meet_w (D := D + 50) a0 aD [0,0,0,0,0,0,0,0,0,0,0,0] (fun o => entOf (o.ob 11) 3) (fun g => hC g k1) (by omega) (by kernel_rfl) (by kernel_rfl) (fun _ => rfl) ?_; intro o x sz7 tk7 _
    exact ret_good x [2,2,2,2,2,2,2,2,2,2,2,2] trivial fin rfl

theorem A_quote_end (hD : D + 200 ≤ recursionLimit) (hi : X.ins = .ref R.st) (hn : cs.length < sizeLine)
    (hC : ∀ (g : Int × Tok) (k : Tok),EndsTok e (D + 50) (loopB e.w F) (TokL e.w X R F ln q m cs (n + 1) (fr4 F g X.l (.str (sOf []) tx) (chV 34 t))) X R F ln q m n' y) :
    EndsTok e D (loopA e.w F) (TokL e.w X R F ln q m (cs ++ [chV 34 t]) n (frO F b X.l (.str (sOf []) tx))) X R F ln q m n' y := by
  have he := nil_ne 34
  have hc : same (sOf [34]) nlS = false := by decide
  have hw : inWs 34 = false := by decide +kernel
  have hq : same (sOf [34]) (sOf [34]) = true := by decide
  cases b
  all_goals
    refine walk (ts [10,10,10,10,11,0,0,11] <| ts [10,10,1001] <| ts [12,12,12,12,1,0,0,0,1,0,0,0,1,1,0,2] <| ts [12,1001] <| ts [12,10,10,1001,10,10] <| tn [10,10,10,1] []) (by omega) ?_; intro A₀ R₀ h₀ sz0 tk0 a0 ad aD fin gd mm o
    refine mm [0,0,0,0,0,0,0,0,0] (read_other (X := X) (R := R) (q := q) (m := m) (n := n) (ln := ln) (cs := cs) (c := 34) (t := t) (by omega) hi (by assumption) (by assumption)) ?_; intro o _ sz1 tk1 _
    refine mm [] (str_eq_does (x := (sOf [])) (t := F.se) (y := (sOf [34])) (u := t) (b := false) (by assumption)) ?_; intro o _ sz2 tk2 _
    refine mm [] (ws_does (c := 34) (t := X.ws) (u := t) (b := false) (by assumption)) ?_; intro o _ sz3 tk3 _
    refine mm [] (str_eq_does (x := (sOf [34])) (t := t) (y := (sOf [34])) (u := tk3) (b := true) (by assumption)) ?_; intro o _ sz4 tk4 _
    refine meet_w (D := D + 50) a0 aD [0,0,0,0,0,0,0,0,0,0,0,0] (fun o => entOf (o.ob 11) 3) (fun g => hC g tx) (by omega) (by kernel_rfl) (by kernel_rfl) (fun _ => rfl) ?_; intro o x sz5 tk5 _
    exact ret_good x [2,2,2,2,2,2,2,2,2,2,2,2] trivial fin rfl

theorem A_esc (hD : D + 200 ≤ recursionLimit) (hi : X.ins = .ref R.st) (hn : cs.length < sizeLine) (hn1 : (cs ++ [chV c t]).length < sizeLine) (h0 : c ≠ 0) (hc : same (sOf [c]) nlS = false)
    (hC : ∀ (g : Int × Tok) (k : Tok),GivesTok e (D + 50) (loopC e.w F) (TokL e.w X R F ln q m cs (n + 1 + 1) (fr4 F g X.l (.str (sOf [c]) k) (chV c t))) X R F lnf q m rest n' y) :
    GivesTok e D (loopA e.w F) (TokL e.w X R F ln q m ((cs ++ [chV c t]) ++ [chV 92 te]) n (frO F b X.l (.str (sOf []) tx))) X R F lnf q m rest n' y := by
  obtain ⟨c,rfl⟩ := Nat.exists_eq_succ_of_ne_zero h0
  have he := nil_ne 92
  have h92 : same (sOf [92]) nlS = false := by decide
  have hb : same (sOf [92]) (sOf [92]) = true := by decide
  have hq : same (sOf [92]) (sOf [34]) = false := by decide
  have hw : inWs 92 = false := by decide +kernel
  have hl : (sOf [] ++ sOf [c.succ]).length ≤ sizeLine := by rw [sOf_app,sOf_len]; exact (by decide : 1 ≤ sizeLine)
  cases b
  all_goals
    refine walk (ts [10,10,10,10,11,0,0,11] <| ts [10,10,1001] <| ts [12,12,12,12,1,0,0,0,1,0,0,0,1,1,0,2] <| ts [12,1001] <| ts [12,1001] <| ts [12,1,0,0,0,1,0,0,0,1,0,0,0,0,1,2,0] <| ts [12,12,12,12] <| ts [12,12,12,10,10,1001,10,10] <| tn [] []) (by omega) ?_; intro A₀ R₀ h₀ sz0 tk0 a0 ad aD fin gd mm o
    refine mm [0,0,0,0,0,0,0,0,0] (read_other (X := X) (R := R) (q := q) (m := m) (n := n) (ln := ln) (cs := (cs ++ [chV c.succ t])) (c := 92) (t := te) (by omega) hi (by assumption) h92) ?_; intro o _ sz1 tk1 _
    refine mm [] (str_eq_does (x := (sOf [])) (t := F.se) (y := (sOf [92])) (u := te) (b := false) (by assumption)) ?_; intro o _ sz2 tk2 _
    refine mm [] (ws_does (c := 92) (t := X.ws) (u := te) (b := false) (by assumption)) ?_; intro o _ sz3 tk3 _
    refine mm [] (str_eq_does (x := (sOf [92])) (t := te) (y := (sOf [34])) (u := tk3) (b := false) (by assumption)) ?_; intro o _ sz4 tk4 _
    refine mm [] (str_eq_does (x := (sOf [92])) (t := te) (y := (sOf [92])) (u := tk4) (b := true) (by assumption)) ?_; intro o _ sz5 tk5 _
    refine mm [0,0,0,0,0,0,0,0,0] (read_other (X := X) (R := R) (q := q) (m := m) (n := (n + 1)) (ln := ln) (cs := cs) (c := c.succ) (t := t) (by omega) hi (by assumption) (by assumption)) ?_; intro o _ sz6 tk6 _
    refine mm [] (add_does (x := sOf []) (t := tx) (y := (sOf [c.succ])) (u := t) (by assumption)) ?_; intro o k2 sz7 tk7 _
    refine meet_w (D := D + 50) a0 aD [0,0,0,0,0,0,0,0,0,0,0,0] (fun o => entOf (o.ob 11) 3) (fun g => hC g k2) (by omega) (by kernel_rfl) (by kernel_rfl) (fun _ => rfl) ?_; intro o x sz8 tk8 _
    exact ret_good x [0,0,0,0,0,0,0,0,0,0,0,0] trivial fin rfl

theorem A_blank (hD : D + 200 ≤ recursionLimit) (hi : X.ins = .ref R.st) (hn : cs.length < sizeLine) (h0 : c ≠ 0) (hc : same (sOf [c]) nlS = false) (hw : inWs c = true)
    (next : ∀ g,Does e.G D (loopA e.w F) (TokL e.w X R F ln q m cs (n + 1) (fr4 F g X.l (.str (sOf []) tx) (chV c t))) ok res post news) :
    Does e.G D (loopA e.w F) (TokL e.w X R F ln q m (cs ++ [chV c t]) n (frO F b X.l (.str (sOf []) tx))) ok res post news := by
  obtain ⟨c,rfl⟩ := Nat.exists_eq_succ_of_ne_zero h0
  have he := nil_ne c.succ
  cases b
  all_goals
    refine walk (ts [10,10,10,10,11,0,0,11] <| ts [10,10,1001] <| ts [12,12,12,12,1,0,0,0,1,0,0,0,1,1,0,2] <| ts [] <| tn [] []) (by omega) ?_; intro A₀ R₀ h₀ sz0 tk0 a0 ad aD fin gd mm o
    refine mm [0,0,0,0,0,0,0,0,0] (read_other (X := X) (R := R) (q := q) (m := m) (n := n) (ln := ln) (cs := cs) (c := c.succ) (t := t) (by omega) hi (by assumption) (by assumption)) ?_; intro o _ sz1 tk1 _
    refine mm [] (str_eq_does (x := (sOf [])) (t := F.se) (y := (sOf [c.succ])) (u := t) (b := false) (by assumption)) ?_; intro o _ sz2 tk2 _
    refine mm [] (ws_does (c := c.succ) (t := X.ws) (u := t) (b := true) (by assumption)) ?_; intro o _ sz3 tk3 _
    exact tail_same_w a0 [0,0,0,0,0,0,0,0,0,0,0,0] (fun o => entOf (o.ob 11) 3) (fun g => next g) ad (by kernel_rfl) (by kernel_rfl) fin

end
end Mine
namespace Mine
theorem meet_v {e : Env0} {h₀ : Heap} {H : List Addr} {A₀ : Around} {R₀ : Result → Shared → Prop} {α β : Type} {D : Nat} {c : β → Code} {pre : β → Led} {ok : β → α → Prop} {res : β → α → Result} {post news : β → α → Led} {out : Out} {D₀ : Nat} (h0 : Calm A₀ D₀) (hA : A₀.depth + 100 ≤ recursionLimit) (idx : List Nat) (f : Out → β)
    (does : ∀ b,Does e.G D (c b) (pre b) (ok b) (res b) (post b) (news b)) (hD : D₀ + 50 ≤ D)
    (h1 : out.obsL = out.obsR) (h2 : out.stop? idx = some (c (f out),pre (f out),none,true)) (hk : ∀ x,keys (post (f out) x) = keys (pre (f out)))
    (next : let F := stepF e out idx (res (f out)) (post (f out)) (news (f out)); ∀ x sz tk,ok (f out) x → (F x sz tk).Good e.G h₀ H A₀ R₀) : out.Good e.G h₀ H A₀ R₀ :=
  meet h0 hA idx (does (f out)) hD h1 h2 hk next
noncomputable def Out.ad (o : Out) (i : Nat) : Addr := match lget o.st.led i with
  | some p => p.1
  | none => 0
noncomputable def tokFld (o : Obj) (i : Nat) : Tok := match o.data with
  | .fields vs => match vs[i]? with
    | some v => match v with
      | .str _ t => t
      | _ => 0
    | none => 0
  | _ => 0
noncomputable def fxOf (o : Out) : Fx := { fr := o.ad 3,fi := o.ad 0,bm := o.ad 1,se := tokFld (o.ob 0) 1,hh := fun k => (entOf (o.ob 3) k).1,tt := fun k => (entOf (o.ob 3) k).2 }
section
variable {e : Env0} {D : Nat} {X : Lx} {R : Rx} {ln : Value} {lnf : Tok → Value} {cs rest : List Value} {m n n' : Nat} {y : List Nat}
theorem G_ret (hD : D + 300 ≤ recursionLimit)
    (hA : ∀ F tx,GivesTok e (D + 50) (loopA e.w F) (TokL e.w X R F ln [] m cs n (fr3 F X.l (.str (sOf []) tx))) X R F lnf [] m rest n' y) :
    Does e.G D (.call (.ref 66) ⟨[.ref X.l],[]⟩) (X.L ln [] m ++ R.L e.w cs n) (fun _ : Tok × Tok => True) (fun z => retV (.str (sOf y) z.1)) (fun z => X.L (lnf z.2) [] m ++ R.L e.w rest n') (fun _ => []) := by
  refine walk (ts [1,0,1,1,0,1,2,0,0,0,2,0,0,0,2,2,0,3,4,4] <| ts [2,2,0,0,2,3,0,0,0,3,0,0,0,0,0,0,3,3,0,4,0,0,0,0,1,4,4,4,1,1,1001,1,1] <| tn [] []) (by omega) ?_; intro A₀ R₀ h₀ sz0 tk0 a0 ad aD fin gd mm o
  refine mm [3] (len_does (l := X.p) (xs := []) (n := m) (m := 0) rfl (by decide)) ?_; intro o k0 sz1 tk1 _
  refine meet_v (D := D + 50) a0 aD [4,4,2,3,3,3,3,3,3,0,0,0] fxOf (fun F => hA F tk1) (by omega) (by kernel_rfl) (by kernel_rfl) (fun _ => rfl) ?_; intro o x sz2 tk2 _
  exact ret_good (x.1,x.2.1) [0,0,0,0,0,0,0,0,0] trivial fin rfl
theorem G_end (hD : D + 300 ≤ recursionLimit)
    (hA : ∀ F tx,EndsTok e (D + 50) (loopA e.w F) (TokL e.w X R F ln [] m cs n (fr3 F X.l (.str (sOf []) tx))) X R F ln [] m n' y) :
    Does e.G D (.call (.ref 66) ⟨[.ref X.l],[]⟩) (X.L ln [] m ++ R.L e.w cs n) (fun _ : Tok => True) (fun z => retV (.str (sOf y) z)) (fun z => X.L ln [] m ++ R.L e.w [] n') (fun _ => []) := by
  refine walk (ts [1,0,1,1,0,1,2,0,0,0,2,0,0,0,2,2,0,3,4,4] <| ts [2,2,0,0,2,3,0,0,0,3,0,0,0,0,0,0,3,3,0,4,0,0,0,0,1,4,4,4,1,1,1001,1,1] <| tn [12] []) (by omega) ?_; intro A₀ R₀ h₀ sz0 tk0 a0 ad aD fin gd mm o
  refine mm [3] (len_does (l := X.p) (xs := []) (n := m) (m := 0) rfl (by decide)) ?_; intro o k0 sz1 tk1 _
  refine meet_v (D := D + 50) a0 aD [4,4,2,3,3,3,3,3,3,0,0,0] fxOf (fun F => hA F tk1) (by omega) (by kernel_rfl) (by kernel_rfl) (fun _ => rfl) ?_; intro o x sz2 tk2 _
  exact ret_good x.1 [0,0,0,0,0,0,0,0,0] trivial fin rfl
theorem G_none (hD : D + 300 ≤ recursionLimit) (hi : X.ins = .ref R.st) :
    Does e.G D (.call (.ref 66) ⟨[.ref X.l],[]⟩) (X.L ln [] m ++ R.L e.w [] n) (fun _ : Tok => True) (fun z => retV (.str (sOf []) z)) (fun z => X.L ln [] m ++ R.L e.w [] n) (fun _ => []) := by
  refine walk (ts [1,0,1,1,0,1,2,0,0,0,2,0,0,0,2,2,0,3,4,4] <| ts [2,2,0,0,2,3,0,0,0,3,0,0,0,0,0,0,3,3,0,4,0,0,0,0,1,4,4,4,1,1,1001,1,1] <| tn [12] []) (by omega) ?_; intro A₀ R₀ h₀ sz0 tk0 a0 ad aD fin gd mm o
  refine mm [3] (len_does (l := X.p) (xs := []) (n := m) (m := 0) rfl (by decide)) ?_; intro o k0 sz1 tk1 _
  refine meet_v (D := D + 50) a0 aD [4,4,2,3,3,3,3,3,3,0,0,0] fxOf (fun F => A_end (e := e) (D := D + 50) (X := X) (R := R) (F := F) (ln := ln) (q := []) (m := m) (n := n) (x := []) (tx := tk1) (b := none) (by omega) hi) (by omega) (by kernel_rfl) (by kernel_rfl) (fun _ => rfl) ?_; intro o x sz2 tk2 _
  exact ret_good tk1 [0,0,0,0,0,0,0,0,0] trivial fin rfl
theorem C_to_ws {F : Fx} {us : List Un} {x : List Nat} {tx : Tok} {g : Int × Tok} {ch : Value} {q : List Value} {b : Nat} {tb : Tok} (hD : D + 150 ≤ recursionLimit) (hi : X.ins = .ref R.st) (hu : us.all okC = true) (hs : rest.length + (signsOf us).length + 1 < sizeLine) (hx : x.length + us.length ≤ sizeLine)
    (h0 : b ≠ 0) (hc : same (sOf [b]) nlS = false) (hw : inWs b = true) :
    GivesTok e D (loopC e.w F) (TokL e.w X R F ln q m ((rest ++ [chV b tb]) ++ (signsOf us).reverse) n (fr4 F g X.l (.str (sOf x) tx) ch)) X R F (fun _ => ln) q m rest (n + (signsOf us).length + 1) (x ++ txtOf us) := by
  refine C_units hD hi us x tx ch n hu (by simp; omega) hx fun k ch => ?_
  intro A R₀ s h1 h2 hf ho hn hy hfin
  exact C_ws (tx := k) hD hi (by omega) h0 hc hw A R₀ s h1 h2 hf ho hn hy fun x' s' _ p1 p2 p3 p4 p5 p6 => hfin (k,0,_) s' trivial p1 p2 p3 p4 p5 p6
theorem C_to_nl {F : Fx} {us : List Un} {x : List Nat} {tx : Tok} {g : Int × Tok} {ch : Value} {q : List Value} {i : Nat} {u tb : Tok} (hD : D + 150 ≤ recursionLimit) (hi : X.ins = .ref R.st) (hu : us.all okC = true) (hs : rest.length + (signsOf us).length + 1 < sizeLine) (hx : x.length + us.length ≤ sizeLine) :
    GivesTok e D (loopC e.w F) (TokL e.w X R F (.int (.ofNat i) u) q m ((rest ++ [chV 10 tb]) ++ (signsOf us).reverse) n (fr4 F g X.l (.str (sOf x) tx) ch)) X R F (fun k => .int (.ofNat (i + 1)) k) q m rest (n + (signsOf us).length + 1) (x ++ txtOf us) := by
  refine C_units hD hi us x tx ch n hu (by simp; omega) hx fun k ch => ?_
  intro A R₀ s h1 h2 hf ho hn hy hfin
  exact C_nl (tx := k) hD hi (by omega) A R₀ s h1 h2 hf ho hn hy fun x' s' _ p1 p2 p3 p4 p5 p6 => hfin (k,x',_) s' trivial p1 p2 p3 p4 p5 p6
theorem C_to_end {F : Fx} {us : List Un} {x : List Nat} {tx : Tok} {g : Int × Tok} {ch : Value} {q : List Value} (hD : D + 150 ≤ recursionLimit) (hi : X.ins = .ref R.st) (hu : us.all okC = true) (hs : (signsOf us).length < sizeLine) (hx : x.length + us.length ≤ sizeLine) :
    EndsTok e D (loopC e.w F) (TokL e.w X R F ln q m ([] ++ (signsOf us).reverse) n (fr4 F g X.l (.str (sOf x) tx) ch)) X R F ln q m (n + (signsOf us).length) (x ++ txtOf us) := by
  refine C_units hD hi us x tx ch n hu (by simpa using hs) hx fun k ch => ?_
  intro A R₀ s h1 h2 hf ho hn hy hfin
  exact C_end (tx := k) hD hi A R₀ s h1 h2 hf ho hn hy fun x' s' _ p1 p2 p3 p4 p5 p6 => hfin (k,g,ch) s' trivial p1 p2 p3 p4 p5 p6
theorem B_to_close {F : Fx} {us : List Un} {x : List Nat} {tx : Tok} {g : Int × Tok} {ch : Value} {q : List Value} {tb : Tok} (hD : D + 150 ≤ recursionLimit) (hi : X.ins = .ref R.st) (hu : us.all okB = true) (hs : rest.length + (signsOf us).length + 1 < sizeLine) (hx : x.length + us.length ≤ sizeLine) :
    GivesTok e D (loopB e.w F) (TokL e.w X R F ln q m ((rest ++ [chV 34 tb]) ++ (signsOf us).reverse) n (fr4 F g X.l (.str (sOf x) tx) ch)) X R F (fun _ => ln) q m rest (n + (signsOf us).length + 1) (x ++ txtOf us) := by
  refine B_units hD hi us x tx ch n hu (by simp; omega) hx fun k ch => ?_
  intro A R₀ s h1 h2 hf ho hn hy hfin
  exact B_close (tx := k) hD hi (by omega) A R₀ s h1 h2 hf ho hn hy fun x' s' _ p1 p2 p3 p4 p5 p6 => hfin (k,0,_) s' trivial p1 p2 p3 p4 p5 p6
theorem B_to_end {F : Fx} {us : List Un} {x : List Nat} {tx : Tok} {g : Int × Tok} {ch : Value} {q : List Value} (hD : D + 150 ≤ recursionLimit) (hi : X.ins = .ref R.st) (hu : us.all okB = true) (hs : (signsOf us).length < sizeLine) (hx : x.length + us.length ≤ sizeLine) :
    EndsTok e D (loopB e.w F) (TokL e.w X R F ln q m ([] ++ (signsOf us).reverse) n (fr4 F g X.l (.str (sOf x) tx) ch)) X R F ln q m (n + (signsOf us).length) (x ++ txtOf us) := by
  refine B_units hD hi us x tx ch n hu (by simpa using hs) hx fun k ch => ?_
  intro A R₀ s h1 h2 hf ho hn hy hfin
  exact B_end (tx := k) hD hi A R₀ s h1 h2 hf ho hn hy fun x' s' _ p1 p2 p3 p4 p5 p6 => hfin (k,g,ch) s' trivial p1 p2 p3 p4 p5 p6
end
end Mine
namespace Mine
theorem Does.weaken {G : Gc} {D : Nat} {c : Code} {pre : Led} {α : Type} {ok ok' : α → Prop} {res : α → Result} {post news : α → Led} (h : Does G D c pre ok res post news) (w : ∀ x,ok x → ok' x) : Does G D c pre ok' res post news :=
  fun A R s a b hf ho hn hy hfin => h A R s a b hf ho hn hy fun x s' hx => hfin x s' (w x hx)
theorem Does.map {G : Gc} {D : Nat} {c : Code} {pre : Led} {α β : Type} {ok : α → Prop} {res : α → Result} {post news : α → Led} {ok' : β → Prop} {res' : β → Result} {post' news' : β → Led} (h : Does G D c pre ok res post news) (f : α → β) (h1 : ∀ x,ok x → ok' (f x)) (h2 : ∀ x,res' (f x) = res x) (h3 : ∀ x,post' (f x) = post x) (h4 : ∀ x,news' (f x) = news x) : Does G D c pre ok' res' post' news' :=
  fun A R s a b hf ho hn hy hfin => h A R s a b hf ho hn hy fun x s' hx p1 p2 p3 p4 p5 p6 => h2 x ▸ hfin (f x) s' (h1 x hx) p1 (h3 x ▸ p2) (h4 x ▸ p3) p4 (h4 x ▸ p5) (h4 x ▸ p6)
structure Cx where
  it : Addr
  acc : Addr
  dc : Addr
noncomputable def dcO (nm : List Nat) (b : Option ((Int × Tok) × Value)) : Obj := match b with
  | none => { cls := .type "dict", data := .dict ⟨[]⟩ 0 }
  | some p => { cls := .type "dict", data := .dict ⟨[⟨p.1.1, .str (sOf nm) p.1.2, p.2⟩]⟩ 1 }
noncomputable def cellO (v : Value) : Obj := { cls := .type "cell", data := .cell (some v) }
noncomputable def scopeOf : Expr → Scope
  | .ListComp _ _ s _ => s
  | _ => default
noncomputable def ownScope (s : Scope) : Scope := { s with names := s.names.map fun (n,k) => if k == .free then (n,.cell) else (n,k) }
noncomputable def compE (e : Expr) (dc fr co : Addr) (q : Str) (cells : List (Str × Addr)) : Env := { scope := ownScope (scopeOf e),locals := dc,globals := 3,cells,qual := q,func := none,code := .ref co,frame := some fr }
noncomputable def compL (e : Expr) (C : Cx) (fr co : Addr) (q : Str) (cells : List (Str × Addr)) : Code := .compLoop e 0 (.ref C.it) (.ref C.acc) (compE e C.dc fr co q cells)
noncomputable def compS (e : Expr) (C : Cx) (fr co : Addr) (q : Str) (cells : List (Str × Addr)) : Code := .compStart e 0 (.ref C.it) (.ref C.acc) (compE e C.dc fr co q cells)
end Mine
namespace Mine
section
variable {G : Gc} {D : Nat} {a b r : Int} {t u : Tok} {c : Bool}
theorem iadd_does (h : a + b = r) : Does G D (.builtin "int.__add__" ⟨[.int a t, .int b u], []⟩) [] (fun _ : Tok => True) (fun k => retV (.int r k)) (fun _ => []) (fun _ => []) :=
  int_does (by decide +kernel) PySem.F.entry_int_add (h ▸ gives_int_add a b t u)
theorem isub_does (h : a - b = r) : Does G D (.builtin "int.__sub__" ⟨[.int a t, .int b u], []⟩) [] (fun _ : Tok => True) (fun k => retV (.int r k)) (fun _ => []) (fun _ => []) :=
  int_does (by decide +kernel) PySem.F.entry_int_sub (h ▸ gives_int_sub a b t u)
theorem subn_does {a b : Nat} (h : b ≤ a) : Does G D (.builtin "int.__sub__" ⟨[.int (.ofNat a) t, .int (.ofNat b) u], []⟩) [] (fun _ : Tok => True) (fun k => retV (.int (.ofNat (a - b)) k)) (fun _ => []) (fun _ => []) :=
  isub_does (Int.ofNat_sub h).symm
structure MulOk (a b r : Int) : Prop where
  eq : a * b = r
  ok : IntMulOk a b
theorem imul_does (h : MulOk a b r) : Does G D (.builtin "int.__mul__" ⟨[.int a t, .int b u], []⟩) [] (fun _ : Tok => True) (fun k => retV (.int r k)) (fun _ => []) (fun _ => []) :=
  int_does (by decide +kernel) PySem.F.entry_int_mul (h.eq ▸ gives_int_mul a b t u h.ok)
structure ModOk (a b r : Int) : Prop where
  eq : a.fmod b = r
  nz : b ≠ 0
structure DivOk (a b r : Int) : Prop where
  eq : a.fdiv b = r
  nz : b ≠ 0
  sh : Builtin.divisionGoesByPylong a b = false
theorem imod_does (h : ModOk a b r) : Does G D (.builtin "int.__mod__" ⟨[.int a t, .int b u], []⟩) [] (fun _ : Tok => True) (fun k => retV (.int r k)) (fun _ => []) (fun _ => []) :=
  int_does (by decide +kernel) PySem.F.entry_int_mod (h.eq ▸ PySem.AutoIntG6.int___mod___int_int_1 a t b u (by simpa using h.nz))
theorem idiv_does (h : DivOk a b r) : Does G D (.builtin "int.__floordiv__" ⟨[.int a t, .int b u], []⟩) [] (fun _ : Tok => True) (fun k => retV (.int r k)) (fun _ => []) (fun _ => []) :=
  int_does (by decide +kernel) PySem.F.entry_int_floordiv (h.eq ▸ PySem.AutoIntG4.int___floordiv___int_int_1 a t b u (by simpa using h.nz) (by simp [h.sh]))
theorem iand_does (h : Builtin.bitAnd a b = r) : Does G D (.builtin "int.__and__" ⟨[.int a t, .int b u], []⟩) [] (fun _ : Tok => True) (fun k => retV (.int r k)) (fun _ => []) (fun _ => []) :=
  int_does (by decide +kernel) PySem.F.entry_int_and (h ▸ (.of_eq rfl))
theorem ior_does (h : Builtin.bitOr a b = r) : Does G D (.builtin "int.__or__" ⟨[.int a t, .int b u], []⟩) [] (fun _ : Tok => True) (fun k => retV (.int r k)) (fun _ => []) (fun _ => []) :=
  int_does (by decide +kernel) PySem.F.entry_int_or (h ▸ (.of_eq rfl))
theorem ixor_does (h : Builtin.bitXor a b = r) : Does G D (.builtin "int.__xor__" ⟨[.int a t, .int b u], []⟩) [] (fun _ : Tok => True) (fun k => retV (.int r k)) (fun _ => []) (fun _ => []) :=
  int_does (by decide +kernel) PySem.F.entry_int_xor (h ▸ (.of_eq rfl))
theorem igt_does (h : decide (a > b) = c) : Does G D (.builtin "int.__gt__" ⟨[.int a t, .int b u], []⟩) [] (fun _ : Unit => True) (fun _ => retV (.bool c)) (fun _ => []) (fun _ => []) :=
  val_does (by decide +kernel) PySem.F.entry_int_gt (h ▸ gives_int_gt a b t u)
theorem ilt_does (h : decide (a < b) = c) : Does G D (.builtin "int.__lt__" ⟨[.int a t, .int b u], []⟩) [] (fun _ : Unit => True) (fun _ => retV (.bool c)) (fun _ => []) (fun _ => []) :=
  val_does (by decide +kernel) PySem.F.entry_int_lt (h ▸ gives_int_lt a b t u)
theorem ige_does (h : decide (a ≥ b) = c) : Does G D (.builtin "int.__ge__" ⟨[.int a t, .int b u], []⟩) [] (fun _ : Unit => True) (fun _ => retV (.bool c)) (fun _ => []) (fun _ => []) :=
  val_does (by decide +kernel) PySem.F.entry_int_ge (h ▸ gives_int_ge a b t u)
theorem ieq_does (h : (a == b) = c) : Does G D (.builtin "int.__eq__" ⟨[.int a t, .int b u], []⟩) [] (fun _ : Unit => True) (fun _ => retV (.bool c)) (fun _ => []) (fun _ => []) :=
  val_does (by decide +kernel) PySem.F.entry_int_eq (h ▸ gives_int_eq a b t u)
theorem gives_shl {n : Int} (hn : 0 ≤ n) (hsz : (Builtin.Int.intBits a : Int) + n ≤ 2 ^ 27) : Gives (Builtin.«int.__lshift__» ⟨[.int a t,.int n u],[]⟩) (.int (a * 2 ^ n.toNat)) := by
  by_cases h0 : a = 0
  · have := PySem.AutoIntG6.int___lshift___int_int_1 a t n u (by omega) (by simpa using h0)
    rw [h0] at this ⊢
    rw [Int.zero_mul]; exact this
  refine .of_eq ?_
  show (if n < 0 then _ else _) = _
  rw [if_neg (by omega)]
  show (if (a == 0) = true then _ else _) = _
  rw [if_neg (by simpa using h0)]
  have h3 : ¬ (((Builtin.Int.intBits a : Int) + 29) / 30 + n / 30 + (if n % 30 == 0 then 0 else 1) > Builtin.maxDigits) := by
    unfold Builtin.maxDigits
    split <;> omega
  show (if ((Builtin.Int.intBits a : Int) + 29) / 30 + n / 30 + (if n % 30 == 0 then 0 else 1) > Builtin.maxDigits then _ else _) = _
  rw [if_neg h3]
  have hbig : Builtin.Int.intTooBig ((Builtin.Int.intBits a : Int) + n) = false := decide_eq_false (Int.not_lt.mpr hsz)
  show (if Builtin.Int.intTooBig ((Builtin.Int.intBits a : Int) + n) = true then _ else _) = _
  rw [if_neg (by rw [hbig]; exact Bool.false_ne_true)]
  rfl
theorem bits_le {m k : Nat} (h : m < 2 ^ k) : Builtin.Int.intBits (.ofNat m) ≤ k := by
  unfold Builtin.Int.intBits
  split
  · exact Nat.zero_le _
  · rename_i h0
    have hm : m ≠ 0 := by simpa using h0
    have := (Nat.log2_lt hm).mpr h
    show (Int.natAbs (.ofNat m)).log2 + 1 ≤ k
    exact this
structure ShlOk (a b r : Int) : Prop where
  eq : a * 2 ^ b.toNat = r
  up : 0 ≤ b
  fit : (Builtin.Int.intBits a : Int) + b ≤ 2 ^ 27
theorem ishl_does (h : ShlOk a b r) : Does G D (.builtin "int.__lshift__" ⟨[.int a t, .int b u], []⟩) [] (fun _ : Tok => True) (fun k => retV (.int r k)) (fun _ => []) (fun _ => []) :=
  int_does (by decide +kernel) PySem.F.entry_int_lshift (h.eq ▸ gives_shl h.up h.fit)
theorem shl_ok {n m : Nat} (hm : m < 2 ^ 60) (hn : n < 1000) : ShlOk (.ofNat m) (.ofNat n) (.ofNat (m * 2 ^ n)) :=
  ⟨by simp,by simp,by have := bits_le hm; have e2 : Int.ofNat n = (n : Int) := rfl; rw [e2]; omega⟩
theorem and_nat {m n : Nat} : Builtin.bitAnd (.ofNat m) (.ofNat n) = .ofNat (m &&& n) := by
  rw [PyProof.Rows.bitAnd_pp (by simp) (by simp)]; rfl
theorem short_div {a : Int} {n : Nat} (hn : n < 2 ^ 64) : Builtin.divisionGoesByPylong a (.ofNat n) = false := by
  unfold Builtin.divisionGoesByPylong
  have : (if (Int.ofNat n == 0) = true then 0 else (Int.ofNat n).natAbs.log2 / 30 + 1) ≤ 300 := by
    split
    · omega
    · rename_i h0
      have h1 : n ≠ 0 := by intro e; subst e; simp at h0
      have := (Nat.log2_lt h1).mpr hn
      show n.log2 / 30 + 1 ≤ 300
      omega
  simp only [Bool.and_eq_false_iff]
  left
  exact decide_eq_false (by omega)
theorem div_ok {m n : Nat} (h0 : n ≠ 0) (hn : n < 2 ^ 64) : DivOk (.ofNat m) (.ofNat n) (.ofNat (m / n)) :=
  ⟨by rw [Int.fdiv_eq_ediv_of_nonneg _ (by simp)]; rfl,by simp; exact h0,short_div hn⟩
theorem mod_ok {m n : Nat} (h0 : n ≠ 0) : ModOk (.ofNat m) (.ofNat n) (.ofNat (m % n)) :=
  ⟨by rw [Int.fmod_eq_emod_of_nonneg _ (by simp)]; rfl,by simp; exact h0⟩
theorem ibool_does (h : (a != 0) = c) : Does G D (.builtin "int.__bool__" ⟨[.int a t], []⟩) [] (fun _ : Unit => True) (fun _ => retV (.bool c)) (fun _ => []) (fun _ => []) :=
  val_does (by decide +kernel) PySem.F.entry_int_bool (h ▸ gives_int_bool a t)
theorem ord_does {c : Nat} : Does G D (.builtin "ord" ⟨[.str (sOf [c]) t], []⟩) [] (fun _ : Tok => True) (fun k => retV (.int (.ofNat c) k)) (fun _ => []) (fun _ => []) :=
  int_does (by decide +kernel) PySem.F.entry_ord (gives_ord c t)
theorem chr_does {c : Nat} (h : c < 0x110000) : Does G D (.builtin "chr" ⟨[.int (.ofNat c) t], []⟩) [] (fun _ : Tok => True) (fun k => retV (.str (sOf [c]) k)) (fun _ => []) (fun _ => []) :=
  str_does (by decide +kernel) PySem.F.entry_chr (gives_chr (.ofNat c) t (by simp; omega)) (by show 1 ≤ sizeLine; decide)
theorem hex_does {x : Str} (h : baseText "0x" 16 a = x) (hx : x.length ≤ sizeLine) : Does G D (.builtin "hex" ⟨[.int a t], []⟩) [] (fun _ : Tok => True) (fun k => retV (.str x k)) (fun _ => []) (fun _ => []) :=
  str_does (by decide +kernel) PySem.F.entry_hex (h ▸ gives_hex a t) hx
end
end Mine
namespace Mine
noncomputable def strIt (b : Bool) : String := if b then "str_ascii_iterator" else "str_iterator"
theorem siter_meets (x : Str) (t : Tok) (b : Bool) (hb : x.cps.all (fun c => decide (c < 128)) = b) :
    Meets (Builtin.«str.__iter__» ⟨[.str x t],[]⟩) (fun _ R s => R (.ok (.ret (Value.ref s.heap.objs.size))) { s with heap := s.heap.push { cls := .type (strIt b),data := .fields ⟨[.str x t,.int 0 0]⟩ } }) :=
  .of_wp fun prog w A R s h => by
    obtain ⟨hp,g,d,tk,os⟩ := s
    wp_walk
    refine ⟨_,rfl,?_⟩
    subst hb
    exact h
theorem new_does {G : Gc} {D : Nat} {id : String} {args : Args} {B : Builtin} {o : Obj} {pre : Led} (hp : plainId id = true) (he : entryFor table id = some B) (hfree : o.isFreed = false)
    (m : Meets (B args) (fun _ R s => Own s.heap pre ∧ R (.ok (.ret (.ref s.heap.objs.size))) { s with heap := s.heap.push o })) :
    Does G D (.builtin id args) pre (fun _ : Addr => True) (fun a => retV (.ref a)) (fun _ => pre) (fun a => [(a,o)]) := by
  refine does_of_meets hp he m ?_
  intro A R s hf ho hd hy hfin
  refine ⟨ho,hfin s.heap.objs.size _ trivial ⟨hf.base.push o,hf.gens,hf.drawn,hf.os⟩ ?_ (own_one.mpr (Heap.get?_push_size _ hfree)) ⟨?_,?_⟩ (fun p hp => ?_) (by simp [keys])⟩
  · exact fun p hp => Heap.get?_push_of_some _ (ho p hp)
  · rw [Heap.size_push]; omega
  · exact fun b o e _ => Heap.get?_push_of_some _ e
  · rw [List.mem_singleton.mp hp]; exact Nat.le_refl _
theorem siter_does {G : Gc} {D : Nat} {x : Str} {t : Tok} {b : Bool} (hb : x.cps.all (fun c => decide (c < 128)) = b) :
    Does G D (.builtin "str.__iter__" ⟨[.str x t], []⟩) [] (fun _ : Addr => True) (fun a => retV (.ref a)) (fun _ => []) (fun a => [(a, sitO (strIt b) x t 0)]) := by
  refine new_does (by decide +kernel) PySem.F.entry_str_iter rfl ?_
  exact (siter_meets x t b hb).of_imp fun A R s h => h.2
theorem rev_does {G : Gc} {D : Nat} {l : Addr} {xs : List Value} {n : Nat} (hn : xs.length ≤ sizeLine) :
    Does G D (.builtin "list.reverse" ⟨[.ref l], []⟩) [(l, lob xs n)] (fun _ : Unit => True) (fun _ => retV .none) (fun _ => [(l, lob xs.reverse n)]) (fun _ => []) := by
  refine update_does (by decide +kernel) PySem.F.entry_list_reverse ?_ rfl (PySem.AutoListH.list_reverse_list_0 l ⟨xs⟩ n hn)
  show Obj.mapSeq _ (lob xs n) = _
  simp [Obj.mapSeq,lob]
end Mine
namespace Mine
noncomputable def lexQ : Str := sOf [95,108,97,119,95,108,101,120,101,114,46,60,108,111,99,97,108,115,62,46]
noncomputable def signN : List Nat := [115,105,103,110]
noncomputable def lexE (w : World) : Expr := valOf (bodyAt w 315)[0]!
noncomputable def Signs : List Nat → List Value → Prop
  | [],vs => vs = []
  | c :: s,vs => ∃ k vs',vs = chV c k :: vs' ∧ Signs s vs'
theorem Signs.snoc : ∀ {s : List Nat} {vs : List Value} {c : Nat} {k : Tok},Signs s vs → Signs (s ++ [c]) (vs ++ [chV c k])
  | [],vs,c,k,h => by cases h; exact ⟨k,[],rfl,rfl⟩
  | d :: s,vs,c,k,h => by
    obtain ⟨j,vs',rfl,h'⟩ := h
    exact ⟨j,vs' ++ [chV c k],rfl,h'.snoc⟩
theorem Signs.len : ∀ {s : List Nat} {vs : List Value},Signs s vs → vs.length = s.length
  | [],vs,h => by cases h; rfl
  | d :: s,vs,h => by
    obtain ⟨j,vs',rfl,h'⟩ := h
    simp [h'.len]
section
variable {e : Env0} {D : Nat} {C : Cx} {fr : Addr} {s : List Nat} {t : Tok} {i n c : Nat} {ys : List Value} {b : Option ((Int × Tok) × Value)}
variable {α : Type} {ok : α → Prop} {res : α → Result} {post news : α → Led}

noncomputable def slexL (C : Cx) (s : List Nat) (t : Tok) (i : Nat) (ys : List Value) (n : Nat) (b : Option ((Int × Tok) × Value)) : Led := [(C.it, sitO "str_iterator" (sOf s) t i), (C.acc, lob ys n), (C.dc, dcO signN b)]
noncomputable def slexP (C : Cx) (s : List Nat) (z : List Value × ((Int × Tok) × Value)) : Led := [(C.it, sitE "str_iterator" s.length), (C.acc, lob z.1 s.length), (C.dc, dcO signN (some z.2))]
theorem slex_turn (hD : D + 150 ≤ recursionLimit) (h : s[i]? = some c) (hn : ys.length ≤ sizeLine)
    (next : ∀ g k,Does e.G D (compL (lexE e.w) C fr 314 lexQ []) (slexL C s t (i + 1) (ys ++ [chV c k]) (n + 1) (some (g,chV c k))) ok res post news) :
    Does e.G D (compL (lexE e.w) C fr 314 lexQ []) (slexL C s t i ys n b) ok res post news := by
  cases b
  all_goals
    refine walk (ts [1,1] <| ts [3,3,3,2] <| ts [] <| tn [] []) (by omega) ?_; intro A₀ R₀ h₀ sz0 tk0 a0 ad aD fin gd mm o
    refine mm [0] (snext_some (it := C.it) (t := t) (by omega) h) ?_; intro o t0 sz1 tk1 _
    refine mm [1] (append_does (l := C.acc) (xs := ys) (n := n) (v := (.str (sOf [c]) t0)) hn) ?_; intro o _ sz2 tk2 _
    exact tail_same_w a0 [1,0,0] (fun o => entOf (o.ob 2) 0) (fun g => next g t0) ad (by kernel_rfl) (by kernel_rfl) fin
theorem slex_end (hD : D + 150 ≤ recursionLimit) (h : s[i]? = none) :
    Does e.G D (compL (lexE e.w) C fr 314 lexQ []) (slexL C s t i ys n b) (fun _ : Unit => True) (fun _ => .ok .next) (fun _ => [(C.it, sitE "str_iterator" i), (C.acc, lob ys n), (C.dc, dcO signN b)]) (fun _ => []) := by
  cases b
  all_goals
    refine walk (ts [1,1] <| tn [1] []) (by omega) ?_; intro A₀ R₀ h₀ sz0 tk0 a0 ad aD fin gd mm o
    refine mm [0] (snext_end (it := C.it) (t := t) (by omega) h) ?_; intro o x sz1 tk1 _
    exact ret_good () [2,2,2] trivial fin rfl
theorem slex_some (hD : D + 150 ≤ recursionLimit) (hs : s.length ≤ sizeLine) : ∀ (r d : List Nat) (ys : List Value) (p),s = d ++ r → Signs d ys →
    Does e.G D (compL (lexE e.w) C fr 314 lexQ []) (slexL C s t d.length ys d.length (some p)) (fun z => Signs s z.1) (fun _ => .ok .next) (slexP C s) (fun _ => []) := by
  intro r
  induction r with
  | nil =>
    intro d ys p hd hy
    have e0 : s = d := by simpa using hd
    subst e0
    exact (slex_end hD (by simp)).map (fun _ => (ys,p)) (fun _ _ => hy) (fun _ => rfl) (fun _ => rfl) (fun _ => rfl)
  | cons c r ih =>
    intro d ys p hd hy
    refine slex_turn (c := c) hD (by rw [hd]; simp) (by rw [hy.len]; rw [hd] at hs; simp at hs; omega) fun g k => ?_
    have := ih (d ++ [c]) (ys ++ [chV c k]) (g,chV c k) (by rw [hd]; simp) hy.snoc
    simpa using this
theorem slex_all (hD : D + 150 ≤ recursionLimit) (hs : s.length ≤ sizeLine) (h0 : s ≠ []) :
    Does e.G D (compS (lexE e.w) C fr 314 lexQ []) (slexL C s t 0 [] 0 none) (fun z => Signs s z.1) (fun _ => .ok .next) (slexP C s) (fun _ => []) := by
  have key : Does e.G D (compL (lexE e.w) C fr 314 lexQ []) (slexL C s t 0 [] 0 none) (fun z => Signs s z.1) (fun _ => .ok .next) (slexP C s) (fun _ => []) := by
    cases s with
    | nil => exact absurd rfl h0
    | cons c r =>
      refine slex_turn (c := c) hD rfl (Nat.zero_le _) fun g k => ?_
      exact slex_some (d := [c]) (r := r) hD hs [chV c k] _ rfl ⟨k,[],rfl,rfl⟩
  refine walk (tn [1] [.stop]) (by omega) ?_; intro A₀ R₀ h₀ sz0 tk0 a0 ad aD fin gd mm o
  exact tail_same a0 [0,0,0] key ad (by kernel_rfl) (by kernel_rfl) fin

noncomputable def alexL (C : Cx) (s : List Nat) (t : Tok) (i : Nat) (ys : List Value) (n : Nat) (b : Option ((Int × Tok) × Value)) : Led := [(C.it, sitO "str_ascii_iterator" (sOf s) t i), (C.acc, lob ys n), (C.dc, dcO signN b)]
noncomputable def alexP (C : Cx) (s : List Nat) (z : List Value × ((Int × Tok) × Value)) : Led := [(C.it, sitE "str_ascii_iterator" s.length), (C.acc, lob z.1 s.length), (C.dc, dcO signN (some z.2))]
theorem alex_turn (hD : D + 150 ≤ recursionLimit) (h : s[i]? = some c) (hn : ys.length ≤ sizeLine)
    (next : ∀ g k,Does e.G D (compL (lexE e.w) C fr 314 lexQ []) (alexL C s t (i + 1) (ys ++ [chV c k]) (n + 1) (some (g,chV c k))) ok res post news) :
    Does e.G D (compL (lexE e.w) C fr 314 lexQ []) (alexL C s t i ys n b) ok res post news := by
  cases b
  all_goals
    refine walk (ts [1,1] <| ts [3,3,3,2] <| ts [] <| tn [] []) (by omega) ?_; intro A₀ R₀ h₀ sz0 tk0 a0 ad aD fin gd mm o
    refine mm [0] (anext_some (it := C.it) (t := t) (by omega) h) ?_; intro o t0 sz1 tk1 _
    refine mm [1] (append_does (l := C.acc) (xs := ys) (n := n) (v := (.str (sOf [c]) t0)) hn) ?_; intro o _ sz2 tk2 _
    exact tail_same_w a0 [1,0,0] (fun o => entOf (o.ob 2) 0) (fun g => next g t0) ad (by kernel_rfl) (by kernel_rfl) fin
theorem alex_end (hD : D + 150 ≤ recursionLimit) (h : s[i]? = none) :
    Does e.G D (compL (lexE e.w) C fr 314 lexQ []) (alexL C s t i ys n b) (fun _ : Unit => True) (fun _ => .ok .next) (fun _ => [(C.it, sitE "str_ascii_iterator" i), (C.acc, lob ys n), (C.dc, dcO signN b)]) (fun _ => []) := by
  cases b
  all_goals
    refine walk (ts [1,1] <| tn [1] []) (by omega) ?_; intro A₀ R₀ h₀ sz0 tk0 a0 ad aD fin gd mm o
    refine mm [0] (anext_end (it := C.it) (t := t) (by omega) h) ?_; intro o x sz1 tk1 _
    exact ret_good () [2,2,2] trivial fin rfl
theorem alex_some (hD : D + 150 ≤ recursionLimit) (hs : s.length ≤ sizeLine) : ∀ (r d : List Nat) (ys : List Value) (p),s = d ++ r → Signs d ys →
    Does e.G D (compL (lexE e.w) C fr 314 lexQ []) (alexL C s t d.length ys d.length (some p)) (fun z => Signs s z.1) (fun _ => .ok .next) (alexP C s) (fun _ => []) := by
  intro r
  induction r with
  | nil =>
    intro d ys p hd hy
    have e0 : s = d := by simpa using hd
    subst e0
    exact (alex_end hD (by simp)).map (fun _ => (ys,p)) (fun _ _ => hy) (fun _ => rfl) (fun _ => rfl) (fun _ => rfl)
  | cons c r ih =>
    intro d ys p hd hy
    refine alex_turn (c := c) hD (by rw [hd]; simp) (by rw [hy.len]; rw [hd] at hs; simp at hs; omega) fun g k => ?_
    have := ih (d ++ [c]) (ys ++ [chV c k]) (g,chV c k) (by rw [hd]; simp) hy.snoc
    simpa using this
theorem alex_all (hD : D + 150 ≤ recursionLimit) (hs : s.length ≤ sizeLine) (h0 : s ≠ []) :
    Does e.G D (compS (lexE e.w) C fr 314 lexQ []) (alexL C s t 0 [] 0 none) (fun z => Signs s z.1) (fun _ => .ok .next) (alexP C s) (fun _ => []) := by
  have key : Does e.G D (compL (lexE e.w) C fr 314 lexQ []) (alexL C s t 0 [] 0 none) (fun z => Signs s z.1) (fun _ => .ok .next) (alexP C s) (fun _ => []) := by
    cases s with
    | nil => exact absurd rfl h0
    | cons c r =>
      refine alex_turn (c := c) hD rfl (Nat.zero_le _) fun g k => ?_
      exact alex_some (d := [c]) (r := r) hD hs [chV c k] _ rfl ⟨k,[],rfl,rfl⟩
  refine walk (tn [1] [.stop]) (by omega) ?_; intro A₀ R₀ h₀ sz0 tk0 a0 ad aD fin gd mm o
  exact tail_same a0 [0,0,0] key ad (by kernel_rfl) (by kernel_rfl) fin

end
end Mine
namespace Mine
abbrev Bnd := Option ((Int × Tok) × Value)
theorem comp_fold {G : Gc} {D : Nat} {c : Code} {L : Nat → List Value → Bnd → Led} {P : List Value → Bnd → Led} {N : Nat} (Inv : Nat → List Value → Prop)
    (turn : ∀ i ys b,i < N → Inv i ys → ∀ {α : Type} {ok : α → Prop} {res : α → Result} {post news : α → Led},(∀ ys' p,Inv (i + 1) ys' → Does G D c (L (i + 1) ys' (some p)) ok res post news) → Does G D c (L i ys b) ok res post news)
    (fin : ∀ ys b,Inv N ys → Does G D c (L N ys b) (fun _ : Unit => True) (fun _ => .ok .next) (fun _ => P ys b) (fun _ => [])) :
    ∀ k i ys b,i + k = N → Inv i ys → Does G D c (L i ys b) (fun z : List Value × Bnd => Inv N z.1 ∧ (0 < k ∨ b.isSome = true → z.2.isSome = true)) (fun _ => .ok .next) (fun z => P z.1 z.2) (fun _ => []) := by
  intro k
  induction k with
  | zero =>
    intro i ys b hi hv
    have e : i = N := by omega
    subst e
    exact (fin ys b hv).map (fun _ => (ys,b)) (fun _ _ => ⟨hv,fun h => by rcases h with h | h; exact absurd h (Nat.lt_irrefl _); exact h⟩) (fun _ => rfl) (fun _ => rfl) (fun _ => rfl)
  | succ k ih =>
    intro i ys b hi hv
    refine turn i ys b (by omega) hv fun ys' p hv' => ?_
    exact (ih (i + 1) ys' (some p) (by omega) hv').weaken fun z hz => ⟨hz.1,fun _ => hz.2 (.inr rfl)⟩
theorem comp_some {G : Gc} {D : Nat} {c : Code} {L : Nat → List Value → Bnd → Led} {P : List Value → Bnd → Led} {N : Nat} (Inv : Nat → List Value → Prop) (h0 : 0 < N) (hv : Inv 0 [])
    (turn : ∀ i ys b,i < N → Inv i ys → ∀ {α : Type} {ok : α → Prop} {res : α → Result} {post news : α → Led},(∀ ys' p,Inv (i + 1) ys' → Does G D c (L (i + 1) ys' (some p)) ok res post news) → Does G D c (L i ys b) ok res post news)
    (fin : ∀ ys b,Inv N ys → Does G D c (L N ys b) (fun _ : Unit => True) (fun _ => .ok .next) (fun _ => P ys b) (fun _ => [])) :
    Does G D c (L 0 [] none) (fun z : List Value × ((Int × Tok) × Value) => Inv N z.1) (fun _ => .ok .next) (fun z => P z.1 (some z.2)) (fun _ => []) := by
  have := comp_fold Inv turn fin N 0 [] none (by omega) hv
  intro A R s h1 h2 h3 h4 h5 h6 hfin
  refine this A R s h1 h2 h3 h4 h5 h6 fun z s' hz => ?_
  obtain ⟨zs,zb⟩ := z
  have h := hz.2 (.inl h0)
  cases zb with
  | none => cases h
  | some p => exact hfin (zs,p) s' hz.1
noncomputable def Ints : List Int → List Value → Prop
  | [],vs => vs = []
  | c :: s,vs => ∃ k vs',vs = .int c k :: vs' ∧ Ints s vs'
theorem Ints.snoc : ∀ {s : List Int} {vs : List Value} {c : Int} {k : Tok},Ints s vs → Ints (s ++ [c]) (vs ++ [.int c k])
  | [],vs,c,k,h => by cases h; exact ⟨k,[],rfl,rfl⟩
  | d :: s,vs,c,k,h => by
    obtain ⟨j,vs',rfl,h'⟩ := h
    exact ⟨j,vs' ++ [.int c k],rfl,h'.snoc⟩
theorem Ints.len : ∀ {s : List Int} {vs : List Value},Ints s vs → vs.length = s.length
  | [],vs,h => by cases h; rfl
  | d :: s,vs,h => by
    obtain ⟨j,vs',rfl,h'⟩ := h
    simp [h'.len]
theorem Ints.at : ∀ {s : List Int} {vs : List Value},Ints s vs → ∀ {i : Nat} {c : Int},s[i]? = some c → ∃ k,vs[i]? = some (.int c k)
  | [],vs,h,i,c,hc => by simp at hc
  | d :: s,vs,h,i,c,hc => by
    obtain ⟨j,vs',rfl,h'⟩ := h
    cases i with
    | zero => simp at hc; subst hc; exact ⟨j,rfl⟩
    | succ i => simp at hc ⊢; exact h'.at hc
noncomputable def argE : Expr → Nat → Expr
  | .Call _ as _ _,i => as[i]!
  | _,_ => default
end Mine
namespace Mine
/-! ### a search that finds nothing -/
noncomputable def OkCh (code : Array Nat) (c : Nat) : Prop := ∀ seen,∃ seen',Sre.inSet code c code.size 5 true seen = .ok (false,seen')
theorem admitted_none {m : Sre.M} (h : ∀ i,i < m.lim → OkCh m.code (m.text.getD i 0)) : ∀ (fuel s : Nat) (seen : Sre.Seen),∃ seen',Sre.M.admitted m fuel s seen = .ok (none,seen') := by
  intro fuel
  induction fuel with
  | zero => intro s seen; exact ⟨seen,rfl⟩
  | succ n ih =>
    intro s seen
    unfold Sre.M.admitted
    by_cases hs : s ≥ m.lim
    · rw [if_pos hs]; exact ⟨seen,rfl⟩
    · rw [if_neg hs]
      obtain ⟨s',e⟩ := h s (Nat.lt_of_not_ge hs) seen
      rw [e]
      exact ih (s + 1) s'
theorem from_none {m : Sre.M} (hf : m.hasFirstSet = true) (h : ∀ i,i < m.lim → OkCh m.code (m.text.getD i 0)) (s : Nat) (first : Bool) : ∃ seen',m.attemptFrom s first = ({ m with seen := seen' } : Sre.M).say false := by
  unfold Sre.M.attemptFrom
  rw [hf]
  obtain ⟨s',e⟩ := admitted_none h (m.lim + 1 - s) s m.seen
  refine ⟨s',?_⟩
  rw [e]
  rfl
theorem said_no {m : Sre.M} (ho : m.outcome = none) (hf : m.frames = []) : ((m.say false).runFor 4).outcome = some .failed := by
  unfold Sre.M.say
  have s1 : Sre.M.step { m with answer := some false } = { { m with answer := some false } with outcome := some .failed } := by
    unfold Sre.M.step
    simp [ho,hf]
  have e1 : (({ m with answer := some false } : Sre.M).runFor 4) = (Sre.M.step { m with answer := some false }).runFor 3 := by
    show (if ({ m with answer := some false } : Sre.M).outcome.isSome then _ else _) = _
    simp [ho]
  rw [e1,s1]
  rfl
theorem attempt_no {m : Sre.M} (hf : m.hasFirstSet = true) (h : ∀ i,i < m.lim → OkCh m.code (m.text.getD i 0)) (ho : m.outcome = none) (hr : m.frames = []) : ((m.attemptFrom 0 true).runFor 4).outcome = some .failed := by
  obtain ⟨s',e⟩ := from_none hf h 0 true
  rw [e]
  exact said_no ho hr
theorem search_none {code text : Array Nat} (h1 : ∀ m : Sre.M,m.code = code → m.hasFirstSet = true) (h : ∀ i,i < text.size → OkCh code (text.getD i 0)) :
    ((Sre.forSearch code text 0 0 text.size false).runFor 4).outcome = some .failed := by
  unfold Sre.forSearch
  dsimp only
  split
  · exact said_no rfl rfl
  · refine attempt_no (h1 _ ?_) ?_ ?_ ?_
    · rfl
    · exact h
    · rfl
    · rfl
theorem runToEnd_none {M : Model} {A : Around} {E : Value → Shared → Prop} {Q : Option Sre.M → Shared → Prop} {s : Shared} {m : Sre.M} (hm : (m.runFor 4).outcome = some .failed) (h : Q none s) : wpAny M A (Builtin.Re.reRunToEnd m) Q E s := by
  unfold Builtin.Re.reRunToEnd
  have e : Builtin.Re.reDrive (2 ^ 64) m = pure (m.runFor 4) := by
    have : (2 ^ 64 : Nat) = (2 ^ 64 - 1) + 1 := rfl
    rw [this]
    unfold Builtin.Re.reDrive
    simp [Builtin.Re.reTurnSteps,hm]
  rw [e]
  refine wpAny_bind (wpAny_pure ?_)
  have key : ∀ (l : List Nat) (Q' : PUnit → Shared → Prop), Q' PUnit.unit s → wpAny M A (forIn l PUnit.unit (fun i (_ : PUnit) => if (m.runFor 4).seen.has i = true then (rule (Sre.names.getD i "") >>= fun _ => (pure (ForInStep.yield PUnit.unit) : Sem (ForInStep PUnit))) else pure (ForInStep.yield PUnit.unit))) Q' E s := by
    intro l
    induction l with
    | nil => intro Q' hq; exact wpAny_pure hq
    | cons i l ih =>
      intro Q' hq
      rw [List.forIn_cons]
      refine wpAny_bind ?_
      by_cases hc : (m.runFor 4).seen.has i = true
      · rw [if_pos hc]
        exact wpAny_bind (wpAny_rule (wpAny_pure (ih Q' hq)))
      · rw [if_neg hc]
        exact wpAny_pure (ih Q' hq)
  refine wpAny_bind (key _ _ ?_)
  rw [hm]
  exact wpAny_pure h

theorem search_tree {M : Model} {A : Around} {E : Value → Shared → Prop} {Q : PySem.Fin → Shared → Prop} {s : Shared} {pa ca : Addr} {t0 v : Tok} {po co : Obj} {fs : Array Value} {cs : Array Value} {n : Nat} {x : Str} {t : Tok}
    (hp : s.heap.get? pa = some po) (hpd : po.data = .fields fs) (h2 : fs.getD 2 .none = .int 0 t0) (h5 : fs.getD 5 .none = .ref ca) (h6 : fs.getD 6 .none = .int 0 v) (hc : s.heap.get? ca = some co) (hcd : co.data = .seq cs n)
    (h1 : ∀ m : Sre.M,m.code = (cs.map Builtin.Re.reRawOf).map (·.toNat) → m.hasFirstSet = true) (h : ∀ i,i < x.cps.size → OkCh ((cs.map Builtin.Re.reRawOf).map (·.toNat)) (x.cps.getD i 0)) (hx : x.cps.size ≤ 2 ^ 24) (hq : Q (.done (.ret .none)) s) :
    wpAny M A (Builtin.«re.Pattern.search» ⟨[.ref pa,.str x t],[]⟩) Q E s := by
  unfold Builtin.«re.Pattern.search» Builtin.Re.reTarget
  have e1 : Builtin.Re.reNamed "re.Pattern.search" "search" ["string", "pos", "endpos"] 1 [.str x t] [] = pure [some (.str x t), none, none] := by kernel_rfl
  simp only [e1,pure_bind]
  refine wpAny_bind (wpAny_bind (wpAny_fieldsOf hp hpd ?_))
  have e2 : Builtin.Re.reTextOf (.str x t) = pure (x.cps,0) := by kernel_rfl
  simp only [e2,pure_bind,h2,h5,h6,Builtin.Re.reRawNat]
  have e3 : Builtin.Re.reNoCollectionInside (.str x t) 0 = pure () := by kernel_rfl
  simp only [e3,pure_bind]
  refine wpAny_ite_false (by decide) ?_
  refine wpAny_ite_false (by decide) ?_
  have e4 : Builtin.Re.reRawItems (.ref ca) = (load ca >>= fun o => match o.data with | .seq xs _ => pure (xs.map Builtin.Re.reRawOf) | _ => pure (#[].map Builtin.Re.reRawOf)) := by
    unfold Builtin.Re.reRawItems seqItems?
    simp only [bind_assoc]
    refine congrArg _ (funext fun o => ?_)
    cases o.data <;> rfl
  rw [e4]
  refine wpAny_bind (wpAny_bind (wpAny_load hc ?_))
  simp only [hcd]
  refine wpAny_pure (wpAny_pure ?_)
  have e5 : min (2 ^ 63 - 1 : Int).toNat x.cps.size = x.cps.size := by omega
  have e6 : min (Int.toNat 0) x.cps.size = 0 := by simp
  simp only [e5,e6,Int.toNat_zero]
  unfold Builtin.Re.reAnswer
  refine wpAny_bind (runToEnd_none (search_none h1 h) ?_)
  exact wpAny_pure hq

noncomputable def Fair (x : Str) : Prop := x.cps.size ≤ 2 ^ 20 ∧ ∀ i,i < x.cps.size → 32 ≤ x.cps.getD i 0 ∧ x.cps.getD i 0 ≠ 127
noncomputable def codeN : Array Nat := #[14,10,4,1,1,22,0,31,16,127,0,13,7,22,0,31,16,127,0,1]
noncomputable def codeV : Array Nat := #[14,14,4,1,1,9,4294966783,0,0,2147483648,0,0,0,0,0,13,11,9,4294966783,0,0,2147483648,0,0,0,0,0,1]
theorem okN {c : Nat} (h1 : 32 ≤ c) (h2 : c ≠ 127) : OkCh codeN c := by
  intro seen
  have n1 : ¬ c ≤ 31 := by omega
  have e : ∃ s',Sre.inSet codeN c 20 5 true seen = .ok (false,s') := by
    unfold Sre.inSet
    have e0 : Sre.ops[codeN.getD (5 + 0) 0]? = some .RANGE := by kernel_rfl
    have e1 : codeN.getD (5 + 1) 0 = 0 := by decide +kernel
    have e2 : codeN.getD (5 + 2) 0 = 31 := by decide +kernel
    have k1 : (decide (0 ≤ c) && decide (c ≤ 31)) = false := by simp [n1]
    simp only [e0,e1,e2,k1,Bool.false_eq_true,if_false]
    unfold Sre.inSet
    have e3 : Sre.ops[codeN.getD (5 + 3 + 0) 0]? = some .LITERAL := by kernel_rfl
    have e4 : codeN.getD (5 + 3 + 1) 0 = 127 := by decide +kernel
    have k2 : (c == 127) = false := by simp [h2]
    simp only [e3,e4,k2,Bool.false_eq_true,if_false]
    unfold Sre.inSet
    have e5 : Sre.ops[codeN.getD (5 + 3 + 2 + 0) 0]? = some .FAILURE := by kernel_rfl
    simp only [e5]
    exact ⟨_,rfl⟩
  exact e
theorem okV {c : Nat} (h1 : 32 ≤ c) (h2 : c ≠ 127) : OkCh codeV c := by
  intro seen
  have key : ∀ c,c < 256 → 32 ≤ c → c ≠ 127 → (codeV.getD (5 + (1 + c / 32)) 0).testBit (c % 32) = false := by decide +kernel
  have k2 : (decide (c < 256) && (codeV.getD (5 + (1 + c / 32)) 0).testBit (c % 32)) = false := by
    by_cases h : c < 256
    · rw [key c h h1 h2,Bool.and_false]
    · simp [h]
  have e : ∃ s',Sre.inSet codeV c 28 5 true seen = .ok (false,s') := by
    unfold Sre.inSet
    have e0 : Sre.ops[codeV.getD (5 + 0) 0]? = some .CHARSET := by kernel_rfl
    simp only [e0,k2,Bool.false_eq_true,if_false]
    unfold Sre.inSet
    have e1 : Sre.ops[codeV.getD (5 + 9 + 0) 0]? = some .FAILURE := by kernel_rfl
    simp only [e1]
    exact ⟨_,rfl⟩
  exact e
noncomputable def ob (w : World) (a : Addr) : Obj := ((kt w).get a).getD default
noncomputable def fieldsIn (o : Obj) : Array Value := match o.data with
  | .fields vs => vs
  | _ => #[]
noncomputable def seqIn (o : Obj) : Array Value := match o.data with
  | .seq vs _ => vs
  | _ => #[]
theorem search_does {e : Env0} {D : Nat} {pa ca : Addr} {x : Str} {t : Tok} (hx : Fair x) (hp : (pa = 171 ∧ ca = 170) ∨ (pa = 176 ∧ ca = 175)) :
    Does e.G D (.builtin "re.Pattern.search" ⟨[.ref pa, .str x t], []⟩) [] (fun _ : Unit => True) (fun _ => retV .none) (fun _ => []) (fun _ => []) := by
  intro A R s _ _ hf ho hn hy hfin
  refine codeAny_builtin (b := Builtin.«re.Pattern.search») (entryFor_of_tree (by kernel_rfl)) ?_
  have fin : R (retV .none) s := hfin () s trivial hf own_nil own_nil ⟨Nat.le_refl _,fun _ _ e _ => e⟩ (fun _ hp => nomatch hp) List.nodup_nil
  have old : ∀ a,(kt e.w).get a = some (ob e.w a) → Nat.beq a 312 = false → s.heap.get? a = some (ob e.w a) := fun a h1 h2 => hf.base.old (G := e.G) h1 h2
  rcases hp with ⟨rfl,rfl⟩ | ⟨rfl,rfl⟩
  · refine search_tree (po := ob e.w 171) (co := ob e.w 170) (fs := fieldsIn (ob e.w 171)) (cs := seqIn (ob e.w 170)) (n := 0) (ca := 170) (t0 := 0) (v := 0) (old 171 (by kernel_rfl) rfl) (by kernel_rfl) (by kernel_rfl) (by kernel_rfl) (by kernel_rfl) (old 170 (by kernel_rfl) rfl) (by kernel_rfl) ?_ ?_ (Nat.le_trans hx.1 (by decide)) fin
    · intro m hm
      have hc : m.code = codeN := hm.trans (by kernel_rfl)
      unfold Sre.M.hasFirstSet
      rw [hc]
      decide +kernel
    · intro i hi
      have hc : ((seqIn (ob e.w 170)).map Builtin.Re.reRawOf).map (·.toNat) = codeN := by kernel_rfl
      rw [hc]
      exact okN (hx.2 i hi).1 (hx.2 i hi).2
  · refine search_tree (po := ob e.w 176) (co := ob e.w 175) (fs := fieldsIn (ob e.w 176)) (cs := seqIn (ob e.w 175)) (n := 0) (ca := 175) (t0 := 0) (v := 0) (old 176 (by kernel_rfl) rfl) (by kernel_rfl) (by kernel_rfl) (by kernel_rfl) (by kernel_rfl) (old 175 (by kernel_rfl) rfl) (by kernel_rfl) ?_ ?_ (Nat.le_trans hx.1 (by decide)) fin
    · intro m hm
      have hc : m.code = codeV := hm.trans (by kernel_rfl)
      unfold Sre.M.hasFirstSet
      rw [hc]
      decide +kernel
    · intro i hi
      have hc : ((seqIn (ob e.w 175)).map Builtin.Re.reRawOf).map (·.toNat) = codeV := by kernel_rfl
      rw [hc]
      exact okV (hx.2 i hi).1 (hx.2 i hi).2
end Mine
namespace Mine
noncomputable def kwName (b : Bool) : List (Str × Value) := [(sOf [110,97,109,101],.bool b)]
theorem conv_does {e : Env0} {D : Nat} {self : Addr} {x : Str} {t : Tok} {b : Bool} (hD : D + 100 ≤ recursionLimit) (hx : Fair x) :
    Does e.G D (.call (.ref 198) ⟨[.ref self,.str x t],kwName b⟩) [] (fun _ : Unit => True) (fun _ => retV (.str x t)) (fun _ => []) (fun _ => []) := by
  cases b with
  | true =>
    refine walk (tn [1,0,1,1,1,1,1,1,0,0,0,1,0,0,1,0,1,1,1,0,0,0,0,1,0] <| .stop :: tn [1] []) hD ?_; intro A₀ R₀ h₀ sz tk a0 ad aD fin gd mm o
    refine mm [] (search_does (pa := 171) (t := t) hx (.inl ⟨rfl,rfl⟩)) ?_; intro o x sz tk _
    exact ret_good () [] trivial fin rfl
  | false =>
    refine walk (tn [1,0,1,1,1,1,1,1,0,0,0,1,0,0,1,0,1,1,1,0,0,0,0,1,0] <| .stop :: tn [1] []) hD ?_; intro A₀ R₀ h₀ sz tk a0 ad aD fin gd mm o
    refine mm [] (search_does (pa := 176) (t := t) hx (.inr ⟨rfl,rfl⟩)) ?_; intro o x sz tk _
    exact ret_good () [] trivial fin rfl
end Mine
end
section
open PySem PySem.W PySem.W.X PyProof.Rows
set_option genInjectivity false
set_option genCtorIdx false
namespace Mine
theorem does_nodup {G : Gc} {D : Nat} {c : Code} {pre : Led} {α : Type} {ok : α → Prop} {res : α → Result} {post news : α → Led} (h : (keys pre).Nodup → Does G D c pre ok res post news) : Does G D c pre ok res post news :=
  fun A R s a b hf ho hn => h hn A R s a b hf ho hn
noncomputable def sliceC (l sl src : Addr) : Code := .builtin "list.__setitem__" ⟨[.ref l, .ref sl, .ref src], []⟩
noncomputable def sliceT (T : String → Option Builtin) (he : entryFor T "list.__setitem__" = some Builtin.«list.__setitem__») (l sl src : Addr) (h : l ≠ src) : { t : Sem PySem.Fin // denote T (sliceC l sl src) = t } := by
  refine ⟨?_,?_⟩
  rotate_left
  · unfold sliceC denote
    simp only [he]
    unfold Builtin.«list.__setitem__»
    have e1 : Builtin.List.listBlankSlotArgs "__setitem__" 2 ⟨[.ref l, .ref sl, .ref src], []⟩ = pure (.ref l, [.ref sl, .ref src]) := rfl
    have e2 : Builtin.List.listSameRef (.ref l) (.ref src) = false := by
      show (l == src) = false
      simpa using h
    simp only [e1,pure_bind,e2,Bool.false_eq_true,if_false]
    rfl
noncomputable def sob : Obj := { cls := .type "slice", data := .fields ⟨[.none, .none, .none]⟩ }
noncomputable def bump (xs ys : List Addr) (n : Nat) : Nat := if xs.length = ys.length then n else n + 1
theorem setslice_does {e : Env0} {D : Nat} {l sl src : Addr} {xs ys : List Addr} {n m : Nat} (hD : D + 100 ≤ recursionLimit) (h : (xs.length,ys.length) ∈ [(0,0),(1,0),(1,1),(2,1),(2,0)]) :
    Does e.G D (.builtin "list.__setitem__" ⟨[.ref l, .ref sl, .ref src], []⟩) [(l, lob (xs.map .ref) n), (sl, sob), (src, lob (ys.map .ref) m)] (fun _ : Unit => True) (fun _ => retV .none)
      (fun _ => [(l,lob (ys.map .ref) (bump xs ys n)),(sl,sob),(src,lob (ys.map .ref) m)]) (fun _ => []) := by
  refine does_nodup fun hn => ?_
  have hne : l ≠ src := by
    intro hx
    subst hx
    simp [keys] at hn
  refine walk (.rw ⟨sliceC l sl src,(sliceT table PySem.F.entry_list_setitem l sl src hne).1,(sliceT table PySem.F.entry_list_setitem l sl src hne).2⟩ :: tn [2,2,2,2,2,3,3,1,1,1,1] []) hD fun A₀ R₀ h₀ sz0 tk0 a0 ad aD fin _ => ?_
  match xs,ys,h with
  | [],[],_ => exact ret_good () [0,0,0] trivial fin rfl (by kernel_rfl) (by kernel_rfl)
  | [a],[],_ => exact ret_good () [0,0,0] trivial fin rfl (by kernel_rfl) (by kernel_rfl)
  | [a],[b],_ => exact ret_good () [0,0,0] trivial fin rfl (by kernel_rfl) (by kernel_rfl)
  | [a,c],[b],_ => exact ret_good () [0,0,0] trivial fin rfl (by kernel_rfl) (by kernel_rfl)
  | [a,c],[],_ => exact ret_good () [0,0,0] trivial fin rfl (by kernel_rfl) (by kernel_rfl)
  | [],_ :: _,h => simp at h
  | [_],_ :: _ :: _,h => simp at h
  | _ :: _ :: _ :: _,_,h => simp at h
  | [_,_],_ :: _ :: _,h => simp at h
end Mine
end
section
open PySem PySem.W PySem.W.X PyProof.Rows
set_option genInjectivity false
set_option genCtorIdx false
set_option backward.match.sparseCases false
namespace Mine
noncomputable def tob (xs : List Value) : Obj := { cls := .type "tuple", data := .seq ⟨xs⟩ 0 }
structure Hd where
  hd : Addr
  hdd : Addr
  hl : Addr
  hh : Nat → Int
  tt : Nat → Tok
structure Pair where
  p : Addr
  x : Str
  t : Tok
  v : Str
  u : Tok
noncomputable def hdD (hh : Nat → Int) (tt : Nat → Tok) (hl : Addr) : Obj := { cls := .type "dict", data := .dict ⟨[ent hh tt 0 [95,104,101,97,100,101,114,115] (.ref hl)]⟩ 1 }
noncomputable def Pair.ob (q : Pair) : Addr × Obj := (q.p,tob [.str q.x q.t,.str q.v q.u])
noncomputable def Hd.M (H : Hd) (ks : List Addr) (n : Nat) (ps : List Pair) : Led := (H.hd,iob 299 H.hdd) :: (H.hdd,hdD H.hh H.tt H.hl) :: (H.hl,lob (ks.map .ref) n) :: ps.map Pair.ob
noncomputable def Hd.L (H : Hd) (ps : List Pair) (n : Nat) : Led := H.M (ps.map (·.p)) n ps
structure Name (x : Str) : Prop where
  fair : Fair x
  low : Fair (Txt.lower x)
  short : Builtin.Str.tooLong (Txt.lower x).length = false

theorem has_0 {e : Env0} {D : Nat} {H : Hd} {x : Str} {t : Tok} {n : Nat} (hD : D + 150 ≤ recursionLimit) (N : Name x) :
    Does e.G D (.call (.ref 231) ⟨[.ref H.hd,.str x t],[]⟩) (H.L [] n) (fun _ : Unit => True) (fun _ => retV (.bool false)) (fun _ => H.L [] n) (fun _ => []) := by
  have n1 := N.fair
  have n2 := N.low
  have n3 := N.short
  refine walk (ts [1,0,1,1,1,1,0,1,2,0,0,0,2,0,0,0,2,0,0,0,0,2,3,1,0,1,0,0,1,1,1,1,1,1,0,1,3,0,0,0,3,0,0,0,3,0,0,0,0,3,4,1] <| ts [0] <| tn [1,1,1,3,0,0,0,3,0,0,0,3,3,0,4,5,5,1001,5,1,1,1,1,1,6,1,1,1,4] []) (by omega) ?_; intro A₀ R₀ h₀ sz0 tk0 a0 ad aD fin gd mm o
  refine mm [] (lower_does (x := x) (t := t) (by assumption)) ?_; intro o k0 sz1 tk1 _
  refine mm [] (conv_does (self := H.hd) (x := (Txt.lower x)) (t := k0) (b := true) (by omega) (by assumption)) ?_; intro o _ sz2 tk2 _
  exact ret_good () [5,5,5] trivial fin rfl

theorem has_h {e : Env0} {D : Nat} {H : Hd} {a : Pair} {x : Str} {t : Tok} {n : Nat} (hD : D + 150 ≤ recursionLimit) (N : Name x) (Na : Name a.x) (sa : same (Txt.lower a.x) (Txt.lower x) = true) :
    Does e.G D (.call (.ref 231) ⟨[.ref H.hd,.str x t],[]⟩) (H.L [a] n) (fun _ : Unit => True) (fun _ => retV (.bool true)) (fun _ => H.L [a] n) (fun _ => []) := by
  have n1 := N.fair
  have n2 := N.low
  have n3 := N.short
  have a1 := Na.short
  refine walk (ts [1,0,1,1,1,1,0,1,2,0,0,0,2,0,0,0,2,0,0,0,0,2,3,1,0,1,0,0,1,1,1,1,1,1,0,1,3,0,0,0,3,0,0,0,3,0,0,0,0,3,4,1] <| ts [0] <| ts [1,1,1,3,0,0,0,3,0,0,0,3,3,0,4,5,5,1001,5,1,1,1,1,1,6,1,1,1,7,7,7,1001,7,1,1,1,1,1,8,1,1,1,1,1,1,8,1,1,1,1,1,1,8,1,1,1,5,5,5,5,5] <| ts [5,1001] <| tn [5] []) (by omega) ?_; intro A₀ R₀ h₀ sz0 tk0 a0 ad aD fin gd mm o
  refine mm [] (lower_does (x := x) (t := t) (by assumption)) ?_; intro o k0 sz1 tk1 _
  refine mm [] (conv_does (self := H.hd) (x := (Txt.lower x)) (t := k0) (b := true) (by omega) (by assumption)) ?_; intro o _ sz2 tk2 _
  refine mm [] (lower_does (x := a.x) (t := a.t) (by assumption)) ?_; intro o k1 sz3 tk3 _
  refine mm [] (str_eq_does (x := (Txt.lower a.x)) (t := k1) (y := (Txt.lower x)) (u := k0) (b := true) (by assumption)) ?_; intro o _ sz4 tk4 _
  exact ret_good () [6,6,6,6] trivial fin rfl

theorem has_n {e : Env0} {D : Nat} {H : Hd} {a : Pair} {x : Str} {t : Tok} {n : Nat} (hD : D + 150 ≤ recursionLimit) (N : Name x) (Na : Name a.x) (sa : same (Txt.lower a.x) (Txt.lower x) = false) :
    Does e.G D (.call (.ref 231) ⟨[.ref H.hd,.str x t],[]⟩) (H.L [a] n) (fun _ : Unit => True) (fun _ => retV (.bool false)) (fun _ => H.L [a] n) (fun _ => []) := by
  have n1 := N.fair
  have n2 := N.low
  have n3 := N.short
  have a1 := Na.short
  refine walk (ts [1,0,1,1,1,1,0,1,2,0,0,0,2,0,0,0,2,0,0,0,0,2,3,1,0,1,0,0,1,1,1,1,1,1,0,1,3,0,0,0,3,0,0,0,3,0,0,0,0,3,4,1] <| ts [0] <| ts [1,1,1,3,0,0,0,3,0,0,0,3,3,0,4,5,5,1001,5,1,1,1,1,1,6,1,1,1,7,7,7,1001,7,1,1,1,1,1,8,1,1,1,1,1,1,8,1,1,1,1,1,1,8,1,1,1,5,5,5,5,5] <| ts [5,1001] <| tn [4,4,4,4,9,4,4,1,7] []) (by omega) ?_; intro A₀ R₀ h₀ sz0 tk0 a0 ad aD fin gd mm o
  refine mm [] (lower_does (x := x) (t := t) (by assumption)) ?_; intro o k0 sz1 tk1 _
  refine mm [] (conv_does (self := H.hd) (x := (Txt.lower x)) (t := k0) (b := true) (by omega) (by assumption)) ?_; intro o _ sz2 tk2 _
  refine mm [] (lower_does (x := a.x) (t := a.t) (by assumption)) ?_; intro o k1 sz3 tk3 _
  refine mm [] (str_eq_does (x := (Txt.lower a.x)) (t := k1) (y := (Txt.lower x)) (u := k0) (b := false) (by assumption)) ?_; intro o _ sz4 tk4 _
  exact ret_good () [8,8,8,8] trivial fin rfl

theorem has_hn {e : Env0} {D : Nat} {H : Hd} {a : Pair} {b : Pair} {x : Str} {t : Tok} {n : Nat} (hD : D + 150 ≤ recursionLimit) (N : Name x) (Na : Name a.x) (sa : same (Txt.lower a.x) (Txt.lower x) = true) (Nb : Name b.x) (sb : same (Txt.lower b.x) (Txt.lower x) = false) :
    Does e.G D (.call (.ref 231) ⟨[.ref H.hd,.str x t],[]⟩) (H.L [a,b] n) (fun _ : Unit => True) (fun _ => retV (.bool true)) (fun _ => H.L [a,b] n) (fun _ => []) := by
  have n1 := N.fair
  have n2 := N.low
  have n3 := N.short
  have a1 := Na.short
  have b1 := Nb.short
  refine walk (ts [1,0,1,1,1,1,0,1,2,0,0,0,2,0,0,0,2,0,0,0,0,2,3,1,0,1,0,0,1,1,1,1,1,1,0,1,3,0,0,0,3,0,0,0,3,0,0,0,0,3,4,1] <| ts [0] <| ts [1,1,1,3,0,0,0,3,0,0,0,3,3,0,4,5,5,1001,5,1,1,1,1,1,6,1,1,1,7,7,7,1001,7,1,1,1,1,1,8,1,1,1,1,1,1,8,1,1,1,1,1,1,8,1,1,1,5,5,5,5,5] <| ts [5,1001] <| tn [5] []) (by omega) ?_; intro A₀ R₀ h₀ sz0 tk0 a0 ad aD fin gd mm o
  refine mm [] (lower_does (x := x) (t := t) (by assumption)) ?_; intro o k0 sz1 tk1 _
  refine mm [] (conv_does (self := H.hd) (x := (Txt.lower x)) (t := k0) (b := true) (by omega) (by assumption)) ?_; intro o _ sz2 tk2 _
  refine mm [] (lower_does (x := a.x) (t := a.t) (by assumption)) ?_; intro o k1 sz3 tk3 _
  refine mm [] (str_eq_does (x := (Txt.lower a.x)) (t := k1) (y := (Txt.lower x)) (u := k0) (b := true) (by assumption)) ?_; intro o _ sz4 tk4 _
  exact ret_good () [6,6,6,6,6] trivial fin rfl

theorem has_hh {e : Env0} {D : Nat} {H : Hd} {a : Pair} {b : Pair} {n : Nat} (hD : D + 150 ≤ recursionLimit) (N : Name a.x) (Na : Name a.x) (sa : same (Txt.lower a.x) (Txt.lower a.x) = true) (Nb : Name b.x) (sb : same (Txt.lower b.x) (Txt.lower a.x) = true) :
    Does e.G D (.call (.ref 231) ⟨[.ref H.hd,.str a.x a.t],[]⟩) (H.L [a,b] n) (fun _ : Unit => True) (fun _ => retV (.bool true)) (fun _ => H.L [a,b] n) (fun _ => []) := by
  have n1 := N.fair
  have n2 := N.low
  have n3 := N.short
  have a1 := Na.short
  have b1 := Nb.short
  refine walk (ts [1,0,1,1,1,1,0,1,2,0,0,0,2,0,0,0,2,0,0,0,0,2,3,1,0,1,0,0,1,1,1,1,1,1,0,1,3,0,0,0,3,0,0,0,3,0,0,0,0,3,4,1] <| ts [0] <| ts [1,1,1,3,0,0,0,3,0,0,0,3,3,0,4,5,5,1001,5,1,1,1,1,1,6,1,1,1,7,7,7,1001,7,1,1,1,1,1,8,1,1,1,1,1,1,8,1,1,1,1,1,1,8,1,1,1,5,5,5,5,5] <| ts [5,1001] <| tn [5] []) (by omega) ?_; intro A₀ R₀ h₀ sz0 tk0 a0 ad aD fin gd mm o
  refine mm [] (lower_does (x := a.x) (t := a.t) (by assumption)) ?_; intro o k0 sz1 tk1 _
  refine mm [] (conv_does (self := H.hd) (x := (Txt.lower a.x)) (t := k0) (b := true) (by omega) (by assumption)) ?_; intro o _ sz2 tk2 _
  refine mm [] (lower_does (x := a.x) (t := a.t) (by assumption)) ?_; intro o k1 sz3 tk3 _
  refine mm [] (str_eq_does (x := (Txt.lower a.x)) (t := k1) (y := (Txt.lower a.x)) (u := k0) (b := true) (by assumption)) ?_; intro o _ sz4 tk4 _
  exact ret_good () [6,6,6,6,6] trivial fin rfl

theorem has_nn {e : Env0} {D : Nat} {H : Hd} {a : Pair} {b : Pair} {x : Str} {t : Tok} {n : Nat} (hD : D + 150 ≤ recursionLimit) (N : Name x) (Na : Name a.x) (sa : same (Txt.lower a.x) (Txt.lower x) = false) (Nb : Name b.x) (sb : same (Txt.lower b.x) (Txt.lower x) = false) :
    Does e.G D (.call (.ref 231) ⟨[.ref H.hd,.str x t],[]⟩) (H.L [a,b] n) (fun _ : Unit => True) (fun _ => retV (.bool false)) (fun _ => H.L [a,b] n) (fun _ => []) := by
  have n1 := N.fair
  have n2 := N.low
  have n3 := N.short
  have a1 := Na.short
  have b1 := Nb.short
  refine walk (ts [1,0,1,1,1,1,0,1,2,0,0,0,2,0,0,0,2,0,0,0,0,2,3,1,0,1,0,0,1,1,1,1,1,1,0,1,3,0,0,0,3,0,0,0,3,0,0,0,0,3,4,1] <| ts [0] <| ts [1,1,1,3,0,0,0,3,0,0,0,3,3,0,4,5,5,1001,5,1,1,1,1,1,6,1,1,1,7,7,7,1001,7,1,1,1,1,1,8,1,1,1,1,1,1,8,1,1,1,1,1,1,8,1,1,1,5,5,5,5,5] <| ts [5,1001] <| ts [4,4,4,4,9,4,4,4,11,11,11,1001,11,1,1,1,1,1,12,1,1,1,1,1,1,12,1,1,1,1,1,1,12,1,1,1,8,8,8,8,8] <| ts [8,1001] <| tn [7,7,7,7,12,7,7,1,10] []) (by omega) ?_; intro A₀ R₀ h₀ sz0 tk0 a0 ad aD fin gd mm o
  refine mm [] (lower_does (x := x) (t := t) (by assumption)) ?_; intro o k0 sz1 tk1 _
  refine mm [] (conv_does (self := H.hd) (x := (Txt.lower x)) (t := k0) (b := true) (by omega) (by assumption)) ?_; intro o _ sz2 tk2 _
  refine mm [] (lower_does (x := a.x) (t := a.t) (by assumption)) ?_; intro o k1 sz3 tk3 _
  refine mm [] (str_eq_does (x := (Txt.lower a.x)) (t := k1) (y := (Txt.lower x)) (u := k0) (b := false) (by assumption)) ?_; intro o _ sz4 tk4 _
  refine mm [] (lower_does (x := b.x) (t := b.t) (by assumption)) ?_; intro o k2 sz5 tk5 _
  refine mm [] (str_eq_does (x := (Txt.lower b.x)) (t := k2) (y := (Txt.lower x)) (u := k0) (b := false) (by assumption)) ?_; intro o _ sz6 tk6 _
  exact ret_good () [11,11,11,11,11] trivial fin rfl

theorem del_0 {e : Env0} {D : Nat} {H : Hd} {x : Str} {t : Tok} {n : Nat} (hD : D + 150 ≤ recursionLimit) (N : Name x) :
    Does e.G D (.call (.ref 217) ⟨[.ref H.hd,.str x t],[]⟩) (H.L [] n) (fun _ : Unit => True) (fun _ => retV .none) (fun _ => H.M [] n []) (fun _ => []) := by
  have n1 := N.fair
  have n2 := N.low
  have n3 := N.short
  refine walk (ts [1,0,2,2,1,1,0,2,3,0,0,0,3,0,0,0,3,0,0,0,0,3,4,1] <| ts [0] <| ts [1,1,2,3,0,0,0,3,0,0,0,3,3,0,4,5,5,1001,5,1,3,3,3,3,3,8,3,3,1,3,7,8,0,0,0,8,0,0,0,8,8,0,9,11,11,11] <| tn [] []) (by omega) ?_; intro A₀ R₀ h₀ sz0 tk0 a0 ad aD fin gd mm o
  refine mm [] (lower_does (x := x) (t := t) (by assumption)) ?_; intro o k0 sz1 tk1 _
  refine mm [] (conv_does (self := H.hd) (x := (Txt.lower x)) (t := k0) (b := true) (by omega) (by assumption)) ?_; intro o _ sz2 tk2 _
  refine mm [10,0,3] (setslice_does (l := H.hl) (sl := (sz2 + 5)) (src := (sz2 + 1)) (xs := []) (ys := []) (n := n) (m := 0) (by omega) (by simp)) ?_; intro o _ sz3 tk3 _
  exact ret_good () [9,9,0] trivial fin rfl

theorem del_h {e : Env0} {D : Nat} {H : Hd} {a : Pair} {x : Str} {t : Tok} {n : Nat} (hD : D + 150 ≤ recursionLimit) (N : Name x) (Na : Name a.x) (sa : same (Txt.lower a.x) (Txt.lower x) = true) :
    Does e.G D (.call (.ref 217) ⟨[.ref H.hd,.str x t],[]⟩) (H.L [a] n) (fun _ : Unit => True) (fun _ => retV .none) (fun _ => H.M [] (n + 1) [a]) (fun _ => []) := by
  have n1 := N.fair
  have n2 := N.low
  have n3 := N.short
  have a1 := Na.short
  refine walk (ts [1,0,2,2,1,1,0,2,3,0,0,0,3,0,0,0,3,0,0,0,0,3,4,1] <| ts [0] <| ts [1,1,2,3,0,0,0,3,0,0,0,3,3,0,4,5,5,1001,5,1,3,3,3,3,3,8,3,3,1,1,1,9,9,9,9,9] <| ts [4,1001] <| ts [3,3,3,3,8,3,3,1,3,3,3,7,8,0,0,0,8,0,0,0,8,8,0,9,11,11,11] <| tn [] []) (by omega) ?_; intro A₀ R₀ h₀ sz0 tk0 a0 ad aD fin gd mm o
  refine mm [] (lower_does (x := x) (t := t) (by assumption)) ?_; intro o k0 sz1 tk1 _
  refine mm [] (conv_does (self := H.hd) (x := (Txt.lower x)) (t := k0) (b := true) (by omega) (by assumption)) ?_; intro o _ sz2 tk2 _
  refine mm [] (lower_does (x := a.x) (t := a.t) (by assumption)) ?_; intro o k1 sz3 tk3 _
  refine mm [] (str_ne_does (x := (Txt.lower a.x)) (t := k1) (y := (Txt.lower x)) (u := k0) (b := true) (by assumption)) ?_; intro o _ sz4 tk4 _
  refine mm [10,0,3] (setslice_does (l := H.hl) (sl := (sz4 + 2)) (src := (sz2 + 1)) (xs := [a.p]) (ys := []) (n := n) (m := 0) (by omega) (by simp)) ?_; intro o _ sz5 tk5 _
  exact ret_good () [9,9,0,8] trivial fin rfl

theorem del_n {e : Env0} {D : Nat} {H : Hd} {a : Pair} {x : Str} {t : Tok} {n : Nat} (hD : D + 150 ≤ recursionLimit) (N : Name x) (Na : Name a.x) (sa : same (Txt.lower a.x) (Txt.lower x) = false) :
    Does e.G D (.call (.ref 217) ⟨[.ref H.hd,.str x t],[]⟩) (H.L [a] n) (fun _ : Unit => True) (fun _ => retV .none) (fun _ => H.M [a.p] n [a]) (fun _ => []) := by
  have n1 := N.fair
  have n2 := N.low
  have n3 := N.short
  have a1 := Na.short
  refine walk (ts [1,0,2,2,1,1,0,2,3,0,0,0,3,0,0,0,3,0,0,0,0,3,4,1] <| ts [0] <| ts [1,1,2,3,0,0,0,3,0,0,0,3,3,0,4,5,5,1001,5,1,3,3,3,3,3,8,3,3,1,1,1,9,9,9,9,9] <| ts [4,1001] <| ts [1,2] <| ts [3,3,3,3,8,3,3,1,4,4,4,7,8,0,0,0,8,0,0,0,8,8,0,9,11,11,11] <| tn [] []) (by omega) ?_; intro A₀ R₀ h₀ sz0 tk0 a0 ad aD fin gd mm o
  refine mm [] (lower_does (x := x) (t := t) (by assumption)) ?_; intro o k0 sz1 tk1 _
  refine mm [] (conv_does (self := H.hd) (x := (Txt.lower x)) (t := k0) (b := true) (by omega) (by assumption)) ?_; intro o _ sz2 tk2 _
  refine mm [] (lower_does (x := a.x) (t := a.t) (by assumption)) ?_; intro o k1 sz3 tk3 _
  refine mm [] (str_ne_does (x := (Txt.lower a.x)) (t := k1) (y := (Txt.lower x)) (u := k0) (b := false) (by assumption)) ?_; intro o _ sz4 tk4 _
  refine mm [1] (append_does (l := (sz2 + 1)) (xs := []) (n := 0) (v := (.ref a.p)) (Nat.le_of_ble_eq_true rfl)) ?_; intro o _ sz5 tk5 _
  refine mm [10,0,2] (setslice_does (l := H.hl) (sl := (sz5 + 2)) (src := (sz2 + 1)) (xs := [a.p]) (ys := [a.p]) (n := n) (m := 1) (by omega) (by simp)) ?_; intro o _ sz6 tk6 _
  exact ret_good () [9,9,0,8] trivial fin rfl

theorem del_hn {e : Env0} {D : Nat} {H : Hd} {a : Pair} {b : Pair} {x : Str} {t : Tok} {n : Nat} (hD : D + 150 ≤ recursionLimit) (N : Name x) (Na : Name a.x) (sa : same (Txt.lower a.x) (Txt.lower x) = true) (Nb : Name b.x) (sb : same (Txt.lower b.x) (Txt.lower x) = false) :
    Does e.G D (.call (.ref 217) ⟨[.ref H.hd,.str x t],[]⟩) (H.L [a,b] n) (fun _ : Unit => True) (fun _ => retV .none) (fun _ => H.M [b.p] (n + 1) [a,b]) (fun _ => []) := by
  have n1 := N.fair
  have n2 := N.low
  have n3 := N.short
  have a1 := Na.short
  have b1 := Nb.short
  refine walk (ts [1,0,2,2,1,1,0,2,3,0,0,0,3,0,0,0,3,0,0,0,0,3,4,1] <| ts [0] <| ts [1,1,2,3,0,0,0,3,0,0,0,3,3,0,4,5,5,1001,5,1,3,3,3,3,3,8,3,3,1,1,1,9,9,9,9,9] <| ts [4,1001] <| ts [3,3,3,3,8,3,3,1,1,1,10,10,10,10,10] <| ts [4,1001] <| ts [1,2] <| ts [3,3,3,3,8,3,3,1,4,4,4,7,8,0,0,0,8,0,0,0,8,8,0,9,11,11,11] <| tn [] []) (by omega) ?_; intro A₀ R₀ h₀ sz0 tk0 a0 ad aD fin gd mm o
  refine mm [] (lower_does (x := x) (t := t) (by assumption)) ?_; intro o k0 sz1 tk1 _
  refine mm [] (conv_does (self := H.hd) (x := (Txt.lower x)) (t := k0) (b := true) (by omega) (by assumption)) ?_; intro o _ sz2 tk2 _
  refine mm [] (lower_does (x := a.x) (t := a.t) (by assumption)) ?_; intro o k1 sz3 tk3 _
  refine mm [] (str_ne_does (x := (Txt.lower a.x)) (t := k1) (y := (Txt.lower x)) (u := k0) (b := true) (by assumption)) ?_; intro o _ sz4 tk4 _
  refine mm [] (lower_does (x := b.x) (t := b.t) (by assumption)) ?_; intro o k2 sz5 tk5 _
  refine mm [] (str_ne_does (x := (Txt.lower b.x)) (t := k2) (y := (Txt.lower x)) (u := k0) (b := false) (by assumption)) ?_; intro o _ sz6 tk6 _
  refine mm [1] (append_does (l := (sz2 + 1)) (xs := []) (n := 0) (v := (.ref b.p)) (Nat.le_of_ble_eq_true rfl)) ?_; intro o _ sz7 tk7 _
  refine mm [10,0,2] (setslice_does (l := H.hl) (sl := (sz7 + 2)) (src := (sz2 + 1)) (xs := [a.p,b.p]) (ys := [b.p]) (n := n) (m := 1) (by omega) (by simp)) ?_; intro o _ sz8 tk8 _
  exact ret_good () [9,9,0,8,8] trivial fin rfl

theorem del_hh {e : Env0} {D : Nat} {H : Hd} {a : Pair} {b : Pair} {x : Str} {t : Tok} {n : Nat} (hD : D + 150 ≤ recursionLimit) (N : Name x) (Na : Name a.x) (sa : same (Txt.lower a.x) (Txt.lower x) = true) (Nb : Name b.x) (sb : same (Txt.lower b.x) (Txt.lower x) = true) :
    Does e.G D (.call (.ref 217) ⟨[.ref H.hd,.str x t],[]⟩) (H.L [a,b] n) (fun _ : Unit => True) (fun _ => retV .none) (fun _ => H.M [] (n + 1) [a,b]) (fun _ => []) := by
  have n1 := N.fair
  have n2 := N.low
  have n3 := N.short
  have a1 := Na.short
  have b1 := Nb.short
  refine walk (ts [1,0,2,2,1,1,0,2,3,0,0,0,3,0,0,0,3,0,0,0,0,3,4,1] <| ts [0] <| ts [1,1,2,3,0,0,0,3,0,0,0,3,3,0,4,5,5,1001,5,1,3,3,3,3,3,8,3,3,1,1,1,9,9,9,9,9] <| ts [4,1001] <| ts [3,3,3,3,8,3,3,1,1,1,10,10,10,10,10] <| ts [4,1001] <| ts [3,3,3,3,8,3,3,1,3,3,3,7,8,0,0,0,8,0,0,0,8,8,0,9,11,11,11] <| tn [] []) (by omega) ?_; intro A₀ R₀ h₀ sz0 tk0 a0 ad aD fin gd mm o
  refine mm [] (lower_does (x := x) (t := t) (by assumption)) ?_; intro o k0 sz1 tk1 _
  refine mm [] (conv_does (self := H.hd) (x := (Txt.lower x)) (t := k0) (b := true) (by omega) (by assumption)) ?_; intro o _ sz2 tk2 _
  refine mm [] (lower_does (x := a.x) (t := a.t) (by assumption)) ?_; intro o k1 sz3 tk3 _
  refine mm [] (str_ne_does (x := (Txt.lower a.x)) (t := k1) (y := (Txt.lower x)) (u := k0) (b := true) (by assumption)) ?_; intro o _ sz4 tk4 _
  refine mm [] (lower_does (x := b.x) (t := b.t) (by assumption)) ?_; intro o k2 sz5 tk5 _
  refine mm [] (str_ne_does (x := (Txt.lower b.x)) (t := k2) (y := (Txt.lower x)) (u := k0) (b := true) (by assumption)) ?_; intro o _ sz6 tk6 _
  refine mm [10,0,3] (setslice_does (l := H.hl) (sl := (sz6 + 2)) (src := (sz2 + 1)) (xs := [a.p,b.p]) (ys := []) (n := n) (m := 0) (by omega) (by simp)) ?_; intro o _ sz7 tk7 _
  exact ret_good () [9,9,0,8,8] trivial fin rfl

theorem del_nh {e : Env0} {D : Nat} {H : Hd} {a : Pair} {b : Pair} {x : Str} {t : Tok} {n : Nat} (hD : D + 150 ≤ recursionLimit) (N : Name x) (Na : Name a.x) (sa : same (Txt.lower a.x) (Txt.lower x) = false) (Nb : Name b.x) (sb : same (Txt.lower b.x) (Txt.lower x) = true) :
    Does e.G D (.call (.ref 217) ⟨[.ref H.hd,.str x t],[]⟩) (H.L [a,b] n) (fun _ : Unit => True) (fun _ => retV .none) (fun _ => H.M [a.p] (n + 1) [a,b]) (fun _ => []) := by
  have n1 := N.fair
  have n2 := N.low
  have n3 := N.short
  have a1 := Na.short
  have b1 := Nb.short
  refine walk (ts [1,0,2,2,1,1,0,2,3,0,0,0,3,0,0,0,3,0,0,0,0,3,4,1] <| ts [0] <| ts [1,1,2,3,0,0,0,3,0,0,0,3,3,0,4,5,5,1001,5,1,3,3,3,3,3,8,3,3,1,1,1,9,9,9,9,9] <| ts [4,1001] <| ts [1,2] <| ts [3,3,3,3,8,3,3,2,2,2,10,10,10,10,10] <| ts [4,1001] <| ts [3,3,3,3,8,3,3,1,4,4,4,7,8,0,0,0,8,0,0,0,8,8,0,9,11,11,11] <| tn [] []) (by omega) ?_; intro A₀ R₀ h₀ sz0 tk0 a0 ad aD fin gd mm o
  refine mm [] (lower_does (x := x) (t := t) (by assumption)) ?_; intro o k0 sz1 tk1 _
  refine mm [] (conv_does (self := H.hd) (x := (Txt.lower x)) (t := k0) (b := true) (by omega) (by assumption)) ?_; intro o _ sz2 tk2 _
  refine mm [] (lower_does (x := a.x) (t := a.t) (by assumption)) ?_; intro o k1 sz3 tk3 _
  refine mm [] (str_ne_does (x := (Txt.lower a.x)) (t := k1) (y := (Txt.lower x)) (u := k0) (b := false) (by assumption)) ?_; intro o _ sz4 tk4 _
  refine mm [1] (append_does (l := (sz2 + 1)) (xs := []) (n := 0) (v := (.ref a.p)) (Nat.le_of_ble_eq_true rfl)) ?_; intro o _ sz5 tk5 _
  refine mm [] (lower_does (x := b.x) (t := b.t) (by assumption)) ?_; intro o k2 sz6 tk6 _
  refine mm [] (str_ne_does (x := (Txt.lower b.x)) (t := k2) (y := (Txt.lower x)) (u := k0) (b := true) (by assumption)) ?_; intro o _ sz7 tk7 _
  refine mm [10,0,2] (setslice_does (l := H.hl) (sl := (sz7 + 2)) (src := (sz2 + 1)) (xs := [a.p,b.p]) (ys := [a.p]) (n := n) (m := 1) (by omega) (by simp)) ?_; intro o _ sz8 tk8 _
  exact ret_good () [9,9,0,8,8] trivial fin rfl

theorem contains_0 {e : Env0} {D : Nat} {H : Hd} {x : Str} {t : Tok} {n : Nat} (hD : D + 200 ≤ recursionLimit) (N : Name x) :
    Does e.G D (.call (.ref 144) ⟨[.ref H.hd,.str x t],[]⟩) (H.L [] n) (fun _ : Unit => True) (fun _ => retV (.bool false)) (fun _ => H.L [] n) (fun _ => []) := by
  have n1 := N.fair
  have n2 := N.low
  have n3 := N.short
  refine walk (ts [1,0,1,1,1,1,0,1,1,2,0,0,0,2,0,0,0,0] <| tn [] []) (by omega) ?_; intro A₀ R₀ h₀ sz0 tk0 a0 ad aD fin gd mm o
  refine mm [1,1,1] (has_0 (H := H) (n := n) (x := x) (t := t) (by omega) (by assumption)) ?_; intro o _ sz1 tk1 _
  exact ret_good () [0,0,0] trivial fin rfl

theorem contains_h {e : Env0} {D : Nat} {H : Hd} {a : Pair} {x : Str} {t : Tok} {n : Nat} (hD : D + 200 ≤ recursionLimit) (N : Name x) (Na : Name a.x) (sa : same (Txt.lower a.x) (Txt.lower x) = true) :
    Does e.G D (.call (.ref 144) ⟨[.ref H.hd,.str x t],[]⟩) (H.L [a] n) (fun _ : Unit => True) (fun _ => retV (.bool true)) (fun _ => H.L [a] n) (fun _ => []) := by
  have n1 := N.fair
  have n2 := N.low
  have n3 := N.short
  have a1 := Na.short
  refine walk (ts [1,0,1,1,1,1,0,1,1,2,0,0,0,2,0,0,0,0] <| tn [] []) (by omega) ?_; intro A₀ R₀ h₀ sz0 tk0 a0 ad aD fin gd mm o
  refine mm [1,1,1,1] (has_h (H := H) (a := a) (n := n) (x := x) (t := t) (by omega) (by assumption) Na (by assumption)) ?_; intro o _ sz1 tk1 _
  exact ret_good () [0,0,0,0] trivial fin rfl

theorem contains_n {e : Env0} {D : Nat} {H : Hd} {a : Pair} {x : Str} {t : Tok} {n : Nat} (hD : D + 200 ≤ recursionLimit) (N : Name x) (Na : Name a.x) (sa : same (Txt.lower a.x) (Txt.lower x) = false) :
    Does e.G D (.call (.ref 144) ⟨[.ref H.hd,.str x t],[]⟩) (H.L [a] n) (fun _ : Unit => True) (fun _ => retV (.bool false)) (fun _ => H.L [a] n) (fun _ => []) := by
  have n1 := N.fair
  have n2 := N.low
  have n3 := N.short
  have a1 := Na.short
  refine walk (ts [1,0,1,1,1,1,0,1,1,2,0,0,0,2,0,0,0,0] <| tn [] []) (by omega) ?_; intro A₀ R₀ h₀ sz0 tk0 a0 ad aD fin gd mm o
  refine mm [1,1,1,1] (has_n (H := H) (a := a) (n := n) (x := x) (t := t) (by omega) (by assumption) Na (by assumption)) ?_; intro o _ sz1 tk1 _
  exact ret_good () [0,0,0,0] trivial fin rfl

theorem contains_hn {e : Env0} {D : Nat} {H : Hd} {a : Pair} {b : Pair} {x : Str} {t : Tok} {n : Nat} (hD : D + 200 ≤ recursionLimit) (N : Name x) (Na : Name a.x) (sa : same (Txt.lower a.x) (Txt.lower x) = true) (Nb : Name b.x) (sb : same (Txt.lower b.x) (Txt.lower x) = false) :
    Does e.G D (.call (.ref 144) ⟨[.ref H.hd,.str x t],[]⟩) (H.L [a,b] n) (fun _ : Unit => True) (fun _ => retV (.bool true)) (fun _ => H.L [a,b] n) (fun _ => []) := by
  have n1 := N.fair
  have n2 := N.low
  have n3 := N.short
  have a1 := Na.short
  have b1 := Nb.short
  refine walk (ts [1,0,1,1,1,1,0,1,1,2,0,0,0,2,0,0,0,0] <| tn [] []) (by omega) ?_; intro A₀ R₀ h₀ sz0 tk0 a0 ad aD fin gd mm o
  refine mm [1,1,1,1,1] (has_hn (H := H) (a := a) (b := b) (n := n) (x := x) (t := t) (by omega) (by assumption) Na (by assumption) Nb (by assumption)) ?_; intro o _ sz1 tk1 _
  exact ret_good () [0,0,0,0,0] trivial fin rfl

theorem contains_hh {e : Env0} {D : Nat} {H : Hd} {a : Pair} {b : Pair} {n : Nat} (hD : D + 200 ≤ recursionLimit) (N : Name a.x) (Na : Name a.x) (sa : same (Txt.lower a.x) (Txt.lower a.x) = true) (Nb : Name b.x) (sb : same (Txt.lower b.x) (Txt.lower a.x) = true) :
    Does e.G D (.call (.ref 144) ⟨[.ref H.hd,.str a.x a.t],[]⟩) (H.L [a,b] n) (fun _ : Unit => True) (fun _ => retV (.bool true)) (fun _ => H.L [a,b] n) (fun _ => []) := by
  have n1 := N.fair
  have n2 := N.low
  have n3 := N.short
  have a1 := Na.short
  have b1 := Nb.short
  refine walk (ts [1,0,1,1,1,1,0,1,1,2,0,0,0,2,0,0,0,0] <| tn [] []) (by omega) ?_; intro A₀ R₀ h₀ sz0 tk0 a0 ad aD fin gd mm o
  refine mm [1,1,1,1,1] (has_hh (H := H) (a := a) (b := b) (n := n) (by omega) (by assumption) Na (by assumption) Nb (by assumption)) ?_; intro o _ sz1 tk1 _
  exact ret_good () [0,0,0,0,0] trivial fin rfl

theorem contains_nn {e : Env0} {D : Nat} {H : Hd} {a : Pair} {b : Pair} {x : Str} {t : Tok} {n : Nat} (hD : D + 200 ≤ recursionLimit) (N : Name x) (Na : Name a.x) (sa : same (Txt.lower a.x) (Txt.lower x) = false) (Nb : Name b.x) (sb : same (Txt.lower b.x) (Txt.lower x) = false) :
    Does e.G D (.call (.ref 144) ⟨[.ref H.hd,.str x t],[]⟩) (H.L [a,b] n) (fun _ : Unit => True) (fun _ => retV (.bool false)) (fun _ => H.L [a,b] n) (fun _ => []) := by
  have n1 := N.fair
  have n2 := N.low
  have n3 := N.short
  have a1 := Na.short
  have b1 := Nb.short
  refine walk (ts [1,0,1,1,1,1,0,1,1,2,0,0,0,2,0,0,0,0] <| tn [] []) (by omega) ?_; intro A₀ R₀ h₀ sz0 tk0 a0 ad aD fin gd mm o
  refine mm [1,1,1,1,1] (has_nn (H := H) (a := a) (b := b) (n := n) (x := x) (t := t) (by omega) (by assumption) Na (by assumption) Nb (by assumption)) ?_; intro o _ sz1 tk1 _
  exact ret_good () [0,0,0,0,0] trivial fin rfl

theorem set_0 {e : Env0} {D : Nat} {H : Hd} {x : Str} {t : Tok} {v : Str} {u : Tok} {n : Nat} (hD : D + 200 ≤ recursionLimit) (N : Name x) (hv : Fair v) :
    Does e.G D (.call (.ref 212) ⟨[.ref H.hd,.str x t,.str v u],[]⟩) (H.L [] n) (fun _ : Addr => True) (fun _ => retV .none) (fun r => H.M [r] (n + 1) []) (fun r => [(r,tob [.str x t,.str v u])]) := by
  have n1 := N.fair
  have n2 := N.low
  have n3 := N.short
  refine walk (ts [1,0,1,1,1,1,1,1,0,1,1,2,0,2,0,0,0,0] <| ts [4,1,0,0,0,1,0,0,0,1,1,0,2,3,3,3,3,4,1,0,0,0,1,0,0,0,1,0,0,0,0,1,2,4,0] <| ts [4,1,0,0,0,1,0,0,0,1,0,0,0,0,1,2,4,0] <| ts [4] <| tn [] []) (by omega) ?_; intro A₀ R₀ h₀ sz0 tk0 a0 ad aD fin gd mm o
  refine mm [1,1,1] (del_0 (H := H) (n := n) (x := x) (t := t) (by omega) (by assumption)) ?_; intro o _ sz1 tk1 _
  refine mm [] (conv_does (self := H.hd) (x := x) (t := t) (b := true) (by omega) (by assumption)) ?_; intro o _ sz2 tk2 _
  refine mm [] (conv_does (self := H.hd) (x := v) (t := u) (b := false) (by omega) (by assumption)) ?_; intro o _ sz3 tk3 _
  refine mm [3] (append_does (l := H.hl) (xs := []) (n := n) (v := (.ref sz3)) (Nat.le_of_ble_eq_true rfl)) ?_; intro o _ sz4 tk4 _
  exact ret_good sz3 [2,2,0,0] trivial fin rfl

theorem set_h {e : Env0} {D : Nat} {H : Hd} {a : Pair} {x : Str} {t : Tok} {v : Str} {u : Tok} {n : Nat} (hD : D + 200 ≤ recursionLimit) (N : Name x) (Na : Name a.x) (sa : same (Txt.lower a.x) (Txt.lower x) = true) (hv : Fair v) :
    Does e.G D (.call (.ref 212) ⟨[.ref H.hd,.str x t,.str v u],[]⟩) (H.L [a] n) (fun _ : Addr => True) (fun _ => retV .none) (fun r => H.M [r] (n + 2) [a]) (fun r => [(r,tob [.str x t,.str v u])]) := by
  have n1 := N.fair
  have n2 := N.low
  have n3 := N.short
  have a1 := Na.short
  refine walk (ts [1,0,1,1,1,1,1,1,0,1,1,2,0,2,0,0,0,0] <| ts [5,1,0,0,0,1,0,0,0,1,1,0,2,3,3,3,3,5,1,0,0,0,1,0,0,0,1,0,0,0,0,1,2,5,0] <| ts [5,1,0,0,0,1,0,0,0,1,0,0,0,0,1,2,5,0] <| ts [4] <| tn [] []) (by omega) ?_; intro A₀ R₀ h₀ sz0 tk0 a0 ad aD fin gd mm o
  refine mm [1,1,1,1] (del_h (H := H) (a := a) (n := n) (x := x) (t := t) (by omega) (by assumption) Na (by assumption)) ?_; intro o _ sz1 tk1 _
  refine mm [] (conv_does (self := H.hd) (x := x) (t := t) (b := true) (by omega) (by assumption)) ?_; intro o _ sz2 tk2 _
  refine mm [] (conv_does (self := H.hd) (x := v) (t := u) (b := false) (by omega) (by assumption)) ?_; intro o _ sz3 tk3 _
  refine mm [3] (append_does (l := H.hl) (xs := []) (n := (n + 1)) (v := (.ref sz3)) (Nat.le_of_ble_eq_true rfl)) ?_; intro o _ sz4 tk4 _
  exact ret_good sz3 [2,2,0,1,0] trivial fin rfl

theorem set_n {e : Env0} {D : Nat} {H : Hd} {a : Pair} {x : Str} {t : Tok} {v : Str} {u : Tok} {n : Nat} (hD : D + 200 ≤ recursionLimit) (N : Name x) (Na : Name a.x) (sa : same (Txt.lower a.x) (Txt.lower x) = false) (hv : Fair v) :
    Does e.G D (.call (.ref 212) ⟨[.ref H.hd,.str x t,.str v u],[]⟩) (H.L [a] n) (fun _ : Addr => True) (fun _ => retV .none) (fun r => H.M [a.p,r] (n + 1) [a]) (fun r => [(r,tob [.str x t,.str v u])]) := by
  have n1 := N.fair
  have n2 := N.low
  have n3 := N.short
  have a1 := Na.short
  refine walk (ts [1,0,1,1,1,1,1,1,0,1,1,2,0,2,0,0,0,0] <| ts [5,1,0,0,0,1,0,0,0,1,1,0,2,3,3,3,3,5,1,0,0,0,1,0,0,0,1,0,0,0,0,1,2,5,0] <| ts [5,1,0,0,0,1,0,0,0,1,0,0,0,0,1,2,5,0] <| ts [4] <| tn [] []) (by omega) ?_; intro A₀ R₀ h₀ sz0 tk0 a0 ad aD fin gd mm o
  refine mm [1,1,1,1] (del_n (H := H) (a := a) (n := n) (x := x) (t := t) (by omega) (by assumption) Na (by assumption)) ?_; intro o _ sz1 tk1 _
  refine mm [] (conv_does (self := H.hd) (x := x) (t := t) (b := true) (by omega) (by assumption)) ?_; intro o _ sz2 tk2 _
  refine mm [] (conv_does (self := H.hd) (x := v) (t := u) (b := false) (by omega) (by assumption)) ?_; intro o _ sz3 tk3 _
  refine mm [3] (append_does (l := H.hl) (xs := [(.ref a.p)]) (n := n) (v := (.ref sz3)) (Nat.le_of_ble_eq_true rfl)) ?_; intro o _ sz4 tk4 _
  exact ret_good sz3 [2,2,0,1,0] trivial fin rfl

theorem set_nh {e : Env0} {D : Nat} {H : Hd} {a : Pair} {b : Pair} {x : Str} {t : Tok} {v : Str} {u : Tok} {n : Nat} (hD : D + 200 ≤ recursionLimit) (N : Name x) (Na : Name a.x) (sa : same (Txt.lower a.x) (Txt.lower x) = false) (Nb : Name b.x) (sb : same (Txt.lower b.x) (Txt.lower x) = true) (hv : Fair v) :
    Does e.G D (.call (.ref 212) ⟨[.ref H.hd,.str x t,.str v u],[]⟩) (H.L [a,b] n) (fun _ : Addr => True) (fun _ => retV .none) (fun r => H.M [a.p,r] (n + 2) [a,b]) (fun r => [(r,tob [.str x t,.str v u])]) := by
  have n1 := N.fair
  have n2 := N.low
  have n3 := N.short
  have a1 := Na.short
  have b1 := Nb.short
  refine walk (ts [1,0,1,1,1,1,1,1,0,1,1,2,0,2,0,0,0,0] <| ts [6,1,0,0,0,1,0,0,0,1,1,0,2,3,3,3,3,6,1,0,0,0,1,0,0,0,1,0,0,0,0,1,2,6,0] <| ts [6,1,0,0,0,1,0,0,0,1,0,0,0,0,1,2,6,0] <| ts [4] <| tn [] []) (by omega) ?_; intro A₀ R₀ h₀ sz0 tk0 a0 ad aD fin gd mm o
  refine mm [1,1,1,1,1] (del_nh (H := H) (a := a) (b := b) (n := n) (x := x) (t := t) (by omega) (by assumption) Na (by assumption) Nb (by assumption)) ?_; intro o _ sz1 tk1 _
  refine mm [] (conv_does (self := H.hd) (x := x) (t := t) (b := true) (by omega) (by assumption)) ?_; intro o _ sz2 tk2 _
  refine mm [] (conv_does (self := H.hd) (x := v) (t := u) (b := false) (by omega) (by assumption)) ?_; intro o _ sz3 tk3 _
  refine mm [3] (append_does (l := H.hl) (xs := [(.ref a.p)]) (n := (n + 1)) (v := (.ref sz3)) (Nat.le_of_ble_eq_true rfl)) ?_; intro o _ sz4 tk4 _
  exact ret_good sz3 [2,2,0,1,1,0] trivial fin rfl

theorem delitem_h {e : Env0} {D : Nat} {H : Hd} {a : Pair} {x : Str} {t : Tok} {n : Nat} (hD : D + 200 ≤ recursionLimit) (N : Name x) (Na : Name a.x) (sa : same (Txt.lower a.x) (Txt.lower x) = true) :
    Does e.G D (.call (.ref 151) ⟨[.ref H.hd,.str x t],[]⟩) (H.L [a] n) (fun _ : Unit => True) (fun _ => retV .none) (fun _ => H.M [] (n + 1) [a]) (fun _ => []) := by
  have n1 := N.fair
  have n2 := N.low
  have n3 := N.short
  have a1 := Na.short
  refine walk (ts [1,0,1,1,1,1,0,1,1,2,0,2,0,0,0,0] <| tn [] []) (by omega) ?_; intro A₀ R₀ h₀ sz0 tk0 a0 ad aD fin gd mm o
  refine mm [1,1,1,1] (del_h (H := H) (a := a) (n := n) (x := x) (t := t) (by omega) (by assumption) Na (by assumption)) ?_; intro o _ sz1 tk1 _
  exact ret_good () [0,0,0,0] trivial fin rfl

theorem delitem_hn {e : Env0} {D : Nat} {H : Hd} {a : Pair} {b : Pair} {x : Str} {t : Tok} {n : Nat} (hD : D + 200 ≤ recursionLimit) (N : Name x) (Na : Name a.x) (sa : same (Txt.lower a.x) (Txt.lower x) = true) (Nb : Name b.x) (sb : same (Txt.lower b.x) (Txt.lower x) = false) :
    Does e.G D (.call (.ref 151) ⟨[.ref H.hd,.str x t],[]⟩) (H.L [a,b] n) (fun _ : Unit => True) (fun _ => retV .none) (fun _ => H.M [b.p] (n + 1) [a,b]) (fun _ => []) := by
  have n1 := N.fair
  have n2 := N.low
  have n3 := N.short
  have a1 := Na.short
  have b1 := Nb.short
  refine walk (ts [1,0,1,1,1,1,0,1,1,2,0,2,0,0,0,0] <| tn [] []) (by omega) ?_; intro A₀ R₀ h₀ sz0 tk0 a0 ad aD fin gd mm o
  refine mm [1,1,1,1,1] (del_hn (H := H) (a := a) (b := b) (n := n) (x := x) (t := t) (by omega) (by assumption) Na (by assumption) Nb (by assumption)) ?_; intro o _ sz1 tk1 _
  exact ret_good () [0,0,0,0,0] trivial fin rfl

theorem delitem_hh {e : Env0} {D : Nat} {H : Hd} {a : Pair} {b : Pair} {x : Str} {t : Tok} {n : Nat} (hD : D + 200 ≤ recursionLimit) (N : Name x) (Na : Name a.x) (sa : same (Txt.lower a.x) (Txt.lower x) = true) (Nb : Name b.x) (sb : same (Txt.lower b.x) (Txt.lower x) = true) :
    Does e.G D (.call (.ref 151) ⟨[.ref H.hd,.str x t],[]⟩) (H.L [a,b] n) (fun _ : Unit => True) (fun _ => retV .none) (fun _ => H.M [] (n + 1) [a,b]) (fun _ => []) := by
  have n1 := N.fair
  have n2 := N.low
  have n3 := N.short
  have a1 := Na.short
  have b1 := Nb.short
  refine walk (ts [1,0,1,1,1,1,0,1,1,2,0,2,0,0,0,0] <| tn [] []) (by omega) ?_; intro A₀ R₀ h₀ sz0 tk0 a0 ad aD fin gd mm o
  refine mm [1,1,1,1,1] (del_hh (H := H) (a := a) (b := b) (n := n) (x := x) (t := t) (by omega) (by assumption) Na (by assumption) Nb (by assumption)) ?_; intro o _ sz1 tk1 _
  exact ret_good () [0,0,0,0,0] trivial fin rfl

theorem setitem_0 {e : Env0} {D : Nat} {H : Hd} {x : Str} {t : Tok} {v : Str} {u : Tok} {n : Nat} (hD : D + 250 ≤ recursionLimit) (N : Name x) (hv : Fair v) :
    Does e.G D (.call (.ref 158) ⟨[.ref H.hd,.str x t,.str v u],[]⟩) (H.L [] n) (fun _ : Addr => True) (fun _ => retV .none) (fun r => H.M [r] (n + 1) []) (fun r => [(r,tob [.str x t,.str v u])]) := by
  have n1 := N.fair
  have n2 := N.low
  have n3 := N.short
  refine walk (ts [1,0,1,1,1,1,1,1,0,1,1,1,2,0,2,0,0,0,0] <| tn [] []) (by omega) ?_; intro A₀ R₀ h₀ sz0 tk0 a0 ad aD fin gd mm o
  refine mm [1,1,1] (set_0 (H := H) (n := n) (x := x) (t := t) (v := v) (u := u) (by omega) (by assumption) (by assumption)) ?_; intro o r0 sz1 tk1 _
  exact ret_good r0 [1,1,1,0] trivial fin rfl

theorem setitem_h {e : Env0} {D : Nat} {H : Hd} {a : Pair} {x : Str} {t : Tok} {v : Str} {u : Tok} {n : Nat} (hD : D + 250 ≤ recursionLimit) (N : Name x) (Na : Name a.x) (sa : same (Txt.lower a.x) (Txt.lower x) = true) (hv : Fair v) :
    Does e.G D (.call (.ref 158) ⟨[.ref H.hd,.str x t,.str v u],[]⟩) (H.L [a] n) (fun _ : Addr => True) (fun _ => retV .none) (fun r => H.M [r] (n + 2) [a]) (fun r => [(r,tob [.str x t,.str v u])]) := by
  have n1 := N.fair
  have n2 := N.low
  have n3 := N.short
  have a1 := Na.short
  refine walk (ts [1,0,1,1,1,1,1,1,0,1,1,1,2,0,2,0,0,0,0] <| tn [] []) (by omega) ?_; intro A₀ R₀ h₀ sz0 tk0 a0 ad aD fin gd mm o
  refine mm [1,1,1,1] (set_h (H := H) (a := a) (n := n) (x := x) (t := t) (v := v) (u := u) (by omega) (by assumption) Na (by assumption) (by assumption)) ?_; intro o r0 sz1 tk1 _
  exact ret_good r0 [1,1,1,1,0] trivial fin rfl

theorem setitem_n {e : Env0} {D : Nat} {H : Hd} {a : Pair} {x : Str} {t : Tok} {v : Str} {u : Tok} {n : Nat} (hD : D + 250 ≤ recursionLimit) (N : Name x) (Na : Name a.x) (sa : same (Txt.lower a.x) (Txt.lower x) = false) (hv : Fair v) :
    Does e.G D (.call (.ref 158) ⟨[.ref H.hd,.str x t,.str v u],[]⟩) (H.L [a] n) (fun _ : Addr => True) (fun _ => retV .none) (fun r => H.M [a.p,r] (n + 1) [a]) (fun r => [(r,tob [.str x t,.str v u])]) := by
  have n1 := N.fair
  have n2 := N.low
  have n3 := N.short
  have a1 := Na.short
  refine walk (ts [1,0,1,1,1,1,1,1,0,1,1,1,2,0,2,0,0,0,0] <| tn [] []) (by omega) ?_; intro A₀ R₀ h₀ sz0 tk0 a0 ad aD fin gd mm o
  refine mm [1,1,1,1] (set_n (H := H) (a := a) (n := n) (x := x) (t := t) (v := v) (u := u) (by omega) (by assumption) Na (by assumption) (by assumption)) ?_; intro o r0 sz1 tk1 _
  exact ret_good r0 [1,1,1,1,0] trivial fin rfl

theorem setitem_nh {e : Env0} {D : Nat} {H : Hd} {a : Pair} {b : Pair} {x : Str} {t : Tok} {v : Str} {u : Tok} {n : Nat} (hD : D + 250 ≤ recursionLimit) (N : Name x) (Na : Name a.x) (sa : same (Txt.lower a.x) (Txt.lower x) = false) (Nb : Name b.x) (sb : same (Txt.lower b.x) (Txt.lower x) = true) (hv : Fair v) :
    Does e.G D (.call (.ref 158) ⟨[.ref H.hd,.str x t,.str v u],[]⟩) (H.L [a,b] n) (fun _ : Addr => True) (fun _ => retV .none) (fun r => H.M [a.p,r] (n + 2) [a,b]) (fun r => [(r,tob [.str x t,.str v u])]) := by
  have n1 := N.fair
  have n2 := N.low
  have n3 := N.short
  have a1 := Na.short
  have b1 := Nb.short
  refine walk (ts [1,0,1,1,1,1,1,1,0,1,1,1,2,0,2,0,0,0,0] <| tn [] []) (by omega) ?_; intro A₀ R₀ h₀ sz0 tk0 a0 ad aD fin gd mm o
  refine mm [1,1,1,1,1] (set_nh (H := H) (a := a) (b := b) (n := n) (x := x) (t := t) (v := v) (u := u) (by omega) (by assumption) Na (by assumption) Nb (by assumption) (by assumption)) ?_; intro o r0 sz1 tk1 _
  exact ret_good r0 [1,1,1,1,1,0] trivial fin rfl

theorem values_0 {e : Env0} {D : Nat} {H : Hd} {n : Nat} (hD : D + 100 ≤ recursionLimit) :
    Does e.G D (.call (.ref 256) ⟨[.ref H.hd],[]⟩) (H.L [] n) (fun _ : Addr => True) (fun r => retV (.ref r)) (fun _ => H.L [] n) (fun r => [(r,lob [] 0)]) := by
  refine walk (tn [1,0,1,1,0,1,2,0,0,0,2,0,0,0,2,2,0,3,4,4,1001,4,1,3,3,3,3,3,7,3,3,1,3,3] []) (by omega) ?_; intro A₀ R₀ h₀ sz0 tk0 a0 ad aD fin gd mm o
  exact ret_good (sz0 + 2) [6,6,6,3] trivial fin rfl

theorem values_1 {e : Env0} {D : Nat} {H : Hd} {a : Pair} {n : Nat} (hD : D + 100 ≤ recursionLimit) :
    Does e.G D (.call (.ref 256) ⟨[.ref H.hd],[]⟩) (H.L [a] n) (fun _ : Addr => True) (fun r => retV (.ref r)) (fun _ => H.L [a] n) (fun r => [(r,lob [.str a.v a.u] 1)]) := by
  refine walk (ts [1,0,1,1,0,1,2,0,0,0,2,0,0,0,2,2,0,3,4,4,1001,4,1,3,3,3,3,3,7,3,3,3,8,8,8,1001,8,1,1,1,1,1,9,1,1,1,1,1,1,9,1,1,1,1,1,1,9,1,1,1,4,4,4,4,4,5] <| tn [6,6,6,6,10,6,6,1,7,7,7,7,7,7] []) (by omega) ?_; intro A₀ R₀ h₀ sz0 tk0 a0 ad aD fin gd mm o
  refine mm [4] (append_does (l := (sz0 + 2)) (xs := []) (n := 0) (v := (.str a.v a.u)) (Nat.le_of_ble_eq_true rfl)) ?_; intro o _ sz1 tk1 _
  exact ret_good (sz0 + 2) [9,9,9,9,2] trivial fin rfl

theorem values_2 {e : Env0} {D : Nat} {H : Hd} {a : Pair} {b : Pair} {n : Nat} (hD : D + 100 ≤ recursionLimit) :
    Does e.G D (.call (.ref 256) ⟨[.ref H.hd],[]⟩) (H.L [a,b] n) (fun _ : Addr => True) (fun r => retV (.ref r)) (fun _ => H.L [a,b] n) (fun r => [(r,lob [.str a.v a.u,.str b.v b.u] 2)]) := by
  refine walk (ts [1,0,1,1,0,1,2,0,0,0,2,0,0,0,2,2,0,3,4,4,1001,4,1,3,3,3,3,3,7,3,3,3,8,8,8,1001,8,1,1,1,1,1,9,1,1,1,1,1,1,9,1,1,1,1,1,1,9,1,1,1,4,4,4,4,4,5] <| ts [6,6,6,6,10,6,6,6,12,12,12,1001,12,1,1,1,1,1,13,1,1,1,1,1,1,13,1,1,1,1,1,1,13,1,1,1,8,8,8,8,8,4] <| tn [9,9,9,9,13,9,9,1,10,10,10,10,10,10] []) (by omega) ?_; intro A₀ R₀ h₀ sz0 tk0 a0 ad aD fin gd mm o
  refine mm [4] (append_does (l := (sz0 + 2)) (xs := []) (n := 0) (v := (.str a.v a.u)) (Nat.le_of_ble_eq_true rfl)) ?_; intro o _ sz1 tk1 _
  refine mm [3] (append_does (l := (sz0 + 2)) (xs := [(.str a.v a.u)]) (n := 1) (v := (.str b.v b.u)) (Nat.le_of_ble_eq_true rfl)) ?_; intro o _ sz2 tk2 _
  exact ret_good (sz0 + 2) [12,12,12,12,12,2] trivial fin rfl

theorem items_0 {e : Env0} {D : Nat} {H : Hd} {n : Nat} (hD : D + 100 ≤ recursionLimit) :
    Does e.G D (.call (.ref 263) ⟨[.ref H.hd],[]⟩) (H.L [] n) (fun _ : Addr => True) (fun r => retV (.ref r)) (fun _ => H.L [] n) (fun r => [(r,lob [] 0)]) := by
  refine walk (tn [1,0,1,1,0,1,2,0,0,0,2,0,0,0,2,2,0,3,5,5,5,5,1,1,1,1,1,5] []) (by omega) ?_; intro A₀ R₀ h₀ sz0 tk0 a0 ad aD fin gd mm o
  exact ret_good (sz0 + 2) [3,3,3,0] trivial fin rfl

theorem items_1 {e : Env0} {D : Nat} {H : Hd} {a : Pair} {n : Nat} (hD : D + 100 ≤ recursionLimit) :
    Does e.G D (.call (.ref 263) ⟨[.ref H.hd],[]⟩) (H.L [a] n) (fun _ : Addr => True) (fun r => retV (.ref r)) (fun _ => H.L [a] n) (fun r => [(r,lob [.ref a.p] 0)]) := by
  refine walk (tn [1,0,1,1,0,1,2,0,0,0,2,0,0,0,2,2,0,3,5,5,5,5,1,1,1,1,1,5] []) (by omega) ?_; intro A₀ R₀ h₀ sz0 tk0 a0 ad aD fin gd mm o
  exact ret_good (sz0 + 2) [3,3,3,3,0] trivial fin rfl

theorem items_2 {e : Env0} {D : Nat} {H : Hd} {a : Pair} {b : Pair} {n : Nat} (hD : D + 100 ≤ recursionLimit) :
    Does e.G D (.call (.ref 263) ⟨[.ref H.hd],[]⟩) (H.L [a,b] n) (fun _ : Addr => True) (fun r => retV (.ref r)) (fun _ => H.L [a,b] n) (fun r => [(r,lob [.ref a.p,.ref b.p] 0)]) := by
  refine walk (tn [1,0,1,1,0,1,2,0,0,0,2,0,0,0,2,2,0,3,5,5,5,5,1,1,1,1,1,5] []) (by omega) ?_; intro A₀ R₀ h₀ sz0 tk0 a0 ad aD fin gd mm o
  exact ret_good (sz0 + 2) [3,3,3,3,3,0] trivial fin rfl

theorem len_0 {e : Env0} {D : Nat} {H : Hd} {n : Nat} (hD : D + 100 ≤ recursionLimit) :
    Does e.G D (.call (.ref 205) ⟨[.ref H.hd],[]⟩) (H.L [] n) (fun _ : Tok => True) (fun k => retV (.int 0 k)) (fun _ => H.L [] n) (fun _ => []) := by
  refine walk (tn [1,0,1,1,0,0,0,1,2,0,0,0,2,0,0,0,2,2,0,3,4,4,4] []) (by omega) ?_; intro A₀ R₀ h₀ sz0 tk0 a0 ad aD fin gd mm o
  exact ret_good (tk0 + 3) [1,1,1] trivial fin rfl

theorem len_1 {e : Env0} {D : Nat} {H : Hd} {a : Pair} {n : Nat} (hD : D + 100 ≤ recursionLimit) :
    Does e.G D (.call (.ref 205) ⟨[.ref H.hd],[]⟩) (H.L [a] n) (fun _ : Tok => True) (fun k => retV (.int 1 k)) (fun _ => H.L [a] n) (fun _ => []) := by
  refine walk (tn [1,0,1,1,0,0,0,1,2,0,0,0,2,0,0,0,2,2,0,3,4,4,4] []) (by omega) ?_; intro A₀ R₀ h₀ sz0 tk0 a0 ad aD fin gd mm o
  exact ret_good (tk0 + 3) [1,1,1,1] trivial fin rfl

theorem len_2 {e : Env0} {D : Nat} {H : Hd} {a : Pair} {b : Pair} {n : Nat} (hD : D + 100 ≤ recursionLimit) :
    Does e.G D (.call (.ref 205) ⟨[.ref H.hd],[]⟩) (H.L [a,b] n) (fun _ : Tok => True) (fun k => retV (.int 2 k)) (fun _ => H.L [a,b] n) (fun _ => []) := by
  refine walk (tn [1,0,1,1,0,0,0,1,2,0,0,0,2,0,0,0,2,2,0,3,4,4,4] []) (by omega) ?_; intro A₀ R₀ h₀ sz0 tk0 a0 ad aD fin gd mm o
  exact ret_good (tk0 + 3) [1,1,1,1,1] trivial fin rfl

theorem hint_0 {e : Env0} {D : Nat} {H : Hd} {n : Nat} (hD : D + 100 ≤ recursionLimit) :
    Does e.G D (.call (.ref 166) ⟨[.ref H.hd],[]⟩) (H.L [] n) (fun _ : Tok => True) (fun k => retV (.int 0 k)) (fun _ => H.L [] n) (fun _ => []) := by
  refine walk (tn [1,0,0,1,1,1,1,0,0,0,1,0,0,0,0,1,2,0,0,0,0,1,0,1,1,0,0,0,1,3,0,0,0,3,0,0,0,3,3,0,4,5,5,5] []) (by omega) ?_; intro A₀ R₀ h₀ sz0 tk0 a0 ad aD fin gd mm o
  exact ret_good (tk0 + 6) [2,2,2] trivial fin rfl

theorem hint_1 {e : Env0} {D : Nat} {H : Hd} {a : Pair} {n : Nat} (hD : D + 100 ≤ recursionLimit) :
    Does e.G D (.call (.ref 166) ⟨[.ref H.hd],[]⟩) (H.L [a] n) (fun _ : Tok => True) (fun k => retV (.int 1 k)) (fun _ => H.L [a] n) (fun _ => []) := by
  refine walk (tn [1,0,0,1,1,1,1,0,0,0,1,0,0,0,0,1,2,0,0,0,0,1,0,1,1,0,0,0,1,3,0,0,0,3,0,0,0,3,3,0,4,5,5,5] []) (by omega) ?_; intro A₀ R₀ h₀ sz0 tk0 a0 ad aD fin gd mm o
  exact ret_good (tk0 + 6) [2,2,2,2] trivial fin rfl

theorem hint_2 {e : Env0} {D : Nat} {H : Hd} {a : Pair} {b : Pair} {n : Nat} (hD : D + 100 ≤ recursionLimit) :
    Does e.G D (.call (.ref 166) ⟨[.ref H.hd],[]⟩) (H.L [a,b] n) (fun _ : Tok => True) (fun k => retV (.int 2 k)) (fun _ => H.L [a,b] n) (fun _ => []) := by
  refine walk (tn [1,0,0,1,1,1,1,0,0,0,1,0,0,0,0,1,2,0,0,0,0,1,0,1,1,0,0,0,1,3,0,0,0,3,0,0,0,3,3,0,4,5,5,5] []) (by omega) ?_; intro A₀ R₀ h₀ sz0 tk0 a0 ad aD fin gd mm o
  exact ret_good (tk0 + 6) [2,2,2,2,2] trivial fin rfl

end Mine
namespace Mine
section
variable {e : Env0} {D : Nat} {it l : Addr} {xs : List Value} {n i : Nat} {c0 c1 c2 : Nat} {u0 u1 u2 : Tok}

theorem vint1 {r1 r2 : Int} (hD : D + 200 ≤ recursionLimit) (g0 : xs[i]? = some (.int (.ofNat c0) u0)) (h1 : Builtin.bitAnd (.ofNat c0) (63) = r1) (h2 : Builtin.bitAnd (.ofNat c0) (64) = r2) (h3 : (r2 != 0) = false) :
    Does e.G D (.call (.ref 95) ⟨[.ref it],[]⟩) [(it,litO l i),(l,lob xs n)] (fun _ : Tok => True) (fun k => retV (.int r1 k)) (fun _ => [(it,litO l (i + 1)),(l,lob xs n)]) (fun _ => []) := by
  refine walk (ts [1,0,1,1,0,0,0,1,2,2,2] <| ts [3,3,3] <| ts [3,3,3] <| ts [] <| tn [3] []) (by omega) ?_; intro A₀ R₀ h₀ sz0 tk0 a0 ad aD fin gd mm o
  refine mm [1,1] (lnext_some (it := it) (l := l) (xs := xs) (n := n) (i := i) (v := .int (.ofNat c0) u0) (by omega) g0) ?_; intro o _ sz1 tk1 _
  refine mm [] (iand_does (a := (.ofNat c0)) (b := (63)) (r := r1) (t := u0) (u := (tk1 + 1)) h1) ?_; intro o k1 sz2 tk2 _
  refine mm [] (iand_does (a := (.ofNat c0)) (b := (64)) (r := r2) (t := u0) (u := (tk2 + 1)) h2) ?_; intro o k2 sz3 tk3 _
  refine mm [] (ibool_does (a := r2) (t := k2) (c := false) h3) ?_; intro o _ sz4 tk4 _
  exact ret_good k1 [0,0] trivial fin rfl

theorem vint2 {r1 r2 r4 r6 r7 r8 : Int} (hD : D + 200 ≤ recursionLimit) (g0 : xs[i]? = some (.int (.ofNat c0) u0)) (g1 : xs[i + 1]? = some (.int (.ofNat c1) u1)) (h1 : Builtin.bitAnd (.ofNat c0) (63) = r1) (h2 : Builtin.bitAnd (.ofNat c0) (64) = r2) (h3 : (r2 != 0) = true) (h4 : ShlOk r1 (6) r4) (h6 : Builtin.bitAnd (.ofNat c1) (63) = r6) (h7 : Builtin.bitOr r4 r6 = r7) (h8 : Builtin.bitAnd (.ofNat c1) (64) = r8) (h9 : (r8 != 0) = false) :
    Does e.G D (.call (.ref 95) ⟨[.ref it],[]⟩) [(it,litO l i),(l,lob xs n)] (fun _ : Tok => True) (fun k => retV (.int r7 k)) (fun _ => [(it,litO l (i + 2)),(l,lob xs n)]) (fun _ => []) := by
  refine walk (ts [1,0,1,1,0,0,0,1,2,2,2] <| ts [3,3,3] <| ts [3,3,3] <| ts [] <| ts [3] <| ts [3,3,0,0,3,1,1,1] <| ts [3,3,3,3] <| ts [] <| ts [3,3,3] <| ts [] <| tn [3] []) (by omega) ?_; intro A₀ R₀ h₀ sz0 tk0 a0 ad aD fin gd mm o
  refine mm [1,1] (lnext_some (it := it) (l := l) (xs := xs) (n := n) (i := i) (v := .int (.ofNat c0) u0) (by omega) g0) ?_; intro o _ sz1 tk1 _
  refine mm [] (iand_does (a := (.ofNat c0)) (b := (63)) (r := r1) (t := u0) (u := (tk1 + 1)) h1) ?_; intro o k1 sz2 tk2 _
  refine mm [] (iand_does (a := (.ofNat c0)) (b := (64)) (r := r2) (t := u0) (u := (tk2 + 1)) h2) ?_; intro o k2 sz3 tk3 _
  refine mm [] (ibool_does (a := r2) (t := k2) (c := true) h3) ?_; intro o _ sz4 tk4 _
  refine mm [] (ishl_does (a := r1) (b := (6)) (r := r4) (t := k1) (u := tk4) h4) ?_; intro o k4 sz5 tk5 _
  refine mm [0,0] (lnext_some (it := it) (l := l) (xs := xs) (n := n) (i := i + 1) (v := .int (.ofNat c1) u1) (by omega) g1) ?_; intro o _ sz6 tk6 _
  refine mm [] (iand_does (a := (.ofNat c1)) (b := (63)) (r := r6) (t := u1) (u := (tk6 + 1)) h6) ?_; intro o k6 sz7 tk7 _
  refine mm [] (ior_does (a := r4) (b := r6) (r := r7) (t := k4) (u := k6) h7) ?_; intro o k7 sz8 tk8 _
  refine mm [] (iand_does (a := (.ofNat c1)) (b := (64)) (r := r8) (t := u1) (u := (tk8 + 1)) h8) ?_; intro o k8 sz9 tk9 _
  refine mm [] (ibool_does (a := r8) (t := k8) (c := false) h9) ?_; intro o _ sz10 tk10 _
  exact ret_good k7 [0,0] trivial fin rfl

theorem vint3 {r1 r2 r4 r6 r7 r8 r10 r12 r13 r14 : Int} (hD : D + 200 ≤ recursionLimit) (g0 : xs[i]? = some (.int (.ofNat c0) u0)) (g1 : xs[i + 1]? = some (.int (.ofNat c1) u1)) (g2 : xs[i + 2]? = some (.int (.ofNat c2) u2)) (h1 : Builtin.bitAnd (.ofNat c0) (63) = r1) (h2 : Builtin.bitAnd (.ofNat c0) (64) = r2) (h3 : (r2 != 0) = true) (h4 : ShlOk r1 (6) r4) (h6 : Builtin.bitAnd (.ofNat c1) (63) = r6) (h7 : Builtin.bitOr r4 r6 = r7) (h8 : Builtin.bitAnd (.ofNat c1) (64) = r8) (h9 : (r8 != 0) = true) (h10 : ShlOk r7 (6) r10) (h12 : Builtin.bitAnd (.ofNat c2) (63) = r12) (h13 : Builtin.bitOr r10 r12 = r13) (h14 : Builtin.bitAnd (.ofNat c2) (64) = r14) (h15 : (r14 != 0) = false) :
    Does e.G D (.call (.ref 95) ⟨[.ref it],[]⟩) [(it,litO l i),(l,lob xs n)] (fun _ : Tok => True) (fun k => retV (.int r13 k)) (fun _ => [(it,litO l (i + 3)),(l,lob xs n)]) (fun _ => []) := by
  refine walk (ts [1,0,1,1,0,0,0,1,2,2,2] <| ts [3,3,3] <| ts [3,3,3] <| ts [] <| ts [3] <| ts [3,3,0,0,3,1,1,1] <| ts [3,3,3,3] <| ts [] <| ts [3,3,3] <| ts [] <| ts [3] <| ts [3,3,0,0,3,1,1,1] <| ts [3,3,3,3] <| ts [] <| ts [3,3,3] <| ts [] <| tn [3] []) (by omega) ?_; intro A₀ R₀ h₀ sz0 tk0 a0 ad aD fin gd mm o
  refine mm [1,1] (lnext_some (it := it) (l := l) (xs := xs) (n := n) (i := i) (v := .int (.ofNat c0) u0) (by omega) g0) ?_; intro o _ sz1 tk1 _
  refine mm [] (iand_does (a := (.ofNat c0)) (b := (63)) (r := r1) (t := u0) (u := (tk1 + 1)) h1) ?_; intro o k1 sz2 tk2 _
  refine mm [] (iand_does (a := (.ofNat c0)) (b := (64)) (r := r2) (t := u0) (u := (tk2 + 1)) h2) ?_; intro o k2 sz3 tk3 _
  refine mm [] (ibool_does (a := r2) (t := k2) (c := true) h3) ?_; intro o _ sz4 tk4 _
  refine mm [] (ishl_does (a := r1) (b := (6)) (r := r4) (t := k1) (u := tk4) h4) ?_; intro o k4 sz5 tk5 _
  refine mm [0,0] (lnext_some (it := it) (l := l) (xs := xs) (n := n) (i := i + 1) (v := .int (.ofNat c1) u1) (by omega) g1) ?_; intro o _ sz6 tk6 _
  refine mm [] (iand_does (a := (.ofNat c1)) (b := (63)) (r := r6) (t := u1) (u := (tk6 + 1)) h6) ?_; intro o k6 sz7 tk7 _
  refine mm [] (ior_does (a := r4) (b := r6) (r := r7) (t := k4) (u := k6) h7) ?_; intro o k7 sz8 tk8 _
  refine mm [] (iand_does (a := (.ofNat c1)) (b := (64)) (r := r8) (t := u1) (u := (tk8 + 1)) h8) ?_; intro o k8 sz9 tk9 _
  refine mm [] (ibool_does (a := r8) (t := k8) (c := true) h9) ?_; intro o _ sz10 tk10 _
  refine mm [] (ishl_does (a := r7) (b := (6)) (r := r10) (t := k7) (u := tk10) h10) ?_; intro o k10 sz11 tk11 _
  refine mm [0,0] (lnext_some (it := it) (l := l) (xs := xs) (n := n) (i := i + 2) (v := .int (.ofNat c2) u2) (by omega) g2) ?_; intro o _ sz12 tk12 _
  refine mm [] (iand_does (a := (.ofNat c2)) (b := (63)) (r := r12) (t := u2) (u := (tk12 + 1)) h12) ?_; intro o k12 sz13 tk13 _
  refine mm [] (ior_does (a := r10) (b := r12) (r := r13) (t := k10) (u := k12) h13) ?_; intro o k13 sz14 tk14 _
  refine mm [] (iand_does (a := (.ofNat c2)) (b := (64)) (r := r14) (t := u2) (u := (tk14 + 1)) h14) ?_; intro o k14 sz15 tk15 _
  refine mm [] (ibool_does (a := r14) (t := k14) (c := false) h15) ?_; intro o _ sz16 tk16 _
  exact ret_good k13 [0,0] trivial fin rfl

end
end Mine
namespace Mine
noncomputable def spotQ : Str := sOf [95,108,97,119,95,115,112,111,116,46,60,108,111,99,97,108,115,62,46]
noncomputable def spotE (w : World) : Expr := argE (valOf (bodyAt w 327)[0]!) 0
noncomputable def natI (s : List Nat) : List Int := s.map .ofNat
section
variable {e : Env0} {D : Nat} {C : Cx} {fr : Addr} {s : List Nat} {t : Tok} {i n c : Nat} {ys : List Value} {b : Bnd}
noncomputable def sspL (C : Cx) (s : List Nat) (t : Tok) (i : Nat) (ys : List Value) (b : Bnd) : Led := [(C.it, sitO "str_iterator" (sOf s) t i), (C.acc, lob ys ys.length), (C.dc, dcO signN b)]
noncomputable def sspP (C : Cx) (s : List Nat) (ys : List Value) (b : Bnd) : Led := [(C.it, sitE "str_iterator" s.length), (C.acc, lob ys ys.length), (C.dc, dcO signN b)]
theorem ssp_turn {α : Type} {ok : α → Prop} {res : α → Result} {post news : α → Led} (hD : D + 150 ≤ recursionLimit) (h : s[i]? = some c) (hn : ys.length ≤ sizeLine)
    (next : ∀ g k j, Does e.G D (compL (spotE e.w) C fr 326 spotQ []) [(C.it, sitO "str_iterator" (sOf s) t (i + 1)), (C.acc, lob (ys ++ [.int (.ofNat c) k]) (ys.length + 1)), (C.dc, dcO signN (some (g, chV c j)))] ok res post news) :
    Does e.G D (compL (spotE e.w) C fr 326 spotQ []) (sspL C s t i ys b) ok res post news := by
  cases b
  all_goals
    refine walk (ts [1,1] <| ts [3,3,0,0,3] <| ts [2] <| ts [] <| tn [] []) (by omega) ?_; intro A₀ R₀ h₀ sz0 tk0 a0 ad aD fin gd mm o
    refine mm [0] (snext_some (it := C.it) (t := t) (by omega) h) ?_; intro o t0 sz1 tk1 _
    refine mm [] (ord_does (c := c) (t := t0)) ?_; intro o k1 sz2 tk2 _
    refine mm [1] (append_does (l := C.acc) (xs := ys) (n := ys.length) (v := (.int (.ofNat c) k1)) hn) ?_; intro o _ sz3 tk3 _
    exact tail_same_w a0 [1,0,0] (fun o => entOf (o.ob 2) 0) (fun g => next g k1 t0) ad (by kernel_rfl) (by kernel_rfl) fin
theorem ssp_end (hD : D + 150 ≤ recursionLimit) (h : s[i]? = none) :
    Does e.G D (compL (spotE e.w) C fr 326 spotQ []) (sspL C s t i ys b) (fun _ : Unit => True) (fun _ => .ok .next) (fun _ => [(C.it, sitE "str_iterator" i), (C.acc, lob ys ys.length), (C.dc, dcO signN b)]) (fun _ => []) := by
  cases b
  all_goals
    refine walk (ts [1,1] <| tn [1] []) (by omega) ?_; intro A₀ R₀ h₀ sz0 tk0 a0 ad aD fin gd mm o
    refine mm [0] (snext_end (it := C.it) (t := t) (by omega) h) ?_; intro o x sz1 tk1 _
    exact ret_good () [2,2,2] trivial fin rfl
theorem ssp_all (hD : D + 150 ≤ recursionLimit) (hs : s.length ≤ sizeLine) (h0 : s ≠ []) :
    Does e.G D (compS (spotE e.w) C fr 326 spotQ []) (sspL C s t 0 [] none) (fun z : List Value × ((Int × Tok) × Value) => Ints (natI s) z.1) (fun _ => .ok .next) (fun z => sspP C s z.1 (some z.2)) (fun _ => []) := by
  have key : Does e.G D (compL (spotE e.w) C fr 326 spotQ []) (sspL C s t 0 [] none) (fun z : List Value × ((Int × Tok) × Value) => Ints (natI s) z.1) (fun _ => .ok .next) (fun z => sspP C s z.1 (some z.2)) (fun _ => []) := by
    have := comp_some (G := e.G) (D := D) (c := compL (spotE e.w) C fr 326 spotQ []) (L := sspL C s t) (P := sspP C s) (N := s.length) (fun i ys => Ints (natI (s.take i)) ys) (List.length_pos_iff.mpr h0) rfl
      (fun i ys b hi hv _ _ _ _ _ next => by
        have hc : s[i]? = some s[i] := List.getElem?_eq_getElem hi
        have hl := hv.len
        simp only [natI,List.length_map,List.length_take] at hl
        refine ssp_turn (c := s[i]) hD hc (by omega) fun g k j => ?_
        have := next (ys ++ [.int (.ofNat s[i]) k]) (g,chV s[i] j) (by unfold natI; rw [List.take_add_one,hc]; simp only [Option.toList,List.map_append,List.map_cons,List.map_nil]; exact Ints.snoc hv)
        simpa [sspL] using this)
      (fun ys b hv => ssp_end hD (by simp))
    simpa using this
  refine walk (tn [1] [.stop]) (by omega) ?_; intro A₀ R₀ h₀ sz0 tk0 a0 ad aD fin gd mm o
  exact tail_same a0 [0,0,0] key ad (by kernel_rfl) (by kernel_rfl) fin
noncomputable def aspL (C : Cx) (s : List Nat) (t : Tok) (i : Nat) (ys : List Value) (b : Bnd) : Led := [(C.it, sitO "str_ascii_iterator" (sOf s) t i), (C.acc, lob ys ys.length), (C.dc, dcO signN b)]
noncomputable def aspP (C : Cx) (s : List Nat) (ys : List Value) (b : Bnd) : Led := [(C.it, sitE "str_ascii_iterator" s.length), (C.acc, lob ys ys.length), (C.dc, dcO signN b)]
theorem asp_turn {α : Type} {ok : α → Prop} {res : α → Result} {post news : α → Led} (hD : D + 150 ≤ recursionLimit) (h : s[i]? = some c) (hn : ys.length ≤ sizeLine)
    (next : ∀ g k j, Does e.G D (compL (spotE e.w) C fr 326 spotQ []) [(C.it, sitO "str_ascii_iterator" (sOf s) t (i + 1)), (C.acc, lob (ys ++ [.int (.ofNat c) k]) (ys.length + 1)), (C.dc, dcO signN (some (g, chV c j)))] ok res post news) :
    Does e.G D (compL (spotE e.w) C fr 326 spotQ []) (aspL C s t i ys b) ok res post news := by
  cases b
  all_goals
    refine walk (ts [1,1] <| ts [3,3,0,0,3] <| ts [2] <| ts [] <| tn [] []) (by omega) ?_; intro A₀ R₀ h₀ sz0 tk0 a0 ad aD fin gd mm o
    refine mm [0] (anext_some (it := C.it) (t := t) (by omega) h) ?_; intro o t0 sz1 tk1 _
    refine mm [] (ord_does (c := c) (t := t0)) ?_; intro o k1 sz2 tk2 _
    refine mm [1] (append_does (l := C.acc) (xs := ys) (n := ys.length) (v := (.int (.ofNat c) k1)) hn) ?_; intro o _ sz3 tk3 _
    exact tail_same_w a0 [1,0,0] (fun o => entOf (o.ob 2) 0) (fun g => next g k1 t0) ad (by kernel_rfl) (by kernel_rfl) fin
theorem asp_end (hD : D + 150 ≤ recursionLimit) (h : s[i]? = none) :
    Does e.G D (compL (spotE e.w) C fr 326 spotQ []) (aspL C s t i ys b) (fun _ : Unit => True) (fun _ => .ok .next) (fun _ => [(C.it, sitE "str_ascii_iterator" i), (C.acc, lob ys ys.length), (C.dc, dcO signN b)]) (fun _ => []) := by
  cases b
  all_goals
    refine walk (ts [1,1] <| tn [1] []) (by omega) ?_; intro A₀ R₀ h₀ sz0 tk0 a0 ad aD fin gd mm o
    refine mm [0] (anext_end (it := C.it) (t := t) (by omega) h) ?_; intro o x sz1 tk1 _
    exact ret_good () [2,2,2] trivial fin rfl
theorem asp_all (hD : D + 150 ≤ recursionLimit) (hs : s.length ≤ sizeLine) (h0 : s ≠ []) :
    Does e.G D (compS (spotE e.w) C fr 326 spotQ []) (aspL C s t 0 [] none) (fun z : List Value × ((Int × Tok) × Value) => Ints (natI s) z.1) (fun _ => .ok .next) (fun z => aspP C s z.1 (some z.2)) (fun _ => []) := by
  have key : Does e.G D (compL (spotE e.w) C fr 326 spotQ []) (aspL C s t 0 [] none) (fun z : List Value × ((Int × Tok) × Value) => Ints (natI s) z.1) (fun _ => .ok .next) (fun z => aspP C s z.1 (some z.2)) (fun _ => []) := by
    have := comp_some (G := e.G) (D := D) (c := compL (spotE e.w) C fr 326 spotQ []) (L := aspL C s t) (P := aspP C s) (N := s.length) (fun i ys => Ints (natI (s.take i)) ys) (List.length_pos_iff.mpr h0) rfl
      (fun i ys b hi hv _ _ _ _ _ next => by
        have hc : s[i]? = some s[i] := List.getElem?_eq_getElem hi
        have hl := hv.len
        simp only [natI,List.length_map,List.length_take] at hl
        refine asp_turn (c := s[i]) hD hc (by omega) fun g k j => ?_
        have := next (ys ++ [.int (.ofNat s[i]) k]) (g,chV s[i] j) (by unfold natI; rw [List.take_add_one,hc]; simp only [Option.toList,List.map_append,List.map_cons,List.map_nil]; exact Ints.snoc hv)
        simpa [aspL] using this)
      (fun ys b hv => asp_end hD (by simp))
    simpa using this
  refine walk (tn [1] [.stop]) (by omega) ?_; intro A₀ R₀ h₀ sz0 tk0 a0 ad aD fin gd mm o
  exact tail_same a0 [0,0,0] key ad (by kernel_rfl) (by kernel_rfl) fin

/-! ### octets -/
noncomputable def more (d : Nat) : Nat := if d < 28 then 64 + d else 192 + d
noncomputable def last (d : Nat) : Nat := if d > 34 then d else 128 + d
noncomputable def oct (N : Nat) : List Nat := (if N < 64 then [] else if N < 4096 then [more (N / 64)] else [more (N / 4096),more (N / 64 % 64)]) ++ [last (N % 64)]
theorem oct_bits : ∀ d,d < 64 → last d &&& 63 = d ∧ last d &&& 64 = 0 ∧ more d &&& 63 = d ∧ more d &&& 64 = 64 := by decide
theorem not_not_int (x : Int) : Builtin.bitNot (Builtin.bitNot x) = x := by unfold Builtin.bitNot; omega
theorem or_nat {m n : Nat} : Builtin.bitOr (.ofNat m) (.ofNat n) = .ofNat (m ||| n) := by
  have h : ∀ k : Nat,¬ 0 ≤ Builtin.bitNot (.ofNat k) := fun k => by unfold Builtin.bitNot; simp; omega
  unfold Builtin.bitOr
  rw [PyProof.Rows.bitAnd_nn (h m) (h n),not_not_int,not_not_int,not_not_int]
  rfl
theorem join_bits {m d : Nat} (h : d < 64) : m * 64 ||| d = m * 64 + d := by
  have := Nat.two_pow_add_eq_or_of_lt (i := 6) (b := d) h m
  rw [show m * 64 = 2 ^ 6 * m by omega]
  exact this.symm
variable {it l : Addr} {xs : List Value}
theorem vint_oct {N : Nat} (hD : D + 200 ≤ recursionLimit) (hN : N < 262144) (hx : ∀ j c,(oct N)[j]? = some c → ∃ u,xs[i + j]? = some (.int (.ofNat c) u)) :
    Does e.G D (.call (.ref 95) ⟨[.ref it],[]⟩) [(it,litO l i),(l,lob xs n)] (fun _ : Tok => True) (fun k => retV (.int (.ofNat N) k)) (fun _ => [(it,litO l (i + (oct N).length)),(l,lob xs n)]) (fun _ => []) := by
  have bL := fun d h => (oct_bits d h).1
  have bL0 := fun d h => (oct_bits d h).2.1
  have bM := fun d h => (oct_bits d h).2.2.1
  have bM0 := fun d h => (oct_bits d h).2.2.2
  have e63 : (63 : Int) = .ofNat 63 := rfl
  have e64 : (64 : Int) = .ofNat 64 := rfl
  have e6 : (6 : Int) = .ofNat 6 := rfl
  by_cases h1 : N < 64
  · have eo : oct N = [last N] := by simp [oct,h1,Nat.mod_eq_of_lt h1]
    rw [eo] at hx ⊢
    obtain ⟨u0,g0⟩ := hx 0 _ rfl
    exact vint1 (r1 := .ofNat N) (r2 := .ofNat 0) hD g0 (by rw [e63,and_nat,bL _ h1]) (by rw [e64,and_nat,bL0 _ h1]) rfl
  · by_cases h2 : N < 4096
    · have eo : oct N = [more (N / 64),last (N % 64)] := by simp [oct,h1,h2]
      rw [eo] at hx ⊢
      obtain ⟨u0,g0⟩ := hx 0 _ rfl
      obtain ⟨u1,g1⟩ := hx 1 _ rfl
      have d0 : N / 64 < 64 := by omega
      have d1 : N % 64 < 64 := by omega
      exact vint2 (r1 := .ofNat (N / 64)) (r2 := .ofNat 64) (r4 := .ofNat (N / 64 * 2 ^ 6)) (r6 := .ofNat (N % 64)) (r7 := .ofNat N) (r8 := .ofNat 0) hD g0 g1 (by rw [e63,and_nat,bM _ d0]) (by rw [e64,and_nat,bM0 _ d0]) rfl (shl_ok (by omega) (by decide)) (by rw [e63,and_nat,bL _ d1]) (by rw [or_nat,join_bits d1]; congr 1; omega) (by rw [e64,and_nat,bL0 _ d1]) rfl
    · have eo : oct N = [more (N / 4096),more (N / 64 % 64),last (N % 64)] := by simp [oct,h1,h2]
      rw [eo] at hx ⊢
      obtain ⟨u0,g0⟩ := hx 0 _ rfl
      obtain ⟨u1,g1⟩ := hx 1 _ rfl
      obtain ⟨u2,g2⟩ := hx 2 _ rfl
      have d0 : N / 4096 < 64 := by omega
      have d1 : N / 64 % 64 < 64 := by omega
      have d2 : N % 64 < 64 := by omega
      exact vint3 (r1 := .ofNat (N / 4096)) (r2 := .ofNat 64) (r4 := .ofNat (N / 4096 * 2 ^ 6)) (r6 := .ofNat (N / 64 % 64)) (r7 := .ofNat (N / 64)) (r8 := .ofNat 64) (r10 := .ofNat (N / 64 * 2 ^ 6)) (r12 := .ofNat (N % 64)) (r13 := .ofNat N) (r14 := .ofNat 0) hD g0 g1 g2 (by rw [e63,and_nat,bM _ d0]) (by rw [e64,and_nat,bM0 _ d0]) rfl (shl_ok (by omega) (by decide)) (by rw [e63,and_nat,bM _ d1]) (by rw [or_nat,join_bits d1]; congr 1; omega) (by rw [e64,and_nat,bM0 _ d1]) rfl (shl_ok (by omega) (by decide)) (by rw [e63,and_nat,bL _ d2]) (by rw [or_nat,join_bits d2]; congr 1; omega) (by rw [e64,and_nat,bL0 _ d2]) rfl
theorem oct_pos (N : Nat) : oct N ≠ [] := by simp [oct]
theorem oct_len (N : Nat) : (oct N).length ≤ 3 := by
  unfold oct
  split
  · simp
  · split <;> simp
theorem spot_s {N M : Nat} (hD : D + 300 ≤ recursionLimit) (hN : N < 262144) (hM : M < 262144) (hb : (sOf (oct N ++ oct M)).cps.all (fun c => decide (c < 128)) = false) :
    Does e.G D (.call (.ref 327) ⟨[.str (sOf (oct N ++ oct M)) t],[]⟩) [] (fun _ : Addr × Tok × Tok => True) (fun z => retV (.ref z.1)) (fun _ => []) (fun z => [(z.1,tob [.int (.ofNat N) z.2.1,.int (.ofNat M) z.2.2])]) := by
  refine walk (ts [1,0,1,1,0,0,0,1,1001] <| ts [1] <| ts [3,3,3,2,2,1001,2,1,5,5,0,5,0] <| ts [0,5,0] <| tn [] []) (by omega) ?_; intro A₀ R₀ h₀ sz0 tk0 a0 ad aD fin gd mm o
  refine mm [] (siter_does (x := sOf (oct N ++ oct M)) (t := t) (b := false) hb) ?_; intro o ai sz1 tk1 _
  refine meet_v (D := D + 50) a0 aD [2,1,0] (fun o => ((⟨o.ad 2,o.ad 1,o.ad 0⟩ : Cx),o.ad 3)) (fun p => ssp_all (s := oct N ++ oct M) (C := p.1) (fr := p.2) (t := t) (by omega) (by have := oct_len N; have := oct_len M; simp only [List.length_append]; show _ ≤ 2 ^ 24; omega) (by simp [oct_pos])) (by omega) (by kernel_rfl) (by kernel_rfl) (fun _ => rfl) ?_; intro o z sz2 tk2 hz
  refine mm [0,1] (vint_oct (N := N) (it := sz2) (l := sz1) (xs := z.1) (n := z.1.length) (i := 0) (by omega) hN fun j c hc => hz.at (c := .ofNat c) (by rw [natI,List.getElem?_map,Nat.zero_add,List.getElem?_append_left (List.getElem?_eq_some_iff.mp hc).1,hc]; rfl)) ?_; intro o k0 sz3 tk3 _
  refine mm [0,0] (vint_oct (N := M) (it := sz2) (l := sz1) (xs := z.1) (n := z.1.length) (i := 0 + (oct N).length) (by omega) hM fun j c hc => hz.at (c := .ofNat c) (by rw [natI,List.getElem?_map,List.getElem?_append_right (by omega),show 0 + (oct N).length + j - (oct N).length = j by omega,hc]; rfl)) ?_; intro o k1 sz4 tk4 _
  exact ret_good (sz4,k0,k1) [0] trivial fin rfl
theorem spot_a {N M : Nat} (hD : D + 300 ≤ recursionLimit) (hN : N < 262144) (hM : M < 262144) (hb : (sOf (oct N ++ oct M)).cps.all (fun c => decide (c < 128)) = true) :
    Does e.G D (.call (.ref 327) ⟨[.str (sOf (oct N ++ oct M)) t],[]⟩) [] (fun _ : Addr × Tok × Tok => True) (fun z => retV (.ref z.1)) (fun _ => []) (fun z => [(z.1,tob [.int (.ofNat N) z.2.1,.int (.ofNat M) z.2.2])]) := by
  refine walk (ts [1,0,1,1,0,0,0,1,1001] <| ts [1] <| ts [3,3,3,2,2,1001,2,1,5,5,0,5,0] <| ts [0,5,0] <| tn [] []) (by omega) ?_; intro A₀ R₀ h₀ sz0 tk0 a0 ad aD fin gd mm o
  refine mm [] (siter_does (x := sOf (oct N ++ oct M)) (t := t) (b := true) hb) ?_; intro o ai sz1 tk1 _
  refine meet_v (D := D + 50) a0 aD [2,1,0] (fun o => ((⟨o.ad 2,o.ad 1,o.ad 0⟩ : Cx),o.ad 3)) (fun p => asp_all (s := oct N ++ oct M) (C := p.1) (fr := p.2) (t := t) (by omega) (by have := oct_len N; have := oct_len M; simp only [List.length_append]; show _ ≤ 2 ^ 24; omega) (by simp [oct_pos])) (by omega) (by kernel_rfl) (by kernel_rfl) (fun _ => rfl) ?_; intro o z sz2 tk2 hz
  refine mm [0,1] (vint_oct (N := N) (it := sz2) (l := sz1) (xs := z.1) (n := z.1.length) (i := 0) (by omega) hN fun j c hc => hz.at (c := .ofNat c) (by rw [natI,List.getElem?_map,Nat.zero_add,List.getElem?_append_left (List.getElem?_eq_some_iff.mp hc).1,hc]; rfl)) ?_; intro o k0 sz3 tk3 _
  refine mm [0,0] (vint_oct (N := M) (it := sz2) (l := sz1) (xs := z.1) (n := z.1.length) (i := 0 + (oct N).length) (by omega) hM fun j c hc => hz.at (c := .ofNat c) (by rw [natI,List.getElem?_map,List.getElem?_append_right (by omega),show 0 + (oct N).length + j - (oct N).length = j by omega,hc]; rfl)) ?_; intro o k1 sz4 tk4 _
  exact ret_good (sz4,k0,k1) [0] trivial fin rfl
theorem spot_does {N M : Nat} (hD : D + 300 ≤ recursionLimit) (hN : N < 262144) (hM : M < 262144) :
    Does e.G D (.call (.ref 327) ⟨[.str (sOf (oct N ++ oct M)) t],[]⟩) [] (fun _ : Addr × Tok × Tok => True) (fun z => retV (.ref z.1)) (fun _ => []) (fun z => [(z.1,tob [.int (.ofNat N) z.2.1,.int (.ofNat M) z.2.2])]) := by
  cases hb : (sOf (oct N ++ oct M)).cps.all (fun c => decide (c < 128)) with
  | false => exact spot_s hD hN hM hb
  | true => exact spot_a hD hN hM hb
end
end Mine
namespace Mine
section
variable {e : Env0} {D : Nat} {a b r : Int} {t u : Tok} {c : Bool}
theorem op_ge (hD : D + 150 ≤ recursionLimit) (h0 : decide (a ≥ b) = c) :
    Does e.G D (.call (.ref 102) ⟨[.int a t,.int b u],[]⟩) [] (fun _ : Unit => True) (fun k => retV (.bool c)) (fun _ => []) (fun _ => []) := by
  refine walk (ts [1,0,1,1,1,1,0,1,1,1001] <| tn [] []) (by omega) ?_; intro A₀ R₀ h₀ sz0 tk0 a0 ad aD fin gd mm o
  refine mm [] (ige_does (a := a) (b := b) (c := c) (t := t) (u := u) h0) ?_; intro o _ sz1 tk1 _
  exact ret_good () [] trivial fin rfl
theorem op_add (hD : D + 150 ≤ recursionLimit) (h0 : a + b = r) :
    Does e.G D (.call (.ref 109) ⟨[.int a t,.int b u],[]⟩) [] (fun _ : Tok => True) (fun k => retV (.int r k)) (fun _ => []) (fun _ => []) := by
  refine walk (ts [1,0,1,1,1,1,0,1,1] <| tn [] []) (by omega) ?_; intro A₀ R₀ h₀ sz0 tk0 a0 ad aD fin gd mm o
  refine mm [] (iadd_does (a := a) (b := b) (r := r) (t := t) (u := u) h0) ?_; intro o k0 sz1 tk1 _
  exact ret_good k0 [] trivial fin rfl
theorem op_lshift (hD : D + 150 ≤ recursionLimit) (h0 : ShlOk a b r) :
    Does e.G D (.call (.ref 116) ⟨[.int a t,.int b u],[]⟩) [] (fun _ : Tok => True) (fun k => retV (.int r k)) (fun _ => []) (fun _ => []) := by
  refine walk (ts [1,0,1,1,1,1,0,1,1] <| tn [] []) (by omega) ?_; intro A₀ R₀ h₀ sz0 tk0 a0 ad aD fin gd mm o
  refine mm [] (ishl_does (a := a) (b := b) (r := r) (t := t) (u := u) h0) ?_; intro o k0 sz1 tk1 _
  exact ret_good k0 [] trivial fin rfl
theorem op_mul (hD : D + 150 ≤ recursionLimit) (h0 : MulOk a b r) :
    Does e.G D (.call (.ref 123) ⟨[.int a t,.int b u],[]⟩) [] (fun _ : Tok => True) (fun k => retV (.int r k)) (fun _ => []) (fun _ => []) := by
  refine walk (ts [1,0,1,1,1,1,0,1,1] <| tn [] []) (by omega) ?_; intro A₀ R₀ h₀ sz0 tk0 a0 ad aD fin gd mm o
  refine mm [] (imul_does (a := a) (b := b) (r := r) (t := t) (u := u) h0) ?_; intro o k0 sz1 tk1 _
  exact ret_good k0 [] trivial fin rfl
theorem op_or_ (hD : D + 150 ≤ recursionLimit) (h0 : Builtin.bitOr a b = r) :
    Does e.G D (.call (.ref 130) ⟨[.int a t,.int b u],[]⟩) [] (fun _ : Tok => True) (fun k => retV (.int r k)) (fun _ => []) (fun _ => []) := by
  refine walk (ts [1,0,1,1,1,1,0,1,1] <| tn [] []) (by omega) ?_; intro A₀ R₀ h₀ sz0 tk0 a0 ad aD fin gd mm o
  refine mm [] (ior_does (a := a) (b := b) (r := r) (t := t) (u := u) h0) ?_; intro o k0 sz1 tk1 _
  exact ret_good k0 [] trivial fin rfl
theorem op_sub (hD : D + 150 ≤ recursionLimit) (h0 : a - b = r) :
    Does e.G D (.call (.ref 137) ⟨[.int a t,.int b u],[]⟩) [] (fun _ : Tok => True) (fun k => retV (.int r k)) (fun _ => []) (fun _ => []) := by
  refine walk (ts [1,0,1,1,1,1,0,1,1] <| tn [] []) (by omega) ?_; intro A₀ R₀ h₀ sz0 tk0 a0 ad aD fin gd mm o
  refine mm [] (isub_does (a := a) (b := b) (r := r) (t := t) (u := u) h0) ?_; intro o k0 sz1 tk1 _
  exact ret_good k0 [] trivial fin rfl
theorem meet_does {N M N₂ M₂ : Nat} (hD : D + 400 ≤ recursionLimit) (hN : N < 262144) (hM : M < 262144) (hN₂ : N₂ < 262144) (hM₂ : M₂ < 262144)
    (hc : decide (((Int.ofNat N - .ofNat N₂) * (Int.ofNat M - .ofNat M₂) : Int) ≥ 0) = c) :
    Does e.G D (.call (.ref 334) ⟨[.str (sOf (oct N ++ oct M)) t,.str (sOf (oct N₂ ++ oct M₂)) u],[]⟩) [] (fun _ : Unit => True) (fun _ => retV (.bool c)) (fun _ => []) (fun _ => []) := by
  have hm : IntMulOk (.ofNat N - .ofNat N₂) (.ofNat M - .ofNat M₂) := by
    refine IntMulOk.of_left ?_
    have hx : (Int.ofNat N - .ofNat N₂).natAbs < 2 ^ 64 := by
      have e1 : Int.ofNat N = (N : Int) := rfl
      have e2 : Int.ofNat N₂ = (N₂ : Int) := rfl
      rw [e1,e2]; omega
    unfold Builtin.Int.intBits
    split
    · omega
    · rename_i h0
      have h1 : (Int.ofNat N - .ofNat N₂).natAbs ≠ 0 := by simpa using h0
      have := (Nat.log2_lt h1).mpr hx
      omega
  refine walk (ts [1,0,1,1,1,1,0,0,1,0] <| ts [1,1,1,1001,1,1,1,1,1,1,2,1,1,1,1,1,1,2,1,1,1,1,1,1,2,1,1,1,5,5,5,5,0,5,0] <| ts [1,1,1,1001,1,1,1,1,1,1,2,1,1,1,1,1,1,2,1,1,1,1,1,1,2,1,1,1,9,9,9,9,0,0,0,9,9,0] <| ts [0,9,9,0] <| ts [0] <| ts [0] <| tn [] []) (by omega) ?_; intro A₀ R₀ h₀ sz0 tk0 a0 ad aD fin gd mm o
  refine mm [] (spot_does (N := N) (M := M) (t := t) (by omega) hN hM) ?_; intro o z0 sz1 tk1 _
  refine mm [] (spot_does (N := N₂) (M := M₂) (t := u) (by omega) hN₂ hM₂) ?_; intro o z1 sz2 tk2 _
  refine mm [] (op_sub (a := (.ofNat N)) (b := (.ofNat N₂)) (t := z0.2.1) (u := z1.2.1) (r := (.ofNat N - .ofNat N₂)) (by omega) rfl) ?_; intro o k2 sz3 tk3 _
  refine mm [] (op_sub (a := (.ofNat M)) (b := (.ofNat M₂)) (t := z0.2.2) (u := z1.2.2) (r := (.ofNat M - .ofNat M₂)) (by omega) rfl) ?_; intro o k3 sz4 tk4 _
  refine mm [] (op_mul (a := (.ofNat N - .ofNat N₂)) (b := (.ofNat M - .ofNat M₂)) (t := k2) (u := k3) (r := (.ofNat N - .ofNat N₂) * (.ofNat M - .ofNat M₂)) (by omega) ⟨rfl,hm⟩) ?_; intro o k4 sz5 tk5 _
  refine mm [] (op_ge (a := (.ofNat N - .ofNat N₂) * (.ofNat M - .ofNat M₂)) (b := (0)) (t := k4) (u := tk5) (c := c) (by omega) hc) ?_; intro o _ sz6 tk6 _
  exact ret_good () [] trivial fin rfl
end
end Mine
namespace Mine
theorem adds_does {G : Gc} {D : Nat} {x y : List Nat} {t u : Tok} (h : (x ++ y).length ≤ sizeLine) :
    Does G D (.builtin "str.__add__" ⟨[.str (sOf x) t, .str (sOf y) u], []⟩) [] (fun _ : Tok => True) (fun k => retV (.str (sOf (x ++ y)) k)) (fun _ => []) (fun _ => []) := by
  rw [← sOf_app]
  exact add_does (by rw [sOf_app,sOf_len]; exact h)
noncomputable def whileOf (s : Stmt) (env : Env) : Code := match s with
  | .While t b o _ => .whileLoop t b o env
  | _ => default
noncomputable def octQ : Str := sOf [95,108,97,119,95,111,99,116,101,116,115,46,60,108,111,99,97,108,115,62,46]
noncomputable def octC (w : World) (fr : Addr) : Code := whileOf (bodyAt w 322)[1]! { scope := (fdAt w 322).scope,locals := fr,globals := 3,cells := [],qual := octQ,func := some 322,code := .ref 321,frame := some fr }
structure Ky where
  hh : Nat → Int
  tt : Nat → Tok
noncomputable def octF (K : Ky) (n : Nat) (tp : Tok) (s : List Nat) (tq : Tok) : Obj := { cls := .type "frame", data := .dict ⟨[ent K.hh K.tt 0 [110,117,109,98,101,114] (.int (.ofNat n) tp), ent K.hh K.tt 1 [115,105,103,110,115] (.str (sOf s) tq)]⟩ 2 }
section
variable {e : Env0} {D : Nat} {K : Ky} {fr : Addr} {n : Nat} {tp tq t : Tok} {s : List Nat}
variable {α : Type} {ok : α → Prop} {res : α → Result} {post news : α → Led}
theorem oct_lo (hD : D + 150 ≤ recursionLimit) (h0 : 63 < n) (h3 : n / 64 % 64 < 28) (hs : s.length + 1 ≤ sizeLine)
    (next : ∀ j k,Does e.G D (octC e.w fr) [(fr,octF K (n / 64) j ((64 + n / 64 % 64) :: s) k)] ok res post news) :
    Does e.G D (octC e.w fr) [(fr,octF K n tp s tq)] ok res post news := by
  refine walk (ts [1,1001] <| ts [1] <| ts [1,1,0,0,1] <| ts [1001] <| ts [1] <| ts [] <| ts [] <| ts [1] <| ts [1,1] <| tn [] []) (by omega) ?_; intro A₀ R₀ h₀ sz0 tk0 a0 ad aD fin gd mm o
  refine mm [] (igt_does (a := (.ofNat n)) (b := (63)) (c := true) (t := tp) (u := tk0) (decide_eq_true (by show (63 : Int) < (n : Int); omega))) ?_; intro o _ sz1 tk1 _
  refine mm [] (idiv_does (a := (.ofNat n)) (b := (64)) (r := .ofNat (n / 64)) (t := tp) (u := tk1) (div_ok (by decide) (by decide))) ?_; intro o k1 sz2 tk2 _
  refine mm [] (imod_does (a := .ofNat (n / 64)) (b := (64)) (r := .ofNat (n / 64 % 64)) (t := k1) (u := (tk2 + 1)) (mod_ok (by decide))) ?_; intro o k2 sz3 tk3 _
  refine mm [] (ilt_does (a := .ofNat (n / 64 % 64)) (b := (28)) (c := true) (t := k2) (u := tk3) (by have e1 : Int.ofNat (n / 64 % 64) = ((n / 64 % 64 : Nat) : Int) := rfl; rw [e1]; simp; omega)) ?_; intro o _ sz4 tk4 _
  refine mm [] (imod_does (a := .ofNat (n / 64)) (b := (64)) (r := .ofNat (n / 64 % 64)) (t := k1) (u := (tk4 + 1)) (mod_ok (by decide))) ?_; intro o k4 sz5 tk5 _
  refine mm [] (iadd_does (a := (64)) (b := .ofNat (n / 64 % 64)) (r := .ofNat (64 + n / 64 % 64)) (t := tk4) (u := k4) rfl) ?_; intro o k5 sz6 tk6 _
  refine mm [] (chr_does (c := 64 + n / 64 % 64) (t := k5) (by omega)) ?_; intro o k6 sz7 tk7 _
  refine mm [] (adds_does (x := [64 + n / 64 % 64]) (t := k6) (y := s) (u := tq) (by simpa using hs)) ?_; intro o k7 sz8 tk8 _
  exact tail_same a0 [0] (next k1 k7) ad (by kernel_rfl) (by kernel_rfl) fin
theorem oct_hi (hD : D + 150 ≤ recursionLimit) (h0 : 63 < n) (h3 : ¬ n / 64 % 64 < 28) (hs : s.length + 1 ≤ sizeLine)
    (next : ∀ j k,Does e.G D (octC e.w fr) [(fr,octF K (n / 64) j ((192 + n / 64 % 64) :: s) k)] ok res post news) :
    Does e.G D (octC e.w fr) [(fr,octF K n tp s tq)] ok res post news := by
  refine walk (ts [1,1001] <| ts [1] <| ts [1,1,0,0,1] <| ts [1001] <| ts [1] <| ts [] <| ts [] <| ts [1] <| ts [1,1] <| tn [] []) (by omega) ?_; intro A₀ R₀ h₀ sz0 tk0 a0 ad aD fin gd mm o
  refine mm [] (igt_does (a := (.ofNat n)) (b := (63)) (c := true) (t := tp) (u := tk0) (decide_eq_true (by show (63 : Int) < (n : Int); omega))) ?_; intro o _ sz1 tk1 _
  refine mm [] (idiv_does (a := (.ofNat n)) (b := (64)) (r := .ofNat (n / 64)) (t := tp) (u := tk1) (div_ok (by decide) (by decide))) ?_; intro o k1 sz2 tk2 _
  refine mm [] (imod_does (a := .ofNat (n / 64)) (b := (64)) (r := .ofNat (n / 64 % 64)) (t := k1) (u := (tk2 + 1)) (mod_ok (by decide))) ?_; intro o k2 sz3 tk3 _
  refine mm [] (ilt_does (a := .ofNat (n / 64 % 64)) (b := (28)) (c := false) (t := k2) (u := tk3) (by have e1 : Int.ofNat (n / 64 % 64) = ((n / 64 % 64 : Nat) : Int) := rfl; rw [e1]; simp; omega)) ?_; intro o _ sz4 tk4 _
  refine mm [] (imod_does (a := .ofNat (n / 64)) (b := (64)) (r := .ofNat (n / 64 % 64)) (t := k1) (u := (tk4 + 1)) (mod_ok (by decide))) ?_; intro o k4 sz5 tk5 _
  refine mm [] (iadd_does (a := (192)) (b := .ofNat (n / 64 % 64)) (r := .ofNat (192 + n / 64 % 64)) (t := tk4) (u := k4) rfl) ?_; intro o k5 sz6 tk6 _
  refine mm [] (chr_does (c := 192 + n / 64 % 64) (t := k5) (by omega)) ?_; intro o k6 sz7 tk7 _
  refine mm [] (adds_does (x := [192 + n / 64 % 64]) (t := k6) (y := s) (u := tq) (by simpa using hs)) ?_; intro o k7 sz8 tk8 _
  exact tail_same a0 [0] (next k1 k7) ad (by kernel_rfl) (by kernel_rfl) fin
theorem oct_end (hD : D + 150 ≤ recursionLimit) (h0 : n ≤ 63) :
    Does e.G D (octC e.w fr) [(fr,octF K n tp s tq)] (fun _ : Unit => True) (fun _ => .ok .next) (fun _ => [(fr,octF K n tp s tq)]) (fun _ => []) := by
  refine walk (ts [1,1001] <| tn [] []) (by omega) ?_; intro A₀ R₀ h₀ sz0 tk0 a0 ad aD fin gd mm o
  refine mm [] (igt_does (a := (.ofNat n)) (b := (63)) (c := false) (t := tp) (u := tk0) (decide_eq_false (by show ¬ (63 : Int) < (n : Int); omega))) ?_; intro o _ sz1 tk1 _
  exact ret_good () [0] trivial fin rfl
theorem oct_turn (hD : D + 150 ≤ recursionLimit) (h0 : 63 < n) (hs : s.length + 1 ≤ sizeLine)
    (next : ∀ j k,Does e.G D (octC e.w fr) [(fr,octF K (n / 64) j (more (n / 64 % 64) :: s) k)] ok res post news) :
    Does e.G D (octC e.w fr) [(fr,octF K n tp s tq)] ok res post news := by
  by_cases h3 : n / 64 % 64 < 28
  · refine oct_lo hD h0 h3 hs fun j k => ?_
    have := next j k
    simpa [more,h3] using this
  · refine oct_hi hD h0 h3 hs fun j k => ?_
    have := next j k
    simpa [more,h3] using this
theorem oct_loop {N : Nat} {tp tq : Tok} (hD : D + 150 ≤ recursionLimit) (hN : N < 262144) :
    Does e.G D (octC e.w fr) [(fr,octF K N tp [last (N % 64)] tq)] (fun _ : Nat × Tok × Tok => True) (fun _ => .ok .next) (fun z => [(fr,octF K z.1 z.2.1 (oct N) z.2.2)]) (fun _ => []) := by
  have fin : ∀ (m : Nat) (j k : Tok),m ≤ 63 → Does e.G D (octC e.w fr) [(fr,octF K m j (oct N) k)] (fun _ : Nat × Tok × Tok => True) (fun _ => .ok .next) (fun z => [(fr,octF K z.1 z.2.1 (oct N) z.2.2)]) (fun _ => []) :=
    fun m j k h => (oct_end hD h).map (fun _ => (m,j,k)) (fun _ _ => trivial) (fun _ => rfl) (fun _ => rfl) (fun _ => rfl)
  by_cases h1 : N < 64
  · have eo : oct N = [last (N % 64)] := by simp [oct,h1]
    rw [← eo]
    exact fin N tp tq (by omega)
  · refine oct_turn hD (by omega) (by show 2 ≤ 2 ^ 24; omega) fun j k => ?_
    by_cases h2 : N < 4096
    · have eo : more (N / 64 % 64) :: [last (N % 64)] = oct N := by
        have : N / 64 % 64 = N / 64 := by omega
        simp [oct,h1,h2,this]
      rw [eo]
      exact fin _ j k (by omega)
    · refine oct_turn hD (by omega) (by show 3 ≤ 2 ^ 24; omega) fun j k => ?_
      have eo : more (N / 64 / 64 % 64) :: more (N / 64 % 64) :: [last (N % 64)] = oct N := by
        have : N / 64 / 64 % 64 = N / 4096 := by omega
        simp [oct,h1,h2,this]
      rw [eo]
      exact fin _ j k (by omega)
theorem octets_hi {N : Nat} (hD : D + 200 ≤ recursionLimit) (hN : N < 262144) (h1 : 34 < N % 64) :
    Does e.G D (.call (.ref 322) ⟨[.int (.ofNat N) t],[]⟩) [] (fun _ : Tok => True) (fun k => retV (.str (sOf (oct N)) k)) (fun _ => []) (fun _ => []) := by
  have hl : last (N % 64) = N % 64 := by unfold last; split <;> omega
  refine walk (ts [1,0,1,1,0,0,0,1] <| ts [1001] <| ts [1] <| ts [] <| ts [1,1] <| tn [1] []) (by omega) ?_; intro A₀ R₀ h₀ sz0 tk0 a0 ad aD fin gd mm o
  refine mm [] (imod_does (a := (.ofNat N)) (b := (64)) (r := .ofNat (N % 64)) (t := t) (u := (tk0 + 1)) (mod_ok (by decide))) ?_; intro o k0 sz1 tk1 _
  refine mm [] (igt_does (a := .ofNat (N % 64)) (b := (34)) (c := true) (t := k0) (u := tk1) (by have e1 : Int.ofNat (N % 64) = ((N % 64 : Nat) : Int) := rfl; rw [e1]; simp; omega)) ?_; intro o _ sz2 tk2 _
  refine mm [] (imod_does (a := (.ofNat N)) (b := (64)) (r := .ofNat (N % 64)) (t := t) (u := tk2) (mod_ok (by decide))) ?_; intro o k2 sz3 tk3 _
  refine mm [] (chr_does (c := N % 64) (t := k2) (by omega)) ?_; intro o k3 sz4 tk4 _
  refine meet_v (D := D + 50) a0 aD [0] (fun o => (o.ad 0,(⟨fun i => (entOf (o.ob 0) i).1,fun i => (entOf (o.ob 0) i).2⟩ : Ky))) (fun p => by have := oct_loop (e := e) (D := D + 50) (K := p.2) (fr := p.1) (N := N) (tp := t) (tq := k3) (by omega) hN; rw [hl] at this; exact this) (by omega) (by kernel_rfl) (by kernel_rfl) (fun _ => rfl) ?_; intro o z sz5 tk5 _
  exact ret_good z.2.2 [] trivial fin rfl
theorem octets_lo {N : Nat} (hD : D + 200 ≤ recursionLimit) (hN : N < 262144) (h1 : ¬ 34 < N % 64) :
    Does e.G D (.call (.ref 322) ⟨[.int (.ofNat N) t],[]⟩) [] (fun _ : Tok => True) (fun k => retV (.str (sOf (oct N)) k)) (fun _ => []) (fun _ => []) := by
  have hl : last (N % 64) = 128 + N % 64 := by unfold last; split <;> omega
  refine walk (ts [1,0,1,1,0,0,0,1] <| ts [1001] <| ts [1] <| ts [] <| ts [] <| ts [1,1] <| tn [1] []) (by omega) ?_; intro A₀ R₀ h₀ sz0 tk0 a0 ad aD fin gd mm o
  refine mm [] (imod_does (a := (.ofNat N)) (b := (64)) (r := .ofNat (N % 64)) (t := t) (u := (tk0 + 1)) (mod_ok (by decide))) ?_; intro o k0 sz1 tk1 _
  refine mm [] (igt_does (a := .ofNat (N % 64)) (b := (34)) (c := false) (t := k0) (u := tk1) (by have e1 : Int.ofNat (N % 64) = ((N % 64 : Nat) : Int) := rfl; rw [e1]; simp; omega)) ?_; intro o _ sz2 tk2 _
  refine mm [] (imod_does (a := (.ofNat N)) (b := (64)) (r := .ofNat (N % 64)) (t := t) (u := (tk2 + 1)) (mod_ok (by decide))) ?_; intro o k2 sz3 tk3 _
  refine mm [] (iadd_does (a := (128)) (b := .ofNat (N % 64)) (r := .ofNat (128 + N % 64)) (t := tk2) (u := k2) rfl) ?_; intro o k3 sz4 tk4 _
  refine mm [] (chr_does (c := 128 + N % 64) (t := k3) (by omega)) ?_; intro o k4 sz5 tk5 _
  refine meet_v (D := D + 50) a0 aD [0] (fun o => (o.ad 0,(⟨fun i => (entOf (o.ob 0) i).1,fun i => (entOf (o.ob 0) i).2⟩ : Ky))) (fun p => by have := oct_loop (e := e) (D := D + 50) (K := p.2) (fr := p.1) (N := N) (tp := t) (tq := k4) (by omega) hN; rw [hl] at this; exact this) (by omega) (by kernel_rfl) (by kernel_rfl) (fun _ => rfl) ?_; intro o z sz6 tk6 _
  exact ret_good z.2.2 [] trivial fin rfl
theorem octets_does {N : Nat} (hD : D + 200 ≤ recursionLimit) (hN : N < 262144) :
    Does e.G D (.call (.ref 322) ⟨[.int (.ofNat N) t],[]⟩) [] (fun _ : Tok => True) (fun k => retV (.str (sOf (oct N)) k)) (fun _ => []) (fun _ => []) := by
  by_cases h : 34 < N % 64
  · exact octets_hi hD hN h
  · exact octets_lo hD hN h
end
end Mine
namespace Mine
noncomputable def tokV : Value → Tok
  | .str _ t => t
  | .int _ t => t
  | _ => 0
noncomputable def entV (o : Obj) (i : Nat) : Value := match o.data with
  | .dict es _ => match es.toList[i]? with
    | some e => e.val
    | none => .none
  | _ => .none
noncomputable def fldV (o : Obj) (i : Nat) : Value := match o.data with
  | .fields vs => match vs.toList[i]? with
    | some v => v
    | none => .none
  | _ => .none
noncomputable def fldsOf (o : Obj) : List Value := match o.data with
  | .fields vs => vs.toList
  | _ => []
noncomputable def modTok (o : Obj) : Tok := match o.data with
  | .func fd => tokV fd.pyModule
  | _ => 0
structure LxR where
  X : Lx
  R : Rx
  u : Tok
  vs : List Value
noncomputable def mkLx (o : Out) (vs : List Value) : LxR :=
  { X := { l := o.ad 2,d := o.ad 3,p := o.ad 0,hh := fun k => (entOf (o.ob 3) k).1,tt := fun k => (entOf (o.ob 3) k).2,ins := .ref (o.ad 14),ws := tokV (entV (o.ob 3) 2) },
    R := { st := o.ad 14,sd := o.ad 15,fn := o.ad 4,co := o.ad 5,cell := o.ad 19,lf := o.ad 16,hh := fun k => (entOf (o.ob 15) k).1,tt := fun k => (entOf (o.ob 15) k).2,ws := tokV (entV (o.ob 15) 2),sp := o.ad 12,ct := o.ad 11,mt := modTok (o.ob 4),ft := fun k => match k with | 0 => tokV (entV (o.ob 15) 0) | k + 1 => tokV (fldV (o.ob 5) k),more := (fldsOf (o.ob 5)).drop 2 },
    u := tokV (entV (o.ob 3) 0),vs }
noncomputable def mkLx2 (o : Out) (R₁ : Rx) (vs : List Value) : LxR :=
  { X := { l := o.ad 2,d := o.ad 3,p := o.ad 0,hh := fun k => (entOf (o.ob 3) k).1,tt := fun k => (entOf (o.ob 3) k).2,ins := .ref (o.ad 8),ws := tokV (entV (o.ob 3) 2) },
    R := { st := o.ad 8,sd := o.ad 9,fn := o.ad 4,co := R₁.co,cell := o.ad 13,lf := o.ad 10,hh := fun k => (entOf (o.ob 9) k).1,tt := fun k => (entOf (o.ob 9) k).2,ws := tokV (entV (o.ob 9) 2),sp := o.ad 6,ct := o.ad 5,mt := modTok (o.ob 4),ft := fun k => match k with | 0 => tokV (entV (o.ob 9) 0) | k + 1 => R₁.ft (k + 1),more := R₁.more },
    u := tokV (entV (o.ob 3) 0),vs }
noncomputable def tabO (vs : List Value) : Obj := { cls := .none,data := .fields ⟨vs⟩ }
noncomputable def tab1 (co : Addr) : Obj := tabO [.int 198 0,.int 18 0,.ref co]
noncomputable def Rx.N (w : World) (R : Rx) (cs : List Value) (n : Nat) : Led :=
  [(R.st, iob 76 R.sd), (R.sd, streamD R), (R.fn, lamOb w R), (R.cell, { cls := .type "cell", data := .cell (some (.ref R.lf)) }), (R.lf, lob cs n)]
section
variable {e : Env0} {D : Nat} {s : List Nat} {t : Tok} {R₁ : Rx}
theorem lexer1_a (hD : D + 250 ≤ recursionLimit) (hs : s.length ≤ sizeLine) (h0 : s ≠ []) (hb : (sOf s).cps.all (fun c => decide (c < 128)) = true) :
    Does e.G D (.call (.ref 315) ⟨[.str (sOf s) t],[]⟩) [(312,tabO [])] (fun z : LxR => Signs s z.vs ∧ z.X.ins = .ref z.R.st) (fun z => retV (.ref z.X.l)) (fun z => [(312,tab1 z.R.co)])
      (fun z => z.X.L (.int (.ofNat 1) z.u) [] 0 ++ z.R.L e.w z.vs.reverse s.length) := by
  refine walk (ts [1,0,2,2,0,2,1001] <| ts [1] <| ts [3,3,3,4,4,4,2,2,2,2,2] <| tn [0,0,0,0,0,0,0,0,0,0,0,0,0,0,0,0,0,0,0,0,0,0,0,0,0,0,0,0,0,0,1,0,1,0,0,0,0,1,0,1,1,1,1,0,1,2,0,0,0,2,0,2,0,2,0,0,0,2,0,3,3,3,1,1,2,0,0,0,2,0,2,0,2,0,0,0,2,0,3,3,3,1,2,0,0,0,2,0,2,0,2,0,0,0,2,0,3,3,3,2,3,0,0,0,3,0,3,0,3,0,0,0,3,0,4,4,4,9,9,0,11,17,17,17,0,0,0,17,11,0,0,0,11,0,11,0,11,0,0,0,11,0,12,12,12,0,17,0,0,0,0,0,0,0,0,0,0,0,0,0,0,0,0,0,0,0,0,0,0,0,0,0,0,0,0,0,1,0,1,0,0,0,0,1,0,1,1,1,1,0,1,2,0,0,0,2,0,2,0,2,0,0,0,2,0,3,3,3,1,1,2,0,0,0,2,0,2,0,2,0,0,0,2,0,3,3,3,1,2,0,0,0,2,0,2,0,2,0,0,0,2,0,3,3,3,2,3,0,0,0,3,0,3,0,3,0,0,0,3,0,4,4,4] []) (by omega) ?_; intro A₀ R₀ h₀ sz0 tk0 a0 ad aD fin gd mm o
  refine mm [] (siter_does (x := sOf s) (t := t) (b := true) hb) ?_; intro o ai sz1 tk1 _
  refine meet_v (D := D + 50) a0 aD [2,1,0] (fun o => ((⟨o.ad 2,o.ad 1,o.ad 0⟩ : Cx),o.ad 4)) (fun p => alex_all (C := p.1) (fr := p.2) (t := t) (by omega) hs h0) (by omega) (by kernel_rfl) (by kernel_rfl) (fun _ => rfl) ?_; intro o z sz2 tk2 hz
  refine mm [1] (rev_does (l := sz1) (xs := z.1) (n := s.length) (by rw [hz.len]; exact hs)) ?_; intro o _ sz3 tk3 _
  exact ret_of (fun o => mkLx o z.1) [21,2,2,0,11,11,1,1,12,9] ⟨hz,rfl⟩ fin rfl
theorem lexer2_a (hD : D + 250 ≤ recursionLimit) (hs : s.length ≤ sizeLine) (h0 : s ≠ []) (hb : (sOf s).cps.all (fun c => decide (c < 128)) = true) :
    Does e.G D (.call (.ref 315) ⟨[.str (sOf s) t],[]⟩) [(312,tab1 R₁.co),(R₁.co,codeOb R₁)] (fun z : LxR => Signs s z.vs ∧ z.X.ins = .ref z.R.st ∧ z.R.co = R₁.co ∧ codeOb z.R = codeOb R₁) (fun z => retV (.ref z.X.l)) (fun z => [(312,tab1 R₁.co),(R₁.co,codeOb R₁)])
      (fun z => z.X.L (.int (.ofNat 1) z.u) [] 0 ++ z.R.N e.w z.vs.reverse s.length) := by
  refine walk (ts [1,0,2,2,0,2,1001] <| ts [1] <| ts [3,3,3,4,4,4,2,2,2,2,2] <| tn [0,0,0,0,0,0,0,0,0,0,0,0,0,0,0,0,0,0,0,0,0,0,0,0,0,0,0,0,0,0,1,0,1,0,0,0,0,1,0,1,1,1,1,0,1,2,0,0,0,2,0,2,0,2,0,0,0,2,0,3,3,3,1,1,2,0,0,0,2,0,2,0,2,0,0,0,2,0,3,3,3,1,2,0,0,0,2,0,2,0,2,0,0,0,2,0,3,3,3,2,3,0,0,0,3,0,3,0,3,0,0,0,3,0,4,4,4,9,9,0,11,0,0,0,11,5,0,0,0,5,0,5,0,5,0,0,0,5,0,6,6,6,0,11,0,0,0,0,0,0,0,0,0,0,0,0,0,0,0,0,0,0,0,0,0,0,0,0,0,0,0,0,0,1,0,1,0,0,0,0,1,0,1,1,1,1,0,1,2,0,0,0,2,0,2,0,2,0,0,0,2,0,3,3,3,1,1,2,0,0,0,2,0,2,0,2,0,0,0,2,0,3,3,3,1,2,0,0,0,2,0,2,0,2,0,0,0,2,0,3,3,3,2,3,0,0,0,3,0,3,0,3,0,0,0,3,0,4,4,4] []) (by omega) ?_; intro A₀ R₀ h₀ sz0 tk0 a0 ad aD fin gd mm o
  refine mm [] (siter_does (x := sOf s) (t := t) (b := true) hb) ?_; intro o ai sz1 tk1 _
  refine meet_v (D := D + 50) a0 aD [2,1,0] (fun o => ((⟨o.ad 2,o.ad 1,o.ad 0⟩ : Cx),o.ad 4)) (fun p => alex_all (C := p.1) (fr := p.2) (t := t) (by omega) hs h0) (by omega) (by kernel_rfl) (by kernel_rfl) (fun _ => rfl) ?_; intro o z sz2 tk2 hz
  refine mm [1] (rev_does (l := sz1) (xs := z.1) (n := s.length) (by rw [hz.len]; exact hs)) ?_; intro o _ sz3 tk3 _
  exact ret_of (fun o => mkLx2 o R₁ z.1) [15,15,2,2,0,5,5,1,7,4] ⟨hz,rfl,rfl,rfl⟩ fin rfl
theorem lexer1_s (hD : D + 250 ≤ recursionLimit) (hs : s.length ≤ sizeLine) (h0 : s ≠ []) (hb : (sOf s).cps.all (fun c => decide (c < 128)) = false) :
    Does e.G D (.call (.ref 315) ⟨[.str (sOf s) t],[]⟩) [(312,tabO [])] (fun z : LxR => Signs s z.vs ∧ z.X.ins = .ref z.R.st) (fun z => retV (.ref z.X.l)) (fun z => [(312,tab1 z.R.co)])
      (fun z => z.X.L (.int (.ofNat 1) z.u) [] 0 ++ z.R.L e.w z.vs.reverse s.length) := by
  refine walk (ts [1,0,2,2,0,2,1001] <| ts [1] <| ts [3,3,3,4,4,4,2,2,2,2,2] <| tn [0,0,0,0,0,0,0,0,0,0,0,0,0,0,0,0,0,0,0,0,0,0,0,0,0,0,0,0,0,0,1,0,1,0,0,0,0,1,0,1,1,1,1,0,1,2,0,0,0,2,0,2,0,2,0,0,0,2,0,3,3,3,1,1,2,0,0,0,2,0,2,0,2,0,0,0,2,0,3,3,3,1,2,0,0,0,2,0,2,0,2,0,0,0,2,0,3,3,3,2,3,0,0,0,3,0,3,0,3,0,0,0,3,0,4,4,4,9,9,0,11,17,17,17,0,0,0,17,11,0,0,0,11,0,11,0,11,0,0,0,11,0,12,12,12,0,17,0,0,0,0,0,0,0,0,0,0,0,0,0,0,0,0,0,0,0,0,0,0,0,0,0,0,0,0,0,1,0,1,0,0,0,0,1,0,1,1,1,1,0,1,2,0,0,0,2,0,2,0,2,0,0,0,2,0,3,3,3,1,1,2,0,0,0,2,0,2,0,2,0,0,0,2,0,3,3,3,1,2,0,0,0,2,0,2,0,2,0,0,0,2,0,3,3,3,2,3,0,0,0,3,0,3,0,3,0,0,0,3,0,4,4,4] []) (by omega) ?_; intro A₀ R₀ h₀ sz0 tk0 a0 ad aD fin gd mm o
  refine mm [] (siter_does (x := sOf s) (t := t) (b := false) hb) ?_; intro o ai sz1 tk1 _
  refine meet_v (D := D + 50) a0 aD [2,1,0] (fun o => ((⟨o.ad 2,o.ad 1,o.ad 0⟩ : Cx),o.ad 4)) (fun p => slex_all (C := p.1) (fr := p.2) (t := t) (by omega) hs h0) (by omega) (by kernel_rfl) (by kernel_rfl) (fun _ => rfl) ?_; intro o z sz2 tk2 hz
  refine mm [1] (rev_does (l := sz1) (xs := z.1) (n := s.length) (by rw [hz.len]; exact hs)) ?_; intro o _ sz3 tk3 _
  exact ret_of (fun o => mkLx o z.1) [21,2,2,0,11,11,1,1,12,9] ⟨hz,rfl⟩ fin rfl
theorem lexer2_s (hD : D + 250 ≤ recursionLimit) (hs : s.length ≤ sizeLine) (h0 : s ≠ []) (hb : (sOf s).cps.all (fun c => decide (c < 128)) = false) :
    Does e.G D (.call (.ref 315) ⟨[.str (sOf s) t],[]⟩) [(312,tab1 R₁.co),(R₁.co,codeOb R₁)] (fun z : LxR => Signs s z.vs ∧ z.X.ins = .ref z.R.st ∧ z.R.co = R₁.co ∧ codeOb z.R = codeOb R₁) (fun z => retV (.ref z.X.l)) (fun z => [(312,tab1 R₁.co),(R₁.co,codeOb R₁)])
      (fun z => z.X.L (.int (.ofNat 1) z.u) [] 0 ++ z.R.N e.w z.vs.reverse s.length) := by
  refine walk (ts [1,0,2,2,0,2,1001] <| ts [1] <| ts [3,3,3,4,4,4,2,2,2,2,2] <| tn [0,0,0,0,0,0,0,0,0,0,0,0,0,0,0,0,0,0,0,0,0,0,0,0,0,0,0,0,0,0,1,0,1,0,0,0,0,1,0,1,1,1,1,0,1,2,0,0,0,2,0,2,0,2,0,0,0,2,0,3,3,3,1,1,2,0,0,0,2,0,2,0,2,0,0,0,2,0,3,3,3,1,2,0,0,0,2,0,2,0,2,0,0,0,2,0,3,3,3,2,3,0,0,0,3,0,3,0,3,0,0,0,3,0,4,4,4,9,9,0,11,0,0,0,11,5,0,0,0,5,0,5,0,5,0,0,0,5,0,6,6,6,0,11,0,0,0,0,0,0,0,0,0,0,0,0,0,0,0,0,0,0,0,0,0,0,0,0,0,0,0,0,0,1,0,1,0,0,0,0,1,0,1,1,1,1,0,1,2,0,0,0,2,0,2,0,2,0,0,0,2,0,3,3,3,1,1,2,0,0,0,2,0,2,0,2,0,0,0,2,0,3,3,3,1,2,0,0,0,2,0,2,0,2,0,0,0,2,0,3,3,3,2,3,0,0,0,3,0,3,0,3,0,0,0,3,0,4,4,4] []) (by omega) ?_; intro A₀ R₀ h₀ sz0 tk0 a0 ad aD fin gd mm o
  refine mm [] (siter_does (x := sOf s) (t := t) (b := false) hb) ?_; intro o ai sz1 tk1 _
  refine meet_v (D := D + 50) a0 aD [2,1,0] (fun o => ((⟨o.ad 2,o.ad 1,o.ad 0⟩ : Cx),o.ad 4)) (fun p => slex_all (C := p.1) (fr := p.2) (t := t) (by omega) hs h0) (by omega) (by kernel_rfl) (by kernel_rfl) (fun _ => rfl) ?_; intro o z sz2 tk2 hz
  refine mm [1] (rev_does (l := sz1) (xs := z.1) (n := s.length) (by rw [hz.len]; exact hs)) ?_; intro o _ sz3 tk3 _
  exact ret_of (fun o => mkLx2 o R₁ z.1) [15,15,2,2,0,5,5,1,7,4] ⟨hz,rfl,rfl,rfl⟩ fin rfl
end
end Mine
namespace Mine
noncomputable def flagNames : List (List Nat) := [[79,80,84,73,77,73,90,69,68],[78,69,87,76,79,67,65,76,83],[86,65,82,65,82,71,83],[86,65,82,75,69,89,87,79,82,68,83],[78,69,83,84,69,68],[71,69,78,69,82,65,84,79,82],[78,79,70,82,69,69],[67,79,82,79,85,84,73,78,69],[73,84,69,82,65,66,76,69,95,67,79,82,79,85,84,73,78,69],[65,83,89,78,67,95,71,69,78,69,82,65,84,79,82]]
noncomputable def word (p : Nat) : List Nat := match flagNames[p]? with
  | some x => x
  | none => [48,120] ++ [[49,50,52,56].getD (p % 4) 0] ++ List.replicate (p / 4) 48
section
variable {e : Env0} {D : Nat} {t : Tok}
theorem word_lo (hD : D + 100 ≤ recursionLimit) : ∀ p,p < 10 →
    Does e.G D (.call (.ref 310) ⟨[.int (.ofNat p) t],[]⟩) [] (fun _ : Tok => True) (fun k => retV (.str (sOf (word p)) k)) (fun _ => []) (fun _ => []) := by
  intro p hp
  match p,hp with
  | 0,_ | 1,_ | 2,_ | 3,_ | 4,_ | 5,_ | 6,_ | 7,_ | 8,_ | 9,_ =>
    refine walk (tn [1,0,1,1,0,2,2,2,1001,2,2,1,1,1,1,1] []) (by omega) ?_; intro A₀ R₀ h₀ sz0 tk0 a0 ad aD fin gd mm o
    exact ret_of (fun o => match o with | .ret (.ok (.ret v)) _ => tokV v | _ => 0) [] trivial fin rfl
theorem word_hi (hD : D + 100 ≤ recursionLimit) : ∀ q,q < 23 →
    Does e.G D (.call (.ref 310) ⟨[.int (.ofNat (10 + q)) t],[]⟩) [] (fun _ : Tok => True) (fun k => retV (.str (sOf (word (10 + q))) k)) (fun _ => []) (fun _ => []) := by
  intro q hq
  match q,hq with
  | 0,_ | 1,_ | 2,_ | 3,_ | 4,_ | 5,_ | 6,_ | 7,_ | 8,_ | 9,_ | 10,_ | 11,_ | 12,_ | 13,_ | 14,_ | 15,_ | 16,_ | 17,_ | 18,_ | 19,_ | 20,_ | 21,_ | 22,_ =>
    refine walk (tn [1,0,1,1,0,2,2,2,1001,2,2] []) (by omega) ?_; intro A₀ R₀ h₀ sz0 tk0 a0 ad aD fin gd mm o
    exact ret_of (fun o => match o with | .ret (.ok (.ret v)) _ => tokV v | _ => 0) [] trivial fin rfl
  | n + 23,h => exact absurd h (by omega)
theorem word_does {p : Nat} (hD : D + 100 ≤ recursionLimit) (hp : p < 33) :
    Does e.G D (.call (.ref 310) ⟨[.int (.ofNat p) t],[]⟩) [] (fun _ : Tok => True) (fun k => retV (.str (sOf (word p)) k)) (fun _ => []) (fun _ => []) := by
  by_cases h : p < 10
  · exact word_lo hD p h
  · obtain ⟨q,rfl⟩ : ∃ q,p = 10 + q := ⟨p - 10,by omega⟩
    exact word_hi hD q (by omega)
/-! ### COMPILER_FLAG_NAMES.get -/
noncomputable def es81 : Array DictEntry := ⟨(List.range 10).map fun i => ⟨.ofNat (2 ^ i),.int (.ofNat (2 ^ i)) (351 + 2 * i),.str (sOf (word i)) (352 + 2 * i)⟩⟩
theorem kt81 (w : World) : (kt w).get 81 = some { cls := .type "dict", data := .dict es81 10 } := by kernel_rfl
theorem does_of_meetsIn {G : Gc} {D : Nat} {id : String} {args : Args} {B : Builtin} {S : Around → (Result → Shared → Prop) → Shared → Prop} {α : Type} {pre : Led} {ok : α → Prop} {res : α → Result} {post news : α → Led} (hp : plainId id = true) (he : entryFor table id = some B) (m : MeetsIn G.prog G.w (B args) S)
    (hS : ∀ (A : Around) (R : Result → Shared → Prop) (s : Shared),G.Fine s → Own s.heap pre → (keys pre).Nodup → G.Young pre →
      (∀ x s',ok x → G.Fine s' → Own s'.heap (post x) → Own s'.heap (news x) → Keeps (keys pre) s.heap s'.heap → (∀ p ∈ news x,s.heap.objs.size ≤ p.1) → (keys (news x)).Nodup → R (res x) s') → S A R s) :
    Does G D (.builtin id args) pre ok res post news := by
  intro A R s _ _ hf ho hn hy hfin
  refine codeAny_builtin he ?_
  rw [Around.under_plainId hp args]
  exact m _ _ _ (hS A R s hf ho hn hy hfin)
theorem isInt_self (i : Int) (t : Tok) : Value.isInt i (.int i t) = true := by simp [Value.isInt]
theorem rng_at {α : Type} {n p : Nat} {f g : Nat → α} (h : (List.range n).map f = (List.range n).map g) (hp : p < n) : f p = g p := by
  have := congrArg (fun l => l[p]?) h
  simpa [hp] using this
theorem dget_does {p : Nat} {d : Value} (hp : p < 32) (hd : 10 ≤ p → ∃ k,d = .str (sOf (word p)) k) :
    Does e.G D (.builtin "dict.get" ⟨[.ref 81, .int (.ofNat (2 ^ p)) t, d], []⟩) [] (fun _ : Tok => True) (fun k => retV (.str (sOf (word p)) k)) (fun _ => []) (fun _ => []) := by
  have hv : ∃ k,((findBy (intKind e.G.prog e.G.w).is es81 (.ofNat (2 ^ p))).getD d) = .str (sOf (word p)) k := by
    by_cases h : p < 10
    · have e1 : (List.range 10).map (fun p => (findBy (intKind e.G.prog e.G.w).is es81 (.ofNat (2 ^ p))).getD d) = (List.range 10).map (fun p => .str (sOf (word p)) (352 + 2 * p)) := by kernel_rfl
      exact ⟨352 + 2 * p,rng_at e1 h⟩
    · obtain ⟨k,rfl⟩ := hd (by omega)
      obtain ⟨q,rfl⟩ : ∃ q,p = 10 + q := ⟨p - 10,by omega⟩
      have e1 : (List.range 22).map (fun q => (findBy (intKind e.G.prog e.G.w).is es81 (.ofNat (2 ^ (10 + q)))).getD (Value.str (sOf (word (10 + q))) k)) = (List.range 22).map (fun q => .str (sOf (word (10 + q))) k) := by kernel_rfl
      exact ⟨k,rng_at e1 (show q < 22 by omega)⟩
  obtain ⟨k,hk⟩ := hv
  refine does_of_meetsIn (by decide +kernel) PySem.F.entry_dict_get (meets_dict_get_default (intKind e.G.prog e.G.w) (k := .ofNat (2 ^ p)) (key := .int (.ofNat (2 ^ p)) t) 81 (isInt_self _ t) (by decide +kernel) d) ?_
  intro A R s hf ho hn hy hfin
  have h81 : s.heap.get? 81 = some { cls := .type "dict", data := .dict es81 10 } := hf.base.old (kt81 e.w) rfl
  refine ⟨_,⟨_,es81,10,h81,⟨rfl,rfl,rfl⟩,rfl,?_,fun _ => rfl⟩,?_⟩
  · intro x hx
    simp only [es81,List.mem_toArray,List.mem_map,List.mem_range] at hx
    obtain ⟨j,hj,rfl⟩ := hx
    refine ⟨.ofNat (2 ^ j),isInt_self _ (351 + 2 * j),?_⟩
    match j,hj with
    | 0,_ | 1,_ | 2,_ | 3,_ | 4,_ | 5,_ | 6,_ | 7,_ | 8,_ | 9,_ => rfl
  · rw [hk]
    exact hfin k _ trivial ⟨hf.base,hf.gens,hf.drawn,hf.os⟩ own_nil own_nil ⟨Nat.le_refl _,fun _ _ e _ => e⟩ (fun _ hp => nomatch hp) List.nodup_nil
end
end Mine
namespace Mine
noncomputable def Strs : List (List Nat) → List Value → Prop
  | [],vs => vs = []
  | c :: s,vs => ∃ k vs',vs = .str (sOf c) k :: vs' ∧ Strs s vs'
theorem Strs.snoc : ∀ {s : List (List Nat)} {vs : List Value} {c : List Nat} {k : Tok},Strs s vs → Strs (s ++ [c]) (vs ++ [.str (sOf c) k])
  | [],vs,c,k,h => by cases h; exact ⟨k,[],rfl,rfl⟩
  | d :: s,vs,c,k,h => by
    obtain ⟨j,vs',rfl,h'⟩ := h
    exact ⟨j,vs' ++ [.str (sOf c) k],rfl,h'.snoc⟩
theorem Strs.len : ∀ {s : List (List Nat)} {vs : List Value},Strs s vs → vs.length = s.length
  | [],vs,h => by cases h; rfl
  | d :: s,vs,h => by
    obtain ⟨j,vs',rfl,h'⟩ := h
    simp [h'.len]
theorem Strs.at : ∀ {s : List (List Nat)} {vs : List Value},Strs s vs → ∀ {i : Nat} {c : List Nat},s[i]? = some c → ∃ k,vs[i]? = some (.str (sOf c) k)
  | [],vs,h,i,c,hc => by simp at hc
  | d :: s,vs,h,i,c,hc => by
    obtain ⟨j,vs',rfl,h'⟩ := h
    cases i with
    | zero => simp at hc; subst hc; exact ⟨j,rfl⟩
    | succ i => simp at hc ⊢; exact h'.at hc
theorem Strs.pairs : ∀ {s : List (List Nat)} {vs : List Value},Strs s vs → ∃ l : List (Str × Tok),vs = strValues l ∧ l.map (·.1) = s.map sOf
  | [],vs,h => by cases h; exact ⟨[],rfl,rfl⟩
  | d :: s,vs,h => by
    obtain ⟨j,vs',rfl,h'⟩ := h
    obtain ⟨l,rfl,e⟩ := h'.pairs
    exact ⟨(sOf d,j) :: l,rfl,by simp [e]⟩
noncomputable def joinS (sep : List Nat) (ss : List (List Nat)) : List Nat := match ss with
  | [x] => x
  | ss => (Builtin.Str.glued (sOf sep) (ss.map sOf)).cps.toList
structure JoinOk (sep : List Nat) (ss : List (List Nat)) : Prop where
  a : Builtin.Str.tooLong ((ss.map sOf).toArray.foldl (· + ·.length + (sOf sep).length) 0) = false
  b : (joinS sep ss).length ≤ sizeLine
theorem join_does {G : Gc} {D : Nat} {sep : List Nat} {ss : List (List Nat)} {t : Tok} {l : Addr} {vs : List Value} {n : Nat} (h : Strs ss vs) (ok : JoinOk sep ss) :
    Does G D (.builtin "str.join" ⟨[.str (sOf sep) t, .ref l], []⟩) [(l, lob vs n)] (fun _ : Tok => True) (fun k => retV (.str (sOf (joinS sep ss)) k)) (fun _ => [(l, lob vs n)]) (fun _ => []) := by
  obtain ⟨ps,rfl,hp⟩ := h.pairs
  refine does_of_meets (by decide +kernel) PySem.F.entry_str_join (meets_str_join_list (sOf sep) t l ps (by rw [hp]; exact ok.a)) ?_
  intro A R s hf ho hd hy hfin
  refine ⟨⟨_,own_one.mp ho,rfl,n,rfl⟩,?_⟩
  have fin : ∀ k tk,R (retV (.str (sOf (joinS sep ss)) k)) { s with toks := tk } := fun k tk => hfin k _ trivial ⟨hf.base,hf.gens,hf.drawn,hf.os⟩ ho own_nil ⟨Nat.le_refl _,fun _ _ e _ => e⟩ (fun _ hp => nomatch hp) List.nodup_nil
  have hl : ps.length = ss.length := by simpa using congrArg List.length hp
  have glue : ss.length ≠ 1 → joinMade (sOf sep) ps = .str (sOf (joinS sep ss)) := by
    intro h1
    have e2 : sOf (joinS sep ss) = Builtin.Str.glued (sOf sep) (ss.map sOf) := by
      unfold joinS
      split
      · simp at h1
      · rfl
    rw [e2,← hp]
    unfold joinMade
    split
    · simp at hl; omega
    · rfl
  by_cases h1 : ss.length = 1
  · obtain ⟨x,rfl⟩ := List.length_eq_one_iff.mp h1
    rw [h1] at hl
    obtain ⟨p,rfl⟩ := List.length_eq_one_iff.mp hl
    simp only [List.map_cons,List.map_nil,List.cons.injEq,and_true] at hp
    show R (.ok (.ret (.str p.1 p.2))) s
    rw [hp]
    exact fin p.2 s.toks
  · rw [glue h1]
    exact ⟨by rw [sOf_len]; exact ok.b,fin _ _⟩
end Mine
namespace Mine
noncomputable def hexs (F : Nat) : List Nat := (baseText "0x" 16 (.ofNat F)).cps.toList
theorem hexs_is (F : Nat) : baseText "0x" 16 (.ofNat F) = sOf (hexs F) := rfl
theorem hex_short : ∀ i,i < 32 → (hexs (2 ^ i)).length ≤ 100 ∧ (10 ≤ i → hexs (2 ^ i) = word i) := by decide +kernel
theorem hex_rest : ∀ q,q < 8 → (hexs (2 ^ 32 * q)).length ≤ 100 := by decide +kernel
noncomputable def pfq : Nat → Nat → List (List Nat)
  | 0,q => [hexs (2 ^ 32 * q)]
  | k + 1,q => if q % 2 = 1 then word (31 - k) :: (if q / 2 = 0 then [] else pfq k (q / 2)) else pfq k (q / 2)
theorem bit_off {i q : Nat} (h : q % 2 = 0) : 2 ^ i * q &&& 2 ^ i = 0 := by
  refine Nat.eq_of_testBit_eq fun j => ?_
  rw [Nat.testBit_and,Nat.testBit_two_pow]
  by_cases e : i = j
  · subst e
    simp [Nat.testBit_two_pow_mul,Nat.testBit_zero,h]
  · simp [e]
theorem bit_on {i q : Nat} (h : q % 2 = 1) : 2 ^ i * q &&& 2 ^ i = 2 ^ i := by
  refine Nat.eq_of_testBit_eq fun j => ?_
  rw [Nat.testBit_and,Nat.testBit_two_pow]
  by_cases e : i = j
  · subst e
    simp [Nat.testBit_two_pow_mul,Nat.testBit_zero,h]
  · simp [e]
theorem bit_or {i q : Nat} (h : q % 2 = 1) : 2 ^ i * q ||| 2 ^ i = 2 ^ i * q := by
  refine Nat.eq_of_testBit_eq fun j => ?_
  rw [Nat.testBit_or,Nat.testBit_two_pow]
  by_cases e : i = j
  · subst e
    simp [Nat.testBit_two_pow_mul,Nat.testBit_zero,h]
  · simp [e]
theorem flip {i q : Nat} (h : q % 2 = 1) : Builtin.bitXor (.ofNat (2 ^ i * q)) (.ofNat (2 ^ i)) = .ofNat (2 ^ (i + 1) * (q / 2)) := by
  unfold Builtin.bitXor
  rw [or_nat,and_nat,bit_or h,bit_on h]
  have e : 2 ^ i * q = 2 ^ (i + 1) * (q / 2) + 2 ^ i := by
    have : q = 2 * (q / 2) + 1 := by omega
    conv => lhs; rw [this]
    rw [Nat.mul_add,Nat.pow_succ,Nat.mul_assoc,Nat.mul_one]
  have e1 : Int.ofNat (2 ^ i * q) = ((2 ^ i * q : Nat) : Int) := rfl
  rw [e1,e]
  show ((2 ^ (i + 1) * (q / 2) + 2 ^ i : Nat) : Int) - ((2 ^ i : Nat) : Int) = ((2 ^ (i + 1) * (q / 2) : Nat) : Int)
  omega
noncomputable def pfQ : Str := sOf [112,114,101,116,116,121,95,102,108,97,103,115,46,60,108,111,99,97,108,115,62,46]
noncomputable def pfC (w : World) (it fr : Addr) : Code := forOf (bodyAt w 88)[1]! it { scope := (fdAt w 88).scope,locals := fr,globals := 3,cells := [],qual := pfQ,func := some 88,code := .ref 87,frame := some fr }
abbrev Bnd2 := Option (((Int × Tok) × Value) × ((Int × Tok) × Value))
noncomputable def pfF (K : Ky) (F : Nat) (tf : Tok) (nl : Addr) (b : Bnd2) : Obj := match b with
  | none => { cls := .type "frame", data := .dict ⟨[ent K.hh K.tt 0 [102,108,97,103,115] (.int (.ofNat F) tf), ent K.hh K.tt 1 [110,97,109,101,115] (.ref nl)]⟩ 2 }
  | some p => { cls := .type "frame", data := .dict ⟨[ent K.hh K.tt 0 [102,108,97,103,115] (.int (.ofNat F) tf), ent K.hh K.tt 1 [110,97,109,101,115] (.ref nl), ⟨p.1.1.1, .str (sOf [105]) p.1.1.2, p.1.2⟩, ⟨p.2.1.1, .str (sOf [102,108,97,103]) p.2.1.2, p.2.2⟩]⟩ 4 }
noncomputable def pfL (it nl fr : Addr) (K : Ky) (i k F : Nat) (tf : Tok) (ys : List Value) (b : Bnd2) : Led := [(it,ritO i k),(nl,lob ys ys.length),(fr,pfF K F tf nl b)]
section
variable {e : Env0} {D : Nat} {K : Ky} {it nl fr : Addr} {i k q : Nat} {tf t : Tok} {ys : List Value} {b : Bnd2}
variable {α : Type} {ok : α → Prop} {res : α → Result} {post news : α → Led}
theorem pf_no (hD : D + 150 ≤ recursionLimit) (hi : i < 32) (hq : q % 2 = 0)
    (next : ∀ (g : (Int × Tok) × (Int × Tok)) (j1 j2 : Tok),Does e.G D (pfC e.w it fr) [(it,ritO (i + 1) k),(nl,lob ys ys.length),(fr,pfF K (2 ^ i * q) tf nl (some ((g.1,.int (.ofNat i) j1),(g.2,.int (.ofNat (2 ^ i)) j2))))] ok res post news) :
    Does e.G D (pfC e.w it fr) (pfL it nl fr K i (k + 1) (2 ^ i * q) tf ys b) ok res post news := by
  have hs : ShlOk (.ofNat 1) (.ofNat i) (.ofNat (2 ^ i)) := by simpa using shl_ok (m := 1) (n := i) (by decide) (by omega +splitNatSub)
  cases b
  all_goals
    refine walk (ts [1,1] <| ts [3,3,3] <| ts [3,3,3,3] <| ts [] <| ts [] <| tn [] []) (by omega +splitNatSub) ?_; intro A₀ R₀ h₀ sz0 tk0 a0 ad aD fin gd mm o
    refine mm [0] (rnext_some (it := it) (i := i) (k := k)) ?_; intro o t0 sz1 tk1 _
    refine mm [] (ishl_does (a := .ofNat 1) (b := .ofNat i) (r := .ofNat (2 ^ i)) (t := (tk1 + 1)) (u := t0) hs) ?_; intro o k1 sz2 tk2 _
    refine mm [] (iand_does (a := .ofNat (2 ^ i * q)) (b := .ofNat (2 ^ i)) (r := .ofNat 0) (t := tf) (u := k1) (by rw [and_nat,bit_off hq])) ?_; intro o k2 sz3 tk3 _
    refine mm [] (ibool_does (a := .ofNat 0) (t := k2) (c := false) rfl) ?_; intro o _ sz4 tk4 _
    exact tail_same_w a0 [0,0,0] (fun o => (entOf (o.ob 2) 2,entOf (o.ob 2) 3)) (fun g => next g t0 k1) ad (by kernel_rfl) (by kernel_rfl) fin
theorem pf_yes (hD : D + 150 ≤ recursionLimit) (hi : i < 32) (hq : q % 2 = 1) (h0 : q / 2 ≠ 0) (hn : ys.length ≤ sizeLine)
    (next : ∀ (g : (Int × Tok) × (Int × Tok)) (j1 j2 j3 j4 : Tok),Does e.G D (pfC e.w it fr) [(it,ritO (i + 1) k),(nl,lob (ys ++ [.str (sOf (word i)) j3]) (ys.length + 1)),(fr,pfF K (2 ^ (i + 1) * (q / 2)) j4 nl (some ((g.1,.int (.ofNat i) j1),(g.2,.int (.ofNat (2 ^ i)) j2))))] ok res post news) :
    Does e.G D (pfC e.w it fr) (pfL it nl fr K i (k + 1) (2 ^ i * q) tf ys b) ok res post news := by
  have hs : ShlOk (.ofNat 1) (.ofNat i) (.ofNat (2 ^ i)) := by simpa using shl_ok (m := 1) (n := i) (by decide) (by omega +splitNatSub)
  have hl : (sOf (hexs (2 ^ i))).length ≤ sizeLine := by rw [sOf_len]; exact Nat.le_trans (hex_short i hi).1 (by decide)
  have hx := (hex_short i hi).2
  have hnz : ((Int.ofNat (2 ^ i)) != 0) = true := by
    have : 2 ^ i ≠ 0 := Nat.pos_iff_ne_zero.mp (Nat.two_pow_pos i)
    have e1 : Int.ofNat (2 ^ i) = ((2 ^ i : Nat) : Int) := rfl
    rw [e1]
    simp only [bne_iff_ne]
    omega +splitNatSub
  have hz : ((Int.ofNat (2 ^ (i + 1) * (q / 2))) != 0) = true := by
    have h2 : 2 ^ (i + 1) ≠ 0 := Nat.pos_iff_ne_zero.mp (Nat.two_pow_pos (i + 1))
    have : 2 ^ (i + 1) * (q / 2) ≠ 0 := Nat.mul_ne_zero h2 h0
    have e1 : Int.ofNat (2 ^ (i + 1) * (q / 2)) = ((2 ^ (i + 1) * (q / 2) : Nat) : Int) := rfl
    rw [e1]
    simp only [bne_iff_ne]
    omega +splitNatSub
  cases b
  all_goals
    refine walk (ts [1,1] <| ts [3,3,3] <| ts [3,3,3,3] <| ts [] <| ts [3,2,2,2,2,0,0,0,0,0,3,0,0,3] <| ts [0] <| ts [2] <| ts [3,3] <| ts [3,3,3] <| ts [] <| tn [] []) (by omega +splitNatSub) ?_; intro A₀ R₀ h₀ sz0 tk0 a0 ad aD fin gd mm o
    refine mm [0] (rnext_some (it := it) (i := i) (k := k)) ?_; intro o t0 sz1 tk1 _
    refine mm [] (ishl_does (a := .ofNat 1) (b := .ofNat i) (r := .ofNat (2 ^ i)) (t := (tk1 + 1)) (u := t0) hs) ?_; intro o k1 sz2 tk2 _
    refine mm [] (iand_does (a := .ofNat (2 ^ i * q)) (b := .ofNat (2 ^ i)) (r := .ofNat (2 ^ i)) (t := tf) (u := k1) (by rw [and_nat,bit_on hq])) ?_; intro o k2 sz3 tk3 _
    refine mm [] (ibool_does (a := .ofNat (2 ^ i)) (t := k2) (c := true) hnz) ?_; intro o _ sz4 tk4 _
    refine mm [] (hex_does (a := .ofNat (2 ^ i)) (x := sOf (hexs (2 ^ i))) (t := k1) (hexs_is _) hl) ?_; intro o k4 sz5 tk5 _
    refine mm [] (dget_does (p := i) (t := k1) (d := .str (sOf (hexs (2 ^ i))) k4) hi (fun h => ⟨k4,by rw [hx h]⟩)) ?_; intro o k5 sz6 tk6 _
    refine mm [1] (append_does (l := nl) (xs := ys) (n := ys.length) (v := (.str (sOf (word i)) k5)) hn) ?_; intro o _ sz7 tk7 _
    refine mm [] (ixor_does (a := .ofNat (2 ^ i * q)) (b := .ofNat (2 ^ i)) (r := .ofNat (2 ^ (i + 1) * (q / 2))) (t := tf) (u := k1) (flip hq)) ?_; intro o k6 sz8 tk8 _
    refine mm [] (ibool_does (a := .ofNat (2 ^ (i + 1) * (q / 2))) (t := k6) (c := true) hz) ?_; intro o _ sz9 tk9 _
    exact tail_same_w a0 [1,0,0] (fun o => (entOf (o.ob 2) 2,entOf (o.ob 2) 3)) (fun g => next g t0 k1 k5 k6) ad (by kernel_rfl) (by kernel_rfl) fin
theorem pf_last (hD : D + 150 ≤ recursionLimit) (hi : i < 32) (hq : q % 2 = 1) (h0 : q / 2 = 0) (hn : ys.length ≤ sizeLine) :
    Does e.G D (pfC e.w it fr) (pfL it nl fr K i (k + 1) (2 ^ i * q) tf ys b) (fun _ : ((Int × Tok) × (Int × Tok)) × Tok × Tok × Tok × Tok => True) (fun _ => .ok .next)
      (fun z => [(it,ritO (i + 1) k),(nl,lob (ys ++ [.str (sOf (word i)) z.2.2.2.1]) (ys.length + 1)),(fr,pfF K 0 z.2.2.2.2 nl (some ((z.1.1,.int (.ofNat i) z.2.1),(z.1.2,.int (.ofNat (2 ^ i)) z.2.2.1))))]) (fun _ => []) := by
  have hs : ShlOk (.ofNat 1) (.ofNat i) (.ofNat (2 ^ i)) := by simpa using shl_ok (m := 1) (n := i) (by decide) (by omega +splitNatSub)
  have hl : (sOf (hexs (2 ^ i))).length ≤ sizeLine := by rw [sOf_len]; exact Nat.le_trans (hex_short i hi).1 (by decide)
  have hx := (hex_short i hi).2
  have hnz : ((Int.ofNat (2 ^ i)) != 0) = true := by
    have : 2 ^ i ≠ 0 := Nat.pos_iff_ne_zero.mp (Nat.two_pow_pos i)
    have e1 : Int.ofNat (2 ^ i) = ((2 ^ i : Nat) : Int) := rfl
    rw [e1]
    simp only [bne_iff_ne]
    omega +splitNatSub
  cases b
  all_goals
    refine walk (ts [1,1] <| ts [3,3,3] <| ts [3,3,3,3] <| ts [] <| ts [3,2,2,2,2,0,0,0,0,0,3,0,0,3] <| ts [0] <| ts [2] <| ts [3,3] <| ts [3,3,3] <| tn [] []) (by omega +splitNatSub) ?_; intro A₀ R₀ h₀ sz0 tk0 a0 ad aD fin gd mm o
    refine mm [0] (rnext_some (it := it) (i := i) (k := k)) ?_; intro o t0 sz1 tk1 _
    refine mm [] (ishl_does (a := .ofNat 1) (b := .ofNat i) (r := .ofNat (2 ^ i)) (t := (tk1 + 1)) (u := t0) hs) ?_; intro o k1 sz2 tk2 _
    refine mm [] (iand_does (a := .ofNat (2 ^ i * q)) (b := .ofNat (2 ^ i)) (r := .ofNat (2 ^ i)) (t := tf) (u := k1) (by rw [and_nat,bit_on hq])) ?_; intro o k2 sz3 tk3 _
    refine mm [] (ibool_does (a := .ofNat (2 ^ i)) (t := k2) (c := true) hnz) ?_; intro o _ sz4 tk4 _
    refine mm [] (hex_does (a := .ofNat (2 ^ i)) (x := sOf (hexs (2 ^ i))) (t := k1) (hexs_is _) hl) ?_; intro o k4 sz5 tk5 _
    refine mm [] (dget_does (p := i) (t := k1) (d := .str (sOf (hexs (2 ^ i))) k4) hi (fun h => ⟨k4,by rw [hx h]⟩)) ?_; intro o k5 sz6 tk6 _
    refine mm [1] (append_does (l := nl) (xs := ys) (n := ys.length) (v := (.str (sOf (word i)) k5)) hn) ?_; intro o _ sz7 tk7 _
    refine mm [] (ixor_does (a := .ofNat (2 ^ i * q)) (b := .ofNat (2 ^ i)) (r := .ofNat 0) (t := tf) (u := k1) (by rw [flip hq,h0]; simp)) ?_; intro o k6 sz8 tk8 _
    refine mm [] (ibool_does (a := .ofNat 0) (t := k6) (c := false) rfl) ?_; intro o _ sz9 tk9 _
    exact ret_of (fun o => ((entOf (o.ob 2) 2,entOf (o.ob 2) 3),t0,k1,k5,k6)) [1,0,0] trivial fin rfl
theorem pf_end {F : Nat} (hD : D + 150 ≤ recursionLimit) (hl : (sOf (hexs F)).length ≤ sizeLine) (hn : ys.length ≤ sizeLine) :
    Does e.G D (pfC e.w it fr) (pfL it nl fr K i 0 F tf ys b) (fun _ : Tok => True) (fun _ => .ok .next)
      (fun z => [(it,ritO i 0),(nl,lob (ys ++ [.str (sOf (hexs F)) z]) (ys.length + 1)),(fr,pfF K F tf nl b)]) (fun _ => []) := by
  cases b
  all_goals
    refine walk (ts [1,1,1,1,1,1,5,4,4,4,4,0,0,5] <| ts [4] <| tn [] []) (by omega +splitNatSub) ?_; intro A₀ R₀ h₀ sz0 tk0 a0 ad aD fin gd mm o
    refine mm [] (hex_does (a := .ofNat F) (x := sOf (hexs F)) (t := tf) (hexs_is _) hl) ?_; intro o k0 sz1 tk1 _
    refine mm [3] (append_does (l := nl) (xs := ys) (n := ys.length) (v := (.str (sOf (hexs F)) k0)) hn) ?_; intro o _ sz2 tk2 _
    exact ret_good k0 [3,0,2] trivial fin rfl
structure PfR where
  i : Nat
  k : Nat
  F : Nat
  tf : Tok
  b : Bnd2
  ys : List Value
theorem pf_loop (hD : D + 150 ≤ recursionLimit) : ∀ (k i q : Nat) (tf : Tok) (ss : List (List Nat)) (ys : List Value) (b : Bnd2),i + k = 32 → 2 ^ i * q < 2 ^ 34 → Strs ss ys → ss.length ≤ i →
    Does e.G D (pfC e.w it fr) (pfL it nl fr K i k (2 ^ i * q) tf ys b) (fun z : PfR => Strs (ss ++ pfq k q) z.ys) (fun _ => .ok .next) (fun z => [(it,ritO z.i z.k),(nl,lob z.ys z.ys.length),(fr,pfF K z.F z.tf nl z.b)]) (fun _ => []) := by
  intro k
  induction k with
  | zero =>
    intro i q tf ss ys b hi hF hs hl
    have : i = 32 := by omega +splitNatSub
    subst this
    have hq : q < 8 := by omega +splitNatSub
    have hn : ys.length ≤ sizeLine := by rw [hs.len]; exact Nat.le_trans hl (by decide)
    refine (pf_end hD (by rw [sOf_len]; exact Nat.le_trans (hex_rest q hq) (by decide)) hn).map (fun z => ⟨32,0,2 ^ 32 * q,tf,b,ys ++ [.str (sOf (hexs (2 ^ 32 * q))) z]⟩) (fun z _ => ?_) (fun _ => rfl) (fun z => ?_) (fun _ => rfl)
    · exact hs.snoc
    · simp
  | succ k ih =>
    intro i q tf ss ys b hi hF hs hl
    have hi2 : i < 32 := by omega +splitNatSub
    have e31 : 31 - k = i := by omega +splitNatSub
    have hn : ys.length ≤ sizeLine := by rw [hs.len]; exact Nat.le_trans hl (Nat.le_trans (by omega +splitNatSub : i ≤ 32) (by decide))
    have half : 2 ^ (i + 1) * (q / 2) ≤ 2 ^ i * q := by
      rw [Nat.pow_succ,Nat.mul_assoc]
      exact Nat.mul_le_mul_left _ (by omega +splitNatSub)
    by_cases hq : q % 2 = 1
    · by_cases h0 : q / 2 = 0
      · refine (pf_last hD hi2 hq h0 hn).map (fun z => ⟨i + 1,k,0,z.2.2.2.2,some ((z.1.1,.int (.ofNat i) z.2.1),(z.1.2,.int (.ofNat (2 ^ i)) z.2.2.1)),ys ++ [.str (sOf (word i)) z.2.2.2.1]⟩) (fun z _ => ?_) (fun _ => rfl) (fun z => ?_) (fun _ => rfl)
        · simp only [pfq,hq,h0,if_true,e31]
          exact hs.snoc
        · simp
      · refine pf_yes hD hi2 hq h0 hn fun g j1 j2 j3 j4 => ?_
        have := ih (i + 1) (q / 2) j4 (ss ++ [word i]) (ys ++ [.str (sOf (word i)) j3]) (some ((g.1,.int (.ofNat i) j1),(g.2,.int (.ofNat (2 ^ i)) j2))) (by omega +splitNatSub) (by omega +splitNatSub) hs.snoc (by simp; omega +splitNatSub)
        simp only [pfL,List.length_append,List.length_cons,List.length_nil] at this
        simp only [pfq,hq,h0,if_true,if_false,e31]
        simpa using this
    · have hq0 : q % 2 = 0 := by omega +splitNatSub
      refine pf_no hD hi2 hq0 fun g j1 j2 => ?_
      have e2 : 2 ^ (i + 1) * (q / 2) = 2 ^ i * q := by
        rw [Nat.pow_succ,Nat.mul_assoc]
        congr 1; omega +splitNatSub
      have := ih (i + 1) (q / 2) tf ss ys (some ((g.1,.int (.ofNat i) j1),(g.2,.int (.ofNat (2 ^ i)) j2))) (by omega +splitNatSub) (by omega +splitNatSub) hs (by omega +splitNatSub)
      rw [e2] at this
      simp only [pfq,hq,if_false]
      exact this
theorem pretty_does {F : Nat} (hD : D + 250 ≤ recursionLimit) (hF : F < 2 ^ 34) (hj : JoinOk [44,32] (pfq 32 F)) :
    Does e.G D (.call (.ref 88) ⟨[.int (.ofNat F) t],[]⟩) [] (fun _ : Tok => True) (fun k => retV (.str (sOf (joinS [44,32] (pfq 32 F))) k)) (fun _ => []) (fun _ => []) := by
  refine walk (ts [1,0,1,1,0,2,2,0,0,1,1,1,1,1,1,1001,1,1,1,1,1] <| ts [3] <| tn [] []) (by omega +splitNatSub) ?_; intro A₀ R₀ h₀ sz0 tk0 a0 ad aD fin gd mm o
  refine meet_v (D := D + 50) a0 aD [0,1,1] (fun o => ((o.ad 0,o.ad 2,o.ad 3),(⟨fun i => (entOf (o.ob 3) i).1,fun i => (entOf (o.ob 3) i).2⟩ : Ky))) (fun p => by have h := pf_loop (e := e) (D := D + 50) (it := p.1.1) (nl := p.1.2.1) (fr := p.1.2.2) (K := p.2) (by omega +splitNatSub) 32 0 F t [] [] none rfl (by simpa using hF) rfl (Nat.le_refl _); rw [Nat.pow_zero,Nat.one_mul] at h; exact h) (by omega +splitNatSub) (by kernel_rfl) (by kernel_rfl) (fun _ => rfl) ?_; intro o z sz1 tk1 hz
  obtain ⟨zi,zk,zF,ztf,zb,zys⟩ := z
  cases zb
  all_goals
    refine mm [1] (join_does (sep := [44,32]) (ss := pfq 32 F) (t := tk1) (l := (sz0 + 1)) (vs := zys) (n := zys.length) hz hj) ?_; intro o kj sz2 tk2 _
    exact ret_good kj [] trivial fin rfl
end
end Mine
namespace Mine
theorem lgetitem_meets (l : Addr) (items : Array Value) (n : Nat) (i : Int) (j : Nat) (u : Tok) (y : Value) (hi : i = .ofNat j) (hj : Builtin.List.listFitsIndex i = true) (hy : items[j]? = some y) :
    Meets (Builtin.«list.__getitem__» ⟨[.ref l,.int i u],[]⟩)
      (fun _ R s => s.heap.get? l = some { cls := .type "list", dict := none, data := .seq items n, slots := #[] } ∧ R (.ok (.ret y)) s) :=
  .of_wp fun prog w A R s h => by
    obtain ⟨hp,g,d,tk,os⟩ := s; obtain ⟨hl,h⟩ := h
    have f1 := AutoSeq1.idx_int
    wp_walk using wpAny_loadPart' hl
    refine wpAny_ite_false (by rw [hj]; decide) ?_
    wp_walk using wpAny_loadPart' hl
    subst hi
    refine wpAny_bind ?_
    unfold seqItemAt
    refine wpAny_bind (wpAny_loadPart' hl ?_)
    refine wpAny_pure ?_
    refine wpAny_pure ?_
    show wpAny _ _ (match Option.map (fun x => (j,x)) items[j]? with | some (_,x) => ret x | none => _) _ _ _
    rw [hy]
    exact wpAny_bind (wpAny_pure (wpAny_pure ⟨_,rfl,h⟩))
theorem eqGives_bool (a b : Bool) : PySem.MeetsSeq.EqGives (.bool a) (.bool b) (a == b) := fun prog w A E s Q h => PySem.SeqAt.EqAt.bool_bool a b prog w E Q h
theorem same_does {G : Gc} {D : Nat} {id : String} {args : Args} {B : Builtin} {pre : Led} {v : Value} (hp : plainId id = true) (he : entryFor table id = some B)
    (m : Meets (B args) (fun _ R s => Own s.heap pre ∧ R (retV v) s)) :
    Does G D (.builtin id args) pre (fun _ : Unit => True) (fun _ => retV v) (fun _ => pre) (fun _ => []) := by
  refine does_of_meets hp he m ?_
  intro A R s hf ho hd hy hfin
  exact ⟨ho,hfin () s trivial hf ho own_nil ⟨Nat.le_refl _,fun _ _ e _ => e⟩ (fun _ hp => nomatch hp) List.nodup_nil⟩
section
variable {G : Gc} {D : Nat} {l : Addr} {xs : List Value} {n : Nat} {u : Tok} {v : Value}
theorem getit_does {j : Nat} (h : xs[j]? = some v) (hx : xs.length ≤ sizeLine) :
    Does G D (.builtin "list.__getitem__" ⟨[.ref l, .int (.ofNat j) u], []⟩) [(l, lob xs n)] (fun _ : Unit => True) (fun _ => retV v) (fun _ => [(l, lob xs n)]) (fun _ => []) := by
  have hj0 := (List.getElem?_eq_some_iff.mp h).1
  have hj : j < 16777216 := by
    have e : sizeLine = 16777216 := by decide
    rw [e] at hx; omega
  have hf : Builtin.List.listFitsIndex (.ofNat j) = true := by
    unfold Builtin.List.listFitsIndex
    have e1 : Int.ofNat j = (j : Int) := rfl
    rw [e1]
    simp only [Bool.and_eq_true,decide_eq_true_eq]
    constructor <;> omega
  have hx2 : (⟨xs⟩ : Array Value)[j]? = some v := by simpa using h
  generalize hi : Int.ofNat j = i at hf ⊢
  have m := lgetitem_meets l ⟨xs⟩ n i j u v hi.symm hf hx2
  exact same_does (by decide +kernel) PySem.F.entry_list_getitem (m.of_imp fun A R s h => ⟨own_one.mp h.1,h.2⟩)
noncomputable def isI (k : Int) : Value → Bool
  | .int a _ => a == k
  | _ => false
theorem int_beq_comm (a b : Int) : (a == b) = (b == a) := by
  by_cases e : a = b
  · subst e; rfl
  · rw [beq_eq_false_iff_ne.mpr e,beq_eq_false_iff_ne.mpr (Ne.symm e)]
theorem Ints.any : ∀ {L : List Int} {vs : List Value} (k : Int),Ints L vs → vs.any (isI k) = L.contains k
  | [],vs,k,h => by cases h; rfl
  | d :: s,vs,k,h => by
    obtain ⟨j,vs',rfl,h'⟩ := h
    have := h'.any k
    simp only [List.any_cons,isI,this,List.contains_cons]
    congr 1
    exact int_beq_comm d k
theorem Ints.each : ∀ {L : List Int} {vs : List Value},Ints L vs → ∀ y ∈ vs,∃ a t,y = .int a t
  | [],vs,h,y,hy => by cases h; cases hy
  | d :: s,vs,h,y,hy => by
    obtain ⟨j,vs',rfl,h'⟩ := h
    rcases List.mem_cons.mp hy with e | hy
    · exact ⟨d,j,e⟩
    · exact h'.each y hy
theorem contains_does {L : List Int} {k : Int} {b : Bool} (h : Ints L xs) (hb : L.contains k = b) :
    Does G D (.builtin "list.__contains__" ⟨[.ref l, .int k u], []⟩) [(l, lob xs n)] (fun _ : Unit => True) (fun _ => retV (.bool b)) (fun _ => [(l, lob xs n)]) (fun _ => []) := by
  refine same_does (by decide +kernel) PySem.F.entry_list_contains ((PySem.MeetsSeq.list_contains l ⟨xs⟩ n (.int k u) (isI k) ?_).of_imp fun A R s h' => ⟨own_one.mp h'.1,?_⟩)
  · intro y hy
    obtain ⟨a,t,rfl⟩ := h.each y (by simpa using hy)
    exact PySem.MeetsSeq.EqGives.int a k t u
  · have e : (⟨xs⟩ : Array Value).any (isI k) = b := by rw [← hb,← h.any k]; simp
    rw [e]; exact h'.2
noncomputable def isB : Value → Bool
  | .bool a => a
  | _ => false
theorem count_does {bs : List Bool} {c : Nat} (hc : bs.count true = c) :
    Does G D (.builtin "list.count" ⟨[.ref l, .bool true], []⟩) [(l, lob (bs.map .bool) n)] (fun _ : Tok => True) (fun k => retV (.int (.ofNat c) k)) (fun _ => [(l, lob (bs.map .bool) n)]) (fun _ => []) := by
  refine does_of_meets (by decide +kernel) PySem.F.entry_list_count (PySem.MeetsSeq.list_count l ⟨bs.map .bool⟩ n (.bool true) isB ?_) ?_
  · intro y hy
    obtain ⟨a,_,rfl⟩ := List.mem_map.mp (by simpa using hy : y ∈ bs.map Value.bool)
    have := eqGives_bool a true
    simpa [isB] using this
  · intro A R s hf ho hd hy hfin
    refine ⟨own_one.mp ho,?_⟩
    have e : List.countP isB (⟨bs.map .bool⟩ : Array Value).toList = c := by
      rw [← hc,List.countP_map,List.count]
      congr 1
      funext b
      simp [isB]
    rw [e]
    exact hfin _ _ trivial ⟨hf.base,hf.gens,hf.drawn,hf.os⟩ ho own_nil ⟨Nat.le_refl _,fun _ _ e _ => e⟩ (fun _ hp => nomatch hp) List.nodup_nil
noncomputable def rangeO (n : Nat) (t u w : Tok) : Obj := { cls := .type "range", data := .fields ⟨[.int 0 t, .int (.ofNat n) u, .int 1 w]⟩ }
theorem riter_does {r : Addr} {n : Nat} {t u w : Tok} (hn : n < 1000000) :
    Does G D (.builtin "range.__iter__" ⟨[.ref r], []⟩) [(r, rangeO n t u w)] (fun _ : Addr => True) (fun a => retV (.ref a)) (fun _ => [(r, rangeO n t u w)]) (fun a => [(a, ritO 0 n)]) := by
  have e1 : Int.ofNat n = (n : Int) := rfl
  have hs : Builtin.Range.rangeSize 0 (.ofNat n) 1 = .ofNat n := by
    rw [e1]
    unfold Builtin.Range.rangeSize
    rw [if_pos (by decide)]
    split <;> omega
  have hfit : (Builtin.Range.rangeFitsLong 0 && Builtin.Range.rangeFitsLong (.ofNat n) && Builtin.Range.rangeFitsLong 1 && Builtin.Range.rangeFitsLong (Builtin.Range.rangeSize 0 (.ofNat n) 1) && (Builtin.Range.rangeSize 0 (.ofNat n) 1 == 0 || if (1 : Int) > 0 then Builtin.Range.rangeFitsLong (.ofNat n + (1 - 1)) else Builtin.Range.rangeFitsLong (.ofNat n + (1 + 1)))) = true := by
    have f : ∀ i : Int,0 ≤ i → i ≤ 1000000 → Builtin.Range.rangeFitsLong i = true := by
      intro i h1 h2
      unfold Builtin.Range.rangeFitsLong
      simp only [Bool.and_eq_true,decide_eq_true_eq]
      constructor <;> omega
    rw [hs,e1,f 0 (by omega) (by omega),f n (by omega) (by omega),f 1 (by omega) (by omega),if_pos (by decide),f (n + (1 - 1)) (by omega) (by omega)]
    simp
  refine new_does (by decide +kernel) PySem.F.entry_range_iter rfl ((PySem.AutoRange.range___iter___range_1 r 0 (.ofNat n) 1 t u w (by rw [hfit]; decide)).of_imp fun A R s h => ⟨own_one.mp h.1,?_⟩)
  have h2 := h.2
  rw [if_pos hfit,hs]
  exact h2
end
end Mine
end
section
open PySem PySem.W PySem.W.X PyProof.Rows PySem.Spec PySem.Calls
set_option genInjectivity false
set_option genCtorIdx false
set_option backward.match.sparseCases false
namespace Mine
noncomputable def Out.reTr (o : Out) (tr : List Ev) : Out := match o with
  | .stop c κ _ s => .stop c κ tr s
  | .ret r s => .ret r s
  | .mid c κ t tr s => .mid c κ t tr s
  | .bad n a => .bad n a
  | .badW w => .badW w
section
variable {G : Gc} {h₀ : Heap} {H : List Addr} {A₀ : Around} {R₀ : Result → Shared → Prop}
theorem stop_goodT {α : Type} {D n : Nat} {c : Code} {pre : Led} {ok : α → Prop} {res : α → Result} {post news : α → Led} {out : Out} {D₀ : Nat} (h0 : Calm A₀ D₀) (hA : A₀.depth + 100 ≤ recursionLimit) (idx : List Nat)
    (does : Does G D c pre ok res post news) (hD : D₀ + 50 ≤ D)
    (h1 : out.obsL = out.obsR) (h2 : out.stop? idx = some (c,pre,none,true)) (hk : ∀ x,keys (post x) = keys pre)
    (next : ∀ x sz tk,ok x → ∃ tr : List Ev,(cont G.kt G.tab G.set n (out.reTr tr) idx (res x) (news x ++ post x) sz tk).Good G h₀ H A₀ R₀) : out.Good G h₀ H A₀ R₀ := by
  cases out with
  | ret => cases h2
  | bad => cases h2
  | badW => cases h2
  | mid => cases h2
  | stop c' κ tr st =>
    refine ⟨alike_of h1,fun h Dh => ?_⟩
    simp only [Out.stop?] at h2
    split at h2
    · rename_i q e
      simp only [Option.some.injEq,Prod.mk.injEq] at h2
      obtain ⟨rfl,e2,e3,e4⟩ := h2
      have pm := lpick_perm _ _ _ _ e
      have Dh' := Dh.perm pm
      rw [e2] at Dh'
      refine does (around A₀ κ) _ (G.sh h st.tk) ?_ ?_ ⟨Dh.base,rfl,rfl,rfl⟩ (fun p hp => Dh'.own p (List.mem_append.mpr (.inl hp))) ?_ (fun p hp => Dh'.young p (List.mem_append.mpr (.inl hp))) fun x s' hx hf ho hn hK hfr hnd => ?_
      · have e5 := Bool.and_eq_true_iff.mp e4
        have e6 := Nat.le_of_ble_eq_true e5.1
        have e7 := Nat.le_of_ble_eq_true e5.2
        have := h0.deep
        have := h0.units
        exact ⟨by rw [around_hd h0.hd,e3],by rw [around_depth]; omega,by rw [around_units]; omega⟩
      · rw [around_depth]; have := Nat.le_of_ble_eq_true (Bool.and_eq_true_iff.mp e4).1; have := h0.deep; omega
      · have := Dh'.nodup
        rw [List.map_append] at this
        exact (List.nodup_append.mp this).1
      · obtain ⟨tr2,nx⟩ := next x s'.heap.objs.size s'.toks hx
        simp only [Out.reTr,cont,e,List.append_assoc] at nx
        have D2 := Dh'.called hf.base (hk x) ho hn hK hfr hnd
        cases κ with
        | base => exact nx.elim
        | ret c₁ hd k κ =>
          have z := run_sound h0.hd hA _ _ _ _ _ _ _ _ _ nx s'.heap D2
          show Means G A₀ R₀ c₁ κ (k (res x)) s'
          rw [hf.eq]
          exact z.2
    · cases h2
end
theorem meetT {e : Env0} {h₀ : Heap} {H : List Addr} {A₀ : Around} {R₀ : Result → Shared → Prop} {α : Type} {D : Nat} {c : Code} {pre : Led} {ok : α → Prop} {res : α → Result} {post news : α → Led} {out : Out} {D₀ : Nat} (h0 : Calm A₀ D₀) (hA : A₀.depth + 100 ≤ recursionLimit) (idx : List Nat)
    (does : Does e.G D c pre ok res post news) (hD : D₀ + 50 ≤ D)
    (h1 : out.obsL = out.obsR) (h2 : out.stop? idx = some (c,pre,none,true)) (hk : ∀ x,keys (post x) = keys pre)
    (next : ∀ x sz tk,ok x → ∃ tr : List Ev,let o := contY (kt e.w) 312 (settY e.w) fuel (out.reTr tr) idx (res x) (news x ++ post x) sz tk; o.Good e.G h₀ H A₀ R₀) : out.Good e.G h₀ H A₀ R₀ :=
  stop_goodT h0 hA idx does hD h1 h2 hk fun x sz tk hx => by
    obtain ⟨tr,h⟩ := next x sz tk hx
    exact ⟨tr,cont_good h⟩
end Mine
end
section
open PySem PySem.W PySem.W.X PyProof.Rows
set_option genInjectivity false
set_option genCtorIdx false
set_option backward.match.sparseCases false
namespace Mine
noncomputable def dueQ : Str := sOf [95,108,97,119,95,100,117,101,46,60,108,111,99,97,108,115,62,46]
noncomputable def tN : List Nat := [116]
noncomputable def dueE1 (w : World) : Expr := valOf (bodyAt w 351)[0]!
noncomputable def dueE2 (w : World) : Expr := valOf (bodyAt w 351)[1]!
noncomputable def retE (s : Stmt) : Expr := match s with
  | .Return (some e) _ => e
  | _ => default
noncomputable def dueE3 (w : World) : Expr := retE (bodyAt w 351)[2]!
noncomputable def colsN (bs : List Bool) (w i : Nat) : List Nat := ((List.range i).filter fun t => !bs.getD t false).map fun t => w - 1 - t
noncomputable def rowsN (bs : List Bool) (h w i : Nat) : List Nat := (List.range i).filter fun t => bs.getD (h + w - 1 - t) false
noncomputable def dueN (bs : List Bool) (h w : Nat) : List Nat := (List.range (rowsN bs h w h).length).map fun t => w * (rowsN bs h w h).getD t 0 + (colsN bs w w).getD t 0
structure Dx where
  fr : Addr
  cw : Addr
  cm : Addr
  ch : Addr
  cr : Addr
  cc : Addr
  ml : Addr
  rl : Addr
  cl : Addr
section
variable {e : Env0} {D : Nat} {C : Cx} {X : Dx} {bs : List Bool} {h w i k nm nr nc : Nat} {tw th t : Tok} {ys rv cv : List Value} {b : Bnd}
noncomputable def due_c1 (e : Env0) (C : Cx) (X : Dx) : Code := compL (dueE1 e.w) C X.fr 350 dueQ [(sOf [119,105,100,101],X.cw),(sOf [109,97,114,107,115],X.cm)]
noncomputable def due_c1S (e : Env0) (C : Cx) (X : Dx) : Code := compS (dueE1 e.w) C X.fr 350 dueQ [(sOf [119,105,100,101],X.cw),(sOf [109,97,114,107,115],X.cm)]
noncomputable def due_c2 (e : Env0) (C : Cx) (X : Dx) : Code := compL (dueE2 e.w) C X.fr 350 dueQ [(sOf [119,105,100,101],X.cw),(sOf [109,97,114,107,115],X.cm),(sOf [104,105,103,104],X.ch)]
noncomputable def due_c2S (e : Env0) (C : Cx) (X : Dx) : Code := compS (dueE2 e.w) C X.fr 350 dueQ [(sOf [119,105,100,101],X.cw),(sOf [109,97,114,107,115],X.cm),(sOf [104,105,103,104],X.ch)]
noncomputable def due_c3 (e : Env0) (C : Cx) (X : Dx) : Code := compL (dueE3 e.w) C X.fr 350 dueQ [(sOf [119,105,100,101],X.cw),(sOf [114,111,119,115],X.cr),(sOf [99,111,108,117,109,110,115],X.cc)]
noncomputable def due_c3S (e : Env0) (C : Cx) (X : Dx) : Code := compS (dueE3 e.w) C X.fr 350 dueQ [(sOf [119,105,100,101],X.cw),(sOf [114,111,119,115],X.cr),(sOf [99,111,108,117,109,110,115],X.cc)]
theorem c1_hit {α : Type} {ok : α → Prop} {res : α → Result} {post news : α → Led} (hD : D + 150 ≤ recursionLimit) (hi : i < w) (hb : bs[i]? = some false) (hl : bs.length ≤ sizeLine) (hn : ys.length ≤ sizeLine)
    (next : ∀ g j1 j2,Does e.G D (due_c1 e C X) ([(C.it,ritO (i + 1) (k)),(C.acc,lob (ys ++ [.int (.ofNat (w - 1 - i)) j2]) (ys.length + 1)),(C.dc,dcO tN (some (g,.int (.ofNat i) j1)))] ++ [(X.cw,cellO (.int (.ofNat w) tw)),(X.cm,cellO (.ref X.ml)),(X.ml,lob (bs.map .bool) nm)]) ok res post news) :
    Does e.G D (due_c1 e C X) ([(C.it,ritO (i) (k + 1)),(C.acc,lob (ys) (ys.length)),(C.dc,dcO tN b)] ++ [(X.cw,cellO (.int (.ofNat w) tw)),(X.cm,cellO (.ref X.ml)),(X.ml,lob (bs.map .bool) nm)]) ok res post news := by
  cases b
  all_goals
    refine walk (ts [1,1] <| ts [3,3,5,3,6,6,6,6] <| ts [5] <| ts [4] <| ts [3] <| ts [] <| tn [] []) (by omega) ?_; intro A₀ R₀ h₀ sz0 tk0 a0 ad aD fin gd mm o
    refine mm [0] (rnext_some (it := C.it) (i := i) (k := k)) ?_; intro o t0 sz1 tk1 _
    refine mm [5] (getit_does (l := X.ml) (xs := bs.map .bool) (n := nm) (j := i) (u := t0) (v := (.bool false)) (by simp [List.getElem?_map,hb]) (by simpa using hl)) ?_; intro o _ sz2 tk2 _
    refine mm [] (subn_does (a := w) (b := 1) (t := tw) (u := tk2) (by omega)) ?_; intro o k2 sz3 tk3 _
    refine mm [] (subn_does (a := (w - 1)) (b := i) (t := k2) (u := t0) (by omega)) ?_; intro o k3 sz4 tk4 _
    refine mm [2] (append_does (l := C.acc) (xs := ys) (n := ys.length) (v := .int (.ofNat (w - 1 - i)) k3) hn) ?_; intro o _ sz5 tk5 _
    exact tail_same_w a0 [2,0,1,1,1,0] (fun o => entOf (o.ob 3) 0) (fun g => next g t0 k3) ad (by kernel_rfl) (by kernel_rfl) fin
theorem c1_miss {α : Type} {ok : α → Prop} {res : α → Result} {post news : α → Led} (hD : D + 150 ≤ recursionLimit) (hb : bs[i]? = some true) (hl : bs.length ≤ sizeLine)
    (next : ∀ g j1,Does e.G D (due_c1 e C X) ([(C.it,ritO (i + 1) (k)),(C.acc,lob (ys) (ys.length)),(C.dc,dcO tN (some (g,.int (.ofNat i) j1)))] ++ [(X.cw,cellO (.int (.ofNat w) tw)),(X.cm,cellO (.ref X.ml)),(X.ml,lob (bs.map .bool) nm)]) ok res post news) :
    Does e.G D (due_c1 e C X) ([(C.it,ritO (i) (k + 1)),(C.acc,lob (ys) (ys.length)),(C.dc,dcO tN b)] ++ [(X.cw,cellO (.int (.ofNat w) tw)),(X.cm,cellO (.ref X.ml)),(X.ml,lob (bs.map .bool) nm)]) ok res post news := by
  cases b
  all_goals
    refine walk (ts [1,1] <| ts [3,3,5,3,6,6,6,6] <| ts [] <| tn [] []) (by omega) ?_; intro A₀ R₀ h₀ sz0 tk0 a0 ad aD fin gd mm o
    refine mm [0] (rnext_some (it := C.it) (i := i) (k := k)) ?_; intro o t0 sz1 tk1 _
    refine mm [5] (getit_does (l := X.ml) (xs := bs.map .bool) (n := nm) (j := i) (u := t0) (v := (.bool true)) (by simp [List.getElem?_map,hb]) (by simpa using hl)) ?_; intro o _ sz2 tk2 _
    exact tail_same_w a0 [1,1,1,1,1,0] (fun o => entOf (o.ob 3) 0) (fun g => next g t0) ad (by kernel_rfl) (by kernel_rfl) fin
theorem c1_end (hD : D + 150 ≤ recursionLimit) :
    Does e.G D (due_c1 e C X) ([(C.it,ritO (i) (0)),(C.acc,lob (ys) (ys.length)),(C.dc,dcO tN b)] ++ [(X.cw,cellO (.int (.ofNat w) tw)),(X.cm,cellO (.ref X.ml)),(X.ml,lob (bs.map .bool) nm)]) (fun _ : Unit => True) (fun _ => .ok .next) (fun _ => ([(C.it,ritO (i) (0)),(C.acc,lob (ys) (ys.length)),(C.dc,dcO tN b)] ++ [(X.cw,cellO (.int (.ofNat w) tw)),(X.cm,cellO (.ref X.ml)),(X.ml,lob (bs.map .bool) nm)])) (fun _ => []) := by
  cases b
  all_goals
    refine walk (tn [1,1,1,1,1,1] []) (by omega) ?_; intro A₀ R₀ h₀ sz0 tk0 a0 ad aD fin gd mm o
    exact ret_good () [2,2,2,2,2,2] trivial fin rfl
theorem c2_hit {α : Type} {ok : α → Prop} {res : α → Result} {post news : α → Led} (hD : D + 150 ≤ recursionLimit) (hi : i < h) (hb : bs[h + w - 1 - i]? = some true) (hl : bs.length ≤ sizeLine) (hn : ys.length ≤ sizeLine)
    (next : ∀ g j1,Does e.G D (due_c2 e C X) ([(C.it,ritO (i + 1) (k)),(C.acc,lob (ys ++ [.int (.ofNat i) j1]) (ys.length + 1)),(C.dc,dcO tN (some (g,.int (.ofNat i) j1)))] ++ [(X.cw,cellO (.int (.ofNat w) tw)),(X.cm,cellO (.ref X.ml)),(X.ch,cellO (.int (.ofNat h) th)),(X.ml,lob (bs.map .bool) nm)]) ok res post news) :
    Does e.G D (due_c2 e C X) ([(C.it,ritO (i) (k + 1)),(C.acc,lob (ys) (ys.length)),(C.dc,dcO tN b)] ++ [(X.cw,cellO (.int (.ofNat w) tw)),(X.cm,cellO (.ref X.ml)),(X.ch,cellO (.int (.ofNat h) th)),(X.ml,lob (bs.map .bool) nm)]) ok res post news := by
  cases b
  all_goals
    refine walk (ts [1,1] <| ts [3,3,5,6,4] <| ts [] <| ts [3] <| ts [7,7,7,7] <| ts [4,3] <| ts [] <| tn [] []) (by omega) ?_; intro A₀ R₀ h₀ sz0 tk0 a0 ad aD fin gd mm o
    refine mm [0] (rnext_some (it := C.it) (i := i) (k := k)) ?_; intro o t0 sz1 tk1 _
    refine mm [] (iadd_does (a := .ofNat h) (b := .ofNat w) (r := .ofNat (h + w)) (t := th) (u := tw) rfl) ?_; intro o k1 sz2 tk2 _
    refine mm [] (subn_does (a := (h + w)) (b := 1) (t := k1) (u := tk2) (by omega)) ?_; intro o k2 sz3 tk3 _
    refine mm [] (subn_does (a := (h + w - 1)) (b := i) (t := k2) (u := t0) (by omega)) ?_; intro o k3 sz4 tk4 _
    refine mm [6] (getit_does (l := X.ml) (xs := bs.map .bool) (n := nm) (j := h + w - 1 - i) (u := k3) (v := (.bool true)) (by simp [List.getElem?_map,hb]) (by simpa using hl)) ?_; intro o _ sz5 tk5 _
    refine mm [2] (append_does (l := C.acc) (xs := ys) (n := ys.length) (v := .int (.ofNat i) t0) hn) ?_; intro o _ sz6 tk6 _
    exact tail_same_w a0 [2,0,1,1,1,1,0] (fun o => entOf (o.ob 3) 0) (fun g => next g t0) ad (by kernel_rfl) (by kernel_rfl) fin
theorem c2_miss {α : Type} {ok : α → Prop} {res : α → Result} {post news : α → Led} (hD : D + 150 ≤ recursionLimit) (hi : i < h) (hb : bs[h + w - 1 - i]? = some false) (hl : bs.length ≤ sizeLine)
    (next : ∀ g j1,Does e.G D (due_c2 e C X) ([(C.it,ritO (i + 1) (k)),(C.acc,lob (ys) (ys.length)),(C.dc,dcO tN (some (g,.int (.ofNat i) j1)))] ++ [(X.cw,cellO (.int (.ofNat w) tw)),(X.cm,cellO (.ref X.ml)),(X.ch,cellO (.int (.ofNat h) th)),(X.ml,lob (bs.map .bool) nm)]) ok res post news) :
    Does e.G D (due_c2 e C X) ([(C.it,ritO (i) (k + 1)),(C.acc,lob (ys) (ys.length)),(C.dc,dcO tN b)] ++ [(X.cw,cellO (.int (.ofNat w) tw)),(X.cm,cellO (.ref X.ml)),(X.ch,cellO (.int (.ofNat h) th)),(X.ml,lob (bs.map .bool) nm)]) ok res post news := by
  cases b
  all_goals
    refine walk (ts [1,1] <| ts [3,3,5,6,4] <| ts [] <| ts [3] <| ts [7,7,7,7] <| ts [] <| tn [] []) (by omega) ?_; intro A₀ R₀ h₀ sz0 tk0 a0 ad aD fin gd mm o
    refine mm [0] (rnext_some (it := C.it) (i := i) (k := k)) ?_; intro o t0 sz1 tk1 _
    refine mm [] (iadd_does (a := .ofNat h) (b := .ofNat w) (r := .ofNat (h + w)) (t := th) (u := tw) rfl) ?_; intro o k1 sz2 tk2 _
    refine mm [] (subn_does (a := (h + w)) (b := 1) (t := k1) (u := tk2) (by omega)) ?_; intro o k2 sz3 tk3 _
    refine mm [] (subn_does (a := (h + w - 1)) (b := i) (t := k2) (u := t0) (by omega)) ?_; intro o k3 sz4 tk4 _
    refine mm [6] (getit_does (l := X.ml) (xs := bs.map .bool) (n := nm) (j := h + w - 1 - i) (u := k3) (v := (.bool false)) (by simp [List.getElem?_map,hb]) (by simpa using hl)) ?_; intro o _ sz5 tk5 _
    exact tail_same_w a0 [1,1,1,1,1,1,0] (fun o => entOf (o.ob 3) 0) (fun g => next g t0) ad (by kernel_rfl) (by kernel_rfl) fin
theorem c2_end (hD : D + 150 ≤ recursionLimit) :
    Does e.G D (due_c2 e C X) ([(C.it,ritO (i) (0)),(C.acc,lob (ys) (ys.length)),(C.dc,dcO tN b)] ++ [(X.cw,cellO (.int (.ofNat w) tw)),(X.cm,cellO (.ref X.ml)),(X.ch,cellO (.int (.ofNat h) th)),(X.ml,lob (bs.map .bool) nm)]) (fun _ : Unit => True) (fun _ => .ok .next) (fun _ => ([(C.it,ritO (i) (0)),(C.acc,lob (ys) (ys.length)),(C.dc,dcO tN b)] ++ [(X.cw,cellO (.int (.ofNat w) tw)),(X.cm,cellO (.ref X.ml)),(X.ch,cellO (.int (.ofNat h) th)),(X.ml,lob (bs.map .bool) nm)])) (fun _ => []) := by
  cases b
  all_goals
    refine walk (tn [1,1,1,1,1,1] []) (by omega) ?_; intro A₀ R₀ h₀ sz0 tk0 a0 ad aD fin gd mm o
    exact ret_good () [2,2,2,2,2,2,2] trivial fin rfl
theorem c3_turn {α : Type} {ok : α → Prop} {res : α → Result} {post news : α → Led} {p q : Nat} {tp tq : Tok} (hD : D + 150 ≤ recursionLimit) (hw : w ≤ 100) (h1 : rv[i]? = some (.int (.ofNat p) tp)) (l1 : rv.length ≤ sizeLine) (h3 : cv[i]? = some (.int (.ofNat q) tq)) (l3 : cv.length ≤ sizeLine) (hn : ys.length ≤ sizeLine)
    (next : ∀ g j1 j2,Does e.G D (due_c3 e C X) ([(C.it,ritO (i + 1) (k)),(C.acc,lob (ys ++ [.int (.ofNat (w * p + q)) j2]) (ys.length + 1)),(C.dc,dcO tN (some (g,.int (.ofNat i) j1)))] ++ [(X.cw,cellO (.int (.ofNat w) tw)),(X.cr,cellO (.ref X.rl)),(X.cc,cellO (.ref X.cl)),(X.rl,lob rv nr),(X.cl,lob cv nc)]) ok res post news) :
    Does e.G D (due_c3 e C X) ([(C.it,ritO (i) (k + 1)),(C.acc,lob (ys) (ys.length)),(C.dc,dcO tN b)] ++ [(X.cw,cellO (.int (.ofNat w) tw)),(X.cr,cellO (.ref X.rl)),(X.cc,cellO (.ref X.cl)),(X.rl,lob rv nr),(X.cl,lob cv nc)]) ok res post news := by
  cases b
  all_goals
    refine walk (ts [1,1] <| ts [3,3,4,5,3,7,7,7,7] <| ts [] <| ts [7,4,8,8,8,8] <| ts [] <| ts [4] <| ts [] <| tn [] []) (by omega) ?_; intro A₀ R₀ h₀ sz0 tk0 a0 ad aD fin gd mm o
    refine mm [0] (rnext_some (it := C.it) (i := i) (k := k)) ?_; intro o t0 sz1 tk1 _
    refine mm [6] (getit_does (l := X.rl) (xs := rv) (n := nr) (j := i) (u := t0) (v := .int (.ofNat p) tp) h1 l1) ?_; intro o _ sz2 tk2 _
    refine mm [] (imul_does (a := .ofNat w) (b := .ofNat p) (r := .ofNat (w * p)) (t := tw) (u := tp) ⟨rfl,IntMulOk.of_left (bits_le (Nat.lt_of_le_of_lt hw (by decide)))⟩) ?_; intro o k2 sz3 tk3 _
    refine mm [7] (getit_does (l := X.cl) (xs := cv) (n := nc) (j := i) (u := t0) (v := .int (.ofNat q) tq) h3 l3) ?_; intro o _ sz4 tk4 _
    refine mm [] (iadd_does (a := .ofNat (w * p)) (b := .ofNat q) (r := .ofNat (w * p + q)) (t := k2) (u := tq) rfl) ?_; intro o k4 sz5 tk5 _
    refine mm [3] (append_does (l := C.acc) (xs := ys) (n := ys.length) (v := .int (.ofNat (w * p + q)) k4) hn) ?_; intro o _ sz6 tk6 _
    exact tail_same_w a0 [3,0,2,2,2,2,1,0] (fun o => entOf (o.ob 4) 0) (fun g => next g t0 k4) ad (by kernel_rfl) (by kernel_rfl) fin
theorem c3_end (hD : D + 150 ≤ recursionLimit) :
    Does e.G D (due_c3 e C X) ([(C.it,ritO (i) (0)),(C.acc,lob (ys) (ys.length)),(C.dc,dcO tN b)] ++ [(X.cw,cellO (.int (.ofNat w) tw)),(X.cr,cellO (.ref X.rl)),(X.cc,cellO (.ref X.cl)),(X.rl,lob rv nr),(X.cl,lob cv nc)]) (fun _ : Unit => True) (fun _ => .ok .next) (fun _ => ([(C.it,ritO (i) (0)),(C.acc,lob (ys) (ys.length)),(C.dc,dcO tN b)] ++ [(X.cw,cellO (.int (.ofNat w) tw)),(X.cr,cellO (.ref X.rl)),(X.cc,cellO (.ref X.cl)),(X.rl,lob rv nr),(X.cl,lob cv nc)])) (fun _ => []) := by
  cases b
  all_goals
    refine walk (tn [1,1,1,1,1,1] []) (by omega) ?_; intro A₀ R₀ h₀ sz0 tk0 a0 ad aD fin gd mm o
    exact ret_good () [2,2,2,2,2,2,2,2] trivial fin rfl
theorem colsN_succ (bs : List Bool) (w i : Nat) : colsN bs w (i + 1) = colsN bs w i ++ (if bs.getD i false then [] else [w - 1 - i]) := by
  unfold colsN
  rw [List.range_succ,List.filter_append,List.map_append]
  congr 1
  cases h : bs.getD i false <;> simp only [List.filter,h,Bool.not_false,Bool.not_true,List.map_cons,List.map_nil,if_true] <;> rfl
theorem rowsN_succ (bs : List Bool) (h w i : Nat) : rowsN bs h w (i + 1) = rowsN bs h w i ++ (if bs.getD (h + w - 1 - i) false then [i] else []) := by
  unfold rowsN
  rw [List.range_succ,List.filter_append]
  congr 1
  cases hh : bs.getD (h + w - 1 - i) false <;> simp only [List.filter,hh,if_true] <;> rfl
theorem getD_some {bs : List Bool} {i : Nat} (h : i < bs.length) : bs[i]? = some (bs.getD i false) := by
  rw [List.getD_eq_getElem?_getD,List.getElem?_eq_getElem h]; rfl
theorem colsN_len (bs : List Bool) (w i : Nat) : (colsN bs w i).length ≤ i := by
  unfold colsN
  rw [List.length_map]
  exact Nat.le_trans (List.length_filter_le _ _) (by simp)
theorem rowsN_len (bs : List Bool) (h w i : Nat) : (rowsN bs h w i).length ≤ i := by
  unfold rowsN
  exact Nat.le_trans (List.length_filter_le _ _) (by simp)
theorem natI_snoc (s : List Nat) (c : Nat) : natI (s ++ [c]) = natI s ++ [.ofNat c] := by simp [natI]
theorem natI_len (s : List Nat) : (natI s).length = s.length := by simp [natI]
theorem natI_at {s : List Nat} {i c : Nat} (h : s[i]? = some c) : (natI s)[i]? = some (.ofNat c) := by simp [natI,h]
theorem c1_all (hD : D + 150 ≤ recursionLimit) (hw : 0 < w) (hw2 : w ≤ 100) (hl : w ≤ bs.length) (hl2 : bs.length ≤ sizeLine) :
    Does e.G D (due_c1S e C X) ([(C.it,ritO 0 w),(C.acc,lob [] 0),(C.dc,dcO tN none)] ++ [(X.cw,cellO (.int (.ofNat w) tw)),(X.cm,cellO (.ref X.ml)),(X.ml,lob (bs.map .bool) nm)]) (fun z : List Value × ((Int × Tok) × Value) => Ints (natI (colsN bs w w)) z.1) (fun _ => .ok .next)
      (fun z => [(C.it,ritO w 0),(C.acc,lob z.1 z.1.length),(C.dc,dcO tN (some z.2))] ++ [(X.cw,cellO (.int (.ofNat w) tw)),(X.cm,cellO (.ref X.ml)),(X.ml,lob (bs.map .bool) nm)]) (fun _ => []) := by
  have key := comp_some (G := e.G) (D := D) (c := due_c1 e C X) (L := fun i ys b => [(C.it,ritO i (w - i)),(C.acc,lob ys ys.length),(C.dc,dcO tN b)] ++ [(X.cw,cellO (.int (.ofNat w) tw)),(X.cm,cellO (.ref X.ml)),(X.ml,lob (bs.map .bool) nm)]) (P := fun ys b => [(C.it,ritO w 0),(C.acc,lob ys ys.length),(C.dc,dcO tN b)] ++ [(X.cw,cellO (.int (.ofNat w) tw)),(X.cm,cellO (.ref X.ml)),(X.ml,lob (bs.map .bool) nm)]) (N := w) (fun i ys => Ints (natI (colsN bs w i)) ys) hw rfl
    (fun i ys b hi hv _ _ _ _ _ next => by
      have hlen : ys.length ≤ sizeLine := by
        rw [hv.len,natI_len]
        exact Nat.le_trans (colsN_len bs w i) (Nat.le_trans (by omega : i ≤ 100) (by decide))
      have hb := getD_some (bs := bs) (i := i) (by omega)
      have ek : w - i = (w - (i + 1)) + 1 := by omega
      rw [ek]
      cases hc : bs.getD i false with
      | false =>
        refine c1_hit hD hi (by rw [hb,hc]) hl2 hlen fun g j1 j2 => ?_
        have := next (ys ++ [.int (.ofNat (w - 1 - i)) j2]) (g,.int (.ofNat i) j1) (by rw [colsN_succ,hc]; simp only [Bool.false_eq_true,if_false]; rw [natI_snoc]; exact hv.snoc)
        simpa using this
      | true =>
        refine c1_miss hD (by rw [hb,hc]) hl2 fun g j1 => ?_
        have := next ys (g,.int (.ofNat i) j1) (by rw [colsN_succ,hc]; simpa using hv)
        simpa using this)
    (fun ys b hv => by rw [Nat.sub_self]; exact c1_end hD)
  refine walk (tn [1] [.stop]) (by omega) ?_; intro A₀ R₀ h₀ sz0 tk0 a0 ad aD fin gd mm o
  exact tail_same a0 [0,0,0,0,0,0] key ad (by kernel_rfl) (by kernel_rfl) fin
theorem c2_all (hD : D + 150 ≤ recursionLimit) (hh : 0 < h) (hh2 : h ≤ 100) (hl : h + w ≤ bs.length) (hl2 : bs.length ≤ sizeLine) :
    Does e.G D (due_c2S e C X) ([(C.it,ritO 0 h),(C.acc,lob [] 0),(C.dc,dcO tN none)] ++ [(X.cw,cellO (.int (.ofNat w) tw)),(X.cm,cellO (.ref X.ml)),(X.ch,cellO (.int (.ofNat h) th)),(X.ml,lob (bs.map .bool) nm)]) (fun z : List Value × ((Int × Tok) × Value) => Ints (natI (rowsN bs h w h)) z.1) (fun _ => .ok .next)
      (fun z => [(C.it,ritO h 0),(C.acc,lob z.1 z.1.length),(C.dc,dcO tN (some z.2))] ++ [(X.cw,cellO (.int (.ofNat w) tw)),(X.cm,cellO (.ref X.ml)),(X.ch,cellO (.int (.ofNat h) th)),(X.ml,lob (bs.map .bool) nm)]) (fun _ => []) := by
  have key := comp_some (G := e.G) (D := D) (c := due_c2 e C X) (L := fun i ys b => [(C.it,ritO i (h - i)),(C.acc,lob ys ys.length),(C.dc,dcO tN b)] ++ [(X.cw,cellO (.int (.ofNat w) tw)),(X.cm,cellO (.ref X.ml)),(X.ch,cellO (.int (.ofNat h) th)),(X.ml,lob (bs.map .bool) nm)]) (P := fun ys b => [(C.it,ritO h 0),(C.acc,lob ys ys.length),(C.dc,dcO tN b)] ++ [(X.cw,cellO (.int (.ofNat w) tw)),(X.cm,cellO (.ref X.ml)),(X.ch,cellO (.int (.ofNat h) th)),(X.ml,lob (bs.map .bool) nm)]) (N := h) (fun i ys => Ints (natI (rowsN bs h w i)) ys) hh rfl
    (fun i ys b hi hv _ _ _ _ _ next => by
      have hlen : ys.length ≤ sizeLine := by
        rw [hv.len,natI_len]
        exact Nat.le_trans (rowsN_len bs h w i) (Nat.le_trans (by omega : i ≤ 100) (by decide))
      have hb := getD_some (bs := bs) (i := h + w - 1 - i) (by omega)
      have ek : h - i = (h - (i + 1)) + 1 := by omega
      rw [ek]
      cases hc : bs.getD (h + w - 1 - i) false with
      | true =>
        refine c2_hit hD hi (by rw [hb,hc]) hl2 hlen fun g j1 => ?_
        have := next (ys ++ [.int (.ofNat i) j1]) (g,.int (.ofNat i) j1) (by rw [rowsN_succ,hc,if_pos rfl,natI_snoc]; exact hv.snoc)
        simpa using this
      | false =>
        refine c2_miss hD hi (by rw [hb,hc]) hl2 fun g j1 => ?_
        have := next ys (g,.int (.ofNat i) j1) (by rw [rowsN_succ,hc]; simpa using hv)
        simpa using this)
    (fun ys b hv => by rw [Nat.sub_self]; exact c2_end hD)
  refine walk (tn [1] [.stop]) (by omega) ?_; intro A₀ R₀ h₀ sz0 tk0 a0 ad aD fin gd mm o
  exact tail_same a0 [0,0,0,0,0,0,0] key ad (by kernel_rfl) (by kernel_rfl) fin
theorem c3_all {rs cs : List Nat} (hD : D + 150 ≤ recursionLimit) (hw : w ≤ 100) (hr : Ints (natI rs) rv) (hc : Ints (natI cs) cv) (h1 : rs.length ≤ cs.length) (h2 : cs.length ≤ 100) :
    Does e.G D (due_c3S e C X) ([(C.it,ritO 0 rs.length),(C.acc,lob [] 0),(C.dc,dcO tN none)] ++ [(X.cw,cellO (.int (.ofNat w) tw)),(X.cr,cellO (.ref X.rl)),(X.cc,cellO (.ref X.cl)),(X.rl,lob rv nr),(X.cl,lob cv nc)]) (fun z : List Value × Bnd => Ints (natI ((List.range rs.length).map fun t => w * rs.getD t 0 + cs.getD t 0)) z.1 ∧ (rs.length = 0 → z.2 = none) ∧ (0 < rs.length → z.2.isSome = true)) (fun _ => .ok .next)
      (fun z => [(C.it,ritO rs.length 0),(C.acc,lob z.1 z.1.length),(C.dc,dcO tN z.2)] ++ [(X.cw,cellO (.int (.ofNat w) tw)),(X.cr,cellO (.ref X.rl)),(X.cc,cellO (.ref X.cl)),(X.rl,lob rv nr),(X.cl,lob cv nc)]) (fun _ => []) := by
  have key : Does e.G D (due_c3 e C X) ([(C.it,ritO 0 rs.length),(C.acc,lob [] 0),(C.dc,dcO tN none)] ++ [(X.cw,cellO (.int (.ofNat w) tw)),(X.cr,cellO (.ref X.rl)),(X.cc,cellO (.ref X.cl)),(X.rl,lob rv nr),(X.cl,lob cv nc)]) (fun z : List Value × Bnd => Ints (natI ((List.range rs.length).map fun t => w * rs.getD t 0 + cs.getD t 0)) z.1 ∧ (rs.length = 0 → z.2 = none) ∧ (0 < rs.length → z.2.isSome = true)) (fun _ => .ok .next)
      (fun z => [(C.it,ritO rs.length 0),(C.acc,lob z.1 z.1.length),(C.dc,dcO tN z.2)] ++ [(X.cw,cellO (.int (.ofNat w) tw)),(X.cr,cellO (.ref X.rl)),(X.cc,cellO (.ref X.cl)),(X.rl,lob rv nr),(X.cl,lob cv nc)]) (fun _ => []) := by
    rcases Nat.eq_zero_or_pos rs.length with h0 | h0
    · rw [h0]
      exact (c3_end hD).map (fun _ => ([],none)) (fun _ _ => ⟨rfl,fun _ => rfl,fun h => absurd h (Nat.lt_irrefl _)⟩) (fun _ => rfl) (fun _ => rfl) (fun _ => rfl)
    · have := comp_some (G := e.G) (D := D) (c := due_c3 e C X) (L := fun i ys b => [(C.it,ritO i (rs.length - i)),(C.acc,lob ys ys.length),(C.dc,dcO tN b)] ++ [(X.cw,cellO (.int (.ofNat w) tw)),(X.cr,cellO (.ref X.rl)),(X.cc,cellO (.ref X.cl)),(X.rl,lob rv nr),(X.cl,lob cv nc)]) (P := fun ys b => [(C.it,ritO rs.length 0),(C.acc,lob ys ys.length),(C.dc,dcO tN b)] ++ [(X.cw,cellO (.int (.ofNat w) tw)),(X.cr,cellO (.ref X.rl)),(X.cc,cellO (.ref X.cl)),(X.rl,lob rv nr),(X.cl,lob cv nc)]) (N := rs.length) (fun i ys => Ints (natI ((List.range i).map fun t => w * rs.getD t 0 + cs.getD t 0)) ys) h0 rfl
        (fun i ys b hi hv _ _ _ _ _ next => by
          have hlen : ys.length ≤ sizeLine := by
            rw [hv.len,natI_len]
            simp only [List.length_map,List.length_range]
            exact Nat.le_trans (by omega : i ≤ 100) (by decide)
          have ek : rs.length - i = (rs.length - (i + 1)) + 1 := by omega
          rw [ek]
          have er : rs[i]? = some (rs.getD i 0) := by rw [List.getD_eq_getElem?_getD,List.getElem?_eq_getElem hi]; rfl
          have ec : cs[i]? = some (cs.getD i 0) := by rw [List.getD_eq_getElem?_getD,List.getElem?_eq_getElem (by omega : i < cs.length)]; rfl
          obtain ⟨tp,g1⟩ := hr.at (natI_at er)
          obtain ⟨tq,g3⟩ := hc.at (natI_at ec)
          have s100 : (100 : Nat) ≤ sizeLine := by decide
          refine c3_turn hD hw g1 (by rw [hr.len,natI_len]; omega) g3 (by rw [hc.len,natI_len]; omega) hlen fun g j1 j2 => ?_
          have := next (ys ++ [.int (.ofNat (w * rs.getD i 0 + cs.getD i 0)) j2]) (g,.int (.ofNat i) j1) (by rw [List.range_succ,List.map_append,List.map_cons,List.map_nil,natI_snoc]; exact hv.snoc)
          simpa using this)
        (fun ys b hv => by rw [Nat.sub_self]; exact c3_end hD)
      exact this.map (fun z => (z.1,some z.2)) (fun z hz => ⟨hz,fun h => absurd h (by omega),fun _ => rfl⟩) (fun _ => rfl) (fun _ => rfl) (fun _ => rfl)
  refine walk (tn [1] [.stop]) (by omega) ?_; intro A₀ R₀ h₀ sz0 tk0 a0 ad aD fin gd mm o
  exact tail_same a0 [0,0,0,0,0,0,0,0] key ad (by kernel_rfl) (by kernel_rfl) fin
theorem due_does {ml : Addr} (hD : D + 250 ≤ recursionLimit) (hw : 0 < w) (hw2 : w ≤ 100) (hh : 0 < h) (hh2 : h ≤ 100) (hl : h + w ≤ bs.length) (hl2 : bs.length ≤ sizeLine) (hrc : (rowsN bs h w h).length ≤ (colsN bs w w).length) :
    Does e.G D (.call (.ref 351) ⟨[.ref ml,.int (.ofNat h) th,.int (.ofNat w) tw],[]⟩) [(ml,lob (bs.map .bool) nm)] (fun z : Addr × List Value => Ints (natI (dueN bs h w)) z.2) (fun z => retV (.ref z.1)) (fun _ => [(ml,lob (bs.map .bool) nm)]) (fun z => [(z.1,lob z.2 z.2.length)]) := by
  refine walk (ts [1,0,5,5,4,4,3,3,0,0,0,3,1,1,1,1,1,1,1001,1] <| ts [1] <| ts [3,3,3,9,9,0,0,10,1,1,1,1,1,1,1001,1] <| ts [1] <| ts [3,3,3,13,13,0,0,0,0,13] <| ts [1,1,1,1,1,1,1001,1] <| ts [1] <| tn [3,3,3] []) (by omega) ?_; intro A₀ R₀ h₀ sz0 tk0 a0 ad aD fin gd mm o
  refine mm [0] (riter_does (r := (sz0 + 6)) (n := w) (t := tk0) (u := tw) (w := (tk0 + 1)) (by omega)) ?_; intro o ai0 sz1 tk1 _
  refine mm [2,1,0,3,4,5] (c1_all (C := ⟨ai0,sz1,sz1 + 1⟩) (X := ⟨sz0,sz0 + 3,sz0 + 1,sz0 + 2,sz0 + 5,sz0 + 4,ml,0,0⟩) (bs := bs) (nm := nm) (tw := tw) (by omega) hw hw2 (by omega) hl2) ?_; intro o z1 sz2 tk2 hz1
  refine mm [0] (riter_does (r := sz2) (n := h) (t := tk2) (u := th) (w := (tk2 + 1)) (by omega)) ?_; intro o ai2 sz3 tk3 _
  refine mm [2,1,0,4,4,8,4] (c2_all (C := ⟨ai2,sz3,sz3 + 1⟩) (X := ⟨sz0,sz0 + 3,sz0 + 1,sz0 + 2,sz0 + 5,sz0 + 4,ml,0,0⟩) (bs := bs) (nm := nm) (tw := tw) (th := th) (by omega) hh hh2 hl hl2) ?_; intro o z3 sz4 tk4 hz3
  refine mm [1] (len_does (l := sz3) (xs := z3.1) (n := z3.1.length) (m := (rowsN bs h w h).length) (by rw [hz3.len,natI_len]) (by have := rowsN_len bs h w h; omega)) ?_; intro o k4 sz5 tk5 _
  refine mm [0] (riter_does (r := sz5) (n := (rowsN bs h w h).length) (t := tk5) (u := k4) (w := (tk5 + 1)) (by have := rowsN_len bs h w h; omega)) ?_; intro o ai5 sz6 tk6 _
  refine meetT (D := D + 50) a0 aD [2,1,0,4,12,12,1,8] (c3_all (C := ⟨ai5,sz6,sz6 + 1⟩) (X := ⟨sz0,sz0 + 3,sz0 + 1,sz0 + 2,sz0 + 5,sz0 + 4,ml,sz3,sz1⟩) (rs := rowsN bs h w h) (cs := colsN bs w w) (rv := z3.1) (nr := z3.1.length) (cv := z1.1) (nc := z1.1.length) (tw := tw) (by omega) hw2 hz3 hz1 hrc (by have := colsN_len bs w w; omega)) (by omega) (by kernel_rfl) (by kernel_rfl) (fun _ => rfl) ?_; intro z6 sz7 tk7 hz6
  obtain ⟨zl,zb⟩ := z6
  cases zb with
  | none => exact ⟨tn [3] [],ret_good (sz6,zl) [13,1] hz6.1 fin rfl (by kernel_rfl) (by kernel_rfl)⟩
  | some p => exact ⟨tn [3,3,3] [],ret_good (sz6,zl) [13,1] hz6.1 fin rfl (by kernel_rfl) (by kernel_rfl)⟩

end
end Mine
namespace Mine
noncomputable def marksQ : Str := sOf [95,108,97,119,95,109,97,114,107,115,46,60,108,111,99,97,108,115,62,46]
noncomputable def marksC (w : World) (it fr : Addr) : Code := forOf (bodyAt w 346)[1]! it { scope := (fdAt w 346).scope,locals := fr,globals := 3,cells := [],qual := marksQ,func := some 346,code := .ref 345,frame := some fr }
noncomputable def mkF (K : Ky) (xl ml : Addr) (h w : Nat) (th tw : Tok) (b : Bnd2) : Obj := match b with
  | none => { cls := .type "frame", data := .dict ⟨[ent K.hh K.tt 0 [99,101,108,108,115] (.ref xl), ent K.hh K.tt 1 [104,105,103,104] (.int (.ofNat h) th), ent K.hh K.tt 2 [119,105,100,101] (.int (.ofNat w) tw), ent K.hh K.tt 3 [109,97,114,107,115] (.ref ml)]⟩ 4 }
  | some p => { cls := .type "frame", data := .dict ⟨[ent K.hh K.tt 0 [99,101,108,108,115] (.ref xl), ent K.hh K.tt 1 [104,105,103,104] (.int (.ofNat h) th), ent K.hh K.tt 2 [119,105,100,101] (.int (.ofNat w) tw), ent K.hh K.tt 3 [109,97,114,107,115] (.ref ml), ⟨p.1.1.1, .str (sOf [116]) p.1.1.2, p.1.2⟩, ⟨p.2.1.1, .str (sOf [109,111,114,101]) p.2.1.2, p.2.2⟩]⟩ 6 }
noncomputable def mkNext (xs : List Int) (h w : Nat) (bs : List Bool) : Bool :=
  decide (w - bs.count true = h + w - bs.length) || (decide (0 < w - bs.count true) && ((xs.getD bs.length 0).fmod 2 == 1))
noncomputable def marksN (xs : List Int) (h w : Nat) : Nat → List Bool
  | 0 => []
  | t + 1 => marksN xs h w t ++ [mkNext xs h w (marksN xs h w t)]
section
variable {e : Env0} {D : Nat} {K : Ky} {it ml fr xl : Addr} {h w i k nx : Nat} {th tw : Tok} {bs : List Bool} {xs : List Int} {xv : List Value} {b : Bnd2} {x : Int} {tx : Tok}
variable {α : Type} {ok : α → Prop} {res : α → Result} {post news : α → Led}
theorem marks_M1 (hD : D + 150 ≤ recursionLimit) (hc : bs.count true ≤ w) (hi : i < h + w) (h5 : w - bs.count true = h + w - i) (hn : (bs.map Value.bool).length ≤ sizeLine)
    (next : ∀ (g : (Int × Tok) × (Int × Tok)) (j1 j2 : Tok),Does e.G D (marksC e.w it fr) [(it,ritO (i + 1) (k)),(ml,lob (bs.map .bool ++ [.bool true]) (bs.length + 1)),(fr,mkF K xl ml h w th tw (some ((g.1,.int (.ofNat i) j1),(g.2,.int (.ofNat (w - bs.count true)) j2)))),(xl,lob xv nx)] ok res post news) :
    Does e.G D (marksC e.w it fr) [(it,ritO (i) (k + 1)),(ml,lob (bs.map .bool) (bs.length)),(fr,mkF K xl ml h w th tw b),(xl,lob xv nx)] ok res post news := by
  cases b
  all_goals
    refine walk (ts [1,1] <| ts [3,3,3,3,2,2,2,2,2] <| ts [] <| ts [3,3,3,1,1,1,1,3,3,3] <| ts [3] <| ts [1001] <| ts [1] <| ts [] <| tn [] []) (by omega) ?_; intro A₀ R₀ h₀ sz0 tk0 a0 ad aD fin gd mm o
    refine mm [0] (rnext_some (it := it) (i := i) (k := k)) ?_; intro o t0 sz1 tk1 _
    refine mm [1] (count_does (l := ml) (bs := bs) (n := bs.length) (c := bs.count true) rfl) ?_; intro o k1 sz2 tk2 _
    refine mm [] (subn_does (a := w) (b := (bs.count true)) (t := tw) (u := k1) (by omega)) ?_; intro o k2 sz3 tk3 _
    refine mm [] (iadd_does (a := .ofNat h) (b := .ofNat w) (r := .ofNat (h + w)) (t := th) (u := tw) rfl) ?_; intro o k3 sz4 tk4 _
    refine mm [] (subn_does (a := (h + w)) (b := i) (t := k3) (u := t0) (by omega)) ?_; intro o k4 sz5 tk5 _
    refine mm [] (ieq_does (a := .ofNat (w - bs.count true)) (b := .ofNat (h + w - i)) (c := true) (t := k2) (u := k4) (by rw [h5]; simp)) ?_; intro o _ sz6 tk6 _
    refine mm [0] (append_does (l := ml) (xs := bs.map .bool) (n := bs.length) (v := (.bool true)) hn) ?_; intro o _ sz7 tk7 _
    exact tail_same_w a0 [1,0,0,0] (fun o => (entOf (o.ob 2) 4,entOf (o.ob 2) 5)) (fun g => next g t0 k2) ad (by kernel_rfl) (by kernel_rfl) fin
theorem marks_M2 (hD : D + 150 ≤ recursionLimit) (hc : bs.count true ≤ w) (hi : i < h + w) (h5 : ¬ w - bs.count true = h + w - i) (h6 : ¬ 0 < w - bs.count true) (hn : (bs.map Value.bool).length ≤ sizeLine)
    (next : ∀ (g : (Int × Tok) × (Int × Tok)) (j1 j2 : Tok),Does e.G D (marksC e.w it fr) [(it,ritO (i + 1) (k)),(ml,lob (bs.map .bool ++ [.bool false]) (bs.length + 1)),(fr,mkF K xl ml h w th tw (some ((g.1,.int (.ofNat i) j1),(g.2,.int (.ofNat (w - bs.count true)) j2)))),(xl,lob xv nx)] ok res post news) :
    Does e.G D (marksC e.w it fr) [(it,ritO (i) (k + 1)),(ml,lob (bs.map .bool) (bs.length)),(fr,mkF K xl ml h w th tw b),(xl,lob xv nx)] ok res post news := by
  cases b
  all_goals
    refine walk (ts [1,1] <| ts [3,3,3,3,2,2,2,2,2] <| ts [] <| ts [3,3,3,1,1,1,1,3,3,3] <| ts [3] <| ts [1001] <| ts [3,1001] <| ts [1] <| ts [] <| tn [] []) (by omega) ?_; intro A₀ R₀ h₀ sz0 tk0 a0 ad aD fin gd mm o
    refine mm [0] (rnext_some (it := it) (i := i) (k := k)) ?_; intro o t0 sz1 tk1 _
    refine mm [1] (count_does (l := ml) (bs := bs) (n := bs.length) (c := bs.count true) rfl) ?_; intro o k1 sz2 tk2 _
    refine mm [] (subn_does (a := w) (b := (bs.count true)) (t := tw) (u := k1) (by omega)) ?_; intro o k2 sz3 tk3 _
    refine mm [] (iadd_does (a := .ofNat h) (b := .ofNat w) (r := .ofNat (h + w)) (t := th) (u := tw) rfl) ?_; intro o k3 sz4 tk4 _
    refine mm [] (subn_does (a := (h + w)) (b := i) (t := k3) (u := t0) (by omega)) ?_; intro o k4 sz5 tk5 _
    refine mm [] (ieq_does (a := .ofNat (w - bs.count true)) (b := .ofNat (h + w - i)) (c := false) (t := k2) (u := k4) (beq_eq_false_iff_ne.mpr fun e => h5 (Int.ofNat.inj e))) ?_; intro o _ sz6 tk6 _
    refine mm [] (igt_does (a := .ofNat (w - bs.count true)) (b := 0) (c := false) (t := k2) (u := tk6) (decide_eq_false (by show ¬ (0 : Int) < ((w - bs.count true : Nat) : Int); omega))) ?_; intro o _ sz7 tk7 _
    refine mm [0] (append_does (l := ml) (xs := bs.map .bool) (n := bs.length) (v := (.bool false)) hn) ?_; intro o _ sz8 tk8 _
    exact tail_same_w a0 [1,0,0,0] (fun o => (entOf (o.ob 2) 4,entOf (o.ob 2) 5)) (fun g => next g t0 k2) ad (by kernel_rfl) (by kernel_rfl) fin
theorem marks_M3 (hD : D + 150 ≤ recursionLimit) (hc : bs.count true ≤ w) (hi : i < h + w) (h5 : ¬ w - bs.count true = h + w - i) (h6 : 0 < w - bs.count true) (g7 : xv[i]? = some (.int x tx)) (q7 : xv.length ≤ sizeLine) (h9 : x.fmod 2 == 1) (hn : (bs.map Value.bool).length ≤ sizeLine)
    (next : ∀ (g : (Int × Tok) × (Int × Tok)) (j1 j2 : Tok),Does e.G D (marksC e.w it fr) [(it,ritO (i + 1) (k)),(ml,lob (bs.map .bool ++ [.bool true]) (bs.length + 1)),(fr,mkF K xl ml h w th tw (some ((g.1,.int (.ofNat i) j1),(g.2,.int (.ofNat (w - bs.count true)) j2)))),(xl,lob xv nx)] ok res post news) :
    Does e.G D (marksC e.w it fr) [(it,ritO (i) (k + 1)),(ml,lob (bs.map .bool) (bs.length)),(fr,mkF K xl ml h w th tw b),(xl,lob xv nx)] ok res post news := by
  cases b
  all_goals
    refine walk (ts [1,1] <| ts [3,3,3,3,2,2,2,2,2] <| ts [] <| ts [3,3,3,1,1,1,1,3,3,3] <| ts [3] <| ts [1001] <| ts [3,1001] <| ts [3,3,4,4,4,4] <| ts [] <| ts [1001] <| ts [2] <| ts [] <| tn [] []) (by omega) ?_; intro A₀ R₀ h₀ sz0 tk0 a0 ad aD fin gd mm o
    refine mm [0] (rnext_some (it := it) (i := i) (k := k)) ?_; intro o t0 sz1 tk1 _
    refine mm [1] (count_does (l := ml) (bs := bs) (n := bs.length) (c := bs.count true) rfl) ?_; intro o k1 sz2 tk2 _
    refine mm [] (subn_does (a := w) (b := (bs.count true)) (t := tw) (u := k1) (by omega)) ?_; intro o k2 sz3 tk3 _
    refine mm [] (iadd_does (a := .ofNat h) (b := .ofNat w) (r := .ofNat (h + w)) (t := th) (u := tw) rfl) ?_; intro o k3 sz4 tk4 _
    refine mm [] (subn_does (a := (h + w)) (b := i) (t := k3) (u := t0) (by omega)) ?_; intro o k4 sz5 tk5 _
    refine mm [] (ieq_does (a := .ofNat (w - bs.count true)) (b := .ofNat (h + w - i)) (c := false) (t := k2) (u := k4) (beq_eq_false_iff_ne.mpr fun e => h5 (Int.ofNat.inj e))) ?_; intro o _ sz6 tk6 _
    refine mm [] (igt_does (a := .ofNat (w - bs.count true)) (b := 0) (c := true) (t := k2) (u := tk6) (decide_eq_true (by show (0 : Int) < ((w - bs.count true : Nat) : Int); omega))) ?_; intro o _ sz7 tk7 _
    refine mm [3] (getit_does (l := xl) (xs := xv) (n := nx) (j := i) (u := t0) (v := .int x tx) g7 q7) ?_; intro o _ sz8 tk8 _
    refine mm [] (imod_does (a := x) (b := 2) (r := x.fmod 2) (t := tx) (u := tk8) ⟨rfl,by decide⟩) ?_; intro o k8 sz9 tk9 _
    refine mm [] (ieq_does (a := x.fmod 2) (b := (1)) (c := true) (t := k8) (u := tk9) h9) ?_; intro o _ sz10 tk10 _
    refine mm [1] (append_does (l := ml) (xs := bs.map .bool) (n := bs.length) (v := (.bool true)) hn) ?_; intro o _ sz11 tk11 _
    exact tail_same_w a0 [2,0,1,0] (fun o => (entOf (o.ob 3) 4,entOf (o.ob 3) 5)) (fun g => next g t0 k2) ad (by kernel_rfl) (by kernel_rfl) fin
theorem marks_M4 (hD : D + 150 ≤ recursionLimit) (hc : bs.count true ≤ w) (hi : i < h + w) (h5 : ¬ w - bs.count true = h + w - i) (h6 : 0 < w - bs.count true) (g7 : xv[i]? = some (.int x tx)) (q7 : xv.length ≤ sizeLine) (h9 : (x.fmod 2 == 1) = false) (hn : (bs.map Value.bool).length ≤ sizeLine)
    (next : ∀ (g : (Int × Tok) × (Int × Tok)) (j1 j2 : Tok),Does e.G D (marksC e.w it fr) [(it,ritO (i + 1) (k)),(ml,lob (bs.map .bool ++ [.bool false]) (bs.length + 1)),(fr,mkF K xl ml h w th tw (some ((g.1,.int (.ofNat i) j1),(g.2,.int (.ofNat (w - bs.count true)) j2)))),(xl,lob xv nx)] ok res post news) :
    Does e.G D (marksC e.w it fr) [(it,ritO (i) (k + 1)),(ml,lob (bs.map .bool) (bs.length)),(fr,mkF K xl ml h w th tw b),(xl,lob xv nx)] ok res post news := by
  cases b
  all_goals
    refine walk (ts [1,1] <| ts [3,3,3,3,2,2,2,2,2] <| ts [] <| ts [3,3,3,1,1,1,1,3,3,3] <| ts [3] <| ts [1001] <| ts [3,1001] <| ts [3,3,4,4,4,4] <| ts [] <| ts [1001] <| ts [2] <| ts [] <| tn [] []) (by omega) ?_; intro A₀ R₀ h₀ sz0 tk0 a0 ad aD fin gd mm o
    refine mm [0] (rnext_some (it := it) (i := i) (k := k)) ?_; intro o t0 sz1 tk1 _
    refine mm [1] (count_does (l := ml) (bs := bs) (n := bs.length) (c := bs.count true) rfl) ?_; intro o k1 sz2 tk2 _
    refine mm [] (subn_does (a := w) (b := (bs.count true)) (t := tw) (u := k1) (by omega)) ?_; intro o k2 sz3 tk3 _
    refine mm [] (iadd_does (a := .ofNat h) (b := .ofNat w) (r := .ofNat (h + w)) (t := th) (u := tw) rfl) ?_; intro o k3 sz4 tk4 _
    refine mm [] (subn_does (a := (h + w)) (b := i) (t := k3) (u := t0) (by omega)) ?_; intro o k4 sz5 tk5 _
    refine mm [] (ieq_does (a := .ofNat (w - bs.count true)) (b := .ofNat (h + w - i)) (c := false) (t := k2) (u := k4) (beq_eq_false_iff_ne.mpr fun e => h5 (Int.ofNat.inj e))) ?_; intro o _ sz6 tk6 _
    refine mm [] (igt_does (a := .ofNat (w - bs.count true)) (b := 0) (c := true) (t := k2) (u := tk6) (decide_eq_true (by show (0 : Int) < ((w - bs.count true : Nat) : Int); omega))) ?_; intro o _ sz7 tk7 _
    refine mm [3] (getit_does (l := xl) (xs := xv) (n := nx) (j := i) (u := t0) (v := .int x tx) g7 q7) ?_; intro o _ sz8 tk8 _
    refine mm [] (imod_does (a := x) (b := 2) (r := x.fmod 2) (t := tx) (u := tk8) ⟨rfl,by decide⟩) ?_; intro o k8 sz9 tk9 _
    refine mm [] (ieq_does (a := x.fmod 2) (b := (1)) (c := false) (t := k8) (u := tk9) h9) ?_; intro o _ sz10 tk10 _
    refine mm [1] (append_does (l := ml) (xs := bs.map .bool) (n := bs.length) (v := (.bool false)) hn) ?_; intro o _ sz11 tk11 _
    exact tail_same_w a0 [2,0,1,0] (fun o => (entOf (o.ob 3) 4,entOf (o.ob 3) 5)) (fun g => next g t0 k2) ad (by kernel_rfl) (by kernel_rfl) fin
theorem marks_end (hD : D + 150 ≤ recursionLimit) :
    Does e.G D (marksC e.w it fr) [(it,ritO (i) (0)),(ml,lob (bs.map .bool) (bs.length)),(fr,mkF K xl ml h w th tw b),(xl,lob xv nx)] (fun _ : Unit => True) (fun _ => .ok .next) (fun _ => [(it,ritO (i) (0)),(ml,lob (bs.map .bool) (bs.length)),(fr,mkF K xl ml h w th tw b),(xl,lob xv nx)]) (fun _ => []) := by
  cases b
  all_goals
    refine walk (tn [1,1,1,1,1,1] []) (by omega) ?_; intro A₀ R₀ h₀ sz0 tk0 a0 ad aD fin gd mm o
    exact ret_good () [2,2,2,2] trivial fin rfl
theorem marks_step (hD : D + 150 ≤ recursionLimit) (hc : bs.count true ≤ w) (hi : bs.length < h + w) (hx : Ints xs xv) (hxl : h + w ≤ xs.length) (hxs : xs.length ≤ 100)
    (next : ∀ p,Does e.G D (marksC e.w it fr) [(it,ritO (bs.length + 1) (k)),(ml,lob ((bs ++ [mkNext xs h w bs]).map .bool) ((bs ++ [mkNext xs h w bs]).length)),(fr,mkF K xl ml h w th tw (some p)),(xl,lob xv nx)] ok res post news) :
    Does e.G D (marksC e.w it fr) [(it,ritO (bs.length) (k + 1)),(ml,lob (bs.map .bool) (bs.length)),(fr,mkF K xl ml h w th tw b),(xl,lob xv nx)] ok res post news := by
  have s100 : (100 : Nat) ≤ sizeLine := by decide
  have hn : (bs.map Value.bool).length ≤ sizeLine := by rw [List.length_map]; omega
  have q7 : xv.length ≤ sizeLine := by rw [hx.len]; omega
  have ex : xs[bs.length]? = some (xs.getD bs.length 0) := by rw [List.getD_eq_getElem?_getD,List.getElem?_eq_getElem (by omega : bs.length < xs.length)]; rfl
  obtain ⟨tx,g7⟩ := hx.at ex
  by_cases h5 : w - bs.count true = h + w - bs.length
  · have e1 : mkNext xs h w bs = true := by simp [mkNext,h5]
    rw [e1] at next
    refine marks_M1 hD hc hi h5 hn fun g j1 j2 => ?_
    simpa using next ((g.1,.int (.ofNat bs.length) j1),(g.2,.int (.ofNat (w - bs.count true)) j2))
  · by_cases h6 : 0 < w - bs.count true
    · cases h9 : ((xs.getD bs.length 0).fmod 2 == 1) with
      | true =>
        have e1 : mkNext xs h w bs = true := by unfold mkNext; rw [h9]; simp [h6]
        rw [e1] at next
        refine marks_M3 hD hc hi h5 h6 g7 q7 h9 hn fun g j1 j2 => ?_
        simpa using next ((g.1,.int (.ofNat bs.length) j1),(g.2,.int (.ofNat (w - bs.count true)) j2))
      | false =>
        have e1 : mkNext xs h w bs = false := by unfold mkNext; rw [h9]; simp [h5]
        rw [e1] at next
        refine marks_M4 hD hc hi h5 h6 g7 q7 h9 hn fun g j1 j2 => ?_
        simpa using next ((g.1,.int (.ofNat bs.length) j1),(g.2,.int (.ofNat (w - bs.count true)) j2))
    · have e1 : mkNext xs h w bs = false := by unfold mkNext; rw [decide_eq_false h5,decide_eq_false h6]; rfl
      rw [e1] at next
      refine marks_M2 hD hc hi h5 h6 hn fun g j1 j2 => ?_
      simpa using next ((g.1,.int (.ofNat bs.length) j1),(g.2,.int (.ofNat (w - bs.count true)) j2))
theorem marksN_len (xs : List Int) (h w : Nat) : ∀ t,(marksN xs h w t).length = t
  | 0 => rfl
  | t + 1 => by simp [marksN,marksN_len xs h w t]
theorem marksN_count (xs : List Int) (h w : Nat) : ∀ t,t ≤ h + w → (marksN xs h w t).count true ≤ w ∧ w - (marksN xs h w t).count true ≤ h + w - t
  | 0,_ => by simp [marksN]
  | t + 1,ht => by
    have ih := marksN_count xs h w t (by omega)
    have hl := marksN_len xs h w t
    simp only [marksN,List.count_append]
    have key : mkNext xs h w (marksN xs h w t) = true ↔ (w - (marksN xs h w t).count true = h + w - t ∨ (0 < w - (marksN xs h w t).count true ∧ ((xs.getD t 0).fmod 2 == 1) = true)) := by
      unfold mkNext
      rw [hl]
      simp only [Bool.or_eq_true,Bool.and_eq_true,decide_eq_true_eq]
    cases hm : mkNext xs h w (marksN xs h w t) with
    | false =>
      have := (not_congr key).mp (by simp [hm])
      simp only [List.count_cons_of_ne (by decide : false ≠ true),List.count_nil]
      omega
    | true =>
      have := key.mp hm
      simp only [List.count_cons_self,List.count_nil]
      omega
theorem marksN_full (xs : List Int) (h w : Nat) : (marksN xs h w (h + w)).count true = w := by
  have := marksN_count xs h w (h + w) (Nat.le_refl _)
  omega
theorem marks_loop (hD : D + 150 ≤ recursionLimit) (hx : Ints xs xv) (hxl : h + w ≤ xs.length) (hxs : xs.length ≤ 100) : ∀ (k t : Nat) (b : Bnd2),t + k = h + w →
    Does e.G D (marksC e.w it fr) [(it,ritO (t) (k)),(ml,lob ((marksN xs h w t).map .bool) ((marksN xs h w t).length)),(fr,mkF K xl ml h w th tw b),(xl,lob xv nx)] (fun _ : Bnd2 => True) (fun _ => .ok .next) (fun b => [(it,ritO (h + w) (0)),(ml,lob ((marksN xs h w (h + w)).map .bool) ((marksN xs h w (h + w)).length)),(fr,mkF K xl ml h w th tw b),(xl,lob xv nx)]) (fun _ => []) := by
  intro k
  induction k with
  | zero =>
    intro t b ht
    have : t = h + w := by omega
    subst this
    exact (marks_end hD).map (fun _ => b) (fun _ _ => trivial) (fun _ => rfl) (fun _ => rfl) (fun _ => rfl)
  | succ k ih =>
    intro t b ht
    have hl := marksN_len xs h w t
    have := marks_step (e := e) (D := D) (K := K) (it := it) (ml := ml) (fr := fr) (xl := xl) (h := h) (w := w) (k := k) (nx := nx) (th := th) (tw := tw) (bs := marksN xs h w t) (xs := xs) (xv := xv) (b := b) hD (marksN_count xs h w t (by omega)).1 (by omega) hx hxl hxs (fun p => by
      have h2 := ih (t + 1) (some p) (by omega)
      rw [hl]
      exact h2)
    rw [hl] at this
    rw [hl]
    exact this
theorem marks_does (hD : D + 250 ≤ recursionLimit) (hx : Ints xs xv) (hxl : h + w ≤ xs.length) (hxs : xs.length ≤ 100) :
    Does e.G D (.call (.ref 346) ⟨[.ref xl,.int (.ofNat h) th,.int (.ofNat w) tw],[]⟩) [(xl,lob xv nx)] (fun _ : Addr => True) (fun a => retV (.ref a)) (fun _ => [(xl,lob xv nx)]) (fun a => [(a,lob ((marksN xs h w (h + w)).map .bool) (marksN xs h w (h + w)).length)]) := by
  refine walk (ts [1,0,1,1,1,1,1,1,0,2,2,0,0,2,2] <| ts [1,1,1,1,1,1,1001,1] <| ts [1] <| tn [3] []) (by omega) ?_; intro A₀ R₀ h₀ sz0 tk0 a0 ad aD fin gd mm o
  refine mm [] (iadd_does (a := (.ofNat h)) (b := (.ofNat w)) (r := .ofNat (h + w)) (t := th) (u := tw) rfl) ?_; intro o k0 sz1 tk1 _
  refine mm [0] (riter_does (r := sz1) (n := h + w) (t := tk1) (u := k0) (w := (tk1 + 1)) (by omega)) ?_; intro o ai1 sz2 tk2 _
  refine meet_v (D := D + 50) a0 aD [0,1,1,1] (fun o => (⟨fun i => (entOf (o.ob 3) i).1,fun i => (entOf (o.ob 3) i).2⟩ : Ky)) (fun K => marks_loop (K := K) (it := ai1) (ml := sz0 + 1) (fr := sz0) (xl := xl) (nx := nx) (th := th) (tw := tw) (by omega) hx hxl hxs (h + w) 0 none (by omega)) (by omega) (by kernel_rfl) (by kernel_rfl) (fun _ => rfl) ?_; intro o z sz3 tk3 _
  cases z
  all_goals
    exact ret_good (sz0 + 1) [3,1] trivial fin rfl

end
end Mine
namespace Mine
noncomputable def ordQ : Str := sOf [95,108,97,119,95,111,114,100,101,114,46,60,108,111,99,97,108,115,62,46]
noncomputable def kN : List Nat := [107]
noncomputable def ordS (w : World) : Stmt := (bodyAt w 339)[1]!
noncomputable def ordA (w : World) : Expr := valOf (forBody (ordS w))[0]!
noncomputable def ordB (w : World) : Expr := valOf (forBody (ordS w))[1]!
noncomputable def frA (ord : List Nat) (w k : Nat) : Bool := !ord.contains k && (decide (k < w) || ord.contains (k - w))
noncomputable def frB (ord : List Nat) (w k : Nat) : Bool := (k % w == 0) || ord.contains (k - 1)
theorem natI_has (ord : List Nat) (k : Nat) : (natI ord).contains (.ofNat k) = ord.contains k := by
  induction ord with
  | nil => rfl
  | cons a r ih =>
    simp only [natI,List.map_cons,List.contains_cons] at ih ⊢
    rw [ih]
    congr 1
    by_cases h : k = a
    · subst h; simp
    · rw [beq_eq_false_iff_ne.mpr h,beq_eq_false_iff_ne.mpr (fun e => h (Int.ofNat.inj e))]
noncomputable def ordAC (e : Env0) (C : Cx) (fr cw co : Addr) : Code := compL (ordA e.w) C fr 338 ordQ [(sOf [119,105,100,101],cw),(sOf [111,114,100,101,114],co)]
noncomputable def ordAS (e : Env0) (C : Cx) (fr cw co : Addr) : Code := compS (ordA e.w) C fr 338 ordQ [(sOf [119,105,100,101],cw),(sOf [111,114,100,101,114],co)]
noncomputable def ordBC (e : Env0) (C : Cx) (fr cw co : Addr) : Code := compL (ordB e.w) C fr 338 ordQ [(sOf [119,105,100,101],cw),(sOf [111,114,100,101,114],co)]
noncomputable def ordBS (e : Env0) (C : Cx) (fr cw co : Addr) : Code := compS (ordB e.w) C fr 338 ordQ [(sOf [119,105,100,101],cw),(sOf [111,114,100,101,114],co)]
section
variable {e : Env0} {D : Nat} {C : Cx} {fr cw co ol ll : Addr} {w i k c n nl : Nat} {tw : Tok} {ord ks : List Nat} {ov lv ys : List Value} {b : Bnd}
theorem ord_a1 {α : Type} {ok : α → Prop} {res : α → Result} {post news : α → Led} (hD : D + 150 ≤ recursionLimit) (ho : Ints (natI ord) ov) (h1 : ord.contains i = true)
    (next : ∀ g j1,Does e.G D (ordAC e C fr cw co) ([(C.it,ritO (i + 1) (k)),(C.acc,lob (ys) (ys.length)),(C.dc,dcO kN (some (g,.int (.ofNat i) j1)))] ++ [(cw,cellO (.int (.ofNat w) tw)),(co,cellO (.ref ol)),(ol,lob ov ov.length)]) ok res post news) :
    Does e.G D (ordAC e C fr cw co) ([(C.it,ritO (i) (k + 1)),(C.acc,lob (ys) (ys.length)),(C.dc,dcO kN b)] ++ [(cw,cellO (.int (.ofNat w) tw)),(co,cellO (.ref ol)),(ol,lob ov ov.length)]) ok res post news := by
  cases b
  all_goals
    refine walk (ts [1,1] <| ts [3,3,3,5,6,6,6] <| ts [] <| tn [] []) (by omega) ?_; intro A₀ R₀ h₀ sz0 tk0 a0 ad aD fin gd mm o
    refine mm [0] (rnext_some (it := C.it) (i := i) (k := k)) ?_; intro o t0 sz1 tk1 _
    refine mm [5] (contains_does (l := ol) (xs := ov) (n := ov.length) (L := natI ord) (k := .ofNat i) (u := t0) (b := true) ho (by rw [natI_has]; exact h1)) ?_; intro o _ sz2 tk2 _
    exact tail_same_w a0 [1,1,1,1,1,0] (fun o => entOf (o.ob 3) 0) (fun g => next g t0) ad (by kernel_rfl) (by kernel_rfl) fin
theorem ord_a2 {α : Type} {ok : α → Prop} {res : α → Result} {post news : α → Led} (hD : D + 150 ≤ recursionLimit) (ho : Ints (natI ord) ov) (h1 : ord.contains i = false) (h2 : i < w) (hn : ys.length ≤ sizeLine)
    (next : ∀ g j1,Does e.G D (ordAC e C fr cw co) ([(C.it,ritO (i + 1) (k)),(C.acc,lob (ys ++ [.int (.ofNat i) j1]) (ys.length + 1)),(C.dc,dcO kN (some (g,.int (.ofNat i) j1)))] ++ [(cw,cellO (.int (.ofNat w) tw)),(co,cellO (.ref ol)),(ol,lob ov ov.length)]) ok res post news) :
    Does e.G D (ordAC e C fr cw co) ([(C.it,ritO (i) (k + 1)),(C.acc,lob (ys) (ys.length)),(C.dc,dcO kN b)] ++ [(cw,cellO (.int (.ofNat w) tw)),(co,cellO (.ref ol)),(ol,lob ov ov.length)]) ok res post news := by
  cases b
  all_goals
    refine walk (ts [1,1] <| ts [3,3,3,5,6,6,6] <| ts [4,5,1001] <| ts [4,3] <| ts [] <| tn [] []) (by omega) ?_; intro A₀ R₀ h₀ sz0 tk0 a0 ad aD fin gd mm o
    refine mm [0] (rnext_some (it := C.it) (i := i) (k := k)) ?_; intro o t0 sz1 tk1 _
    refine mm [5] (contains_does (l := ol) (xs := ov) (n := ov.length) (L := natI ord) (k := .ofNat i) (u := t0) (b := false) ho (by rw [natI_has]; exact h1)) ?_; intro o _ sz2 tk2 _
    refine mm [] (ilt_does (a := .ofNat i) (b := .ofNat w) (c := true) (t := t0) (u := tw) (decide_eq_true (by show (i : Int) < (w : Int); omega))) ?_; intro o _ sz3 tk3 _
    refine mm [2] (append_does (l := C.acc) (xs := ys) (n := ys.length) (v := .int (.ofNat i) t0) hn) ?_; intro o _ sz4 tk4 _
    exact tail_same_w a0 [2,0,1,1,1,0] (fun o => entOf (o.ob 3) 0) (fun g => next g t0) ad (by kernel_rfl) (by kernel_rfl) fin
theorem ord_a3 {α : Type} {ok : α → Prop} {res : α → Result} {post news : α → Led} (hD : D + 150 ≤ recursionLimit) (ho : Ints (natI ord) ov) (h1 : ord.contains i = false) (h2 : ¬ i < w) (h4 : ord.contains (i - w) = true) (hn : ys.length ≤ sizeLine)
    (next : ∀ g j1,Does e.G D (ordAC e C fr cw co) ([(C.it,ritO (i + 1) (k)),(C.acc,lob (ys ++ [.int (.ofNat i) j1]) (ys.length + 1)),(C.dc,dcO kN (some (g,.int (.ofNat i) j1)))] ++ [(cw,cellO (.int (.ofNat w) tw)),(co,cellO (.ref ol)),(ol,lob ov ov.length)]) ok res post news) :
    Does e.G D (ordAC e C fr cw co) ([(C.it,ritO (i) (k + 1)),(C.acc,lob (ys) (ys.length)),(C.dc,dcO kN b)] ++ [(cw,cellO (.int (.ofNat w) tw)),(co,cellO (.ref ol)),(ol,lob ov ov.length)]) ok res post news := by
  cases b
  all_goals
    refine walk (ts [1,1] <| ts [3,3,3,5,6,6,6] <| ts [4,5,1001] <| ts [4,5] <| ts [6,1,1,1] <| ts [4,3] <| ts [] <| tn [] []) (by omega) ?_; intro A₀ R₀ h₀ sz0 tk0 a0 ad aD fin gd mm o
    refine mm [0] (rnext_some (it := C.it) (i := i) (k := k)) ?_; intro o t0 sz1 tk1 _
    refine mm [5] (contains_does (l := ol) (xs := ov) (n := ov.length) (L := natI ord) (k := .ofNat i) (u := t0) (b := false) ho (by rw [natI_has]; exact h1)) ?_; intro o _ sz2 tk2 _
    refine mm [] (ilt_does (a := .ofNat i) (b := .ofNat w) (c := false) (t := t0) (u := tw) (decide_eq_false (by show ¬ (i : Int) < (w : Int); omega))) ?_; intro o _ sz3 tk3 _
    refine mm [] (subn_does (a := i) (b := w) (t := t0) (u := tw) (by omega)) ?_; intro o k3 sz4 tk4 _
    refine mm [0] (contains_does (l := ol) (xs := ov) (n := ov.length) (L := natI ord) (k := .ofNat (i - w)) (u := k3) (b := true) ho (by rw [natI_has]; exact h4)) ?_; intro o _ sz5 tk5 _
    refine mm [2] (append_does (l := C.acc) (xs := ys) (n := ys.length) (v := .int (.ofNat i) t0) hn) ?_; intro o _ sz6 tk6 _
    exact tail_same_w a0 [2,0,1,1,1,0] (fun o => entOf (o.ob 3) 0) (fun g => next g t0) ad (by kernel_rfl) (by kernel_rfl) fin
theorem ord_a4 {α : Type} {ok : α → Prop} {res : α → Result} {post news : α → Led} (hD : D + 150 ≤ recursionLimit) (ho : Ints (natI ord) ov) (h1 : ord.contains i = false) (h2 : ¬ i < w) (h4 : ord.contains (i - w) = false)
    (next : ∀ g j1,Does e.G D (ordAC e C fr cw co) ([(C.it,ritO (i + 1) (k)),(C.acc,lob (ys) (ys.length)),(C.dc,dcO kN (some (g,.int (.ofNat i) j1)))] ++ [(cw,cellO (.int (.ofNat w) tw)),(co,cellO (.ref ol)),(ol,lob ov ov.length)]) ok res post news) :
    Does e.G D (ordAC e C fr cw co) ([(C.it,ritO (i) (k + 1)),(C.acc,lob (ys) (ys.length)),(C.dc,dcO kN b)] ++ [(cw,cellO (.int (.ofNat w) tw)),(co,cellO (.ref ol)),(ol,lob ov ov.length)]) ok res post news := by
  cases b
  all_goals
    refine walk (ts [1,1] <| ts [3,3,3,5,6,6,6] <| ts [4,5,1001] <| ts [4,5] <| ts [6,1,1,1] <| ts [] <| tn [] []) (by omega) ?_; intro A₀ R₀ h₀ sz0 tk0 a0 ad aD fin gd mm o
    refine mm [0] (rnext_some (it := C.it) (i := i) (k := k)) ?_; intro o t0 sz1 tk1 _
    refine mm [5] (contains_does (l := ol) (xs := ov) (n := ov.length) (L := natI ord) (k := .ofNat i) (u := t0) (b := false) ho (by rw [natI_has]; exact h1)) ?_; intro o _ sz2 tk2 _
    refine mm [] (ilt_does (a := .ofNat i) (b := .ofNat w) (c := false) (t := t0) (u := tw) (decide_eq_false (by show ¬ (i : Int) < (w : Int); omega))) ?_; intro o _ sz3 tk3 _
    refine mm [] (subn_does (a := i) (b := w) (t := t0) (u := tw) (by omega)) ?_; intro o k3 sz4 tk4 _
    refine mm [0] (contains_does (l := ol) (xs := ov) (n := ov.length) (L := natI ord) (k := .ofNat (i - w)) (u := k3) (b := false) ho (by rw [natI_has]; exact h4)) ?_; intro o _ sz5 tk5 _
    exact tail_same_w a0 [1,1,1,1,1,0] (fun o => entOf (o.ob 3) 0) (fun g => next g t0) ad (by kernel_rfl) (by kernel_rfl) fin
theorem ord_a9 (hD : D + 150 ≤ recursionLimit) :
    Does e.G D (ordAC e C fr cw co) ([(C.it,ritO (i) (0)),(C.acc,lob (ys) (ys.length)),(C.dc,dcO kN b)] ++ [(cw,cellO (.int (.ofNat w) tw)),(co,cellO (.ref ol)),(ol,lob ov ov.length)]) (fun _ : Unit => True) (fun _ => .ok .next) (fun _ => ([(C.it,ritO (i) (0)),(C.acc,lob (ys) (ys.length)),(C.dc,dcO kN b)] ++ [(cw,cellO (.int (.ofNat w) tw)),(co,cellO (.ref ol)),(ol,lob ov ov.length)])) (fun _ => []) := by
  cases b
  all_goals
    refine walk (tn [1,1,1,1,1,1] []) (by omega) ?_; intro A₀ R₀ h₀ sz0 tk0 a0 ad aD fin gd mm o
    exact ret_good () [2,2,2,2,2,2] trivial fin rfl
theorem ord_b1 {α : Type} {ok : α → Prop} {res : α → Result} {post news : α → Led} {tc : Tok} (hD : D + 150 ≤ recursionLimit) (ho : Ints (natI ord) ov) (hw : w ≠ 0) (hv : lv[i]? = some (.int (.ofNat c) tc)) (h2 : c % w = 0) (hn : ys.length ≤ sizeLine)
    (next : ∀ g,Does e.G D (ordBC e C fr cw co) ([(C.it,litO ll (i + 1)),(ll,lob lv nl),(C.acc,lob (ys ++ [.int (.ofNat c) tc]) (ys.length + 1)),(C.dc,dcO kN (some (g,.int (.ofNat c) tc)))] ++ [(cw,cellO (.int (.ofNat w) tw)),(co,cellO (.ref ol)),(ol,lob ov ov.length)]) ok res post news) :
    Does e.G D (ordBC e C fr cw co) ([(C.it,litO ll (i)),(ll,lob lv nl),(C.acc,lob (ys) (ys.length)),(C.dc,dcO kN b)] ++ [(cw,cellO (.int (.ofNat w) tw)),(co,cellO (.ref ol)),(ol,lob ov ov.length)]) ok res post news := by
  cases b
  all_goals
    refine walk (ts [1,1] <| ts [4,4,4,5] <| ts [1001] <| ts [4,3] <| ts [] <| tn [] []) (by omega) ?_; intro A₀ R₀ h₀ sz0 tk0 a0 ad aD fin gd mm o
    refine mm [0,0] (lnext_some (it := C.it) (l := ll) (xs := lv) (n := nl) (i := i) (v := .int (.ofNat c) tc) (by omega) hv) ?_; intro o _ sz1 tk1 _
    refine mm [] (imod_does (a := .ofNat c) (b := .ofNat w) (r := .ofNat (c % w)) (t := tc) (u := tw) (mod_ok hw)) ?_; intro o k1 sz2 tk2 _
    refine mm [] (ieq_does (a := .ofNat (c % w)) (b := 0) (c := true) (t := k1) (u := tk2) (by rw [h2]; rfl)) ?_; intro o _ sz3 tk3 _
    refine mm [2] (append_does (l := C.acc) (xs := ys) (n := ys.length) (v := .int (.ofNat c) tc) hn) ?_; intro o _ sz4 tk4 _
    exact tail_same_w a0 [1,1,0,0,0,0,0] (fun o => entOf (o.ob 3) 0) (fun g => next g) ad (by kernel_rfl) (by kernel_rfl) fin
theorem ord_b2 {α : Type} {ok : α → Prop} {res : α → Result} {post news : α → Led} {tc : Tok} (hD : D + 150 ≤ recursionLimit) (ho : Ints (natI ord) ov) (hw : w ≠ 0) (hv : lv[i]? = some (.int (.ofNat c) tc)) (h2 : ¬ c % w = 0) (h4 : ord.contains (c - 1) = true) (hn : ys.length ≤ sizeLine)
    (next : ∀ g,Does e.G D (ordBC e C fr cw co) ([(C.it,litO ll (i + 1)),(ll,lob lv nl),(C.acc,lob (ys ++ [.int (.ofNat c) tc]) (ys.length + 1)),(C.dc,dcO kN (some (g,.int (.ofNat c) tc)))] ++ [(cw,cellO (.int (.ofNat w) tw)),(co,cellO (.ref ol)),(ol,lob ov ov.length)]) ok res post news) :
    Does e.G D (ordBC e C fr cw co) ([(C.it,litO ll (i)),(ll,lob lv nl),(C.acc,lob (ys) (ys.length)),(C.dc,dcO kN b)] ++ [(cw,cellO (.int (.ofNat w) tw)),(co,cellO (.ref ol)),(ol,lob ov ov.length)]) ok res post news := by
  cases b
  all_goals
    refine walk (ts [1,1] <| ts [4,4,4,5] <| ts [1001] <| ts [4] <| ts [6,7,7,7] <| ts [5,4] <| ts [] <| tn [] []) (by omega) ?_; intro A₀ R₀ h₀ sz0 tk0 a0 ad aD fin gd mm o
    refine mm [0,0] (lnext_some (it := C.it) (l := ll) (xs := lv) (n := nl) (i := i) (v := .int (.ofNat c) tc) (by omega) hv) ?_; intro o _ sz1 tk1 _
    refine mm [] (imod_does (a := .ofNat c) (b := .ofNat w) (r := .ofNat (c % w)) (t := tc) (u := tw) (mod_ok hw)) ?_; intro o k1 sz2 tk2 _
    refine mm [] (ieq_does (a := .ofNat (c % w)) (b := 0) (c := false) (t := k1) (u := tk2) (beq_eq_false_iff_ne.mpr fun e => h2 (Int.ofNat.inj e))) ?_; intro o _ sz3 tk3 _
    refine mm [] (subn_does (a := c) (b := 1) (t := tc) (u := tk3) (by have hc : c ≠ 0 := fun e => h2 (by rw [e]; simp); omega)) ?_; intro o k3 sz4 tk4 _
    refine mm [6] (contains_does (l := ol) (xs := ov) (n := ov.length) (L := natI ord) (k := .ofNat (c - 1)) (u := k3) (b := true) ho (by rw [natI_has]; exact h4)) ?_; intro o _ sz5 tk5 _
    refine mm [3] (append_does (l := C.acc) (xs := ys) (n := ys.length) (v := .int (.ofNat c) tc) hn) ?_; intro o _ sz6 tk6 _
    exact tail_same_w a0 [2,2,0,1,1,1,0] (fun o => entOf (o.ob 4) 0) (fun g => next g) ad (by kernel_rfl) (by kernel_rfl) fin
theorem ord_b3 {α : Type} {ok : α → Prop} {res : α → Result} {post news : α → Led} {tc : Tok} (hD : D + 150 ≤ recursionLimit) (ho : Ints (natI ord) ov) (hw : w ≠ 0) (hv : lv[i]? = some (.int (.ofNat c) tc)) (h2 : ¬ c % w = 0) (h4 : ord.contains (c - 1) = false)
    (next : ∀ g,Does e.G D (ordBC e C fr cw co) ([(C.it,litO ll (i + 1)),(ll,lob lv nl),(C.acc,lob (ys) (ys.length)),(C.dc,dcO kN (some (g,.int (.ofNat c) tc)))] ++ [(cw,cellO (.int (.ofNat w) tw)),(co,cellO (.ref ol)),(ol,lob ov ov.length)]) ok res post news) :
    Does e.G D (ordBC e C fr cw co) ([(C.it,litO ll (i)),(ll,lob lv nl),(C.acc,lob (ys) (ys.length)),(C.dc,dcO kN b)] ++ [(cw,cellO (.int (.ofNat w) tw)),(co,cellO (.ref ol)),(ol,lob ov ov.length)]) ok res post news := by
  cases b
  all_goals
    refine walk (ts [1,1] <| ts [4,4,4,5] <| ts [1001] <| ts [4] <| ts [6,7,7,7] <| ts [] <| tn [] []) (by omega) ?_; intro A₀ R₀ h₀ sz0 tk0 a0 ad aD fin gd mm o
    refine mm [0,0] (lnext_some (it := C.it) (l := ll) (xs := lv) (n := nl) (i := i) (v := .int (.ofNat c) tc) (by omega) hv) ?_; intro o _ sz1 tk1 _
    refine mm [] (imod_does (a := .ofNat c) (b := .ofNat w) (r := .ofNat (c % w)) (t := tc) (u := tw) (mod_ok hw)) ?_; intro o k1 sz2 tk2 _
    refine mm [] (ieq_does (a := .ofNat (c % w)) (b := 0) (c := false) (t := k1) (u := tk2) (beq_eq_false_iff_ne.mpr fun e => h2 (Int.ofNat.inj e))) ?_; intro o _ sz3 tk3 _
    refine mm [] (subn_does (a := c) (b := 1) (t := tc) (u := tk3) (by have hc : c ≠ 0 := fun e => h2 (by rw [e]; simp); omega)) ?_; intro o k3 sz4 tk4 _
    refine mm [6] (contains_does (l := ol) (xs := ov) (n := ov.length) (L := natI ord) (k := .ofNat (c - 1)) (u := k3) (b := false) ho (by rw [natI_has]; exact h4)) ?_; intro o _ sz5 tk5 _
    exact tail_same_w a0 [1,1,1,1,1,1,0] (fun o => entOf (o.ob 4) 0) (fun g => next g) ad (by kernel_rfl) (by kernel_rfl) fin
theorem ord_b9 (hD : D + 150 ≤ recursionLimit) (hv : lv[i]? = none) :
    Does e.G D (ordBC e C fr cw co) ([(C.it,litO ll (i)),(ll,lob lv nl),(C.acc,lob (ys) (ys.length)),(C.dc,dcO kN b)] ++ [(cw,cellO (.int (.ofNat w) tw)),(co,cellO (.ref ol)),(ol,lob ov ov.length)]) (fun _ : Unit => True) (fun _ => .ok .next) (fun _ => ([(C.it,litE (i)),(ll,lob lv nl),(C.acc,lob (ys) (ys.length)),(C.dc,dcO kN b)] ++ [(cw,cellO (.int (.ofNat w) tw)),(co,cellO (.ref ol)),(ol,lob ov ov.length)])) (fun _ => []) := by
  cases b
  all_goals
    refine walk (ts [1,1] <| tn [1] []) (by omega) ?_; intro A₀ R₀ h₀ sz0 tk0 a0 ad aD fin gd mm o
    refine mm [0,0] (lnext_end (it := C.it) (l := ll) (xs := lv) (n := nl) (i := i) (by omega) hv) ?_; intro o x sz1 tk1 _
    exact ret_good () [2,2,2,2,2,2,2] trivial fin rfl
noncomputable def freeA (ord : List Nat) (n w : Nat) : List Nat := (List.range n).filter (frA ord w)
noncomputable def freeB (ord : List Nat) (n w : Nat) : List Nat := (freeA ord n w).filter (frB ord w)
theorem ordA_all {n : Nat} (hD : D + 150 ≤ recursionLimit) (ho : Ints (natI ord) ov) (h0 : 0 < n) (hn : n ≤ 100) :
    Does e.G D (ordAS e C fr cw co) ([(C.it,ritO (0) (n)),(C.acc,lob ([]) (0)),(C.dc,dcO kN none)] ++ [(cw,cellO (.int (.ofNat w) tw)),(co,cellO (.ref ol)),(ol,lob ov ov.length)]) (fun z : List Value × ((Int × Tok) × Value) => Ints (natI (freeA ord n w)) z.1) (fun _ => .ok .next) (fun z => ([(C.it,ritO (n) (0)),(C.acc,lob (z.1) (z.1.length)),(C.dc,dcO kN (some z.2))] ++ [(cw,cellO (.int (.ofNat w) tw)),(co,cellO (.ref ol)),(ol,lob ov ov.length)])) (fun _ => []) := by
  have s100 : (100 : Nat) ≤ sizeLine := by decide
  have key := comp_some (G := e.G) (D := D) (c := ordAC e C fr cw co) (L := fun i ys b => ([(C.it,ritO (i) (n - i)),(C.acc,lob (ys) (ys.length)),(C.dc,dcO kN b)] ++ [(cw,cellO (.int (.ofNat w) tw)),(co,cellO (.ref ol)),(ol,lob ov ov.length)])) (P := fun ys b => ([(C.it,ritO (n) (0)),(C.acc,lob (ys) (ys.length)),(C.dc,dcO kN b)] ++ [(cw,cellO (.int (.ofNat w) tw)),(co,cellO (.ref ol)),(ol,lob ov ov.length)])) (N := n) (fun i ys => Ints (natI ((List.range i).filter (frA ord w))) ys) h0 rfl
    (fun i ys b hi hv _ _ _ _ _ next => by
      have hlen : ys.length ≤ sizeLine := by
        rw [hv.len,natI_len]
        have := List.length_filter_le (frA ord w) (List.range i)
        simp at this
        omega
      have ek : n - i = (n - (i + 1)) + 1 := by omega
      rw [ek]
      have hit : frA ord w i = true → ∀ j1,Ints (natI ((List.range (i + 1)).filter (frA ord w))) (ys ++ [.int (.ofNat i) j1]) := by
        intro h j1
        rw [List.range_succ,List.filter_append]
        simp only [List.filter,h]
        rw [natI_snoc]
        exact hv.snoc
      have miss : frA ord w i = false → Ints (natI ((List.range (i + 1)).filter (frA ord w))) ys := by
        intro h
        rw [List.range_succ,List.filter_append]
        simp only [List.filter,h,List.append_nil]
        exact hv
      cases h1 : ord.contains i with
      | true =>
        refine ord_a1 hD ho h1 fun g j1 => ?_
        have hnx := next ys (g,.int (.ofNat i) j1) (miss (by simp only [frA,h1,Bool.not_true,Bool.false_and]))
        simpa using hnx
      | false =>
        by_cases h2 : i < w
        · refine ord_a2 hD ho h1 h2 hlen fun g j1 => ?_
          have hnx := next (ys ++ [.int (.ofNat i) j1]) (g,.int (.ofNat i) j1) (hit (by simp only [frA,h1,h2,decide_true,Bool.true_or,Bool.not_false,Bool.and_true]) j1)
          simpa using hnx
        · cases h4 : ord.contains (i - w) with
          | true =>
            refine ord_a3 hD ho h1 h2 h4 hlen fun g j1 => ?_
            have hnx := next (ys ++ [.int (.ofNat i) j1]) (g,.int (.ofNat i) j1) (hit (by simp only [frA,h1,h4,Bool.or_true,Bool.not_false,Bool.and_true]) j1)
            simpa using hnx
          | false =>
            refine ord_a4 hD ho h1 h2 h4 fun g j1 => ?_
            have hnx := next ys (g,.int (.ofNat i) j1) (miss (by simp only [frA,h1,h4,h2,decide_false,Bool.or_false,Bool.and_false]))
            simpa using hnx)
    (fun ys b hv => by rw [Nat.sub_self]; exact ord_a9 hD)
  refine walk (tn [1] [.stop]) (by omega) ?_; intro A₀ R₀ h₀ sz0 tk0 a0 ad aD fin gd mm o
  exact tail_same a0 [0,0,0,0,0,0] key ad (by kernel_rfl) (by kernel_rfl) fin
theorem ordB_all (hD : D + 150 ≤ recursionLimit) (ho : Ints (natI ord) ov) (hw : w ≠ 0) (hl : Ints (natI ks) lv) (h0 : 0 < ks.length) (hn : ks.length ≤ 100) :
    Does e.G D (ordBS e C fr cw co) ([(C.it,litO ll (0)),(ll,lob lv nl),(C.acc,lob ([]) (0)),(C.dc,dcO kN none)] ++ [(cw,cellO (.int (.ofNat w) tw)),(co,cellO (.ref ol)),(ol,lob ov ov.length)]) (fun z : List Value × ((Int × Tok) × Value) => Ints (natI (ks.filter (frB ord w))) z.1) (fun _ => .ok .next) (fun z => ([(C.it,litE (ks.length)),(ll,lob lv nl),(C.acc,lob (z.1) (z.1.length)),(C.dc,dcO kN (some z.2))] ++ [(cw,cellO (.int (.ofNat w) tw)),(co,cellO (.ref ol)),(ol,lob ov ov.length)])) (fun _ => []) := by
  have s100 : (100 : Nat) ≤ sizeLine := by decide
  have key := comp_some (G := e.G) (D := D) (c := ordBC e C fr cw co) (L := fun i ys b => ([(C.it,litO ll (i)),(ll,lob lv nl),(C.acc,lob (ys) (ys.length)),(C.dc,dcO kN b)] ++ [(cw,cellO (.int (.ofNat w) tw)),(co,cellO (.ref ol)),(ol,lob ov ov.length)])) (P := fun ys b => ([(C.it,litE (ks.length)),(ll,lob lv nl),(C.acc,lob (ys) (ys.length)),(C.dc,dcO kN b)] ++ [(cw,cellO (.int (.ofNat w) tw)),(co,cellO (.ref ol)),(ol,lob ov ov.length)])) (N := ks.length) (fun i ys => Ints (natI ((ks.take i).filter (frB ord w))) ys) h0 rfl
    (fun i ys b hi hv _ _ _ _ _ next => by
      have hlen : ys.length ≤ sizeLine := by
        rw [hv.len,natI_len]
        have := List.length_filter_le (frB ord w) (ks.take i)
        simp only [List.length_take] at this
        omega
      have hc : ks[i]? = some (ks[i]) := List.getElem?_eq_getElem hi
      obtain ⟨tc,hv2⟩ := hl.at (natI_at hc)
      generalize ks[i] = c at hc hv2
      have hit : frB ord w c = true → Ints (natI ((ks.take (i + 1)).filter (frB ord w))) (ys ++ [.int (.ofNat c) tc]) := by
        intro h
        rw [List.take_add_one,hc,List.filter_append]
        simp only [Option.toList,List.filter,h]
        rw [natI_snoc]
        exact hv.snoc
      have miss : frB ord w c = false → Ints (natI ((ks.take (i + 1)).filter (frB ord w))) ys := by
        intro h
        rw [List.take_add_one,hc,List.filter_append]
        simp only [Option.toList,List.filter,h,List.append_nil]
        exact hv
      by_cases h2 : c % w = 0
      · refine ord_b1 hD ho hw hv2 h2 hlen fun g => ?_
        have hnx := next (ys ++ [.int (.ofNat c) tc]) (g,.int (.ofNat c) tc) (hit (by simp only [frB,h2]; rfl))
        simpa using hnx
      · have h2' : (c % w == 0) = false := beq_eq_false_iff_ne.mpr h2
        cases h4 : ord.contains (c - 1) with
        | true =>
          refine ord_b2 hD ho hw hv2 h2 h4 hlen fun g => ?_
          have hnx := next (ys ++ [.int (.ofNat c) tc]) (g,.int (.ofNat c) tc) (hit (by simp only [frB,h2',h4,Bool.or_true]))
          simpa using hnx
        | false =>
          refine ord_b3 hD ho hw hv2 h2 h4 fun g => ?_
          have hnx := next ys (g,.int (.ofNat c) tc) (miss (by simp only [frB,h2',h4,Bool.or_false]))
          simpa using hnx)
    (fun ys b hv => ord_b9 hD (by rw [List.getElem?_eq_none_iff,hl.len,natI_len]; exact Nat.le_refl _))
  simp only [List.take_length] at key
  refine walk (tn [1] [.stop]) (by omega) ?_; intro A₀ R₀ h₀ sz0 tk0 a0 ad aD fin gd mm o
  exact tail_same a0 [0,0,0,0,0,0,0] key ad (by kernel_rfl) (by kernel_rfl) fin
noncomputable def ordC (w : World) (it fr cw co : Addr) : Code := forOf (ordS w) it { scope := (fdAt w 339).scope,locals := fr,globals := 3,cells := [(sOf [111,114,100,101,114],co),(sOf [119,105,100,101],cw)],qual := ordQ,func := some 339,code := .ref 338,frame := some fr }
noncomputable def ordF (K : Ky) (h : Nat) (xl : Addr) (th : Tok) (b : Bnd2) : Obj := match b with
  | none => { cls := .type "frame", data := .dict ⟨[ent K.hh K.tt 0 [99,101,108,108,115] (.ref xl), ent K.hh K.tt 1 [104,105,103,104] (.int (.ofNat h) th)]⟩ 2 }
  | some p => { cls := .type "frame", data := .dict ⟨[ent K.hh K.tt 0 [99,101,108,108,115] (.ref xl), ent K.hh K.tt 1 [104,105,103,104] (.int (.ofNat h) th), ⟨p.1.1.1, .str (sOf [116]) p.1.1.2, p.1.2⟩, ⟨p.2.1.1, .str (sOf [102,114,101,101]) p.2.1.2, p.2.2⟩]⟩ 4 }
noncomputable def ordNext (x : Int) (ord : List Nat) (n w : Nat) : Nat := (freeB ord n w).getD ((x.fdiv 2).fmod (.ofNat (freeB ord n w).length)).toNat 0
variable {K : Ky} {it xl : Addr} {h nx : Nat} {th : Tok} {xv : List Value} {b2 : Bnd2} {x : Int} {tx : Tok}
theorem ord_turn {α : Type} {ok : α → Prop} {res : α → Result} {post news : α → Led} (hD : D + 200 ≤ recursionLimit) (ho : Ints (natI ord) ov) (hh : h ≤ 100) (hw0 : w ≠ 0) (hn0 : 0 < h * w) (hn : h * w ≤ 100) (hB : freeB ord (h * w) w ≠ [])
    (hx : xv[i]? = some (.int x tx)) (hxl : xv.length ≤ sizeLine) (hov : ov.length ≤ sizeLine)
    (next : ∀ (g : (Int × Tok) × (Int × Tok)) (j1 j2 : Tok) (f : Addr),Does e.G D (ordC e.w it fr cw co) [(it,ritO (i + 1) (k)),(fr,ordF K h xl th (some ((g.1,.int (.ofNat i) j1),(g.2,.ref f)))),(xl,lob xv nx),(cw,cellO (.int (.ofNat w) tw)),(co,cellO (.ref ol)),(ol,lob (ov ++ [.int (.ofNat (ordNext x ord (h * w) w)) j2]) (ov.length + 1))] ok res post news) :
    Does e.G D (ordC e.w it fr cw co) [(it,ritO (i) (k + 1)),(fr,ordF K h xl th b2),(xl,lob xv nx),(cw,cellO (.int (.ofNat w) tw)),(co,cellO (.ref ol)),(ol,lob (ov) (ov.length))] ok res post news := by
  have hA2 : (freeA ord (h * w) w).length ≤ 100 := by
    have := List.length_filter_le (frA ord w) (List.range (h * w))
    simp only [List.length_range] at this
    exact Nat.le_trans this hn
  have hB2 : (freeB ord (h * w) w).length ≤ 100 := Nat.le_trans (List.length_filter_le _ _) hA2
  have hB0 : 0 < (freeB ord (h * w) w).length := List.length_pos_iff.mpr hB
  have hA : 0 < (freeA ord (h * w) w).length := Nat.lt_of_lt_of_le hB0 (List.length_filter_le _ _)
  have em : (Int.ofNat (freeB ord (h * w) w).length) = (((freeB ord (h * w) w).length : Nat) : Int) := rfl
  have h1 : 0 ≤ (x.fdiv 2).fmod (.ofNat (freeB ord (h * w) w).length) := Int.fmod_nonneg_of_pos _ (by rw [em]; omega)
  have h2 : (x.fdiv 2).fmod (.ofNat (freeB ord (h * w) w).length) < .ofNat (freeB ord (h * w) w).length := Int.fmod_lt_of_pos _ (by rw [em]; omega)
  have hm : ModOk (x.fdiv 2) (.ofNat (freeB ord (h * w) w).length) (.ofNat ((x.fdiv 2).fmod (.ofNat (freeB ord (h * w) w).length)).toNat) :=
    ⟨(Int.toNat_of_nonneg h1).symm,by rw [em]; omega⟩
  have hj : (freeB ord (h * w) w)[((x.fdiv 2).fmod (.ofNat (freeB ord (h * w) w).length)).toNat]? = some (ordNext x ord (h * w) w) := by
    unfold ordNext
    rw [List.getD_eq_getElem?_getD,List.getElem?_eq_getElem (by rw [em] at h1 h2 ⊢; omega)]
    rfl
  cases b2
  all_goals
    refine walk (ts [1,1] <| ts [2,2,0,0,2,4] <| ts [1,1,1,1,1,1,1001,1] <| ts [1] <| ts [9,9,3,3,3,9,2,2,1001,2,1] <| ts [12,12,4,4,4,6,7,7,7,7,12,12,12,13,13,13,13] <| ts [] <| ts [0,0,13] <| ts [] <| ts [1,1,1,1] <| ts [8] <| ts [] <| tn [] []) (by omega) ?_; intro A₀ R₀ h₀ sz0 tk0 a0 ad aD fin gd mm o
    refine mm [0] (rnext_some (it := it) (i := i) (k := k)) ?_; intro o t0 sz1 tk1 _
    refine mm [] (imul_does (a := .ofNat h) (b := .ofNat w) (r := .ofNat (h * w)) (t := th) (u := tw) ⟨rfl,IntMulOk.of_left (bits_le (Nat.lt_of_le_of_lt hh (by decide)))⟩) ?_; intro o k1 sz2 tk2 _
    refine mm [0] (riter_does (r := sz2) (n := h * w) (t := tk2) (u := k1) (w := (tk2 + 1)) (by omega)) ?_; intro o ai2 sz3 tk3 _
    refine mm [2,1,0,4,4,4] (ordA_all (C := ⟨ai2,sz3,sz3 + 1⟩) (fr := fr) (cw := cw) (co := co) (ol := ol) (w := w) (tw := tw) (ord := ord) (ov := ov) (n := h * w) (by omega) ho hn0 hn) ?_; intro o z3 sz4 tk4 hz3
    refine mm [2,3,1,0,2,2,2] (ordB_all (C := ⟨sz4,sz4 + 1,sz4 + 2⟩) (fr := fr) (cw := cw) (co := co) (ol := ol) (ll := sz3) (nl := z3.1.length) (w := w) (tw := tw) (ord := ord) (ks := freeA ord (h * w) w) (ov := ov) (lv := z3.1) (by omega) ho hw0 hz3 hA hA2) ?_; intro o z4 sz5 tk5 hz4
    have hz4l : z4.1.length ≤ sizeLine := by
      rw [hz4.len,natI_len]
      exact Nat.le_trans hB2 (by decide)
    obtain ⟨tc,hz9⟩ := hz4.at (natI_at hj)
    refine mm [12] (getit_does (l := xl) (xs := xv) (n := nx) (j := i) (u := t0) (v := .int x tx) hx hxl) ?_; intro o _ sz6 tk6 _
    refine mm [] (idiv_does (a := x) (b := 2) (r := x.fdiv 2) (t := tx) (u := tk6) ⟨rfl,by decide,short_div (n := 2) (by decide)⟩) ?_; intro o k6 sz7 tk7 _
    refine mm [3] (len_does (l := (sz4 + 1)) (xs := z4.1) (n := z4.1.length) (m := (freeB ord (h * w) w).length) (by rw [hz4.len,natI_len]; rfl) (Nat.lt_of_le_of_lt hB2 (by decide))) ?_; intro o k7 sz8 tk8 _
    refine mm [] (imod_does (a := x.fdiv 2) (b := .ofNat (freeB ord (h * w) w).length) (r := .ofNat ((x.fdiv 2).fmod (.ofNat (freeB ord (h * w) w).length)).toNat) (t := k6) (u := k7) hm) ?_; intro o k8 sz9 tk9 _
    refine mm [0] (getit_does (l := (sz4 + 1)) (xs := z4.1) (n := z4.1.length) (j := ((x.fdiv 2).fmod (.ofNat (freeB ord (h * w) w).length)).toNat) (u := k8) (v := .int (.ofNat (ordNext x ord (h * w) w)) tc) hz9 hz4l) ?_; intro o _ sz10 tk10 _
    refine mm [7] (append_does (l := ol) (xs := ov) (n := ov.length) (v := .int (.ofNat (ordNext x ord (h * w) w)) tc) hov) ?_; intro o _ sz11 tk11 _
    exact tail_same_w a0 [11,11,2,5,5,0] (fun o => (entOf (o.ob 12) 2,entOf (o.ob 12) 3)) (fun g => next g t0 tc (sz4 + 1)) ad (by kernel_rfl) (by kernel_rfl) fin
theorem ord_end (hD : D + 150 ≤ recursionLimit) :
    Does e.G D (ordC e.w it fr cw co) [(it,ritO (i) (0)),(fr,ordF K h xl th b2),(xl,lob xv nx),(cw,cellO (.int (.ofNat w) tw)),(co,cellO (.ref ol)),(ol,lob (ov) (ov.length))] (fun _ : Unit => True) (fun _ => .ok .next) (fun _ => [(it,ritO (i) (0)),(fr,ordF K h xl th b2),(xl,lob xv nx),(cw,cellO (.int (.ofNat w) tw)),(co,cellO (.ref ol)),(ol,lob (ov) (ov.length))]) (fun _ => []) := by
  cases b2
  all_goals
    refine walk (tn [1,1,1,1,1,1] []) (by omega) ?_; intro A₀ R₀ h₀ sz0 tk0 a0 ad aD fin gd mm o
    exact ret_good () [2,2,2,2,2,2] trivial fin rfl
noncomputable def orderN (xs : List Int) (n w : Nat) : Nat → List Nat
  | 0 => []
  | t + 1 => orderN xs n w t ++ [ordNext (xs.getD t 0) (orderN xs n w t) n w]
theorem orderN_len (xs : List Int) (n w : Nat) : ∀ t,(orderN xs n w t).length = t
  | 0 => rfl
  | t + 1 => by simp [orderN,orderN_len xs n w t]
variable {xs : List Int}
theorem ord_loop (hD : D + 200 ≤ recursionLimit) (hh : h ≤ 100) (hw0 : w ≠ 0) (hn0 : 0 < h * w) (hn : h * w ≤ 100) (hB : ∀ t,t < h * w → freeB (orderN xs (h * w) w t) (h * w) w ≠ [])
    (hx : Ints xs xv) (hxl : h * w ≤ xs.length) (hxs : xs.length ≤ 100) : ∀ (k t : Nat) (ov : List Value) (b2 : Bnd2),t + k = h * w → Ints (natI (orderN xs (h * w) w t)) ov →
    Does e.G D (ordC e.w it fr cw co) [(it,ritO (t) (k)),(fr,ordF K h xl th b2),(xl,lob xv nx),(cw,cellO (.int (.ofNat w) tw)),(co,cellO (.ref ol)),(ol,lob (ov) (ov.length))] (fun z : List Value × Bnd2 => Ints (natI (orderN xs (h * w) w (h * w))) z.1) (fun _ => .ok .next) (fun z => [(it,ritO (h * w) (0)),(fr,ordF K h xl th z.2),(xl,lob xv nx),(cw,cellO (.int (.ofNat w) tw)),(co,cellO (.ref ol)),(ol,lob (z.1) (z.1.length))]) (fun _ => []) := by
  intro k
  induction k with
  | zero =>
    intro t ov b2 ht ho
    have : t = h * w := by omega
    subst this
    exact (ord_end (by omega)).map (fun _ => (ov,b2)) (fun _ _ => ho) (fun _ => rfl) (fun _ => rfl) (fun _ => rfl)
  | succ k ih =>
    intro t ov b2 ht ho
    have s100 : (100 : Nat) ≤ sizeLine := by decide
    have ex : xs[t]? = some (xs.getD t 0) := by rw [List.getD_eq_getElem?_getD,List.getElem?_eq_getElem (by omega : t < xs.length)]; rfl
    obtain ⟨tx,hx2⟩ := hx.at ex
    refine ord_turn hD ho hh hw0 hn0 hn (hB t (by omega)) hx2 (by rw [hx.len]; omega) (by rw [ho.len,natI_len,orderN_len]; omega) fun g j1 j2 f => ?_
    have h2 := ih (t + 1) (ov ++ [.int (.ofNat (ordNext (xs.getD t 0) (orderN xs (h * w) w t) (h * w) w)) j2]) (some ((g.1,.int (.ofNat t) j1),(g.2,.ref f))) (by omega) (by simp only [orderN]; rw [natI_snoc]; exact ho.snoc)
    simpa using h2
theorem order_does (hD : D + 300 ≤ recursionLimit) (hh : h ≤ 100) (hw0 : w ≠ 0) (hn0 : 0 < h * w) (hn : h * w ≤ 100) (hB : ∀ t,t < h * w → freeB (orderN xs (h * w) w t) (h * w) w ≠ [])
    (hx : Ints xs xv) (hxl : h * w ≤ xs.length) (hxs : xs.length ≤ 100) :
    Does e.G D (.call (.ref 339) ⟨[.ref xl,.int (.ofNat h) th,.int (.ofNat w) tw],[]⟩) [(xl,lob xv nx)] (fun z : Addr × List Value => Ints (natI (orderN xs (h * w) w (h * w))) z.2) (fun z => retV (.ref z.1)) (fun _ => [(xl,lob xv nx)]) (fun z => [(z.1,lob z.2 z.2.length)]) := by
  refine walk (ts [1,0,3,3,3,3,2,2,0,2,2,0,0,4,3] <| ts [1,1,1,1,1,1,1001,1] <| ts [1] <| tn [5] []) (by omega) ?_; intro A₀ R₀ h₀ sz0 tk0 a0 ad aD fin gd mm o
  refine mm [] (imul_does (a := (.ofNat h)) (b := (.ofNat w)) (r := .ofNat (h * w)) (t := th) (u := tw) ⟨rfl,IntMulOk.of_left (bits_le (Nat.lt_of_le_of_lt hh (by decide)))⟩) ?_; intro o k0 sz1 tk1 _
  refine mm [0] (riter_does (r := sz1) (n := h * w) (t := tk1) (u := k0) (w := (tk1 + 1)) (by omega)) ?_; intro o ai1 sz2 tk2 _
  refine meet_v (D := D + 50) a0 aD [0,4,4,3,2,1] (fun o => (⟨fun i => (entOf (o.ob 5) i).1,fun i => (entOf (o.ob 5) i).2⟩ : Ky)) (fun K => ord_loop (K := K) (it := ai1) (fr := sz0) (xl := xl) (nx := nx) (cw := sz0 + 1) (co := sz0 + 2) (ol := sz0 + 3) (th := th) (tw := tw) (by omega) hh hw0 hn0 hn hB hx hxl hxs (h * w) 0 [] none (by omega) rfl) (by omega) (by kernel_rfl) (by kernel_rfl) (fun _ => rfl) ?_; intro o z sz3 tk3 hz
  obtain ⟨zv,zb⟩ := z
  cases zb
  all_goals
    exact ret_good (sz0 + 3,zv) [2,4] hz fin rfl

end
end Mine
namespace Mine
noncomputable def kid : Expr → Nat → Expr
  | .BoolOp _ vs _,i => vs[i]!
  | .BinOp l _ r _,i => match i with | 0 => l | _ => r
  | .UnaryOp _ x _,_ => x
  | .IfExp t b o _,i => match i with | 0 => t | 1 => b | _ => o
  | .Compare l _ cs _,i => match i with | 0 => l | i + 1 => cs[i]!
  | .Call f as _ _,i => match i with | 0 => f | i + 1 => as[i]!
  | .Attribute v _ _,_ => v
  | .Subscript v s _,i => match i with | 0 => v | _ => s
  | .List es _,i => es[i]!
  | .Tuple es _ _,i => es[i]!
  | .ListComp e gs _ _,i => match i with | 0 => e | i + 1 => (gs[i]!).iter
  | _,_ => default
noncomputable def atE : Expr → List Nat → Expr
  | e,[] => e
  | e,i :: is => atE (kid e i) is
noncomputable def testOf : Stmt → Expr
  | .If t _ _ _ => t
  | _ => default
noncomputable def exprOf : Stmt → Expr
  | .Expr e _ => e
  | .Assign _ v _ => v
  | .Return (some e) _ => e
  | .If t _ _ _ => t
  | .For _ it _ _ _ => it
  | _ => default
noncomputable def lawB (w : World) : List Stmt := bodyAt w 356
end Mine
namespace Mine
theorem hundred : (100 : Nat) ≤ sizeLine := by decide
theorem comp_map {G : Gc} {D : Nat} {c : Code} {L : Nat → List Value → Bnd → Led} {P : List Value → Bnd → Led} {ss : List (List Nat)} (h1 : ss.length ≤ 100)
    (turn : ∀ i ys b x,ss[i]? = some x → ys.length ≤ sizeLine → ∀ {α : Type} {ok : α → Prop} {res : α → Result} {post news : α → Led},(∀ j p,Does G D c (L (i + 1) (ys ++ [.str (sOf x) j]) (some p)) ok res post news) → Does G D c (L i ys b) ok res post news)
    (fin : ∀ ys b,Does G D c (L ss.length ys b) (fun _ : Unit => True) (fun _ => .ok .next) (fun _ => P ys b) (fun _ => [])) :
    Does G D c (L 0 [] none) (fun z : List Value × Bnd => Strs ss z.1 ∧ (0 < ss.length → z.2.isSome = true) ∧ (ss.length = 0 → z.2 = none)) (fun _ => .ok .next) (fun z => P z.1 z.2) (fun _ => []) := by
  rcases Nat.eq_zero_or_pos ss.length with h0 | h0
  · have e : ss = [] := List.length_eq_zero_iff.mp h0
    subst e
    exact (fin [] none).map (fun _ => ([],none)) (fun _ _ => ⟨rfl,fun h => absurd h (Nat.lt_irrefl _),fun _ => rfl⟩) (fun _ => rfl) (fun _ => rfl) (fun _ => rfl)
  · have := comp_fold (G := G) (D := D) (c := c) (L := L) (P := P) (N := ss.length) (fun i ys => Strs (ss.take i) ys)
      (fun i ys b hi hv _ _ _ _ _ next => by
        have hx : ss[i]? = some ss[i] := List.getElem?_eq_getElem hi
        have hl := hv.len
        simp only [List.length_take] at hl
        refine turn i ys b ss[i] hx (Nat.le_trans (by omega) hundred) fun j p => ?_
        exact next _ p (by rw [List.take_add_one,hx]; exact Strs.snoc hv))
      (fun ys b _ => fin ys b) ss.length 0 [] none (by omega) rfl
    refine this.weaken fun z hz => ⟨by simpa using hz.1,fun _ => hz.2 (.inl h0),fun h => absurd h (by omega)⟩
noncomputable def lawQ : Str := sOf [108,97,119,46,60,108,111,99,97,108,115,62,46]
noncomputable def lawL (e : Env0) (x : World → Expr) (C : Cx) (fr : Addr) (cells : List (Str × Addr)) : Code := compL (x e.w) C fr 355 lawQ cells
noncomputable def lawS (e : Env0) (x : World → Expr) (C : Cx) (fr : Addr) (cells : List (Str × Addr)) : Code := compS (x e.w) C fr 355 lawQ cells
theorem map_at {α β : Type} {f : α → β} {l : List α} {i : Nat} {y : β} (h : (l.map f)[i]? = some y) : ∃ x,l[i]? = some x ∧ y = f x := by
  rw [List.getElem?_map] at h
  cases hx : l[i]? with
  | none => rw [hx] at h; cases h
  | some x => rw [hx] at h; exact ⟨x,rfl,(Option.some.inj h).symm⟩
end Mine
namespace Mine
noncomputable def lowC (a : Addr) (low : Nat) (t : Tok) : Addr × Obj := (a,cellO (.int (.ofNat low) t))
noncomputable def xWords (w : World) : Expr := atE (exprOf (lawB w)[5]!) []
noncomputable def xSpots (w : World) : Expr := atE (exprOf (lawB w)[6]!) []
noncomputable def xText (w : World) : Expr := atE (exprOf (lawB w)[7]!) [1]
noncomputable def xShown (w : World) : Expr := atE (exprOf (lawB w)[8]!) [1]
noncomputable def xOrdw (w : World) : Expr := atE (exprOf (lawB w)[12]!) [1,0]
noncomputable def xOrds (w : World) : Expr := atE (exprOf (lawB w)[12]!) [1,1]
noncomputable def xExp (w : World) : Expr := atE (exprOf (lawB w)[15]!) [1,1]
noncomputable def xDuew (w : World) : Expr := atE (exprOf (forBody (lawB w)[23]!)[10]!) [1,0,1]
section
variable {e : Env0} {D : Nat} {C : Cx} {fr cl cb cw cs ll sl : Addr} {i k j low base w nl ns : Nat} {tl tb tw tk : Tok} {ys lv sv : List Value} {ks : List Nat} {bs : List Bool} {ss : List (List Nat)} {x : List Nat} {tx : Tok} {b : Bnd}
theorem words_turn {α : Type} {ok : α → Prop} {res : α → Result} {post news : α → Led} (hD : D + 350 ≤ recursionLimit) (hp : low + i < 33) (hn : ys.length ≤ sizeLine)
    (next : ∀ g j1 j2,Does e.G D (lawL e xWords C fr [(sOf [108,111,119],cl)]) ([(C.it,ritO (i + 1) (k)),(C.acc,lob (ys ++ [.str (sOf (word (low + i))) j2]) (ys.length + 1)),(C.dc,dcO [107] (some (g,.int (.ofNat i) j1)))] ++ [(cl,cellO (.int (.ofNat low) tl))]) ok res post news) :
    Does e.G D (lawL e xWords C fr [(sOf [108,111,119],cl)]) ([(C.it,ritO (i) (k + 1)),(C.acc,lob (ys) (ys.length)),(C.dc,dcO [107] b)] ++ [(cl,cellO (.int (.ofNat low) tl))]) ok res post news := by
  cases b
  all_goals
    refine walk (ts [1,1] <| ts [3,3,0,4,3] <| ts [0] <| ts [2] <| ts [] <| tn [] []) (by omega) ?_; intro A₀ R₀ h₀ sz0 tk0 a0 ad aD fin gd mm o
    refine mm [0] (rnext_some (it := C.it) (i := i) (k := k)) ?_; intro o t0 sz1 tk1 _
    refine mm [] (iadd_does (a := .ofNat low) (b := .ofNat i) (r := .ofNat (low + i)) (t := tl) (u := t0) rfl) ?_; intro o k1 sz2 tk2 _
    refine mm [] (word_does (p := low + i) (t := k1) (by omega) hp) ?_; intro o k2 sz3 tk3 _
    refine mm [1] (append_does (l := C.acc) (xs := ys) (n := ys.length) (v := .str (sOf (word (low + i))) k2) hn) ?_; intro o _ sz4 tk4 _
    exact tail_same_w a0 [1,0,0,0] (fun o => entOf (o.ob 2) 0) (fun g => next g t0 k2) ad (by kernel_rfl) (by kernel_rfl) fin
theorem words_end (hD : D + 350 ≤ recursionLimit) :
    Does e.G D (lawL e xWords C fr [(sOf [108,111,119],cl)]) ([(C.it,ritO (i) (0)),(C.acc,lob (ys) (ys.length)),(C.dc,dcO [107] b)] ++ [(cl,cellO (.int (.ofNat low) tl))]) (fun _ : Unit => True) (fun _ => .ok .next) (fun _ => ([(C.it,ritO (i) (0)),(C.acc,lob (ys) (ys.length)),(C.dc,dcO [107] b)] ++ [(cl,cellO (.int (.ofNat low) tl))])) (fun _ => []) := by
  cases b
  all_goals
    refine walk (tn [1,1,1,1,1,1] []) (by omega) ?_; intro A₀ R₀ h₀ sz0 tk0 a0 ad aD fin gd mm o
    exact ret_good () [2,2,2,2] trivial fin rfl
theorem oct_two (a b : Nat) : (oct a ++ oct b).length ≤ sizeLine := by
  have := oct_len a
  have := oct_len b
  rw [List.length_append]
  exact Nat.le_trans (by omega : _ ≤ 6) (by decide)
theorem spots_turn {α : Type} {ok : α → Prop} {res : α → Result} {post news : α → Led} (hD : D + 350 ≤ recursionLimit) (hw : w ≠ 0) (hw2 : w ≤ 100) (h1 : base + i / w < 262144) (h2 : base + i % w < 262144) (hn : ys.length ≤ sizeLine)
    (next : ∀ g j1 j2,Does e.G D (lawL e xSpots C fr [(sOf [119,105,100,101],cw),(sOf [98,97,115,101],cb)]) ([(C.it,ritO (i + 1) (k)),(C.acc,lob (ys ++ [.str (sOf (oct (base + i / w) ++ oct (base + i % w))) j2]) (ys.length + 1)),(C.dc,dcO [107] (some (g,.int (.ofNat i) j1)))] ++ [(cw,cellO (.int (.ofNat w) tw)),(cb,cellO (.int (.ofNat base) tb))]) ok res post news) :
    Does e.G D (lawL e xSpots C fr [(sOf [119,105,100,101],cw),(sOf [98,97,115,101],cb)]) ([(C.it,ritO (i) (k + 1)),(C.acc,lob (ys) (ys.length)),(C.dc,dcO [107] b)] ++ [(cw,cellO (.int (.ofNat w) tw)),(cb,cellO (.int (.ofNat base) tb))]) ok res post news := by
  cases b
  all_goals
    refine walk (ts [1,1] <| ts [3,3,0,5,3,4] <| ts [] <| ts [0] <| ts [0,5,3,4] <| ts [] <| ts [0] <| ts [] <| ts [2] <| ts [] <| tn [] []) (by omega) ?_; intro A₀ R₀ h₀ sz0 tk0 a0 ad aD fin gd mm o
    refine mm [0] (rnext_some (it := C.it) (i := i) (k := k)) ?_; intro o t0 sz1 tk1 _
    refine mm [] (idiv_does (a := .ofNat i) (b := .ofNat w) (r := .ofNat (i / w)) (t := t0) (u := tw) (div_ok hw (Nat.lt_of_le_of_lt hw2 (by decide)))) ?_; intro o k1 sz2 tk2 _
    refine mm [] (iadd_does (a := .ofNat base) (b := .ofNat (i / w)) (r := .ofNat (base + i / w)) (t := tb) (u := k1) rfl) ?_; intro o k2 sz3 tk3 _
    refine mm [] (octets_does (N := base + i / w) (t := k2) (by omega) h1) ?_; intro o k3 sz4 tk4 _
    refine mm [] (imod_does (a := .ofNat i) (b := .ofNat w) (r := .ofNat (i % w)) (t := t0) (u := tw) (mod_ok hw)) ?_; intro o k4 sz5 tk5 _
    refine mm [] (iadd_does (a := .ofNat base) (b := .ofNat (i % w)) (r := .ofNat (base + i % w)) (t := tb) (u := k4) rfl) ?_; intro o k5 sz6 tk6 _
    refine mm [] (octets_does (N := base + i % w) (t := k5) (by omega) h2) ?_; intro o k6 sz7 tk7 _
    refine mm [] (adds_does (x := oct (base + i / w)) (t := k3) (y := oct (base + i % w)) (u := k6) (oct_two _ _)) ?_; intro o k7 sz8 tk8 _
    refine mm [1] (append_does (l := C.acc) (xs := ys) (n := ys.length) (v := .str (sOf (oct (base + i / w) ++ oct (base + i % w))) k7) hn) ?_; intro o _ sz9 tk9 _
    exact tail_same_w a0 [1,0,0,0,0] (fun o => entOf (o.ob 2) 0) (fun g => next g t0 k7) ad (by kernel_rfl) (by kernel_rfl) fin
theorem spots_end (hD : D + 350 ≤ recursionLimit) :
    Does e.G D (lawL e xSpots C fr [(sOf [119,105,100,101],cw),(sOf [98,97,115,101],cb)]) ([(C.it,ritO (i) (0)),(C.acc,lob (ys) (ys.length)),(C.dc,dcO [107] b)] ++ [(cw,cellO (.int (.ofNat w) tw)),(cb,cellO (.int (.ofNat base) tb))]) (fun _ : Unit => True) (fun _ => .ok .next) (fun _ => ([(C.it,ritO (i) (0)),(C.acc,lob (ys) (ys.length)),(C.dc,dcO [107] b)] ++ [(cw,cellO (.int (.ofNat w) tw)),(cb,cellO (.int (.ofNat base) tb))])) (fun _ => []) := by
  cases b
  all_goals
    refine walk (tn [1,1,1,1,1,1] []) (by omega) ?_; intro A₀ R₀ h₀ sz0 tk0 a0 ad aD fin gd mm o
    exact ret_good () [2,2,2,2,2] trivial fin rfl
theorem word_short : ∀ p,p < 33 → (word p).length ≤ 30 := by decide +kernel
theorem pfq_one_bits : ∀ p,p < 32 → pfq 32 (2 ^ p) = [word p] := by decide +kernel
theorem pfq_32 : pfq 32 (2 ^ 32) = [word 32] := by decide +kernel
theorem pretty_one {p : Nat} {t : Tok} (hD : D + 250 ≤ recursionLimit) (hp : p < 33) :
    Does e.G D (.call (.ref 88) ⟨[.int (.ofNat (2 ^ p)) t],[]⟩) [] (fun _ : Tok => True) (fun k => retV (.str (sOf (word p)) k)) (fun _ => []) (fun _ => []) := by
  have e1 : pfq 32 (2 ^ p) = [word p] := by
    by_cases h : p < 32
    · exact pfq_one_bits p h
    · have : p = 32 := by omega
      subst this
      exact pfq_32
  have hl := word_short p hp
  have hF : 2 ^ p < 2 ^ 34 := Nat.pow_lt_pow_right (by decide) (by omega)
  have := pretty_does (e := e) (D := D) (F := 2 ^ p) (t := t) hD hF (by
    rw [e1]
    refine ⟨?_,Nat.le_trans hl (by decide)⟩
    simp only [List.map_cons,List.map_nil]
    show decide (_ > sizeLine) = false
    refine decide_eq_false ?_
    simp [sOf_len]
    exact Nat.le_trans (by omega : _ ≤ 32) (by decide))
  rw [e1] at this
  exact this
theorem text_turn {α : Type} {ok : α → Prop} {res : α → Result} {post news : α → Led} (hD : D + 350 ≤ recursionLimit) (hv : lv[i]? = some (.int (.ofNat j) tk)) (hp : low + j < 33) (hs : sv[j]? = some (.str (sOf x) tx)) (hsl : sv.length ≤ sizeLine) (hxl : x.length ≤ 10) (hwl : (word (low + j)).length ≤ 30) (s100 : 100 ≤ sizeLine) (hn : ys.length ≤ sizeLine)
    (next : ∀ g j2,Does e.G D (lawL e xText C fr [(sOf [115,112,111,116,115],cs),(sOf [108,111,119],cl)]) ([(C.it,litO ll (i + 1)),(ll,lob lv nl),(C.acc,lob (ys ++ [.str (sOf (word (low + j) ++ [32] ++ x ++ [10])) j2]) (ys.length + 1)),(C.dc,dcO [107] (some (g,.int (.ofNat j) tk)))] ++ [(cs,cellO (.ref sl)),(cl,cellO (.int (.ofNat low) tl)),(sl,lob sv ns)]) ok res post news) :
    Does e.G D (lawL e xText C fr [(sOf [115,112,111,116,115],cs),(sOf [108,111,119],cl)]) ([(C.it,litO ll (i)),(ll,lob lv nl),(C.acc,lob (ys) (ys.length)),(C.dc,dcO [107] b)] ++ [(cs,cellO (.ref sl)),(cl,cellO (.int (.ofNat low) tl)),(sl,lob sv ns)]) ok res post news := by
  cases b
  all_goals
    refine walk (ts [1,1] <| ts [4,4,0,0,6,4] <| ts [0] <| ts [0] <| ts [] <| ts [5,4,7,7,7,7] <| ts [] <| ts [] <| ts [4] <| ts [] <| tn [] []) (by omega) ?_; intro A₀ R₀ h₀ sz0 tk0 a0 ad aD fin gd mm o
    refine mm [0,0] (lnext_some (it := C.it) (l := ll) (xs := lv) (n := nl) (i := i) (v := .int (.ofNat j) tk) (by omega) hv) ?_; intro o _ sz1 tk1 _
    refine mm [] (iadd_does (a := .ofNat low) (b := .ofNat j) (r := .ofNat (low + j)) (t := tl) (u := tk) rfl) ?_; intro o k1 sz2 tk2 _
    refine mm [] (op_lshift (a := .ofNat 1) (b := .ofNat (low + j)) (r := .ofNat (2 ^ (low + j))) (t := (tk1 + 1)) (u := k1) (by omega) (by simpa using shl_ok (m := 1) (n := low + j) (by decide) (by omega))) ?_; intro o k2 sz3 tk3 _
    refine mm [] (pretty_one (p := low + j) (t := k2) (by omega) hp) ?_; intro o k3 sz4 tk4 _
    refine mm [] (adds_does (x := word (low + j)) (t := k3) (y := [32]) (u := tk4) (by simp; omega)) ?_; intro o k4 sz5 tk5 _
    refine mm [6] (getit_does (l := sl) (xs := sv) (n := ns) (j := j) (u := tk) (v := .str (sOf x) tx) hs hsl) ?_; intro o _ sz6 tk6 _
    refine mm [] (adds_does (x := word (low + j) ++ [32]) (t := k4) (y := x) (u := tx) (by simp; omega)) ?_; intro o k6 sz7 tk7 _
    refine mm [] (adds_does (x := word (low + j) ++ [32] ++ x) (t := k6) (y := [10]) (u := tk7) (by simp; omega)) ?_; intro o k7 sz8 tk8 _
    refine mm [3] (append_does (l := C.acc) (xs := ys) (n := ys.length) (v := .str (sOf (word (low + j) ++ [32] ++ x ++ [10])) k7) hn) ?_; intro o _ sz9 tk9 _
    exact tail_same_w a0 [2,2,0,1,1,1,0] (fun o => entOf (o.ob 4) 0) (fun g => next g k7) ad (by kernel_rfl) (by kernel_rfl) fin
theorem text_end (hD : D + 350 ≤ recursionLimit) (hv : lv[i]? = none) :
    Does e.G D (lawL e xText C fr [(sOf [115,112,111,116,115],cs),(sOf [108,111,119],cl)]) ([(C.it,litO ll (i)),(ll,lob lv nl),(C.acc,lob (ys) (ys.length)),(C.dc,dcO [107] b)] ++ [(cs,cellO (.ref sl)),(cl,cellO (.int (.ofNat low) tl)),(sl,lob sv ns)]) (fun _ : Unit => True) (fun _ => .ok .next) (fun _ => ([(C.it,litE (i)),(ll,lob lv nl),(C.acc,lob (ys) (ys.length)),(C.dc,dcO [107] b)] ++ [(cs,cellO (.ref sl)),(cl,cellO (.int (.ofNat low) tl)),(sl,lob sv ns)])) (fun _ => []) := by
  cases b
  all_goals
    refine walk (ts [1,1] <| tn [1] []) (by omega) ?_; intro A₀ R₀ h₀ sz0 tk0 a0 ad aD fin gd mm o
    refine mm [0,0] (lnext_end (it := C.it) (l := ll) (xs := lv) (n := nl) (i := i) (by omega) hv) ?_; intro o x sz1 tk1 _
    exact ret_good () [2,2,2,2,2,2,2] trivial fin rfl
theorem ordw_turn {α : Type} {ok : α → Prop} {res : α → Result} {post news : α → Led} (hD : D + 350 ≤ recursionLimit) (hv : lv[i]? = some (.int (.ofNat j) tk)) (hs : sv[j]? = some (.str (sOf x) tx)) (hsl : sv.length ≤ sizeLine) (hn : ys.length ≤ sizeLine)
    (next : ∀ g,Does e.G D (lawL e xOrdw C fr [(sOf [119,111,114,100,115],cs)]) ([(C.it,litO ll (i + 1)),(ll,lob lv nl),(C.acc,lob (ys ++ [.str (sOf x) tx]) (ys.length + 1)),(C.dc,dcO [107] (some (g,.int (.ofNat j) tk)))] ++ [(cs,cellO (.ref sl)),(sl,lob sv ns)]) ok res post news) :
    Does e.G D (lawL e xOrdw C fr [(sOf [119,111,114,100,115],cs)]) ([(C.it,litO ll (i)),(ll,lob lv nl),(C.acc,lob (ys) (ys.length)),(C.dc,dcO [107] b)] ++ [(cs,cellO (.ref sl)),(sl,lob sv ns)]) ok res post news := by
  cases b
  all_goals
    refine walk (ts [1,1] <| ts [4,4,5,4,6,6,6,6] <| ts [4] <| ts [] <| tn [] []) (by omega) ?_; intro A₀ R₀ h₀ sz0 tk0 a0 ad aD fin gd mm o
    refine mm [0,0] (lnext_some (it := C.it) (l := ll) (xs := lv) (n := nl) (i := i) (v := .int (.ofNat j) tk) (by omega) hv) ?_; intro o _ sz1 tk1 _
    refine mm [5] (getit_does (l := sl) (xs := sv) (n := ns) (j := j) (u := tk) (v := .str (sOf x) tx) hs hsl) ?_; intro o _ sz2 tk2 _
    refine mm [3] (append_does (l := C.acc) (xs := ys) (n := ys.length) (v := .str (sOf x) tx) hn) ?_; intro o _ sz3 tk3 _
    exact tail_same_w a0 [2,2,0,1,1,0] (fun o => entOf (o.ob 4) 0) (fun g => next g ) ad (by kernel_rfl) (by kernel_rfl) fin
theorem ordw_end (hD : D + 350 ≤ recursionLimit) (hv : lv[i]? = none) :
    Does e.G D (lawL e xOrdw C fr [(sOf [119,111,114,100,115],cs)]) ([(C.it,litO ll (i)),(ll,lob lv nl),(C.acc,lob (ys) (ys.length)),(C.dc,dcO [107] b)] ++ [(cs,cellO (.ref sl)),(sl,lob sv ns)]) (fun _ : Unit => True) (fun _ => .ok .next) (fun _ => ([(C.it,litE (i)),(ll,lob lv nl),(C.acc,lob (ys) (ys.length)),(C.dc,dcO [107] b)] ++ [(cs,cellO (.ref sl)),(sl,lob sv ns)])) (fun _ => []) := by
  cases b
  all_goals
    refine walk (ts [1,1] <| tn [1] []) (by omega) ?_; intro A₀ R₀ h₀ sz0 tk0 a0 ad aD fin gd mm o
    refine mm [0,0] (lnext_end (it := C.it) (l := ll) (xs := lv) (n := nl) (i := i) (by omega) hv) ?_; intro o x sz1 tk1 _
    exact ret_good () [2,2,2,2,2,2] trivial fin rfl
theorem ords_turn {α : Type} {ok : α → Prop} {res : α → Result} {post news : α → Led} (hD : D + 350 ≤ recursionLimit) (hv : lv[i]? = some (.int (.ofNat j) tk)) (hs : sv[j]? = some (.str (sOf x) tx)) (hsl : sv.length ≤ sizeLine) (hn : ys.length ≤ sizeLine)
    (next : ∀ g,Does e.G D (lawL e xOrds C fr [(sOf [115,112,111,116,115],cs)]) ([(C.it,litO ll (i + 1)),(ll,lob lv nl),(C.acc,lob (ys ++ [.str (sOf x) tx]) (ys.length + 1)),(C.dc,dcO [107] (some (g,.int (.ofNat j) tk)))] ++ [(cs,cellO (.ref sl)),(sl,lob sv ns)]) ok res post news) :
    Does e.G D (lawL e xOrds C fr [(sOf [115,112,111,116,115],cs)]) ([(C.it,litO ll (i)),(ll,lob lv nl),(C.acc,lob (ys) (ys.length)),(C.dc,dcO [107] b)] ++ [(cs,cellO (.ref sl)),(sl,lob sv ns)]) ok res post news := by
  cases b
  all_goals
    refine walk (ts [1,1] <| ts [4,4,5,4,6,6,6,6] <| ts [4] <| ts [] <| tn [] []) (by omega) ?_; intro A₀ R₀ h₀ sz0 tk0 a0 ad aD fin gd mm o
    refine mm [0,0] (lnext_some (it := C.it) (l := ll) (xs := lv) (n := nl) (i := i) (v := .int (.ofNat j) tk) (by omega) hv) ?_; intro o _ sz1 tk1 _
    refine mm [5] (getit_does (l := sl) (xs := sv) (n := ns) (j := j) (u := tk) (v := .str (sOf x) tx) hs hsl) ?_; intro o _ sz2 tk2 _
    refine mm [3] (append_does (l := C.acc) (xs := ys) (n := ys.length) (v := .str (sOf x) tx) hn) ?_; intro o _ sz3 tk3 _
    exact tail_same_w a0 [2,2,0,1,1,0] (fun o => entOf (o.ob 4) 0) (fun g => next g ) ad (by kernel_rfl) (by kernel_rfl) fin
theorem ords_end (hD : D + 350 ≤ recursionLimit) (hv : lv[i]? = none) :
    Does e.G D (lawL e xOrds C fr [(sOf [115,112,111,116,115],cs)]) ([(C.it,litO ll (i)),(ll,lob lv nl),(C.acc,lob (ys) (ys.length)),(C.dc,dcO [107] b)] ++ [(cs,cellO (.ref sl)),(sl,lob sv ns)]) (fun _ : Unit => True) (fun _ => .ok .next) (fun _ => ([(C.it,litE (i)),(ll,lob lv nl),(C.acc,lob (ys) (ys.length)),(C.dc,dcO [107] b)] ++ [(cs,cellO (.ref sl)),(sl,lob sv ns)])) (fun _ => []) := by
  cases b
  all_goals
    refine walk (ts [1,1] <| tn [1] []) (by omega) ?_; intro A₀ R₀ h₀ sz0 tk0 a0 ad aD fin gd mm o
    refine mm [0,0] (lnext_end (it := C.it) (l := ll) (xs := lv) (n := nl) (i := i) (by omega) hv) ?_; intro o x sz1 tk1 _
    exact ret_good () [2,2,2,2,2,2] trivial fin rfl
theorem duew_turn {α : Type} {ok : α → Prop} {res : α → Result} {post news : α → Led} (hD : D + 350 ≤ recursionLimit) (hv : lv[i]? = some (.int (.ofNat j) tk)) (hs : sv[j]? = some (.str (sOf x) tx)) (hsl : sv.length ≤ sizeLine) (hn : ys.length ≤ sizeLine)
    (next : ∀ g,Does e.G D (lawL e xDuew C fr [(sOf [119,111,114,100,115],cs)]) ([(C.it,litO ll (i + 1)),(ll,lob lv nl),(C.acc,lob (ys ++ [.str (sOf x) tx]) (ys.length + 1)),(C.dc,dcO [107] (some (g,.int (.ofNat j) tk)))] ++ [(cs,cellO (.ref sl)),(sl,lob sv ns)]) ok res post news) :
    Does e.G D (lawL e xDuew C fr [(sOf [119,111,114,100,115],cs)]) ([(C.it,litO ll (i)),(ll,lob lv nl),(C.acc,lob (ys) (ys.length)),(C.dc,dcO [107] b)] ++ [(cs,cellO (.ref sl)),(sl,lob sv ns)]) ok res post news := by
  cases b
  all_goals
    refine walk (ts [1,1] <| ts [4,4,5,4,6,6,6,6] <| ts [4] <| ts [] <| tn [] []) (by omega) ?_; intro A₀ R₀ h₀ sz0 tk0 a0 ad aD fin gd mm o
    refine mm [0,0] (lnext_some (it := C.it) (l := ll) (xs := lv) (n := nl) (i := i) (v := .int (.ofNat j) tk) (by omega) hv) ?_; intro o _ sz1 tk1 _
    refine mm [5] (getit_does (l := sl) (xs := sv) (n := ns) (j := j) (u := tk) (v := .str (sOf x) tx) hs hsl) ?_; intro o _ sz2 tk2 _
    refine mm [3] (append_does (l := C.acc) (xs := ys) (n := ys.length) (v := .str (sOf x) tx) hn) ?_; intro o _ sz3 tk3 _
    exact tail_same_w a0 [2,2,0,1,1,0] (fun o => entOf (o.ob 4) 0) (fun g => next g ) ad (by kernel_rfl) (by kernel_rfl) fin
theorem duew_end (hD : D + 350 ≤ recursionLimit) (hv : lv[i]? = none) :
    Does e.G D (lawL e xDuew C fr [(sOf [119,111,114,100,115],cs)]) ([(C.it,litO ll (i)),(ll,lob lv nl),(C.acc,lob (ys) (ys.length)),(C.dc,dcO [107] b)] ++ [(cs,cellO (.ref sl)),(sl,lob sv ns)]) (fun _ : Unit => True) (fun _ => .ok .next) (fun _ => ([(C.it,litE (i)),(ll,lob lv nl),(C.acc,lob (ys) (ys.length)),(C.dc,dcO [107] b)] ++ [(cs,cellO (.ref sl)),(sl,lob sv ns)])) (fun _ => []) := by
  cases b
  all_goals
    refine walk (ts [1,1] <| tn [1] []) (by omega) ?_; intro A₀ R₀ h₀ sz0 tk0 a0 ad aD fin gd mm o
    refine mm [0,0] (lnext_end (it := C.it) (l := ll) (xs := lv) (n := nl) (i := i) (by omega) hv) ?_; intro o x sz1 tk1 _
    exact ret_good () [2,2,2,2,2,2] trivial fin rfl
theorem shown_t {α : Type} {ok : α → Prop} {res : α → Result} {post news : α → Led} (hD : D + 350 ≤ recursionLimit) (hv : lv[i]? = some (.bool true)) (hn : ys.length ≤ sizeLine)
    (next : ∀ g j2,Does e.G D (lawL e xShown C fr []) ([(C.it,litO ll (i + 1)),(ll,lob lv nl),(C.acc,lob (ys ++ [.str (sOf [92,34,34,92,92,92,32,9,13]) j2]) (ys.length + 1)),(C.dc,dcO [109,97,114,107] (some (g,.bool true)))] ++ []) ok res post news) :
    Does e.G D (lawL e xShown C fr []) ([(C.it,litO ll (i)),(ll,lob lv nl),(C.acc,lob (ys) (ys.length)),(C.dc,dcO [109,97,114,107] b)] ++ []) ok res post news := by
  cases b
  all_goals
    refine walk (ts [1,1] <| ts [4,4,4,3] <| ts [] <| tn [] []) (by omega) ?_; intro A₀ R₀ h₀ sz0 tk0 a0 ad aD fin gd mm o
    refine mm [0,0] (lnext_some (it := C.it) (l := ll) (xs := lv) (n := nl) (i := i) (v := .bool true) (by omega) hv) ?_; intro o _ sz1 tk1 _
    refine mm [2] (append_does (l := C.acc) (xs := ys) (n := ys.length) (v := (.str (sOf [92,34,34,92,92,92,32,9,13]) (tk1 + 1))) hn) ?_; intro o _ sz2 tk2 _
    exact tail_same_w a0 [1,1,0,0] (fun o => entOf (o.ob 3) 0) (fun g => next g (tk1 + 1)) ad (by kernel_rfl) (by kernel_rfl) fin
theorem shown_f {α : Type} {ok : α → Prop} {res : α → Result} {post news : α → Led} (hD : D + 350 ≤ recursionLimit) (hv : lv[i]? = some (.bool false)) (hn : ys.length ≤ sizeLine)
    (next : ∀ g j2,Does e.G D (lawL e xShown C fr []) ([(C.it,litO ll (i + 1)),(ll,lob lv nl),(C.acc,lob (ys ++ [.str (sOf [34,92,92,32,92,34,34]) j2]) (ys.length + 1)),(C.dc,dcO [109,97,114,107] (some (g,.bool false)))] ++ []) ok res post news) :
    Does e.G D (lawL e xShown C fr []) ([(C.it,litO ll (i)),(ll,lob lv nl),(C.acc,lob (ys) (ys.length)),(C.dc,dcO [109,97,114,107] b)] ++ []) ok res post news := by
  cases b
  all_goals
    refine walk (ts [1,1] <| ts [4,4,4,3] <| ts [] <| tn [] []) (by omega) ?_; intro A₀ R₀ h₀ sz0 tk0 a0 ad aD fin gd mm o
    refine mm [0,0] (lnext_some (it := C.it) (l := ll) (xs := lv) (n := nl) (i := i) (v := .bool false) (by omega) hv) ?_; intro o _ sz1 tk1 _
    refine mm [2] (append_does (l := C.acc) (xs := ys) (n := ys.length) (v := (.str (sOf [34,92,92,32,92,34,34]) (tk1 + 1))) hn) ?_; intro o _ sz2 tk2 _
    exact tail_same_w a0 [1,1,0,0] (fun o => entOf (o.ob 3) 0) (fun g => next g (tk1 + 1)) ad (by kernel_rfl) (by kernel_rfl) fin
theorem shown_end (hD : D + 350 ≤ recursionLimit) (hv : lv[i]? = none) :
    Does e.G D (lawL e xShown C fr []) ([(C.it,litO ll (i)),(ll,lob lv nl),(C.acc,lob (ys) (ys.length)),(C.dc,dcO [109,97,114,107] b)] ++ []) (fun _ : Unit => True) (fun _ => .ok .next) (fun _ => ([(C.it,litE (i)),(ll,lob lv nl),(C.acc,lob (ys) (ys.length)),(C.dc,dcO [109,97,114,107] b)] ++ [])) (fun _ => []) := by
  cases b
  all_goals
    refine walk (ts [1,1] <| tn [1] []) (by omega) ?_; intro A₀ R₀ h₀ sz0 tk0 a0 ad aD fin gd mm o
    refine mm [0,0] (lnext_end (it := C.it) (l := ll) (xs := lv) (n := nl) (i := i) (by omega) hv) ?_; intro o x sz1 tk1 _
    exact ret_good () [2,2,2,2] trivial fin rfl
theorem exp_t {α : Type} {ok : α → Prop} {res : α → Result} {post news : α → Led} (hD : D + 350 ≤ recursionLimit) (hv : lv[i]? = some (.bool true)) (hn : ys.length ≤ sizeLine)
    (next : ∀ g j2,Does e.G D (lawL e xExp C fr []) ([(C.it,litO ll (i + 1)),(ll,lob lv nl),(C.acc,lob (ys ++ [.str (sOf [34,34,92,32]) j2]) (ys.length + 1)),(C.dc,dcO [109,97,114,107] (some (g,.bool true)))] ++ []) ok res post news) :
    Does e.G D (lawL e xExp C fr []) ([(C.it,litO ll (i)),(ll,lob lv nl),(C.acc,lob (ys) (ys.length)),(C.dc,dcO [109,97,114,107] b)] ++ []) ok res post news := by
  cases b
  all_goals
    refine walk (ts [1,1] <| ts [4,4,4,3] <| ts [] <| tn [] []) (by omega) ?_; intro A₀ R₀ h₀ sz0 tk0 a0 ad aD fin gd mm o
    refine mm [0,0] (lnext_some (it := C.it) (l := ll) (xs := lv) (n := nl) (i := i) (v := .bool true) (by omega) hv) ?_; intro o _ sz1 tk1 _
    refine mm [2] (append_does (l := C.acc) (xs := ys) (n := ys.length) (v := (.str (sOf [34,34,92,32]) (tk1 + 1))) hn) ?_; intro o _ sz2 tk2 _
    exact tail_same_w a0 [1,1,0,0] (fun o => entOf (o.ob 3) 0) (fun g => next g (tk1 + 1)) ad (by kernel_rfl) (by kernel_rfl) fin
theorem exp_f {α : Type} {ok : α → Prop} {res : α → Result} {post news : α → Led} (hD : D + 350 ≤ recursionLimit) (hv : lv[i]? = some (.bool false)) (hn : ys.length ≤ sizeLine)
    (next : ∀ g j2,Does e.G D (lawL e xExp C fr []) ([(C.it,litO ll (i + 1)),(ll,lob lv nl),(C.acc,lob (ys ++ [.str (sOf [92,32,34]) j2]) (ys.length + 1)),(C.dc,dcO [109,97,114,107] (some (g,.bool false)))] ++ []) ok res post news) :
    Does e.G D (lawL e xExp C fr []) ([(C.it,litO ll (i)),(ll,lob lv nl),(C.acc,lob (ys) (ys.length)),(C.dc,dcO [109,97,114,107] b)] ++ []) ok res post news := by
  cases b
  all_goals
    refine walk (ts [1,1] <| ts [4,4,4,3] <| ts [] <| tn [] []) (by omega) ?_; intro A₀ R₀ h₀ sz0 tk0 a0 ad aD fin gd mm o
    refine mm [0,0] (lnext_some (it := C.it) (l := ll) (xs := lv) (n := nl) (i := i) (v := .bool false) (by omega) hv) ?_; intro o _ sz1 tk1 _
    refine mm [2] (append_does (l := C.acc) (xs := ys) (n := ys.length) (v := (.str (sOf [92,32,34]) (tk1 + 1))) hn) ?_; intro o _ sz2 tk2 _
    exact tail_same_w a0 [1,1,0,0] (fun o => entOf (o.ob 3) 0) (fun g => next g (tk1 + 1)) ad (by kernel_rfl) (by kernel_rfl) fin
theorem exp_end (hD : D + 350 ≤ recursionLimit) (hv : lv[i]? = none) :
    Does e.G D (lawL e xExp C fr []) ([(C.it,litO ll (i)),(ll,lob lv nl),(C.acc,lob (ys) (ys.length)),(C.dc,dcO [109,97,114,107] b)] ++ []) (fun _ : Unit => True) (fun _ => .ok .next) (fun _ => ([(C.it,litE (i)),(ll,lob lv nl),(C.acc,lob (ys) (ys.length)),(C.dc,dcO [109,97,114,107] b)] ++ [])) (fun _ => []) := by
  cases b
  all_goals
    refine walk (ts [1,1] <| tn [1] []) (by omega) ?_; intro A₀ R₀ h₀ sz0 tk0 a0 ad aD fin gd mm o
    refine mm [0,0] (lnext_end (it := C.it) (l := ll) (xs := lv) (n := nl) (i := i) (by omega) hv) ?_; intro o x sz1 tk1 _
    exact ret_good () [2,2,2,2] trivial fin rfl
end
end Mine
namespace Mine
section
variable {e : Env0} {D : Nat} {C : Cx} {fr cl cb cw cs ll sl : Addr} {low base w n nl ns : Nat} {tl tb tw : Tok} {lv sv : List Value} {ks : List Nat} {bs : List Bool} {ss : List (List Nat)}
noncomputable def Told (n : Nat) (z : List Value × Bnd) : Prop := (0 < n → z.2.isSome = true) ∧ (n = 0 → z.2 = none)
theorem words_all (hD : D + 350 ≤ recursionLimit) (hn : n ≤ 100) (hp : low + n ≤ 33) :
    Does e.G D (lawS e xWords C fr [(sOf [108,111,119],cl)]) ([(C.it,ritO 0 n),(C.acc,lob [] 0),(C.dc,dcO [107] none)] ++ [(cl,cellO (.int (.ofNat low) tl))])
      (fun z => Strs ((List.range n).map fun k => word (low + k)) z.1 ∧ Told n z) (fun _ => .ok .next) (fun z => [(C.it,ritO n 0),(C.acc,lob z.1 z.1.length),(C.dc,dcO [107] z.2)] ++ [(cl,cellO (.int (.ofNat low) tl))]) (fun _ => []) := by
  have key := comp_map (G := e.G) (D := D) (c := lawL e xWords C fr [(sOf [108,111,119],cl)]) (ss := (List.range n).map fun k => word (low + k))
    (L := fun i ys b => [(C.it,ritO i (n - i)),(C.acc,lob ys ys.length),(C.dc,dcO [107] b)] ++ [(cl,cellO (.int (.ofNat low) tl))])
    (P := fun ys b => [(C.it,ritO n 0),(C.acc,lob ys ys.length),(C.dc,dcO [107] b)] ++ [(cl,cellO (.int (.ofNat low) tl))]) (by simpa using hn)
    (fun i ys b x hx hys _ _ _ _ _ next => by
      obtain ⟨k,hk,rfl⟩ := map_at hx
      have hi : i < n := by
        have := (List.getElem?_eq_some_iff.mp hk).1
        simpa using this
      have : k = i := by
        rw [List.getElem?_range hi] at hk
        exact (Option.some.inj hk).symm
      subst this
      have ek : n - k = (n - (k + 1)) + 1 := by omega
      rw [ek]
      refine words_turn hD (by omega) hys fun g j1 j2 => ?_
      have hnx := next j2 (g,.int (.ofNat k) j1)
      simpa using hnx)
    (fun ys b => by simp only [List.length_map,List.length_range,Nat.sub_self]; exact words_end hD)
  refine walk (tn [1] [.stop]) (by omega) ?_; intro A₀ R₀ h₀ sz0 tk0 a0 ad aD fin gd mm o
  exact tail_same a0 [0,0,0,0] (key.weaken (ok' := fun z => Strs ((List.range n).map fun k => word (low + k)) z.1 ∧ Told n z) fun z hz => ⟨hz.1,by simpa [Told] using hz.2⟩) ad (by kernel_rfl) (by kernel_rfl) fin
theorem spots_all (hD : D + 350 ≤ recursionLimit) (hn : n ≤ 100) (hw : w ≠ 0) (hw2 : w ≤ 100) (hb : base + n < 262144) :
    Does e.G D (lawS e xSpots C fr [(sOf [119,105,100,101],cw),(sOf [98,97,115,101],cb)]) ([(C.it,ritO 0 n),(C.acc,lob [] 0),(C.dc,dcO [107] none)] ++ [(cw,cellO (.int (.ofNat w) tw)),(cb,cellO (.int (.ofNat base) tb))])
      (fun z => Strs ((List.range n).map fun k => oct (base + k / w) ++ oct (base + k % w)) z.1 ∧ Told n z) (fun _ => .ok .next) (fun z => [(C.it,ritO n 0),(C.acc,lob z.1 z.1.length),(C.dc,dcO [107] z.2)] ++ [(cw,cellO (.int (.ofNat w) tw)),(cb,cellO (.int (.ofNat base) tb))]) (fun _ => []) := by
  have key := comp_map (G := e.G) (D := D) (c := lawL e xSpots C fr [(sOf [119,105,100,101],cw),(sOf [98,97,115,101],cb)]) (ss := (List.range n).map fun k => oct (base + k / w) ++ oct (base + k % w))
    (L := fun i ys b => [(C.it,ritO i (n - i)),(C.acc,lob ys ys.length),(C.dc,dcO [107] b)] ++ [(cw,cellO (.int (.ofNat w) tw)),(cb,cellO (.int (.ofNat base) tb))])
    (P := fun ys b => [(C.it,ritO n 0),(C.acc,lob ys ys.length),(C.dc,dcO [107] b)] ++ [(cw,cellO (.int (.ofNat w) tw)),(cb,cellO (.int (.ofNat base) tb))]) (by simpa using hn)
    (fun i ys b x hx hys _ _ _ _ _ next => by
      obtain ⟨k,hk,rfl⟩ := map_at hx
      have hi : i < n := by
        have := (List.getElem?_eq_some_iff.mp hk).1
        simpa using this
      have : k = i := by
        rw [List.getElem?_range hi] at hk
        exact (Option.some.inj hk).symm
      subst this
      have ek : n - k = (n - (k + 1)) + 1 := by omega
      have d1 : k / w ≤ k := Nat.div_le_self k w
      have d2 : k % w ≤ k := Nat.mod_le k w
      rw [ek]
      refine spots_turn hD hw hw2 (by omega) (by omega) hys fun g j1 j2 => ?_
      have hnx := next j2 (g,.int (.ofNat k) j1)
      simpa using hnx)
    (fun ys b => by simp only [List.length_map,List.length_range,Nat.sub_self]; exact spots_end hD)
  refine walk (tn [1] [.stop]) (by omega) ?_; intro A₀ R₀ h₀ sz0 tk0 a0 ad aD fin gd mm o
  exact tail_same a0 [0,0,0,0,0] (key.weaken (ok' := fun z => Strs ((List.range n).map fun k => oct (base + k / w) ++ oct (base + k % w)) z.1 ∧ Told n z) fun z hz => ⟨hz.1,by simpa [Told] using hz.2⟩) ad (by kernel_rfl) (by kernel_rfl) fin
theorem getD_ss {ss : List (List Nat)} {k : Nat} (h : k < ss.length) : ss[k]? = some (ss.getD k []) := by
  rw [List.getD_eq_getElem?_getD,List.getElem?_eq_getElem h]; rfl
theorem text_all (hD : D + 350 ≤ recursionLimit) (hl : Ints (natI ks) lv) (hk : ks.length ≤ 100) (hs : Strs ss sv) (hss : ss.length ≤ 100) (hks : ∀ k ∈ ks,k < ss.length ∧ low + k < 33) (h10 : ∀ x ∈ ss,x.length ≤ 10) :
    Does e.G D (lawS e xText C fr [(sOf [115,112,111,116,115],cs),(sOf [108,111,119],cl)]) ([(C.it,litO ll 0),(ll,lob lv nl),(C.acc,lob [] 0),(C.dc,dcO [107] none)] ++ [(cs,cellO (.ref sl)),(cl,cellO (.int (.ofNat low) tl)),(sl,lob sv ns)])
      (fun z => Strs (ks.map fun k => word (low + k) ++ [32] ++ ss.getD k [] ++ [10]) z.1 ∧ Told ks.length z) (fun _ => .ok .next) (fun z => [(C.it,litE ks.length),(ll,lob lv nl),(C.acc,lob z.1 z.1.length),(C.dc,dcO [107] z.2)] ++ [(cs,cellO (.ref sl)),(cl,cellO (.int (.ofNat low) tl)),(sl,lob sv ns)]) (fun _ => []) := by
  have hsl : sv.length ≤ sizeLine := by rw [hs.len]; exact Nat.le_trans hss hundred
  have key := comp_map (G := e.G) (D := D) (c := lawL e xText C fr [(sOf [115,112,111,116,115],cs),(sOf [108,111,119],cl)]) (ss := ks.map fun k => word (low + k) ++ [32] ++ ss.getD k [] ++ [10])
    (L := fun i ys b => [(C.it,litO ll i),(ll,lob lv nl),(C.acc,lob ys ys.length),(C.dc,dcO [107] b)] ++ [(cs,cellO (.ref sl)),(cl,cellO (.int (.ofNat low) tl)),(sl,lob sv ns)])
    (P := fun ys b => [(C.it,litE ks.length),(ll,lob lv nl),(C.acc,lob ys ys.length),(C.dc,dcO [107] b)] ++ [(cs,cellO (.ref sl)),(cl,cellO (.int (.ofNat low) tl)),(sl,lob sv ns)]) (by simpa using hk)
    (fun i ys b x hx hys _ _ _ _ _ next => by
      obtain ⟨k,hk,rfl⟩ := map_at hx
      obtain ⟨tk,hv⟩ := hl.at (natI_at hk)
      have hm := hks k (List.mem_of_getElem? hk)
      have hg := getD_ss hm.1
      obtain ⟨tx,hsv⟩ := hs.at hg
      refine text_turn hD hv hm.2 hsv hsl (h10 _ (List.mem_of_getElem? hg)) (word_short _ hm.2) hundred hys fun g j2 => ?_
      have hnx := next j2 (g,.int (.ofNat k) tk)
      simpa using hnx)
    (fun ys b => by simp only [List.length_map]; exact text_end hD (by rw [List.getElem?_eq_none_iff,hl.len,natI_len]; exact Nat.le_refl _))
  refine walk (tn [1] [.stop]) (by omega) ?_; intro A₀ R₀ h₀ sz0 tk0 a0 ad aD fin gd mm o
  exact tail_same a0 [0,0,0,0,0,0,0] (key.weaken (ok' := fun z => Strs (ks.map fun k => word (low + k) ++ [32] ++ ss.getD k [] ++ [10]) z.1 ∧ Told ks.length z) fun z hz => ⟨hz.1,by simpa [Told] using hz.2⟩) ad (by kernel_rfl) (by kernel_rfl) fin
theorem ordw_all (hD : D + 350 ≤ recursionLimit) (hl : Ints (natI ks) lv) (hk : ks.length ≤ 100) (hs : Strs ss sv) (hss : ss.length ≤ 100) (hks : ∀ k ∈ ks,k < ss.length) :
    Does e.G D (lawS e xOrdw C fr [(sOf [119,111,114,100,115],cs)]) ([(C.it,litO ll 0),(ll,lob lv nl),(C.acc,lob [] 0),(C.dc,dcO [107] none)] ++ [(cs,cellO (.ref sl)),(sl,lob sv ns)])
      (fun z => Strs (ks.map fun k => ss.getD k []) z.1 ∧ Told ks.length z) (fun _ => .ok .next) (fun z => [(C.it,litE ks.length),(ll,lob lv nl),(C.acc,lob z.1 z.1.length),(C.dc,dcO [107] z.2)] ++ [(cs,cellO (.ref sl)),(sl,lob sv ns)]) (fun _ => []) := by
  have hsl : sv.length ≤ sizeLine := by rw [hs.len]; exact Nat.le_trans hss hundred
  have key := comp_map (G := e.G) (D := D) (c := lawL e xOrdw C fr [(sOf [119,111,114,100,115],cs)]) (ss := ks.map fun k => ss.getD k [])
    (L := fun i ys b => [(C.it,litO ll i),(ll,lob lv nl),(C.acc,lob ys ys.length),(C.dc,dcO [107] b)] ++ [(cs,cellO (.ref sl)),(sl,lob sv ns)])
    (P := fun ys b => [(C.it,litE ks.length),(ll,lob lv nl),(C.acc,lob ys ys.length),(C.dc,dcO [107] b)] ++ [(cs,cellO (.ref sl)),(sl,lob sv ns)]) (by simpa using hk)
    (fun i ys b x hx hys _ _ _ _ _ next => by
      obtain ⟨k,hk,rfl⟩ := map_at hx
      obtain ⟨tk,hv⟩ := hl.at (natI_at hk)
      obtain ⟨tx,hsv⟩ := hs.at (getD_ss (hks k (List.mem_of_getElem? hk)))
      refine ordw_turn hD hv hsv hsl hys fun g => ?_
      have hnx := next tx (g,.int (.ofNat k) tk)
      simpa using hnx)
    (fun ys b => by simp only [List.length_map]; exact ordw_end hD (by rw [List.getElem?_eq_none_iff,hl.len,natI_len]; exact Nat.le_refl _))
  refine walk (tn [1] [.stop]) (by omega) ?_; intro A₀ R₀ h₀ sz0 tk0 a0 ad aD fin gd mm o
  exact tail_same a0 [0,0,0,0,0,0] (key.weaken (ok' := fun z => Strs (ks.map fun k => ss.getD k []) z.1 ∧ Told ks.length z) fun z hz => ⟨hz.1,by simpa [Told] using hz.2⟩) ad (by kernel_rfl) (by kernel_rfl) fin
theorem ords_all (hD : D + 350 ≤ recursionLimit) (hl : Ints (natI ks) lv) (hk : ks.length ≤ 100) (hs : Strs ss sv) (hss : ss.length ≤ 100) (hks : ∀ k ∈ ks,k < ss.length) :
    Does e.G D (lawS e xOrds C fr [(sOf [115,112,111,116,115],cs)]) ([(C.it,litO ll 0),(ll,lob lv nl),(C.acc,lob [] 0),(C.dc,dcO [107] none)] ++ [(cs,cellO (.ref sl)),(sl,lob sv ns)])
      (fun z => Strs (ks.map fun k => ss.getD k []) z.1 ∧ Told ks.length z) (fun _ => .ok .next) (fun z => [(C.it,litE ks.length),(ll,lob lv nl),(C.acc,lob z.1 z.1.length),(C.dc,dcO [107] z.2)] ++ [(cs,cellO (.ref sl)),(sl,lob sv ns)]) (fun _ => []) := by
  have hsl : sv.length ≤ sizeLine := by rw [hs.len]; exact Nat.le_trans hss hundred
  have key := comp_map (G := e.G) (D := D) (c := lawL e xOrds C fr [(sOf [115,112,111,116,115],cs)]) (ss := ks.map fun k => ss.getD k [])
    (L := fun i ys b => [(C.it,litO ll i),(ll,lob lv nl),(C.acc,lob ys ys.length),(C.dc,dcO [107] b)] ++ [(cs,cellO (.ref sl)),(sl,lob sv ns)])
    (P := fun ys b => [(C.it,litE ks.length),(ll,lob lv nl),(C.acc,lob ys ys.length),(C.dc,dcO [107] b)] ++ [(cs,cellO (.ref sl)),(sl,lob sv ns)]) (by simpa using hk)
    (fun i ys b x hx hys _ _ _ _ _ next => by
      obtain ⟨k,hk,rfl⟩ := map_at hx
      obtain ⟨tk,hv⟩ := hl.at (natI_at hk)
      obtain ⟨tx,hsv⟩ := hs.at (getD_ss (hks k (List.mem_of_getElem? hk)))
      refine ords_turn hD hv hsv hsl hys fun g => ?_
      have hnx := next tx (g,.int (.ofNat k) tk)
      simpa using hnx)
    (fun ys b => by simp only [List.length_map]; exact ords_end hD (by rw [List.getElem?_eq_none_iff,hl.len,natI_len]; exact Nat.le_refl _))
  refine walk (tn [1] [.stop]) (by omega) ?_; intro A₀ R₀ h₀ sz0 tk0 a0 ad aD fin gd mm o
  exact tail_same a0 [0,0,0,0,0,0] (key.weaken (ok' := fun z => Strs (ks.map fun k => ss.getD k []) z.1 ∧ Told ks.length z) fun z hz => ⟨hz.1,by simpa [Told] using hz.2⟩) ad (by kernel_rfl) (by kernel_rfl) fin
theorem duew_all (hD : D + 350 ≤ recursionLimit) (hl : Ints (natI ks) lv) (hk : ks.length ≤ 100) (hs : Strs ss sv) (hss : ss.length ≤ 100) (hks : ∀ k ∈ ks,k < ss.length) :
    Does e.G D (lawS e xDuew C fr [(sOf [119,111,114,100,115],cs)]) ([(C.it,litO ll 0),(ll,lob lv nl),(C.acc,lob [] 0),(C.dc,dcO [107] none)] ++ [(cs,cellO (.ref sl)),(sl,lob sv ns)])
      (fun z => Strs (ks.map fun k => ss.getD k []) z.1 ∧ Told ks.length z) (fun _ => .ok .next) (fun z => [(C.it,litE ks.length),(ll,lob lv nl),(C.acc,lob z.1 z.1.length),(C.dc,dcO [107] z.2)] ++ [(cs,cellO (.ref sl)),(sl,lob sv ns)]) (fun _ => []) := by
  have hsl : sv.length ≤ sizeLine := by rw [hs.len]; exact Nat.le_trans hss hundred
  have key := comp_map (G := e.G) (D := D) (c := lawL e xDuew C fr [(sOf [119,111,114,100,115],cs)]) (ss := ks.map fun k => ss.getD k [])
    (L := fun i ys b => [(C.it,litO ll i),(ll,lob lv nl),(C.acc,lob ys ys.length),(C.dc,dcO [107] b)] ++ [(cs,cellO (.ref sl)),(sl,lob sv ns)])
    (P := fun ys b => [(C.it,litE ks.length),(ll,lob lv nl),(C.acc,lob ys ys.length),(C.dc,dcO [107] b)] ++ [(cs,cellO (.ref sl)),(sl,lob sv ns)]) (by simpa using hk)
    (fun i ys b x hx hys _ _ _ _ _ next => by
      obtain ⟨k,hk,rfl⟩ := map_at hx
      obtain ⟨tk,hv⟩ := hl.at (natI_at hk)
      obtain ⟨tx,hsv⟩ := hs.at (getD_ss (hks k (List.mem_of_getElem? hk)))
      refine duew_turn hD hv hsv hsl hys fun g => ?_
      have hnx := next tx (g,.int (.ofNat k) tk)
      simpa using hnx)
    (fun ys b => by simp only [List.length_map]; exact duew_end hD (by rw [List.getElem?_eq_none_iff,hl.len,natI_len]; exact Nat.le_refl _))
  refine walk (tn [1] [.stop]) (by omega) ?_; intro A₀ R₀ h₀ sz0 tk0 a0 ad aD fin gd mm o
  exact tail_same a0 [0,0,0,0,0,0] (key.weaken (ok' := fun z => Strs (ks.map fun k => ss.getD k []) z.1 ∧ Told ks.length z) fun z hz => ⟨hz.1,by simpa [Told] using hz.2⟩) ad (by kernel_rfl) (by kernel_rfl) fin
noncomputable def shownM (m : Bool) : List Nat := if m then [92,34,34,92,92,92,32,9,13] else [34,92,92,32,92,34,34]
theorem shown_all (hD : D + 350 ≤ recursionLimit) (hk : bs.length ≤ 100) :
    Does e.G D (lawS e xShown C fr []) ([(C.it,litO ll 0),(ll,lob (bs.map .bool) nl),(C.acc,lob [] 0),(C.dc,dcO [109,97,114,107] none)] ++ [])
      (fun z => Strs (bs.map shownM) z.1 ∧ Told bs.length z) (fun _ => .ok .next) (fun z => [(C.it,litE bs.length),(ll,lob (bs.map .bool) nl),(C.acc,lob z.1 z.1.length),(C.dc,dcO [109,97,114,107] z.2)] ++ []) (fun _ => []) := by
  have key := comp_map (G := e.G) (D := D) (c := lawL e xShown C fr []) (ss := bs.map shownM)
    (L := fun i ys b => [(C.it,litO ll i),(ll,lob (bs.map .bool) nl),(C.acc,lob ys ys.length),(C.dc,dcO [109,97,114,107] b)] ++ [])
    (P := fun ys b => [(C.it,litE bs.length),(ll,lob (bs.map .bool) nl),(C.acc,lob ys ys.length),(C.dc,dcO [109,97,114,107] b)] ++ []) (by simpa using hk)
    (fun i ys b x hx hys _ _ _ _ _ next => by
      obtain ⟨m,hm,rfl⟩ := map_at hx
      have hv : (bs.map Value.bool)[i]? = some (.bool m) := by rw [List.getElem?_map,hm]; rfl
      cases m with
      | true =>
        refine shown_t hD hv hys fun g j2 => ?_
        have hnx := next j2 (g,.bool true)
        simpa [shownM] using hnx
      | false =>
        refine shown_f hD hv hys fun g j2 => ?_
        have hnx := next j2 (g,.bool false)
        simpa [shownM] using hnx)
    (fun ys b => by simp only [List.length_map]; exact shown_end hD (by simp))
  refine walk (tn [1] [.stop]) (by omega) ?_; intro A₀ R₀ h₀ sz0 tk0 a0 ad aD fin gd mm o
  exact tail_same a0 [0,0,0,0] (key.weaken (ok' := fun z => Strs (bs.map shownM) z.1 ∧ Told bs.length z) fun z hz => ⟨hz.1,by simpa [Told] using hz.2⟩) ad (by kernel_rfl) (by kernel_rfl) fin
noncomputable def expM (m : Bool) : List Nat := if m then [34,34,92,32] else [92,32,34]
theorem exp_all (hD : D + 350 ≤ recursionLimit) (hk : bs.length ≤ 100) :
    Does e.G D (lawS e xExp C fr []) ([(C.it,litO ll 0),(ll,lob (bs.map .bool) nl),(C.acc,lob [] 0),(C.dc,dcO [109,97,114,107] none)] ++ [])
      (fun z => Strs (bs.map expM) z.1 ∧ Told bs.length z) (fun _ => .ok .next) (fun z => [(C.it,litE bs.length),(ll,lob (bs.map .bool) nl),(C.acc,lob z.1 z.1.length),(C.dc,dcO [109,97,114,107] z.2)] ++ []) (fun _ => []) := by
  have key := comp_map (G := e.G) (D := D) (c := lawL e xExp C fr []) (ss := bs.map expM)
    (L := fun i ys b => [(C.it,litO ll i),(ll,lob (bs.map .bool) nl),(C.acc,lob ys ys.length),(C.dc,dcO [109,97,114,107] b)] ++ [])
    (P := fun ys b => [(C.it,litE bs.length),(ll,lob (bs.map .bool) nl),(C.acc,lob ys ys.length),(C.dc,dcO [109,97,114,107] b)] ++ []) (by simpa using hk)
    (fun i ys b x hx hys _ _ _ _ _ next => by
      obtain ⟨m,hm,rfl⟩ := map_at hx
      have hv : (bs.map Value.bool)[i]? = some (.bool m) := by rw [List.getElem?_map,hm]; rfl
      cases m with
      | true =>
        refine exp_t hD hv hys fun g j2 => ?_
        have hnx := next j2 (g,.bool true)
        simpa [expM] using hnx
      | false =>
        refine exp_f hD hv hys fun g j2 => ?_
        have hnx := next j2 (g,.bool false)
        simpa [expM] using hnx)
    (fun ys b => by simp only [List.length_map]; exact exp_end hD (by simp))
  refine walk (tn [1] [.stop]) (by omega) ?_; intro A₀ R₀ h₀ sz0 tk0 a0 ad aD fin gd mm o
  exact tail_same a0 [0,0,0,0] (key.weaken (ok' := fun z => Strs (bs.map expM) z.1 ∧ Told bs.length z) fun z hz => ⟨hz.1,by simpa [Told] using hz.2⟩) ad (by kernel_rfl) (by kernel_rfl) fin
end
end Mine
namespace Mine
theorem signs_cons (u : Un) (us : List Un) : signsOf (u :: us) = u.signs ++ signsOf us := by simp [signsOf]
section
variable {e : Env0} {D : Nat} {X : Lx} {R : Rx} {F : Fx} {ln : Value} {lnf : Tok → Value} {q cs rest : List Value} {m n n' : Nat} {y : List Nat} {tx : Tok} {b : Option ((Int × Tok) × Value)}
noncomputable def okW : List Un → Bool
  | [] => false
  | u :: us => u.esc.isNone && !same (sOf [u.c]) quS && okC u && us.all okC
noncomputable def okE : List Un → Bool
  | [] => false
  | u :: us => u.esc.isSome && okC u && us.all okC
theorem okW_cons {us : List Un} (h : okW us = true) : ∃ c t us',us = ⟨none,c,t⟩ :: us' ∧ c ≠ 0 ∧ same (sOf [c]) nlS = false ∧ inWs c = false ∧ same (sOf [c]) quS = false ∧ same (sOf [c]) bsS = false ∧ us'.all okC = true := by
  cases us with
  | nil => cases h
  | cons u us =>
    obtain ⟨o,c,t⟩ := u
    cases o with
    | some => simp [okW] at h
    | none =>
      simp only [okW,okC,okU,Bool.and_eq_true,Bool.not_eq_true',decide_eq_true_eq,Option.isNone_none,true_and] at h
      exact ⟨c,t,us,rfl,h.1.2.1.1,h.1.2.1.2,h.1.2.2.1,h.1.1,h.1.2.2.2,by simpa [okC,okU] using h.2⟩
theorem okE_cons {us : List Un} (h : okE us = true) : ∃ te c t us',us = ⟨some te,c,t⟩ :: us' ∧ c ≠ 0 ∧ same (sOf [c]) nlS = false ∧ us'.all okC = true := by
  cases us with
  | nil => cases h
  | cons u us =>
    obtain ⟨o,c,t⟩ := u
    cases o with
    | none => simp [okE] at h
    | some te =>
      simp only [okE,okC,okU,Bool.and_eq_true,Bool.not_eq_true',decide_eq_true_eq,Option.isSome_some,true_and,and_true] at h
      exact ⟨te,c,t,us,rfl,h.1.1,h.1.2,by simpa [okC,okU] using h.2⟩
theorem A_word_ws {us : List Un} {c : Nat} {t : Tok} (hD : D + 250 ≤ recursionLimit) (hi : X.ins = .ref R.st) (hu : okW us = true) (hs : rest.length + (signsOf us).length + 1 < sizeLine) (hl : us.length < sizeLine) (h0 : c ≠ 0) (hc : same (sOf [c]) nlS = false) (hw : inWs c = true) :
    GivesTok e D (loopA e.w F) (TokL e.w X R F ln q m ((rest ++ [chV c t]) ++ (signsOf us).reverse) n (frO F b X.l (.str (sOf []) tx))) X R F (fun _ => ln) q m rest (n + (signsOf us).length + 1) (txtOf us) := by
  obtain ⟨d,u,us',rfl,d0,dn,dw,dq,db,du⟩ := okW_cons hu
  simp only [signs_cons,List.length_append,Un.signs,List.length_cons,List.length_nil] at hs hl
  have := A_plain (e := e) (D := D) (F := F) (b := b) (tx := tx) (ln := ln) (q := q) (m := m) (n := n) (t := u) (cs := (rest ++ [chV c t]) ++ (signsOf us').reverse) (by omega) hi (by simp only [List.length_append,List.length_reverse,List.length_cons,List.length_nil]; omega) d0 dn dw dq db fun g k => C_to_ws (D := D + 50) (by omega) hi du (by omega) (x := [d]) (by simp; omega) h0 hc hw
  have e1 : n + 1 + (signsOf us').length + 1 = n + (signsOf (⟨none,d,u⟩ :: us')).length + 1 := by simp only [signs_cons,List.length_append,Un.signs,List.length_cons,List.length_nil]; omega
  rw [e1] at this
  simpa [signs_cons,Un.signs,txtOf] using this
theorem A_word_nl {us : List Un} {i : Nat} {u0 tb : Tok} (hD : D + 250 ≤ recursionLimit) (hi : X.ins = .ref R.st) (hu : okW us = true) (hs : rest.length + (signsOf us).length + 1 < sizeLine) (hl : us.length < sizeLine) :
    GivesTok e D (loopA e.w F) (TokL e.w X R F (.int (.ofNat i) u0) q m ((rest ++ [chV 10 tb]) ++ (signsOf us).reverse) n (frO F b X.l (.str (sOf []) tx))) X R F (fun k => .int (.ofNat (i + 1)) k) q m rest (n + (signsOf us).length + 1) (txtOf us) := by
  obtain ⟨d,u,us',rfl,d0,dn,dw,dq,db,du⟩ := okW_cons hu
  simp only [signs_cons,List.length_append,Un.signs,List.length_cons,List.length_nil] at hs hl
  have := A_plain (e := e) (D := D) (F := F) (b := b) (tx := tx) (ln := .int (.ofNat i) u0) (q := q) (m := m) (n := n) (t := u) (cs := (rest ++ [chV 10 tb]) ++ (signsOf us').reverse) (by omega) hi (by simp only [List.length_append,List.length_reverse,List.length_cons,List.length_nil]; omega) d0 dn dw dq db fun g k => C_to_nl (D := D + 50) (by omega) hi du (by omega) (x := [d]) (by simp; omega)
  have e1 : n + 1 + (signsOf us').length + 1 = n + (signsOf (⟨none,d,u⟩ :: us')).length + 1 := by simp only [signs_cons,List.length_append,Un.signs,List.length_cons,List.length_nil]; omega
  rw [e1] at this
  simpa [signs_cons,Un.signs,txtOf] using this
theorem A_word_end {us : List Un} (hD : D + 250 ≤ recursionLimit) (hi : X.ins = .ref R.st) (hu : okW us = true) (hs : (signsOf us).length < sizeLine) (hl : us.length < sizeLine) :
    EndsTok e D (loopA e.w F) (TokL e.w X R F ln q m ((signsOf us).reverse) n (frO F b X.l (.str (sOf []) tx))) X R F ln q m (n + (signsOf us).length) (txtOf us) := by
  obtain ⟨d,u,us',rfl,d0,dn,dw,dq,db,du⟩ := okW_cons hu
  simp only [signs_cons,List.length_append,Un.signs,List.length_cons,List.length_nil] at hs hl
  have := A_plain_end (e := e) (D := D) (F := F) (b := b) (tx := tx) (ln := ln) (q := q) (m := m) (n := n) (t := u) (cs := [] ++ (signsOf us').reverse) (by omega) hi (by simp only [List.length_append,List.length_reverse,List.length_cons,List.length_nil]; omega) d0 dn dw dq db fun g k => C_to_end (D := D + 50) (by omega) hi du (by omega) (x := [d]) (by simp; omega)
  have e1 : n + 1 + (signsOf us').length = n + (signsOf (⟨none,d,u⟩ :: us')).length := by simp only [signs_cons,List.length_append,Un.signs,List.length_cons,List.length_nil]; omega
  rw [e1] at this
  simpa [signs_cons,Un.signs,txtOf] using this
theorem A_esc_ws {us : List Un} {c : Nat} {t : Tok} (hD : D + 250 ≤ recursionLimit) (hi : X.ins = .ref R.st) (hu : okE us = true) (hs : rest.length + (signsOf us).length + 1 < sizeLine) (hl : us.length < sizeLine) (h0 : c ≠ 0) (hc : same (sOf [c]) nlS = false) (hw : inWs c = true) :
    GivesTok e D (loopA e.w F) (TokL e.w X R F ln q m ((rest ++ [chV c t]) ++ (signsOf us).reverse) n (frO F b X.l (.str (sOf []) tx))) X R F (fun _ => ln) q m rest (n + (signsOf us).length + 1) (txtOf us) := by
  obtain ⟨te,d,u,us',rfl,d0,dn,du⟩ := okE_cons hu
  simp only [signs_cons,List.length_append,Un.signs,List.length_cons,List.length_nil] at hs hl
  have := A_esc (e := e) (D := D) (F := F) (b := b) (tx := tx) (te := te) (ln := ln) (q := q) (m := m) (n := n) (t := u) (cs := (rest ++ [chV c t]) ++ (signsOf us').reverse) (by omega) hi (by simp only [List.length_append,List.length_reverse,List.length_cons,List.length_nil]; omega) (by simp only [List.length_append,List.length_reverse,List.length_cons,List.length_nil]; omega) d0 dn fun g k => C_to_ws (D := D + 50) (by omega) hi du (by omega) (x := [d]) (by simp; omega) h0 hc hw
  have e1 : n + 1 + 1 + (signsOf us').length + 1 = n + (signsOf (⟨some te,d,u⟩ :: us')).length + 1 := by simp only [signs_cons,List.length_append,Un.signs,List.length_cons,List.length_nil]; omega
  rw [e1] at this
  simpa [signs_cons,Un.signs,txtOf] using this
theorem A_quoted {us : List Un} {ta tb : Tok} (hD : D + 250 ≤ recursionLimit) (hi : X.ins = .ref R.st) (hu : us.all okB = true) (hs : rest.length + (signsOf us).length + 2 < sizeLine) (hl : us.length < sizeLine) :
    GivesTok e D (loopA e.w F) (TokL e.w X R F ln q m (((rest ++ [chV 34 tb]) ++ (signsOf us).reverse) ++ [chV 34 ta]) n (frO F b X.l (.str (sOf []) tx))) X R F (fun _ => ln) q m rest (n + 1 + (signsOf us).length + 1) (txtOf us) :=
  A_quote (by omega) hi (by simp only [List.length_append,List.length_reverse,List.length_cons,List.length_nil]; omega) fun g k => B_to_close (D := D + 50) (x := []) (by omega) hi hu (by omega) (by simp; omega)
theorem A_quoted_end {us : List Un} {ta : Tok} (hD : D + 250 ≤ recursionLimit) (hi : X.ins = .ref R.st) (hu : us.all okB = true) (hs : (signsOf us).length + 2 < sizeLine) (hl : us.length < sizeLine) :
    EndsTok e D (loopA e.w F) (TokL e.w X R F ln q m (([] ++ (signsOf us).reverse) ++ [chV 34 ta]) n (frO F b X.l (.str (sOf []) tx))) X R F ln q m (n + 1 + (signsOf us).length) (txtOf us) :=
  A_quote_end (by omega) hi (by simp only [List.length_append,List.length_reverse,List.length_cons,List.length_nil]; omega) fun g k => B_to_end (D := D + 50) (x := []) (by omega) hi hu (by omega) (by simp; omega)
inductive Lead : List Value → Prop where
  | none : Lead []
  | ret (t : Tok) : Lead [chV 13 t]
theorem Lead.len {l : List Value} (h : Lead l) : l.length ≤ 1 := by cases h <;> simp
theorem A_lead {lead : List Value} (hl : Lead lead) (hD : D + 250 ≤ recursionLimit) (hi : X.ins = .ref R.st) (hn : cs.length < sizeLine) {n₂ : Nat}
    (h : ∀ b n,n + n₂ = n' → GivesTok e D (loopA e.w F) (TokL e.w X R F ln q m cs n (frO F b X.l (.str (sOf []) tx))) X R F lnf q m rest n' y) (hn' : n + lead.length + n₂ = n') :
    GivesTok e D (loopA e.w F) (TokL e.w X R F ln q m (cs ++ lead) n (frO F b X.l (.str (sOf []) tx))) X R F lnf q m rest n' y := by
  cases hl with
  | none => simpa using h b n (by simpa using hn')
  | ret t => exact A_blank (by omega) hi hn (by decide) (by decide) (by decide +kernel) fun g => h (some (g,chV 13 t)) (n + 1) (by simpa using hn')
theorem A_lead_end {lead : List Value} (hl : Lead lead) (hD : D + 250 ≤ recursionLimit) (hi : X.ins = .ref R.st) (hn : cs.length < sizeLine) {n₂ : Nat}
    (h : ∀ b n,n + n₂ = n' → EndsTok e D (loopA e.w F) (TokL e.w X R F ln q m cs n (frO F b X.l (.str (sOf []) tx))) X R F ln q m n' y) (hn' : n + lead.length + n₂ = n') :
    EndsTok e D (loopA e.w F) (TokL e.w X R F ln q m (cs ++ lead) n (frO F b X.l (.str (sOf []) tx))) X R F ln q m n' y := by
  cases hl with
  | none => simpa using h b n (by simpa using hn')
  | ret t => exact A_blank (by omega) hi hn (by decide) (by decide) (by decide +kernel) fun g => h (some (g,chV 13 t)) (n + 1) (by simpa using hn')

/-! ### get_token,from an empty line -/
noncomputable def getC (l : Addr) : Code := .call (.ref 66) ⟨[.ref l],[]⟩
theorem get_word_ws {us : List Un} {c : Nat} {t : Tok} (hD : D + 300 ≤ recursionLimit) (hi : X.ins = .ref R.st) (hu : okW us = true) (hs : rest.length + (signsOf us).length + 1 < sizeLine) (hl : us.length < sizeLine) (h0 : c ≠ 0) (hc : same (sOf [c]) nlS = false) (hw : inWs c = true) :
    Does e.G D (getC X.l) (X.L ln [] m ++ R.L e.w ((rest ++ [chV c t]) ++ (signsOf us).reverse) n) (fun _ : Tok × Tok => True) (fun z => retV (.str (sOf (txtOf us)) z.1)) (fun z => X.L ln [] m ++ R.L e.w rest (n + (signsOf us).length + 1)) (fun _ => []) :=
  G_ret (lnf := fun _ => ln) hD fun F tx => A_word_ws (b := none) (by omega) hi hu hs hl h0 hc hw
theorem get_word_nl {us : List Un} {i : Nat} {u0 tb : Tok} (hD : D + 300 ≤ recursionLimit) (hi : X.ins = .ref R.st) (hu : okW us = true) (hs : rest.length + (signsOf us).length + 1 < sizeLine) (hl : us.length < sizeLine) :
    Does e.G D (getC X.l) (X.L (.int (.ofNat i) u0) [] m ++ R.L e.w ((rest ++ [chV 10 tb]) ++ (signsOf us).reverse) n) (fun _ : Tok × Tok => True) (fun z => retV (.str (sOf (txtOf us)) z.1)) (fun z => X.L (.int (.ofNat (i + 1)) z.2) [] m ++ R.L e.w rest (n + (signsOf us).length + 1)) (fun _ => []) :=
  G_ret (lnf := fun k => .int (.ofNat (i + 1)) k) hD fun F tx => A_word_nl (b := none) (by omega) hi hu hs hl
theorem get_word_end {us : List Un} (hD : D + 300 ≤ recursionLimit) (hi : X.ins = .ref R.st) (hu : okW us = true) (hs : (signsOf us).length < sizeLine) (hl : us.length < sizeLine) :
    Does e.G D (getC X.l) (X.L ln [] m ++ R.L e.w ((signsOf us).reverse) n) (fun _ : Tok => True) (fun z => retV (.str (sOf (txtOf us)) z)) (fun z => X.L ln [] m ++ R.L e.w [] (n + (signsOf us).length)) (fun _ => []) :=
  G_end hD fun F tx => A_word_end (b := none) (by omega) hi hu hs hl
theorem get_esc_ws {us : List Un} {c : Nat} {t : Tok} {lead : List Value} (hL : Lead lead) (hD : D + 300 ≤ recursionLimit) (hi : X.ins = .ref R.st) (hu : okE us = true) (hs : rest.length + (signsOf us).length + 1 < sizeLine) (hl : us.length < sizeLine) (h0 : c ≠ 0) (hc : same (sOf [c]) nlS = false) (hw : inWs c = true) :
    Does e.G D (getC X.l) (X.L ln [] m ++ R.L e.w (((rest ++ [chV c t]) ++ (signsOf us).reverse) ++ lead) n) (fun _ : Tok × Tok => True) (fun z => retV (.str (sOf (txtOf us)) z.1)) (fun z => X.L ln [] m ++ R.L e.w rest (n + lead.length + ((signsOf us).length + 1))) (fun _ => []) :=
  G_ret (lnf := fun _ => ln) hD fun F tx => A_lead (b := none) hL (by omega) hi (by simp only [List.length_append,List.length_reverse,List.length_cons,List.length_nil]; omega) (n₂ := (signsOf us).length + 1) (fun b n hn => hn ▸ A_esc_ws (b := b) (by omega) hi hu hs hl h0 hc hw) rfl
theorem get_quoted {us : List Un} {ta tb : Tok} {lead : List Value} (hL : Lead lead) (hD : D + 300 ≤ recursionLimit) (hi : X.ins = .ref R.st) (hu : us.all okB = true) (hs : rest.length + (signsOf us).length + 2 < sizeLine) (hl : us.length < sizeLine) :
    Does e.G D (getC X.l) (X.L ln [] m ++ R.L e.w ((((rest ++ [chV 34 tb]) ++ (signsOf us).reverse) ++ [chV 34 ta]) ++ lead) n) (fun _ : Tok × Tok => True) (fun z => retV (.str (sOf (txtOf us)) z.1)) (fun z => X.L ln [] m ++ R.L e.w rest (n + lead.length + (1 + (signsOf us).length + 1))) (fun _ => []) :=
  G_ret (lnf := fun _ => ln) hD fun F tx => A_lead (b := none) hL (by omega) hi (by simp only [List.length_append,List.length_reverse,List.length_cons,List.length_nil]; omega) (n₂ := 1 + (signsOf us).length + 1) (n' := n + lead.length + (1 + (signsOf us).length + 1)) (fun b n hn => by rw [← hn,show n + (1 + (signsOf us).length + 1) = n + 1 + (signsOf us).length + 1 by omega]; exact A_quoted (b := b) (by omega) hi hu hs hl) rfl
theorem get_quoted_end {us : List Un} {ta : Tok} {lead : List Value} (hL : Lead lead) (hD : D + 300 ≤ recursionLimit) (hi : X.ins = .ref R.st) (hu : us.all okB = true) (hs : (signsOf us).length + 2 < sizeLine) (hl : us.length < sizeLine) :
    Does e.G D (getC X.l) (X.L ln [] m ++ R.L e.w ((([] ++ (signsOf us).reverse) ++ [chV 34 ta]) ++ lead) n) (fun _ : Tok => True) (fun z => retV (.str (sOf (txtOf us)) z)) (fun z => X.L ln [] m ++ R.L e.w [] (n + lead.length + (1 + (signsOf us).length))) (fun _ => []) :=
  G_end hD fun F tx => A_lead_end (b := none) hL (by omega) hi (by simp only [List.length_append,List.length_reverse,List.length_cons,List.length_nil]; omega) (n₂ := 1 + (signsOf us).length) (n' := n + lead.length + (1 + (signsOf us).length)) (fun b n hn => by rw [← hn,show n + (1 + (signsOf us).length) = n + 1 + (signsOf us).length by omega]; exact A_quoted_end (b := b) (by omega) hi hu hs hl) rfl
end
end Mine
namespace Mine
theorem Does.frame {G : Gc} {D : Nat} {c : Code} {pre : Led} {α : Type} {ok : α → Prop} {res : α → Result} {post news : α → Led} (F : Led) (h : Does G D c pre ok res post news) : Does G D c (pre ++ F) ok res (fun x => post x ++ F) news := by
  intro A R s h1 h2 hf ho hn hy hfin
  have hn' : (keys pre ++ keys F).Nodup := by
    have h0 := hn
    unfold keys at h0 ⊢
    rw [List.map_append] at h0
    exact h0
  have nd := List.nodup_append.mp hn'
  refine h A R s h1 h2 hf (fun p hp => ho p (List.mem_append.mpr (.inl hp))) nd.1 (fun p hp => hy p (List.mem_append.mpr (.inl hp))) fun x s' hx p1 p2 p3 p4 p5 p6 => ?_
  refine hfin x s' hx p1 (fun p hp => ?_) p3 ⟨p4.grown,fun b o' e nb => p4.keep b o' e fun hm => nb (by show b ∈ (pre ++ F).map _; rw [List.map_append]; exact List.mem_append.mpr (.inl hm))⟩ p5 p6
  rcases List.mem_append.mp hp with hp | hp
  · exact p2 p hp
  · refine p4.keep _ _ (ho p (List.mem_append.mpr (.inr hp))) fun hm => ?_
    exact nd.2.2 _ hm _ (List.mem_map_of_mem hp) rfl
noncomputable def xFirst (w : World) : Expr := atE (exprOf (lawB w)[10]!) []
noncomputable def xSigns (w : World) : Expr := atE (exprOf (lawB w)[11]!) []
noncomputable def xPushl (w : World) : Expr := atE (exprOf (lawB w)[16]!) [0,0]
noncomputable def xPushr (w : World) : Expr := atE (exprOf (lawB w)[16]!) [0,1]
noncomputable def xNow (w : World) : Expr := atE (exprOf (forBody (lawB w)[23]!)[2]!) []
noncomputable def xResl (w : World) : Expr := atE (exprOf (lawB w)[24]!) [0]
noncomputable def xResr (w : World) : Expr := atE (exprOf (lawB w)[24]!) [1]
noncomputable def GetsX (e : Env0) (D : Nat) (X : Lx) (R : Rx) (ln : Value) (q : List Value) (m : Nat) (cs : List Value) (n : Nat) (x : List Nat) (lnf : Tok → Value) (q' : List Value) (m' : Nat) (cs' : List Value) (n' : Nat) : Prop :=
  Does e.G D (getC X.l) (X.L ln q m ++ R.L e.w cs n) (fun _ : Tok × Tok => True) (fun z => retV (.str (sOf x) z.1)) (fun z => X.L (lnf z.2) q' m' ++ R.L e.w cs' n') (fun _ => [])
section
variable {e : Env0} {D : Nat} {C : Cx} {X : Lx} {R : Rx} {fr cl ll : Addr} {i k nl m m' n n' : Nat} {ln : Value} {lnf : Tok → Value} {q q' cs cs' ys lv : List Value} {x : List Nat} {tx : Tok} {mk : Bool} {b : Bnd}
theorem first_turn {α : Type} {ok : α → Prop} {res : α → Result} {post news : α → Led} (hD : D + 450 ≤ recursionLimit)  (hg : GetsX e (D + 50) X R ln q m cs n x lnf q' m' cs' n') (hn : ys.length ≤ sizeLine)
    (next : ∀ g (j1 : Tok) (z : Tok × Tok),Does e.G D (lawL e xFirst C fr [(sOf [108,105,110,101],cl)]) ([(C.it,ritO (i + 1) (k)),(C.acc,lob (ys ++ [.str (sOf x) z.1]) (ys.length + 1)),(C.dc,dcO [95] (some (g,.int (.ofNat i) j1))),(cl,cellO (.ref X.l))] ++ (X.L (lnf z.2) q' m' ++ R.L e.w cs' n')) ok res post news) :
    Does e.G D (lawL e xFirst C fr [(sOf [108,105,110,101],cl)]) ([(C.it,ritO (i) (k + 1)),(C.acc,lob (ys) (ys.length)),(C.dc,dcO [95] b),(cl,cellO (.ref X.l))] ++ (X.L ln q m ++ R.L e.w cs n)) ok res post news := by
  cases b
  all_goals
    refine walk (ts [1,1] <| ts [3,3,4,5,0,0,0,5,0,0,0,5,0,0,0,0,5,6,0] <| ts [11] <| ts [] <| tn [] []) (by omega) ?_; intro A₀ R₀ h₀ sz0 tk0 a0 ad aD fin gd mm o
    refine mm [0] (rnext_some (it := C.it) (i := i) (k := k)) ?_; intro o t0 sz1 tk1 _
    refine mm [4,4,4,4,4,4,4,4,4] hg ?_; intro o z sz2 tk2 _
    refine mm [10] (append_does (l := C.acc) (xs := ys) (n := ys.length) (v := .str (sOf x) z.1) hn) ?_; intro o _ sz3 tk3 _
    exact tail_same_w a0 [10,0,9,9,0,0,0,0,0,0,0,0,0] (fun o => entOf (o.ob 11) 0) (fun g => next g t0 z) ad (by kernel_rfl) (by kernel_rfl) fin
theorem first_end (hD : D + 450 ≤ recursionLimit) :
    Does e.G D (lawL e xFirst C fr [(sOf [108,105,110,101],cl)]) ([(C.it,ritO (i) (0)),(C.acc,lob (ys) (ys.length)),(C.dc,dcO [95] b),(cl,cellO (.ref X.l))] ++ (X.L ln q m ++ R.L e.w cs n)) (fun _ : Unit => True) (fun _ => .ok .next) (fun _ => ([(C.it,ritO (i) (0)),(C.acc,lob (ys) (ys.length)),(C.dc,dcO [95] b),(cl,cellO (.ref X.l))] ++ (X.L ln q m ++ R.L e.w cs n))) (fun _ => []) := by
  cases b
  all_goals
    refine walk (tn [1,1,1,1,1,1] []) (by omega) ?_; intro A₀ R₀ h₀ sz0 tk0 a0 ad aD fin gd mm o
    exact ret_good () [2,2,2,2,2,2,2,2,2,2,2,2,2] trivial fin rfl
theorem signs_turn {α : Type} {ok : α → Prop} {res : α → Result} {post news : α → Led} (hD : D + 450 ≤ recursionLimit) (hv : lv[i]? = some (.bool mk)) (hg : GetsX e (D + 50) X R ln q m cs n x lnf q' m' cs' n') (hn : ys.length ≤ sizeLine)
    (next : ∀ g (z : Tok × Tok),Does e.G D (lawL e xSigns C fr [(sOf [114,105,110,103],cl)]) ([(C.it,litO ll (i + 1)),(ll,lob lv nl),(C.acc,lob (ys ++ [.str (sOf x) z.1]) (ys.length + 1)),(C.dc,dcO [95] (some (g,.bool mk))),(cl,cellO (.ref X.l))] ++ (X.L (lnf z.2) q' m' ++ R.L e.w cs' n')) ok res post news) :
    Does e.G D (lawL e xSigns C fr [(sOf [114,105,110,103],cl)]) ([(C.it,litO ll (i)),(ll,lob lv nl),(C.acc,lob (ys) (ys.length)),(C.dc,dcO [95] b),(cl,cellO (.ref X.l))] ++ (X.L ln q m ++ R.L e.w cs n)) ok res post news := by
  cases b
  all_goals
    refine walk (ts [1,1] <| ts [4,4,5,6,0,0,0,6,0,0,0,6,0,0,0,0,6,7,0] <| ts [12] <| ts [] <| tn [] []) (by omega) ?_; intro A₀ R₀ h₀ sz0 tk0 a0 ad aD fin gd mm o
    refine mm [0,0] (lnext_some (it := C.it) (l := ll) (xs := lv) (n := nl) (i := i) (v := .bool mk) (by omega) hv) ?_; intro o _ sz1 tk1 _
    refine mm [5,5,5,5,5,5,5,5,5] hg ?_; intro o z sz2 tk2 _
    refine mm [11] (append_does (l := C.acc) (xs := ys) (n := ys.length) (v := .str (sOf x) z.1) hn) ?_; intro o _ sz3 tk3 _
    exact tail_same_w a0 [10,10,0,9,9,0,0,0,0,0,0,0,0,0] (fun o => entOf (o.ob 12) 0) (fun g => next g z) ad (by kernel_rfl) (by kernel_rfl) fin
theorem signs_end (hD : D + 450 ≤ recursionLimit) (hv : lv[i]? = none) :
    Does e.G D (lawL e xSigns C fr [(sOf [114,105,110,103],cl)]) ([(C.it,litO ll (i)),(ll,lob lv nl),(C.acc,lob (ys) (ys.length)),(C.dc,dcO [95] b),(cl,cellO (.ref X.l))] ++ (X.L ln q m ++ R.L e.w cs n)) (fun _ : Unit => True) (fun _ => .ok .next) (fun _ => ([(C.it,litE (i)),(ll,lob lv nl),(C.acc,lob (ys) (ys.length)),(C.dc,dcO [95] b),(cl,cellO (.ref X.l))] ++ (X.L ln q m ++ R.L e.w cs n))) (fun _ => []) := by
  cases b
  all_goals
    refine walk (ts [1,1] <| tn [1] []) (by omega) ?_; intro A₀ R₀ h₀ sz0 tk0 a0 ad aD fin gd mm o
    refine mm [0,0] (lnext_end (it := C.it) (l := ll) (xs := lv) (n := nl) (i := i) (by omega) hv) ?_; intro o x sz1 tk1 _
    exact ret_good () [2,2,2,2,2,2,2,2,2,2,2,2,2,2] trivial fin rfl
theorem resl_turn {α : Type} {ok : α → Prop} {res : α → Result} {post news : α → Led} (hD : D + 450 ≤ recursionLimit)  (hg : GetsX e (D + 50) X R ln q m cs n x lnf q' m' cs' n') (hn : ys.length ≤ sizeLine)
    (next : ∀ g (j1 : Tok) (z : Tok × Tok),Does e.G D (lawL e xResl C fr [(sOf [108,105,110,101],cl)]) ([(C.it,ritO (i + 1) (k)),(C.acc,lob (ys ++ [.str (sOf x) z.1]) (ys.length + 1)),(C.dc,dcO [95] (some (g,.int (.ofNat i) j1))),(cl,cellO (.ref X.l))] ++ (X.L (lnf z.2) q' m' ++ R.L e.w cs' n')) ok res post news) :
    Does e.G D (lawL e xResl C fr [(sOf [108,105,110,101],cl)]) ([(C.it,ritO (i) (k + 1)),(C.acc,lob (ys) (ys.length)),(C.dc,dcO [95] b),(cl,cellO (.ref X.l))] ++ (X.L ln q m ++ R.L e.w cs n)) ok res post news := by
  cases b
  all_goals
    refine walk (ts [1,1] <| ts [3,3,4,5,0,0,0,5,0,0,0,5,0,0,0,0,5,6,0] <| ts [11] <| ts [] <| tn [] []) (by omega) ?_; intro A₀ R₀ h₀ sz0 tk0 a0 ad aD fin gd mm o
    refine mm [0] (rnext_some (it := C.it) (i := i) (k := k)) ?_; intro o t0 sz1 tk1 _
    refine mm [4,4,4,4,4,4,4,4,4] hg ?_; intro o z sz2 tk2 _
    refine mm [10] (append_does (l := C.acc) (xs := ys) (n := ys.length) (v := .str (sOf x) z.1) hn) ?_; intro o _ sz3 tk3 _
    exact tail_same_w a0 [10,0,9,9,0,0,0,0,0,0,0,0,0] (fun o => entOf (o.ob 11) 0) (fun g => next g t0 z) ad (by kernel_rfl) (by kernel_rfl) fin
theorem resl_end (hD : D + 450 ≤ recursionLimit) :
    Does e.G D (lawL e xResl C fr [(sOf [108,105,110,101],cl)]) ([(C.it,ritO (i) (0)),(C.acc,lob (ys) (ys.length)),(C.dc,dcO [95] b),(cl,cellO (.ref X.l))] ++ (X.L ln q m ++ R.L e.w cs n)) (fun _ : Unit => True) (fun _ => .ok .next) (fun _ => ([(C.it,ritO (i) (0)),(C.acc,lob (ys) (ys.length)),(C.dc,dcO [95] b),(cl,cellO (.ref X.l))] ++ (X.L ln q m ++ R.L e.w cs n))) (fun _ => []) := by
  cases b
  all_goals
    refine walk (tn [1,1,1,1,1,1] []) (by omega) ?_; intro A₀ R₀ h₀ sz0 tk0 a0 ad aD fin gd mm o
    exact ret_good () [2,2,2,2,2,2,2,2,2,2,2,2,2] trivial fin rfl
theorem resr_turn {α : Type} {ok : α → Prop} {res : α → Result} {post news : α → Led} (hD : D + 450 ≤ recursionLimit)  (hg : GetsX e (D + 50) X R ln q m cs n x lnf q' m' cs' n') (hn : ys.length ≤ sizeLine)
    (next : ∀ g (j1 : Tok) (z : Tok × Tok),Does e.G D (lawL e xResr C fr [(sOf [114,105,110,103],cl)]) ([(C.it,ritO (i + 1) (k)),(C.acc,lob (ys ++ [.str (sOf x) z.1]) (ys.length + 1)),(C.dc,dcO [95] (some (g,.int (.ofNat i) j1))),(cl,cellO (.ref X.l))] ++ (X.L (lnf z.2) q' m' ++ R.L e.w cs' n')) ok res post news) :
    Does e.G D (lawL e xResr C fr [(sOf [114,105,110,103],cl)]) ([(C.it,ritO (i) (k + 1)),(C.acc,lob (ys) (ys.length)),(C.dc,dcO [95] b),(cl,cellO (.ref X.l))] ++ (X.L ln q m ++ R.L e.w cs n)) ok res post news := by
  cases b
  all_goals
    refine walk (ts [1,1] <| ts [3,3,4,5,0,0,0,5,0,0,0,5,0,0,0,0,5,6,0] <| ts [11] <| ts [] <| tn [] []) (by omega) ?_; intro A₀ R₀ h₀ sz0 tk0 a0 ad aD fin gd mm o
    refine mm [0] (rnext_some (it := C.it) (i := i) (k := k)) ?_; intro o t0 sz1 tk1 _
    refine mm [4,4,4,4,4,4,4,4,4] hg ?_; intro o z sz2 tk2 _
    refine mm [10] (append_does (l := C.acc) (xs := ys) (n := ys.length) (v := .str (sOf x) z.1) hn) ?_; intro o _ sz3 tk3 _
    exact tail_same_w a0 [10,0,9,9,0,0,0,0,0,0,0,0,0] (fun o => entOf (o.ob 11) 0) (fun g => next g t0 z) ad (by kernel_rfl) (by kernel_rfl) fin
theorem resr_end (hD : D + 450 ≤ recursionLimit) :
    Does e.G D (lawL e xResr C fr [(sOf [114,105,110,103],cl)]) ([(C.it,ritO (i) (0)),(C.acc,lob (ys) (ys.length)),(C.dc,dcO [95] b),(cl,cellO (.ref X.l))] ++ (X.L ln q m ++ R.L e.w cs n)) (fun _ : Unit => True) (fun _ => .ok .next) (fun _ => ([(C.it,ritO (i) (0)),(C.acc,lob (ys) (ys.length)),(C.dc,dcO [95] b),(cl,cellO (.ref X.l))] ++ (X.L ln q m ++ R.L e.w cs n))) (fun _ => []) := by
  cases b
  all_goals
    refine walk (tn [1,1,1,1,1,1] []) (by omega) ?_; intro A₀ R₀ h₀ sz0 tk0 a0 ad aD fin gd mm o
    exact ret_good () [2,2,2,2,2,2,2,2,2,2,2,2,2] trivial fin rfl
theorem pushl_turn {α : Type} {ok : α → Prop} {res : α → Result} {post news : α → Led} (hD : D + 450 ≤ recursionLimit) (hv : lv[i]? = some (.str (sOf x) tx)) (hq : q.length ≤ sizeLine) (hn : ys.length ≤ sizeLine)
    (next : ∀ g,Does e.G D (lawL e xPushl C fr [(sOf [108,105,110,101],cl)]) ([(C.it,litO ll (i + 1)),(ll,lob lv nl),(C.acc,lob (ys ++ [.none]) (ys.length + 1)),(C.dc,dcO [119,111,114,100] (some (g,.str (sOf x) tx))),(cl,cellO (.ref X.l))] ++ (X.L ln (q ++ [.str (sOf x) tx]) (m + 1))) ok res post news) :
    Does e.G D (lawL e xPushl C fr [(sOf [108,105,110,101],cl)]) ([(C.it,litO ll (i)),(ll,lob lv nl),(C.acc,lob (ys) (ys.length)),(C.dc,dcO [119,111,114,100] b),(cl,cellO (.ref X.l))] ++ (X.L ln q m)) ok res post news := by
  cases b
  all_goals
    refine walk (ts [1,1] <| ts [4,4,5,6,0,0,0,6,0,0,0,6,0,0,0,0,6,7,4,0] <| ts [6] <| ts [] <| tn [] []) (by omega) ?_; intro A₀ R₀ h₀ sz0 tk0 a0 ad aD fin gd mm o
    refine mm [0,0] (lnext_some (it := C.it) (l := ll) (xs := lv) (n := nl) (i := i) (v := .str (sOf x) tx) (by omega) hv) ?_; intro o _ sz1 tk1 _
    refine mm [5,5,5] (push_does (X := X) (ln := ln) (xs := q) (n := m) (sv := sOf x) (tv := tx) (by omega) hq) ?_; intro o _ sz2 tk2 _
    refine mm [5] (append_does (l := C.acc) (xs := ys) (n := ys.length) (v := .none) hn) ?_; intro o _ sz3 tk3 _
    exact tail_same_w a0 [4,4,0,3,3,0,0,0] (fun o => entOf (o.ob 6) 0) (fun g => next g) ad (by kernel_rfl) (by kernel_rfl) fin
theorem pushl_end (hD : D + 450 ≤ recursionLimit) (hv : lv[i]? = none) :
    Does e.G D (lawL e xPushl C fr [(sOf [108,105,110,101],cl)]) ([(C.it,litO ll (i)),(ll,lob lv nl),(C.acc,lob (ys) (ys.length)),(C.dc,dcO [119,111,114,100] b),(cl,cellO (.ref X.l))] ++ (X.L ln q m)) (fun _ : Unit => True) (fun _ => .ok .next) (fun _ => ([(C.it,litE (i)),(ll,lob lv nl),(C.acc,lob (ys) (ys.length)),(C.dc,dcO [119,111,114,100] b),(cl,cellO (.ref X.l))] ++ (X.L ln q m))) (fun _ => []) := by
  cases b
  all_goals
    refine walk (ts [1,1] <| tn [1] []) (by omega) ?_; intro A₀ R₀ h₀ sz0 tk0 a0 ad aD fin gd mm o
    refine mm [0,0] (lnext_end (it := C.it) (l := ll) (xs := lv) (n := nl) (i := i) (by omega) hv) ?_; intro o x sz1 tk1 _
    exact ret_good () [2,2,2,2,2,2,2,2] trivial fin rfl
theorem pushr_turn {α : Type} {ok : α → Prop} {res : α → Result} {post news : α → Led} (hD : D + 450 ≤ recursionLimit) (hv : lv[i]? = some (.str (sOf x) tx)) (hq : q.length ≤ sizeLine) (hn : ys.length ≤ sizeLine)
    (next : ∀ g,Does e.G D (lawL e xPushr C fr [(sOf [114,105,110,103],cl)]) ([(C.it,litO ll (i + 1)),(ll,lob lv nl),(C.acc,lob (ys ++ [.none]) (ys.length + 1)),(C.dc,dcO [115,105,103,110] (some (g,.str (sOf x) tx))),(cl,cellO (.ref X.l))] ++ (X.L ln (q ++ [.str (sOf x) tx]) (m + 1))) ok res post news) :
    Does e.G D (lawL e xPushr C fr [(sOf [114,105,110,103],cl)]) ([(C.it,litO ll (i)),(ll,lob lv nl),(C.acc,lob (ys) (ys.length)),(C.dc,dcO [115,105,103,110] b),(cl,cellO (.ref X.l))] ++ (X.L ln q m)) ok res post news := by
  cases b
  all_goals
    refine walk (ts [1,1] <| ts [4,4,5,6,0,0,0,6,0,0,0,6,0,0,0,0,6,7,4,0] <| ts [6] <| ts [] <| tn [] []) (by omega) ?_; intro A₀ R₀ h₀ sz0 tk0 a0 ad aD fin gd mm o
    refine mm [0,0] (lnext_some (it := C.it) (l := ll) (xs := lv) (n := nl) (i := i) (v := .str (sOf x) tx) (by omega) hv) ?_; intro o _ sz1 tk1 _
    refine mm [5,5,5] (push_does (X := X) (ln := ln) (xs := q) (n := m) (sv := sOf x) (tv := tx) (by omega) hq) ?_; intro o _ sz2 tk2 _
    refine mm [5] (append_does (l := C.acc) (xs := ys) (n := ys.length) (v := .none) hn) ?_; intro o _ sz3 tk3 _
    exact tail_same_w a0 [4,4,0,3,3,0,0,0] (fun o => entOf (o.ob 6) 0) (fun g => next g) ad (by kernel_rfl) (by kernel_rfl) fin
theorem pushr_end (hD : D + 450 ≤ recursionLimit) (hv : lv[i]? = none) :
    Does e.G D (lawL e xPushr C fr [(sOf [114,105,110,103],cl)]) ([(C.it,litO ll (i)),(ll,lob lv nl),(C.acc,lob (ys) (ys.length)),(C.dc,dcO [115,105,103,110] b),(cl,cellO (.ref X.l))] ++ (X.L ln q m)) (fun _ : Unit => True) (fun _ => .ok .next) (fun _ => ([(C.it,litE (i)),(ll,lob lv nl),(C.acc,lob (ys) (ys.length)),(C.dc,dcO [115,105,103,110] b),(cl,cellO (.ref X.l))] ++ (X.L ln q m))) (fun _ => []) := by
  cases b
  all_goals
    refine walk (ts [1,1] <| tn [1] []) (by omega) ?_; intro A₀ R₀ h₀ sz0 tk0 a0 ad aD fin gd mm o
    refine mm [0,0] (lnext_end (it := C.it) (l := ll) (xs := lv) (n := nl) (i := i) (by omega) hv) ?_; intro o x sz1 tk1 _
    exact ret_good () [2,2,2,2,2,2,2,2] trivial fin rfl
theorem now_turn {α : Type} {ok : α → Prop} {res : α → Result} {post news : α → Led} (hD : D + 450 ≤ recursionLimit) (hv : lv[i]? = some (.bool mk)) (hq : q.length < sizeLine) (hn : ys.length ≤ sizeLine)
    (next : ∀ g,Does e.G D (lawL e xNow C fr [(sOf [114,105,110,103],cl)]) ([(C.it,litO ll (i + 1)),(ll,lob lv nl),(C.acc,lob (ys ++ [.str (sOf x) tx]) (ys.length + 1)),(C.dc,dcO [95] (some (g,.bool mk))),(cl,cellO (.ref X.l))] ++ (X.L ln q (m + 1))) ok res post news) :
    Does e.G D (lawL e xNow C fr [(sOf [114,105,110,103],cl)]) ([(C.it,litO ll (i)),(ll,lob lv nl),(C.acc,lob (ys) (ys.length)),(C.dc,dcO [95] b),(cl,cellO (.ref X.l))] ++ (X.L ln (.str (sOf x) tx :: q) m)) ok res post news := by
  cases b
  all_goals
    refine walk (ts [1,1] <| ts [4,4,5,6,0,0,0,6,0,0,0,6,0,0,0,0,6,7,0] <| ts [6] <| ts [] <| tn [] []) (by omega) ?_; intro A₀ R₀ h₀ sz0 tk0 a0 ad aD fin gd mm o
    refine mm [0,0] (lnext_some (it := C.it) (l := ll) (xs := lv) (n := nl) (i := i) (v := .bool mk) (by omega) hv) ?_; intro o _ sz1 tk1 _
    refine mm [5,5,5] (getq_does (X := X) (ln := ln) (xs := q) (n := m) (sv := sOf x) (tv := tx) (by omega) hq) ?_; intro o z sz2 tk2 _
    refine mm [5] (append_does (l := C.acc) (xs := ys) (n := ys.length) (v := .str (sOf x) tx) hn) ?_; intro o _ sz3 tk3 _
    exact tail_same_w a0 [4,4,0,3,3,0,0,0] (fun o => entOf (o.ob 6) 0) (fun g => next g) ad (by kernel_rfl) (by kernel_rfl) fin
theorem now_end (hD : D + 450 ≤ recursionLimit) (hv : lv[i]? = none) :
    Does e.G D (lawL e xNow C fr [(sOf [114,105,110,103],cl)]) ([(C.it,litO ll (i)),(ll,lob lv nl),(C.acc,lob (ys) (ys.length)),(C.dc,dcO [95] b),(cl,cellO (.ref X.l))] ++ (X.L ln q m)) (fun _ : Unit => True) (fun _ => .ok .next) (fun _ => ([(C.it,litE (i)),(ll,lob lv nl),(C.acc,lob (ys) (ys.length)),(C.dc,dcO [95] b),(cl,cellO (.ref X.l))] ++ (X.L ln q m))) (fun _ => []) := by
  cases b
  all_goals
    refine walk (ts [1,1] <| tn [1] []) (by omega) ?_; intro A₀ R₀ h₀ sz0 tk0 a0 ad aD fin gd mm o
    refine mm [0,0] (lnext_end (it := C.it) (l := ll) (xs := lv) (n := nl) (i := i) (by omega) hv) ?_; intro o x sz1 tk1 _
    exact ret_good () [2,2,2,2,2,2,2,2] trivial fin rfl
end
end Mine
end
section
open PySem PySem.W PySem.W.X PyProof.Rows PySem.Spec PySem.Calls
set_option genInjectivity false
set_option genCtorIdx false
set_option backward.match.sparseCases false
namespace Mine
section
variable {G : Gc} {h₀ : Heap} {H : List Addr} {A₀ : Around} {R₀ : Result → Shared → Prop}
theorem Rep.sub {h : Heap} {L L' : Led} {sz : Nat} (D : Rep G h₀ H h (L ++ L') sz) : Rep G h₀ H h L sz :=
  ⟨D.size,D.base,fun p hp => D.own p (List.mem_append.mpr (.inl hp)),by have := D.nodup; rw [List.map_append] at this; exact (List.nodup_append.mp this).1,fun p hp => D.young p (List.mem_append.mpr (.inl hp)),D.grown,D.keep,fun p hp => D.mine p (List.mem_append.mpr (.inl hp))⟩
theorem Rep.inner {h h' : Heap} {pre rest L' : Led} {sz sz' : Nat} (D : Rep G h₀ H h (pre ++ rest) sz) (D' : Rep G h (keys pre) h' L' sz') : Rep G h₀ H h' (L' ++ rest) sz' := by
  have nd : (keys pre ++ keys rest).Nodup := by
    have := D.nodup
    rw [List.map_append] at this
    exact this
  have nd' := List.nodup_append.mp nd
  have hsz : h₀.objs.size ≤ h.objs.size := by rw [D.size]; exact D.grown
  refine ⟨D'.size,D'.base,?_,?_,?_,Nat.le_trans hsz D'.grown,?_,?_⟩
  · intro p hp
    rcases List.mem_append.mp hp with hp | hp
    · exact D'.own p hp
    · exact D'.keep _ _ (D.own p (List.mem_append.mpr (.inr hp))) fun hm => nd'.2.2 _ hm _ (List.mem_map_of_mem hp) rfl
  · rw [List.map_append]
    refine List.nodup_append.mpr ⟨D'.nodup,nd'.2.1,?_⟩
    intro a ha b hb e
    subst e
    obtain ⟨p,hp,e⟩ := List.mem_map.mp ha
    rcases D'.mine p hp with m | m
    · rw [e] at m
      exact nd'.2.2 _ m _ hb rfl
    · obtain ⟨q,hq,e'⟩ := List.mem_map.mp hb
      have lt := Heap.lt_size (D.own q (List.mem_append.mpr (.inr hq)))
      rw [e,← e'] at m
      exact absurd lt (Nat.not_lt.mpr m)
  · intro p hp
    rcases List.mem_append.mp hp with hp | hp
    · exact D'.young p hp
    · exact D.young p (List.mem_append.mpr (.inr hp))
  · intro b o e nb
    refine D'.keep b o (D.keep b o e nb) fun hm => ?_
    obtain ⟨q,hq,e'⟩ := List.mem_map.mp hm
    rcases D.mine q (List.mem_append.mpr (.inl hq)) with m | m
    · exact nb (e' ▸ m)
    · rw [e'] at m
      exact absurd (Heap.lt_size e) (Nat.not_lt.mpr m)
  · intro p hp
    rcases List.mem_append.mp hp with hp | hp
    · rcases D'.mine p hp with m | m
      · obtain ⟨q,hq,e'⟩ := List.mem_map.mp m
        have := D.mine q (List.mem_append.mpr (.inl hq))
        rw [e'] at this
        exact this
      · exact .inr (Nat.le_trans hsz m)
    · exact D.mine p (List.mem_append.mpr (.inr hp))
noncomputable def DoesR (G : Gc) (h₀ : Heap) (H : List Addr) (A₀ : Around) (R₀ : Result → Shared → Prop) (c : Code) (L : Led) : Prop :=
  ∀ h tk sz,Rep G h₀ H h L sz → codeAny (model G.prog G.w) A₀ c R₀ (G.sh h tk)
noncomputable def DoesL (G : Gc) (D : Nat) (c : Code) (pre : Led) {α : Type} (ok : α → Prop) (res : α → Result) (after : α → Led) : Prop :=
  ∀ (A : Around) (R : Result → Shared → Prop) (s : Shared),Calm A D → G.Fine s → Own s.heap pre → (keys pre).Nodup → G.Young pre →
    (∀ x h' tk' sz',ok x → Rep G s.heap (keys pre) h' (after x) sz' → R (res x) (G.sh h' tk')) → codeAny (model G.prog G.w) A c R s
theorem doesL_of {α : Type} {D : Nat} {c : Code} {pre : Led} {ok : α → Prop} {res : α → Result} {after : α → Led} (hD : D + 100 ≤ recursionLimit)
    (go : ∀ (A₀ : Around) (R₀ : Result → Shared → Prop) (h₀ : Heap),Calm A₀ D → A₀.depth + 100 ≤ recursionLimit →
      (∀ x h' tk' sz',ok x → Rep G h₀ (keys pre) h' (after x) sz' → R₀ (res x) (G.sh h' tk')) → DoesR G h₀ (keys pre) A₀ R₀ c pre) : DoesL G D c pre ok res after := by
  intro A R s h0 hf ho hn hy hfin
  rw [hf.eq]
  have := h0.deep
  exact go A R s.heap h0 (by omega) hfin s.heap s.toks s.heap.objs.size (Rep.start hf.base ho hn hy)
theorem tailR {c : Code} {pre : Led} {out : Out} (idx : List Nat) (does : DoesR G h₀ H A₀ R₀ c pre) (h1 : out.obsL = out.obsR) (h2 : out.tail? idx = some (c,pre)) : out.Good G h₀ H A₀ R₀ := by
  cases out with
  | ret => cases h2
  | bad => cases h2
  | badW => cases h2
  | mid => cases h2
  | stop c' κ tr st =>
    refine ⟨alike_of h1,fun h Dh => ?_⟩
    simp only [Out.tail?] at h2
    split at h2
    · split at h2
      · split at h2
        · rename_i q e
          simp only [Option.some.injEq,Prod.mk.injEq] at h2
          obtain ⟨rfl,e2⟩ := h2
          have pm := lpick_perm _ _ _ _ e
          have Dh' := Dh.perm pm
          rw [e2] at Dh'
          exact does h st.tk _ Dh'.sub
        · cases h2
      · cases h2
    · cases h2
theorem tailR_w {β : Type} {c : β → Code} {pre : β → Led} {out : Out} (idx : List Nat) (f : Out → β) (does : ∀ b,DoesR G h₀ H A₀ R₀ (c b) (pre b)) (h1 : out.obsL = out.obsR := by kernel_rfl) (h2 : out.tail? idx = some (c (f out),pre (f out)) := by kernel_rfl) : out.Good G h₀ H A₀ R₀ :=
  tailR idx (does (f out)) h1 h2
theorem retR {r : Result} {L : Led} {out : Out} (idx : List Nat) (fin : ∀ h tk sz,Rep G h₀ H h L sz → R₀ r (G.sh h tk)) (h1 : out.obsL = out.obsR := by kernel_rfl) (h2 : out.ret? idx = some (r,L) := by kernel_rfl) : out.Good G h₀ H A₀ R₀ := by
  cases out with
  | ret r' st =>
    refine ⟨alike_of h1,fun h Dh => ?_⟩
    simp only [Out.ret?] at h2
    split at h2
    · rename_i q e
      simp only [Option.some.injEq,Prod.mk.injEq] at h2
      obtain ⟨rfl,e2⟩ := h2
      have Dh' := Dh.perm (lpick_perm _ _ _ _ e)
      rw [e2] at Dh'
      exact fin h st.tk _ Dh'.sub
    · cases h2
  | stop => cases h2
  | mid => cases h2
  | bad => cases h2
  | badW => cases h2
theorem retR_w {β : Type} {r : β → Result} {L : β → Led} {out : Out} (idx : List Nat) (f : Out → β) (fin : ∀ b h tk sz,Rep G h₀ H h (L b) sz → R₀ (r b) (G.sh h tk)) (h1 : out.obsL = out.obsR) (h2 : out.ret? idx = some (r (f out),L (f out))) : out.Good G h₀ H A₀ R₀ :=
  retR idx (fin (f out)) h1 h2
theorem stop_goodL {α : Type} {D n : Nat} {c : Code} {pre : Led} {ok : α → Prop} {res : α → Result} {after : α → Led} {out : Out} {D₀ : Nat} (h0 : Calm A₀ D₀) (hA : A₀.depth + 100 ≤ recursionLimit) (idx : List Nat)
    (does : DoesL G D c pre ok res after) (hD : D₀ + 50 ≤ D)
    (h1 : out.obsL = out.obsR) (h2 : out.stop? idx = some (c,pre,none,true))
    (next : ∀ x sz tk,ok x → ∃ tr : List Ev,(cont G.kt G.tab G.set n (out.reTr tr) idx (res x) (after x) sz tk).Good G h₀ H A₀ R₀) : out.Good G h₀ H A₀ R₀ := by
  cases out with
  | ret => cases h2
  | bad => cases h2
  | badW => cases h2
  | mid => cases h2
  | stop c' κ tr st =>
    refine ⟨alike_of h1,fun h Dh => ?_⟩
    simp only [Out.stop?] at h2
    split at h2
    · rename_i q e
      simp only [Option.some.injEq,Prod.mk.injEq] at h2
      obtain ⟨rfl,e2,e3,e4⟩ := h2
      have pm := lpick_perm _ _ _ _ e
      have Dh' := Dh.perm pm
      rw [e2] at Dh'
      refine does (around A₀ κ) _ (G.sh h st.tk) ?_ ⟨Dh.base,rfl,rfl,rfl⟩ (fun p hp => Dh'.own p (List.mem_append.mpr (.inl hp))) ?_ (fun p hp => Dh'.young p (List.mem_append.mpr (.inl hp))) fun x h' tk' sz' hx Di => ?_
      · have e5 := Bool.and_eq_true_iff.mp e4
        have e6 := Nat.le_of_ble_eq_true e5.1
        have e7 := Nat.le_of_ble_eq_true e5.2
        have := h0.deep
        have := h0.units
        exact ⟨by rw [around_hd h0.hd,e3],by rw [around_depth]; omega,by rw [around_units]; omega⟩
      · have := Dh'.nodup
        rw [List.map_append] at this
        exact (List.nodup_append.mp this).1
      · obtain ⟨tr2,nx⟩ := next x sz' tk' hx
        simp only [Out.reTr,cont,e,List.append_assoc] at nx
        have D2 := Dh'.inner Di
        cases κ with
        | base => exact nx.elim
        | ret c₁ hd k κ => exact (run_sound h0.hd hA _ _ _ _ _ _ _ _ _ nx h' D2).2
    · cases h2
end
section
variable {e : Env0} {h₀ : Heap} {H : List Addr} {A₀ : Around} {R₀ : Result → Shared → Prop}
theorem walkR {c : Code} {L : Led} {D : Nat} (a0 : Calm A₀ D) (hA : A₀.depth + 100 ≤ recursionLimit) (tr : List Ev)
    (go : let gd := fun o : Out => o.Good e.G h₀ H A₀ R₀; Meeter e D gd → ∀ sz tk,let o := startY (kt e.w) 312 (settY e.w) fuel tr c L sz tk; gd o) : DoesR e.G h₀ H A₀ R₀ c L :=
  fun _ tk sz D => Enters.of_start a0.hd hA (start_good (go (@meeter e h₀ H A₀ R₀ _ a0 hA) sz tk)) D
theorem meetL {α : Type} {D : Nat} {c : Code} {pre : Led} {ok : α → Prop} {res : α → Result} {after : α → Led} {out : Out} {D₀ : Nat} (h0 : Calm A₀ D₀) (hA : A₀.depth + 100 ≤ recursionLimit) (idx : List Nat)
    (does : DoesL e.G D c pre ok res after) (hD : D₀ + 50 ≤ D)
    (h1 : out.obsL = out.obsR) (h2 : out.stop? idx = some (c,pre,none,true))
    (next : ∀ x sz tk,ok x → ∃ tr : List Ev,let o := contY (kt e.w) 312 (settY e.w) fuel (out.reTr tr) idx (res x) (after x) sz tk; o.Good e.G h₀ H A₀ R₀) : out.Good e.G h₀ H A₀ R₀ :=
  stop_goodL h0 hA idx does hD h1 h2 fun x sz tk hx => by
    obtain ⟨tr,h⟩ := next x sz tk hx
    exact ⟨tr,cont_good h⟩
theorem meetL_v {α β : Type} {D : Nat} {c : β → Code} {pre : β → Led} {ok : β → α → Prop} {res : β → α → Result} {after : β → α → Led} {out : Out} {D₀ : Nat} (h0 : Calm A₀ D₀) (hA : A₀.depth + 100 ≤ recursionLimit) (idx : List Nat) (f : Out → β)
    (does : ∀ b,DoesL e.G D (c b) (pre b) (ok b) (res b) (after b)) (hD : D₀ + 50 ≤ D)
    (h1 : out.obsL = out.obsR) (h2 : out.stop? idx = some (c (f out),pre (f out),none,true))
    (next : ∀ x sz tk,ok (f out) x → ∃ tr : List Ev,let o := contY (kt e.w) 312 (settY e.w) fuel (out.reTr tr) idx (res (f out) x) (after (f out) x) sz tk; o.Good e.G h₀ H A₀ R₀) : out.Good e.G h₀ H A₀ R₀ :=
  meetL h0 hA idx (does (f out)) hD h1 h2 next
theorem room_v {β : Type} {D : Nat} {out : Out} (h0 : Calm A₀ D) (hA : A₀.depth + 100 ≤ recursionLimit) (hD : 8 * D + 1300 < cLine) (f : Out → β) (k : β → List (Code × Pos) → Sem PySem.Fin) (t : β → Sem PySem.Fin) (tr : List Ev) (h1 : out.obsL = out.obsR) (h2 : out.small = true) (heq : out.midT = .stack (k (f out)))
    (hk : ∀ b (acts : List (Code × Pos)),¬ (acts.map (·.1.cUnits)).sum ≥ cLine → k b acts = t b)
    (next : let o := contMY (kt e.w) 312 (settY e.w) fuel out (t (f out)) tr; o.Good e.G h₀ H A₀ R₀) : out.Good e.G h₀ H A₀ R₀ :=
  room h0 hA hD (k (f out)) (t (f out)) tr h1 h2 heq (hk (f out)) next
end
end Mine
end
section
open PySem PySem.W PySem.W.X PyProof.Rows
set_option genInjectivity false
set_option genCtorIdx false
set_option backward.match.sparseCases false
namespace Mine
noncomputable def nmS (j : Nat) : List Nat := match j with
  | 0 => [99,101,108,108,115]
  | 1 => [104,105,103,104]
  | 2 => [109,97,114,107,115]
  | 3 => [111,114,100,101,114]
  | 4 => [116,101,120,116]
  | 5 => [115,104,111,119,110]
  | 6 => [102,105,114,115,116]
  | 7 => [115,105,103,110,115]
  | 8 => [116,111,108,100]
  | 9 => [112,97,105,114,115]
  | 10 => [116,97,98,108,101]
  | 11 => [116,111,116,97,108]
  | 12 => [107]
  | 13 => [95]
  | 14 => [110,97,109,101]
  | 15 => [115,105,122,101,100]
  | 16 => [110,111,119]
  | 17 => [115,105,103,110]
  | 18 => [109,97,115,107]
  | 19 => [118,97,108,117,101]
  | 20 => [114,111,119]
  | 21 => [99,111,108,117,109,110]
  | 22 => [115,105,122,101,115]
  | 23 => [118,97,108,117,101,115]
  | 24 => [114,101,115,116]
  | _ => []
structure Fk where
  hh : Nat → Int
  tt : Nat → Tok
  v : Nat → Value
structure Lk where
  h : Nat
  th : Tok
  ml : Addr
  ol : Addr
  H : Hd
  tot : Nat
  tu : Tok
  fl : Addr
  gl : Addr
noncomputable def Lk.v (k : Lk) (F : Fk) (j : Nat) : Value := match j with
  | 1 => .int (.ofNat k.h) k.th
  | 2 => .ref k.ml
  | 3 => .ref k.ol
  | 6 => .ref k.fl
  | 7 => .ref k.gl
  | 9 => .ref k.H.hl
  | 10 => .ref k.H.hd
  | 11 => .int (.ofNat k.tot) k.tu
  | j => F.v j
noncomputable def entF (k : Lk) (F : Fk) (j : Nat) : DictEntry := ⟨F.hh j,.str (sOf (nmS j)) (F.tt j),k.v F j⟩
noncomputable def lfO (k : Lk) (F : Fk) (ns : List Nat) : Obj := { cls := .type "frame", data := .dict ⟨ns.map (entF k F)⟩ ns.length }
noncomputable def lfT (k : Lk) (F : Fk) (ns : List Nat) (tl : List DictEntry) : Obj := { cls := .type "frame", data := .dict ⟨ns.map (entF k F) ++ tl⟩ (ns.length + tl.length) }
noncomputable def cellN (o : Option Value) : Obj := { cls := .type "cell", data := .cell o }
noncomputable def posL : List Nat → Nat → Nat
  | [],_ => 0
  | a :: l,j => match Nat.beq a j with
    | true => 0
    | false => posL l j + 1
noncomputable def entW (o : Obj) (i : Nat) : (Int × Tok) × Value := match o.data with
  | .dict es _ => match es.toList[i]? with
    | some en => match en.key with
      | .str _ t => ((en.hash,t),en.val)
      | _ => ((0,0),.none)
    | none => ((0,0),.none)
  | _ => ((0,0),.none)
noncomputable def fkOf (ns : List Nat) (o : Obj) : Fk := ⟨fun j => (entW o (posL ns j)).1.1,fun j => (entW o (posL ns j)).1.2,fun j => (entW o (posL ns j)).2⟩
noncomputable def addN (j : Nat) (ns : List Nat) : List Nat := match ns.elem j with
  | true => ns
  | false => ns ++ [j]
noncomputable def ns0 : List Nat := [0,1,2,3,4,5,6,7,8,9,10,11]
structure Ck where
  c_spot : Addr
  c_turn : Addr
  c_due : Addr
  c_ring : Addr
  c_line : Addr
  c_spots : Addr
  c_words : Addr
  c_base : Addr
  c_low : Addr
  c_wide : Addr
  c_fixed : Addr
  c_script : Addr
noncomputable def Ck.l (c : Ck) : List (Str × Addr) := [(sOf [115,112,111,116],c.c_spot),(sOf [116,117,114,110],c.c_turn),(sOf [100,117,101],c.c_due),(sOf [114,105,110,103],c.c_ring),(sOf [108,105,110,101],c.c_line),(sOf [115,112,111,116,115],c.c_spots),(sOf [119,111,114,100,115],c.c_words),(sOf [98,97,115,101],c.c_base),(sOf [108,111,119],c.c_low),(sOf [119,105,100,101],c.c_wide),(sOf [102,105,120,101,100],c.c_fixed),(sOf [115,99,114,105,112,116],c.c_script)]
noncomputable def lawEnv (w : World) (c : Ck) (fr : Addr) : Env := { scope := (fdAt w 356).scope,locals := fr,globals := 3,cells := c.l,qual := lawQ,func := some 356,code := .ref 355,frame := some fr }
noncomputable def lawF1 (w : World) (c : Ck) (fr it : Addr) : Code := forOf (lawB w)[21]! it (lawEnv w c fr)
noncomputable def lawF3 (w : World) (c : Ck) (fr it : Addr) : Code := forOf (forBody (lawB w)[23]!)[0]! it (lawEnv w c fr)
end Mine
end
section
open PySem PySem.W PySem.W.X PyProof.Rows
set_option genInjectivity false
set_option genCtorIdx false
namespace Mine
noncomputable def richR (op : CmpOp) (a b : Value) : Unit → Sem Value := by
  refine (?f : ∀ R : Unit → Sem Value, richCompare op a b = holding [a, b] (cRoomFor "comparison" [a, b] >>= R) → Unit → Sem Value) _ rfl
  exact fun R _ => R
noncomputable def roomU (acts : List (Code × Pos)) : Sem Unit := do
  if (acts.map (·.1.cUnits)).sum ≥ cLine then unsupported s!"recursion.c-limit:near:{"comparison"}"
noncomputable def testU (u : Sem Unit) (op : CmpOp) (a b : Value) : Sem Bool := do
  let c ← operate [a,b] (holding [a,b] (u >>= richR op a b))
  holding [c] (truthy c)
noncomputable def flowIf (t : Sem Bool) (body orelse rest : List Stmt) (env : Env) : Sem Flow := do
  match ← (do if ← t then execs body env else execs orelse env) with
  | .next => execs rest env
  | f => pure f
noncomputable def ifBody1 : Stmt → List Stmt
  | .If _ b _ _ => b
  | _ => []
noncomputable def ifElse1 : Stmt → List Stmt
  | .If _ _ o _ => o
  | _ => []
noncomputable def codeOf : Out → Code
  | .mid c .. => c
  | _ => default
noncomputable def forSite (c : Code) (m : List Stmt → Env → Sem Flow) : Sem PySem.Fin := match c with
  | .forLoop target it body orelse env => (do
      match ← m body env with
      | .next | .cont => again (.forLoop target it body orelse env)
      | .brk => pure (.done .next)
      | .ret v => pure (.done (.ret v)) : Sem PySem.Fin).onRaise (fun x => do noteFrame x env; theTreesLotGoes x)
  | _ => unsupported ""
noncomputable def tstB (bk : Nat) (t : Sem Bool) (env : Env) : Sem Bool := match bk with
  | 0 => t
  | 1 => do
    match BoolOp.And,← t with
    | .And,false => pure false
    | .Or,true => pure true
    | _,_ => allTrue .And [] env
  | _ => do
    match BoolOp.Or,← t with
    | .And,false => pure false
    | .Or,true => pure true
    | _,_ => allTrue .Or [] env
noncomputable def siteF1 (bk : Nat) (op : CmpOp) (i : Nat) (p : Code × Addr × Addr) (u : Sem Unit) : Sem PySem.Fin := forSite p.1 fun body env =>
  flowIf (tstB bk (testU u op (.ref p.2.1) (.ref p.2.2)) env) (ifBody1 body[i]!) (ifElse1 body[i]!) (body.drop (i + 1)) env
noncomputable def siteF1R (bk : Nat) (op : CmpOp) (i : Nat) (p : Code × Addr × Addr) (acts : List (Code × Pos)) : Sem PySem.Fin := siteF1 bk op i p (roomU acts)
noncomputable def siteF1T (bk : Nat) (op : CmpOp) (i : Nat) (p : Code × Addr × Addr) : Sem PySem.Fin := siteF1 bk op i p (pure ())
noncomputable def siteF3 (op : CmpOp) (i : Nat) (p : Code × Addr × Addr) (u : Sem Unit) : Sem PySem.Fin := forSite p.1 fun body env => do
  match ← flowIf (testU u op (.ref p.2.1) (.ref p.2.2)) (ifBody1 (ifElse1 body[i]!)[0]!) (ifElse1 (ifElse1 body[i]!)[0]!) [] env with
  | .next => execs (body.drop (i + 1)) env
  | f => pure f
noncomputable def siteF3R (op : CmpOp) (i : Nat) (p : Code × Addr × Addr) (acts : List (Code × Pos)) : Sem PySem.Fin := siteF3 op i p (roomU acts)
noncomputable def siteF3T (op : CmpOp) (i : Nat) (p : Code × Addr × Addr) : Sem PySem.Fin := siteF3 op i p (pure ())
lay_quick siteF1R siteF1T siteF3R siteF3T
noncomputable abbrev siteF1RY := PySem.W.Fast.tw3016720429086853130
theorem siteF1RY_eq : @siteF1R = siteF1RY := PySem.W.Fast.te3016720429086853130
noncomputable abbrev siteF1TY := PySem.W.Fast.tw9529705507122029166
theorem siteF1TY_eq : @siteF1T = siteF1TY := PySem.W.Fast.te9529705507122029166
noncomputable abbrev siteF3RY := PySem.W.Fast.tw18032907324877113177
theorem siteF3RY_eq : @siteF3R = siteF3RY := PySem.W.Fast.te18032907324877113177
noncomputable abbrev siteF3TY := PySem.W.Fast.tw7811560261972034282
theorem siteF3TY_eq : @siteF3T = siteF3TY := PySem.W.Fast.te7811560261972034282
theorem roomU_ok {acts : List (Code × Pos)} (h : ¬ (acts.map (·.1.cUnits)).sum ≥ cLine) : roomU acts = pure () := by
  unfold roomU
  rw [if_neg h]
theorem siteF1_ok {bk : Nat} {op : CmpOp} {i : Nat} (p : Code × Addr × Addr) (acts : List (Code × Pos)) (h : ¬ (acts.map (·.1.cUnits)).sum ≥ cLine) : siteF1RY bk op i p acts = siteF1TY bk op i p := by
  rw [← siteF1RY_eq,← siteF1TY_eq]
  unfold siteF1R siteF1T
  rw [roomU_ok h]
theorem siteF3_ok {op : CmpOp} {i : Nat} (p : Code × Addr × Addr) (acts : List (Code × Pos)) (h : ¬ (acts.map (·.1.cUnits)).sum ≥ cLine) : siteF3RY op i p acts = siteF3TY op i p := by
  rw [← siteF3RY_eq,← siteF3TY_eq]
  unfold siteF3R siteF3T
  rw [roomU_ok h]
end Mine
end
section
open PySem PySem.W PySem.W.X PyProof.Rows PySem.Spec PySem.Calls
set_option genInjectivity false
set_option genCtorIdx false
set_option backward.match.sparseCases false
namespace Mine
theorem does_of_meetsC {G : Gc} {D : Nat} {id : String} {args : Args} {B : Builtin} {S : Around → (Result → Shared → Prop) → Shared → Prop} {α : Type} {pre : Led} {ok : α → Prop} {res : α → Result} {post news : α → Led} (hp : plainId id = true) (he : entryFor table id = some B) (m : Meets (B args) S)
    (hS : ∀ (A : Around) (R : Result → Shared → Prop) (s : Shared),Calm A D → G.Fine s → Own s.heap pre → (keys pre).Nodup → G.Young pre →
      (∀ x s',ok x → G.Fine s' → Own s'.heap (post x) → Own s'.heap (news x) → Keeps (keys pre) s.heap s'.heap → (∀ p ∈ news x,s.heap.objs.size ≤ p.1) → (keys (news x)).Nodup → R (res x) s') → S A R s) :
    Does G D (.builtin id args) pre ok res post news := by
  intro A R s hc _ hf ho hn hy hfin
  refine codeAny_builtin he ?_
  rw [Around.under_plainId hp args]
  exact m _ _ _ _ _ (hS A R s hc hf ho hn hy hfin)
noncomputable def EqV (Z : Led) (k : Nat) (x y : Value) : Prop := ∀ (A : Around) (s : Shared),A.units + k < cLine → Own s.heap Z → SeqAt.EqAt A s x y true
noncomputable def EqVs (Z : Led) (k : Nat) (xs ys : List Value) : Prop := xs.length = ys.length ∧ ∀ (j : Nat) (x y : Value),xs[j]? = some x → ys[j]? = some y → EqV Z k x y
section
variable {Z : Led} {k : Nat}
theorem EqV.str (x : Str) (t u : Tok) : EqV Z k (.str x t) (.str x u) := fun A s _ _ => by
  have := SeqAt.EqAt.str_str (A := A) (s := s) x t x u
  simpa using this
theorem EqV.int (x : Int) (t u : Tok) : EqV Z k (.int x t) (.int x u) := fun A s _ _ => by
  have := SeqAt.EqAt.int_int (A := A) (s := s) x t x u
  simpa using this
theorem EqV.same (v : Value) : EqV Z k v v := fun A s _ _ => SeqAt.EqAt.same v
theorem all_true (n : Nat) : ((List.range n).all fun _ => true) = true := by
  rw [List.all_eq_true]; intro _ _; rfl
theorem EqVs.nil : EqVs Z k [] [] := ⟨rfl,fun j x y h => by simp at h⟩
theorem EqVs.cons {x y : Value} {xs ys : List Value} (h : EqV Z k x y) (hs : EqVs Z k xs ys) : EqVs Z k (x :: xs) (y :: ys) := by
  refine ⟨by simp [hs.1],fun j a b h1 h2 => ?_⟩
  cases j with
  | zero => simp at h1 h2; rw [← h1,← h2]; exact h
  | succ j => simp at h1 h2; exact hs.2 j a b h1 h2
theorem EqVs.strs : ∀ {ss : List (List Nat)} {xs ys : List Value},Strs ss xs → Strs ss ys → EqVs Z k xs ys
  | [],xs,ys,h1,h2 => by cases h1; cases h2; exact EqVs.nil
  | s :: ss,xs,ys,h1,h2 => by
    obtain ⟨t,xs',rfl,h1'⟩ := h1
    obtain ⟨u,ys',rfl,h2'⟩ := h2
    exact EqVs.cons (EqV.str _ _ _) (EqVs.strs h1' h2')
theorem EqVs.all (h : Own (s : Shared).heap Z) {xs ys : List Value} (hs : EqVs Z k xs ys) {A : Around} (hA : A.units + k < cLine) : ∀ j (h1 : j < (⟨xs⟩ : Array Value).size) (h2 : j < (⟨ys⟩ : Array Value).size),SeqAt.EqAt A s (⟨xs⟩ : Array Value)[j] (⟨ys⟩ : Array Value)[j] true := by
  intro j h1 h2
  exact hs.2 j _ _ (by simp) (by simp) A s hA h
theorem EqV.lists {l r : Addr} {xs ys : List Value} {n m : Nat} (hl : (l,lob xs n) ∈ Z) (hr : (r,lob ys m) ∈ Z) (hne : l ≠ r) (hs : EqVs Z k xs ys) : EqV Z (k + 1) (.ref l) (.ref r) := fun A s hA ho => by
  refine SeqAt.EqAt.of_refs hne ?_
  have := SeqAt.RcAt.lists (A := A) (s := s) (l := l) (b := r) (items := ⟨xs⟩) (items2 := ⟨ys⟩) (e := fun _ => true) ⟨_,ho _ hl,rfl,n,rfl⟩ ⟨_,ho _ hr,rfl,m,rfl⟩ (by simpa using hs.1) (by omega)
    (hs.all ho (by show A.units + 1 + k < cLine; omega))
  rwa [all_true] at this
theorem EqV.tuples {l r : Addr} {xs ys : List Value} (hl : (l,tob xs) ∈ Z) (hr : (r,tob ys) ∈ Z) (hne : l ≠ r) (hs : EqVs Z k xs ys) : EqV Z (k + 1) (.ref l) (.ref r) := fun A s hA ho => by
  refine SeqAt.EqAt.of_refs hne ?_
  have := SeqAt.RcAt.tuples (A := A) (s := s) (l := l) (b := r) (items := ⟨xs⟩) (items2 := ⟨ys⟩) (e := fun _ => true) ⟨_,ho _ hl,rfl,0,rfl⟩ ⟨_,ho _ hr,rfl,0,rfl⟩ (by omega)
    (hs.all ho (by show A.units + 1 + k < cLine; omega))
  rw [all_true] at this
  simpa [hs.1] using this
end
section
variable {G : Gc} {D k n m : Nat} {l r : Addr} {xs ys : List Value} {Z : Led}
theorem list_ne_does (hD : 8 * D + 400 < cLine) (hk : k ≤ 50) (hs : EqVs ([(l,lob xs n),(r,lob ys m)] ++ Z) k xs ys) :
    Does G D (.builtin "list.__ne__" ⟨[.ref l, .ref r], []⟩) ([(l, lob xs n), (r, lob ys m)] ++ Z) (fun _ : Unit => True) (fun _ => retV (.bool false)) (fun _ => [(l, lob xs n), (r, lob ys m)] ++ Z) (fun _ => []) := by
  refine does_of_meetsC (by decide +kernel) PySem.F.entry_list_ne (SeqAt.list_neAt l r ⟨xs⟩ ⟨ys⟩ n m none none #[] #[] (by simpa using hs.1) fun _ => true) ?_
  intro A R s hc hf ho hd hy hfin
  refine ⟨ho (l,lob xs n) (by simp),ho (r,lob ys m) (by simp),hs.all ho (by have := hc.units; show A.units + 1 + k < cLine; omega),?_⟩
  rw [all_true]
  exact hfin () s trivial hf ho own_nil ⟨Nat.le_refl _,fun _ _ e _ => e⟩ (fun _ hp => nomatch hp) List.nodup_nil
theorem list_eq_does (hD : 8 * D + 400 < cLine) (hk : k ≤ 50) (hs : EqVs ([(l,lob xs n),(r,lob ys m)] ++ Z) k xs ys) :
    Does G D (.builtin "list.__eq__" ⟨[.ref l, .ref r], []⟩) ([(l, lob xs n), (r, lob ys m)] ++ Z) (fun _ : Unit => True) (fun _ => retV (.bool true)) (fun _ => [(l, lob xs n), (r, lob ys m)] ++ Z) (fun _ => []) := by
  refine does_of_meetsC (by decide +kernel) PySem.F.entry_list_eq (SeqAt.list_eqAt l r ⟨xs⟩ ⟨ys⟩ n m none none #[] #[] (by simpa using hs.1) fun _ => true) ?_
  intro A R s hc hf ho hd hy hfin
  refine ⟨ho (l,lob xs n) (by simp),ho (r,lob ys m) (by simp),hs.all ho (by have := hc.units; show A.units + 1 + k < cLine; omega),?_⟩
  rw [all_true]
  exact hfin () s trivial hf ho own_nil ⟨Nat.le_refl _,fun _ _ e _ => e⟩ (fun _ hp => nomatch hp) List.nodup_nil
theorem list_eq_off (hlen : xs.length ≠ ys.length) :
    Does G D (.builtin "list.__eq__" ⟨[.ref l, .ref r], []⟩) ([(l, lob xs n), (r, lob ys m)]) (fun _ : Unit => True) (fun _ => retV (.bool false)) (fun _ => [(l, lob xs n), (r, lob ys m)]) (fun _ => []) := by
  refine does_of_meetsC (by decide +kernel) PySem.F.entry_list_eq (SeqAt.list_eq_lengthsAt l r ⟨xs⟩ ⟨ys⟩ n m none none #[] #[] (by simpa using hlen)) ?_
  intro A R s hc hf ho hd hy hfin
  exact ⟨ho (l,lob xs n) (by simp),ho (r,lob ys m) (by simp),hfin () s trivial hf ho own_nil ⟨Nat.le_refl _,fun _ _ e _ => e⟩ (fun _ hp => nomatch hp) List.nodup_nil⟩
theorem tuple_eq_does (hD : 8 * D + 400 < cLine) (hk : k ≤ 50) (hs : EqVs ([(l,tob xs),(r,tob ys)] ++ Z) k xs ys) :
    Does G D (.builtin "tuple.__eq__" ⟨[.ref l, .ref r], []⟩) ([(l, tob xs), (r, tob ys)] ++ Z) (fun _ : Unit => True) (fun _ => retV (.bool true)) (fun _ => [(l, tob xs), (r, tob ys)] ++ Z) (fun _ => []) := by
  refine does_of_meetsC (by decide +kernel) PySem.F.entry_tuple_eq (SeqAt.tuple_eqAt l r ⟨xs⟩ ⟨ys⟩ 0 0 none none #[] #[] fun _ => true) ?_
  intro A R s hc hf ho hd hy hfin
  refine ⟨ho (l,tob xs) (by simp),ho (r,tob ys) (by simp),hs.all ho (by have := hc.units; show A.units + 1 + k < cLine; omega),?_⟩
  rw [all_true]
  have := hfin () s trivial hf ho own_nil ⟨Nat.le_refl _,fun _ _ e _ => e⟩ (fun _ hp => nomatch hp) List.nodup_nil
  simpa [hs.1,retV] using this
end
end Mine
end
section
open PySem PySem.W PySem.W.X PyProof.Rows
set_option genInjectivity false
set_option genCtorIdx false
set_option backward.match.sparseCases false
namespace Mine
theorem eqNone2 {Z : Led} : EqVs Z 0 [.none,.none] [.none,.none] := EqVs.cons (EqV.same _) (EqVs.cons (EqV.same _) EqVs.nil)
structure Ld where
  wl : Addr
  sl : Addr
  dl : Addr
  wv : List Value
  sv : List Value
  dv : List Value
  ov : List Value
  nw : Nat
  ns : Nat
  nd : Nat
  no : Nat
structure Word (x : Str) : Prop where
  name : Name x
  lname : Name (Txt.lower x)
  ll : same (Txt.lower (Txt.lower x)) (Txt.lower x) = true
noncomputable def f1L (c : Ck) (fr it : Addr) (K : Lk) (E : Ld) (F : Fk) (ns : List Nat) (i : Nat) (ps : List Pair) (n : Nat) : Led :=
  [(it,litO K.ol i),(K.ol,lob E.ov E.no),(fr,lfO K F ns),(c.c_words,cellO (.ref E.wl)),(E.wl,lob E.wv E.nw),(c.c_spots,cellO (.ref E.sl)),(E.sl,lob E.sv E.ns),(c.c_due,cellO (.ref E.dl)),(E.dl,lob E.dv E.nd)] ++ K.H.L ps n
noncomputable def f1E (c : Ck) (fr it : Addr) (K : Lk) (E : Ld) (F : Fk) (ns : List Nat) (i : Nat) (ps : List Pair) (n : Nat) : Led :=
  [(it,litE i),(K.ol,lob E.ov E.no),(fr,lfO K F ns),(c.c_words,cellO (.ref E.wl)),(E.wl,lob E.wv E.nw),(c.c_spots,cellO (.ref E.sl)),(E.sl,lob E.sv E.ns),(c.c_due,cellO (.ref E.dl)),(E.dl,lob E.dv E.nd)] ++ K.H.L ps n
section
variable {e : Env0} {D : Nat} {h₀ : Heap} {H₀ : List Addr} {A₀ : Around} {R₀ : Result → Shared → Prop} {c : Ck} {fr it : Addr} {K : Lk} {E : Ld} {F : Fk} {ns : List Nat} {i n k : Nat} {t t4 t7 tw : Tok} {w s0 s : Str} {L : List Int} {a : Pair}
theorem f1_skip0 (a0 : Calm A₀ D) (aD : A₀.depth + 100 ≤ recursionLimit) (hD : D + 400 ≤ recursionLimit) (hC : 8 * D + 1300 < cLine) (hns : ns = ns0 ∨ ns = ns0 ++ [12]) (ho : E.ov[i]? = some (.int (.ofNat k) t)) (hd : Ints L E.dv) (hc : L.contains (.ofNat k) = false)
    (next : ∀ F,DoesR e.G h₀ H₀ A₀ R₀ (lawF1 e.w c fr it) (f1L c fr it K E F (ns0 ++ [12]) (i + 1) [] n)) :
    DoesR e.G h₀ H₀ A₀ R₀ (lawF1 e.w c fr it) (f1L c fr it K E F ns i [] n) := by
  rcases hns with rfl | rfl
  all_goals
    refine walkR a0 aD (ts [1,1] <| ts [3,3,3,8,9,9,9] <| ts [] <| tn [] []) ?_; intro gd mm sz0 tk0 o
    refine mm [0,0] (lnext_some (it := it) (l := K.ol) (xs := E.ov) (n := E.no) (i := i) (v := .int (.ofNat k) t) (by omega) ho) ?_; intro o _ sz1 tk1 _
    refine mm [8] (contains_does (L := L) (l := E.dl) (xs := E.dv) (n := E.nd) (k := .ofNat k) (u := t) (b := false) hd hc) ?_; intro o _ sz2 tk2 _
    exact tailR_w [1,1,1,1,1,1,1,1,0,0,0,0] (fun o => fkOf (ns0 ++ [12]) (o.ob 3)) (fun F => next F)
theorem f1_skip1 (a0 : Calm A₀ D) (aD : A₀.depth + 100 ≤ recursionLimit) (hD : D + 400 ≤ recursionLimit) (hC : 8 * D + 1300 < cLine) (hns : ns = ns0 ∨ ns = ns0 ++ [12]) (ho : E.ov[i]? = some (.int (.ofNat k) t)) (hd : Ints L E.dv) (hc : L.contains (.ofNat k) = false)
    (next : ∀ F,DoesR e.G h₀ H₀ A₀ R₀ (lawF1 e.w c fr it) (f1L c fr it K E F (ns0 ++ [12]) (i + 1) [a] n)) :
    DoesR e.G h₀ H₀ A₀ R₀ (lawF1 e.w c fr it) (f1L c fr it K E F ns i [a] n) := by
  rcases hns with rfl | rfl
  all_goals
    refine walkR a0 aD (ts [1,1] <| ts [3,3,3,8,9,9,9] <| ts [] <| tn [] []) ?_; intro gd mm sz0 tk0 o
    refine mm [0,0] (lnext_some (it := it) (l := K.ol) (xs := E.ov) (n := E.no) (i := i) (v := .int (.ofNat k) t) (by omega) ho) ?_; intro o _ sz1 tk1 _
    refine mm [8] (contains_does (L := L) (l := E.dl) (xs := E.dv) (n := E.nd) (k := .ofNat k) (u := t) (b := false) hd hc) ?_; intro o _ sz2 tk2 _
    exact tailR_w [1,1,1,1,1,1,1,1,0,0,0,0,0] (fun o => fkOf (ns0 ++ [12]) (o.ob 3)) (fun F => next F)
theorem f1_skip2 (a0 : Calm A₀ D) (aD : A₀.depth + 100 ≤ recursionLimit) (hD : D + 400 ≤ recursionLimit) (hC : 8 * D + 1300 < cLine) (hns : ns = ns0 ∨ ns = ns0 ++ [12]) {b : Pair} (ho : E.ov[i]? = some (.int (.ofNat k) t)) (hd : Ints L E.dv) (hc : L.contains (.ofNat k) = false)
    (next : ∀ F,DoesR e.G h₀ H₀ A₀ R₀ (lawF1 e.w c fr it) (f1L c fr it K E F (ns0 ++ [12]) (i + 1) [a,b] n)) :
    DoesR e.G h₀ H₀ A₀ R₀ (lawF1 e.w c fr it) (f1L c fr it K E F ns i [a,b] n) := by
  rcases hns with rfl | rfl
  all_goals
    refine walkR a0 aD (ts [1,1] <| ts [3,3,3,8,9,9,9] <| ts [] <| tn [] []) ?_; intro gd mm sz0 tk0 o
    refine mm [0,0] (lnext_some (it := it) (l := K.ol) (xs := E.ov) (n := E.no) (i := i) (v := .int (.ofNat k) t) (by omega) ho) ?_; intro o _ sz1 tk1 _
    refine mm [8] (contains_does (L := L) (l := E.dl) (xs := E.dv) (n := E.nd) (k := .ofNat k) (u := t) (b := false) hd hc) ?_; intro o _ sz2 tk2 _
    exact tailR_w [1,1,1,1,1,1,1,1,0,0,0,0,0,0] (fun o => fkOf (ns0 ++ [12]) (o.ob 3)) (fun F => next F)
theorem f1_d0 (a0 : Calm A₀ D) (aD : A₀.depth + 100 ≤ recursionLimit) (hD : D + 400 ≤ recursionLimit) (hC : 8 * D + 1300 < cLine) (hns : ns = ns0 ∨ ns = ns0 ++ [12]) (ho : E.ov[i]? = some (.int (.ofNat k) t)) (hd : Ints L E.dv) (hc : L.contains (.ofNat k) = true) (hw : E.wv[k]? = some (.str w tw)) (qw : E.wv.length ≤ sizeLine) (h0 : E.sv[0]? = some (.str s0 t4)) (hs : E.sv[k]? = some (.str s t7)) (qs : E.sv.length ≤ sizeLine) (W : Word w) (f0 : Fair s0) (fs : Fair s)
    (next : ∀ F (q : Pair),q.x = w → q.v = s → DoesR e.G h₀ H₀ A₀ R₀ (lawF1 e.w c fr it) (f1L c fr it K E F (ns0 ++ [12]) (i + 1) [q] (n + 3))) :
    DoesR e.G h₀ H₀ A₀ R₀ (lawF1 e.w c fr it) (f1L c fr it K E F ns i [] n) := by
  rcases hns with rfl | rfl
  all_goals
    refine walkR a0 aD (ts [1,1] <| ts [3,3,3,8,9,9,9] <| ts [0,4,5,4,6,6,6,6] <| ts [] <| ts [7,8,8,8,8] <| ts [0] <| ts [0,10,11,10,6,6,6,6] <| ts [12,10,6,6,6,6] <| ts [0] <| tn [] [.mid 0]) ?_; intro gd mm sz0 tk0 o
    refine mm [0,0] (lnext_some (it := it) (l := K.ol) (xs := E.ov) (n := E.no) (i := i) (v := .int (.ofNat k) t) (by omega) ho) ?_; intro o _ sz1 tk1 _
    refine mm [8] (contains_does (L := L) (l := E.dl) (xs := E.dv) (n := E.nd) (k := .ofNat k) (u := t) (b := true) hd hc) ?_; intro o _ sz2 tk2 _
    refine mm [5] (getit_does (l := E.wl) (xs := E.wv) (n := E.nw) (j := k) (u := t) (v := .str w tw) hw qw) ?_; intro o _ sz3 tk3 _
    refine mm [] (lower_does (x := w) (t := tw) W.name.short) ?_; intro o k3 sz4 tk4 _
    refine mm [7] (getit_does (l := E.sl) (xs := E.sv) (n := E.ns) (j := 0) (u := tk4) (v := .str s0 t4) h0 qs) ?_; intro o _ sz5 tk5 _
    refine mm [9,9,9] (setitem_0 (H := K.H) (n := n) (x := Txt.lower w) (t := k3) (v := s0) (u := t4) (by omega) W.lname f0) ?_; intro o r5 sz6 tk6 _
    refine mm [5] (getit_does (l := E.wl) (xs := E.wv) (n := E.nw) (j := k) (u := t) (v := .str w tw) hw qw) ?_; intro o _ sz7 tk7 _
    refine mm [5] (getit_does (l := E.sl) (xs := E.sv) (n := E.ns) (j := k) (u := t) (v := .str s t7) hs qs) ?_; intro o _ sz8 tk8 _
    refine mm [3,3,3,2] (setitem_h (H := K.H) (a := ⟨r5,Txt.lower w,k3,s0,t4⟩) (n := n + 1) (x := w) (t := tw) (v := s) (u := t7) (by omega) W.name W.lname W.ll fs) ?_; intro o r8 sz9 tk9 _
    refine room_v a0 aD (by omega) (fun o => (codeOf o,sz9,sz9 + 1)) (siteF1RY 1 .NotEq 0) (siteF1TY 1 .NotEq 0) (ts [2,1,2,1001,2] <| ts [] <| tn [] []) (by kernel_rfl) (by kernel_rfl) (by kernel_rfl) (fun p acts h => siteF1_ok p acts h) ?_; intro o
    refine mm [1,0] (list_ne_does (l := sz9) (r := sz9 + 1) (n := 0) (m := 0) (Z := []) (k := 0) (by omega) (by omega) eqNone2) ?_; intro o _ sz10 tk10 _
    exact tailR_w [10,10,10,10,8,9,7,8,7,3,3,3,2] (fun o => fkOf (ns0 ++ [12]) (o.ob 12)) (fun F => next F ⟨r8,w,tw,s,t7⟩ rfl rfl)
theorem f1_d1 (a0 : Calm A₀ D) (aD : A₀.depth + 100 ≤ recursionLimit) (hD : D + 400 ≤ recursionLimit) (hC : 8 * D + 1300 < cLine) (hns : ns = ns0 ∨ ns = ns0 ++ [12]) (ho : E.ov[i]? = some (.int (.ofNat k) t)) (hd : Ints L E.dv) (hc : L.contains (.ofNat k) = true) (hw : E.wv[k]? = some (.str w tw)) (qw : E.wv.length ≤ sizeLine) (h0 : E.sv[0]? = some (.str s0 t4)) (hs : E.sv[k]? = some (.str s t7)) (qs : E.sv.length ≤ sizeLine) (W : Word w) (f0 : Fair s0) (fs : Fair s) (Na : Name a.x) (sa1 : same (Txt.lower a.x) (Txt.lower (Txt.lower w)) = false) (sa2 : same (Txt.lower a.x) (Txt.lower w) = false)
    (next : ∀ F (q : Pair),q.x = w → q.v = s → DoesR e.G h₀ H₀ A₀ R₀ (lawF1 e.w c fr it) (f1L c fr it K E F (ns0 ++ [12]) (i + 1) [a,q] (n + 3))) :
    DoesR e.G h₀ H₀ A₀ R₀ (lawF1 e.w c fr it) (f1L c fr it K E F ns i [a] n) := by
  rcases hns with rfl | rfl
  all_goals
    refine walkR a0 aD (ts [1,1] <| ts [3,3,3,8,9,9,9] <| ts [0,4,5,4,6,6,6,6] <| ts [] <| ts [7,8,8,8,8] <| ts [0] <| ts [0,11,12,11,7,7,7,7] <| ts [13,11,7,7,7,7] <| ts [0] <| tn [] [.mid 0]) ?_; intro gd mm sz0 tk0 o
    refine mm [0,0] (lnext_some (it := it) (l := K.ol) (xs := E.ov) (n := E.no) (i := i) (v := .int (.ofNat k) t) (by omega) ho) ?_; intro o _ sz1 tk1 _
    refine mm [8] (contains_does (L := L) (l := E.dl) (xs := E.dv) (n := E.nd) (k := .ofNat k) (u := t) (b := true) hd hc) ?_; intro o _ sz2 tk2 _
    refine mm [5] (getit_does (l := E.wl) (xs := E.wv) (n := E.nw) (j := k) (u := t) (v := .str w tw) hw qw) ?_; intro o _ sz3 tk3 _
    refine mm [] (lower_does (x := w) (t := tw) W.name.short) ?_; intro o k3 sz4 tk4 _
    refine mm [7] (getit_does (l := E.sl) (xs := E.sv) (n := E.ns) (j := 0) (u := tk4) (v := .str s0 t4) h0 qs) ?_; intro o _ sz5 tk5 _
    refine mm [9,9,9,9] (setitem_n (H := K.H) (a := a) (n := n) (x := Txt.lower w) (t := k3) (v := s0) (u := t4) (by omega) W.lname Na sa1 f0) ?_; intro o r5 sz6 tk6 _
    refine mm [6] (getit_does (l := E.wl) (xs := E.wv) (n := E.nw) (j := k) (u := t) (v := .str w tw) hw qw) ?_; intro o _ sz7 tk7 _
    refine mm [6] (getit_does (l := E.sl) (xs := E.sv) (n := E.ns) (j := k) (u := t) (v := .str s t7) hs qs) ?_; intro o _ sz8 tk8 _
    refine mm [3,3,3,3,2] (setitem_nh (H := K.H) (a := a) (b := ⟨r5,Txt.lower w,k3,s0,t4⟩) (n := n + 1) (x := w) (t := tw) (v := s) (u := t7) (by omega) W.name Na sa2 W.lname W.ll fs) ?_; intro o r8 sz9 tk9 _
    refine room_v a0 aD (by omega) (fun o => (codeOf o,sz9,sz9 + 1)) (siteF1RY 1 .NotEq 0) (siteF1TY 1 .NotEq 0) (ts [2,1,2,1001,2] <| ts [] <| tn [] []) (by kernel_rfl) (by kernel_rfl) (by kernel_rfl) (fun p acts h => siteF1_ok p acts h) ?_; intro o
    refine mm [1,0] (list_ne_does (l := sz9) (r := sz9 + 1) (n := 0) (m := 0) (Z := []) (k := 0) (by omega) (by omega) eqNone2) ?_; intro o _ sz10 tk10 _
    exact tailR_w [11,11,11,11,9,10,8,9,8,3,3,3,3,2] (fun o => fkOf (ns0 ++ [12]) (o.ob 13)) (fun F => next F ⟨r8,w,tw,s,t7⟩ rfl rfl)
theorem f1_end0 (a0 : Calm A₀ D) (aD : A₀.depth + 100 ≤ recursionLimit) (hD : D + 400 ≤ recursionLimit) (hC : 8 * D + 1300 < cLine) (hns : ns = ns0 ∨ ns = ns0 ++ [12]) (ho : E.ov[i]? = none)
    (fin : ∀ h tk sz,Rep e.G h₀ H₀ h (f1E c fr it K E F ns i [] n) sz → R₀ (.ok .next) (e.G.sh h tk)) :
    DoesR e.G h₀ H₀ A₀ R₀ (lawF1 e.w c fr it) (f1L c fr it K E F ns i [] n) := by
  rcases hns with rfl | rfl
  all_goals
    refine walkR a0 aD (ts [1,1] <| tn [1] []) ?_; intro gd mm sz0 tk0 o
    refine mm [0,0] (lnext_end (it := it) (l := K.ol) (xs := E.ov) (n := E.no) (i := i) (by omega) ho) ?_; intro o x sz1 tk1 _
    exact retR [2,2,2,2,2,2,2,2,2,2,2,2] fin
theorem f1_end1 (a0 : Calm A₀ D) (aD : A₀.depth + 100 ≤ recursionLimit) (hD : D + 400 ≤ recursionLimit) (hC : 8 * D + 1300 < cLine) (hns : ns = ns0 ∨ ns = ns0 ++ [12]) (ho : E.ov[i]? = none)
    (fin : ∀ h tk sz,Rep e.G h₀ H₀ h (f1E c fr it K E F ns i [a] n) sz → R₀ (.ok .next) (e.G.sh h tk)) :
    DoesR e.G h₀ H₀ A₀ R₀ (lawF1 e.w c fr it) (f1L c fr it K E F ns i [a] n) := by
  rcases hns with rfl | rfl
  all_goals
    refine walkR a0 aD (ts [1,1] <| tn [1] []) ?_; intro gd mm sz0 tk0 o
    refine mm [0,0] (lnext_end (it := it) (l := K.ol) (xs := E.ov) (n := E.no) (i := i) (by omega) ho) ?_; intro o x sz1 tk1 _
    exact retR [2,2,2,2,2,2,2,2,2,2,2,2,2] fin
theorem f1_end2 (a0 : Calm A₀ D) (aD : A₀.depth + 100 ≤ recursionLimit) (hD : D + 400 ≤ recursionLimit) (hC : 8 * D + 1300 < cLine) (hns : ns = ns0 ∨ ns = ns0 ++ [12]) {b : Pair} (ho : E.ov[i]? = none)
    (fin : ∀ h tk sz,Rep e.G h₀ H₀ h (f1E c fr it K E F ns i [a,b] n) sz → R₀ (.ok .next) (e.G.sh h tk)) :
    DoesR e.G h₀ H₀ A₀ R₀ (lawF1 e.w c fr it) (f1L c fr it K E F ns i [a,b] n) := by
  rcases hns with rfl | rfl
  all_goals
    refine walkR a0 aD (ts [1,1] <| tn [1] []) ?_; intro gd mm sz0 tk0 o
    refine mm [0,0] (lnext_end (it := it) (l := K.ol) (xs := E.ov) (n := E.no) (i := i) (by omega) ho) ?_; intro o x sz1 tk1 _
    exact retR [2,2,2,2,2,2,2,2,2,2,2,2,2,2] fin
end
end Mine
namespace Mine
structure BF (wf sf : Nat → List Nat) (N : Nat) : Prop where
  pos : 0 < N
  small : N ≤ 100
  word : ∀ k,k < N → Word (sOf (wf k))
  ne : ∀ j k,j < N → k < N → j ≠ k → same (Txt.lower (sOf (wf j))) (Txt.lower (sOf (wf k))) = false
  spot : ∀ k,k < N → Fair (sOf (sf k))
noncomputable def fm (f : Nat) (x : Str) : Str := match f with
  | 0 => x
  | 1 => Txt.lower x
  | _ => Txt.upper x
noncomputable def HasPs (wf sf : Nat → List Nat) (ps : List Pair) (l : List (Nat × Nat)) : Prop := ps.map (fun q => (q.x,q.v)) = l.map fun p => (fm p.2 (sOf (wf p.1)),sOf (sf p.1))
theorem HasPs.len {wf sf : Nat → List Nat} {ps : List Pair} {l : List (Nat × Nat)} (h : HasPs wf sf ps l) : ps.length = l.length := by
  have := congrArg List.length h
  simpa using this
theorem HasPs.snoc {wf sf : Nat → List Nat} {ps : List Pair} {l : List (Nat × Nat)} {q : Pair} {k f : Nat} (h : HasPs wf sf ps l) (h1 : q.x = fm f (sOf (wf k))) (h2 : q.v = sOf (sf k)) : HasPs wf sf (ps ++ [q]) (l ++ [(k,f)]) := by
  unfold HasPs at *
  rw [List.map_append,List.map_append,h,List.map_singleton,List.map_singleton,h1,h2]
theorem ints_at {l : List Nat} {vs : List Value} (h : Ints (natI l) vs) {i k : Nat} (hk : l[i]? = some k) : ∃ t,vs[i]? = some (.int (.ofNat k) t) :=
  h.at (by unfold natI; rw [List.getElem?_map,hk]; rfl)
inductive PsIs (ps : List Pair) : Prop
  | z (p1 p2 : Pair) (h : ps = [])
  | o (p1 p2 : Pair) (h : ps = [p1])
  | t (p1 p2 : Pair) (h : ps = [p1,p2])
theorem ps_is {ps : List Pair} (h : ps.length ≤ 2) : PsIs ps := by
  have d : Pair := ⟨0,sOf [],0,sOf [],0⟩
  rcases ps with _ | ⟨p1,_ | ⟨p2,_ | ⟨p3,psr⟩⟩⟩
  · exact .z d d rfl
  · exact .o p1 d rfl
  · exact .t p1 p2 rfl
  · simp at h
theorem range_at {α : Type} {f : Nat → α} {N k : Nat} (hk : k < N) : ((List.range N).map f)[k]? = some (f k) := by
  rw [List.getElem?_map,List.getElem?_range hk]; rfl
theorem natI_contains {l : List Nat} {k : Nat} : (natI l).contains (.ofNat k) = l.contains k := by
  unfold natI
  induction l with
  | nil => rfl
  | cons a l ih =>
    rw [List.map_cons,List.contains_cons,List.contains_cons,ih]
    congr 1
    by_cases h : k = a
    · subst h; simp
    · have : ¬ ((Int.ofNat k) = (Int.ofNat a)) := fun e => h (by exact Int.ofNat.inj e)
      rw [beq_eq_false_iff_ne.mpr this,beq_eq_false_iff_ne.mpr h]
theorem small_size {n : Nat} (h : n ≤ 100) : n ≤ sizeLine := Nat.le_trans h hundred
section
variable {e : Env0} {D : Nat} {c : Ck} {fr it : Addr} {K : Lk} {E : Ld} {N : Nat} {wf sf : Nat → List Nat} {ord due : List Nat}
structure Lists (E : Ld) (wf sf : Nat → List Nat) (N : Nat) (ord due : List Nat) : Prop where
  ov : Ints (natI ord) E.ov
  dv : Ints (natI due) E.dv
  wv : Strs ((List.range N).map wf) E.wv
  sv : Strs ((List.range N).map sf) E.sv
noncomputable def hitsF (due : List Nat) (l : List Nat) : List (Nat × Nat) := (l.filter due.contains).map fun k => (k,0)
theorem hitsF_snoc {due l : List Nat} {k : Nat} (h : due.contains k = true) : hitsF due (l ++ [k]) = hitsF due l ++ [(k,0)] := by
  unfold hitsF; rw [List.filter_append,List.map_append]; simp only [List.filter_cons,h]; rfl
theorem hitsF_skip {due l : List Nat} {k : Nat} (h : due.contains k = false) : hitsF due (l ++ [k]) = hitsF due l := by
  unfold hitsF; rw [List.filter_append,List.map_append]; simp only [List.filter_cons,h]; simp
theorem f1_go {h₀ : Heap} {H₀ : List Addr} {A₀ : Around} {R₀ : Result → Shared → Prop} (a0 : Calm A₀ D) (aD : A₀.depth + 100 ≤ recursionLimit) (hD : D + 400 ≤ recursionLimit) (hC : 8 * D + 1300 < cLine)
    (B : BF wf sf N) (Q : Lists E wf sf N ord due) (hord : ∀ k ∈ ord,k < N) (nd : ord.Nodup) (h2 : (hitsF due ord).length ≤ 2)
    (fin : ∀ F ps n h tk sz,HasPs wf sf ps (hitsF due ord) → Rep e.G h₀ H₀ h (f1E c fr it K E F (ns0 ++ [12]) ord.length ps n) sz → R₀ (.ok .next) (e.G.sh h tk)) :
    ∀ (m i : Nat) (F : Fk) (ns : List Nat) (ps : List Pair) (n : Nat),i + m = ord.length → (0 < i ∧ ns = ns0 ++ [12] ∨ 0 < m ∧ ns = ns0) → HasPs wf sf ps (hitsF due (ord.take i)) →
      DoesR e.G h₀ H₀ A₀ R₀ (lawF1 e.w c fr it) (f1L c fr it K E F ns i ps n)
  | 0,i,F,ns,ps,n,hi,hns,hps => by
    have hns' : ns = ns0 ++ [12] := by rcases hns with h | h; exact h.2; exact absurd h.1 (Nat.lt_irrefl _)
    subst hns'
    have e1 : i = ord.length := by omega
    subst e1
    rw [List.take_length] at hps
    have hl : ps.length ≤ 2 := by rw [hps.len]; exact h2
    have ho : E.ov[ord.length]? = none := by
      rw [List.getElem?_eq_none_iff,Q.ov.len]; unfold natI; simp
    rcases ps_is hl with ⟨a,b,rfl⟩ | ⟨a,b,rfl⟩ | ⟨a,b,rfl⟩
    · exact f1_end0 a0 aD hD hC (.inr rfl) ho fun h tk sz Dh => fin F [] n h tk sz hps Dh
    · exact f1_end1 a0 aD hD hC (.inr rfl) ho fun h tk sz Dh => fin F [a] n h tk sz hps Dh
    · exact f1_end2 a0 aD hD hC (.inr rfl) ho fun h tk sz Dh => fin F [a,b] n h tk sz hps Dh
  | m + 1,i,F,ns,ps,n,hi,hns,hps => by
    have hns' : ns = ns0 ∨ ns = ns0 ++ [12] := by rcases hns with h | h; exact .inr h.2; exact .inl h.2
    have hlt : i < ord.length := by omega
    have hk : ord[i]? = some ord[i] := List.getElem?_eq_getElem hlt
    have htk : ord.take (i + 1) = ord.take i ++ [ord[i]] := by rw [List.take_add_one,hk]; rfl
    obtain ⟨k,rfl⟩ : ∃ k,k = ord[i] := ⟨_,rfl⟩
    have hkN : ord[i] < N := hord _ (List.getElem_mem hlt)
    obtain ⟨t,ho⟩ := ints_at Q.ov hk
    obtain ⟨tw,hw⟩ := Q.wv.at (range_at (f := wf) hkN)
    obtain ⟨t7,hs⟩ := Q.sv.at (range_at (f := sf) hkN)
    obtain ⟨t4,h0⟩ := Q.sv.at (range_at (f := sf) B.pos)
    have qw : E.wv.length ≤ sizeLine := small_size (by rw [Q.wv.len]; simpa using B.small)
    have qs : E.sv.length ≤ sizeLine := small_size (by rw [Q.sv.len]; simpa using B.small)
    have hsub : ∀ j,(hitsF due (ord.take j)).length ≤ (hitsF due ord).length := fun j => by
      unfold hitsF
      rw [List.length_map,List.length_map]
      exact ((List.take_sublist j ord).filter _).length_le
    cases hd : due.contains ord[i] with
    | false =>
      have hc : (natI due).contains (.ofNat ord[i]) = false := by rw [natI_contains]; exact hd
      have hps' : HasPs wf sf ps (hitsF due (ord.take (i + 1))) := by rw [htk,hitsF_skip hd]; exact hps
      have hl : ps.length ≤ 2 := by rw [hps.len]; exact Nat.le_trans (hsub i) h2
      have go : ∀ F,DoesR e.G h₀ H₀ A₀ R₀ (lawF1 e.w c fr it) (f1L c fr it K E F (ns0 ++ [12]) (i + 1) ps n) := fun F =>
        f1_go a0 aD hD hC B Q hord nd h2 fin m (i + 1) F _ ps n (by omega) (.inl ⟨Nat.succ_pos _,rfl⟩) hps'
      rcases ps_is hl with ⟨a,b,rfl⟩ | ⟨a,b,rfl⟩ | ⟨a,b,rfl⟩
      · exact f1_skip0 a0 aD hD hC hns' ho Q.dv hc go
      · exact f1_skip1 a0 aD hD hC hns' ho Q.dv hc go
      · exact f1_skip2 a0 aD hD hC hns' ho Q.dv hc go
    | true =>
      have hc : (natI due).contains (.ofNat ord[i]) = true := by rw [natI_contains]; exact hd
      have hl : (hitsF due (ord.take i)).length ≤ 1 := by
        have := hsub (i + 1)
        rw [htk,hitsF_snoc hd,List.length_append] at this
        simp only [List.length_singleton] at this
        omega
      have go : ∀ F (q : Pair),q.x = sOf (wf ord[i]) → q.v = sOf (sf ord[i]) → ∀ n,DoesR e.G h₀ H₀ A₀ R₀ (lawF1 e.w c fr it) (f1L c fr it K E F (ns0 ++ [12]) (i + 1) (ps ++ [q]) n) := fun F q q1 q2 n =>
        f1_go a0 aD hD hC B Q hord nd h2 fin m (i + 1) F _ _ n (by omega) (.inl ⟨Nat.succ_pos _,rfl⟩) (by rw [htk,hitsF_snoc hd]; exact hps.snoc q1 q2)
      have W := B.word _ hkN
      match ps,hps,go with
      | [],hps,go => exact f1_d0 a0 aD hD hC hns' ho Q.dv hc hw qw h0 hs qs W (B.spot _ B.pos) (B.spot _ hkN) fun F q q1 q2 => go F q q1 q2 _
      | [a],hps,go =>
        have hl1 := hps.len
        have hmem : ∃ j,hitsF due (ord.take i) = [(j,0)] ∧ j ∈ ord.take i := by
          unfold hitsF at hl1 ⊢
          obtain ⟨l,hf⟩ : ∃ l,l = (ord.take i).filter due.contains := ⟨_,rfl⟩
          rw [← hf] at hl1 ⊢
          simp only [List.length_map,List.length_singleton] at hl1
          obtain ⟨j,rfl⟩ := List.length_eq_one_iff.mp hl1.symm
          exact ⟨j,rfl,(List.mem_filter.mp (hf ▸ List.mem_singleton.mpr rfl : j ∈ (ord.take i).filter due.contains)).1⟩
        obtain ⟨j,hj,hm⟩ := hmem
        rw [hj] at hps
        have ax : a.x = sOf (wf j) := by
          unfold HasPs at hps
          simp only [List.map_cons,List.map_nil,List.cons.injEq,Prod.mk.injEq] at hps
          exact hps.1.1
        have hjN : j < N := hord _ (List.mem_of_mem_take hm)
        have hjk : j ≠ ord[i] := by
          intro e
          subst e
          have := List.nodup_append.mp (htk ▸ (List.take_sublist (i + 1) ord).nodup nd)
          exact this.2.2 _ hm _ (List.mem_singleton.mpr rfl) rfl
        have n1 := B.ne _ _ hjN hkN hjk
        have ll : Txt.lower (Txt.lower (sOf (wf ord[i]))) = Txt.lower (sOf (wf ord[i])) := same_iff.mp W.ll
        exact f1_d1 a0 aD hD hC hns' ho Q.dv hc hw qw h0 hs qs W (B.spot _ B.pos) (B.spot _ hkN) (by rw [ax]; exact (B.word _ hjN).name) (by rw [ax,ll]; exact n1) (by rw [ax]; exact n1) fun F q q1 q2 => go F q q1 q2 _
      | _ :: _ :: _,hps,_ => exact absurd (Nat.le_trans (Nat.le_of_eq hps.len) hl) (by simp)
theorem f1_all {F : Fk} {n : Nat} (hD : D + 400 ≤ recursionLimit) (hC : 8 * D + 1300 < cLine)
    (B : BF wf sf N) (Q : Lists E wf sf N ord due) (hord : ∀ k ∈ ord,k < N) (nd : ord.Nodup) (h2 : (hitsF due ord).length ≤ 2) (h1 : 0 < ord.length) :
    DoesL e.G D (lawF1 e.w c fr it) (f1L c fr it K E F ns0 0 [] n) (fun x : Fk × List Pair × Nat => HasPs wf sf x.2.1 (hitsF due ord)) (fun _ => .ok .next) (fun x => f1E c fr it K E x.1 (ns0 ++ [12]) ord.length x.2.1 x.2.2) :=
  doesL_of (by omega) fun A₀ R₀ h₀ a0 aD fin =>
    f1_go a0 aD hD hC B Q hord nd h2 (fun F ps n h tk sz hp Dh => fin (F,ps,n) h tk sz hp Dh) ord.length 0 F ns0 [] n (by omega) (.inr ⟨h1,rfl⟩) rfl
end
end Mine
namespace Mine
theorem upper_does {G : Gc} {D : Nat} {x : Str} {t : Tok} (h : Builtin.Str.tooLong (Txt.upper x).length = false) :
    Does G D (.builtin "str.upper" ⟨[.str x t], []⟩) [] (fun _ : Tok => True) (fun k => retV (.str (Txt.upper x) k)) (fun _ => []) (fun _ => []) :=
  str_does (by decide +kernel) F.entry_str_upper (PySem.gives_str_upper x t h) (fit_le h)
noncomputable def xPairs (w : World) : Expr := atE (exprOf (lawB w)[22]!) [1]
noncomputable def xOther (w : World) : Expr := atE (exprOf (ifElse1 (forBody (forBody (lawB w)[23]!)[0]!)[2]!)[0]!) [0]
noncomputable def xEq (w : World) : Expr := atE (exprOf (forBody (lawB w)[23]!)[4]!) [1]
noncomputable def xSizes (w : World) : Expr := atE (exprOf (forBody (lawB w)[23]!)[7]!) []
noncomputable def xVals (w : World) : Expr := atE (exprOf (forBody (lawB w)[23]!)[8]!) []
section
variable {e : Env0} {D : Nat} {C : Cx} {fr cw cs cd ct cp ll wl sl dl : Addr} {i k nl nw ns nd m : Nat} {lv wv sv dv ys : List Value} {L : List Int} {w s x y : Str} {t tw us tx ty : Tok} {b : Bnd} {c : Bool} {a a2 : Pair}
  {h₀ : Heap} {H₀ : List Addr} {A₀ : Around} {R₀ : Result → Shared → Prop}
theorem ot_no {α : Type} {ok : α → Prop} {res : α → Result} {post news : α → Led} (hD : D + 450 ≤ recursionLimit) (hv : lv[i]? = some (.str y ty)) (hm : Does e.G (D + 50) (.call (.ref 334) ⟨[.str x tx,.str y ty],[]⟩) [] (fun _ : Unit => True) (fun _ => retV (.bool false)) (fun _ => []) (fun _ => []))
    (next : ∀ g,Does e.G D (lawL e xOther C fr [(sOf [115,112,111,116],cs)]) ([(C.it,litO ll (i + 1)),(ll,lob lv nl),(C.acc,lob (ys) (ys.length)),(C.dc,dcO [111,116,104,101,114] (some (g,.str y ty)))] ++ [(cs,cellO (.str x tx))]) ok res post news) :
    Does e.G D (lawL e xOther C fr [(sOf [115,112,111,116],cs)]) ([(C.it,litO ll i),(ll,lob lv nl),(C.acc,lob (ys) (ys.length)),(C.dc,dcO [111,116,104,101,114] b)] ++ [(cs,cellO (.str x tx))]) ok res post news := by
  cases b
  all_goals
    refine walk (ts [1,1] <| ts [4,4,0,5,4,0] <| ts [] <| tn [] []) (by omega) ?_; intro A₀ R₀ h₀ sz0 tk0 a0 ad aD fin gd mm o
    refine mm [0,0] (lnext_some (it := C.it) (l := ll) (xs := lv) (n := nl) (i := i) (v := .str y ty) (by omega) hv) ?_; intro o _ sz1 tk1 _
    refine mm [] hm ?_; intro o _ sz2 tk2 _
    exact tail_same_w a0 [0,0,0,0,0] (fun o => entOf (o.ob 3) 0) (fun g => next g) ad (by kernel_rfl) (by kernel_rfl) fin
theorem ot_yes {α : Type} {ok : α → Prop} {res : α → Result} {post news : α → Led} (hD : D + 450 ≤ recursionLimit) (hv : lv[i]? = some (.str y ty)) (hm : Does e.G (D + 50) (.call (.ref 334) ⟨[.str x tx,.str y ty],[]⟩) [] (fun _ : Unit => True) (fun _ => retV (.bool true)) (fun _ => []) (fun _ => [])) (hn : ys.length ≤ sizeLine)
    (next : ∀ g,Does e.G D (lawL e xOther C fr [(sOf [115,112,111,116],cs)]) ([(C.it,litO ll (i + 1)),(ll,lob lv nl),(C.acc,lob (ys ++ [.str y ty]) (ys.length + 1)),(C.dc,dcO [111,116,104,101,114] (some (g,.str y ty)))] ++ [(cs,cellO (.str x tx))]) ok res post news) :
    Does e.G D (lawL e xOther C fr [(sOf [115,112,111,116],cs)]) ([(C.it,litO ll i),(ll,lob lv nl),(C.acc,lob (ys) (ys.length)),(C.dc,dcO [111,116,104,101,114] b)] ++ [(cs,cellO (.str x tx))]) ok res post news := by
  cases b
  all_goals
    refine walk (ts [1,1] <| ts [4,4,0,5,4,0] <| ts [4,3] <| ts [] <| tn [] []) (by omega) ?_; intro A₀ R₀ h₀ sz0 tk0 a0 ad aD fin gd mm o
    refine mm [0,0] (lnext_some (it := C.it) (l := ll) (xs := lv) (n := nl) (i := i) (v := .str y ty) (by omega) hv) ?_; intro o _ sz1 tk1 _
    refine mm [] hm ?_; intro o _ sz2 tk2 _
    refine mm [2] (append_does (l := C.acc) (xs := ys) (n := ys.length) (v := .str y ty) hn) ?_; intro o _ sz3 tk3 _
    exact tail_same_w a0 [1,1,0,0,0] (fun o => entOf (o.ob 3) 0) (fun g => next g) ad (by kernel_rfl) (by kernel_rfl) fin
theorem ot_end (hD : D + 450 ≤ recursionLimit) (hv : lv[i]? = none) :
    Does e.G D (lawL e xOther C fr [(sOf [115,112,111,116],cs)]) ([(C.it,litO ll i),(ll,lob lv nl),(C.acc,lob (ys) (ys.length)),(C.dc,dcO [111,116,104,101,114] b)] ++ [(cs,cellO (.str x tx))]) (fun _ : Unit => True) (fun _ => .ok .next) (fun _ => ([(C.it,litE i),(ll,lob lv nl),(C.acc,lob (ys) (ys.length)),(C.dc,dcO [111,116,104,101,114] b)] ++ [(cs,cellO (.str x tx))])) (fun _ => []) := by
  cases b
  all_goals
    refine walk (ts [1,1] <| tn [1] []) (by omega) ?_; intro A₀ R₀ h₀ sz0 tk0 a0 ad aD fin gd mm o
    refine mm [0,0] (lnext_end (it := C.it) (l := ll) (xs := lv) (n := nl) (i := i) (by omega) hv) ?_; intro o x sz1 tk1 _
    exact ret_good () [2,2,2,2,2] trivial fin rfl
theorem eq_turn {α : Type} {ok : α → Prop} {res : α → Result} {post news : α → Led} (hD : D + 450 ≤ recursionLimit) (hv : lv[i]? = some (.str x tx)) (hm : same x (sOf [34,34,92,32]) = c) (hn : ys.length ≤ sizeLine)
    (next : ∀ g,Does e.G D (lawL e xEq C fr []) ([(C.it,litO ll (i + 1)),(ll,lob lv nl),(C.acc,lob (ys ++ [.bool c]) (ys.length + 1)),(C.dc,dcO [115,105,103,110] (some (g,.str x tx)))] ++ []) ok res post news) :
    Does e.G D (lawL e xEq C fr []) ([(C.it,litO ll i),(ll,lob lv nl),(C.acc,lob (ys) (ys.length)),(C.dc,dcO [115,105,103,110] b)] ++ []) ok res post news := by
  cases b
  all_goals
    refine walk (ts [1,1] <| ts [4,4,4,1001] <| ts [3] <| ts [] <| tn [] []) (by omega) ?_; intro A₀ R₀ h₀ sz0 tk0 a0 ad aD fin gd mm o
    refine mm [0,0] (lnext_some (it := C.it) (l := ll) (xs := lv) (n := nl) (i := i) (v := .str x tx) (by omega) hv) ?_; intro o _ sz1 tk1 _
    refine mm [] (str_eq_does (x := x) (t := tx) (y := (sOf [34,34,92,32])) (u := (tk1 + 1)) (b := c) hm) ?_; intro o _ sz2 tk2 _
    refine mm [2] (append_does (l := C.acc) (xs := ys) (n := ys.length) (v := .bool c) hn) ?_; intro o _ sz3 tk3 _
    exact tail_same_w a0 [1,1,0,0] (fun o => entOf (o.ob 3) 0) (fun g => next g) ad (by kernel_rfl) (by kernel_rfl) fin
theorem eq_end (hD : D + 450 ≤ recursionLimit) (hv : lv[i]? = none) :
    Does e.G D (lawL e xEq C fr []) ([(C.it,litO ll i),(ll,lob lv nl),(C.acc,lob (ys) (ys.length)),(C.dc,dcO [115,105,103,110] b)] ++ []) (fun _ : Unit => True) (fun _ => .ok .next) (fun _ => ([(C.it,litE i),(ll,lob lv nl),(C.acc,lob (ys) (ys.length)),(C.dc,dcO [115,105,103,110] b)] ++ [])) (fun _ => []) := by
  cases b
  all_goals
    refine walk (ts [1,1] <| tn [1] []) (by omega) ?_; intro A₀ R₀ h₀ sz0 tk0 a0 ad aD fin gd mm o
    refine mm [0,0] (lnext_end (it := C.it) (l := ll) (xs := lv) (n := nl) (i := i) (by omega) hv) ?_; intro o x sz1 tk1 _
    exact ret_good () [2,2,2,2] trivial fin rfl
theorem sz_skip {α : Type} {ok : α → Prop} {res : α → Result} {post news : α → Led} (hD : D + 450 ≤ recursionLimit) (hv : lv[i]? = some (.int (.ofNat k) t)) (hd : Ints L dv) (hc : L.contains (.ofNat k) = false)
    (next : ∀ g,Does e.G D (lawL e xSizes C fr [(sOf [119,111,114,100,115],cw),(sOf [116,117,114,110],ct),(sOf [100,117,101],cd)]) ([(C.it,litO ll (i + 1)),(ll,lob lv nl),(C.acc,lob (ys) (ys.length)),(C.dc,dcO [107] (some (g,.int (.ofNat k) t)))] ++ [(cw,cellO (.ref wl)),(ct,cellO (.int (.ofNat m) tx)),(cd,cellO (.ref dl)),(wl,lob wv nw),(dl,lob dv nd)]) ok res post news) :
    Does e.G D (lawL e xSizes C fr [(sOf [119,111,114,100,115],cw),(sOf [116,117,114,110],ct),(sOf [100,117,101],cd)]) ([(C.it,litO ll i),(ll,lob lv nl),(C.acc,lob (ys) (ys.length)),(C.dc,dcO [107] b)] ++ [(cw,cellO (.ref wl)),(ct,cellO (.int (.ofNat m) tx)),(cd,cellO (.ref dl)),(wl,lob wv nw),(dl,lob dv nd)]) ok res post news := by
  cases b
  all_goals
    refine walk (ts [1,1] <| ts [4,4,4,7,9,9,9] <| ts [] <| tn [] []) (by omega) ?_; intro A₀ R₀ h₀ sz0 tk0 a0 ad aD fin gd mm o
    refine mm [0,0] (lnext_some (it := C.it) (l := ll) (xs := lv) (n := nl) (i := i) (v := .int (.ofNat k) t) (by omega) hv) ?_; intro o _ sz1 tk1 _
    refine mm [8] (contains_does (L := L) (l := dl) (xs := dv) (n := nd) (k := .ofNat k) (u := t) (b := false) hd hc) ?_; intro o _ sz2 tk2 _
    exact tail_same_w a0 [1,1,1,1,1,1,1,1,0] (fun o => entOf (o.ob 4) 0) (fun g => next g) ad (by kernel_rfl) (by kernel_rfl) fin
theorem sz_even {α : Type} {ok : α → Prop} {res : α → Result} {post news : α → Led} (hD : D + 450 ≤ recursionLimit) (hv : lv[i]? = some (.int (.ofNat k) t)) (hd : Ints L dv) (hc : L.contains (.ofNat k) = true) (hw : wv[k]? = some (.str w tw)) (qw : wv.length ≤ sizeLine) (h3 : (Int.ofNat (m % 2) != 0) = false) (hl : Builtin.Str.tooLong (Txt.lower w).length = false) (hn : ys.length ≤ sizeLine)
    (next : ∀ g j,Does e.G D (lawL e xSizes C fr [(sOf [119,111,114,100,115],cw),(sOf [116,117,114,110],ct),(sOf [100,117,101],cd)]) ([(C.it,litO ll (i + 1)),(ll,lob lv nl),(C.acc,lob (ys ++ [.str (Txt.lower w) j]) (ys.length + 1)),(C.dc,dcO [107] (some (g,.int (.ofNat k) t)))] ++ [(cw,cellO (.ref wl)),(ct,cellO (.int (.ofNat m) tx)),(cd,cellO (.ref dl)),(wl,lob wv nw),(dl,lob dv nd)]) ok res post news) :
    Does e.G D (lawL e xSizes C fr [(sOf [119,111,114,100,115],cw),(sOf [116,117,114,110],ct),(sOf [100,117,101],cd)]) ([(C.it,litO ll i),(ll,lob lv nl),(C.acc,lob (ys) (ys.length)),(C.dc,dcO [107] b)] ++ [(cw,cellO (.ref wl)),(ct,cellO (.int (.ofNat m) tx)),(cd,cellO (.ref dl)),(wl,lob wv nw),(dl,lob dv nd)]) ok res post news := by
  cases b
  all_goals
    refine walk (ts [1,1] <| ts [4,4,4,7,9,9,9] <| ts [7] <| ts [] <| ts [6,5,9,9,9,9] <| ts [] <| ts [5] <| ts [] <| tn [] []) (by omega) ?_; intro A₀ R₀ h₀ sz0 tk0 a0 ad aD fin gd mm o
    refine mm [0,0] (lnext_some (it := C.it) (l := ll) (xs := lv) (n := nl) (i := i) (v := .int (.ofNat k) t) (by omega) hv) ?_; intro o _ sz1 tk1 _
    refine mm [8] (contains_does (L := L) (l := dl) (xs := dv) (n := nd) (k := .ofNat k) (u := t) (b := true) hd hc) ?_; intro o _ sz2 tk2 _
    refine mm [] (imod_does (a := .ofNat m) (b := .ofNat 2) (r := .ofNat (m % 2)) (t := tx) (u := tk2) (mod_ok (by decide))) ?_; intro o k2 sz3 tk3 _
    refine mm [] (ibool_does (a := .ofNat (m % 2)) (t := k2) (c := false) h3) ?_; intro o _ sz4 tk4 _
    refine mm [8] (getit_does (l := wl) (xs := wv) (n := nw) (j := k) (u := t) (v := .str w tw) hw qw) ?_; intro o _ sz5 tk5 _
    refine mm [] (lower_does (x := w) (t := tw) hl) ?_; intro o k5 sz6 tk6 _
    refine mm [4] (append_does (l := C.acc) (xs := ys) (n := ys.length) (v := .str (Txt.lower w) k5) hn) ?_; intro o _ sz7 tk7 _
    exact tail_same_w a0 [3,3,0,2,2,2,2,0,0] (fun o => entOf (o.ob 5) 0) (fun g => next g k5) ad (by kernel_rfl) (by kernel_rfl) fin
theorem sz_odd {α : Type} {ok : α → Prop} {res : α → Result} {post news : α → Led} (hD : D + 450 ≤ recursionLimit) (hv : lv[i]? = some (.int (.ofNat k) t)) (hd : Ints L dv) (hc : L.contains (.ofNat k) = true) (hw : wv[k]? = some (.str w tw)) (qw : wv.length ≤ sizeLine) (h3 : (Int.ofNat (m % 2) != 0) = true) (hl : Builtin.Str.tooLong (Txt.upper w).length = false) (hn : ys.length ≤ sizeLine)
    (next : ∀ g j,Does e.G D (lawL e xSizes C fr [(sOf [119,111,114,100,115],cw),(sOf [116,117,114,110],ct),(sOf [100,117,101],cd)]) ([(C.it,litO ll (i + 1)),(ll,lob lv nl),(C.acc,lob (ys ++ [.str (Txt.upper w) j]) (ys.length + 1)),(C.dc,dcO [107] (some (g,.int (.ofNat k) t)))] ++ [(cw,cellO (.ref wl)),(ct,cellO (.int (.ofNat m) tx)),(cd,cellO (.ref dl)),(wl,lob wv nw),(dl,lob dv nd)]) ok res post news) :
    Does e.G D (lawL e xSizes C fr [(sOf [119,111,114,100,115],cw),(sOf [116,117,114,110],ct),(sOf [100,117,101],cd)]) ([(C.it,litO ll i),(ll,lob lv nl),(C.acc,lob (ys) (ys.length)),(C.dc,dcO [107] b)] ++ [(cw,cellO (.ref wl)),(ct,cellO (.int (.ofNat m) tx)),(cd,cellO (.ref dl)),(wl,lob wv nw),(dl,lob dv nd)]) ok res post news := by
  cases b
  all_goals
    refine walk (ts [1,1] <| ts [4,4,4,7,9,9,9] <| ts [7] <| ts [] <| ts [6,5,9,9,9,9] <| ts [] <| ts [5] <| ts [] <| tn [] []) (by omega) ?_; intro A₀ R₀ h₀ sz0 tk0 a0 ad aD fin gd mm o
    refine mm [0,0] (lnext_some (it := C.it) (l := ll) (xs := lv) (n := nl) (i := i) (v := .int (.ofNat k) t) (by omega) hv) ?_; intro o _ sz1 tk1 _
    refine mm [8] (contains_does (L := L) (l := dl) (xs := dv) (n := nd) (k := .ofNat k) (u := t) (b := true) hd hc) ?_; intro o _ sz2 tk2 _
    refine mm [] (imod_does (a := .ofNat m) (b := .ofNat 2) (r := .ofNat (m % 2)) (t := tx) (u := tk2) (mod_ok (by decide))) ?_; intro o k2 sz3 tk3 _
    refine mm [] (ibool_does (a := .ofNat (m % 2)) (t := k2) (c := true) h3) ?_; intro o _ sz4 tk4 _
    refine mm [8] (getit_does (l := wl) (xs := wv) (n := nw) (j := k) (u := t) (v := .str w tw) hw qw) ?_; intro o _ sz5 tk5 _
    refine mm [] (upper_does (x := w) (t := tw) hl) ?_; intro o k5 sz6 tk6 _
    refine mm [4] (append_does (l := C.acc) (xs := ys) (n := ys.length) (v := .str (Txt.upper w) k5) hn) ?_; intro o _ sz7 tk7 _
    exact tail_same_w a0 [3,3,0,2,2,2,2,0,0] (fun o => entOf (o.ob 5) 0) (fun g => next g k5) ad (by kernel_rfl) (by kernel_rfl) fin
theorem sz_end (hD : D + 450 ≤ recursionLimit) (hv : lv[i]? = none) :
    Does e.G D (lawL e xSizes C fr [(sOf [119,111,114,100,115],cw),(sOf [116,117,114,110],ct),(sOf [100,117,101],cd)]) ([(C.it,litO ll i),(ll,lob lv nl),(C.acc,lob (ys) (ys.length)),(C.dc,dcO [107] b)] ++ [(cw,cellO (.ref wl)),(ct,cellO (.int (.ofNat m) tx)),(cd,cellO (.ref dl)),(wl,lob wv nw),(dl,lob dv nd)]) (fun _ : Unit => True) (fun _ => .ok .next) (fun _ => ([(C.it,litE i),(ll,lob lv nl),(C.acc,lob (ys) (ys.length)),(C.dc,dcO [107] b)] ++ [(cw,cellO (.ref wl)),(ct,cellO (.int (.ofNat m) tx)),(cd,cellO (.ref dl)),(wl,lob wv nw),(dl,lob dv nd)])) (fun _ => []) := by
  cases b
  all_goals
    refine walk (ts [1,1] <| tn [1] []) (by omega) ?_; intro A₀ R₀ h₀ sz0 tk0 a0 ad aD fin gd mm o
    refine mm [0,0] (lnext_end (it := C.it) (l := ll) (xs := lv) (n := nl) (i := i) (by omega) hv) ?_; intro o x sz1 tk1 _
    exact ret_good () [2,2,2,2,2,2,2,2,2] trivial fin rfl
theorem va_skip {α : Type} {ok : α → Prop} {res : α → Result} {post news : α → Led} (hD : D + 450 ≤ recursionLimit) (hv : lv[i]? = some (.int (.ofNat k) t)) (hd : Ints L dv) (hc : L.contains (.ofNat k) = false)
    (next : ∀ g,Does e.G D (lawL e xVals C fr [(sOf [115,112,111,116,115],cs),(sOf [100,117,101],cd)]) ([(C.it,litO ll (i + 1)),(ll,lob lv nl),(C.acc,lob (ys) (ys.length)),(C.dc,dcO [107] (some (g,.int (.ofNat k) t)))] ++ [(cs,cellO (.ref sl)),(cd,cellO (.ref dl)),(sl,lob sv ns),(dl,lob dv nd)]) ok res post news) :
    Does e.G D (lawL e xVals C fr [(sOf [115,112,111,116,115],cs),(sOf [100,117,101],cd)]) ([(C.it,litO ll i),(ll,lob lv nl),(C.acc,lob (ys) (ys.length)),(C.dc,dcO [107] b)] ++ [(cs,cellO (.ref sl)),(cd,cellO (.ref dl)),(sl,lob sv ns),(dl,lob dv nd)]) ok res post news := by
  cases b
  all_goals
    refine walk (ts [1,1] <| ts [4,4,4,6,8,8,8] <| ts [] <| tn [] []) (by omega) ?_; intro A₀ R₀ h₀ sz0 tk0 a0 ad aD fin gd mm o
    refine mm [0,0] (lnext_some (it := C.it) (l := ll) (xs := lv) (n := nl) (i := i) (v := .int (.ofNat k) t) (by omega) hv) ?_; intro o _ sz1 tk1 _
    refine mm [7] (contains_does (L := L) (l := dl) (xs := dv) (n := nd) (k := .ofNat k) (u := t) (b := false) hd hc) ?_; intro o _ sz2 tk2 _
    exact tail_same_w a0 [1,1,1,1,1,1,1,0] (fun o => entOf (o.ob 4) 0) (fun g => next g) ad (by kernel_rfl) (by kernel_rfl) fin
theorem va_hit {α : Type} {ok : α → Prop} {res : α → Result} {post news : α → Led} (hD : D + 450 ≤ recursionLimit) (hv : lv[i]? = some (.int (.ofNat k) t)) (hd : Ints L dv) (hc : L.contains (.ofNat k) = true) (hs : sv[k]? = some (.str s us)) (qs : sv.length ≤ sizeLine) (hn : ys.length ≤ sizeLine)
    (next : ∀ g,Does e.G D (lawL e xVals C fr [(sOf [115,112,111,116,115],cs),(sOf [100,117,101],cd)]) ([(C.it,litO ll (i + 1)),(ll,lob lv nl),(C.acc,lob (ys ++ [.str s us]) (ys.length + 1)),(C.dc,dcO [107] (some (g,.int (.ofNat k) t)))] ++ [(cs,cellO (.ref sl)),(cd,cellO (.ref dl)),(sl,lob sv ns),(dl,lob dv nd)]) ok res post news) :
    Does e.G D (lawL e xVals C fr [(sOf [115,112,111,116,115],cs),(sOf [100,117,101],cd)]) ([(C.it,litO ll i),(ll,lob lv nl),(C.acc,lob (ys) (ys.length)),(C.dc,dcO [107] b)] ++ [(cs,cellO (.ref sl)),(cd,cellO (.ref dl)),(sl,lob sv ns),(dl,lob dv nd)]) ok res post news := by
  cases b
  all_goals
    refine walk (ts [1,1] <| ts [4,4,4,6,8,8,8] <| ts [6,5,8,8,8,8] <| ts [5] <| ts [] <| tn [] []) (by omega) ?_; intro A₀ R₀ h₀ sz0 tk0 a0 ad aD fin gd mm o
    refine mm [0,0] (lnext_some (it := C.it) (l := ll) (xs := lv) (n := nl) (i := i) (v := .int (.ofNat k) t) (by omega) hv) ?_; intro o _ sz1 tk1 _
    refine mm [7] (contains_does (L := L) (l := dl) (xs := dv) (n := nd) (k := .ofNat k) (u := t) (b := true) hd hc) ?_; intro o _ sz2 tk2 _
    refine mm [7] (getit_does (l := sl) (xs := sv) (n := ns) (j := k) (u := t) (v := .str s us) hs qs) ?_; intro o _ sz3 tk3 _
    refine mm [4] (append_does (l := C.acc) (xs := ys) (n := ys.length) (v := .str s us) hn) ?_; intro o _ sz4 tk4 _
    exact tail_same_w a0 [3,3,0,2,2,2,0,0] (fun o => entOf (o.ob 5) 0) (fun g => next g) ad (by kernel_rfl) (by kernel_rfl) fin
theorem va_end (hD : D + 450 ≤ recursionLimit) (hv : lv[i]? = none) :
    Does e.G D (lawL e xVals C fr [(sOf [115,112,111,116,115],cs),(sOf [100,117,101],cd)]) ([(C.it,litO ll i),(ll,lob lv nl),(C.acc,lob (ys) (ys.length)),(C.dc,dcO [107] b)] ++ [(cs,cellO (.ref sl)),(cd,cellO (.ref dl)),(sl,lob sv ns),(dl,lob dv nd)]) (fun _ : Unit => True) (fun _ => .ok .next) (fun _ => ([(C.it,litE i),(ll,lob lv nl),(C.acc,lob (ys) (ys.length)),(C.dc,dcO [107] b)] ++ [(cs,cellO (.ref sl)),(cd,cellO (.ref dl)),(sl,lob sv ns),(dl,lob dv nd)])) (fun _ => []) := by
  cases b
  all_goals
    refine walk (ts [1,1] <| tn [1] []) (by omega) ?_; intro A₀ R₀ h₀ sz0 tk0 a0 ad aD fin gd mm o
    refine mm [0,0] (lnext_end (it := C.it) (l := ll) (xs := lv) (n := nl) (i := i) (by omega) hv) ?_; intro o x sz1 tk1 _
    exact ret_good () [2,2,2,2,2,2,2,2] trivial fin rfl
noncomputable def refsP (ps : List Pair) : List Value := ps.map fun q => .ref q.p
theorem pr_skip0 (a0 : Calm A₀ D) (aD : A₀.depth + 100 ≤ recursionLimit) (hD : D + 450 ≤ recursionLimit) (hv : lv[i]? = some (.int (.ofNat k) t)) (hd : Ints L dv) (hc : L.contains (.ofNat k) = false)
    (next : ∀ g,DoesR e.G h₀ H₀ A₀ R₀ (lawL e xPairs C fr [(sOf [119,111,114,100,115],cw),(sOf [115,112,111,116,115],cs),(sOf [100,117,101],cd)]) ([(C.it,litO ll (i + 1)),(ll,lob lv nl),(C.acc,lob (refsP []) (0)),(C.dc,dcO [107] (some (g,.int (.ofNat k) t)))] ++ ([(cw,cellO (.ref wl)),(cs,cellO (.ref sl)),(cd,cellO (.ref dl)),(wl,lob wv nw),(sl,lob sv ns),(dl,lob dv nd)] ++ [].map Pair.ob))) :
    DoesR e.G h₀ H₀ A₀ R₀ (lawL e xPairs C fr [(sOf [119,111,114,100,115],cw),(sOf [115,112,111,116,115],cs),(sOf [100,117,101],cd)]) ([(C.it,litO ll i),(ll,lob lv nl),(C.acc,lob (refsP []) (0)),(C.dc,dcO [107] b)] ++ ([(cw,cellO (.ref wl)),(cs,cellO (.ref sl)),(cd,cellO (.ref dl)),(wl,lob wv nw),(sl,lob sv ns),(dl,lob dv nd)] ++ [].map Pair.ob)) := by
  cases b
  all_goals
    refine walkR a0 aD (ts [1,1] <| ts [4,4,4,7,10,10,10] <| ts [] <| tn [] []) ?_; intro gd mm sz0 tk0 o
    refine mm [0,0] (lnext_some (it := C.it) (l := ll) (xs := lv) (n := nl) (i := i) (v := .int (.ofNat k) t) (by omega) hv) ?_; intro o _ sz1 tk1 _
    refine mm [9] (contains_does (L := L) (l := dl) (xs := dv) (n := nd) (k := .ofNat k) (u := t) (b := false) hd hc) ?_; intro o _ sz2 tk2 _
    exact tailR_w [1,1,1,1,1,1,1,1,1,0] (fun o => entOf (o.ob 4) 0) (fun g => next g)
theorem pr_end0 (a0 : Calm A₀ D) (aD : A₀.depth + 100 ≤ recursionLimit) (hD : D + 450 ≤ recursionLimit) (hv : lv[i]? = none)
    (fin : ∀ h tk sz,Rep e.G h₀ H₀ h ([(C.it,litE i),(ll,lob lv nl),(C.acc,lob (refsP []) (0)),(C.dc,dcO [107] b)] ++ ([(cw,cellO (.ref wl)),(cs,cellO (.ref sl)),(cd,cellO (.ref dl)),(wl,lob wv nw),(sl,lob sv ns),(dl,lob dv nd)] ++ [].map Pair.ob)) sz → R₀ (.ok .next) (e.G.sh h tk)) :
    DoesR e.G h₀ H₀ A₀ R₀ (lawL e xPairs C fr [(sOf [119,111,114,100,115],cw),(sOf [115,112,111,116,115],cs),(sOf [100,117,101],cd)]) ([(C.it,litO ll i),(ll,lob lv nl),(C.acc,lob (refsP []) (0)),(C.dc,dcO [107] b)] ++ ([(cw,cellO (.ref wl)),(cs,cellO (.ref sl)),(cd,cellO (.ref dl)),(wl,lob wv nw),(sl,lob sv ns),(dl,lob dv nd)] ++ [].map Pair.ob)) := by
  cases b
  all_goals
    refine walkR a0 aD (ts [1,1] <| tn [1] []) ?_; intro gd mm sz0 tk0 o
    refine mm [0,0] (lnext_end (it := C.it) (l := ll) (xs := lv) (n := nl) (i := i) (by omega) hv) ?_; intro o x sz1 tk1 _
    exact retR [2,2,2,2,2,2,2,2,2,2] fin
theorem pr_skip1 (a0 : Calm A₀ D) (aD : A₀.depth + 100 ≤ recursionLimit) (hD : D + 450 ≤ recursionLimit) (hv : lv[i]? = some (.int (.ofNat k) t)) (hd : Ints L dv) (hc : L.contains (.ofNat k) = false)
    (next : ∀ g,DoesR e.G h₀ H₀ A₀ R₀ (lawL e xPairs C fr [(sOf [119,111,114,100,115],cw),(sOf [115,112,111,116,115],cs),(sOf [100,117,101],cd)]) ([(C.it,litO ll (i + 1)),(ll,lob lv nl),(C.acc,lob (refsP [a]) (1)),(C.dc,dcO [107] (some (g,.int (.ofNat k) t)))] ++ ([(cw,cellO (.ref wl)),(cs,cellO (.ref sl)),(cd,cellO (.ref dl)),(wl,lob wv nw),(sl,lob sv ns),(dl,lob dv nd)] ++ [a].map Pair.ob))) :
    DoesR e.G h₀ H₀ A₀ R₀ (lawL e xPairs C fr [(sOf [119,111,114,100,115],cw),(sOf [115,112,111,116,115],cs),(sOf [100,117,101],cd)]) ([(C.it,litO ll i),(ll,lob lv nl),(C.acc,lob (refsP [a]) (1)),(C.dc,dcO [107] b)] ++ ([(cw,cellO (.ref wl)),(cs,cellO (.ref sl)),(cd,cellO (.ref dl)),(wl,lob wv nw),(sl,lob sv ns),(dl,lob dv nd)] ++ [a].map Pair.ob)) := by
  cases b
  all_goals
    refine walkR a0 aD (ts [1,1] <| ts [4,4,4,7,10,10,10] <| ts [] <| tn [] []) ?_; intro gd mm sz0 tk0 o
    refine mm [0,0] (lnext_some (it := C.it) (l := ll) (xs := lv) (n := nl) (i := i) (v := .int (.ofNat k) t) (by omega) hv) ?_; intro o _ sz1 tk1 _
    refine mm [9] (contains_does (L := L) (l := dl) (xs := dv) (n := nd) (k := .ofNat k) (u := t) (b := false) hd hc) ?_; intro o _ sz2 tk2 _
    exact tailR_w [1,1,1,1,1,1,1,1,1,0,0] (fun o => entOf (o.ob 4) 0) (fun g => next g)
theorem pr_end1 (a0 : Calm A₀ D) (aD : A₀.depth + 100 ≤ recursionLimit) (hD : D + 450 ≤ recursionLimit) (hv : lv[i]? = none)
    (fin : ∀ h tk sz,Rep e.G h₀ H₀ h ([(C.it,litE i),(ll,lob lv nl),(C.acc,lob (refsP [a]) (1)),(C.dc,dcO [107] b)] ++ ([(cw,cellO (.ref wl)),(cs,cellO (.ref sl)),(cd,cellO (.ref dl)),(wl,lob wv nw),(sl,lob sv ns),(dl,lob dv nd)] ++ [a].map Pair.ob)) sz → R₀ (.ok .next) (e.G.sh h tk)) :
    DoesR e.G h₀ H₀ A₀ R₀ (lawL e xPairs C fr [(sOf [119,111,114,100,115],cw),(sOf [115,112,111,116,115],cs),(sOf [100,117,101],cd)]) ([(C.it,litO ll i),(ll,lob lv nl),(C.acc,lob (refsP [a]) (1)),(C.dc,dcO [107] b)] ++ ([(cw,cellO (.ref wl)),(cs,cellO (.ref sl)),(cd,cellO (.ref dl)),(wl,lob wv nw),(sl,lob sv ns),(dl,lob dv nd)] ++ [a].map Pair.ob)) := by
  cases b
  all_goals
    refine walkR a0 aD (ts [1,1] <| tn [1] []) ?_; intro gd mm sz0 tk0 o
    refine mm [0,0] (lnext_end (it := C.it) (l := ll) (xs := lv) (n := nl) (i := i) (by omega) hv) ?_; intro o x sz1 tk1 _
    exact retR [2,2,2,2,2,2,2,2,2,2,2] fin
theorem pr_skip2 (a0 : Calm A₀ D) (aD : A₀.depth + 100 ≤ recursionLimit) (hD : D + 450 ≤ recursionLimit) (hv : lv[i]? = some (.int (.ofNat k) t)) (hd : Ints L dv) (hc : L.contains (.ofNat k) = false)
    (next : ∀ g,DoesR e.G h₀ H₀ A₀ R₀ (lawL e xPairs C fr [(sOf [119,111,114,100,115],cw),(sOf [115,112,111,116,115],cs),(sOf [100,117,101],cd)]) ([(C.it,litO ll (i + 1)),(ll,lob lv nl),(C.acc,lob (refsP [a,a2]) (2)),(C.dc,dcO [107] (some (g,.int (.ofNat k) t)))] ++ ([(cw,cellO (.ref wl)),(cs,cellO (.ref sl)),(cd,cellO (.ref dl)),(wl,lob wv nw),(sl,lob sv ns),(dl,lob dv nd)] ++ [a,a2].map Pair.ob))) :
    DoesR e.G h₀ H₀ A₀ R₀ (lawL e xPairs C fr [(sOf [119,111,114,100,115],cw),(sOf [115,112,111,116,115],cs),(sOf [100,117,101],cd)]) ([(C.it,litO ll i),(ll,lob lv nl),(C.acc,lob (refsP [a,a2]) (2)),(C.dc,dcO [107] b)] ++ ([(cw,cellO (.ref wl)),(cs,cellO (.ref sl)),(cd,cellO (.ref dl)),(wl,lob wv nw),(sl,lob sv ns),(dl,lob dv nd)] ++ [a,a2].map Pair.ob)) := by
  cases b
  all_goals
    refine walkR a0 aD (ts [1,1] <| ts [4,4,4,7,10,10,10] <| ts [] <| tn [] []) ?_; intro gd mm sz0 tk0 o
    refine mm [0,0] (lnext_some (it := C.it) (l := ll) (xs := lv) (n := nl) (i := i) (v := .int (.ofNat k) t) (by omega) hv) ?_; intro o _ sz1 tk1 _
    refine mm [9] (contains_does (L := L) (l := dl) (xs := dv) (n := nd) (k := .ofNat k) (u := t) (b := false) hd hc) ?_; intro o _ sz2 tk2 _
    exact tailR_w [1,1,1,1,1,1,1,1,1,0,0,0] (fun o => entOf (o.ob 4) 0) (fun g => next g)
theorem pr_end2 (a0 : Calm A₀ D) (aD : A₀.depth + 100 ≤ recursionLimit) (hD : D + 450 ≤ recursionLimit) (hv : lv[i]? = none)
    (fin : ∀ h tk sz,Rep e.G h₀ H₀ h ([(C.it,litE i),(ll,lob lv nl),(C.acc,lob (refsP [a,a2]) (2)),(C.dc,dcO [107] b)] ++ ([(cw,cellO (.ref wl)),(cs,cellO (.ref sl)),(cd,cellO (.ref dl)),(wl,lob wv nw),(sl,lob sv ns),(dl,lob dv nd)] ++ [a,a2].map Pair.ob)) sz → R₀ (.ok .next) (e.G.sh h tk)) :
    DoesR e.G h₀ H₀ A₀ R₀ (lawL e xPairs C fr [(sOf [119,111,114,100,115],cw),(sOf [115,112,111,116,115],cs),(sOf [100,117,101],cd)]) ([(C.it,litO ll i),(ll,lob lv nl),(C.acc,lob (refsP [a,a2]) (2)),(C.dc,dcO [107] b)] ++ ([(cw,cellO (.ref wl)),(cs,cellO (.ref sl)),(cd,cellO (.ref dl)),(wl,lob wv nw),(sl,lob sv ns),(dl,lob dv nd)] ++ [a,a2].map Pair.ob)) := by
  cases b
  all_goals
    refine walkR a0 aD (ts [1,1] <| tn [1] []) ?_; intro gd mm sz0 tk0 o
    refine mm [0,0] (lnext_end (it := C.it) (l := ll) (xs := lv) (n := nl) (i := i) (by omega) hv) ?_; intro o x sz1 tk1 _
    exact retR [2,2,2,2,2,2,2,2,2,2,2,2] fin
theorem pr_hit0 (a0 : Calm A₀ D) (aD : A₀.depth + 100 ≤ recursionLimit) (hD : D + 450 ≤ recursionLimit) (hv : lv[i]? = some (.int (.ofNat k) t)) (hd : Ints L dv) (hc : L.contains (.ofNat k) = true) (hw : wv[k]? = some (.str w tw)) (qw : wv.length ≤ sizeLine) (hs : sv[k]? = some (.str s us)) (qs : sv.length ≤ sizeLine)
    (next : ∀ g (q : Pair),q.x = w → q.v = s → DoesR e.G h₀ H₀ A₀ R₀ (lawL e xPairs C fr [(sOf [119,111,114,100,115],cw),(sOf [115,112,111,116,115],cs),(sOf [100,117,101],cd)]) ([(C.it,litO ll (i + 1)),(ll,lob lv nl),(C.acc,lob (refsP [q]) (1)),(C.dc,dcO [107] (some (g,.int (.ofNat k) t)))] ++ ([(cw,cellO (.ref wl)),(cs,cellO (.ref sl)),(cd,cellO (.ref dl)),(wl,lob wv nw),(sl,lob sv ns),(dl,lob dv nd)] ++ [q].map Pair.ob))) :
    DoesR e.G h₀ H₀ A₀ R₀ (lawL e xPairs C fr [(sOf [119,111,114,100,115],cw),(sOf [115,112,111,116,115],cs),(sOf [100,117,101],cd)]) ([(C.it,litO ll i),(ll,lob lv nl),(C.acc,lob (refsP []) (0)),(C.dc,dcO [107] b)] ++ ([(cw,cellO (.ref wl)),(cs,cellO (.ref sl)),(cd,cellO (.ref dl)),(wl,lob wv nw),(sl,lob sv ns),(dl,lob dv nd)] ++ [].map Pair.ob)) := by
  cases b
  all_goals
    refine walkR a0 aD (ts [1,1] <| ts [4,4,4,7,10,10,10] <| ts [6,5,9,9,9,9] <| ts [8,6,10,10,10,10] <| ts [7] <| ts [] <| tn [] []) ?_; intro gd mm sz0 tk0 o
    refine mm [0,0] (lnext_some (it := C.it) (l := ll) (xs := lv) (n := nl) (i := i) (v := .int (.ofNat k) t) (by omega) hv) ?_; intro o _ sz1 tk1 _
    refine mm [9] (contains_does (L := L) (l := dl) (xs := dv) (n := nd) (k := .ofNat k) (u := t) (b := true) hd hc) ?_; intro o _ sz2 tk2 _
    refine mm [8] (getit_does (l := wl) (xs := wv) (n := nw) (j := k) (u := t) (v := .str w tw) hw qw) ?_; intro o _ sz3 tk3 _
    refine mm [9] (getit_does (l := sl) (xs := sv) (n := ns) (j := k) (u := t) (v := .str s us) hs qs) ?_; intro o _ sz4 tk4 _
    refine mm [6] (append_does (l := C.acc) (xs := refsP []) (n := 0) (v := (.ref sz4)) (small_size (by simp [refsP]))) ?_; intro o _ sz5 tk5 _
    exact tailR_w [5,5,0,4,4,4,4,2,1,1,0] (fun o => entOf (o.ob 7) 0) (fun g => next g ⟨sz4,w,tw,s,us⟩ rfl rfl)
theorem pr_hit1 (a0 : Calm A₀ D) (aD : A₀.depth + 100 ≤ recursionLimit) (hD : D + 450 ≤ recursionLimit) (hv : lv[i]? = some (.int (.ofNat k) t)) (hd : Ints L dv) (hc : L.contains (.ofNat k) = true) (hw : wv[k]? = some (.str w tw)) (qw : wv.length ≤ sizeLine) (hs : sv[k]? = some (.str s us)) (qs : sv.length ≤ sizeLine)
    (next : ∀ g (q : Pair),q.x = w → q.v = s → DoesR e.G h₀ H₀ A₀ R₀ (lawL e xPairs C fr [(sOf [119,111,114,100,115],cw),(sOf [115,112,111,116,115],cs),(sOf [100,117,101],cd)]) ([(C.it,litO ll (i + 1)),(ll,lob lv nl),(C.acc,lob (refsP [a,q]) (2)),(C.dc,dcO [107] (some (g,.int (.ofNat k) t)))] ++ ([(cw,cellO (.ref wl)),(cs,cellO (.ref sl)),(cd,cellO (.ref dl)),(wl,lob wv nw),(sl,lob sv ns),(dl,lob dv nd)] ++ [a,q].map Pair.ob))) :
    DoesR e.G h₀ H₀ A₀ R₀ (lawL e xPairs C fr [(sOf [119,111,114,100,115],cw),(sOf [115,112,111,116,115],cs),(sOf [100,117,101],cd)]) ([(C.it,litO ll i),(ll,lob lv nl),(C.acc,lob (refsP [a]) (1)),(C.dc,dcO [107] b)] ++ ([(cw,cellO (.ref wl)),(cs,cellO (.ref sl)),(cd,cellO (.ref dl)),(wl,lob wv nw),(sl,lob sv ns),(dl,lob dv nd)] ++ [a].map Pair.ob)) := by
  cases b
  all_goals
    refine walkR a0 aD (ts [1,1] <| ts [4,4,4,7,10,10,10] <| ts [6,5,9,9,9,9] <| ts [8,6,10,10,10,10] <| ts [7] <| ts [] <| tn [] []) ?_; intro gd mm sz0 tk0 o
    refine mm [0,0] (lnext_some (it := C.it) (l := ll) (xs := lv) (n := nl) (i := i) (v := .int (.ofNat k) t) (by omega) hv) ?_; intro o _ sz1 tk1 _
    refine mm [9] (contains_does (L := L) (l := dl) (xs := dv) (n := nd) (k := .ofNat k) (u := t) (b := true) hd hc) ?_; intro o _ sz2 tk2 _
    refine mm [8] (getit_does (l := wl) (xs := wv) (n := nw) (j := k) (u := t) (v := .str w tw) hw qw) ?_; intro o _ sz3 tk3 _
    refine mm [9] (getit_does (l := sl) (xs := sv) (n := ns) (j := k) (u := t) (v := .str s us) hs qs) ?_; intro o _ sz4 tk4 _
    refine mm [6] (append_does (l := C.acc) (xs := refsP [a]) (n := 1) (v := (.ref sz4)) (small_size (by simp [refsP]))) ?_; intro o _ sz5 tk5 _
    exact tailR_w [5,5,0,4,4,4,4,2,1,1,1,0] (fun o => entOf (o.ob 7) 0) (fun g => next g ⟨sz4,w,tw,s,us⟩ rfl rfl)
end
end Mine
namespace Mine
theorem comp_st {G : Gc} {D : Nat} {c : Code} {S : Type} {L : Nat → List Value → Bnd → S → Led} {P : List Value → Bnd → S → Led} {N : Nat} (Inv : Nat → List Value → S → Prop)
    (turn : ∀ i ys b s,i < N → Inv i ys s → ∀ {α : Type} {ok : α → Prop} {res : α → Result} {post news : α → Led},(∀ ys' p s',Inv (i + 1) ys' s' → Does G D c (L (i + 1) ys' (some p) s') ok res post news) → Does G D c (L i ys b s) ok res post news)
    (fin : ∀ ys b s,Inv N ys s → Does G D c (L N ys b s) (fun _ : Unit => True) (fun _ => .ok .next) (fun _ => P ys b s) (fun _ => [])) :
    ∀ k i ys b s,i + k = N → Inv i ys s → Does G D c (L i ys b s) (fun z : List Value × Bnd × S => Inv N z.1 z.2.2 ∧ (0 < k ∨ b.isSome = true → z.2.1.isSome = true)) (fun _ => .ok .next) (fun z => P z.1 z.2.1 z.2.2) (fun _ => []) := by
  intro k
  induction k with
  | zero =>
    intro i ys b s hi hv
    have e : i = N := by omega
    subst e
    exact (fin ys b s hv).map (fun _ => (ys,b,s)) (fun _ _ => ⟨hv,fun h => by rcases h with h | h; exact absurd h (Nat.lt_irrefl _); exact h⟩) (fun _ => rfl) (fun _ => rfl) (fun _ => rfl)
  | succ k ih =>
    intro i ys b s hi hv
    refine turn i ys b s (by omega) hv fun ys' p s' hv' => ?_
    exact (ih (i + 1) ys' (some p) s' (by omega) hv').weaken fun z hz => ⟨hz.1,fun _ => hz.2 (.inr rfl)⟩
theorem comp_st0 {G : Gc} {D : Nat} {c : Code} {S : Type} {L : Nat → List Value → Bnd → S → Led} {P : List Value → Bnd → S → Led} {N : Nat} (Inv : Nat → List Value → S → Prop) (s0 : S) (hv : Inv 0 [] s0)
    (turn : ∀ i ys b s,i < N → Inv i ys s → ∀ {α : Type} {ok : α → Prop} {res : α → Result} {post news : α → Led},(∀ ys' p s',Inv (i + 1) ys' s' → Does G D c (L (i + 1) ys' (some p) s') ok res post news) → Does G D c (L i ys b s) ok res post news)
    (fin : ∀ ys b s,Inv N ys s → Does G D c (L N ys b s) (fun _ : Unit => True) (fun _ => .ok .next) (fun _ => P ys b s) (fun _ => [])) :
    Does G D c (L 0 [] none s0) (fun z : List Value × Bnd × S => Inv N z.1 z.2.2 ∧ Told N (z.1,z.2.1)) (fun _ => .ok .next) (fun z => P z.1 z.2.1 z.2.2) (fun _ => []) := by
  rcases Nat.eq_zero_or_pos N with h0 | h0
  · subst h0
    exact (fin [] none s0 hv).map (fun _ => ([],none,s0)) (fun _ _ => ⟨hv,fun h => absurd h (Nat.lt_irrefl _),fun _ => rfl⟩) (fun _ => rfl) (fun _ => rfl) (fun _ => rfl)
  · exact (comp_st Inv turn fin N 0 [] none s0 (by omega) hv).weaken fun z hz => ⟨hz.1,fun _ => hz.2 (.inl h0),fun h => absurd h (by omega)⟩
theorem Strs.take_succ {ss : List (List Nat)} {ys : List Value} {i : Nat} {x : List Nat} {j : Tok} (h : Strs (ss.take i) ys) (hx : ss[i]? = some x) : Strs (ss.take (i + 1)) (ys ++ [.str (sOf x) j]) := by
  rw [List.take_add_one,hx]; exact Strs.snoc h
theorem comp_filt {G : Gc} {D : Nat} {c : Code} {L : Nat → List Value → Bnd → Led} {P : List Value → Bnd → Led} {ks due : List Nat} {f : Nat → List Nat} (h1 : ks.length ≤ 100)
    (hit : ∀ i ys b k,ks[i]? = some k → due.contains k = true → ys.length ≤ sizeLine → ∀ {α : Type} {ok : α → Prop} {res : α → Result} {post news : α → Led},(∀ j p,Does G D c (L (i + 1) (ys ++ [.str (sOf (f k)) j]) (some p)) ok res post news) → Does G D c (L i ys b) ok res post news)
    (skip : ∀ i ys b k,ks[i]? = some k → due.contains k = false → ∀ {α : Type} {ok : α → Prop} {res : α → Result} {post news : α → Led},(∀ p,Does G D c (L (i + 1) ys (some p)) ok res post news) → Does G D c (L i ys b) ok res post news)
    (fin : ∀ ys b,Does G D c (L ks.length ys b) (fun _ : Unit => True) (fun _ => .ok .next) (fun _ => P ys b) (fun _ => [])) :
    Does G D c (L 0 [] none) (fun z : List Value × Bnd => Strs ((ks.filter due.contains).map f) z.1 ∧ Told ks.length z) (fun _ => .ok .next) (fun z => P z.1 z.2) (fun _ => []) := by
  have := comp_st0 (G := G) (D := D) (c := c) (S := Unit) (L := fun i ys b _ => L i ys b) (P := fun ys b _ => P ys b) (N := ks.length) (fun i ys _ => Strs (((ks.take i).filter due.contains).map f) ys) () rfl
    (fun i ys b _ hi hv _ _ _ _ _ next => by
      have hk : ks[i]? = some ks[i] := List.getElem?_eq_getElem hi
      have ht : ks.take (i + 1) = ks.take i ++ [ks[i]] := by rw [List.take_add_one,hk]; rfl
      have hl := hv.len
      have hle : ((ks.take i).filter due.contains).length ≤ 100 := Nat.le_trans (List.length_filter_le _ _) (Nat.le_trans (by rw [List.length_take]; omega) h1)
      rw [List.length_map] at hl
      cases hd : due.contains ks[i] with
      | true =>
        refine hit i ys b ks[i] hk hd (small_size (by omega)) fun j p => next _ p () ?_
        rw [ht,List.filter_append,List.map_append]
        simp only [List.filter_cons,hd]
        exact Strs.snoc hv
      | false =>
        refine skip i ys b ks[i] hk hd fun p => next _ p () ?_
        rw [ht,List.filter_append,List.map_append]
        simp only [List.filter_cons,hd]
        simpa using hv)
    (fun ys b _ _ => fin ys b)
  refine (this.map (fun z => (z.1,z.2.1)) (ok' := fun z : List Value × Bnd => Strs ((ks.filter due.contains).map f) z.1 ∧ Told ks.length z) (res' := fun _ => .ok .next) (post' := fun z => P z.1 z.2) (news' := fun _ => []) (fun z hz => ⟨by have := hz.1; rwa [List.take_length] at this,hz.2⟩) (fun _ => rfl) (fun _ => rfl) (fun _ => rfl))
theorem strs_range {x : Nat → List Nat} {N i : Nat} {ys : List Value} {j : Tok} (h : Strs ((List.range i).map x) ys) : Strs ((List.range (i + 1)).map x) (ys ++ [.str (sOf (x i)) j]) := by
  rw [List.range_succ,List.map_append]; exact Strs.snoc h
structure Rs where
  ln : Value
  q : List Value
  m : Nat
  cs : List Value
  n : Nat
noncomputable def Step (e : Env0) (D : Nat) (X : Lx) (R : Rx) (A : Nat → Rs → Prop) (x : Nat → List Nat) (N : Nat) : Prop :=
  ∀ i,i < N → ∀ s,A i s → ∃ lnf q' m' cs' n',GetsX e D X R s.ln s.q s.m s.cs s.n (x i) lnf q' m' cs' n' ∧ ∀ t,A (i + 1) ⟨lnf t,q',m',cs',n'⟩
section
variable {e : Env0} {D : Nat} {C : Cx} {X : Lx} {R : Rx} {fr cl ll cw cs cd ct wl sl dl : Addr} {i k nl nw ns nd m N : Nat} {ln : Value} {q lv wv sv dv : List Value} {x : Nat → List Nat} {tx : Tok} {b : Bnd} {A : Nat → Rs → Prop} {s0 : Rs} {ks due : List Nat} {wf sf : Nat → List Nat}
noncomputable def Rs.L (s : Rs) (e : Env0) (X : Lx) (R : Rx) : Led := X.L s.ln s.q s.m ++ R.L e.w s.cs s.n
theorem first_all (hD : D + 450 ≤ recursionLimit) (hn : N ≤ 100) (h0 : A 0 s0) (hs : Step e (D + 50) X R A x N) :
    Does e.G D (lawS e xFirst C fr [(sOf [108,105,110,101],cl)]) ([(C.it,ritO (0) (N)),(C.acc,lob ([]) (0)),(C.dc,dcO [95] none),(cl,cellO (.ref X.l))] ++ s0.L e X R)
      (fun z : List Value × Bnd × Rs => (Strs ((List.range N).map x) z.1 ∧ A N z.2.2) ∧ Told N (z.1,z.2.1)) (fun _ => .ok .next) (fun z => [(C.it,ritO (N) (0)),(C.acc,lob (z.1) (z.1.length)),(C.dc,dcO [95] z.2.1),(cl,cellO (.ref X.l))] ++ z.2.2.L e X R) (fun _ => []) := by
  have key := comp_st0 (G := e.G) (D := D) (c := (lawL e xFirst C fr [(sOf [108,105,110,101],cl)])) (S := Rs)
    (L := fun i ys b s => [(C.it,ritO (i) (N - i)),(C.acc,lob (ys) (ys.length)),(C.dc,dcO [95] b),(cl,cellO (.ref X.l))] ++ s.L e X R)
    (P := fun ys b s => [(C.it,ritO (N) (0)),(C.acc,lob (ys) (ys.length)),(C.dc,dcO [95] b),(cl,cellO (.ref X.l))] ++ s.L e X R) (N := N) (fun i ys s => Strs ((List.range i).map x) ys ∧ A i s) s0 ⟨rfl,h0⟩
    (fun i ys b s hi hv _ _ _ _ _ next => by
      obtain ⟨lnf,q',m',cs',n',hg,ha⟩ := hs i hi s hv.2
      have hl' := hv.1.len
      rw [List.length_map,List.length_range] at hl'
      have ek : N - i = (N - (i + 1)) + 1 := by omega
      rw [ek]
      refine first_turn hD hg (small_size (by omega)) fun g j1 z => ?_
      have hnx := next _ (g,.int (.ofNat i) j1) ⟨lnf z.2,q',m',cs',n'⟩ ⟨strs_range (N := N) (j := z.1) hv.1,ha z.2⟩
      rw [List.length_append] at hnx
      exact hnx)
    (fun ys b s _ => by rw [Nat.sub_self]; exact first_end hD)
  refine walk (tn [1] [.stop]) (by omega) ?_; intro A₀ R₀ h₀ sz0 tk0 a0 ad aD fin gd mm o
  exact tail_same a0 [0,0,0,0,0,0,0,0,0,0,0,0,0] key ad (by kernel_rfl) (by kernel_rfl) fin
theorem signs_all (hD : D + 450 ≤ recursionLimit) {bs : List Bool} (hl : lv = bs.map .bool) (hN : bs.length = N) (hn : N ≤ 100) (h0 : A 0 s0) (hs : Step e (D + 50) X R A x N) :
    Does e.G D (lawS e xSigns C fr [(sOf [114,105,110,103],cl)]) ([(C.it,litO ll (0)),(ll,lob lv nl),(C.acc,lob ([]) (0)),(C.dc,dcO [95] none),(cl,cellO (.ref X.l))] ++ s0.L e X R)
      (fun z : List Value × Bnd × Rs => (Strs ((List.range N).map x) z.1 ∧ A N z.2.2) ∧ Told N (z.1,z.2.1)) (fun _ => .ok .next) (fun z => [(C.it,litE (N)),(ll,lob lv nl),(C.acc,lob (z.1) (z.1.length)),(C.dc,dcO [95] z.2.1),(cl,cellO (.ref X.l))] ++ z.2.2.L e X R) (fun _ => []) := by
  have key := comp_st0 (G := e.G) (D := D) (c := (lawL e xSigns C fr [(sOf [114,105,110,103],cl)])) (S := Rs)
    (L := fun i ys b s => [(C.it,litO ll (i)),(ll,lob lv nl),(C.acc,lob (ys) (ys.length)),(C.dc,dcO [95] b),(cl,cellO (.ref X.l))] ++ s.L e X R)
    (P := fun ys b s => [(C.it,litE (N)),(ll,lob lv nl),(C.acc,lob (ys) (ys.length)),(C.dc,dcO [95] b),(cl,cellO (.ref X.l))] ++ s.L e X R) (N := N) (fun i ys s => Strs ((List.range i).map x) ys ∧ A i s) s0 ⟨rfl,h0⟩
    (fun i ys b s hi hv _ _ _ _ _ next => by
      obtain ⟨lnf,q',m',cs',n',hg,ha⟩ := hs i hi s hv.2
      have hl' := hv.1.len
      rw [List.length_map,List.length_range] at hl'
      have hv' : lv[i]? = some (.bool bs[i]) := by rw [hl,List.getElem?_map,List.getElem?_eq_getElem (by omega)]; rfl
      refine signs_turn hD hv' hg (small_size (by omega)) fun g z => ?_
      have hnx := next _ (g,.bool bs[i]) ⟨lnf z.2,q',m',cs',n'⟩ ⟨strs_range (N := N) (j := z.1) hv.1,ha z.2⟩
      rw [List.length_append] at hnx
      exact hnx)
    (fun ys b s _ => signs_end hD (by rw [hl,List.getElem?_eq_none_iff,List.length_map,hN]; exact Nat.le_refl _))
  refine walk (tn [1] [.stop]) (by omega) ?_; intro A₀ R₀ h₀ sz0 tk0 a0 ad aD fin gd mm o
  exact tail_same a0 [0,0,0,0,0,0,0,0,0,0,0,0,0,0] key ad (by kernel_rfl) (by kernel_rfl) fin
theorem resl_all (hD : D + 450 ≤ recursionLimit) (hn : N ≤ 100) (h0 : A 0 s0) (hs : Step e (D + 50) X R A x N) :
    Does e.G D (lawS e xResl C fr [(sOf [108,105,110,101],cl)]) ([(C.it,ritO (0) (N)),(C.acc,lob ([]) (0)),(C.dc,dcO [95] none),(cl,cellO (.ref X.l))] ++ s0.L e X R)
      (fun z : List Value × Bnd × Rs => (Strs ((List.range N).map x) z.1 ∧ A N z.2.2) ∧ Told N (z.1,z.2.1)) (fun _ => .ok .next) (fun z => [(C.it,ritO (N) (0)),(C.acc,lob (z.1) (z.1.length)),(C.dc,dcO [95] z.2.1),(cl,cellO (.ref X.l))] ++ z.2.2.L e X R) (fun _ => []) := by
  have key := comp_st0 (G := e.G) (D := D) (c := (lawL e xResl C fr [(sOf [108,105,110,101],cl)])) (S := Rs)
    (L := fun i ys b s => [(C.it,ritO (i) (N - i)),(C.acc,lob (ys) (ys.length)),(C.dc,dcO [95] b),(cl,cellO (.ref X.l))] ++ s.L e X R)
    (P := fun ys b s => [(C.it,ritO (N) (0)),(C.acc,lob (ys) (ys.length)),(C.dc,dcO [95] b),(cl,cellO (.ref X.l))] ++ s.L e X R) (N := N) (fun i ys s => Strs ((List.range i).map x) ys ∧ A i s) s0 ⟨rfl,h0⟩
    (fun i ys b s hi hv _ _ _ _ _ next => by
      obtain ⟨lnf,q',m',cs',n',hg,ha⟩ := hs i hi s hv.2
      have hl' := hv.1.len
      rw [List.length_map,List.length_range] at hl'
      have ek : N - i = (N - (i + 1)) + 1 := by omega
      rw [ek]
      refine resl_turn hD hg (small_size (by omega)) fun g j1 z => ?_
      have hnx := next _ (g,.int (.ofNat i) j1) ⟨lnf z.2,q',m',cs',n'⟩ ⟨strs_range (N := N) (j := z.1) hv.1,ha z.2⟩
      rw [List.length_append] at hnx
      exact hnx)
    (fun ys b s _ => by rw [Nat.sub_self]; exact resl_end hD)
  refine walk (tn [1] [.stop]) (by omega) ?_; intro A₀ R₀ h₀ sz0 tk0 a0 ad aD fin gd mm o
  exact tail_same a0 [0,0,0,0,0,0,0,0,0,0,0,0,0] key ad (by kernel_rfl) (by kernel_rfl) fin
theorem resr_all (hD : D + 450 ≤ recursionLimit) (hn : N ≤ 100) (h0 : A 0 s0) (hs : Step e (D + 50) X R A x N) :
    Does e.G D (lawS e xResr C fr [(sOf [114,105,110,103],cl)]) ([(C.it,ritO (0) (N)),(C.acc,lob ([]) (0)),(C.dc,dcO [95] none),(cl,cellO (.ref X.l))] ++ s0.L e X R)
      (fun z : List Value × Bnd × Rs => (Strs ((List.range N).map x) z.1 ∧ A N z.2.2) ∧ Told N (z.1,z.2.1)) (fun _ => .ok .next) (fun z => [(C.it,ritO (N) (0)),(C.acc,lob (z.1) (z.1.length)),(C.dc,dcO [95] z.2.1),(cl,cellO (.ref X.l))] ++ z.2.2.L e X R) (fun _ => []) := by
  have key := comp_st0 (G := e.G) (D := D) (c := (lawL e xResr C fr [(sOf [114,105,110,103],cl)])) (S := Rs)
    (L := fun i ys b s => [(C.it,ritO (i) (N - i)),(C.acc,lob (ys) (ys.length)),(C.dc,dcO [95] b),(cl,cellO (.ref X.l))] ++ s.L e X R)
    (P := fun ys b s => [(C.it,ritO (N) (0)),(C.acc,lob (ys) (ys.length)),(C.dc,dcO [95] b),(cl,cellO (.ref X.l))] ++ s.L e X R) (N := N) (fun i ys s => Strs ((List.range i).map x) ys ∧ A i s) s0 ⟨rfl,h0⟩
    (fun i ys b s hi hv _ _ _ _ _ next => by
      obtain ⟨lnf,q',m',cs',n',hg,ha⟩ := hs i hi s hv.2
      have hl' := hv.1.len
      rw [List.length_map,List.length_range] at hl'
      have ek : N - i = (N - (i + 1)) + 1 := by omega
      rw [ek]
      refine resr_turn hD hg (small_size (by omega)) fun g j1 z => ?_
      have hnx := next _ (g,.int (.ofNat i) j1) ⟨lnf z.2,q',m',cs',n'⟩ ⟨strs_range (N := N) (j := z.1) hv.1,ha z.2⟩
      rw [List.length_append] at hnx
      exact hnx)
    (fun ys b s _ => by rw [Nat.sub_self]; exact resr_end hD)
  refine walk (tn [1] [.stop]) (by omega) ?_; intro A₀ R₀ h₀ sz0 tk0 a0 ad aD fin gd mm o
  exact tail_same a0 [0,0,0,0,0,0,0,0,0,0,0,0,0] key ad (by kernel_rfl) (by kernel_rfl) fin
theorem pushl_all {ss : List (List Nat)} (hD : D + 450 ≤ recursionLimit) (hl : Strs ss lv) (h1 : ss.length ≤ 50) (hq : q.length ≤ 50) :
    Does e.G D (lawS e xPushl C fr [(sOf [108,105,110,101],cl)]) ([(C.it,litO ll 0),(ll,lob lv nl),(C.acc,lob [] 0),(C.dc,dcO [119,111,114,100] none),(cl,cellO (.ref X.l))] ++ (X.L ln q m))
      (fun z : Bnd => Told ss.length ([],z)) (fun _ => .ok .next) (fun z => [(C.it,litE ss.length),(ll,lob lv nl),(C.acc,lob (List.replicate ss.length .none) ss.length),(C.dc,dcO [119,111,114,100] z),(cl,cellO (.ref X.l))] ++ (X.L ln (q ++ lv) (m + ss.length))) (fun _ => []) := by
  have key := comp_st0 (G := e.G) (D := D) (c := lawL e xPushl C fr [(sOf [108,105,110,101],cl)]) (S := Unit)
    (L := fun i ys b _ => [(C.it,litO ll i),(ll,lob lv nl),(C.acc,lob ys ys.length),(C.dc,dcO [119,111,114,100] b),(cl,cellO (.ref X.l))] ++ (X.L ln (q ++ lv.take i) (m + i)))
    (P := fun ys b _ => [(C.it,litE ss.length),(ll,lob lv nl),(C.acc,lob ys ys.length),(C.dc,dcO [119,111,114,100] b),(cl,cellO (.ref X.l))] ++ (X.L ln (q ++ lv.take ss.length) (m + ss.length))) (N := ss.length) (fun i ys _ => ys = List.replicate i .none) () rfl
    (fun i ys b _ hi hv _ _ _ _ _ next => by
      subst hv
      obtain ⟨tx,hx⟩ := hl.at (List.getElem?_eq_getElem hi)
      refine pushl_turn hD hx (small_size (by rw [List.length_append,List.length_take]; omega)) (small_size (by rw [List.length_replicate]; omega)) fun g => ?_
      have hnx := next (List.replicate (i + 1) .none) (g,.str (sOf ss[i]) tx) () rfl
      rw [List.take_add_one,hx] at hnx
      simp only [List.length_replicate] at hnx ⊢
      rw [← List.replicate_succ']
      simpa [List.append_assoc,Nat.add_assoc] using hnx)
    (fun ys b _ _ => pushl_end hD (by rw [List.getElem?_eq_none_iff,hl.len]; exact Nat.le_refl _))
  refine walk (tn [1] [.stop]) (by omega) ?_; intro A₀ R₀ h₀ sz0 tk0 a0 ad aD fin gd mm o
  exact tail_same a0 [0,0,0,0,0,0,0,0] (by simpa only [List.take_zero,List.append_nil,Nat.add_zero] using key) ad (by kernel_rfl) (by kernel_rfl) (fun z s' hz p1 p2 => by
    obtain ⟨ys,b,u⟩ := z
    obtain ⟨rfl,ht⟩ := hz
    refine fin b s' ht p1 ?_
    have e1 : lv.take ss.length = lv := by rw [← hl.len]; exact List.take_length
    simp only [e1,List.length_replicate] at p2
    exact p2)
end
end Mine
namespace Mine
section
variable {e : Env0} {D : Nat} {C : Cx} {X : Lx} {R : Rx} {fr cl ll cw cs cd ct wl sl dl : Addr} {i k nl nw ns nd m N : Nat} {ln : Value} {q lv wv sv dv : List Value} {tx : Tok} {b : Bnd} {ks due : List Nat} {wf sf : Nat → List Nat}
theorem pushr_all {ss : List (List Nat)} (hD : D + 450 ≤ recursionLimit) (hl : Strs ss lv) (h1 : ss.length ≤ 50) (hq : q.length ≤ 50) :
    Does e.G D (lawS e xPushr C fr [(sOf [114,105,110,103],cl)]) ([(C.it,litO ll 0),(ll,lob lv nl),(C.acc,lob [] 0),(C.dc,dcO [115,105,103,110] none),(cl,cellO (.ref X.l))] ++ (X.L ln q m))
      (fun z : Bnd => Told ss.length ([],z)) (fun _ => .ok .next) (fun z => [(C.it,litE ss.length),(ll,lob lv nl),(C.acc,lob (List.replicate ss.length .none) ss.length),(C.dc,dcO [115,105,103,110] z),(cl,cellO (.ref X.l))] ++ (X.L ln (q ++ lv) (m + ss.length))) (fun _ => []) := by
  have key := comp_st0 (G := e.G) (D := D) (c := lawL e xPushr C fr [(sOf [114,105,110,103],cl)]) (S := Unit)
    (L := fun i ys b _ => [(C.it,litO ll i),(ll,lob lv nl),(C.acc,lob ys ys.length),(C.dc,dcO [115,105,103,110] b),(cl,cellO (.ref X.l))] ++ (X.L ln (q ++ lv.take i) (m + i)))
    (P := fun ys b _ => [(C.it,litE ss.length),(ll,lob lv nl),(C.acc,lob ys ys.length),(C.dc,dcO [115,105,103,110] b),(cl,cellO (.ref X.l))] ++ (X.L ln (q ++ lv.take ss.length) (m + ss.length))) (N := ss.length) (fun i ys _ => ys = List.replicate i .none) () rfl
    (fun i ys b _ hi hv _ _ _ _ _ next => by
      subst hv
      obtain ⟨tx,hx⟩ := hl.at (List.getElem?_eq_getElem hi)
      refine pushr_turn hD hx (small_size (by rw [List.length_append,List.length_take]; omega)) (small_size (by rw [List.length_replicate]; omega)) fun g => ?_
      have hnx := next (List.replicate (i + 1) .none) (g,.str (sOf ss[i]) tx) () rfl
      rw [List.take_add_one,hx] at hnx
      simp only [List.length_replicate] at hnx ⊢
      rw [← List.replicate_succ']
      simpa [List.append_assoc,Nat.add_assoc] using hnx)
    (fun ys b _ _ => pushr_end hD (by rw [List.getElem?_eq_none_iff,hl.len]; exact Nat.le_refl _))
  refine walk (tn [1] [.stop]) (by omega) ?_; intro A₀ R₀ h₀ sz0 tk0 a0 ad aD fin gd mm o
  exact tail_same a0 [0,0,0,0,0,0,0,0] (by simpa only [List.take_zero,List.append_nil,Nat.add_zero] using key) ad (by kernel_rfl) (by kernel_rfl) (fun z s' hz p1 p2 => by
    obtain ⟨ys,b,u⟩ := z
    obtain ⟨rfl,ht⟩ := hz
    refine fin b s' ht p1 ?_
    have e1 : lv.take ss.length = lv := by rw [← hl.len]; exact List.take_length
    simp only [e1,List.length_replicate] at p2
    exact p2)
theorem now_all {bs : List Bool} {ss : List (List Nat)} (hD : D + 450 ≤ recursionLimit) (hl : lv = bs.map .bool) (hq : Strs ss q) (hN : bs.length = ss.length) (h1 : ss.length ≤ 50) {q2 : List Value} (h2 : q2.length ≤ 50) :
    Does e.G D (lawS e xNow C fr [(sOf [114,105,110,103],cl)]) ([(C.it,litO ll 0),(ll,lob lv nl),(C.acc,lob [] 0),(C.dc,dcO [95] none),(cl,cellO (.ref X.l))] ++ (X.L ln (q ++ q2) m))
      (fun z : Bnd => Told ss.length ([],z)) (fun _ => .ok .next) (fun z => [(C.it,litE ss.length),(ll,lob lv nl),(C.acc,lob q q.length),(C.dc,dcO [95] z),(cl,cellO (.ref X.l))] ++ (X.L ln q2 (m + ss.length))) (fun _ => []) := by
  have key := comp_st0 (G := e.G) (D := D) (c := lawL e xNow C fr [(sOf [114,105,110,103],cl)]) (S := Unit)
    (L := fun i ys b _ => [(C.it,litO ll i),(ll,lob lv nl),(C.acc,lob ys ys.length),(C.dc,dcO [95] b),(cl,cellO (.ref X.l))] ++ (X.L ln (q.drop i ++ q2) (m + i)))
    (P := fun ys b _ => [(C.it,litE ss.length),(ll,lob lv nl),(C.acc,lob ys ys.length),(C.dc,dcO [95] b),(cl,cellO (.ref X.l))] ++ (X.L ln (q.drop ss.length ++ q2) (m + ss.length))) (N := ss.length) (fun i ys _ => ys = q.take i) () rfl
    (fun i ys b _ hi hv _ _ _ _ _ next => by
      subst hv
      obtain ⟨tx,hx⟩ := hq.at (List.getElem?_eq_getElem hi)
      have hv' : lv[i]? = some (.bool bs[i]) := by rw [hl,List.getElem?_map,List.getElem?_eq_getElem (by omega)]; rfl
      have hql := hq.len
      have ed : q.drop i = .str (sOf ss[i]) tx :: q.drop (i + 1) := by
        rw [List.drop_eq_getElem_cons (by omega)]
        congr 1
        have := List.getElem?_eq_getElem (l := q) (i := i) (by omega)
        rw [hx] at this
        exact (Option.some.inj this).symm
      rw [ed,List.cons_append]
      refine now_turn hD hv' (by show (q.drop (i + 1) ++ q2).length < _; rw [List.length_append,List.length_drop]; exact Nat.lt_of_le_of_lt (by omega : _ ≤ 100) (by decide)) (small_size (by rw [List.length_take]; omega)) fun g => ?_
      have hnx := next (q.take (i + 1)) (g,.bool bs[i]) () rfl
      rw [List.take_add_one,hx] at hnx
      simp only [List.length_append,Option.toList_some,List.length_singleton] at hnx
      exact hnx)
    (fun ys b _ _ => now_end hD (by rw [hl,List.getElem?_eq_none_iff,List.length_map,hN]; exact Nat.le_refl _))
  refine walk (tn [1] [.stop]) (by omega) ?_; intro A₀ R₀ h₀ sz0 tk0 a0 ad aD fin gd mm o
  exact tail_same a0 [0,0,0,0,0,0,0,0] (by simpa only [List.drop_zero,Nat.add_zero] using key) ad (by kernel_rfl) (by kernel_rfl) (fun z s' hz p1 p2 => by
    obtain ⟨ys,b,u⟩ := z
    obtain ⟨rfl,ht⟩ := hz
    refine fin b s' ht p1 ?_
    have e1 : q.take ss.length = q := by rw [← hq.len]; exact List.take_length
    have e2 : q.drop ss.length = [] := by rw [← hq.len]; exact List.drop_length
    simp only [e1,e2,List.nil_append] at p2
    exact p2)
theorem vals_all (hD : D + 450 ≤ recursionLimit) (hl : Ints (natI ks) lv) (hk : ks.length ≤ 100) (hd : Ints (natI due) dv) (hs : Strs ((List.range N).map sf) sv) (hN : N ≤ 100) (hks : ∀ k ∈ ks,k < N) :
    Does e.G D (lawS e xVals C fr [(sOf [115,112,111,116,115],cs),(sOf [100,117,101],cd)]) ([(C.it,litO ll 0),(ll,lob lv nl),(C.acc,lob [] 0),(C.dc,dcO [107] none)] ++ [(cs,cellO (.ref sl)),(cd,cellO (.ref dl)),(sl,lob sv ns),(dl,lob dv nd)])
      (fun z => Strs ((ks.filter due.contains).map sf) z.1 ∧ Told ks.length z) (fun _ => .ok .next) (fun z => [(C.it,litE ks.length),(ll,lob lv nl),(C.acc,lob z.1 z.1.length),(C.dc,dcO [107] z.2)] ++ [(cs,cellO (.ref sl)),(cd,cellO (.ref dl)),(sl,lob sv ns),(dl,lob dv nd)]) (fun _ => []) := by
  have key := comp_filt (G := e.G) (D := D) (c := lawL e xVals C fr [(sOf [115,112,111,116,115],cs),(sOf [100,117,101],cd)]) (ks := ks) (due := due) (f := sf)
    (L := fun i ys b => [(C.it,litO ll i),(ll,lob lv nl),(C.acc,lob ys ys.length),(C.dc,dcO [107] b)] ++ [(cs,cellO (.ref sl)),(cd,cellO (.ref dl)),(sl,lob sv ns),(dl,lob dv nd)])
    (P := fun ys b => [(C.it,litE ks.length),(ll,lob lv nl),(C.acc,lob ys ys.length),(C.dc,dcO [107] b)] ++ [(cs,cellO (.ref sl)),(cd,cellO (.ref dl)),(sl,lob sv ns),(dl,lob dv nd)]) hk
    (fun i ys b k hk' hc hn _ _ _ _ _ next => by
      obtain ⟨t,hv⟩ := ints_at hl hk'
      have hc' : (natI due).contains (.ofNat k) = true := by rw [natI_contains]; exact hc
      have hm := hks k (List.mem_of_getElem? hk')
      obtain ⟨us,hs'⟩ := hs.at (range_at (f := sf) hm)
      refine va_hit hD hv hd hc' hs' (small_size (by rw [hs.len]; simpa using hN)) hn fun g => ?_
      have hnx := next us (g,.int (.ofNat k) t)
      rw [List.length_append] at hnx
      exact hnx)
    (fun i ys b k hk' hc _ _ _ _ _ next => by
      obtain ⟨t,hv⟩ := ints_at hl hk'
      have hc' : (natI due).contains (.ofNat k) = false := by rw [natI_contains]; exact hc
      exact va_skip hD hv hd hc' fun g => next (g,.int (.ofNat k) t))
    (fun ys b => va_end hD (by rw [List.getElem?_eq_none_iff,hl.len,natI_len]; exact Nat.le_refl _))
  refine walk (tn [1] [.stop]) (by omega) ?_; intro A₀ R₀ h₀ sz0 tk0 a0 ad aD fin gd mm o
  exact tail_same a0 [0,0,0,0,0,0,0,0] key ad (by kernel_rfl) (by kernel_rfl) fin
theorem sizes_even (hD : D + 450 ≤ recursionLimit) (hl : Ints (natI ks) lv) (hk : ks.length ≤ 100) (hd : Ints (natI due) dv) (hs : Strs ((List.range N).map wf) wv) (hN : N ≤ 100) (hks : ∀ k ∈ ks,k < N) (hp : (Int.ofNat (m % 2) != 0) = false) (hfit : ∀ k,k < N → Builtin.Str.tooLong (Txt.lower (sOf (wf k))).length = false) :
    Does e.G D (lawS e xSizes C fr [(sOf [119,111,114,100,115],cw),(sOf [116,117,114,110],ct),(sOf [100,117,101],cd)]) ([(C.it,litO ll 0),(ll,lob lv nl),(C.acc,lob [] 0),(C.dc,dcO [107] none)] ++ [(cw,cellO (.ref wl)),(ct,cellO (.int (.ofNat m) tx)),(cd,cellO (.ref dl)),(wl,lob wv nw),(dl,lob dv nd)])
      (fun z => Strs ((ks.filter due.contains).map (fun k => (Txt.lower (sOf (wf k))).cps.toList)) z.1 ∧ Told ks.length z) (fun _ => .ok .next) (fun z => [(C.it,litE ks.length),(ll,lob lv nl),(C.acc,lob z.1 z.1.length),(C.dc,dcO [107] z.2)] ++ [(cw,cellO (.ref wl)),(ct,cellO (.int (.ofNat m) tx)),(cd,cellO (.ref dl)),(wl,lob wv nw),(dl,lob dv nd)]) (fun _ => []) := by
  have key := comp_filt (G := e.G) (D := D) (c := lawL e xSizes C fr [(sOf [119,111,114,100,115],cw),(sOf [116,117,114,110],ct),(sOf [100,117,101],cd)]) (ks := ks) (due := due) (f := (fun k => (Txt.lower (sOf (wf k))).cps.toList))
    (L := fun i ys b => [(C.it,litO ll i),(ll,lob lv nl),(C.acc,lob ys ys.length),(C.dc,dcO [107] b)] ++ [(cw,cellO (.ref wl)),(ct,cellO (.int (.ofNat m) tx)),(cd,cellO (.ref dl)),(wl,lob wv nw),(dl,lob dv nd)])
    (P := fun ys b => [(C.it,litE ks.length),(ll,lob lv nl),(C.acc,lob ys ys.length),(C.dc,dcO [107] b)] ++ [(cw,cellO (.ref wl)),(ct,cellO (.int (.ofNat m) tx)),(cd,cellO (.ref dl)),(wl,lob wv nw),(dl,lob dv nd)]) hk
    (fun i ys b k hk' hc hn _ _ _ _ _ next => by
      obtain ⟨t,hv⟩ := ints_at hl hk'
      have hc' : (natI due).contains (.ofNat k) = true := by rw [natI_contains]; exact hc
      have hm := hks k (List.mem_of_getElem? hk')
      obtain ⟨us,hs'⟩ := hs.at (range_at (f := wf) hm)
      refine sz_even hD hv hd hc' hs' (small_size (by rw [hs.len]; simpa using hN)) hp (hfit k hm) hn fun g j => ?_
      have hnx := next j (g,.int (.ofNat k) t)
      rw [List.length_append] at hnx
      exact hnx)
    (fun i ys b k hk' hc _ _ _ _ _ next => by
      obtain ⟨t,hv⟩ := ints_at hl hk'
      have hc' : (natI due).contains (.ofNat k) = false := by rw [natI_contains]; exact hc
      exact sz_skip hD hv hd hc' fun g => next (g,.int (.ofNat k) t))
    (fun ys b => sz_end hD (by rw [List.getElem?_eq_none_iff,hl.len,natI_len]; exact Nat.le_refl _))
  refine walk (tn [1] [.stop]) (by omega) ?_; intro A₀ R₀ h₀ sz0 tk0 a0 ad aD fin gd mm o
  exact tail_same a0 [0,0,0,0,0,0,0,0,0] key ad (by kernel_rfl) (by kernel_rfl) fin
theorem sizes_odd (hD : D + 450 ≤ recursionLimit) (hl : Ints (natI ks) lv) (hk : ks.length ≤ 100) (hd : Ints (natI due) dv) (hs : Strs ((List.range N).map wf) wv) (hN : N ≤ 100) (hks : ∀ k ∈ ks,k < N) (hp : (Int.ofNat (m % 2) != 0) = true) (hfit : ∀ k,k < N → Builtin.Str.tooLong (Txt.upper (sOf (wf k))).length = false) :
    Does e.G D (lawS e xSizes C fr [(sOf [119,111,114,100,115],cw),(sOf [116,117,114,110],ct),(sOf [100,117,101],cd)]) ([(C.it,litO ll 0),(ll,lob lv nl),(C.acc,lob [] 0),(C.dc,dcO [107] none)] ++ [(cw,cellO (.ref wl)),(ct,cellO (.int (.ofNat m) tx)),(cd,cellO (.ref dl)),(wl,lob wv nw),(dl,lob dv nd)])
      (fun z => Strs ((ks.filter due.contains).map (fun k => (Txt.upper (sOf (wf k))).cps.toList)) z.1 ∧ Told ks.length z) (fun _ => .ok .next) (fun z => [(C.it,litE ks.length),(ll,lob lv nl),(C.acc,lob z.1 z.1.length),(C.dc,dcO [107] z.2)] ++ [(cw,cellO (.ref wl)),(ct,cellO (.int (.ofNat m) tx)),(cd,cellO (.ref dl)),(wl,lob wv nw),(dl,lob dv nd)]) (fun _ => []) := by
  have key := comp_filt (G := e.G) (D := D) (c := lawL e xSizes C fr [(sOf [119,111,114,100,115],cw),(sOf [116,117,114,110],ct),(sOf [100,117,101],cd)]) (ks := ks) (due := due) (f := (fun k => (Txt.upper (sOf (wf k))).cps.toList))
    (L := fun i ys b => [(C.it,litO ll i),(ll,lob lv nl),(C.acc,lob ys ys.length),(C.dc,dcO [107] b)] ++ [(cw,cellO (.ref wl)),(ct,cellO (.int (.ofNat m) tx)),(cd,cellO (.ref dl)),(wl,lob wv nw),(dl,lob dv nd)])
    (P := fun ys b => [(C.it,litE ks.length),(ll,lob lv nl),(C.acc,lob ys ys.length),(C.dc,dcO [107] b)] ++ [(cw,cellO (.ref wl)),(ct,cellO (.int (.ofNat m) tx)),(cd,cellO (.ref dl)),(wl,lob wv nw),(dl,lob dv nd)]) hk
    (fun i ys b k hk' hc hn _ _ _ _ _ next => by
      obtain ⟨t,hv⟩ := ints_at hl hk'
      have hc' : (natI due).contains (.ofNat k) = true := by rw [natI_contains]; exact hc
      have hm := hks k (List.mem_of_getElem? hk')
      obtain ⟨us,hs'⟩ := hs.at (range_at (f := wf) hm)
      refine sz_odd hD hv hd hc' hs' (small_size (by rw [hs.len]; simpa using hN)) hp (hfit k hm) hn fun g j => ?_
      have hnx := next j (g,.int (.ofNat k) t)
      rw [List.length_append] at hnx
      exact hnx)
    (fun i ys b k hk' hc _ _ _ _ _ next => by
      obtain ⟨t,hv⟩ := ints_at hl hk'
      have hc' : (natI due).contains (.ofNat k) = false := by rw [natI_contains]; exact hc
      exact sz_skip hD hv hd hc' fun g => next (g,.int (.ofNat k) t))
    (fun ys b => sz_end hD (by rw [List.getElem?_eq_none_iff,hl.len,natI_len]; exact Nat.le_refl _))
  refine walk (tn [1] [.stop]) (by omega) ?_; intro A₀ R₀ h₀ sz0 tk0 a0 ad aD fin gd mm o
  exact tail_same a0 [0,0,0,0,0,0,0,0,0] key ad (by kernel_rfl) (by kernel_rfl) fin
theorem other_all {x : Str} {ps : List (Str × Bool)} (hD : D + 450 ≤ recursionLimit) (h1 : ps.length ≤ 100) (hlv : lv.length = ps.length)
    (hv : ∀ (i : Nat) (p : Str × Bool),ps[i]? = some p → ∃ u,lv[i]? = some (Value.str p.1 u) ∧ Does e.G (D + 50) (.call (.ref 334) ⟨[.str x tx,.str p.1 u],[]⟩) [] (fun _ : Unit => True) (fun _ => retV (.bool p.2)) (fun _ => []) (fun _ => [])) :
    Does e.G D (lawS e xOther C fr [(sOf [115,112,111,116],cs)]) ([(C.it,litO ll 0),(ll,lob lv nl),(C.acc,lob [] 0),(C.dc,dcO [111,116,104,101,114] none)] ++ [(cs,cellO (.str x tx))])
      (fun z : List Value × Bnd => z.1.length = (ps.filter (·.2)).length ∧ Told ps.length z) (fun _ => .ok .next) (fun z => [(C.it,litE ps.length),(ll,lob lv nl),(C.acc,lob z.1 z.1.length),(C.dc,dcO [111,116,104,101,114] z.2)] ++ [(cs,cellO (.str x tx))]) (fun _ => []) := by
  have key := comp_st0 (G := e.G) (D := D) (c := lawL e xOther C fr [(sOf [115,112,111,116],cs)]) (S := Unit)
    (L := fun i ys b _ => [(C.it,litO ll i),(ll,lob lv nl),(C.acc,lob ys ys.length),(C.dc,dcO [111,116,104,101,114] b)] ++ [(cs,cellO (.str x tx))])
    (P := fun ys b _ => [(C.it,litE ps.length),(ll,lob lv nl),(C.acc,lob ys ys.length),(C.dc,dcO [111,116,104,101,114] b)] ++ [(cs,cellO (.str x tx))]) (N := ps.length) (fun i ys _ => ys.length = ((ps.take i).filter (·.2)).length) () rfl
    (fun i ys b _ hi hl _ _ _ _ _ next => by
      have hk : ps[i]? = some ps[i] := List.getElem?_eq_getElem hi
      have ht : ps.take (i + 1) = ps.take i ++ [ps[i]] := by rw [List.take_add_one,hk]; rfl
      have hle : ((ps.take i).filter (·.2)).length ≤ 100 := Nat.le_trans (List.length_filter_le _ _) (Nat.le_trans (by rw [List.length_take]; omega) h1)
      obtain ⟨u,hu,hm⟩ := hv i _ hk
      cases hd : ps[i].2 with
      | true =>
        rw [hd] at hm
        refine ot_yes hD hu hm (small_size (by omega)) fun g => ?_
        have hnx := next (ys ++ [.str ps[i].1 u]) (g,.str ps[i].1 u) () (by rw [ht,List.filter_append,List.length_append,List.length_append,hl]; simp [List.filter_cons,hd])
        rw [List.length_append] at hnx
        exact hnx
      | false =>
        rw [hd] at hm
        refine ot_no hD hu hm fun g => ?_
        exact next ys (g,.str ps[i].1 u) () (by rw [ht,List.filter_append,List.length_append,hl]; simp [List.filter_cons,hd]))
    (fun ys b _ _ => ot_end hD (by rw [List.getElem?_eq_none_iff,hlv]; exact Nat.le_refl _))
  refine walk (tn [1] [.stop]) (by omega) ?_; intro A₀ R₀ h₀ sz0 tk0 a0 ad aD fin gd mm o
  exact tail_same a0 [0,0,0,0,0] key ad (by kernel_rfl) (by kernel_rfl) (fun z s' hz p1 p2 => by
    obtain ⟨ys,b,u⟩ := z
    refine fin (ys,b) s' ⟨by have := hz.1; rwa [List.take_length] at this,hz.2⟩ p1 p2)
theorem eq_all {ss : List (List Nat)} (hD : D + 450 ≤ recursionLimit) (hl : Strs ss lv) (h1 : ss.length ≤ 100) :
    Does e.G D (lawS e xEq C fr []) ([(C.it,litO ll 0),(ll,lob lv nl),(C.acc,lob [] 0),(C.dc,dcO [115,105,103,110] none)])
      (fun z : Bnd => Told ss.length ([],z)) (fun _ => .ok .next) (fun z => [(C.it,litE ss.length),(ll,lob lv nl),(C.acc,lob (ss.map fun x => Value.bool (same (sOf x) (sOf [34,34,92,32]))) ss.length),(C.dc,dcO [115,105,103,110] z)]) (fun _ => []) := by
  have key := comp_st0 (G := e.G) (D := D) (c := lawL e xEq C fr []) (S := Unit)
    (L := fun i ys b _ => [(C.it,litO ll i),(ll,lob lv nl),(C.acc,lob ys ys.length),(C.dc,dcO [115,105,103,110] b)] ++ [])
    (P := fun ys b _ => [(C.it,litE ss.length),(ll,lob lv nl),(C.acc,lob ys ys.length),(C.dc,dcO [115,105,103,110] b)] ++ []) (N := ss.length) (fun i ys _ => ys = (ss.take i).map fun x => Value.bool (same (sOf x) (sOf [34,34,92,32]))) () rfl
    (fun i ys b _ hi hv _ _ _ _ _ next => by
      have hk : ss[i]? = some ss[i] := List.getElem?_eq_getElem hi
      have ht : ss.take (i + 1) = ss.take i ++ [ss[i]] := by rw [List.take_add_one,hk]; rfl
      obtain ⟨tx,hx⟩ := hl.at hk
      have hyl : ys.length ≤ 100 := by rw [hv,List.length_map,List.length_take]; omega
      refine eq_turn hD hx rfl (small_size hyl) fun g => ?_
      have hnx := next (ys ++ [.bool (same (sOf ss[i]) (sOf [34,34,92,32]))]) (g,.str (sOf ss[i]) tx) () (by rw [ht,List.map_append,← hv]; rfl)
      rw [List.length_append] at hnx
      exact hnx)
    (fun ys b _ _ => eq_end hD (by rw [List.getElem?_eq_none_iff,hl.len]; exact Nat.le_refl _))
  refine walk (tn [1] [.stop]) (by omega) ?_; intro A₀ R₀ h₀ sz0 tk0 a0 ad aD fin gd mm o
  exact tail_same a0 [0,0,0,0] key ad (by kernel_rfl) (by kernel_rfl) (fun z s' hz p1 p2 => by
    obtain ⟨ys,b,u⟩ := z
    obtain ⟨rfl,ht⟩ := hz
    refine fin b s' ht p1 ?_
    simpa only [List.take_length,List.length_map,List.append_nil] using p2)
end
end Mine
namespace Mine
section
variable {e : Env0} {D : Nat} {C : Cx} {fr ll cw cs cd wl sl dl : Addr} {nl nw ns nd N : Nat} {lv wv sv dv : List Value} {ks due : List Nat} {wf sf : Nat → List Nat}
theorem pr_go {h₀ : Heap} {H₀ : List Addr} {A₀ : Around} {R₀ : Result → Shared → Prop} (a0 : Calm A₀ D) (aD : A₀.depth + 100 ≤ recursionLimit) (hD : D + 450 ≤ recursionLimit)
    (hl : Ints (natI ks) lv) (hd : Ints (natI due) dv) (hw : Strs ((List.range N).map wf) wv) (hs : Strs ((List.range N).map sf) sv) (hN : N ≤ 100) (hks : ∀ k ∈ ks,k < N) (h2 : (hitsF due ks).length ≤ 2)
    (fin : ∀ b ps h tk sz,HasPs wf sf ps (hitsF due ks) → (0 < ks.length → b.isSome = true) → Rep e.G h₀ H₀ h ([(C.it,litE ks.length),(ll,lob lv nl),(C.acc,lob (refsP ps) ps.length),(C.dc,dcO [107] b)] ++ ([(cw,cellO (.ref wl)),(cs,cellO (.ref sl)),(cd,cellO (.ref dl)),(wl,lob wv nw),(sl,lob sv ns),(dl,lob dv nd)] ++ ps.map Pair.ob)) sz → R₀ (.ok .next) (e.G.sh h tk)) :
    ∀ (m i : Nat) (ps : List Pair) (b : Bnd),i + m = ks.length → (0 < i → b.isSome = true) → HasPs wf sf ps (hitsF due (ks.take i)) → DoesR e.G h₀ H₀ A₀ R₀ (lawL e xPairs C fr [(sOf [119,111,114,100,115],cw),(sOf [115,112,111,116,115],cs),(sOf [100,117,101],cd)]) ([(C.it,litO ll i),(ll,lob lv nl),(C.acc,lob (refsP ps) ps.length),(C.dc,dcO [107] b)] ++ ([(cw,cellO (.ref wl)),(cs,cellO (.ref sl)),(cd,cellO (.ref dl)),(wl,lob wv nw),(sl,lob sv ns),(dl,lob dv nd)] ++ ps.map Pair.ob))
  | 0,i,ps,b,hi,hb,hps => by
    have e1 : i = ks.length := by omega
    subst e1
    rw [List.take_length] at hps
    have hl2 : ps.length ≤ 2 := by rw [hps.len]; exact h2
    have hv : lv[ks.length]? = none := by rw [List.getElem?_eq_none_iff,hl.len,natI_len]; exact Nat.le_refl _
    rcases ps_is hl2 with ⟨a,a2,rfl⟩ | ⟨a,a2,rfl⟩ | ⟨a,a2,rfl⟩
    · exact pr_end0 a0 aD hD hv fun h tk sz Dh => fin b [] h tk sz hps hb Dh
    · exact pr_end1 a0 aD hD hv fun h tk sz Dh => fin b [a] h tk sz hps hb Dh
    · exact pr_end2 a0 aD hD hv fun h tk sz Dh => fin b [a,a2] h tk sz hps hb Dh
  | m + 1,i,ps,b,hi,hb,hps => by
    have hlt : i < ks.length := by omega
    have hk : ks[i]? = some ks[i] := List.getElem?_eq_getElem hlt
    have htk : ks.take (i + 1) = ks.take i ++ [ks[i]] := by rw [List.take_add_one,hk]; rfl
    have hkN : ks[i] < N := hks _ (List.getElem_mem hlt)
    obtain ⟨t,hv⟩ := ints_at hl hk
    obtain ⟨tw,hw'⟩ := hw.at (range_at (f := wf) hkN)
    obtain ⟨us,hs'⟩ := hs.at (range_at (f := sf) hkN)
    have qw : wv.length ≤ sizeLine := small_size (by rw [hw.len]; simpa using hN)
    have qs : sv.length ≤ sizeLine := small_size (by rw [hs.len]; simpa using hN)
    have hsub : ∀ j,(hitsF due (ks.take j)).length ≤ (hitsF due ks).length := fun j => by
      unfold hitsF
      rw [List.length_map,List.length_map]
      exact ((List.take_sublist j ks).filter _).length_le
    cases hdk : due.contains ks[i] with
    | false =>
      have hc : (natI due).contains (.ofNat ks[i]) = false := by rw [natI_contains]; exact hdk
      have hps' : HasPs wf sf ps (hitsF due (ks.take (i + 1))) := by rw [htk,hitsF_skip hdk]; exact hps
      have hl2 : ps.length ≤ 2 := by rw [hps.len]; exact Nat.le_trans (hsub i) h2
      have go : ∀ p,DoesR e.G h₀ H₀ A₀ R₀ (lawL e xPairs C fr [(sOf [119,111,114,100,115],cw),(sOf [115,112,111,116,115],cs),(sOf [100,117,101],cd)]) ([(C.it,litO ll (i + 1)),(ll,lob lv nl),(C.acc,lob (refsP ps) ps.length),(C.dc,dcO [107] (some p))] ++ ([(cw,cellO (.ref wl)),(cs,cellO (.ref sl)),(cd,cellO (.ref dl)),(wl,lob wv nw),(sl,lob sv ns),(dl,lob dv nd)] ++ ps.map Pair.ob)) := fun p => pr_go a0 aD hD hl hd hw hs hN hks h2 fin m (i + 1) ps (some p) (by omega) (fun _ => rfl) hps'
      rcases ps_is hl2 with ⟨a,a2,rfl⟩ | ⟨a,a2,rfl⟩ | ⟨a,a2,rfl⟩
      · exact pr_skip0 a0 aD hD hv hd hc fun g => go _
      · exact pr_skip1 a0 aD hD hv hd hc fun g => go _
      · exact pr_skip2 a0 aD hD hv hd hc fun g => go _
    | true =>
      have hc : (natI due).contains (.ofNat ks[i]) = true := by rw [natI_contains]; exact hdk
      have hl2 : ps.length ≤ 1 := by
        have := hsub (i + 1)
        rw [htk,hitsF_snoc hdk,List.length_append] at this
        simp only [List.length_singleton] at this
        rw [hps.len]
        omega
      have go : ∀ p (q : Pair),q.x = sOf (wf ks[i]) → q.v = sOf (sf ks[i]) → DoesR e.G h₀ H₀ A₀ R₀ (lawL e xPairs C fr [(sOf [119,111,114,100,115],cw),(sOf [115,112,111,116,115],cs),(sOf [100,117,101],cd)]) ([(C.it,litO ll (i + 1)),(ll,lob lv nl),(C.acc,lob (refsP (ps ++ [q])) (ps ++ [q]).length),(C.dc,dcO [107] (some p))] ++ ([(cw,cellO (.ref wl)),(cs,cellO (.ref sl)),(cd,cellO (.ref dl)),(wl,lob wv nw),(sl,lob sv ns),(dl,lob dv nd)] ++ (ps ++ [q]).map Pair.ob)) := fun p q q1 q2 =>
        pr_go a0 aD hD hl hd hw hs hN hks h2 fin m (i + 1) (ps ++ [q]) (some p) (by omega) (fun _ => rfl) (by rw [htk,hitsF_snoc hdk]; exact hps.snoc q1 q2)
      rcases ps_is (Nat.le_trans hl2 (by decide)) with ⟨a,a2,rfl⟩ | ⟨a,a2,rfl⟩ | ⟨a,a2,rfl⟩
      · exact pr_hit0 a0 aD hD hv hd hc hw' qw hs' qs fun g q q1 q2 => go _ q q1 q2
      · exact pr_hit1 a0 aD hD hv hd hc hw' qw hs' qs fun g q q1 q2 => go _ q q1 q2
      · exact absurd hl2 (by simp)
theorem pairs_all (hD : D + 450 ≤ recursionLimit)
    (hl : Ints (natI ks) lv) (hd : Ints (natI due) dv) (hw : Strs ((List.range N).map wf) wv) (hs : Strs ((List.range N).map sf) sv) (hN : N ≤ 100) (hks : ∀ k ∈ ks,k < N) (h2 : (hitsF due ks).length ≤ 2) :
    DoesL e.G D (lawS e xPairs C fr [(sOf [119,111,114,100,115],cw),(sOf [115,112,111,116,115],cs),(sOf [100,117,101],cd)]) ([(C.it,litO ll 0),(ll,lob lv nl),(C.acc,lob (refsP ([] : List Pair)) ([] : List Pair).length),(C.dc,dcO [107] none)] ++ ([(cw,cellO (.ref wl)),(cs,cellO (.ref sl)),(cd,cellO (.ref dl)),(wl,lob wv nw),(sl,lob sv ns),(dl,lob dv nd)] ++ ([] : List Pair).map Pair.ob)) (fun x : Bnd × List Pair => HasPs wf sf x.2 (hitsF due ks) ∧ (0 < ks.length → x.1.isSome = true)) (fun _ => .ok .next) (fun x => ([(C.it,litE ks.length),(ll,lob lv nl),(C.acc,lob (refsP x.2) x.2.length),(C.dc,dcO [107] x.1)] ++ ([(cw,cellO (.ref wl)),(cs,cellO (.ref sl)),(cd,cellO (.ref dl)),(wl,lob wv nw),(sl,lob sv ns),(dl,lob dv nd)] ++ x.2.map Pair.ob))) :=
  doesL_of (by omega) fun A₀ R₀ h₀ a0 aD fin => by
    refine walkR a0 aD (tn [1] [.stop]) ?_; intro gd mm sz0 tk0 o
    exact tailR [0,0,0,0,0,0,0,0,0,0] (pr_go (fr := fr) a0 aD hD hl hd hw hs hN hks h2 (fun b ps h tk sz h1 hb Dh => fin (b,ps) h tk sz ⟨h1,hb⟩ Dh) ks.length 0 [] none (by omega) (fun h => absurd h (Nat.lt_irrefl _)) rfl) (by kernel_rfl) (by kernel_rfl)
end
end Mine
namespace Mine
noncomputable def MeetC (e : Env0) (D : Nat) (x : Str) (t : Tok) (y : Str) (u : Tok) (c : Bool) : Prop := Does e.G D (.call (.ref 334) ⟨[.str x t,.str y u],[]⟩) [] (fun _ : Unit => True) (fun _ => retV (.bool c)) (fun _ => []) (fun _ => [])
section
variable {e : Env0} {D : Nat} {C : Cx} {fr cs ll : Addr} {nl : Nat} {lv : List Value} {x : Str} {tx : Tok}
theorem other_0 (hD : D + 450 ≤ recursionLimit) :
    Does e.G D (lawS e xOther C fr [(sOf [115,112,111,116],cs)]) ([(C.it,litO ll 0),(ll,lob [] nl),(C.acc,lob [] 0),(C.dc,dcO [111,116,104,101,114] none)] ++ [(cs,cellO (.str x tx))])
      (fun _ : Unit => True) (fun _ => .ok .next) (fun _ => [(C.it,litE 0),(ll,lob [] nl),(C.acc,lob [] 0),(C.dc,dcO [111,116,104,101,114] none)] ++ [(cs,cellO (.str x tx))]) (fun _ => []) := by
  have h := other_all (e := e) (D := D) (C := C) (fr := fr) (cs := cs) (ll := ll) (nl := nl) (lv := []) (x := x) (tx := tx) (ps := []) hD (by decide) rfl (fun i p h => by simp at h)
  intro A R s h1 h2 h3 h4 h5 h6 hfin
  refine h A R s h1 h2 h3 h4 h5 h6 fun z s' hz p1 p2 p3 p4 p5 p6 => ?_
  obtain ⟨zl,zb⟩ := z
  have e1 : zl = [] := List.length_eq_zero_iff.mp hz.1
  have e2 : zb = none := hz.2.2 rfl
  subst e1; subst e2
  exact hfin () s' trivial p1 p2 p3 p4 p5 p6
theorem other_no {ps : List (Str × Bool)} (hD : D + 450 ≤ recursionLimit) (h1 : ps.length ≤ 100) (h0 : 0 < ps.length) (hf : ps.filter (·.2) = []) (hlv : lv.length = ps.length)
    (hv : ∀ (i : Nat) (p : Str × Bool),ps[i]? = some p → ∃ u,lv[i]? = some (Value.str p.1 u) ∧ MeetC e (D + 50) x tx p.1 u p.2) :
    Does e.G D (lawS e xOther C fr [(sOf [115,112,111,116],cs)]) ([(C.it,litO ll 0),(ll,lob lv nl),(C.acc,lob [] 0),(C.dc,dcO [111,116,104,101,114] none)] ++ [(cs,cellO (.str x tx))])
      (fun _ : (Int × Tok) × Value => True) (fun _ => .ok .next) (fun z => [(C.it,litE ps.length),(ll,lob lv nl),(C.acc,lob [] 0),(C.dc,dcO [111,116,104,101,114] (some z))] ++ [(cs,cellO (.str x tx))]) (fun _ => []) := by
  have h := other_all (e := e) (D := D) (C := C) (fr := fr) (cs := cs) (ll := ll) (nl := nl) (lv := lv) (x := x) (tx := tx) (ps := ps) hD h1 hlv hv
  intro A R s h1 h2 h3 h4 h5 h6 hfin
  refine h A R s h1 h2 h3 h4 h5 h6 fun z s' hz p1 p2 p3 p4 p5 p6 => ?_
  obtain ⟨zl,zb⟩ := z
  have e1 : zl = [] := List.length_eq_zero_iff.mp (by have := hz.1; rw [hf] at this; exact this)
  have e2 := hz.2.1 h0
  cases zb with
  | none => cases e2
  | some g =>
    subst e1
    exact hfin g s' trivial p1 p2 p3 p4 p5 p6
theorem other_yes {ps : List (Str × Bool)} (hD : D + 450 ≤ recursionLimit) (h1 : ps.length ≤ 100) (h0 : 0 < ps.length) (hf : 0 < (ps.filter (·.2)).length) (hlv : lv.length = ps.length)
    (hv : ∀ (i : Nat) (p : Str × Bool),ps[i]? = some p → ∃ u,lv[i]? = some (Value.str p.1 u) ∧ MeetC e (D + 50) x tx p.1 u p.2) :
    Does e.G D (lawS e xOther C fr [(sOf [115,112,111,116],cs)]) ([(C.it,litO ll 0),(ll,lob lv nl),(C.acc,lob [] 0),(C.dc,dcO [111,116,104,101,114] none)] ++ [(cs,cellO (.str x tx))])
      (fun z : List Value × ((Int × Tok) × Value) => 0 < z.1.length) (fun _ => .ok .next) (fun z => [(C.it,litE ps.length),(ll,lob lv nl),(C.acc,lob z.1 z.1.length),(C.dc,dcO [111,116,104,101,114] (some z.2))] ++ [(cs,cellO (.str x tx))]) (fun _ => []) := by
  have h := other_all (e := e) (D := D) (C := C) (fr := fr) (cs := cs) (ll := ll) (nl := nl) (lv := lv) (x := x) (tx := tx) (ps := ps) hD h1 hlv hv
  intro A R s h1 h2 h3 h4 h5 h6 hfin
  refine h A R s h1 h2 h3 h4 h5 h6 fun z s' hz p1 p2 p3 p4 p5 p6 => ?_
  obtain ⟨zl,zb⟩ := z
  have e2 := hz.2.1 h0
  cases zb with
  | none => cases e2
  | some g => exact hfin (zl,g) s' (by show 0 < zl.length; rw [show zl.length = _ from hz.1]; exact hf) p1 p2 p3 p4 p5 p6
theorem pair_at {a : Str} {c : Bool} {u : Tok} (h : MeetC e (D + 50) x tx a u c) : ∀ (i : Nat) (p : Str × Bool),[(a,c)][i]? = some p → ∃ u',[Value.str a u][i]? = some (Value.str p.1 u') ∧ MeetC e (D + 50) x tx p.1 u' p.2 := by
  intro i p hp
  match i,hp with
  | 0,hp => simp at hp; subst hp; exact ⟨u,rfl,h⟩
  | i + 1,hp => simp at hp
theorem pair_at2 {a a2 : Str} {c c2 : Bool} {u u2 : Tok} (h : MeetC e (D + 50) x tx a u c) (h2 : MeetC e (D + 50) x tx a2 u2 c2) : ∀ (i : Nat) (p : Str × Bool),[(a,c),(a2,c2)][i]? = some p → ∃ u',[Value.str a u,Value.str a2 u2][i]? = some (Value.str p.1 u') ∧ MeetC e (D + 50) x tx p.1 u' p.2 := by
  intro i p hp
  match i,hp with
  | 0,hp => simp at hp; subst hp; exact ⟨u,rfl,h⟩
  | 1,hp => simp at hp; subst hp; exact ⟨u2,rfl,h2⟩
  | i + 2,hp => simp at hp
end
structure Xd where
  ov : List Value
  no : Nat
  X : Lx
  ln : Value
  m : Nat
  tm : Tok
noncomputable def f3L (c : Ck) (fr it : Addr) (K : Lk) (Y : Xd) (F : Fk) (ns : List Nat) (tl : List DictEntry) (i : Nat) (q : List Value) (nq : Nat) (sc : Option Value) (ps : List Pair) (n : Nat) : Led :=
  [(it,litO K.ol i),(K.ol,lob Y.ov Y.no),(fr,lfT K F ns tl),(c.c_line,cellO (.ref Y.X.l))] ++ Y.X.L Y.ln q nq ++ [(c.c_spot,cellN sc),(c.c_turn,cellO (.int (.ofNat Y.m) Y.tm))] ++ K.H.L ps n
noncomputable def f3E (c : Ck) (fr it : Addr) (K : Lk) (Y : Xd) (F : Fk) (ns : List Nat) (tl : List DictEntry) (i : Nat) (q : List Value) (nq : Nat) (sc : Option Value) (ps : List Pair) (n : Nat) : Led :=
  [(it,litE i),(K.ol,lob Y.ov Y.no),(fr,lfT K F ns tl),(c.c_line,cellO (.ref Y.X.l))] ++ Y.X.L Y.ln q nq ++ [(c.c_spot,cellN sc),(c.c_turn,cellO (.int (.ofNat Y.m) Y.tm))] ++ K.H.L ps n
noncomputable def ns3 : List Nat := ns0 ++ [12,13,14,15]
noncomputable def csT (par : Bool) (w : Str) : Str := match par with | false => Txt.lower w | true => Txt.upper w
noncomputable def csI (par : Bool) : String := match par with | false => "str.lower" | true => "str.upper"
theorem cs_does {G : Gc} {D : Nat} {x : Str} {t : Tok} (par : Bool) (h : Builtin.Str.tooLong (csT par x).length = false) :
    Does G D (.builtin (csI par) ⟨[.str x t],[]⟩) [] (fun _ : Tok => True) (fun k => retV (.str (csT par x) k)) (fun _ => []) (fun _ => []) := by
  cases par
  · exact lower_does h
  · exact upper_does h
noncomputable def n3 (g : Bool) : List Nat := match g with | false => ns3 | true => ns0 ++ [12]
noncomputable def t3 (g : Bool) (tl : List DictEntry) : List DictEntry := match g with | false => tl | true => []
structure TgB (g par : Bool) : Type where
noncomputable def TgB.p {g par : Bool} (_ : TgB g par) : Bool := par
section
variable {e : Env0} {D : Nat} {h₀ : Heap} {H₀ : List Addr} {A₀ : Around} {R₀ : Result → Shared → Prop} {c : Ck} {fr it : Addr} {K : Lk} {Y : Xd} {F : Fk} {ns : List Nat} {tl : List DictEntry} {i n nq k : Nat} {q : List Value} {sc : Option Value} {t tw us : Tok} {w s : Str} {a b : Pair} {ca cb : Bool}
theorem f3_h1 (par g : Bool) (a0 : Calm A₀ D) (aD : A₀.depth + 100 ≤ recursionLimit) (hD : D + 550 ≤ recursionLimit) (hC : 8 * D + 1300 < cLine) (ho : Y.ov[i]? = some (.int (.ofNat k) t)) (hq : q.length ≤ 50) (hl : Builtin.Str.tooLong (csT par w).length = false) (N : Name (csT par w)) (hp : (Int.ofNat (Y.m % 2) != 0) = par) (Na : Name a.x) (sa : same (Txt.lower a.x) (Txt.lower (csT par w)) = true)
    (next : ∀ F,DoesR e.G h₀ H₀ A₀ R₀ (lawF3 e.w c fr it) (f3L c fr it K Y F ns3 (t3 g tl) (i + 1) (q ++ [.str w tw] ++ [.str s us]) (nq + 4) (some (.str s us)) [] (n + 1))) :
    DoesR e.G h₀ H₀ A₀ R₀ (lawF3 e.w c fr it) (f3L c fr it K Y F (n3 g) (t3 g tl) i (.str w tw :: .str s us :: q) nq sc [a] n) := by
  have gg : TgB g par := ⟨⟩
  cases g <;> cases par
  all_goals
    refine walkR a0 aD (ts [1,1] <| ts [3,3,4,5,0,0,0,5,0,0,0,5,0,0,0,0,5,6,0] <| ts [7,1,0,0,0,1,0,0,0,1,0,0,0,0,1,2,0] <| ts [1,1,1,1001,1,1,1,1,1,1,2,1,1,1,1,1,1,2,1,1,1,1,1,1,2,1,1,1,10,10,12,12,13] <| ts [] <| ts [10] <| ts [10,10,0,10,10,0] <| ts [0,14,14,0] <| ts [15,9,0,0,0,9,0,0,0,9,0,0,0,0,9,10,14,0] <| ts [15,1,0,0,0,1,0,0,0,1,0,0,0,0,1,2,16,0] <| ts [] <| tn [] []) ?_; intro gd mm sz0 tk0 o
    refine mm [0,0] (lnext_some (it := it) (l := K.ol) (xs := Y.ov) (n := Y.no) (i := i) (v := .int (.ofNat k) t) (by omega) ho) ?_; intro o _ sz1 tk1 _
    refine mm [4,4,4] (getq_does (X := Y.X) (ln := Y.ln) (xs := .str s us :: q) (n := nq) (sv := w) (tv := tw) (by omega) (Nat.lt_of_le_of_lt (by simp; omega : _ ≤ 100) (by decide))) ?_; intro o _ sz2 tk2 _
    refine mm [0,0,0] (getq_does (X := Y.X) (ln := Y.ln) (xs := q) (n := nq + 1) (sv := s) (tv := us) (by omega) (Nat.lt_of_le_of_lt (by omega : _ ≤ 100) (by decide))) ?_; intro o _ sz3 tk3 _
    refine mm [] (imod_does (a := .ofNat Y.m) (b := .ofNat 2) (r := .ofNat (Y.m % 2)) (t := Y.tm) (u := (tk3 + 1)) (mod_ok (by decide))) ?_; intro o k3 sz4 tk4 _
    refine mm [] (ibool_does (a := .ofNat (Y.m % 2)) (t := k3) (c := gg.p) hp) ?_; intro o _ sz5 tk5 _
    refine mm [] (cs_does gg.p (x := w) (t := tw) hl) ?_; intro o k5 sz6 tk6 _
    refine mm [13,13,13,13] (contains_h (H := K.H) (a := a) (n := n) (x := csT gg.p w) (t := k5) (by omega) N Na sa) ?_; intro o _ sz7 tk7 _
    refine mm [0,0,0,0] (delitem_h (H := K.H) (a := a) (n := n) (x := csT gg.p w) (t := k5) (by omega) N Na sa) ?_; intro o _ sz8 tk8 _
    refine mm [8,8,8] (push_does (X := Y.X) (ln := Y.ln) (xs := q) (n := nq + 2) (sv := w) (tv := tw) (by omega) (small_size (by omega))) ?_; intro o _ sz9 tk9 _
    refine mm [0,0,0] (push_does (X := Y.X) (ln := Y.ln) (xs := q ++ [.str w tw]) (n := nq + 3) (sv := s) (tv := us) (by omega) (small_size (by simp; omega))) ?_; intro o _ sz10 tk10 _
    exact tailR_w [11,11,11,11,0,0,0,8,8,0,0,0] (fun o => fkOf ns3 (o.ob 13)) (fun F => next F)
theorem f3_h2 (par g : Bool) (a0 : Calm A₀ D) (aD : A₀.depth + 100 ≤ recursionLimit) (hD : D + 550 ≤ recursionLimit) (hC : 8 * D + 1300 < cLine) (ho : Y.ov[i]? = some (.int (.ofNat k) t)) (hq : q.length ≤ 50) (hl : Builtin.Str.tooLong (csT par w).length = false) (N : Name (csT par w)) (hp : (Int.ofNat (Y.m % 2) != 0) = par) (Na : Name a.x) (sa : same (Txt.lower a.x) (Txt.lower (csT par w)) = true) (Nb : Name b.x) (sb : same (Txt.lower b.x) (Txt.lower (csT par w)) = false)
    (next : ∀ F,DoesR e.G h₀ H₀ A₀ R₀ (lawF3 e.w c fr it) (f3L c fr it K Y F ns3 (t3 g tl) (i + 1) (q ++ [.str w tw] ++ [.str s us]) (nq + 4) (some (.str s us)) [b] (n + 1))) :
    DoesR e.G h₀ H₀ A₀ R₀ (lawF3 e.w c fr it) (f3L c fr it K Y F (n3 g) (t3 g tl) i (.str w tw :: .str s us :: q) nq sc [a,b] n) := by
  have gg : TgB g par := ⟨⟩
  cases g <;> cases par
  all_goals
    refine walkR a0 aD (ts [1,1] <| ts [3,3,4,5,0,0,0,5,0,0,0,5,0,0,0,0,5,6,0] <| ts [7,1,0,0,0,1,0,0,0,1,0,0,0,0,1,2,0] <| ts [1,1,1,1001,1,1,1,1,1,1,2,1,1,1,1,1,1,2,1,1,1,1,1,1,2,1,1,1,10,10,12,12,13] <| ts [] <| ts [10] <| ts [10,10,0,10,10,0] <| ts [0,15,15,0] <| ts [16,10,0,0,0,10,0,0,0,10,0,0,0,0,10,11,15,0] <| ts [16,1,0,0,0,1,0,0,0,1,0,0,0,0,1,2,17,0] <| ts [] <| tn [] []) ?_; intro gd mm sz0 tk0 o
    refine mm [0,0] (lnext_some (it := it) (l := K.ol) (xs := Y.ov) (n := Y.no) (i := i) (v := .int (.ofNat k) t) (by omega) ho) ?_; intro o _ sz1 tk1 _
    refine mm [4,4,4] (getq_does (X := Y.X) (ln := Y.ln) (xs := .str s us :: q) (n := nq) (sv := w) (tv := tw) (by omega) (Nat.lt_of_le_of_lt (by simp; omega : _ ≤ 100) (by decide))) ?_; intro o _ sz2 tk2 _
    refine mm [0,0,0] (getq_does (X := Y.X) (ln := Y.ln) (xs := q) (n := nq + 1) (sv := s) (tv := us) (by omega) (Nat.lt_of_le_of_lt (by omega : _ ≤ 100) (by decide))) ?_; intro o _ sz3 tk3 _
    refine mm [] (imod_does (a := .ofNat Y.m) (b := .ofNat 2) (r := .ofNat (Y.m % 2)) (t := Y.tm) (u := (tk3 + 1)) (mod_ok (by decide))) ?_; intro o k3 sz4 tk4 _
    refine mm [] (ibool_does (a := .ofNat (Y.m % 2)) (t := k3) (c := gg.p) hp) ?_; intro o _ sz5 tk5 _
    refine mm [] (cs_does gg.p (x := w) (t := tw) hl) ?_; intro o k5 sz6 tk6 _
    refine mm [13,13,13,13,13] (contains_hn (H := K.H) (a := a) (b := b) (n := n) (x := csT gg.p w) (t := k5) (by omega) N Na sa Nb sb) ?_; intro o _ sz7 tk7 _
    refine mm [0,0,0,0,0] (delitem_hn (H := K.H) (a := a) (b := b) (n := n) (x := csT gg.p w) (t := k5) (by omega) N Na sa Nb sb) ?_; intro o _ sz8 tk8 _
    refine mm [9,9,9] (push_does (X := Y.X) (ln := Y.ln) (xs := q) (n := nq + 2) (sv := w) (tv := tw) (by omega) (small_size (by omega))) ?_; intro o _ sz9 tk9 _
    refine mm [0,0,0] (push_does (X := Y.X) (ln := Y.ln) (xs := q ++ [.str w tw]) (n := nq + 3) (sv := s) (tv := us) (by omega) (small_size (by simp; omega))) ?_; intro o _ sz10 tk10 _
    exact tailR_w [12,12,12,12,0,0,0,9,9,0,0,0,1] (fun o => fkOf ns3 (o.ob 14)) (fun F => next F)
theorem f3_a0 (par g : Bool) (a0 : Calm A₀ D) (aD : A₀.depth + 100 ≤ recursionLimit) (hD : D + 550 ≤ recursionLimit) (hC : 8 * D + 1300 < cLine) (ho : Y.ov[i]? = some (.int (.ofNat k) t)) (hq : q.length ≤ 50) (hl : Builtin.Str.tooLong (csT par w).length = false) (N : Name (csT par w)) (hp : (Int.ofNat (Y.m % 2) != 0) = par) (fs : Fair s)
    (next : ∀ F (r : Pair),r.x = csT par w → r.v = s → DoesR e.G h₀ H₀ A₀ R₀ (lawF3 e.w c fr it) (f3L c fr it K Y F ns3 (t3 g tl) (i + 1) (q ++ [.str w tw] ++ [.str s us]) (nq + 4) (some (.str s us)) [r] (n + 1))) :
    DoesR e.G h₀ H₀ A₀ R₀ (lawF3 e.w c fr it) (f3L c fr it K Y F (n3 g) (t3 g tl) i (.str w tw :: .str s us :: q) nq sc [] n) := by
  have gg : TgB g par := ⟨⟩
  cases g <;> cases par
  all_goals
    refine walkR a0 aD (ts [1,1] <| ts [3,3,4,5,0,0,0,5,0,0,0,5,0,0,0,0,5,6,0] <| ts [7,1,0,0,0,1,0,0,0,1,0,0,0,0,1,2,0] <| ts [1,1,1,1001,1,1,1,1,1,1,2,1,1,1,1,1,1,2,1,1,1,1,1,1,2,1,1,1,10,10,12,12,13] <| ts [] <| ts [10] <| ts [10,10,0,10,10,0] <| ts [13,1,0,0,0,1,0,0,0,1,0,0,0,0,1,2,0] <| ts [1,1,1001,1,1] <| tn [4] [.mid 0]) ?_; intro gd mm sz0 tk0 o
    refine mm [0,0] (lnext_some (it := it) (l := K.ol) (xs := Y.ov) (n := Y.no) (i := i) (v := .int (.ofNat k) t) (by omega) ho) ?_; intro o _ sz1 tk1 _
    refine mm [4,4,4] (getq_does (X := Y.X) (ln := Y.ln) (xs := .str s us :: q) (n := nq) (sv := w) (tv := tw) (by omega) (Nat.lt_of_le_of_lt (by simp; omega : _ ≤ 100) (by decide))) ?_; intro o _ sz2 tk2 _
    refine mm [0,0,0] (getq_does (X := Y.X) (ln := Y.ln) (xs := q) (n := nq + 1) (sv := s) (tv := us) (by omega) (Nat.lt_of_le_of_lt (by omega : _ ≤ 100) (by decide))) ?_; intro o _ sz3 tk3 _
    refine mm [] (imod_does (a := .ofNat Y.m) (b := .ofNat 2) (r := .ofNat (Y.m % 2)) (t := Y.tm) (u := (tk3 + 1)) (mod_ok (by decide))) ?_; intro o k3 sz4 tk4 _
    refine mm [] (ibool_does (a := .ofNat (Y.m % 2)) (t := k3) (c := gg.p) hp) ?_; intro o _ sz5 tk5 _
    refine mm [] (cs_does gg.p (x := w) (t := tw) hl) ?_; intro o k5 sz6 tk6 _
    refine mm [13,13,13] (contains_0 (H := K.H) (n := n) (x := csT gg.p w) (t := k5) (by omega) N) ?_; intro o _ sz7 tk7 _
    refine mm [0,0,0] (values_0 (H := K.H) (n := n) (by omega)) ?_; intro o l6 sz8 tk8 _
    refine mm [2,2,1,0,14] (other_0 (C := ⟨sz8,sz8 + 1,sz8 + 2⟩) (fr := fr) (cs := c.c_spot) (ll := l6) (x := s) (tx := us) (nl := 0) (by omega)) ?_; intro o z7 sz9 tk9 _
    refine room_v a0 aD (by omega) (fun o => (codeOf o,sz8 + 1,sz9)) (siteF3RY .Eq 2) (siteF3TY .Eq 2) (ts [4,1,4,1001,4] <| ts [0,19,19,6,0] <| ts [21,15,0,0,0,15,0,0,0,15,0,0,0,0,15,16,20,0] <| ts [21,1,0,0,0,1,0,0,0,1,0,0,0,0,1,2,13,0] <| ts [] <| tn [] []) (by kernel_rfl) (by kernel_rfl) (by kernel_rfl) (fun p acts h => siteF3_ok p acts h) ?_; intro o
    refine mm [3,0] (list_eq_does (l := sz8 + 1) (r := sz9) (n := 0) (m := 0) (Z := []) (k := 0) (by omega) (by omega) EqVs.nil) ?_; intro o _ sz10 tk10 _
    refine mm [6,6,6] (setitem_0 (H := K.H) (n := n) (x := csT gg.p w) (t := k5) (v := s) (u := us) (by omega) N fs) ?_; intro o r9 sz11 tk11 _
    refine mm [14,14,14] (push_does (X := Y.X) (ln := Y.ln) (xs := q) (n := nq + 2) (sv := w) (tv := tw) (by omega) (small_size (by omega))) ?_; intro o _ sz12 tk12 _
    refine mm [0,0,0] (push_does (X := Y.X) (ln := Y.ln) (xs := q ++ [.str w tw]) (n := nq + 3) (sv := s) (tv := us) (by omega) (small_size (by simp; omega))) ?_; intro o _ sz13 tk13 _
    exact tailR_w [17,17,17,17,0,0,0,9,13,1,1,1,0] (fun o => fkOf ns3 (o.ob 19)) (fun F => next F ⟨r9,csT gg.p w,k5,s,us⟩ rfl rfl)
theorem f3_a1 (par g : Bool) (a0 : Calm A₀ D) (aD : A₀.depth + 100 ≤ recursionLimit) (hD : D + 550 ≤ recursionLimit) (hC : 8 * D + 1300 < cLine) (ho : Y.ov[i]? = some (.int (.ofNat k) t)) (hq : q.length ≤ 50) (hl : Builtin.Str.tooLong (csT par w).length = false) (N : Name (csT par w)) (hp : (Int.ofNat (Y.m % 2) != 0) = par) (fs : Fair s) (Na : Name a.x) (sa : same (Txt.lower a.x) (Txt.lower (csT par w)) = false) (ma : MeetC e (D + 100) s us a.v a.u false)
    (next : ∀ F (r : Pair),r.x = csT par w → r.v = s → DoesR e.G h₀ H₀ A₀ R₀ (lawF3 e.w c fr it) (f3L c fr it K Y F ns3 (t3 g tl) (i + 1) (q ++ [.str w tw] ++ [.str s us]) (nq + 4) (some (.str s us)) [a,r] (n + 1))) :
    DoesR e.G h₀ H₀ A₀ R₀ (lawF3 e.w c fr it) (f3L c fr it K Y F (n3 g) (t3 g tl) i (.str w tw :: .str s us :: q) nq sc [a] n) := by
  have gg : TgB g par := ⟨⟩
  cases g <;> cases par
  all_goals
    refine walkR a0 aD (ts [1,1] <| ts [3,3,4,5,0,0,0,5,0,0,0,5,0,0,0,0,5,6,0] <| ts [7,1,0,0,0,1,0,0,0,1,0,0,0,0,1,2,0] <| ts [1,1,1,1001,1,1,1,1,1,1,2,1,1,1,1,1,1,2,1,1,1,1,1,1,2,1,1,1,10,10,12,12,13] <| ts [] <| ts [10] <| ts [10,10,0,10,10,0] <| ts [14,1,0,0,0,1,0,0,0,1,0,0,0,0,1,2,0] <| ts [1,1,1001,1,1] <| tn [4,4,4] [.mid 0]) ?_; intro gd mm sz0 tk0 o
    refine mm [0,0] (lnext_some (it := it) (l := K.ol) (xs := Y.ov) (n := Y.no) (i := i) (v := .int (.ofNat k) t) (by omega) ho) ?_; intro o _ sz1 tk1 _
    refine mm [4,4,4] (getq_does (X := Y.X) (ln := Y.ln) (xs := .str s us :: q) (n := nq) (sv := w) (tv := tw) (by omega) (Nat.lt_of_le_of_lt (by simp; omega : _ ≤ 100) (by decide))) ?_; intro o _ sz2 tk2 _
    refine mm [0,0,0] (getq_does (X := Y.X) (ln := Y.ln) (xs := q) (n := nq + 1) (sv := s) (tv := us) (by omega) (Nat.lt_of_le_of_lt (by omega : _ ≤ 100) (by decide))) ?_; intro o _ sz3 tk3 _
    refine mm [] (imod_does (a := .ofNat Y.m) (b := .ofNat 2) (r := .ofNat (Y.m % 2)) (t := Y.tm) (u := (tk3 + 1)) (mod_ok (by decide))) ?_; intro o k3 sz4 tk4 _
    refine mm [] (ibool_does (a := .ofNat (Y.m % 2)) (t := k3) (c := gg.p) hp) ?_; intro o _ sz5 tk5 _
    refine mm [] (cs_does gg.p (x := w) (t := tw) hl) ?_; intro o k5 sz6 tk6 _
    refine mm [13,13,13,13] (contains_n (H := K.H) (a := a) (n := n) (x := csT gg.p w) (t := k5) (by omega) N Na sa) ?_; intro o _ sz7 tk7 _
    refine mm [0,0,0,0] (values_1 (H := K.H) (a := a) (n := n) (by omega)) ?_; intro o l6 sz8 tk8 _
    refine mm [2,2,1,0,15] (other_no (C := ⟨sz8,sz8 + 1,sz8 + 2⟩) (fr := fr) (cs := c.c_spot) (ll := l6) (x := s) (tx := us) (nl := 1) (lv := [.str a.v a.u]) (ps := [(a.v,false)]) (by omega) (by simp) (by simp) rfl rfl (pair_at ma)) ?_; intro o z7 sz9 tk9 _
    refine room_v a0 aD (by omega) (fun o => (codeOf o,sz8 + 1,sz9)) (siteF3RY .Eq 2) (siteF3TY .Eq 2) (ts [4,1,4,1001,4] <| ts [0,20,20,6,0] <| ts [22,16,0,0,0,16,0,0,0,16,0,0,0,0,16,17,21,0] <| ts [22,1,0,0,0,1,0,0,0,1,0,0,0,0,1,2,14,0] <| ts [] <| tn [] []) (by kernel_rfl) (by kernel_rfl) (by kernel_rfl) (fun p acts h => siteF3_ok p acts h) ?_; intro o
    refine mm [3,0] (list_eq_does (l := sz8 + 1) (r := sz9) (n := 0) (m := 0) (Z := []) (k := 0) (by omega) (by omega) EqVs.nil) ?_; intro o _ sz10 tk10 _
    refine mm [6,6,6,6] (setitem_n (H := K.H) (a := a) (n := n) (x := csT gg.p w) (t := k5) (v := s) (u := us) (by omega) N Na sa fs) ?_; intro o r9 sz11 tk11 _
    refine mm [15,15,15] (push_does (X := Y.X) (ln := Y.ln) (xs := q) (n := nq + 2) (sv := w) (tv := tw) (by omega) (small_size (by omega))) ?_; intro o _ sz12 tk12 _
    refine mm [0,0,0] (push_does (X := Y.X) (ln := Y.ln) (xs := q ++ [.str w tw]) (n := nq + 3) (sv := s) (tv := us) (by omega) (small_size (by simp; omega))) ?_; intro o _ sz13 tk13 _
    exact tailR_w [18,18,18,18,0,0,0,10,14,1,1,1,1,0] (fun o => fkOf ns3 (o.ob 20)) (fun F => next F ⟨r9,csT gg.p w,k5,s,us⟩ rfl rfl)
theorem f3_s1 (par g : Bool) (a0 : Calm A₀ D) (aD : A₀.depth + 100 ≤ recursionLimit) (hD : D + 550 ≤ recursionLimit) (hC : 8 * D + 1300 < cLine) (ho : Y.ov[i]? = some (.int (.ofNat k) t)) (hq : q.length ≤ 50) (hl : Builtin.Str.tooLong (csT par w).length = false) (N : Name (csT par w)) (hp : (Int.ofNat (Y.m % 2) != 0) = par) (Na : Name a.x) (sa : same (Txt.lower a.x) (Txt.lower (csT par w)) = false) (ma : MeetC e (D + 100) s us a.v a.u true)
    (next : ∀ F,DoesR e.G h₀ H₀ A₀ R₀ (lawF3 e.w c fr it) (f3L c fr it K Y F ns3 (t3 g tl) (i + 1) (q ++ [.str w tw] ++ [.str s us]) (nq + 4) (some (.str s us)) [a] (n))) :
    DoesR e.G h₀ H₀ A₀ R₀ (lawF3 e.w c fr it) (f3L c fr it K Y F (n3 g) (t3 g tl) i (.str w tw :: .str s us :: q) nq sc [a] n) := by
  have gg : TgB g par := ⟨⟩
  cases g <;> cases par
  all_goals
    refine walkR a0 aD (ts [1,1] <| ts [3,3,4,5,0,0,0,5,0,0,0,5,0,0,0,0,5,6,0] <| ts [7,1,0,0,0,1,0,0,0,1,0,0,0,0,1,2,0] <| ts [1,1,1,1001,1,1,1,1,1,1,2,1,1,1,1,1,1,2,1,1,1,1,1,1,2,1,1,1,10,10,12,12,13] <| ts [] <| ts [10] <| ts [10,10,0,10,10,0] <| ts [14,1,0,0,0,1,0,0,0,1,0,0,0,0,1,2,0] <| ts [1,1,1001,1,1] <| tn [4,4,4] [.mid 0]) ?_; intro gd mm sz0 tk0 o
    refine mm [0,0] (lnext_some (it := it) (l := K.ol) (xs := Y.ov) (n := Y.no) (i := i) (v := .int (.ofNat k) t) (by omega) ho) ?_; intro o _ sz1 tk1 _
    refine mm [4,4,4] (getq_does (X := Y.X) (ln := Y.ln) (xs := .str s us :: q) (n := nq) (sv := w) (tv := tw) (by omega) (Nat.lt_of_le_of_lt (by simp; omega : _ ≤ 100) (by decide))) ?_; intro o _ sz2 tk2 _
    refine mm [0,0,0] (getq_does (X := Y.X) (ln := Y.ln) (xs := q) (n := nq + 1) (sv := s) (tv := us) (by omega) (Nat.lt_of_le_of_lt (by omega : _ ≤ 100) (by decide))) ?_; intro o _ sz3 tk3 _
    refine mm [] (imod_does (a := .ofNat Y.m) (b := .ofNat 2) (r := .ofNat (Y.m % 2)) (t := Y.tm) (u := (tk3 + 1)) (mod_ok (by decide))) ?_; intro o k3 sz4 tk4 _
    refine mm [] (ibool_does (a := .ofNat (Y.m % 2)) (t := k3) (c := gg.p) hp) ?_; intro o _ sz5 tk5 _
    refine mm [] (cs_does gg.p (x := w) (t := tw) hl) ?_; intro o k5 sz6 tk6 _
    refine mm [13,13,13,13] (contains_n (H := K.H) (a := a) (n := n) (x := csT gg.p w) (t := k5) (by omega) N Na sa) ?_; intro o _ sz7 tk7 _
    refine mm [0,0,0,0] (values_1 (H := K.H) (a := a) (n := n) (by omega)) ?_; intro o l6 sz8 tk8 _
    refine mm [2,2,1,0,15] (other_yes (C := ⟨sz8,sz8 + 1,sz8 + 2⟩) (fr := fr) (cs := c.c_spot) (ll := l6) (x := s) (tx := us) (nl := 1) (lv := [.str a.v a.u]) (ps := [(a.v,true)]) (by omega) (by simp) (by simp) (by simp) rfl (pair_at ma)) ?_; intro o z7 sz9 tk9 hz7
    refine room_v a0 aD (by omega) (fun o => (codeOf o,sz8 + 1,sz9)) (siteF3RY .Eq 2) (siteF3TY .Eq 2) (ts [4,1,4,1001,4] <| ts [21,15,0,0,0,15,0,0,0,15,0,0,0,0,15,16,20,0] <| ts [21,1,0,0,0,1,0,0,0,1,0,0,0,0,1,2,9,0] <| ts [] <| tn [] []) (by kernel_rfl) (by kernel_rfl) (by kernel_rfl) (fun p acts h => siteF3_ok p acts h) ?_; intro o
    refine mm [3,0] (list_eq_off (l := sz8 + 1) (r := sz9) (xs := z7.1) (ys := []) (n := z7.1.length) (m := 0) (by simp; exact List.length_pos_iff.mp hz7)) ?_; intro o _ sz10 tk10 _
    refine mm [14,14,14] (push_does (X := Y.X) (ln := Y.ln) (xs := q) (n := nq + 2) (sv := w) (tv := tw) (by omega) (small_size (by omega))) ?_; intro o _ sz11 tk11 _
    refine mm [0,0,0] (push_does (X := Y.X) (ln := Y.ln) (xs := q ++ [.str w tw]) (n := nq + 3) (sv := s) (tv := us) (by omega) (small_size (by simp; omega))) ?_; intro o _ sz12 tk12 _
    exact tailR_w [17,17,17,17,0,0,0,5,13,5,5,5,5] (fun o => fkOf ns3 (o.ob 19)) (fun F => next F)
theorem f3_s2 (par g : Bool) (a0 : Calm A₀ D) (aD : A₀.depth + 100 ≤ recursionLimit) (hD : D + 550 ≤ recursionLimit) (hC : 8 * D + 1300 < cLine) (ho : Y.ov[i]? = some (.int (.ofNat k) t)) (hq : q.length ≤ 50) (hl : Builtin.Str.tooLong (csT par w).length = false) (N : Name (csT par w)) (hp : (Int.ofNat (Y.m % 2) != 0) = par) (Na : Name a.x) (sa : same (Txt.lower a.x) (Txt.lower (csT par w)) = false) (Nb : Name b.x) (sb : same (Txt.lower b.x) (Txt.lower (csT par w)) = false) (ma : MeetC e (D + 100) s us a.v a.u ca) (mb : MeetC e (D + 100) s us b.v b.u cb) (hcc : (ca || cb) = true)
    (next : ∀ F,DoesR e.G h₀ H₀ A₀ R₀ (lawF3 e.w c fr it) (f3L c fr it K Y F ns3 (t3 g tl) (i + 1) (q ++ [.str w tw] ++ [.str s us]) (nq + 4) (some (.str s us)) [a,b] (n))) :
    DoesR e.G h₀ H₀ A₀ R₀ (lawF3 e.w c fr it) (f3L c fr it K Y F (n3 g) (t3 g tl) i (.str w tw :: .str s us :: q) nq sc [a,b] n) := by
  have gg : TgB g par := ⟨⟩
  cases g <;> cases par
  all_goals
    refine walkR a0 aD (ts [1,1] <| ts [3,3,4,5,0,0,0,5,0,0,0,5,0,0,0,0,5,6,0] <| ts [7,1,0,0,0,1,0,0,0,1,0,0,0,0,1,2,0] <| ts [1,1,1,1001,1,1,1,1,1,1,2,1,1,1,1,1,1,2,1,1,1,1,1,1,2,1,1,1,10,10,12,12,13] <| ts [] <| ts [10] <| ts [10,10,0,10,10,0] <| ts [15,1,0,0,0,1,0,0,0,1,0,0,0,0,1,2,0] <| ts [1,1,1001,1,1] <| tn [4,4,4] [.mid 0]) ?_; intro gd mm sz0 tk0 o
    refine mm [0,0] (lnext_some (it := it) (l := K.ol) (xs := Y.ov) (n := Y.no) (i := i) (v := .int (.ofNat k) t) (by omega) ho) ?_; intro o _ sz1 tk1 _
    refine mm [4,4,4] (getq_does (X := Y.X) (ln := Y.ln) (xs := .str s us :: q) (n := nq) (sv := w) (tv := tw) (by omega) (Nat.lt_of_le_of_lt (by simp; omega : _ ≤ 100) (by decide))) ?_; intro o _ sz2 tk2 _
    refine mm [0,0,0] (getq_does (X := Y.X) (ln := Y.ln) (xs := q) (n := nq + 1) (sv := s) (tv := us) (by omega) (Nat.lt_of_le_of_lt (by omega : _ ≤ 100) (by decide))) ?_; intro o _ sz3 tk3 _
    refine mm [] (imod_does (a := .ofNat Y.m) (b := .ofNat 2) (r := .ofNat (Y.m % 2)) (t := Y.tm) (u := (tk3 + 1)) (mod_ok (by decide))) ?_; intro o k3 sz4 tk4 _
    refine mm [] (ibool_does (a := .ofNat (Y.m % 2)) (t := k3) (c := gg.p) hp) ?_; intro o _ sz5 tk5 _
    refine mm [] (cs_does gg.p (x := w) (t := tw) hl) ?_; intro o k5 sz6 tk6 _
    refine mm [13,13,13,13,13] (contains_nn (H := K.H) (a := a) (b := b) (n := n) (x := csT gg.p w) (t := k5) (by omega) N Na sa Nb sb) ?_; intro o _ sz7 tk7 _
    refine mm [0,0,0,0,0] (values_2 (H := K.H) (a := a) (b := b) (n := n) (by omega)) ?_; intro o l6 sz8 tk8 _
    refine mm [2,2,1,0,16] (other_yes (C := ⟨sz8,sz8 + 1,sz8 + 2⟩) (fr := fr) (cs := c.c_spot) (ll := l6) (x := s) (tx := us) (nl := 2) (lv := [.str a.v a.u,.str b.v b.u]) (ps := [(a.v,ca),(b.v,cb)]) (by omega) (by simp) (by simp) (by cases ca <;> cases cb <;> first | exact absurd hcc (by decide) | simp) rfl (pair_at2 ma mb)) ?_; intro o z7 sz9 tk9 hz7
    refine room_v a0 aD (by omega) (fun o => (codeOf o,sz8 + 1,sz9)) (siteF3RY .Eq 2) (siteF3TY .Eq 2) (ts [4,1,4,1001,4] <| ts [22,16,0,0,0,16,0,0,0,16,0,0,0,0,16,17,21,0] <| ts [22,1,0,0,0,1,0,0,0,1,0,0,0,0,1,2,9,0] <| ts [] <| tn [] []) (by kernel_rfl) (by kernel_rfl) (by kernel_rfl) (fun p acts h => siteF3_ok p acts h) ?_; intro o
    refine mm [3,0] (list_eq_off (l := sz8 + 1) (r := sz9) (xs := z7.1) (ys := []) (n := z7.1.length) (m := 0) (by simp; exact List.length_pos_iff.mp hz7)) ?_; intro o _ sz10 tk10 _
    refine mm [15,15,15] (push_does (X := Y.X) (ln := Y.ln) (xs := q) (n := nq + 2) (sv := w) (tv := tw) (by omega) (small_size (by omega))) ?_; intro o _ sz11 tk11 _
    refine mm [0,0,0] (push_does (X := Y.X) (ln := Y.ln) (xs := q ++ [.str w tw]) (n := nq + 3) (sv := s) (tv := us) (by omega) (small_size (by simp; omega))) ?_; intro o _ sz12 tk12 _
    exact tailR_w [18,18,18,18,0,0,0,5,14,5,5,5,5,5] (fun o => fkOf ns3 (o.ob 20)) (fun F => next F)
theorem f3_end0 (a0 : Calm A₀ D) (aD : A₀.depth + 100 ≤ recursionLimit) (hD : D + 550 ≤ recursionLimit) (hC : 8 * D + 1300 < cLine) (ho : Y.ov[i]? = none)
    (fin : ∀ h tk sz,Rep e.G h₀ H₀ h (f3E c fr it K Y F ns3 tl i q nq sc [] n) sz → R₀ (.ok .next) (e.G.sh h tk)) :
    DoesR e.G h₀ H₀ A₀ R₀ (lawF3 e.w c fr it) (f3L c fr it K Y F ns3 tl i q nq sc [] n) := by
  refine walkR a0 aD (ts [1,1] <| tn [1] []) ?_; intro gd mm sz0 tk0 o
  refine mm [0,0] (lnext_end (it := it) (l := K.ol) (xs := Y.ov) (n := Y.no) (i := i) (by omega) ho) ?_; intro o x sz1 tk1 _
  exact retR [2,2,2,2,2,2,2,2,2,2,2,2] fin
theorem f3_end1 (a0 : Calm A₀ D) (aD : A₀.depth + 100 ≤ recursionLimit) (hD : D + 550 ≤ recursionLimit) (hC : 8 * D + 1300 < cLine) (ho : Y.ov[i]? = none)
    (fin : ∀ h tk sz,Rep e.G h₀ H₀ h (f3E c fr it K Y F ns3 tl i q nq sc [a] n) sz → R₀ (.ok .next) (e.G.sh h tk)) :
    DoesR e.G h₀ H₀ A₀ R₀ (lawF3 e.w c fr it) (f3L c fr it K Y F ns3 tl i q nq sc [a] n) := by
  refine walkR a0 aD (ts [1,1] <| tn [1] []) ?_; intro gd mm sz0 tk0 o
  refine mm [0,0] (lnext_end (it := it) (l := K.ol) (xs := Y.ov) (n := Y.no) (i := i) (by omega) ho) ?_; intro o x sz1 tk1 _
  exact retR [2,2,2,2,2,2,2,2,2,2,2,2,2] fin
theorem f3_end2 (a0 : Calm A₀ D) (aD : A₀.depth + 100 ≤ recursionLimit) (hD : D + 550 ≤ recursionLimit) (hC : 8 * D + 1300 < cLine) (ho : Y.ov[i]? = none)
    (fin : ∀ h tk sz,Rep e.G h₀ H₀ h (f3E c fr it K Y F ns3 tl i q nq sc [a,b] n) sz → R₀ (.ok .next) (e.G.sh h tk)) :
    DoesR e.G h₀ H₀ A₀ R₀ (lawF3 e.w c fr it) (f3L c fr it K Y F ns3 tl i q nq sc [a,b] n) := by
  refine walkR a0 aD (ts [1,1] <| tn [1] []) ?_; intro gd mm sz0 tk0 o
  refine mm [0,0] (lnext_end (it := it) (l := K.ol) (xs := Y.ov) (n := Y.no) (i := i) (by omega) ho) ?_; intro o x sz1 tk1 _
  exact retR [2,2,2,2,2,2,2,2,2,2,2,2,2,2] fin
end
end Mine
namespace Mine
noncomputable def meetN (wd k j : Nat) : Bool := decide ((Int.ofNat (k / wd) - Int.ofNat (j / wd)) * (Int.ofNat (k % wd) - Int.ofNat (j % wd)) ≥ 0)
structure BG (e : Env0) (wd : Nat) (wf sf : Nat → List Nat) (N : Nat) : Prop extends BF wf sf N where
  nm : ∀ k f,k < N → Name (fm f (sOf (wf k)))
  lw : ∀ k f,k < N → Txt.lower (fm f (sOf (wf k))) = Txt.lower (sOf (wf k))
  fl : ∀ k,k < N → Builtin.Str.tooLong (Txt.lower (sOf (wf k))).length = false
  fu : ∀ k,k < N → Builtin.Str.tooLong (Txt.upper (sOf (wf k))).length = false
  mt : ∀ k j,k < N → j < N → ∀ D t u,D + 400 ≤ recursionLimit → MeetC e D (sOf (sf k)) t (sOf (sf j)) u (meetN wd k j)
noncomputable def stepF3 (wd f k : Nat) (l : List (Nat × Nat)) : Option (List (Nat × Nat)) := match l with
  | [] => some [(k,f)]
  | [a] => match a.1 == k with
    | true => some []
    | false => match meetN wd k a.1 with
      | true => some [a]
      | false => some [a,(k,f)]
  | [a,b] => match a.1 == k,b.1 == k with
    | true,false => some [b]
    | false,false => match meetN wd k a.1 || meetN wd k b.1 with
      | true => some [a,b]
      | false => none
    | _,_ => none
  | _ => none
noncomputable def runF3 (wd f : Nat) : List Nat → List (Nat × Nat) → Option (List (Nat × Nat))
  | [],l => some l
  | k :: ks,l => match stepF3 wd f k l with
    | some l' => runF3 wd f ks l'
    | none => none
abbrev Quad := Str × Tok × Str × Tok
noncomputable def QL (l : List Quad) : List Value := l.flatMap fun z => [.str z.1 z.2.1,.str z.2.2.1 z.2.2.2]
theorem QL_cons (z : Quad) (l : List Quad) : QL (z :: l) = .str z.1 z.2.1 :: .str z.2.2.1 z.2.2.2 :: QL l := rfl
theorem QL_snoc (z : Quad) (l : List Quad) : QL (l ++ [z]) = QL l ++ [.str z.1 z.2.1] ++ [.str z.2.2.1 z.2.2.2] := by
  unfold QL; rw [List.flatMap_append,List.append_assoc]; rfl
theorem QL_len (l : List Quad) : (QL l).length = 2 * l.length := by
  induction l with
  | nil => rfl
  | cons z l ih => rw [QL_cons]; simp [ih]; omega
noncomputable def QuadsOf (wf sf : Nat → List Nat) (ord : List Nat) (Z : List Quad) : Prop := Z.map (fun z => (z.1,z.2.2.1)) = ord.map fun k => (sOf (wf k),sOf (sf k))
section
variable {e : Env0} {D : Nat} {c : Ck} {fr it : Addr} {K : Lk} {Y : Xd} {N wd : Nat} {wf sf : Nat → List Nat} {ord : List Nat} {Z : List Quad}
theorem HasPs.one {ps : List Pair} {a : Nat × Nat} (h : HasPs wf sf ps [a]) : ∃ p : Pair,ps = [p] ∧ p.x = fm a.2 (sOf (wf a.1)) ∧ p.v = sOf (sf a.1) := by
  match ps,h with
  | [p],h =>
    unfold HasPs at h
    simp only [List.map_cons,List.map_nil,List.cons.injEq,Prod.mk.injEq,and_true] at h
    exact ⟨p,rfl,h.1,h.2⟩
  | [],h => exact absurd h.len (by simp)
  | _ :: _ :: _,h => exact absurd h.len (by simp)
theorem HasPs.two {ps : List Pair} {a b : Nat × Nat} (h : HasPs wf sf ps [a,b]) : ∃ p q : Pair,ps = [p,q] ∧ (p.x = fm a.2 (sOf (wf a.1)) ∧ p.v = sOf (sf a.1)) ∧ q.x = fm b.2 (sOf (wf b.1)) ∧ q.v = sOf (sf b.1) := by
  match ps,h with
  | [p,q],h =>
    unfold HasPs at h
    simp only [List.map_cons,List.map_nil,List.cons.injEq,Prod.mk.injEq,and_true] at h
    exact ⟨p,q,rfl,⟨h.1.1,h.1.2⟩,h.2.1,h.2.2⟩
  | [],h => exact absurd h.len (by simp)
  | [_],h => exact absurd h.len (by simp)
  | _ :: _ :: _ :: _,h => exact absurd h.len (by simp)
theorem HasPs.nil0 {ps : List Pair} (h : HasPs wf sf ps []) : ps = [] := List.length_eq_zero_iff.mp h.len
theorem f3_go {h₀ : Heap} {H₀ : List Addr} {A₀ : Around} {R₀ : Result → Shared → Prop} (a0 : Calm A₀ D) (aD : A₀.depth + 100 ≤ recursionLimit) (hD : D + 550 ≤ recursionLimit) (hC : 8 * D + 1300 < cLine)
    (B : BG e wd wf sf N) (hov : Ints (natI ord) Y.ov) (hord : ∀ k ∈ ord,k < N) (h20 : ord.length ≤ 20) (hZ : QuadsOf wf sf ord Z) {lf : List (Nat × Nat)} {tl : List DictEntry} {nq0 : Nat}
    {par : Bool} (hp : (Int.ofNat (Y.m % 2) != 0) = par)
    (fin : ∀ F sc ps n h tk sz,HasPs wf sf ps lf → (0 < ord.length → sc.isSome = true) → Rep e.G h₀ H₀ h (f3E c fr it K Y F ns3 tl ord.length (QL Z) (nq0 + 4 * ord.length) sc ps n) sz → R₀ (.ok .next) (e.G.sh h tk)) :
    ∀ (m i : Nat) (F : Fk) (ns : List Nat) (l : List (Nat × Nat)) (ps : List Pair) (n : Nat) (sc : Option Value),i + m = ord.length →
      (ns = ns3 ∨ 0 < m ∧ ns = ns0 ++ [12] ∧ tl = []) → (0 < i → sc.isSome = true) → HasPs wf sf ps l → l.length ≤ 2 → (∀ p ∈ l,p.1 < N) → runF3 wd (if par then 2 else 1) (ord.drop i) l = some lf →
      DoesR e.G h₀ H₀ A₀ R₀ (lawF3 e.w c fr it) (f3L c fr it K Y F ns tl i (QL (Z.drop i ++ Z.take i)) (nq0 + 4 * i) sc ps n)
  | 0,i,F,ns,l,ps,n,sc,hi,hns,hsc,hps,hl,_,hrun => by
    have hns' : ns = ns3 := by rcases hns with h | h; exact h; exact absurd h.1 (Nat.lt_irrefl _)
    subst hns'
    have e1 : i = ord.length := by omega
    subst e1
    have hZl : Z.length = ord.length := by have := congrArg List.length hZ; simpa using this
    rw [List.drop_length] at hrun
    obtain rfl : l = lf := by simpa [runF3] using hrun
    have hq : Z.drop ord.length ++ Z.take ord.length = Z := by rw [← hZl]; simp
    rw [hq]
    have ho : Y.ov[ord.length]? = none := by
      rw [List.getElem?_eq_none_iff,hov.len]; unfold natI; simp
    have hl' : ps.length ≤ 2 := by rw [hps.len]; exact hl
    match ps,hl',hps with
    | [],_,hps => exact f3_end0 a0 aD hD hC ho fun h tk sz Dh => fin F sc [] n h tk sz hps hsc Dh
    | [a],_,hps => exact f3_end1 a0 aD hD hC ho fun h tk sz Dh => fin F sc [a] n h tk sz hps hsc Dh
    | [a,b],_,hps => exact f3_end2 a0 aD hD hC ho fun h tk sz Dh => fin F sc [a,b] n h tk sz hps hsc Dh
  | m + 1,i,F,ns,l,ps,n,sc,hi,hns,hsc,hps,hl,hlN,hrun => by
    have hlt : i < ord.length := by omega
    have hk : ord[i]? = some ord[i] := List.getElem?_eq_getElem hlt
    have hkN : ord[i] < N := hord _ (List.getElem_mem hlt)
    have hZl : Z.length = ord.length := by have := congrArg List.length hZ; simpa using this
    have hz : (Z[i]'(by omega)).1 = sOf (wf ord[i]) ∧ (Z[i]'(by omega)).2.2.1 = sOf (sf ord[i]) := by
      have := congrArg (fun l => l[i]?) hZ
      simp only [List.getElem?_map,hk,List.getElem?_eq_getElem (show i < Z.length by omega),Option.map_some,Option.some.injEq,Prod.mk.injEq] at this
      exact this
    have hdr : ord.drop i = ord[i] :: ord.drop (i + 1) := List.drop_eq_getElem_cons hlt
    have hZd : Z.drop i = Z[i]'(by omega) :: Z.drop (i + 1) := List.drop_eq_getElem_cons (by omega)
    have hZt : Z.take (i + 1) = Z.take i ++ [Z[i]'(by omega)] := by rw [List.take_add_one,List.getElem?_eq_getElem (by omega)]; rfl
    obtain ⟨z,ez⟩ : ∃ z,z = Z[i]'(by omega) := ⟨_,rfl⟩
    rw [← ez] at hz hZd hZt
    obtain ⟨w,tw,s,us⟩ := z
    obtain ⟨hw,hs⟩ := hz
    simp only at hw hs
    obtain ⟨t,ho⟩ := ints_at hov hk
    rw [hdr] at hrun
    obtain ⟨l',hst,hrun'⟩ : ∃ l',stepF3 wd (if par then 2 else 1) ord[i] l = some l' ∧ runF3 wd (if par then 2 else 1) (ord.drop (i + 1)) l' = some lf := by
      unfold runF3 at hrun
      cases hs : stepF3 wd (if par then 2 else 1) ord[i] l with
      | none => rw [hs] at hrun; cases hrun
      | some l' => rw [hs] at hrun; exact ⟨l',rfl,hrun⟩
    have hql : (QL (Z.drop (i + 1) ++ Z.take i)).length ≤ 50 := by rw [QL_len,List.length_append,List.length_drop,List.length_take]; omega
    have eq1 : QL (Z.drop i ++ Z.take i) = .str w tw :: .str s us :: QL (Z.drop (i + 1) ++ Z.take i) := by rw [hZd,List.cons_append,QL_cons]
    have eq2 : QL (Z.drop (i + 1) ++ Z.take i) ++ [.str w tw] ++ [.str s us] = QL (Z.drop (i + 1) ++ Z.take (i + 1)) := by rw [hZt,← List.append_assoc,QL_snoc]
    have go : ∀ F ps' n',HasPs wf sf ps' l' → l'.length ≤ 2 → (∀ p ∈ l',p.1 < N) → DoesR e.G h₀ H₀ A₀ R₀ (lawF3 e.w c fr it) (f3L c fr it K Y F ns3 tl (i + 1) (QL (Z.drop (i + 1) ++ Z.take i) ++ [.str w tw] ++ [.str s us]) (nq0 + 4 * i + 4) (some (.str s us)) ps' n') := fun F ps' n' h1 h2 h3 => by
      rw [eq2,show nq0 + 4 * i + 4 = nq0 + 4 * (i + 1) by omega]
      exact f3_go a0 aD hD hC B hov hord h20 hZ hp fin m (i + 1) F ns3 l' ps' n' (some (.str s us)) (by omega) (.inl rfl) (fun _ => rfl) h1 h2 h3 hrun'
    rw [eq1]
    have fs : Fair s := by rw [hs]; exact B.spot _ hkN
    have fl : Builtin.Str.tooLong (Txt.lower w).length = false := by rw [hw]; exact B.fl _ hkN
    have fu : Builtin.Str.tooLong (Txt.upper w).length = false := by rw [hw]; exact B.fu _ hkN
    have nl : Name (Txt.lower w) := by rw [hw]; exact B.nm _ 1 hkN
    have nu : Name (Txt.upper w) := by rw [hw]; exact B.nm _ 2 hkN
    have ll : Txt.lower (Txt.lower w) = Txt.lower (sOf (wf ord[i])) := by rw [hw]; exact B.lw _ 1 hkN
    have lu : Txt.lower (Txt.upper w) = Txt.lower (sOf (wf ord[i])) := by rw [hw]; exact B.lw _ 2 hkN
    have sl : ∀ {x : Str} {b : Bool},same x (Txt.lower (sOf (wf ord[i]))) = b → same x (Txt.lower (csT false w)) = b := fun h => by rw [show Txt.lower (csT false w) = _ from ll]; exact h
    have su : ∀ {x : Str} {b : Bool},same x (Txt.lower (sOf (wf ord[i]))) = b → same x (Txt.lower (csT true w)) = b := fun h => by rw [show Txt.lower (csT true w) = _ from lu]; exact h
    have hN' : ∀ (p : Nat × Nat) (a : Pair),a.x = fm p.2 (sOf (wf p.1)) → p.1 < N → Name a.x := fun p a h1 h2 => by rw [h1]; exact B.nm _ _ h2
    have hS : ∀ (p : Nat × Nat) (a : Pair),a.x = fm p.2 (sOf (wf p.1)) → p.1 < N → same (Txt.lower a.x) (Txt.lower (sOf (wf ord[i]))) = (p.1 == ord[i]) := fun p a h1 h2 => by
      rw [h1,B.lw _ _ h2]
      cases h : p.1 == ord[i] with
      | true =>
        have : p.1 = ord[i] := by simpa using h
        rw [this]
        exact same_iff.mpr rfl
      | false =>
        have : p.1 ≠ ord[i] := by simpa using h
        exact B.ne _ _ h2 hkN this
    have hM : ∀ (p : Nat × Nat) (a : Pair),a.v = sOf (sf p.1) → p.1 < N → MeetC e (D + 100) s us a.v a.u (meetN wd ord[i] p.1) := fun p a h1 h2 => by
      rw [h1,hs]; exact B.mt _ _ hkN h2 _ _ _ (by omega)
    match l,hps,hst,hlN,hl with
    | [],hps,hst,hlN,hl =>
      obtain rfl := hps.nil0
      simp only [stepF3,Option.some.injEq] at hst
      subst hst
      have hq : ∀ (r : Pair) (f : Nat),r.x = fm f w → r.v = s → HasPs wf sf [r] [(ord[i],f)] := fun r f h1 h2 => by
        rw [hw] at h1; rw [hs] at h2
        exact HasPs.snoc (ps := []) (l := []) rfl h1 h2
      have hn : ∀ f : Nat,∀ p ∈ [(ord[i],f)],p.1 < N := fun f p hm => by rw [List.mem_singleton.mp hm]; exact hkN
      rcases hns with rfl | ⟨_,rfl,rfl⟩ <;> cases par
      · exact f3_a0 false false a0 aD hD hC ho hql fl nl hp fs fun F r r1 r2 => go F [r] _ (hq r 1 r1 r2) (by simp) (hn _)
      · exact f3_a0 true false a0 aD hD hC ho hql fu nu hp fs fun F r r1 r2 => go F [r] _ (hq r 2 r1 r2) (by simp) (hn _)
      · exact f3_a0 false true (tl := []) a0 aD hD hC ho hql fl nl hp fs fun F r r1 r2 => go F [r] _ (hq r 1 r1 r2) (by simp) (hn _)
      · exact f3_a0 true true (tl := []) a0 aD hD hC ho hql fu nu hp fs fun F r r1 r2 => go F [r] _ (hq r 2 r1 r2) (by simp) (hn _)
    | [a],hps,hst,hlN,hl =>
      obtain ⟨pa,rfl,ax,av⟩ := hps.one
      have haN : a.1 < N := hlN a (List.mem_singleton.mpr rfl)
      have Na := hN' a pa ax haN
      have sa := hS a pa ax haN
      have ma := hM a pa av haN
      simp only [stepF3] at hst
      cases hk1 : a.1 == ord[i] with
      | true =>
        rw [hk1] at sa hst
        simp only [Option.some.injEq] at hst
        subst hst
        rcases hns with rfl | ⟨_,rfl,rfl⟩ <;> cases par
        · exact f3_h1 false false a0 aD hD hC ho hql fl nl hp Na (sl sa) fun F => go F [] _ rfl (by simp) (fun p hm => nomatch hm)
        · exact f3_h1 true false a0 aD hD hC ho hql fu nu hp Na (su sa) fun F => go F [] _ rfl (by simp) (fun p hm => nomatch hm)
        · exact f3_h1 false true (tl := []) a0 aD hD hC ho hql fl nl hp Na (sl sa) fun F => go F [] _ rfl (by simp) (fun p hm => nomatch hm)
        · exact f3_h1 true true (tl := []) a0 aD hD hC ho hql fu nu hp Na (su sa) fun F => go F [] _ rfl (by simp) (fun p hm => nomatch hm)
      | false =>
        rw [hk1] at sa hst
        cases hk2 : meetN wd ord[i] a.1 with
        | true =>
          rw [hk2] at ma hst
          simp only [Option.some.injEq] at hst
          subst hst
          rcases hns with rfl | ⟨_,rfl,rfl⟩ <;> cases par
          · exact f3_s1 false false a0 aD hD hC ho hql fl nl hp Na (sl sa) ma fun F => go F [pa] _ hps (by simp) hlN
          · exact f3_s1 true false a0 aD hD hC ho hql fu nu hp Na (su sa) ma fun F => go F [pa] _ hps (by simp) hlN
          · exact f3_s1 false true (tl := []) a0 aD hD hC ho hql fl nl hp Na (sl sa) ma fun F => go F [pa] _ hps (by simp) hlN
          · exact f3_s1 true true (tl := []) a0 aD hD hC ho hql fu nu hp Na (su sa) ma fun F => go F [pa] _ hps (by simp) hlN
        | false =>
          rw [hk2] at ma hst
          simp only [Option.some.injEq] at hst
          subst hst
          have hq : ∀ (r : Pair) (f : Nat),r.x = fm f w → r.v = s → HasPs wf sf [pa,r] [a,(ord[i],f)] := fun r f h1 h2 => by
            rw [hw] at h1; rw [hs] at h2
            exact HasPs.snoc (ps := [pa]) (l := [a]) hps h1 h2
          have hn : ∀ f : Nat,∀ p ∈ [a,(ord[i],f)],p.1 < N := fun f p hm => by
            rcases List.mem_cons.mp hm with h | h
            · rw [h]; exact haN
            · rw [List.mem_singleton.mp h]; exact hkN
          rcases hns with rfl | ⟨_,rfl,rfl⟩ <;> cases par
          · exact f3_a1 false false a0 aD hD hC ho hql fl nl hp fs Na (sl sa) ma fun F r r1 r2 => go F [pa,r] _ (hq r 1 r1 r2) (by simp) (hn _)
          · exact f3_a1 true false a0 aD hD hC ho hql fu nu hp fs Na (su sa) ma fun F r r1 r2 => go F [pa,r] _ (hq r 2 r1 r2) (by simp) (hn _)
          · exact f3_a1 false true (tl := []) a0 aD hD hC ho hql fl nl hp fs Na (sl sa) ma fun F r r1 r2 => go F [pa,r] _ (hq r 1 r1 r2) (by simp) (hn _)
          · exact f3_a1 true true (tl := []) a0 aD hD hC ho hql fu nu hp fs Na (su sa) ma fun F r r1 r2 => go F [pa,r] _ (hq r 2 r1 r2) (by simp) (hn _)
    | [a,b],hps,hst,hlN,hl =>
      obtain ⟨pa,pb,rfl,⟨ax,av⟩,bx,bv⟩ := hps.two
      have haN : a.1 < N := hlN a (by simp)
      have hbN : b.1 < N := hlN b (by simp)
      have Na := hN' a pa ax haN
      have sa := hS a pa ax haN
      have ma := hM a pa av haN
      have Nb := hN' b pb bx hbN
      have sb := hS b pb bx hbN
      have mb := hM b pb bv hbN
      simp only [stepF3] at hst
      cases hk1 : a.1 == ord[i] with
      | true =>
        cases hk2 : b.1 == ord[i] with
        | true => rw [hk1,hk2] at hst; cases hst
        | false =>
          rw [hk1] at sa
          rw [hk2] at sb
          rw [hk1,hk2] at hst
          simp only [Option.some.injEq] at hst
          subst hst
          have hpb : HasPs wf sf [pb] [b] := by
            unfold HasPs
            simp only [List.map_cons,List.map_nil,bx,bv]
          rcases hns with rfl | ⟨_,rfl,rfl⟩ <;> cases par
          · exact f3_h2 false false a0 aD hD hC ho hql fl nl hp Na (sl sa) Nb (sl sb) fun F => go F [pb] _ hpb (by simp) (fun p hm => by rw [List.mem_singleton.mp hm]; exact hbN)
          · exact f3_h2 true false a0 aD hD hC ho hql fu nu hp Na (su sa) Nb (su sb) fun F => go F [pb] _ hpb (by simp) (fun p hm => by rw [List.mem_singleton.mp hm]; exact hbN)
          · exact f3_h2 false true (tl := []) a0 aD hD hC ho hql fl nl hp Na (sl sa) Nb (sl sb) fun F => go F [pb] _ hpb (by simp) (fun p hm => by rw [List.mem_singleton.mp hm]; exact hbN)
          · exact f3_h2 true true (tl := []) a0 aD hD hC ho hql fu nu hp Na (su sa) Nb (su sb) fun F => go F [pb] _ hpb (by simp) (fun p hm => by rw [List.mem_singleton.mp hm]; exact hbN)
      | false =>
        cases hk2 : b.1 == ord[i] with
        | true => rw [hk1,hk2] at hst; cases hst
        | false =>
          rw [hk1] at sa
          rw [hk2] at sb
          rw [hk1,hk2] at hst
          simp only at hst
          cases hk3 : meetN wd ord[i] a.1 || meetN wd ord[i] b.1 with
          | false => rw [hk3] at hst; cases hst
          | true =>
            rw [hk3] at hst
            simp only [Option.some.injEq] at hst
            subst hst
            rcases hns with rfl | ⟨_,rfl,rfl⟩ <;> cases par
            · exact f3_s2 false false a0 aD hD hC ho hql fl nl hp Na (sl sa) Nb (sl sb) ma mb hk3 fun F => go F [pa,pb] _ hps (by simp) hlN
            · exact f3_s2 true false a0 aD hD hC ho hql fu nu hp Na (su sa) Nb (su sb) ma mb hk3 fun F => go F [pa,pb] _ hps (by simp) hlN
            · exact f3_s2 false true (tl := []) a0 aD hD hC ho hql fl nl hp Na (sl sa) Nb (sl sb) ma mb hk3 fun F => go F [pa,pb] _ hps (by simp) hlN
            · exact f3_s2 true true (tl := []) a0 aD hD hC ho hql fu nu hp Na (su sa) Nb (su sb) ma mb hk3 fun F => go F [pa,pb] _ hps (by simp) hlN
    | _ :: _ :: _ :: _,_,_,_,hl => exact absurd hl (by simp)
theorem f3_all (hD : D + 550 ≤ recursionLimit) (hC : 8 * D + 1300 < cLine) {F : Fk} {ns : List Nat} {ps : List Pair} {n : Nat} {sc : Option Value} {l : List (Nat × Nat)}
    (B : BG e wd wf sf N) (hov : Ints (natI ord) Y.ov) (hord : ∀ k ∈ ord,k < N) (h20 : ord.length ≤ 20) (h1 : 0 < ord.length) (hZ : QuadsOf wf sf ord Z) {lf : List (Nat × Nat)} {tl : List DictEntry} {nq0 : Nat}
    {par : Bool} (hp : (Int.ofNat (Y.m % 2) != 0) = par) (hns : ns = ns3 ∨ ns = ns0 ++ [12] ∧ tl = []) (hps : HasPs wf sf ps l) (hl : l.length ≤ 2) (hlN : ∀ p ∈ l,p.1 < N) (hrun : runF3 wd (if par then 2 else 1) ord l = some lf) :
    DoesL e.G D (lawF3 e.w c fr it) (f3L c fr it K Y F ns tl 0 (QL Z) nq0 sc ps n) (fun x : Fk × Value × List Pair × Nat => HasPs wf sf x.2.2.1 lf) (fun _ => .ok .next)
      (fun x => f3E c fr it K Y x.1 ns3 tl ord.length (QL Z) (nq0 + 4 * ord.length) (some x.2.1) x.2.2.1 x.2.2.2) :=
  doesL_of (by omega) fun A₀ R₀ h₀ a0 aD fin => by
    have := f3_go (Z := Z) (tl := tl) (lf := lf) (nq0 := nq0) a0 aD hD hC B hov hord h20 hZ hp (fun F sc ps n h tk sz hp hsc Dh => by
      obtain ⟨v,rfl⟩ := Option.isSome_iff_exists.mp (hsc h1)
      exact fin (F,v,ps,n) h tk sz hp Dh) ord.length 0 F ns l ps n sc (by omega) (by rcases hns with h | h; exact .inl h; exact .inr ⟨h1,h⟩) (fun h => absurd h (Nat.lt_irrefl _)) hps hl hlN hrun
    simpa only [List.drop_zero,List.take_zero,List.append_nil,Nat.mul_zero,Nat.add_zero] using this
end
end Mine
namespace Mine
noncomputable def lawF4 (w : World) (c : Ck) (fr it : Addr) : Code := forOf (forBody (lawB w)[23]!)[3]! it (lawEnv w c fr)
noncomputable def lawF5 (w : World) (c : Ck) (fr it : Addr) : Code := forOf (forBody (lawB w)[23]!)[6]! it (lawEnv w c fr)
noncomputable def setF (F : Fk) (j : Nat) (v : Value) : Fk := ⟨F.hh,F.tt,fun i => match Nat.beq i j with | true => v | false => F.v i⟩
noncomputable def ns4a : List Nat := ns3 ++ [16]
noncomputable def ns4b : List Nat := ns3 ++ [16,17]
noncomputable def ns5a : List Nat := ns3 ++ [16,17,18]
noncomputable def ns5b : List Nat := ns3 ++ [16,17,18,19,20,21]
noncomputable def ns5d : List Nat := ns3 ++ [16,17,18,22,23]
noncomputable def ns5c : List Nat := ns3 ++ [16,17,18,22,23,19,20,21]
noncomputable def f4L (c : Ck) (fr it al : Addr) (K : Lk) (X : Lx) (ln : Value) (nv : List Value) (nn : Nat) (F : Fk) (ns : List Nat) (tl : List DictEntry) (i : Nat) (q : List Value) (m : Nat) : Led :=
  [(it,litO al i),(al,lob nv nn),(fr,lfT K (setF F 16 (.ref al)) ns tl),(c.c_ring,cellO (.ref X.l))] ++ X.L ln q m
noncomputable def f4E (c : Ck) (fr it al : Addr) (K : Lk) (X : Lx) (ln : Value) (nv : List Value) (nn : Nat) (F : Fk) (ns : List Nat) (tl : List DictEntry) (i : Nat) (q : List Value) (m : Nat) : Led :=
  [(it,litE i),(al,lob nv nn),(fr,lfT K (setF F 16 (.ref al)) ns tl),(c.c_ring,cellO (.ref X.l))] ++ X.L ln q m
structure Ints3 where
  low : Nat
  wide : Nat
  base : Nat
  tl : Tok
  tw : Tok
  tb : Tok
noncomputable def f5L (c : Ck) (fr it al : Addr) (K : Lk) (I : Ints3) (vv : List Value) (nn : Nat) (F : Fk) (ns : List Nat) (tl : List DictEntry) (i : Nat) (M : Nat) (tm : Tok) : Led :=
  [(it,litO al i),(al,lob vv nn),(fr,lfT K (setF F 18 (.int (.ofNat M) tm)) ns tl),(c.c_low,cellO (.int (.ofNat I.low) I.tl)),(c.c_wide,cellO (.int (.ofNat I.wide) I.tw)),(c.c_base,cellO (.int (.ofNat I.base) I.tb))]
noncomputable def f5E (c : Ck) (fr it al : Addr) (K : Lk) (I : Ints3) (vv : List Value) (nn : Nat) (F : Fk) (ns : List Nat) (tl : List DictEntry) (i : Nat) (M : Nat) (tm : Tok) : Led :=
  [(it,litE i),(al,lob vv nn),(fr,lfT K (setF F 18 (.int (.ofNat M) tm)) ns tl),(c.c_low,cellO (.int (.ofNat I.low) I.tl)),(c.c_wide,cellO (.int (.ofNat I.wide) I.tw)),(c.c_base,cellO (.int (.ofNat I.base) I.tb))]
section
variable {e : Env0} {D : Nat} {h₀ : Heap} {H₀ : List Addr} {A₀ : Around} {R₀ : Result → Shared → Prop} {c : Ck} {fr it al : Addr} {K : Lk} {X : Lx} {ln : Value} {nv vv : List Value} {nn : Nat} {F : Fk} {ns : List Nat} {tl : List DictEntry} {i m k a b M : Nat} {q : List Value} {t tm : Tok} {s : Str} {I : Ints3}
theorem mul_nat {a b : Nat} (ha : a ≤ 100) : MulOk (.ofNat a) (.ofNat b) (.ofNat (a * b)) := ⟨rfl,IntMulOk.of_left (bits_le (Nat.lt_of_le_of_lt ha (by decide)))⟩
theorem f4_turn_f (a0 : Calm A₀ D) (aD : A₀.depth + 100 ≤ recursionLimit) (hD : D + 550 ≤ recursionLimit) (hv : nv[i]? = some (.str s t)) (hq : q.length ≤ 50)
    (next : ∀ F,DoesR e.G h₀ H₀ A₀ R₀ (lawF4 e.w c fr it) (f4L c fr it al K X ln nv nn F ns4b [] (i + 1) (q ++ [.str s t]) (m + 1))) :
    DoesR e.G h₀ H₀ A₀ R₀ (lawF4 e.w c fr it) (f4L c fr it al K X ln nv nn F ns4a [] i q m) := by
  refine walkR a0 aD (ts [1,1] <| ts [3,3,4,5,0,0,0,5,0,0,0,5,0,0,0,0,5,6,3,0] <| ts [] <| tn [] []) ?_; intro gd mm sz0 tk0 o
  refine mm [0,0] (lnext_some (it := it) (l := al) (xs := nv) (n := nn) (i := i) (v := .str s t) (by omega) hv) ?_; intro o _ sz1 tk1 _
  refine mm [4,4,4] (push_does (X := X) (ln := ln) (xs := q) (n := m) (sv := s) (tv := t) (by omega) (small_size (by omega))) ?_; intro o _ sz2 tk2 _
  exact tailR_w [3,3,3,3,0,0,0] (fun o => fkOf ns4b (o.ob 5)) (fun F => next F)
theorem f4_turn (a0 : Calm A₀ D) (aD : A₀.depth + 100 ≤ recursionLimit) (hD : D + 550 ≤ recursionLimit) (hv : nv[i]? = some (.str s t)) (hq : q.length ≤ 50)
    (next : ∀ F,DoesR e.G h₀ H₀ A₀ R₀ (lawF4 e.w c fr it) (f4L c fr it al K X ln nv nn F ns4b tl (i + 1) (q ++ [.str s t]) (m + 1))) :
    DoesR e.G h₀ H₀ A₀ R₀ (lawF4 e.w c fr it) (f4L c fr it al K X ln nv nn F ns4b tl i q m) := by
  refine walkR a0 aD (ts [1,1] <| ts [3,3,4,5,0,0,0,5,0,0,0,5,0,0,0,0,5,6,3,0] <| ts [] <| tn [] []) ?_; intro gd mm sz0 tk0 o
  refine mm [0,0] (lnext_some (it := it) (l := al) (xs := nv) (n := nn) (i := i) (v := .str s t) (by omega) hv) ?_; intro o _ sz1 tk1 _
  refine mm [4,4,4] (push_does (X := X) (ln := ln) (xs := q) (n := m) (sv := s) (tv := t) (by omega) (small_size (by omega))) ?_; intro o _ sz2 tk2 _
  exact tailR_w [3,3,3,3,0,0,0] (fun o => fkOf ns4b (o.ob 5)) (fun F => next F)
theorem f4_end (a0 : Calm A₀ D) (aD : A₀.depth + 100 ≤ recursionLimit) (hD : D + 550 ≤ recursionLimit) (hv : nv[i]? = none)
    (fin : ∀ h tk sz,Rep e.G h₀ H₀ h (f4E c fr it al K X ln nv nn F ns4b tl i q m) sz → R₀ (.ok .next) (e.G.sh h tk)) :
    DoesR e.G h₀ H₀ A₀ R₀ (lawF4 e.w c fr it) (f4L c fr it al K X ln nv nn F ns4b tl i q m) := by
  refine walkR a0 aD (ts [1,1] <| tn [1] []) ?_; intro gd mm sz0 tk0 o
  refine mm [0,0] (lnext_end (it := it) (l := al) (xs := nv) (n := nn) (i := i) (by omega) hv) ?_; intro o x sz1 tk1 _
  exact retR [2,2,2,2,2,2,2] fin
theorem f5_turn_a (a0 : Calm A₀ D) (aD : A₀.depth + 100 ≤ recursionLimit) (hD : D + 550 ≤ recursionLimit) (hv : vv[i]? = some (.str (sOf (oct (I.base + a) ++ oct (I.base + b))) t)) (h1 : I.base + a < 262144) (h2 : I.base + b < 262144) (hw : I.wide ≤ 100) (hn : I.low + (I.wide * a + b) < 100)
    (next : ∀ F tm,DoesR e.G h₀ H₀ A₀ R₀ (lawF5 e.w c fr it) (f5L c fr it al K I vv nn F ns5b [] (i + 1) (M ||| 1 * 2 ^ (I.low + (I.wide * a + b))) tm)) :
    DoesR e.G h₀ H₀ A₀ R₀ (lawF5 e.w c fr it) (f5L c fr it al K I vv nn F ns5a [] i M tm) := by
  refine walkR a0 aD (ts [1,1] <| ts [3,3,0,3,0] <| ts [1,1,1,1001,1,1,1,1,1,1,2,1,1,1,1,1,1,2,1,1,1,1,1,1,2,1,1,1,7,7,7,7,0,7,0,0,8,0,0,9,0,7,10,0] <| ts [0] <| ts [0,7,10,0] <| ts [0] <| ts [0] <| ts [0] <| ts [0] <| ts [7,7] <| tn [] []) ?_; intro gd mm sz0 tk0 o
  refine mm [0,0] (lnext_some (it := it) (l := al) (xs := vv) (n := nn) (i := i) (v := .str (sOf (oct (I.base + a) ++ oct (I.base + b))) t) (by omega) hv) ?_; intro o _ sz1 tk1 _
  refine mm [] (spot_does (N := I.base + a) (M := I.base + b) (t := t) (by omega) (by omega) (by omega)) ?_; intro o z1 sz2 tk2 _
  refine mm [] (op_sub (a := .ofNat (I.base + a)) (b := .ofNat I.base) (r := .ofNat a) (t := z1.2.1) (u := I.tb) (by omega) (by simp; omega)) ?_; intro o k2 sz3 tk3 _
  refine mm [] (op_mul (a := .ofNat I.wide) (b := .ofNat a) (r := .ofNat (I.wide * a)) (t := I.tw) (u := k2) (by omega) (mul_nat (by omega))) ?_; intro o k3 sz4 tk4 _
  refine mm [] (op_sub (a := .ofNat (I.base + b)) (b := .ofNat I.base) (r := .ofNat b) (t := z1.2.2) (u := I.tb) (by omega) (by simp; omega)) ?_; intro o k4 sz5 tk5 _
  refine mm [] (op_add (a := .ofNat (I.wide * a)) (b := .ofNat b) (r := .ofNat (I.wide * a + b)) (t := k3) (u := k4) (by omega) rfl) ?_; intro o k5 sz6 tk6 _
  refine mm [] (op_add (a := .ofNat I.low) (b := .ofNat (I.wide * a + b)) (r := .ofNat (I.low + (I.wide * a + b))) (t := I.tl) (u := k5) (by omega) rfl) ?_; intro o k6 sz7 tk7 _
  refine mm [] (op_lshift (a := .ofNat 1) (b := .ofNat (I.low + (I.wide * a + b))) (r := .ofNat (1 * 2 ^ (I.low + (I.wide * a + b)))) (t := (tk2 + 2)) (u := k6) (by omega) (shl_ok (m := 1) (n := I.low + (I.wide * a + b)) (by decide) (by omega))) ?_; intro o k7 sz8 tk8 _
  refine mm [] (op_or_ (a := .ofNat M) (b := .ofNat (1 * 2 ^ (I.low + (I.wide * a + b)))) (r := .ofNat (M ||| 1 * 2 ^ (I.low + (I.wide * a + b)))) (t := tm) (u := k7) (by omega) or_nat) ?_; intro o k8 sz9 tk9 _
  exact tailR_w [4,4,4,4,4,4] (fun o => fkOf ns5b (o.ob 6)) (fun F => next F k8)
theorem f5_turn_d (a0 : Calm A₀ D) (aD : A₀.depth + 100 ≤ recursionLimit) (hD : D + 550 ≤ recursionLimit) (hv : vv[i]? = some (.str (sOf (oct (I.base + a) ++ oct (I.base + b))) t)) (h1 : I.base + a < 262144) (h2 : I.base + b < 262144) (hw : I.wide ≤ 100) (hn : I.low + (I.wide * a + b) < 100)
    (next : ∀ F tm,DoesR e.G h₀ H₀ A₀ R₀ (lawF5 e.w c fr it) (f5L c fr it al K I vv nn F ns5c [] (i + 1) (M ||| 1 * 2 ^ (I.low + (I.wide * a + b))) tm)) :
    DoesR e.G h₀ H₀ A₀ R₀ (lawF5 e.w c fr it) (f5L c fr it al K I vv nn F ns5d [] i M tm) := by
  refine walkR a0 aD (ts [1,1] <| ts [3,3,0,3,0] <| ts [1,1,1,1001,1,1,1,1,1,1,2,1,1,1,1,1,1,2,1,1,1,1,1,1,2,1,1,1,7,7,7,7,0,7,0,0,8,0,0,9,0,7,10,0] <| ts [0] <| ts [0,7,10,0] <| ts [0] <| ts [0] <| ts [0] <| ts [0] <| ts [7,7] <| tn [] []) ?_; intro gd mm sz0 tk0 o
  refine mm [0,0] (lnext_some (it := it) (l := al) (xs := vv) (n := nn) (i := i) (v := .str (sOf (oct (I.base + a) ++ oct (I.base + b))) t) (by omega) hv) ?_; intro o _ sz1 tk1 _
  refine mm [] (spot_does (N := I.base + a) (M := I.base + b) (t := t) (by omega) (by omega) (by omega)) ?_; intro o z1 sz2 tk2 _
  refine mm [] (op_sub (a := .ofNat (I.base + a)) (b := .ofNat I.base) (r := .ofNat a) (t := z1.2.1) (u := I.tb) (by omega) (by simp; omega)) ?_; intro o k2 sz3 tk3 _
  refine mm [] (op_mul (a := .ofNat I.wide) (b := .ofNat a) (r := .ofNat (I.wide * a)) (t := I.tw) (u := k2) (by omega) (mul_nat (by omega))) ?_; intro o k3 sz4 tk4 _
  refine mm [] (op_sub (a := .ofNat (I.base + b)) (b := .ofNat I.base) (r := .ofNat b) (t := z1.2.2) (u := I.tb) (by omega) (by simp; omega)) ?_; intro o k4 sz5 tk5 _
  refine mm [] (op_add (a := .ofNat (I.wide * a)) (b := .ofNat b) (r := .ofNat (I.wide * a + b)) (t := k3) (u := k4) (by omega) rfl) ?_; intro o k5 sz6 tk6 _
  refine mm [] (op_add (a := .ofNat I.low) (b := .ofNat (I.wide * a + b)) (r := .ofNat (I.low + (I.wide * a + b))) (t := I.tl) (u := k5) (by omega) rfl) ?_; intro o k6 sz7 tk7 _
  refine mm [] (op_lshift (a := .ofNat 1) (b := .ofNat (I.low + (I.wide * a + b))) (r := .ofNat (1 * 2 ^ (I.low + (I.wide * a + b)))) (t := (tk2 + 2)) (u := k6) (by omega) (shl_ok (m := 1) (n := I.low + (I.wide * a + b)) (by decide) (by omega))) ?_; intro o k7 sz8 tk8 _
  refine mm [] (op_or_ (a := .ofNat M) (b := .ofNat (1 * 2 ^ (I.low + (I.wide * a + b)))) (r := .ofNat (M ||| 1 * 2 ^ (I.low + (I.wide * a + b)))) (t := tm) (u := k7) (by omega) or_nat) ?_; intro o k8 sz9 tk9 _
  exact tailR_w [4,4,4,4,4,4] (fun o => fkOf ns5c (o.ob 6)) (fun F => next F k8)
theorem f5_turn_b (a0 : Calm A₀ D) (aD : A₀.depth + 100 ≤ recursionLimit) (hD : D + 550 ≤ recursionLimit) (hv : vv[i]? = some (.str (sOf (oct (I.base + a) ++ oct (I.base + b))) t)) (h1 : I.base + a < 262144) (h2 : I.base + b < 262144) (hw : I.wide ≤ 100) (hn : I.low + (I.wide * a + b) < 100)
    (next : ∀ F tm,DoesR e.G h₀ H₀ A₀ R₀ (lawF5 e.w c fr it) (f5L c fr it al K I vv nn F ns5b tl (i + 1) (M ||| 1 * 2 ^ (I.low + (I.wide * a + b))) tm)) :
    DoesR e.G h₀ H₀ A₀ R₀ (lawF5 e.w c fr it) (f5L c fr it al K I vv nn F ns5b tl i M tm) := by
  refine walkR a0 aD (ts [1,1] <| ts [3,3,0,3,0] <| ts [1,1,1,1001,1,1,1,1,1,1,2,1,1,1,1,1,1,2,1,1,1,1,1,1,2,1,1,1,7,7,7,7,0,7,0,0,8,0,0,9,0,7,10,0] <| ts [0] <| ts [0,7,10,0] <| ts [0] <| ts [0] <| ts [0] <| ts [0] <| ts [7,7] <| tn [] []) ?_; intro gd mm sz0 tk0 o
  refine mm [0,0] (lnext_some (it := it) (l := al) (xs := vv) (n := nn) (i := i) (v := .str (sOf (oct (I.base + a) ++ oct (I.base + b))) t) (by omega) hv) ?_; intro o _ sz1 tk1 _
  refine mm [] (spot_does (N := I.base + a) (M := I.base + b) (t := t) (by omega) (by omega) (by omega)) ?_; intro o z1 sz2 tk2 _
  refine mm [] (op_sub (a := .ofNat (I.base + a)) (b := .ofNat I.base) (r := .ofNat a) (t := z1.2.1) (u := I.tb) (by omega) (by simp; omega)) ?_; intro o k2 sz3 tk3 _
  refine mm [] (op_mul (a := .ofNat I.wide) (b := .ofNat a) (r := .ofNat (I.wide * a)) (t := I.tw) (u := k2) (by omega) (mul_nat (by omega))) ?_; intro o k3 sz4 tk4 _
  refine mm [] (op_sub (a := .ofNat (I.base + b)) (b := .ofNat I.base) (r := .ofNat b) (t := z1.2.2) (u := I.tb) (by omega) (by simp; omega)) ?_; intro o k4 sz5 tk5 _
  refine mm [] (op_add (a := .ofNat (I.wide * a)) (b := .ofNat b) (r := .ofNat (I.wide * a + b)) (t := k3) (u := k4) (by omega) rfl) ?_; intro o k5 sz6 tk6 _
  refine mm [] (op_add (a := .ofNat I.low) (b := .ofNat (I.wide * a + b)) (r := .ofNat (I.low + (I.wide * a + b))) (t := I.tl) (u := k5) (by omega) rfl) ?_; intro o k6 sz7 tk7 _
  refine mm [] (op_lshift (a := .ofNat 1) (b := .ofNat (I.low + (I.wide * a + b))) (r := .ofNat (1 * 2 ^ (I.low + (I.wide * a + b)))) (t := (tk2 + 2)) (u := k6) (by omega) (shl_ok (m := 1) (n := I.low + (I.wide * a + b)) (by decide) (by omega))) ?_; intro o k7 sz8 tk8 _
  refine mm [] (op_or_ (a := .ofNat M) (b := .ofNat (1 * 2 ^ (I.low + (I.wide * a + b)))) (r := .ofNat (M ||| 1 * 2 ^ (I.low + (I.wide * a + b)))) (t := tm) (u := k7) (by omega) or_nat) ?_; intro o k8 sz9 tk9 _
  exact tailR_w [4,4,4,4,4,4] (fun o => fkOf ns5b (o.ob 6)) (fun F => next F k8)
theorem f5_turn_c (a0 : Calm A₀ D) (aD : A₀.depth + 100 ≤ recursionLimit) (hD : D + 550 ≤ recursionLimit) (hv : vv[i]? = some (.str (sOf (oct (I.base + a) ++ oct (I.base + b))) t)) (h1 : I.base + a < 262144) (h2 : I.base + b < 262144) (hw : I.wide ≤ 100) (hn : I.low + (I.wide * a + b) < 100)
    (next : ∀ F tm,DoesR e.G h₀ H₀ A₀ R₀ (lawF5 e.w c fr it) (f5L c fr it al K I vv nn F ns5c [] (i + 1) (M ||| 1 * 2 ^ (I.low + (I.wide * a + b))) tm)) :
    DoesR e.G h₀ H₀ A₀ R₀ (lawF5 e.w c fr it) (f5L c fr it al K I vv nn F ns5c [] i M tm) := by
  refine walkR a0 aD (ts [1,1] <| ts [3,3,0,3,0] <| ts [1,1,1,1001,1,1,1,1,1,1,2,1,1,1,1,1,1,2,1,1,1,1,1,1,2,1,1,1,7,7,7,7,0,7,0,0,8,0,0,9,0,7,10,0] <| ts [0] <| ts [0,7,10,0] <| ts [0] <| ts [0] <| ts [0] <| ts [0] <| ts [7,7] <| tn [] []) ?_; intro gd mm sz0 tk0 o
  refine mm [0,0] (lnext_some (it := it) (l := al) (xs := vv) (n := nn) (i := i) (v := .str (sOf (oct (I.base + a) ++ oct (I.base + b))) t) (by omega) hv) ?_; intro o _ sz1 tk1 _
  refine mm [] (spot_does (N := I.base + a) (M := I.base + b) (t := t) (by omega) (by omega) (by omega)) ?_; intro o z1 sz2 tk2 _
  refine mm [] (op_sub (a := .ofNat (I.base + a)) (b := .ofNat I.base) (r := .ofNat a) (t := z1.2.1) (u := I.tb) (by omega) (by simp; omega)) ?_; intro o k2 sz3 tk3 _
  refine mm [] (op_mul (a := .ofNat I.wide) (b := .ofNat a) (r := .ofNat (I.wide * a)) (t := I.tw) (u := k2) (by omega) (mul_nat (by omega))) ?_; intro o k3 sz4 tk4 _
  refine mm [] (op_sub (a := .ofNat (I.base + b)) (b := .ofNat I.base) (r := .ofNat b) (t := z1.2.2) (u := I.tb) (by omega) (by simp; omega)) ?_; intro o k4 sz5 tk5 _
  refine mm [] (op_add (a := .ofNat (I.wide * a)) (b := .ofNat b) (r := .ofNat (I.wide * a + b)) (t := k3) (u := k4) (by omega) rfl) ?_; intro o k5 sz6 tk6 _
  refine mm [] (op_add (a := .ofNat I.low) (b := .ofNat (I.wide * a + b)) (r := .ofNat (I.low + (I.wide * a + b))) (t := I.tl) (u := k5) (by omega) rfl) ?_; intro o k6 sz7 tk7 _
  refine mm [] (op_lshift (a := .ofNat 1) (b := .ofNat (I.low + (I.wide * a + b))) (r := .ofNat (1 * 2 ^ (I.low + (I.wide * a + b)))) (t := (tk2 + 2)) (u := k6) (by omega) (shl_ok (m := 1) (n := I.low + (I.wide * a + b)) (by decide) (by omega))) ?_; intro o k7 sz8 tk8 _
  refine mm [] (op_or_ (a := .ofNat M) (b := .ofNat (1 * 2 ^ (I.low + (I.wide * a + b)))) (r := .ofNat (M ||| 1 * 2 ^ (I.low + (I.wide * a + b)))) (t := tm) (u := k7) (by omega) or_nat) ?_; intro o k8 sz9 tk9 _
  exact tailR_w [4,4,4,4,4,4] (fun o => fkOf ns5c (o.ob 6)) (fun F => next F k8)
theorem f5_end_a (a0 : Calm A₀ D) (aD : A₀.depth + 100 ≤ recursionLimit) (hD : D + 550 ≤ recursionLimit) (hv : vv[i]? = none)
    (fin : ∀ h tk sz,Rep e.G h₀ H₀ h (f5E c fr it al K I vv nn F ns5a [] i M tm) sz → R₀ (.ok .next) (e.G.sh h tk)) :
    DoesR e.G h₀ H₀ A₀ R₀ (lawF5 e.w c fr it) (f5L c fr it al K I vv nn F ns5a [] i M tm) := by
  refine walkR a0 aD (ts [1,1] <| tn [1] []) ?_; intro gd mm sz0 tk0 o
  refine mm [0,0] (lnext_end (it := it) (l := al) (xs := vv) (n := nn) (i := i) (by omega) hv) ?_; intro o x sz1 tk1 _
  exact retR [2,2,2,2,2,2] fin
theorem f5_end_d (a0 : Calm A₀ D) (aD : A₀.depth + 100 ≤ recursionLimit) (hD : D + 550 ≤ recursionLimit) (hv : vv[i]? = none)
    (fin : ∀ h tk sz,Rep e.G h₀ H₀ h (f5E c fr it al K I vv nn F ns5d [] i M tm) sz → R₀ (.ok .next) (e.G.sh h tk)) :
    DoesR e.G h₀ H₀ A₀ R₀ (lawF5 e.w c fr it) (f5L c fr it al K I vv nn F ns5d [] i M tm) := by
  refine walkR a0 aD (ts [1,1] <| tn [1] []) ?_; intro gd mm sz0 tk0 o
  refine mm [0,0] (lnext_end (it := it) (l := al) (xs := vv) (n := nn) (i := i) (by omega) hv) ?_; intro o x sz1 tk1 _
  exact retR [2,2,2,2,2,2] fin
theorem f5_end_b (a0 : Calm A₀ D) (aD : A₀.depth + 100 ≤ recursionLimit) (hD : D + 550 ≤ recursionLimit) (hv : vv[i]? = none)
    (fin : ∀ h tk sz,Rep e.G h₀ H₀ h (f5E c fr it al K I vv nn F ns5b tl i M tm) sz → R₀ (.ok .next) (e.G.sh h tk)) :
    DoesR e.G h₀ H₀ A₀ R₀ (lawF5 e.w c fr it) (f5L c fr it al K I vv nn F ns5b tl i M tm) := by
  refine walkR a0 aD (ts [1,1] <| tn [1] []) ?_; intro gd mm sz0 tk0 o
  refine mm [0,0] (lnext_end (it := it) (l := al) (xs := vv) (n := nn) (i := i) (by omega) hv) ?_; intro o x sz1 tk1 _
  exact retR [2,2,2,2,2,2] fin
theorem f5_end_c (a0 : Calm A₀ D) (aD : A₀.depth + 100 ≤ recursionLimit) (hD : D + 550 ≤ recursionLimit) (hv : vv[i]? = none)
    (fin : ∀ h tk sz,Rep e.G h₀ H₀ h (f5E c fr it al K I vv nn F ns5c [] i M tm) sz → R₀ (.ok .next) (e.G.sh h tk)) :
    DoesR e.G h₀ H₀ A₀ R₀ (lawF5 e.w c fr it) (f5L c fr it al K I vv nn F ns5c [] i M tm) := by
  refine walkR a0 aD (ts [1,1] <| tn [1] []) ?_; intro gd mm sz0 tk0 o
  refine mm [0,0] (lnext_end (it := it) (l := al) (xs := vv) (n := nn) (i := i) (by omega) hv) ?_; intro o x sz1 tk1 _
  exact retR [2,2,2,2,2,2] fin
end
end Mine
namespace Mine
section
variable {e : Env0} {D : Nat} {c : Ck} {fr it al : Addr} {K : Lk} {X : Lx} {ln : Value} {nv vv : List Value} {nn : Nat} {F : Fk} {ns : List Nat} {tl : List DictEntry} {m : Nat} {q : List Value} {I : Ints3}
theorem f4_go {h₀ : Heap} {H₀ : List Addr} {A₀ : Around} {R₀ : Result → Shared → Prop} (a0 : Calm A₀ D) (aD : A₀.depth + 100 ≤ recursionLimit) (hD : D + 550 ≤ recursionLimit) {ss : List (List Nat)} (hs : Strs ss nv) (h20 : ss.length ≤ 20) (hq : q.length ≤ 20)
    (fin : ∀ F h tk sz,Rep e.G h₀ H₀ h (f4E c fr it al K X ln nv nn F ns4b tl ss.length (q ++ nv) (m + ss.length)) sz → R₀ (.ok .next) (e.G.sh h tk)) :
    ∀ (j i : Nat) (F : Fk) (ns : List Nat),i + j = ss.length → (ns = ns4b ∨ 0 < j ∧ ns = ns4a ∧ tl = []) → DoesR e.G h₀ H₀ A₀ R₀ (lawF4 e.w c fr it) (f4L c fr it al K X ln nv nn F ns tl i (q ++ nv.take i) (m + i))
  | 0,i,F,ns,hi,hns => by
    have hns' : ns = ns4b := by rcases hns with h | h; exact h; exact absurd h.1 (Nat.lt_irrefl _)
    subst hns'
    have e1 : i = ss.length := by omega
    subst e1
    have e2 : nv.take ss.length = nv := by rw [← hs.len]; exact List.take_length
    rw [e2]
    exact f4_end a0 aD hD (by rw [List.getElem?_eq_none_iff,hs.len]; exact Nat.le_refl _) fun h tk sz Dh => fin F h tk sz Dh
  | j + 1,i,F,ns,hi,hns => by
    have hlt : i < ss.length := by omega
    obtain ⟨t,hv⟩ := hs.at (List.getElem?_eq_getElem hlt)
    have ht : nv.take (i + 1) = nv.take i ++ [.str (sOf ss[i]) t] := by rw [List.take_add_one,hv]; rfl
    have hql : (q ++ nv.take i).length ≤ 50 := by rw [List.length_append,List.length_take]; omega
    have go : ∀ F,DoesR e.G h₀ H₀ A₀ R₀ (lawF4 e.w c fr it) (f4L c fr it al K X ln nv nn F ns4b tl (i + 1) ((q ++ nv.take i) ++ [.str (sOf ss[i]) t]) (m + i + 1)) := fun F => by
      have := f4_go a0 aD hD hs h20 hq fin j (i + 1) F ns4b (by omega) (.inl rfl)
      rw [ht] at this
      rw [List.append_assoc]
      exact this
    rcases hns with rfl | ⟨_,rfl,rfl⟩
    · exact f4_turn a0 aD hD hv hql go
    · exact f4_turn_f a0 aD hD hv hql go
theorem f4_all (hD : D + 550 ≤ recursionLimit) {ss : List (List Nat)} (hs : Strs ss nv) (h20 : ss.length ≤ 20) (h0 : 0 < ss.length) (hq : q.length ≤ 20) (hns : ns = ns4b ∨ ns = ns4a ∧ tl = []) :
    DoesL e.G D (lawF4 e.w c fr it) (f4L c fr it al K X ln nv nn F ns tl 0 q m) (fun _ : Fk => True) (fun _ => .ok .next) (fun F => f4E c fr it al K X ln nv nn F ns4b tl ss.length (q ++ nv) (m + ss.length)) :=
  doesL_of (by omega) fun A₀ R₀ h₀ a0 aD fin => by
    have := f4_go (tl := tl) (m := m) a0 aD hD hs h20 hq (fun F h tk sz Dh => fin F h tk sz trivial Dh) ss.length 0 F ns (by omega) (by rcases hns with h | h; exact .inl h; exact .inr ⟨h0,h⟩)
    simpa only [List.take_zero,List.append_nil,Nat.add_zero] using this
noncomputable def Sh5 (ns : List Nat) (tl : List DictEntry) (ns' : List Nat) : Prop := ns = ns5a ∧ tl = [] ∧ ns' = ns5b ∨ ns = ns5d ∧ tl = [] ∧ ns' = ns5c ∨ ns = ns5b ∧ ns' = ns5b ∨ ns = ns5c ∧ tl = [] ∧ ns' = ns5c
noncomputable def maskN (low wd : Nat) (ks : List Nat) (M : Nat) : Nat := ks.foldl (fun M k => M ||| 1 * 2 ^ (low + (wd * (k / wd) + k % wd))) M
theorem f5_go {h₀ : Heap} {H₀ : List Addr} {A₀ : Around} {R₀ : Result → Shared → Prop} (a0 : Calm A₀ D) (aD : A₀.depth + 100 ≤ recursionLimit) (hD : D + 550 ≤ recursionLimit) {ks : List Nat} {ns' : List Nat} {M0 : Nat}
    (hs : Strs (ks.map fun k => oct (I.base + k / I.wide) ++ oct (I.base + k % I.wide)) vv) (hks : ∀ k ∈ ks,k < 20) (hb : I.base < 262000) (hw : I.wide ≤ 10) (hl : I.low < 50)
    (fin : ∀ F tm h tk sz,Rep e.G h₀ H₀ h (f5E c fr it al K I vv nn F ns' tl ks.length (maskN I.low I.wide ks M0) tm) sz → R₀ (.ok .next) (e.G.sh h tk)) :
    ∀ (j i : Nat) (F : Fk) (ns : List Nat) (tm : Tok),i + j = ks.length → Sh5 ns tl ns' → (j = 0 → ns = ns') → DoesR e.G h₀ H₀ A₀ R₀ (lawF5 e.w c fr it) (f5L c fr it al K I vv nn F ns tl i (maskN I.low I.wide (ks.take i) M0) tm)
  | 0,i,F,ns,tm,hi,hns,hsm => by
    have hns' := hsm rfl
    subst hns'
    have e1 : i = ks.length := by omega
    subst e1
    rw [List.take_length]
    have hv : vv[ks.length]? = none := by rw [List.getElem?_eq_none_iff,hs.len,List.length_map]; exact Nat.le_refl _
    rcases hns with ⟨rfl,rfl,h⟩ | ⟨rfl,rfl,h⟩ | ⟨rfl,h⟩ | ⟨rfl,rfl,h⟩
    · exact f5_end_a a0 aD hD hv fun h tk sz Dh => fin F tm h tk sz Dh
    · exact f5_end_d a0 aD hD hv fun h tk sz Dh => fin F tm h tk sz Dh
    · exact f5_end_b a0 aD hD hv fun h tk sz Dh => fin F tm h tk sz Dh
    · exact f5_end_c a0 aD hD hv fun h tk sz Dh => fin F tm h tk sz Dh
  | j + 1,i,F,ns,tm,hi,hns,hsm => by
    have hlt : i < ks.length := by omega
    have hk : ks[i]? = some ks[i] := List.getElem?_eq_getElem hlt
    have hk20 := hks _ (List.getElem_mem hlt)
    obtain ⟨t,hv⟩ := hs.at (i := i) (c := oct (I.base + ks[i] / I.wide) ++ oct (I.base + ks[i] % I.wide)) (by rw [List.getElem?_map,hk]; rfl)
    have d1 : ks[i] / I.wide ≤ ks[i] := Nat.div_le_self _ _
    have d2 : ks[i] % I.wide ≤ ks[i] := Nat.mod_le _ _
    have d3 : I.wide * (ks[i] / I.wide) + ks[i] % I.wide = ks[i] := Nat.div_add_mod _ _
    have hm : maskN I.low I.wide (ks.take i) M0 ||| 1 * 2 ^ (I.low + (I.wide * (ks[i] / I.wide) + ks[i] % I.wide)) = maskN I.low I.wide (ks.take (i + 1)) M0 := by
      unfold maskN
      rw [List.take_add_one,hk,List.foldl_append]
      rfl
    have hsh : Sh5 ns' tl ns' := by
      rcases hns with ⟨rfl,rfl,rfl⟩ | ⟨rfl,rfl,rfl⟩ | ⟨rfl,rfl⟩ | ⟨rfl,rfl,rfl⟩
      · exact .inr (.inr (.inl ⟨rfl,rfl⟩))
      · exact .inr (.inr (.inr ⟨rfl,rfl,rfl⟩))
      · exact .inr (.inr (.inl ⟨rfl,rfl⟩))
      · exact .inr (.inr (.inr ⟨rfl,rfl,rfl⟩))
    have go : ∀ F tm,DoesR e.G h₀ H₀ A₀ R₀ (lawF5 e.w c fr it) (f5L c fr it al K I vv nn F ns' tl (i + 1) (maskN I.low I.wide (ks.take i) M0 ||| 1 * 2 ^ (I.low + (I.wide * (ks[i] / I.wide) + ks[i] % I.wide))) tm) := fun F tm => by
      rw [hm]
      exact f5_go a0 aD hD hs hks hb hw hl fin j (i + 1) F ns' tm (by omega) hsh (fun _ => rfl)
    rcases hns with ⟨rfl,rfl,rfl⟩ | ⟨rfl,rfl,rfl⟩ | ⟨rfl,rfl⟩ | ⟨rfl,rfl,rfl⟩
    · exact f5_turn_a a0 aD hD hv (by omega) (by omega) (by omega) (by omega) go
    · exact f5_turn_d a0 aD hD hv (by omega) (by omega) (by omega) (by omega) go
    · exact f5_turn_b a0 aD hD hv (by omega) (by omega) (by omega) (by omega) go
    · exact f5_turn_c a0 aD hD hv (by omega) (by omega) (by omega) (by omega) go
theorem f5_all (hD : D + 550 ≤ recursionLimit) {ks : List Nat} {ns' : List Nat} {M0 : Nat} {tm : Tok}
    (hs : Strs (ks.map fun k => oct (I.base + k / I.wide) ++ oct (I.base + k % I.wide)) vv) (hks : ∀ k ∈ ks,k < 20) (hb : I.base < 262000) (hw : I.wide ≤ 10) (hl : I.low < 50) (hns : Sh5 ns tl ns') (h0 : ks = [] → ns = ns') :
    DoesL e.G D (lawF5 e.w c fr it) (f5L c fr it al K I vv nn F ns tl 0 M0 tm) (fun _ : Fk × Tok => True) (fun _ => .ok .next) (fun x => f5E c fr it al K I vv nn x.1 ns' tl ks.length (maskN I.low I.wide ks M0) x.2) :=
  doesL_of (by omega) fun A₀ R₀ h₀ a0 aD fin => by
    have := f5_go (M0 := M0) a0 aD hD hs hks hb hw hl (fun F tm h tk sz Dh => fin (F,tm) h tk sz trivial Dh) ks.length 0 F ns tm (by omega) hns (fun h => h0 (List.length_eq_zero_iff.mp h))
    exact this
end
end Mine
namespace Mine
noncomputable def Out.cut (o : Out) (m : Nat) : Out := match o with
  | .stop c κ tr s => .stop c κ tr { s with led := s.led.take m }
  | .ret r s => .ret r s
  | .mid c κ t tr s => .mid c κ t tr s
  | .bad n a => .bad n a
  | .badW w => .badW w
noncomputable def Out.suf (o : Out) (m : Nat) : Led := match o with
  | .stop _ _ _ s => s.led.drop m
  | _ => []
section
variable {G : Gc} {h₀ : Heap} {H : List Addr} {A₀ : Around} {R₀ : Result → Shared → Prop}
theorem stop_goodS {α : Type} {D n : Nat} {c : Code} {pre S : Led} {ok : α → Prop} {res : α → Result} {after : α → Led} {out : Out} {D₀ : Nat} (h0 : Calm A₀ D₀) (hA : A₀.depth + 100 ≤ recursionLimit) (m : Nat) (idx : List Nat)
    (does : DoesL G D c (pre ++ S) ok res after) (hD : D₀ + 50 ≤ D)
    (h1 : out.obsL = out.obsR) (h2 : (out.cut m).stop? idx = some (c,pre,none,true)) (h3 : out.suf m = S)
    (next : ∀ x sz tk,ok x → ∃ tr : List Ev,(cont G.kt G.tab G.set n ((out.cut m).reTr tr) idx (res x) (after x) sz tk).Good G h₀ H A₀ R₀) : out.Good G h₀ H A₀ R₀ := by
  cases out with
  | ret => cases h2
  | bad => cases h2
  | badW => cases h2
  | mid => cases h2
  | stop c' κ tr st =>
    refine ⟨alike_of h1,fun h Dh => ?_⟩
    simp only [Out.cut,Out.stop?] at h2
    split at h2
    · rename_i q e
      simp only [Option.some.injEq,Prod.mk.injEq] at h2
      obtain ⟨rfl,e2,e3,e4⟩ := h2
      simp only [Out.suf] at h3
      have pm := lpick_perm _ _ _ _ e
      rw [e2] at pm
      have pm2 : ((pre ++ S) ++ q.2).Perm st.led := by
        have p1 : ((pre ++ q.2) ++ S).Perm st.led := by
          have := pm.append_right S
          rw [← h3] at this ⊢
          rw [List.take_append_drop] at this
          exact this
        refine List.Perm.trans ?_ p1
        rw [List.append_assoc,List.append_assoc]
        exact (List.perm_append_comm).append_left pre
      have Dh' := Dh.perm pm2
      refine does (around A₀ κ) _ (G.sh h st.tk) ?_ ⟨Dh.base,rfl,rfl,rfl⟩ (fun p hp => Dh'.own p (List.mem_append.mpr (.inl hp))) ?_ (fun p hp => Dh'.young p (List.mem_append.mpr (.inl hp))) fun x h' tk' sz' hx Di => ?_
      · have e5 := Bool.and_eq_true_iff.mp e4
        have e6 := Nat.le_of_ble_eq_true e5.1
        have e7 := Nat.le_of_ble_eq_true e5.2
        have := h0.deep
        have := h0.units
        exact ⟨by rw [around_hd h0.hd,e3],by rw [around_depth]; omega,by rw [around_units]; omega⟩
      · have := Dh'.nodup
        rw [List.map_append] at this
        exact (List.nodup_append.mp this).1
      · obtain ⟨tr2,nx⟩ := next x sz' tk' hx
        simp only [Out.cut,Out.reTr,cont,e,List.append_assoc] at nx
        have D2 := Dh'.inner Di
        cases κ with
        | base => exact nx.elim
        | ret c₁ hd k κ => exact (run_sound h0.hd hA _ _ _ _ _ _ _ _ _ nx h' D2).2
    · cases h2
end
noncomputable def Out.adS (o : Out) (i : Nat) : Option Addr := match o with
  | .stop _ _ _ s => (lget s.led i).map (·.1)
  | _ => none
section
variable {G : Gc} {h₀ : Heap} {H : List Addr} {A₀ : Around} {R₀ : Result → Shared → Prop}
theorem stop_goodF {α : Type} {D n : Nat} {c : Code} {pre : Led} {ok : α → Prop} {res : α → Result} {post news : α → Led} {out : Out} {D₀ : Nat} (h0 : Calm A₀ D₀) (hA : A₀.depth + 100 ≤ recursionLimit) (idx : List Nat) {a : Addr} (j : Nat) (ha : out.adS j = some a)
    (does : Does G D c pre ok res post news) (hD : D₀ + 50 ≤ D)
    (h1 : out.obsL = out.obsR) (h2 : out.stop? idx = some (c,pre,none,true)) (hk : ∀ x,keys (post x) = keys pre)
    (next : ∀ x sz tk,ok x → (∀ p ∈ news x,p.1 ≠ a) → ∃ tr : List Ev,(cont G.kt G.tab G.set n (out.reTr tr) idx (res x) (news x ++ post x) sz tk).Good G h₀ H A₀ R₀) : out.Good G h₀ H A₀ R₀ := by
  cases out with
  | ret => cases h2
  | bad => cases h2
  | badW => cases h2
  | mid => cases h2
  | stop c' κ tr st =>
    refine ⟨alike_of h1,fun h Dh => ?_⟩
    simp only [Out.stop?] at h2
    split at h2
    · rename_i q e
      simp only [Option.some.injEq,Prod.mk.injEq] at h2
      obtain ⟨rfl,e2,e3,e4⟩ := h2
      have pm := lpick_perm _ _ _ _ e
      have Dh' := Dh.perm pm
      rw [e2] at Dh'
      refine does (around A₀ κ) _ (G.sh h st.tk) ?_ ?_ ⟨Dh.base,rfl,rfl,rfl⟩ (fun p hp => Dh'.own p (List.mem_append.mpr (.inl hp))) ?_ (fun p hp => Dh'.young p (List.mem_append.mpr (.inl hp))) fun x s' hx hf ho hn hK hfr hnd => ?_
      · have e5 := Bool.and_eq_true_iff.mp e4
        have e6 := Nat.le_of_ble_eq_true e5.1
        have e7 := Nat.le_of_ble_eq_true e5.2
        have := h0.deep
        have := h0.units
        exact ⟨by rw [around_hd h0.hd,e3],by rw [around_depth]; omega,by rw [around_units]; omega⟩
      · rw [around_depth]; have := Nat.le_of_ble_eq_true (Bool.and_eq_true_iff.mp e4).1; have := h0.deep; omega
      · have := Dh'.nodup
        rw [List.map_append] at this
        exact (List.nodup_append.mp this).1
      · have hlt : a < h.objs.size := by
          simp only [Out.adS] at ha
          cases hg : lget st.led j with
          | none => rw [hg] at ha; cases ha
          | some p =>
            rw [hg] at ha
            simp only [Option.map_some,Option.some.injEq] at ha
            rw [← ha]
            exact Heap.lt_size (Dh.own p (lget_mem _ _ _ hg))
        obtain ⟨tr2,nx⟩ := next x s'.heap.objs.size s'.toks hx fun p hp e => absurd (e ▸ hfr p hp) (Nat.not_le.mpr hlt)
        simp only [Out.reTr,cont,e,List.append_assoc] at nx
        have D2 := Dh'.called hf.base (hk x) ho hn hK hfr hnd
        cases κ with
        | base => exact nx.elim
        | ret c₁ hd k κ =>
          have z := run_sound h0.hd hA _ _ _ _ _ _ _ _ _ nx s'.heap D2
          show Means G A₀ R₀ c₁ κ (k (res x)) s'
          rw [hf.eq]
          exact z.2
    · cases h2
end
section
variable {e : Env0} {h₀ : Heap} {H : List Addr} {A₀ : Around} {R₀ : Result → Shared → Prop}
theorem meetS {α : Type} {D : Nat} {c : Code} {pre S : Led} {ok : α → Prop} {res : α → Result} {after : α → Led} {out : Out} {D₀ : Nat} (h0 : Calm A₀ D₀) (hA : A₀.depth + 100 ≤ recursionLimit) (m : Nat) (idx : List Nat)
    (does : DoesL e.G D c (pre ++ S) ok res after) (hD : D₀ + 50 ≤ D)
    (h1 : out.obsL = out.obsR) (h2 : (out.cut m).stop? idx = some (c,pre,none,true)) (h3 : out.suf m = S)
    (next : ∀ x sz tk,ok x → ∃ tr : List Ev,let o := contY (kt e.w) 312 (settY e.w) fuel ((out.cut m).reTr tr) idx (res x) (after x) sz tk; o.Good e.G h₀ H A₀ R₀) : out.Good e.G h₀ H A₀ R₀ :=
  stop_goodS h0 hA m idx does hD h1 h2 h3 fun x sz tk hx => by
    obtain ⟨tr,h⟩ := next x sz tk hx
    exact ⟨tr,cont_good h⟩
theorem meetS_v {α β : Type} {D : Nat} {c : β → Code} {pre : β → Led} {S : Led} {ok : β → α → Prop} {res : β → α → Result} {after : β → α → Led} {out : Out} {D₀ : Nat} (h0 : Calm A₀ D₀) (hA : A₀.depth + 100 ≤ recursionLimit) (m : Nat) (idx : List Nat) (f : Out → β)
    (does : ∀ b,DoesL e.G D (c b) (pre b ++ S) (ok b) (res b) (after b)) (hD : D₀ + 50 ≤ D)
    (h1 : out.obsL = out.obsR) (h2 : (out.cut m).stop? idx = some (c (f out),pre (f out),none,true)) (h3 : out.suf m = S)
    (next : ∀ x sz tk,ok (f out) x → ∃ tr : List Ev,let o := contY (kt e.w) 312 (settY e.w) fuel ((out.cut m).reTr tr) idx (res (f out) x) (after (f out) x) sz tk; o.Good e.G h₀ H A₀ R₀) : out.Good e.G h₀ H A₀ R₀ :=
  meetS h0 hA m idx (does (f out)) hD h1 h2 h3 next
theorem meetF {α : Type} {D : Nat} {c : Code} {pre : Led} {ok : α → Prop} {res : α → Result} {post news : α → Led} {out : Out} {D₀ : Nat} (h0 : Calm A₀ D₀) (hA : A₀.depth + 100 ≤ recursionLimit) (idx : List Nat) {a : Addr} (j : Nat) (ha : out.adS j = some a)
    (does : Does e.G D c pre ok res post news) (hD : D₀ + 50 ≤ D)
    (h1 : out.obsL = out.obsR) (h2 : out.stop? idx = some (c,pre,none,true)) (hk : ∀ x,keys (post x) = keys pre)
    (next : ∀ x sz tk,ok x → (∀ p ∈ news x,p.1 ≠ a) → ∃ tr : List Ev,let o := contY (kt e.w) 312 (settY e.w) fuel (out.reTr tr) idx (res x) (news x ++ post x) sz tk; o.Good e.G h₀ H A₀ R₀) : out.Good e.G h₀ H A₀ R₀ :=
  stop_goodF h0 hA idx j ha does hD h1 h2 hk fun x sz tk hx hn => by
    obtain ⟨tr,h⟩ := next x sz tk hx hn
    exact ⟨tr,cont_good h⟩
end
end Mine
end
section
open PySem PySem.W PySem.W.X PyProof.Rows PySem.Spec PySem.Calls
set_option genInjectivity false
set_option genCtorIdx false
namespace Mine
section
open PySem
variable {G : Gc} {D : Nat}
theorem list_new_does {a : Value} :
    Does G D (.builtin "list.__new__" ⟨[.type "list", a], []⟩) [] (fun _ : Addr => True) (fun r => retV (.ref r)) (fun _ => []) (fun r => [(r, lob [] 0)]) := by
  intro A R s hc _ hf ho hn hy hfin
  refine codeAny_builtin_stack F.entry_list_new rfl fun p st => ?_
  rw [Around.under_plainId F.plain_list_new _]
  have hsub := sub_list_self
  have hown := owner_list_new
  have hx := hfin s.heap.objs.size { s with heap := s.heap.push { cls := .type "list", data := .seq #[] } } trivial ⟨hf.base.push _, hf.gens, hf.drawn, hf.os⟩ own_nil
    (own_one.mpr (Heap.get?_push_size _ rfl)) ⟨by rw [Heap.size_push]; omega,fun b o e _ => Heap.get?_push_of_some _ e⟩ (fun p hp => by rw [List.mem_singleton.mp hp]; exact Nat.le_refl _) (by simp [keys])
  obtain ⟨hp,g,d,tk,os⟩ := s
  simp only [hown]
  wp_walk
  exact hx
end
noncomputable def tcC (cls a : Value) : Code := .builtin "type.__call__" ⟨[cls, a], []⟩
noncomputable def tcT (cls a : Value) : Sem PySem.Fin := Builtin.«type.__call__» ⟨[cls,a],[]⟩
lay_quick tcT
noncomputable abbrev tcTY := PySem.W.Fast.tw3528400432945627950
theorem tcTY_eq : @tcT = tcTY := PySem.W.Fast.te3528400432945627950
theorem tc_den0 (T : String → Option Builtin) (he : entryFor T "type.__call__" = some Builtin.«type.__call__») (cls a : Value) : denote T (tcC cls a) = tcT cls a := by
  unfold tcC denote
  simp only [he]
  rfl
theorem tc_den (cls a : Value) : denote PySem.table (tcC cls a) = tcTY cls a :=
  (tc_den0 PySem.table F.entry_type_call cls a).trans (congrFun (congrFun tcTY_eq cls) a)
noncomputable def tcRw (cls a : Value) : Rw := ⟨tcC cls a,tcTY cls a,tc_den cls a⟩
theorem strlen_does {G : Gc} {D : Nat} {x : Str} {t : Tok} {m : Nat} (hm : x.length = m) (hs : m < 2 ^ 63) :
    Does G D (.builtin "len" ⟨[.str x t], []⟩) [] (fun _ : Tok => True) (fun k => retV (.int (.ofNat m) k)) (fun _ => []) (fun _ => []) := by
  have mt : Meets (Builtin.«len» ⟨[.str x t],[]⟩) (fun _ R s => R (.ok (.ret (.int (.ofNat m) (s.toks + 1)))) { s with toks := s.toks + 1 + 1 }) :=
    .of_wp fun prog w A R s h => by
      exact wpAny_len_body (n := (m : Int)) (Q := fun v s' => R (.ok (.ret v)) s') (typeIs_str s x t) F.slot_str_len F.entry_str_len (F.args_str_len_1 _) (hm ▸ gives_str_len x t) (by omega) (by omega) h
  refine does_of_meets (by decide +kernel) PySem.entry_len mt ?_
  intro A R s hf ho hd hy hfin
  exact hfin _ _ trivial ⟨hf.base,hf.gens,hf.drawn,hf.os⟩ own_nil own_nil ⟨Nat.le_refl _,fun _ _ e _ => e⟩ (fun _ hp => nomatch hp) List.nodup_nil
noncomputable def initC (l src : Addr) : Code := .builtin "list.__init__" ⟨[.ref l, .ref src], []⟩
noncomputable def initT (T : String → Option Builtin) (he : entryFor T "list.__init__" = some Builtin.«list.__init__») (l src : Addr) (h : l ≠ src) : { t : Sem PySem.Fin // denote T (initC l src) = t } := by
  refine ⟨?_,?_⟩
  rotate_left
  · unfold initC denote
    simp only [he]
    unfold Builtin.«list.__init__»
    have e2 : Builtin.List.listSameRef (.ref l) (.ref src) = false := by
      show (l == src) = false
      simpa using h
    simp only [Builtin.List.listExtendWith,e2,Bool.false_or]
    rfl
noncomputable def initRw (l src : Addr) (h : l ≠ src) : Rw := ⟨initC l src,(initT PySem.table PySem.F.entry_list_init l src h).1,(initT PySem.table PySem.F.entry_list_init l src h).2⟩
variable {Z : Led} {k : Nat}
theorem EqV.lists' {l r : Addr} {xs ys : List Value} {n m : Nat} (hl : (l,lob xs n) ∈ Z) (hr : (r,lob ys m) ∈ Z) (hs : EqVs Z k xs ys) : EqV Z (k + 1) (.ref l) (.ref r) := by
  by_cases h : l = r
  · subst h; exact EqV.same _
  · exact EqV.lists hl hr h hs
theorem EqV.tuples' {l r : Addr} {xs ys : List Value} (hl : (l,tob xs) ∈ Z) (hr : (r,tob ys) ∈ Z) (hs : EqVs Z k xs ys) : EqV Z (k + 1) (.ref l) (.ref r) := by
  by_cases h : l = r
  · subst h; exact EqV.same _
  · exact EqV.tuples hl hr h hs
theorem EqV.up {x y : Value} {j : Nat} (h : EqV Z k x y) (hj : k ≤ j) : EqV Z j x y := fun A s hA ho => h A s (by omega) ho
section
variable {e : Env0} {D : Nat} {C : Cx} {X : Lx} {fr cl ll cw cd ct wl dl : Addr} {nl nw nd m N : Nat} {ln : Value} {q lv wv dv : List Value} {tx : Tok} {ks due : List Nat} {wf : Nat → List Nat}
theorem now_all0 {bs : List Bool} {ss : List (List Nat)} (hD : D + 450 ≤ recursionLimit) (hl : lv = bs.map .bool) (hq : Strs ss q) (hN : bs.length = ss.length) (h1 : ss.length ≤ 50) :
    Does e.G D (lawS e xNow C fr [(sOf [114,105,110,103],cl)]) ([(C.it,litO ll 0),(ll,lob lv nl),(C.acc,lob [] 0),(C.dc,dcO [95] none),(cl,cellO (.ref X.l))] ++ (X.L ln q m))
      (fun z : Bnd => Told ss.length ([],z)) (fun _ => .ok .next) (fun z => [(C.it,litE ss.length),(ll,lob lv nl),(C.acc,lob q q.length),(C.dc,dcO [95] z),(cl,cellO (.ref X.l))] ++ (X.L ln [] (m + ss.length))) (fun _ => []) := by
  have := now_all (e := e) (D := D) (C := C) (X := X) (fr := fr) (cl := cl) (ll := ll) (nl := nl) (ln := ln) (m := m) hD hl hq hN h1 (q2 := []) (by decide)
  rw [List.append_nil] at this
  exact this
noncomputable def sg (b : Bool) : List Nat := match b with | true => [34,34,92,32] | false => [92,32,34]
theorem sg_same (b : Bool) : same (sOf (sg b)) (sOf [34,34,92,32]) = b := by cases b <;> decide +kernel
theorem eq_all2 {ms : List Bool} (hD : D + 450 ≤ recursionLimit) (hl : Strs (ms.map sg) lv) (h1 : ms.length ≤ 100) :
    Does e.G D (lawS e xEq C fr []) ([(C.it,litO ll 0),(ll,lob lv nl),(C.acc,lob [] 0),(C.dc,dcO [115,105,103,110] none)])
      (fun z : Bnd => Told ms.length ([],z)) (fun _ => .ok .next) (fun z => [(C.it,litE ms.length),(ll,lob lv nl),(C.acc,lob (ms.map .bool) ms.length),(C.dc,dcO [115,105,103,110] z)]) (fun _ => []) := by
  have := eq_all (e := e) (D := D) (C := C) (fr := fr) (ll := ll) (nl := nl) hD hl (by simpa using h1)
  have e1 : ((ms.map sg).map fun x => Value.bool (same (sOf x) (sOf [34,34,92,32]))) = ms.map .bool := by
    rw [List.map_map]
    refine List.map_congr_left fun b _ => ?_
    show Value.bool (same (sOf (sg b)) _) = _
    rw [sg_same]
  rw [e1,List.length_map] at this
  exact this
theorem sizes_all {par : Bool} (hD : D + 450 ≤ recursionLimit) (hl : Ints (natI ks) lv) (hk : ks.length ≤ 100) (hd : Ints (natI due) dv) (hs : Strs ((List.range N).map wf) wv) (hN : N ≤ 100) (hks : ∀ k ∈ ks,k < N) (hp : (Int.ofNat (m % 2) != 0) = par)
    (hfl : ∀ k,k < N → Builtin.Str.tooLong (Txt.lower (sOf (wf k))).length = false) (hfu : ∀ k,k < N → Builtin.Str.tooLong (Txt.upper (sOf (wf k))).length = false) :
    Does e.G D (lawS e xSizes C fr [(sOf [119,111,114,100,115],cw),(sOf [116,117,114,110],ct),(sOf [100,117,101],cd)]) ([(C.it,litO ll 0),(ll,lob lv nl),(C.acc,lob [] 0),(C.dc,dcO [107] none)] ++ [(cw,cellO (.ref wl)),(ct,cellO (.int (.ofNat m) tx)),(cd,cellO (.ref dl)),(wl,lob wv nw),(dl,lob dv nd)])
      (fun z => Strs ((ks.filter due.contains).map fun k => (fm (if par then 2 else 1) (sOf (wf k))).cps.toList) z.1 ∧ Told ks.length z) (fun _ => .ok .next) (fun z => [(C.it,litE ks.length),(ll,lob lv nl),(C.acc,lob z.1 z.1.length),(C.dc,dcO [107] z.2)] ++ [(cw,cellO (.ref wl)),(ct,cellO (.int (.ofNat m) tx)),(cd,cellO (.ref dl)),(wl,lob wv nw),(dl,lob dv nd)]) (fun _ => []) := by
  cases par
  · exact sizes_even hD hl hk hd hs hN hks hp hfl
  · exact sizes_odd hD hl hk hd hs hN hks hp hfu
end
end Mine
end
section
open PySem PySem.W PySem.W.X PyProof.Rows
set_option genInjectivity false
set_option backward.match.sparseCases false
namespace Mine
noncomputable def lawF2 (w : World) (c : Ck) (fr it : Addr) : Code := forOf (lawB w)[23]! it (lawEnv w c fr)
noncomputable def nsA : List Nat := ns5b ++ [22,23]
theorem mem_ix {α : Type} {l : List α} {x : α} (i : Nat) (h : l[i]? = some x) : x ∈ l := List.mem_of_getElem? h
structure Gd where
  ov : List Value
  no : Nat
  mks : List Bool
  nm : Nat
  X : Lx
  ln : Value
  Z : Lx
  rln : Value
  wl : Addr
  wv : List Value
  nw : Nat
  sl : Addr
  sv : List Value
  nz : Nat
  I : Ints3
noncomputable def f2L (c : Ck) (fr it : Addr) (K : Lk) (Y : Gd) (F : Fk) (ns : List Nat) (i k : Nat) (q : List Value) (nq : Nat) (rq : List Value) (rn : Nat) (sc tc dc : Option Value) (S : Led) : Led :=
  [(it,ritO i k),(fr,lfT K F ns []),(K.ol,lob Y.ov Y.no),(K.ml,lob (Y.mks.map .bool) Y.nm),(c.c_line,cellO (.ref Y.X.l))] ++ Y.X.L Y.ln q nq ++ [(c.c_ring,cellO (.ref Y.Z.l))] ++ Y.Z.L Y.rln rq rn ++
    [(c.c_spot,cellN sc),(c.c_turn,cellN tc),(c.c_due,cellN dc),(c.c_words,cellO (.ref Y.wl)),(Y.wl,lob Y.wv Y.nw),(c.c_spots,cellO (.ref Y.sl)),(Y.sl,lob Y.sv Y.nz),(c.c_low,cellO (.int (.ofNat Y.I.low) Y.I.tl)),(c.c_wide,cellO (.int (.ofNat Y.I.wide) Y.I.tw)),(c.c_base,cellO (.int (.ofNat Y.I.base) Y.I.tb))] ++ S
noncomputable def spotF (I : Ints3) (k : Nat) : List Nat := oct (I.base + k / I.wide) ++ oct (I.base + k % I.wide)
structure Board (e : Env0) (h : Nat) (Y : Gd) (wf : Nat → List Nat) (N : Nat) (ord : List Nat) (Q : List Quad) : Prop where
  B : BG e Y.I.wide wf (spotF Y.I) N
  ov : Ints (natI ord) Y.ov
  wv : Strs ((List.range N).map wf) Y.wv
  sv : Strs ((List.range N).map (spotF Y.I)) Y.sv
  ordN : ∀ k ∈ ord,k < N
  ord20 : ord.length ≤ 20
  ord0 : 0 < ord.length
  N20 : N ≤ 20
  quads : QuadsOf wf (spotF Y.I) ord Q
  base : Y.I.base < 262000
  w0 : 0 < Y.I.wide
  wide : Y.I.wide ≤ 10
  low : Y.I.low < 50
  h0 : 0 < h
  high : h ≤ 100
  mk20 : Y.mks.length ≤ 20
structure Turn (h : Nat) (Y : Gd) (wf : Nat → List Nat) (N : Nat) (ord : List Nat) (b : Bool) (ms : List Bool) (par : Bool) (l : List (Nat × Nat)) (ks due : List Nat) : Prop where
  len : ms.length + 1 = Y.mks.length
  hw : h + Y.I.wide ≤ (ms ++ [b]).length
  rc : (rowsN (ms ++ [b]) h Y.I.wide h).length ≤ (colsN (ms ++ [b]) Y.I.wide Y.I.wide).length
  hdue : dueN (ms ++ [b]) h Y.I.wide = due
  hks : ord.filter due.contains = ks
  same : due.length = ks.length
  l2 : l.length ≤ 2
  lN : ∀ p ∈ l,p.1 < N
  run : runF3 Y.I.wide (if par then 2 else 1) ord l = some (ks.map fun k => (k,if par then 2 else 1))
  dueN : ∀ k ∈ due,k < N
  ksN : ∀ k ∈ ks,k < N
  F : maskN Y.I.low Y.I.wide (ks ++ ks) 0 < 2 ^ 34
  J : JoinOk [44,32] (pfq 32 (maskN Y.I.low Y.I.wide (ks ++ ks) 0))
  J2 : JoinOk [44,32] (due.map fun k => ((List.range N).map wf).getD k [])
inductive Sh2 where
  | f
  | a
  | b
  | c
structure TgS (s : Sh2) : Type where
noncomputable def TgS.s {s : Sh2} (q : TgS s) : Sh2 := s
namespace Sh2
noncomputable def ns : Sh2 → List Nat | f => ns0 ++ [12] | a => nsA | b => ns5d | c => ns5c
noncomputable def ns3 : Sh2 → List Nat | f => ns0 ++ [12] | _ => Mine.ns3
noncomputable def t3 : Sh2 → List Nat | f => [] | a => [16,17,18,19,20,21,22,23] | b => [16,17,18,22,23] | c => [16,17,18,22,23,19,20,21]
noncomputable def ns4 : Sh2 → List Nat | f => ns4a | _ => ns4b
noncomputable def t4 : Sh2 → List Nat | f => [] | a => [18,19,20,21,22,23] | b => [18,22,23] | c => [18,22,23,19,20,21]
noncomputable def ns5 : Sh2 → List Nat | f => ns5a | a => ns5b | b => ns5d | c => ns5c
noncomputable def t5 : Sh2 → List Nat | a => [22,23] | _ => []
noncomputable def ns6 : Sh2 → List Nat | f => ns5b | a => ns5b | b => ns5c | c => ns5c
noncomputable def e2 : Sh2 → List Nat | f => nsA | a => nsA | b => ns5c | c => ns5c
noncomputable def e0 : Sh2 → List Nat | f => ns5d | a => nsA | b => ns5d | c => ns5c
theorem h3 (s : Sh2) {g : Nat → DictEntry} : s.ns3 = Mine.ns3 ∨ s.ns3 = ns0 ++ [12] ∧ s.t3.map g = [] := match s with | f => .inr ⟨rfl,rfl⟩ | a => .inl rfl | b => .inl rfl | c => .inl rfl
theorem h4 (s : Sh2) {g : Nat → DictEntry} : s.ns4 = ns4b ∨ s.ns4 = ns4a ∧ s.t4.map g = [] := match s with | f => .inr ⟨rfl,rfl⟩ | a => .inl rfl | b => .inl rfl | c => .inl rfl
theorem h5 (s : Sh2) {g : Nat → DictEntry} : Sh5 s.ns5 (s.t5.map g) s.ns6 := match s with | f => .inl ⟨rfl,rfl,rfl⟩ | a => .inr (.inr (.inl ⟨rfl,rfl⟩)) | b => .inr (.inl ⟨rfl,rfl,rfl⟩) | c => .inr (.inr (.inr ⟨rfl,rfl,rfl⟩))
theorem h6 (s : Sh2) (h : s = .a ∨ s = .c) : s.ns5 = s.ns6 := by rcases h with rfl | rfl <;> rfl
end Sh2
section
variable {e : Env0} {D : Nat} {h₀ : Heap} {H₀ : List Addr} {A₀ : Around} {R₀ : Result → Shared → Prop} {c : Ck} {fr it : Addr} {K : Lk} {Y : Gd} {F : Fk} {i k nq rn n N k1 k2 : Nat} {rq : List Value} {sc tc dc : Option Value} {wf : Nat → List Nat} {ord : List Nat} {Q : List Quad} {b : Bool} {ms : List Bool} {par : Bool} {l : List (Nat × Nat)} {ks due : List Nat} {ps : List Pair} {ts0 : Tok} {c0 : Nat} {cs0 : List Nat}
noncomputable def maskT (F : Fk) : Tok := match F.v 18 with | .int _ t => t | _ => 0
theorem join_ne {e : Env0} {D : Nat} {sep : List Nat} {ss : List (List Nat)} {t : Tok} {l : Addr} {vs : List Value} {n : Nat} {c : Nat} {cs : List Nat} (h : Strs ss vs) (ok : JoinOk sep ss) (hj : joinS sep ss = c :: cs) :
    Does e.G D (.builtin "str.join" ⟨[.str (sOf sep) t, .ref l], []⟩) [(l, lob vs n)] (fun _ : Tok => True) (fun k => retV (.str (sOf (c :: cs)) k)) (fun _ => [(l, lob vs n)]) (fun _ => []) := by
  have := join_does (G := e.G) (D := D) (t := t) (l := l) (n := n) h ok
  rw [hj] at this
  exact this
theorem join_nil {e : Env0} {D : Nat} {sep : List Nat} {ss : List (List Nat)} {t : Tok} {l : Addr} {vs : List Value} {n : Nat} (h : Strs ss vs) (h0 : ss = []) :
    Does e.G D (.builtin "str.join" ⟨[.str (sOf sep) t, .ref l], []⟩) [(l, lob vs n)] (fun _ : Tok => True) (fun k => retV (.str (sOf []) k)) (fun _ => [(l, lob vs n)]) (fun _ => []) := by
  subst h0
  exact join_does (G := e.G) (D := D) (t := t) (l := l) (n := n) h ⟨by rfl,Nat.zero_le _⟩
theorem f5_nila {al : Addr} {I : Ints3} {vv : List Value} {nn : Nat} {tl : List DictEntry} {M0 : Nat} {tm : Tok} (hD : D + 550 ≤ recursionLimit) (htl : tl = []) :
    DoesL e.G D (lawF5 e.w c fr it) (f5L c fr it al K I [] nn F ns5a tl 0 M0 tm) (fun _ : Fk × Tok => True) (fun _ => .ok .next) (fun x => f5E c fr it al K I [] nn x.1 ns5a tl 0 M0 x.2) :=
  doesL_of (by omega) fun A₀ R₀ h₀ a0 aD fin => by
    subst htl
    exact f5_end_a a0 aD hD rfl fun h tk sz Dh => fin (F,tm) h tk sz trivial Dh
theorem f5_nild {al : Addr} {I : Ints3} {vv : List Value} {nn : Nat} {tl : List DictEntry} {M0 : Nat} {tm : Tok} (hD : D + 550 ≤ recursionLimit) (htl : tl = []) :
    DoesL e.G D (lawF5 e.w c fr it) (f5L c fr it al K I [] nn F ns5d tl 0 M0 tm) (fun _ : Fk × Tok => True) (fun _ => .ok .next) (fun x => f5E c fr it al K I [] nn x.1 ns5d tl 0 M0 x.2) :=
  doesL_of (by omega) fun A₀ R₀ h₀ a0 aD fin => by
    subst htl
    exact f5_end_d a0 aD hD rfl fun h tk sz Dh => fin (F,tm) h tk sz trivial Dh
theorem f5_nil (s : Sh2) (hs : s = .f ∨ s = .b) {al : Addr} {I : Ints3} {vv : List Value} {nn : Nat} {tl : List DictEntry} {M0 : Nat} {tm : Tok} (hD : D + 550 ≤ recursionLimit) (htl : tl = []) :
    DoesL e.G D (lawF5 e.w c fr it) (f5L c fr it al K I [] nn F s.ns5 tl 0 M0 tm) (fun _ : Fk × Tok => True) (fun _ => .ok .next) (fun x => f5E c fr it al K I [] nn x.1 s.ns5 tl 0 M0 x.2) := by
  rcases hs with rfl | rfl
  · exact f5_nila (vv := vv) hD htl
  · exact f5_nild (vv := vv) hD htl
set_option maxHeartbeats 0 in
theorem f2_2 (s : Sh2) (a0 : Calm A₀ D) (aD : A₀.depth + 100 ≤ recursionLimit) (hD : D + 600 ≤ recursionLimit) (hC : 8 * D + 2000 < cLine) (W : Board e K.h Y wf N ord Q) (T : Turn K.h Y wf N ord b ms par l [k1,k2] due) (hp : (Int.ofNat (i % 2) != 0) = par) (hps : HasPs wf (spotF Y.I) ps l) (hrs : Strs ((ms ++ [b]).map sg) (rq ++ [.str (sOf (sg b)) ts0])) (hj0 : joinS [44,32] (due.map fun k => ((List.range N).map wf).getD k []) = c0 :: cs0) (hsame : same (sOf (joinS [44,32] (pfq 32 (maskN Y.I.low Y.I.wide ([k1,k2] ++ [k1,k2]) 0)))) (sOf (c0 :: cs0)) = true)
    (next : ∀ F tu sv tv dl sc' rn',∀ ps',HasPs wf (spotF Y.I) ps' ([k1,k2].map fun k => (k,if par then 2 else 1)) → DoesR e.G h₀ H₀ A₀ R₀ (lawF2 e.w c fr it) (f2L c fr it { K with tot := K.tot + 2,tu := tu } Y F s.e2 (i + 1) k (QL Q) (nq + 4 * ord.length) (rq ++ [.str (sOf (sg b)) ts0]) rn' (some sv) (some (.int (.ofNat i) tv)) (some (.ref dl)) (K.H.L ps' sc'))) :
    DoesR e.G h₀ H₀ A₀ R₀ (lawF2 e.w c fr it) (f2L c fr it K Y F s.ns i (k + 1) (QL Q) nq (.str (sOf (sg b)) ts0 :: rq) rn sc tc dc (K.H.L ps n)) := by
  have q : TgS s := ⟨⟩
  have hrq : rq.length ≤ 50 := by
    have h1 := hrs.len
    have h2 := T.len
    have h3 := W.mk20
    simp at h1
    omega
  have hks2 : ∀ k ∈ [k1,k2] ++ [k1,k2],k < N := fun k hk => by
    rcases List.mem_append.mp hk with h | h
    · exact T.ksN k h
    · exact T.ksN k h
  cases s
  all_goals
    refine walkR a0 aD (ts [1,1] <| ts [14,14,2,3,3,1001,3,1] <| tn [] []) ?_; intro gd mm sz0 tk0 o
    refine mm [0] (rnext_some (it := it) (i := i) (k := k)) ?_; intro o t0 sz1 tk1 _
    refine meetS (D := D + 50) a0 aD 23 [0,2,1,2,2,2,2,6,6] (f3_all (e := e) (D := D + 50) (c := c) (fr := fr) (it := sz1) (K := K) (Y := ⟨Y.ov,Y.no,Y.X,Y.ln,i,t0⟩) (N := N) (wd := Y.I.wide) (wf := wf) (sf := spotF Y.I) (ord := ord) (Z := Q) (F := F) (ns := q.s.ns3) (ps := ps) (n := n) (sc := sc) (l := l) (lf := [k1,k2].map fun k => (k,(if par then 2 else 1))) (tl := (q.s.t3.map (entF K F))) (nq0 := nq) (par := par) (by omega) (by omega) W.B W.ov W.ordN W.ord20 W.ord0 W.quads hp q.s.h3 hps T.l2 T.lN T.run) (by omega) (by kernel_rfl) (by kernel_rfl) (by kernel_rfl) ?_; intro x1 sz2 tk2 hx1
    obtain ⟨F1,sv1,ps1,n1⟩ := x1
    obtain ⟨⟨p1,y1,t1,v1,u1⟩,⟨p2,y2,t2,v2,u2⟩,e1,⟨ax,av⟩,bx,bv⟩ := hx1.two
    simp only at e1 ax av bx bv
    subst e1 ax av bx bv
    refine ⟨(ts [17,18,0,0,0,18,0,0,0,18,0,0,0,0,18,19,17,18,0,0,0,18,0,0,0,18,0,0,0,0,18,19,0] <| ts [0] <| ts [6,19,19,1001,19,1] <| ts [11,11,4,4,4,11,3,3,1001,3,1] <| tn [] []),?_⟩; intro o
    refine mm [17,17,17] (getq_does (X := Y.Z) (ln := Y.rln) (xs := rq) (n := rn) (sv := sOf (sg b)) (tv := ts0) (by omega) (Nat.lt_of_le_of_lt hrq (by decide))) ?_; intro o _ sz3 tk3 _
    refine mm [0,0,0] (push_does (X := Y.Z) (ln := Y.rln) (xs := rq) (n := rn + 1) (sv := sOf (sg b)) (tv := ts0) (by omega) (small_size (by omega))) ?_; intro o _ sz4 tk4 _
    refine mm [2,20,1,0,18,0,0,0] (now_all0 (e := e) (D := D + 50) (C := ⟨sz4,sz4 + 1,sz4 + 2⟩) (fr := fr) (cl := c.c_ring) (ll := K.ml) (nl := Y.nm) (lv := Y.mks.map .bool) (X := Y.Z) (ln := Y.rln) (m := rn + 2) (q := (rq ++ [Value.str (sOf (sg b)) ts0])) (bs := Y.mks) (ss := (ms ++ [b]).map sg) (by omega) rfl hrs (by simp [T.len.symm]) (by simp; have := T.len; have := W.mk20; omega)) ?_; intro o z4 sz5 tk5 hz4
    obtain ⟨bz4,rfl⟩ := Option.isSome_iff_exists.mp (hz4.1 (by simp))
    refine meetL_v (D := D + 50) a0 aD [0,2,9,3,3,3,3] (fun o => fkOf q.s.ns4 (o.ob 11)) (fun F4 => f4_all (e := e) (D := D + 50) (c := c) (fr := fr) (it := sz5) (al := sz4 + 1) (K := K) (X := Y.Z) (ln := Y.rln) (nv := (rq ++ [Value.str (sOf (sg b)) ts0])) (nn := (rq ++ [Value.str (sOf (sg b)) ts0]).length) (F := F4) (ns := q.s.ns4) (tl := (q.s.t4.map (entF K F))) (m := rn + 2 + ((ms ++ [b]).map sg).length) (q := []) (ss := (ms ++ [b]).map sg) (by omega) hrs (by simp; have := T.len; have := W.mk20; omega) (by simp) (by simp) q.s.h4) (by omega) (by kernel_rfl) (by kernel_rfl) fun F5 sz6 tk6 _ => ⟨(ts [0,3,2,2,1001,2,1] <| ts [4,4,4,6,34,0] <| ts [29,29,7,7,7,23,0,0,0,23,0,0,0,23,0,0,0,0,23,24,0] <| ts [1,1,1,1,1,1,1,1001,1,1] <| tn [] []),?_⟩; intro o
    refine mm [2,3,1,0] (eq_all2 (e := e) (D := D + 50) (C := ⟨sz6,sz6 + 1,sz6 + 2⟩) (fr := fr) (ll := sz4 + 1) (nl := (rq ++ [Value.str (sOf (sg b)) ts0]).length) (lv := (rq ++ [Value.str (sOf (sg b)) ts0])) (ms := (ms ++ [b])) (by omega) hrs (by have := T.len; have := W.mk20; simp; omega)) ?_; intro o z6 sz7 tk7 hz6
    obtain ⟨bz6,rfl⟩ := Option.isSome_iff_exists.mp (hz6.1 (by simp))
    refine mm [2] (due_does (e := e) (D := D + 50) (ml := sz6 + 1) (bs := (ms ++ [b])) (nm := (ms ++ [b]).length) (h := K.h) (th := K.th) (w := Y.I.wide) (tw := Y.I.tw) (by omega) W.w0 (by have := W.wide; omega) W.h0 W.high T.hw (small_size (by have := T.len; have := W.mk20; simp; omega)) T.rc) ?_; intro o z7 sz8 tk8 hz7
    rw [T.hdue] at hz7
    refine mm [22,22,22,22,22] (values_2 (e := e) (D := D + 50) (H := K.H) (a := ⟨p1,fm (if par then 2 else 1) (sOf (wf k1)),t1,sOf (spotF Y.I k1),u1⟩) (b := ⟨p2,fm (if par then 2 else 1) (sOf (wf k2)),t2,sOf (spotF Y.I k2),u2⟩) (n := n1) (by omega)) ?_; intro o l8 sz9 tk9 _
    refine meetL_v (D := D + 50) a0 aD [0,0,12,33,33,33] (fun o => (fkOf q.s.ns5 (o.ob 14),maskT (fkOf q.s.ns5 (o.ob 14)))) (fun b => f5_all (e := e) (D := D + 50) (c := c) (fr := fr) (it := sz9 + 1) (al := sz9) (K := K) (I := Y.I) (vv := [.str (sOf (spotF Y.I k1)) u1,.str (sOf (spotF Y.I k2)) u2,.str (sOf (spotF Y.I k1)) u1,.str (sOf (spotF Y.I k2)) u2]) (nn := 0) (F := b.1) (ns := q.s.ns5) (ns' := q.s.ns6) (tl := (q.s.t5.map (entF K F))) (M0 := 0) (tm := b.2) (ks := [k1,k2] ++ [k1,k2]) (by omega) ⟨u1,_,rfl,u2,_,rfl,u1,_,rfl,u2,_,rfl,rfl⟩ (fun k hk => Nat.lt_of_lt_of_le (hks2 k hk) W.N20) W.base W.wide W.low q.s.h5 (fun h => absurd h (by simp))) (by omega) (by kernel_rfl) (by kernel_rfl) fun x9 sz10 tk10 _ => ⟨(ts [3,27,27,1001,27,1] <| ts [12,12,4,4,4,12,2,2,1001,2,1] <| ts [17,17,4,4,4,17,22,0,0,0,22,0,0,0,22,0,0,0,0,22,23,0] <| ts [23,2,0,0,0,2,0,0,0,2,0,0,0,0,2,3,0] <| ts [0,24,0] <| tn [] []),?_⟩; intro o
    refine mm [2,28,1,0,34,31,32,32,12] (sizes_all (e := e) (D := D + 50) (C := ⟨sz10,sz10 + 1,sz10 + 2⟩) (fr := fr) (cw := c.c_words) (ct := c.c_turn) (cd := c.c_due) (ll := K.ol) (nl := Y.no) (lv := Y.ov) (wl := Y.wl) (nw := Y.nw) (wv := Y.wv) (dl := z7.1) (dv := z7.2) (nd := z7.2.length) (m := i) (tx := t0) (N := N) (wf := wf) (ks := ord) (due := due) (par := par) (by omega) W.ov (by have := W.ord20; omega) hz7 W.wv (by have := W.N20; omega) W.ordN hp W.B.fl W.B.fu) ?_; intro o z10 sz11 tk11 hz10
    obtain ⟨z10l,z10b⟩ := z10
    obtain ⟨hz10,htz10⟩ := hz10
    simp only at hz10
    obtain ⟨bz10,ez10⟩ := Option.isSome_iff_exists.mp (htz10.1 W.ord0)
    simp only at ez10
    subst ez10
    rw [T.hks] at hz10
    obtain ⟨st1,es1⟩ := hz10.at (i := 0) rfl
    obtain ⟨st2,es2⟩ := hz10.at (i := 1) rfl
    have ls := hz10.len
    have es0 : z10l[2]? = none := by rw [List.getElem?_eq_none_iff,ls]; simp
    refine mm [2,3,1,0,39,5,38,6] (vals_all (e := e) (D := D + 50) (C := ⟨sz11,sz11 + 1,sz11 + 2⟩) (fr := fr) (cs := c.c_spots) (cd := c.c_due) (ll := K.ol) (nl := Y.no) (lv := Y.ov) (sl := Y.sl) (ns := Y.nz) (sv := Y.sv) (dl := z7.1) (dv := z7.2) (nd := z7.2.length) (N := N) (sf := spotF Y.I) (ks := ord) (due := due) (by omega) W.ov (by have := W.ord20; omega) hz7 W.sv (by have := W.N20; omega) W.ordN) ?_; intro o z11 sz12 tk12 hz11
    obtain ⟨z11l,z11b⟩ := z11
    obtain ⟨hz11,htz11⟩ := hz11
    simp only at hz11
    obtain ⟨bz11,ez11⟩ := Option.isSome_iff_exists.mp (htz11.1 W.ord0)
    simp only at ez11
    subst ez11
    rw [T.hks] at hz11
    obtain ⟨vt1,ev1⟩ := hz11.at (i := 0) rfl
    obtain ⟨vt2,ev2⟩ := hz11.at (i := 1) rfl
    have lv := hz11.len
    refine mm [21,21,21,21,21] (items_2 (e := e) (D := D + 50) (H := K.H) (a := ⟨p1,fm (if par then 2 else 1) (sOf (wf k1)),t1,sOf (spotF Y.I k1),u1⟩) (b := ⟨p2,fm (if par then 2 else 1) (sOf (wf k2)),t2,sOf (spotF Y.I k2),u2⟩) (n := n1) (by omega)) ?_; intro o l12 sz13 tk13 _
    refine mm [1,1,1,1,1] (values_2 (e := e) (D := D + 50) (H := K.H) (a := ⟨p1,fm (if par then 2 else 1) (sOf (wf k1)),t1,sOf (spotF Y.I k1),u1⟩) (b := ⟨p2,fm (if par then 2 else 1) (sOf (wf k2)),t2,sOf (spotF Y.I k2),u2⟩) (n := n1) (by omega)) ?_; intro o l13 sz14 tk14 _
    refine meetT (D := D + 50) a0 aD [1, 1, 1, 1, 1] (hint_2 (e := e) (D := D + 50) (H := K.H) (a := ⟨p1, fm (if par then 2 else 1) (sOf (wf k1)), t1, sOf (spotF Y.I k1), u1⟩) (b := ⟨p2, fm (if par then 2 else 1) (sOf (wf k2)), t2, sOf (spotF Y.I k2), u2⟩) (n := n1) (by omega)) (by omega) (by kernel_rfl) (by kernel_rfl) (fun _ => rfl) fun k14 sz15 tk15 _ => ⟨(tn [0, 0, 0, 0, 25, 25, 18, 18, 1001, 18, 1, 12, 12, 1001, 12, 1, 1, 1, 1, 1] (.rw (tcRw (.type "list") (.ref (sz15 + 5))) :: .stop :: [])), ?_⟩; intro o
    refine meetF (D := D + 50) a0 aD [] (a := sz15 + 5) 0 (by kernel_rfl) (list_new_does (a := .ref (sz15 + 5))) (by omega) (by kernel_rfl) (by kernel_rfl) (fun _ => rfl) fun l15 sz16 tk16 _ hf15 => ⟨(tn [1,1,1] (.rw (initRw l15 (sz15 + 5) (hf15 _ List.mem_cons_self)) :: (ts [1,1,1,1,2,2,2,1001,2,2,2,2,1,1,1,1,1,1,2,2,2,2,4,2,2,2,2,6,6] <| ts [5,5,5,5,7,7] <| ts [7,7,7,7,7,7,7,7,7,6,6,6,7,7,7,7,9,7,1,7,7,7,4,4] <| ts [4,4] <| ts [7,7,7,8,8,8,8,10,8,6,8,4,4] <| ts [1,35,0,0,25] <| tn [] [.mid 0]))),?_⟩; intro o
    refine mm [5,22] (lnext_some (it := (sz15 + 1)) (l := (sz10 + 1)) (xs := z10l) (n := z10l.length) (i := 0) (v := .str (sOf (fm (if par then 2 else 1) (sOf (wf k1))).cps.toList) st1) (by omega) es1) ?_; intro o _ sz17 tk17 _
    refine mm [6,16] (lnext_some (it := (sz15 + 2)) (l := (sz11 + 1)) (xs := z11l) (n := z11l.length) (i := 0) (v := .str (sOf (spotF Y.I k1)) vt1) (by omega) ev1) ?_; intro o _ sz18 tk18 _
    refine mm [3,3] (lnext_some (it := (sz15 + 1)) (l := (sz10 + 1)) (xs := z10l) (n := z10l.length) (i := 1) (v := .str (sOf (fm (if par then 2 else 1) (sOf (wf k2))).cps.toList) st2) (by omega) es2) ?_; intro o _ sz19 tk19 _
    refine mm [3,3] (lnext_some (it := (sz15 + 2)) (l := (sz11 + 1)) (xs := z11l) (n := z11l.length) (i := 1) (v := .str (sOf (spotF Y.I k2)) vt2) (by omega) ev2) ?_; intro o _ sz20 tk20 _
    refine mm [3,3] (lnext_end (it := (sz15 + 1)) (l := (sz10 + 1)) (xs := z10l) (n := z10l.length) (i := 2) (by omega) es0) ?_; intro o x sz21 tk21 _
    refine mm [26] (len_does (l := z7.1) (xs := z7.2) (n := z7.2.length) (m := 2) (by have := hz7.len; have h2 := T.same; rw [natI_len,h2] at this; exact this) (by decide)) ?_; intro o k20 sz22 tk22 _
    refine room_v a0 aD (by omega) (fun o => (codeOf o,sz15,sz22)) (siteF1RY 0 .NotEq 9) (siteF1TY 0 .NotEq 9) (ts [15,1,15,1001,15] <| ts [0,36,0] <| ts [27,11,11,1001,11,1] <| ts [4,4,4] <| ts [] <| ts [1001] <| ts [0,39,0,39,0] <| ts [0] <| ts [39,39] <| tn [] []) (by kernel_rfl) (by kernel_rfl) (by kernel_rfl) (fun p acts h => siteF1_ok p acts h) ?_; intro o
    refine mm [14,0,19,18,9,7,14,14,7,5] (list_ne_does (l := sz15) (r := sz22) (xs := [.ref l12,.ref l13,.int 2 k14]) (ys := [.ref l15,.ref (sz11 + 1),.int (.ofNat 2) k20]) (n := 0) (m := 0) (k := 2) (Z := [(l12,lob [.ref p1,.ref p2] 0),(l13,lob [.str (sOf (spotF Y.I k1)) u1,.str (sOf (spotF Y.I k2)) u2] 2),(l15,lob [.ref sz18,.ref sz20] 4),(sz11 + 1,lob z11l z11l.length),(p1,tob [.str (fm (if par then 2 else 1) (sOf (wf k1))) t1,.str (sOf (spotF Y.I k1)) u1]),(p2,tob [.str (fm (if par then 2 else 1) (sOf (wf k2))) t2,.str (sOf (spotF Y.I k2)) u2]),(sz18,tob [.str (sOf (fm (if par then 2 else 1) (sOf (wf k1))).cps.toList) st1,.str (sOf (spotF Y.I k1)) vt1]),(sz20,tob [.str (sOf (fm (if par then 2 else 1) (sOf (wf k2))).cps.toList) st2,.str (sOf (spotF Y.I k2)) vt2])]) (by omega) (by omega) (EqVs.cons (EqV.lists' (mem_ix 2 rfl) (mem_ix 4 rfl) (EqVs.cons (EqV.tuples' (mem_ix 6 rfl) (mem_ix 8 rfl) (EqVs.cons (EqV.str _ _ _) (EqVs.cons (EqV.str _ _ _) EqVs.nil))) (EqVs.cons (EqV.tuples' (mem_ix 7 rfl) (mem_ix 9 rfl) (EqVs.cons (EqV.str _ _ _) (EqVs.cons (EqV.str _ _ _) EqVs.nil))) EqVs.nil))) (EqVs.cons (EqV.lists' (mem_ix 3 rfl) (mem_ix 5 rfl) (EqVs.strs (ss := [spotF Y.I k1,spotF Y.I k2]) ⟨u1,_,rfl,u2,_,rfl,rfl⟩ hz11)) (EqVs.cons (EqV.int _ _ _) EqVs.nil)))) ?_; intro o _ sz23 tk23 _
    refine mm [] (pretty_does (e := e) (D := D + 50) (F := maskN Y.I.low Y.I.wide ([k1,k2] ++ [k1,k2]) 0) (t := x9.2) (by omega) T.F T.J) ?_; intro o k22 sz24 tk24 _
    refine mm [2,12,1,0,29,30] (duew_all (e := e) (D := D + 50) (C := ⟨sz24,sz24 + 1,sz24 + 2⟩) (fr := fr) (cs := c.c_words) (ll := z7.1) (nl := z7.2.length) (lv := z7.2) (sl := Y.wl) (ns := Y.nw) (sv := Y.wv) (ks := due) (ss := (List.range N).map wf) (by omega) hz7 (by rw [T.same]; simp) W.wv (by have := W.N20; simp; omega) (by simpa using T.dueN)) ?_; intro o z23 sz25 tk25 hz23
    obtain ⟨z23l,z23b⟩ := z23
    obtain ⟨hz23,htz23⟩ := hz23
    simp only at hz23
    obtain ⟨bz23,ez23⟩ := Option.isSome_iff_exists.mp (htz23.1 (by have := T.same; simp at this; omega))
    simp only at ez23
    subst ez23
    refine mm [2] (join_ne (e := e) (D := D + 50) (sep := [44,32]) (ss := due.map fun k => ((List.range N).map wf).getD k []) (t := tk24) (l := (sz24 + 1)) (vs := z23l) (n := z23l.length) (c := c0) (cs := cs0) hz23 T.J2 hj0) ?_; intro o k24 sz26 tk26 _
    refine mm [] (strlen_does (x := sOf (c0 :: cs0)) (t := k24) (m := cs0.length + 1) (by rw [sOf_len]; rfl) (by have := T.J2.b; rw [hj0] at this; exact Nat.lt_of_le_of_lt this (by decide))) ?_; intro o k25 sz27 tk27 _
    refine mm [] (str_ne_does (x := sOf (joinS [44,32] (pfq 32 (maskN Y.I.low Y.I.wide ([k1,k2] ++ [k1,k2]) 0)))) (t := k22) (y := sOf (c0 :: cs0)) (u := k24) (b := true) hsame) ?_; intro o _ sz28 tk28 _
    refine mm [24,24,24,12,12] (hint_2 (e := e) (D := D + 50) (H := K.H) (a := ⟨p1,fm (if par then 2 else 1) (sOf (wf k1)),t1,sOf (spotF Y.I k1),u1⟩) (b := ⟨p2,fm (if par then 2 else 1) (sOf (wf k2)),t2,sOf (spotF Y.I k2),u2⟩) (n := n1) (by omega)) ?_; intro o k26 sz29 tk29 _
    refine mm [] (op_add (e := e) (D := D + 50) (a := .ofNat K.tot) (b := 2) (r := .ofNat (K.tot + 2)) (t := K.tu) (u := k26) (by omega) rfl) ?_; intro o k27 sz30 tk30 _
    exact tailR_w [61,38,28,51,53,53,53,53,46,46,46,46,49,34,30,9,9,27,27,31,31,31,0,0,0,0,0] (fun o => fkOf q.s.e2 (o.ob 38)) (fun F => next F k27 sv1 t0 z7.1 n1 (rn + 2 + ((ms ++ [b]).map sg).length + ((ms ++ [b]).map sg).length) [⟨p1,fm (if par then 2 else 1) (sOf (wf k1)),t1,sOf (spotF Y.I k1),u1⟩,⟨p2,fm (if par then 2 else 1) (sOf (wf k2)),t2,sOf (spotF Y.I k2),u2⟩] hx1)
set_option maxHeartbeats 0 in
theorem f2_1 (s : Sh2) (a0 : Calm A₀ D) (aD : A₀.depth + 100 ≤ recursionLimit) (hD : D + 600 ≤ recursionLimit) (hC : 8 * D + 2000 < cLine) (W : Board e K.h Y wf N ord Q) (T : Turn K.h Y wf N ord b ms par l [k1] due) (hp : (Int.ofNat (i % 2) != 0) = par) (hps : HasPs wf (spotF Y.I) ps l) (hrs : Strs ((ms ++ [b]).map sg) (rq ++ [.str (sOf (sg b)) ts0])) (hj0 : joinS [44,32] (due.map fun k => ((List.range N).map wf).getD k []) = c0 :: cs0) (hsame : same (sOf (joinS [44,32] (pfq 32 (maskN Y.I.low Y.I.wide ([k1] ++ [k1]) 0)))) (sOf (c0 :: cs0)) = true)
    (next : ∀ F tu sv tv dl sc' rn',∀ ps',HasPs wf (spotF Y.I) ps' ([k1].map fun k => (k,if par then 2 else 1)) → DoesR e.G h₀ H₀ A₀ R₀ (lawF2 e.w c fr it) (f2L c fr it { K with tot := K.tot + 1,tu := tu } Y F s.e2 (i + 1) k (QL Q) (nq + 4 * ord.length) (rq ++ [.str (sOf (sg b)) ts0]) rn' (some sv) (some (.int (.ofNat i) tv)) (some (.ref dl)) (K.H.L ps' sc'))) :
    DoesR e.G h₀ H₀ A₀ R₀ (lawF2 e.w c fr it) (f2L c fr it K Y F s.ns i (k + 1) (QL Q) nq (.str (sOf (sg b)) ts0 :: rq) rn sc tc dc (K.H.L ps n)) := by
  have q : TgS s := ⟨⟩
  have hrq : rq.length ≤ 50 := by
    have h1 := hrs.len
    have h2 := T.len
    have h3 := W.mk20
    simp at h1
    omega
  have hks2 : ∀ k ∈ [k1] ++ [k1],k < N := fun k hk => by
    rcases List.mem_append.mp hk with h | h
    · exact T.ksN k h
    · exact T.ksN k h
  cases s
  all_goals
    refine walkR a0 aD (ts [1,1] <| ts [14,14,2,3,3,1001,3,1] <| tn [] []) ?_; intro gd mm sz0 tk0 o
    refine mm [0] (rnext_some (it := it) (i := i) (k := k)) ?_; intro o t0 sz1 tk1 _
    refine meetS (D := D + 50) a0 aD 23 [0,2,1,2,2,2,2,6,6] (f3_all (e := e) (D := D + 50) (c := c) (fr := fr) (it := sz1) (K := K) (Y := ⟨Y.ov,Y.no,Y.X,Y.ln,i,t0⟩) (N := N) (wd := Y.I.wide) (wf := wf) (sf := spotF Y.I) (ord := ord) (Z := Q) (F := F) (ns := q.s.ns3) (ps := ps) (n := n) (sc := sc) (l := l) (lf := [k1].map fun k => (k,(if par then 2 else 1))) (tl := (q.s.t3.map (entF K F))) (nq0 := nq) (par := par) (by omega) (by omega) W.B W.ov W.ordN W.ord20 W.ord0 W.quads hp q.s.h3 hps T.l2 T.lN T.run) (by omega) (by kernel_rfl) (by kernel_rfl) (by kernel_rfl) ?_; intro x1 sz2 tk2 hx1
    obtain ⟨F1,sv1,ps1,n1⟩ := x1
    obtain ⟨⟨p1,y1,t1,v1,u1⟩,e1,ax,av⟩ := hx1.one
    simp only at e1 ax av
    subst e1 ax av
    refine ⟨(ts [16,17,0,0,0,17,0,0,0,17,0,0,0,0,17,18,16,17,0,0,0,17,0,0,0,17,0,0,0,0,17,18,0] <| ts [0] <| ts [6,18,18,1001,18,1] <| ts [11,11,4,4,4,11,3,3,1001,3,1] <| tn [] []),?_⟩; intro o
    refine mm [16,16,16] (getq_does (X := Y.Z) (ln := Y.rln) (xs := rq) (n := rn) (sv := sOf (sg b)) (tv := ts0) (by omega) (Nat.lt_of_le_of_lt hrq (by decide))) ?_; intro o _ sz3 tk3 _
    refine mm [0,0,0] (push_does (X := Y.Z) (ln := Y.rln) (xs := rq) (n := rn + 1) (sv := sOf (sg b)) (tv := ts0) (by omega) (small_size (by omega))) ?_; intro o _ sz4 tk4 _
    refine mm [2,19,1,0,17,0,0,0] (now_all0 (e := e) (D := D + 50) (C := ⟨sz4,sz4 + 1,sz4 + 2⟩) (fr := fr) (cl := c.c_ring) (ll := K.ml) (nl := Y.nm) (lv := Y.mks.map .bool) (X := Y.Z) (ln := Y.rln) (m := rn + 2) (q := (rq ++ [Value.str (sOf (sg b)) ts0])) (bs := Y.mks) (ss := (ms ++ [b]).map sg) (by omega) rfl hrs (by simp [T.len.symm]) (by simp; have := T.len; have := W.mk20; omega)) ?_; intro o z4 sz5 tk5 hz4
    obtain ⟨bz4,rfl⟩ := Option.isSome_iff_exists.mp (hz4.1 (by simp))
    refine meetL_v (D := D + 50) a0 aD [0,2,9,3,3,3,3] (fun o => fkOf q.s.ns4 (o.ob 11)) (fun F4 => f4_all (e := e) (D := D + 50) (c := c) (fr := fr) (it := sz5) (al := sz4 + 1) (K := K) (X := Y.Z) (ln := Y.rln) (nv := (rq ++ [Value.str (sOf (sg b)) ts0])) (nn := (rq ++ [Value.str (sOf (sg b)) ts0]).length) (F := F4) (ns := q.s.ns4) (tl := (q.s.t4.map (entF K F))) (m := rn + 2 + ((ms ++ [b]).map sg).length) (q := []) (ss := (ms ++ [b]).map sg) (by omega) hrs (by simp; have := T.len; have := W.mk20; omega) (by simp) (by simp) q.s.h4) (by omega) (by kernel_rfl) (by kernel_rfl) fun F5 sz6 tk6 _ => ⟨(ts [0,3,2,2,1001,2,1] <| ts [4,4,4,6,33,0] <| ts [28,28,7,7,7,23,0,0,0,23,0,0,0,23,0,0,0,0,23,24,0] <| ts [1,1,1,1,1,1,1,1001,1,1] <| tn [] []),?_⟩; intro o
    refine mm [2,3,1,0] (eq_all2 (e := e) (D := D + 50) (C := ⟨sz6,sz6 + 1,sz6 + 2⟩) (fr := fr) (ll := sz4 + 1) (nl := (rq ++ [Value.str (sOf (sg b)) ts0]).length) (lv := (rq ++ [Value.str (sOf (sg b)) ts0])) (ms := (ms ++ [b])) (by omega) hrs (by have := T.len; have := W.mk20; simp; omega)) ?_; intro o z6 sz7 tk7 hz6
    obtain ⟨bz6,rfl⟩ := Option.isSome_iff_exists.mp (hz6.1 (by simp))
    refine mm [2] (due_does (e := e) (D := D + 50) (ml := sz6 + 1) (bs := (ms ++ [b])) (nm := (ms ++ [b]).length) (h := K.h) (th := K.th) (w := Y.I.wide) (tw := Y.I.tw) (by omega) W.w0 (by have := W.wide; omega) W.h0 W.high T.hw (small_size (by have := T.len; have := W.mk20; simp; omega)) T.rc) ?_; intro o z7 sz8 tk8 hz7
    rw [T.hdue] at hz7
    refine mm [22,22,22,22] (values_1 (e := e) (D := D + 50) (H := K.H) (a := ⟨p1,fm (if par then 2 else 1) (sOf (wf k1)),t1,sOf (spotF Y.I k1),u1⟩) (n := n1) (by omega)) ?_; intro o l8 sz9 tk9 _
    refine meetL_v (D := D + 50) a0 aD [0,0,11,32,32,32] (fun o => (fkOf q.s.ns5 (o.ob 13),maskT (fkOf q.s.ns5 (o.ob 13)))) (fun b => f5_all (e := e) (D := D + 50) (c := c) (fr := fr) (it := sz9 + 1) (al := sz9) (K := K) (I := Y.I) (vv := [.str (sOf (spotF Y.I k1)) u1,.str (sOf (spotF Y.I k1)) u1]) (nn := 0) (F := b.1) (ns := q.s.ns5) (ns' := q.s.ns6) (tl := (q.s.t5.map (entF K F))) (M0 := 0) (tm := b.2) (ks := [k1] ++ [k1]) (by omega) ⟨u1,_,rfl,u1,_,rfl,rfl⟩ (fun k hk => Nat.lt_of_lt_of_le (hks2 k hk) W.N20) W.base W.wide W.low q.s.h5 (fun h => absurd h (by simp))) (by omega) (by kernel_rfl) (by kernel_rfl) fun x9 sz10 tk10 _ => ⟨(ts [3,26,26,1001,26,1] <| ts [12,12,4,4,4,12,2,2,1001,2,1] <| ts [17,17,4,4,4,17,22,0,0,0,22,0,0,0,22,0,0,0,0,22,23,0] <| ts [22,2,0,0,0,2,0,0,0,2,0,0,0,0,2,3,0] <| ts [0,23,0] <| tn [] []),?_⟩; intro o
    refine mm [2,27,1,0,33,30,31,31,11] (sizes_all (e := e) (D := D + 50) (C := ⟨sz10,sz10 + 1,sz10 + 2⟩) (fr := fr) (cw := c.c_words) (ct := c.c_turn) (cd := c.c_due) (ll := K.ol) (nl := Y.no) (lv := Y.ov) (wl := Y.wl) (nw := Y.nw) (wv := Y.wv) (dl := z7.1) (dv := z7.2) (nd := z7.2.length) (m := i) (tx := t0) (N := N) (wf := wf) (ks := ord) (due := due) (par := par) (by omega) W.ov (by have := W.ord20; omega) hz7 W.wv (by have := W.N20; omega) W.ordN hp W.B.fl W.B.fu) ?_; intro o z10 sz11 tk11 hz10
    obtain ⟨z10l,z10b⟩ := z10
    obtain ⟨hz10,htz10⟩ := hz10
    simp only at hz10
    obtain ⟨bz10,ez10⟩ := Option.isSome_iff_exists.mp (htz10.1 W.ord0)
    simp only at ez10
    subst ez10
    rw [T.hks] at hz10
    obtain ⟨st1,es1⟩ := hz10.at (i := 0) rfl
    have ls := hz10.len
    have es0 : z10l[1]? = none := by rw [List.getElem?_eq_none_iff,ls]; simp
    refine mm [2,3,1,0,38,5,37,6] (vals_all (e := e) (D := D + 50) (C := ⟨sz11,sz11 + 1,sz11 + 2⟩) (fr := fr) (cs := c.c_spots) (cd := c.c_due) (ll := K.ol) (nl := Y.no) (lv := Y.ov) (sl := Y.sl) (ns := Y.nz) (sv := Y.sv) (dl := z7.1) (dv := z7.2) (nd := z7.2.length) (N := N) (sf := spotF Y.I) (ks := ord) (due := due) (by omega) W.ov (by have := W.ord20; omega) hz7 W.sv (by have := W.N20; omega) W.ordN) ?_; intro o z11 sz12 tk12 hz11
    obtain ⟨z11l,z11b⟩ := z11
    obtain ⟨hz11,htz11⟩ := hz11
    simp only at hz11
    obtain ⟨bz11,ez11⟩ := Option.isSome_iff_exists.mp (htz11.1 W.ord0)
    simp only at ez11
    subst ez11
    rw [T.hks] at hz11
    obtain ⟨vt1,ev1⟩ := hz11.at (i := 0) rfl
    have lv := hz11.len
    refine mm [21,21,21,21] (items_1 (e := e) (D := D + 50) (H := K.H) (a := ⟨p1,fm (if par then 2 else 1) (sOf (wf k1)),t1,sOf (spotF Y.I k1),u1⟩) (n := n1) (by omega)) ?_; intro o l12 sz13 tk13 _
    refine mm [1,1,1,1] (values_1 (e := e) (D := D + 50) (H := K.H) (a := ⟨p1,fm (if par then 2 else 1) (sOf (wf k1)),t1,sOf (spotF Y.I k1),u1⟩) (n := n1) (by omega)) ?_; intro o l13 sz14 tk14 _
    refine meetT (D := D + 50) a0 aD [1, 1, 1, 1] (hint_1 (e := e) (D := D + 50) (H := K.H) (a := ⟨p1, fm (if par then 2 else 1) (sOf (wf k1)), t1, sOf (spotF Y.I k1), u1⟩) (n := n1) (by omega)) (by omega) (by kernel_rfl) (by kernel_rfl) (fun _ => rfl) fun k14 sz15 tk15 _ => ⟨(tn [0, 0, 0, 0, 24, 24, 17, 17, 1001, 17, 1, 11, 11, 1001, 11, 1, 1, 1, 1, 1] (.rw (tcRw (.type "list") (.ref (sz15 + 5))) :: .stop :: [])), ?_⟩; intro o
    refine meetF (D := D + 50) a0 aD [] (a := sz15 + 5) 0 (by kernel_rfl) (list_new_does (a := .ref (sz15 + 5))) (by omega) (by kernel_rfl) (by kernel_rfl) (fun _ => rfl) fun l15 sz16 tk16 _ hf15 => ⟨(tn [1,1,1] (.rw (initRw l15 (sz15 + 5) (hf15 _ List.mem_cons_self)) :: (ts [1,1,1,1,2,2,2,1001,2,2,2,2,1,1,1,1,1,1,2,2,2,2,4,2,2,2,2,6,6] <| ts [5,5,5,5,7,7] <| ts [7,7,7,7,7,7,7,7,7,6,6,6,7,7,7,7,9,7,1,7,7,7,4,4] <| ts [1,33,0,0,23] <| tn [] [.mid 0]))),?_⟩; intro o
    refine mm [5,21] (lnext_some (it := (sz15 + 1)) (l := (sz10 + 1)) (xs := z10l) (n := z10l.length) (i := 0) (v := .str (sOf (fm (if par then 2 else 1) (sOf (wf k1))).cps.toList) st1) (by omega) es1) ?_; intro o _ sz17 tk17 _
    refine mm [6,15] (lnext_some (it := (sz15 + 2)) (l := (sz11 + 1)) (xs := z11l) (n := z11l.length) (i := 0) (v := .str (sOf (spotF Y.I k1)) vt1) (by omega) ev1) ?_; intro o _ sz18 tk18 _
    refine mm [3,3] (lnext_end (it := (sz15 + 1)) (l := (sz10 + 1)) (xs := z10l) (n := z10l.length) (i := 1) (by omega) es0) ?_; intro o x sz19 tk19 _
    refine mm [24] (len_does (l := z7.1) (xs := z7.2) (n := z7.2.length) (m := 1) (by have := hz7.len; have h2 := T.same; rw [natI_len,h2] at this; exact this) (by decide)) ?_; intro o k18 sz20 tk20 _
    refine room_v a0 aD (by omega) (fun o => (codeOf o,sz15,sz20)) (siteF1RY 0 .NotEq 9) (siteF1TY 0 .NotEq 9) (ts [14,1,14,1001,14] <| ts [0,34,0] <| ts [25,9,9,1001,9,1] <| ts [4,4,4] <| ts [] <| ts [1001] <| ts [0,37,0,37,0] <| ts [0] <| ts [37,37] <| tn [] []) (by kernel_rfl) (by kernel_rfl) (by kernel_rfl) (fun p acts h => siteF1_ok p acts h) ?_; intro o
    refine mm [13,0,17,16,8,7,13,5] (list_ne_does (l := sz15) (r := sz20) (xs := [.ref l12,.ref l13,.int 1 k14]) (ys := [.ref l15,.ref (sz11 + 1),.int (.ofNat 1) k18]) (n := 0) (m := 0) (k := 2) (Z := [(l12,lob [.ref p1] 0),(l13,lob [.str (sOf (spotF Y.I k1)) u1] 1),(l15,lob [.ref sz18] 3),(sz11 + 1,lob z11l z11l.length),(p1,tob [.str (fm (if par then 2 else 1) (sOf (wf k1))) t1,.str (sOf (spotF Y.I k1)) u1]),(sz18,tob [.str (sOf (fm (if par then 2 else 1) (sOf (wf k1))).cps.toList) st1,.str (sOf (spotF Y.I k1)) vt1])]) (by omega) (by omega) (EqVs.cons (EqV.lists' (mem_ix 2 rfl) (mem_ix 4 rfl) (EqVs.cons (EqV.tuples' (mem_ix 6 rfl) (mem_ix 7 rfl) (EqVs.cons (EqV.str _ _ _) (EqVs.cons (EqV.str _ _ _) EqVs.nil))) EqVs.nil)) (EqVs.cons (EqV.lists' (mem_ix 3 rfl) (mem_ix 5 rfl) (EqVs.strs (ss := [spotF Y.I k1]) ⟨u1,_,rfl,rfl⟩ hz11)) (EqVs.cons (EqV.int _ _ _) EqVs.nil)))) ?_; intro o _ sz21 tk21 _
    refine mm [] (pretty_does (e := e) (D := D + 50) (F := maskN Y.I.low Y.I.wide ([k1] ++ [k1]) 0) (t := x9.2) (by omega) T.F T.J) ?_; intro o k20 sz22 tk22 _
    refine mm [2,10,1,0,27,28] (duew_all (e := e) (D := D + 50) (C := ⟨sz22,sz22 + 1,sz22 + 2⟩) (fr := fr) (cs := c.c_words) (ll := z7.1) (nl := z7.2.length) (lv := z7.2) (sl := Y.wl) (ns := Y.nw) (sv := Y.wv) (ks := due) (ss := (List.range N).map wf) (by omega) hz7 (by rw [T.same]; simp) W.wv (by have := W.N20; simp; omega) (by simpa using T.dueN)) ?_; intro o z21 sz23 tk23 hz21
    obtain ⟨z21l,z21b⟩ := z21
    obtain ⟨hz21,htz21⟩ := hz21
    simp only at hz21
    obtain ⟨bz21,ez21⟩ := Option.isSome_iff_exists.mp (htz21.1 (by have := T.same; simp at this; omega))
    simp only at ez21
    subst ez21
    refine mm [2] (join_ne (e := e) (D := D + 50) (sep := [44,32]) (ss := due.map fun k => ((List.range N).map wf).getD k []) (t := tk22) (l := (sz22 + 1)) (vs := z21l) (n := z21l.length) (c := c0) (cs := cs0) hz21 T.J2 hj0) ?_; intro o k22 sz24 tk24 _
    refine mm [] (strlen_does (x := sOf (c0 :: cs0)) (t := k22) (m := cs0.length + 1) (by rw [sOf_len]; rfl) (by have := T.J2.b; rw [hj0] at this; exact Nat.lt_of_le_of_lt this (by decide))) ?_; intro o k23 sz25 tk25 _
    refine mm [] (str_ne_does (x := sOf (joinS [44,32] (pfq 32 (maskN Y.I.low Y.I.wide ([k1] ++ [k1]) 0)))) (t := k20) (y := sOf (c0 :: cs0)) (u := k22) (b := true) hsame) ?_; intro o _ sz26 tk26 _
    refine mm [22,22,22,12] (hint_1 (e := e) (D := D + 50) (H := K.H) (a := ⟨p1,fm (if par then 2 else 1) (sOf (wf k1)),t1,sOf (spotF Y.I k1),u1⟩) (n := n1) (by omega)) ?_; intro o k24 sz27 tk27 _
    refine mm [] (op_add (e := e) (D := D + 50) (a := .ofNat K.tot) (b := 1) (r := .ofNat (K.tot + 1)) (t := K.tu) (u := k24) (by omega) rfl) ?_; intro o k25 sz28 tk28 _
    exact tailR_w [59,36,26,49,51,51,51,51,44,44,44,44,47,32,28,8,8,25,25,29,29,29,0,0,0,0] (fun o => fkOf q.s.e2 (o.ob 36)) (fun F => next F k25 sv1 t0 z7.1 n1 (rn + 2 + ((ms ++ [b]).map sg).length + ((ms ++ [b]).map sg).length) [⟨p1,fm (if par then 2 else 1) (sOf (wf k1)),t1,sOf (spotF Y.I k1),u1⟩] hx1)
theorem f2_z (s : Sh2) (hs : s = .f ∨ s = .b) (a0 : Calm A₀ D) (aD : A₀.depth + 100 ≤ recursionLimit) (hD : D + 600 ≤ recursionLimit) (hC : 8 * D + 2000 < cLine) (W : Board e K.h Y wf N ord Q) (T : Turn K.h Y wf N ord b ms par l [] due) (hp : (Int.ofNat (i % 2) != 0) = par) (hps : HasPs wf (spotF Y.I) ps l) (hrs : Strs ((ms ++ [b]).map sg) (rq ++ [.str (sOf (sg b)) ts0])) (hsame : same (sOf (joinS [44,32] (pfq 32 (0)))) (sOf [48,120,48]) = true)
    (next : ∀ F tu sv tv dl sc' rn',∀ ps',HasPs wf (spotF Y.I) ps' ([].map fun k => (k,if par then 2 else 1)) → DoesR e.G h₀ H₀ A₀ R₀ (lawF2 e.w c fr it) (f2L c fr it { K with tot := K.tot + 0,tu := tu } Y F s.e0 (i + 1) k (QL Q) (nq + 4 * ord.length) (rq ++ [.str (sOf (sg b)) ts0]) rn' (some sv) (some (.int (.ofNat i) tv)) (some (.ref dl)) (K.H.L ps' sc'))) :
    DoesR e.G h₀ H₀ A₀ R₀ (lawF2 e.w c fr it) (f2L c fr it K Y F s.ns i (k + 1) (QL Q) nq (.str (sOf (sg b)) ts0 :: rq) rn sc tc dc (K.H.L ps n)) := by
  have q : TgS s := ⟨⟩
  have hq := hs
  have hrq : rq.length ≤ 50 := by
    have h1 := hrs.len
    have h2 := T.len
    have h3 := W.mk20
    simp at h1
    omega
  have hks2 : ∀ k ∈ ([] : List Nat) ++ [],k < N := fun k hk => nomatch hk
  rcases hs with rfl | rfl
  all_goals
    refine walkR a0 aD (ts [1,1] <| ts [14,14,2,3,3,1001,3,1] <| tn [] []) ?_; intro gd mm sz0 tk0 o
    refine mm [0] (rnext_some (it := it) (i := i) (k := k)) ?_; intro o t0 sz1 tk1 _
    refine meetS (D := D + 50) a0 aD 23 [0,2,1,2,2,2,2,6,6] (f3_all (e := e) (D := D + 50) (c := c) (fr := fr) (it := sz1) (K := K) (Y := ⟨Y.ov,Y.no,Y.X,Y.ln,i,t0⟩) (N := N) (wd := Y.I.wide) (wf := wf) (sf := spotF Y.I) (ord := ord) (Z := Q) (F := F) (ns := q.s.ns3) (ps := ps) (n := n) (sc := sc) (l := l) (lf := [].map fun k => (k,(if par then 2 else 1))) (tl := (q.s.t3.map (entF K F))) (nq0 := nq) (par := par) (by omega) (by omega) W.B W.ov W.ordN W.ord20 W.ord0 W.quads hp q.s.h3 hps T.l2 T.lN T.run) (by omega) (by kernel_rfl) (by kernel_rfl) (by kernel_rfl) ?_; intro x1 sz2 tk2 hx1
    obtain ⟨F1,sv1,ps1,n1⟩ := x1
    have e1 := hx1.nil0
    simp only at e1
    subst e1
    refine ⟨(ts [15,16,0,0,0,16,0,0,0,16,0,0,0,0,16,17,15,16,0,0,0,16,0,0,0,16,0,0,0,0,16,17,0] <| ts [0] <| ts [6,17,17,1001,17,1] <| ts [11,11,4,4,4,11,3,3,1001,3,1] <| tn [] []),?_⟩; intro o
    refine mm [15,15,15] (getq_does (X := Y.Z) (ln := Y.rln) (xs := rq) (n := rn) (sv := sOf (sg b)) (tv := ts0) (by omega) (Nat.lt_of_le_of_lt hrq (by decide))) ?_; intro o _ sz3 tk3 _
    refine mm [0,0,0] (push_does (X := Y.Z) (ln := Y.rln) (xs := rq) (n := rn + 1) (sv := sOf (sg b)) (tv := ts0) (by omega) (small_size (by omega))) ?_; intro o _ sz4 tk4 _
    refine mm [2,18,1,0,16,0,0,0] (now_all0 (e := e) (D := D + 50) (C := ⟨sz4,sz4 + 1,sz4 + 2⟩) (fr := fr) (cl := c.c_ring) (ll := K.ml) (nl := Y.nm) (lv := Y.mks.map .bool) (X := Y.Z) (ln := Y.rln) (m := rn + 2) (q := (rq ++ [Value.str (sOf (sg b)) ts0])) (bs := Y.mks) (ss := (ms ++ [b]).map sg) (by omega) rfl hrs (by simp [T.len.symm]) (by simp; have := T.len; have := W.mk20; omega)) ?_; intro o z4 sz5 tk5 hz4
    obtain ⟨bz4,rfl⟩ := Option.isSome_iff_exists.mp (hz4.1 (by simp))
    refine meetL_v (D := D + 50) a0 aD [0,2,9,3,3,3,3] (fun o => fkOf q.s.ns4 (o.ob 11)) (fun F4 => f4_all (e := e) (D := D + 50) (c := c) (fr := fr) (it := sz5) (al := sz4 + 1) (K := K) (X := Y.Z) (ln := Y.rln) (nv := (rq ++ [Value.str (sOf (sg b)) ts0])) (nn := (rq ++ [Value.str (sOf (sg b)) ts0]).length) (F := F4) (ns := q.s.ns4) (tl := (q.s.t4.map (entF K F))) (m := rn + 2 + ((ms ++ [b]).map sg).length) (q := []) (ss := (ms ++ [b]).map sg) (by omega) hrs (by simp; have := T.len; have := W.mk20; omega) (by simp) (by simp) q.s.h4) (by omega) (by kernel_rfl) (by kernel_rfl) fun F5 sz6 tk6 _ => ⟨(ts [0,3,2,2,1001,2,1] <| ts [4,4,4,6,32,0] <| ts [27,27,7,7,7,23,0,0,0,23,0,0,0,23,0,0,0,0,23,24,0] <| ts [1,1,1,1,1,1,1,1001,1,1] <| tn [] []),?_⟩; intro o
    refine mm [2,3,1,0] (eq_all2 (e := e) (D := D + 50) (C := ⟨sz6,sz6 + 1,sz6 + 2⟩) (fr := fr) (ll := sz4 + 1) (nl := (rq ++ [Value.str (sOf (sg b)) ts0]).length) (lv := (rq ++ [Value.str (sOf (sg b)) ts0])) (ms := (ms ++ [b])) (by omega) hrs (by have := T.len; have := W.mk20; simp; omega)) ?_; intro o z6 sz7 tk7 hz6
    obtain ⟨bz6,rfl⟩ := Option.isSome_iff_exists.mp (hz6.1 (by simp))
    refine mm [2] (due_does (e := e) (D := D + 50) (ml := sz6 + 1) (bs := (ms ++ [b])) (nm := (ms ++ [b]).length) (h := K.h) (th := K.th) (w := Y.I.wide) (tw := Y.I.tw) (by omega) W.w0 (by have := W.wide; omega) W.h0 W.high T.hw (small_size (by have := T.len; have := W.mk20; simp; omega)) T.rc) ?_; intro o z7 sz8 tk8 hz7
    rw [T.hdue] at hz7
    refine mm [22,22,22] (values_0 (e := e) (D := D + 50) (H := K.H) (n := n1) (by omega)) ?_; intro o l8 sz9 tk9 _
    refine meetL_v (D := D + 50) a0 aD [0,0,10,31,31,31] (fun o => (fkOf q.s.ns5 (o.ob 12),maskT (fkOf q.s.ns5 (o.ob 12)))) (fun b => f5_nil q.s hq (e := e) (D := D + 50) (c := c) (fr := fr) (it := sz9 + 1) (al := sz9) (K := K) (I := Y.I) (vv := []) (nn := 0) (F := b.1) (tl := []) (M0 := 0) (tm := b.2) (by omega) rfl) (by omega) (by kernel_rfl) (by kernel_rfl) fun x9 sz10 tk10 _ => ⟨(ts [3,25,25,1001,25,1] <| ts [12,12,4,4,4,12,2,2,1001,2,1] <| ts [17,17,4,4,4,17,22,0,0,0,22,0,0,0,22,0,0,0,0,22,23,0] <| ts [21,2,0,0,0,2,0,0,0,2,0,0,0,0,2,3,0] <| ts [0,22,0] <| tn [] []),?_⟩; intro o
    refine mm [2,26,1,0,32,29,30,30,10] (sizes_all (e := e) (D := D + 50) (C := ⟨sz10,sz10 + 1,sz10 + 2⟩) (fr := fr) (cw := c.c_words) (ct := c.c_turn) (cd := c.c_due) (ll := K.ol) (nl := Y.no) (lv := Y.ov) (wl := Y.wl) (nw := Y.nw) (wv := Y.wv) (dl := z7.1) (dv := z7.2) (nd := z7.2.length) (m := i) (tx := t0) (N := N) (wf := wf) (ks := ord) (due := due) (par := par) (by omega) W.ov (by have := W.ord20; omega) hz7 W.wv (by have := W.N20; omega) W.ordN hp W.B.fl W.B.fu) ?_; intro o z10 sz11 tk11 hz10
    obtain ⟨z10l,z10b⟩ := z10
    obtain ⟨hz10,htz10⟩ := hz10
    simp only at hz10
    obtain ⟨bz10,ez10⟩ := Option.isSome_iff_exists.mp (htz10.1 W.ord0)
    simp only at ez10
    subst ez10
    rw [T.hks] at hz10
    have ls := hz10.len
    have es0 : z10l[0]? = none := by rw [List.getElem?_eq_none_iff,ls]; simp
    refine mm [2,3,1,0,37,5,36,6] (vals_all (e := e) (D := D + 50) (C := ⟨sz11,sz11 + 1,sz11 + 2⟩) (fr := fr) (cs := c.c_spots) (cd := c.c_due) (ll := K.ol) (nl := Y.no) (lv := Y.ov) (sl := Y.sl) (ns := Y.nz) (sv := Y.sv) (dl := z7.1) (dv := z7.2) (nd := z7.2.length) (N := N) (sf := spotF Y.I) (ks := ord) (due := due) (by omega) W.ov (by have := W.ord20; omega) hz7 W.sv (by have := W.N20; omega) W.ordN) ?_; intro o z11 sz12 tk12 hz11
    obtain ⟨z11l,z11b⟩ := z11
    obtain ⟨hz11,htz11⟩ := hz11
    simp only at hz11
    obtain ⟨bz11,ez11⟩ := Option.isSome_iff_exists.mp (htz11.1 W.ord0)
    simp only at ez11
    subst ez11
    rw [T.hks] at hz11
    have lv := hz11.len
    refine mm [21,21,21] (items_0 (e := e) (D := D + 50) (H := K.H) (n := n1) (by omega)) ?_; intro o l12 sz13 tk13 _
    refine mm [1,1,1] (values_0 (e := e) (D := D + 50) (H := K.H) (n := n1) (by omega)) ?_; intro o l13 sz14 tk14 _
    refine meetT (D := D + 50) a0 aD [1, 1, 1] (hint_0 (e := e) (D := D + 50) (H := K.H) (n := n1) (by omega)) (by omega) (by kernel_rfl) (by kernel_rfl) (fun _ => rfl) fun k14 sz15 tk15 _ => ⟨(tn [0, 0, 0, 0, 23, 23, 16, 16, 1001, 16, 1, 10, 10, 1001, 10, 1, 1, 1, 1, 1] (.rw (tcRw (.type "list") (.ref (sz15 + 5))) :: .stop :: [])), ?_⟩; intro o
    refine meetF (D := D + 50) a0 aD [] (a := sz15 + 5) 0 (by kernel_rfl) (list_new_does (a := .ref (sz15 + 5))) (by omega) (by kernel_rfl) (by kernel_rfl) (fun _ => rfl) fun l15 sz16 tk16 _ hf15 => ⟨(tn [1,1,1] (.rw (initRw l15 (sz15 + 5) (hf15 _ List.mem_cons_self)) :: (ts [1,1,1,1,2,2,2,1001,2,2,2,2,1,1,1,1,1,1,2,2,2,2,4,2,2,2,2,6,6] <| ts [6,6,1,31,0,0,21] <| tn [] [.mid 0]))),?_⟩; intro o
    refine mm [5,20] (lnext_end (it := (sz15 + 1)) (l := (sz10 + 1)) (xs := z10l) (n := z10l.length) (i := 0) (by omega) es0) ?_; intro o x sz17 tk17 _
    refine mm [22] (len_does (l := z7.1) (xs := z7.2) (n := z7.2.length) (m := 0) (by have := hz7.len; have h2 := T.same; rw [natI_len,h2] at this; exact this) (by decide)) ?_; intro o k16 sz18 tk18 _
    refine room_v a0 aD (by omega) (fun o => (codeOf o,sz15,sz18)) (siteF1RY 0 .NotEq 9) (siteF1TY 0 .NotEq 9) (ts [12,1,12,1001,12] <| ts [0,32,0] <| ts [23,7,7,1001,7,1] <| ts [4] <| ts [] <| ts [1001] <| ts [0,35,0,35,0] <| ts [0] <| ts [35,35] <| tn [] []) (by kernel_rfl) (by kernel_rfl) (by kernel_rfl) (fun p acts h => siteF1_ok p acts h) ?_; intro o
    refine mm [11,0,14,13,5,14] (list_ne_does (l := sz15) (r := sz18) (xs := [.ref l12,.ref l13,.int 0 k14]) (ys := [.ref l15,.ref (sz11 + 1),.int (.ofNat 0) k16]) (n := 0) (m := 0) (k := 2) (Z := [(l12,lob [] 0),(l13,lob [] 0),(l15,lob [] 2),(sz11 + 1,lob z11l z11l.length)]) (by omega) (by omega) (EqVs.cons (EqV.lists' (mem_ix 2 rfl) (mem_ix 4 rfl) (EqVs.nil (k := 1))) (EqVs.cons (EqV.lists' (mem_ix 3 rfl) (mem_ix 5 rfl) (EqVs.strs (ss := []) rfl hz11)) (EqVs.cons (EqV.int _ _ _) EqVs.nil)))) ?_; intro o _ sz19 tk19 _
    refine mm [] (pretty_does (e := e) (D := D + 50) (F := 0) (t := x9.2) (by omega) T.F T.J) ?_; intro o k18 sz20 tk20 _
    refine mm [2,8,1,0,25,26] (duew_all (e := e) (D := D + 50) (C := ⟨sz20,sz20 + 1,sz20 + 2⟩) (fr := fr) (cs := c.c_words) (ll := z7.1) (nl := z7.2.length) (lv := z7.2) (sl := Y.wl) (ns := Y.nw) (sv := Y.wv) (ks := due) (ss := (List.range N).map wf) (by omega) hz7 (by rw [T.same]; simp) W.wv (by have := W.N20; simp; omega) (by simpa using T.dueN)) ?_; intro o z19 sz21 tk21 hz19
    obtain ⟨z19l,z19b⟩ := z19
    obtain ⟨hz19,htz19⟩ := hz19
    simp only at hz19
    have ez19 := htz19.2 (by have := T.same; simpa using this)
    simp only at ez19
    subst ez19
    refine mm [2] (join_nil (e := e) (D := D + 50) (sep := [44,32]) (ss := due.map fun k => ((List.range N).map wf).getD k []) (t := tk20) (l := (sz20 + 1)) (vs := z19l) (n := z19l.length) hz19 (by simpa using T.same)) ?_; intro o k20 sz22 tk22 _
    refine mm [] (strlen_does (x := sOf []) (t := k20) (m := 0) rfl (by decide)) ?_; intro o k21 sz23 tk23 _
    refine mm [] (str_ne_does (x := sOf (joinS [44,32] (pfq 32 (0)))) (t := k18) (y := sOf [48,120,48]) (u := tk23) (b := true) hsame) ?_; intro o _ sz24 tk24 _
    refine mm [20,20,20] (hint_0 (e := e) (D := D + 50) (H := K.H) (n := n1) (by omega)) ?_; intro o k22 sz25 tk25 _
    refine mm [] (op_add (e := e) (D := D + 50) (a := .ofNat K.tot) (b := 0) (r := .ofNat (K.tot + 0)) (t := K.tu) (u := k22) (by omega) rfl) ?_; intro o k23 sz26 tk26 _
    exact tailR_w [57,34,24,47,49,49,49,49,42,42,42,42,45,30,26,7,7,23,23,27,27,27,0,0,0] (fun o => fkOf q.s.e0 (o.ob 34)) (fun F => next F k23 sv1 t0 z7.1 n1 (rn + 2 + ((ms ++ [b]).map sg).length + ((ms ++ [b]).map sg).length) [] hx1)
theorem f2_y (s : Sh2) (hs : s = .a ∨ s = .c) (a0 : Calm A₀ D) (aD : A₀.depth + 100 ≤ recursionLimit) (hD : D + 600 ≤ recursionLimit) (hC : 8 * D + 2000 < cLine) (W : Board e K.h Y wf N ord Q) (T : Turn K.h Y wf N ord b ms par l [] due) (hp : (Int.ofNat (i % 2) != 0) = par) (hps : HasPs wf (spotF Y.I) ps l) (hrs : Strs ((ms ++ [b]).map sg) (rq ++ [.str (sOf (sg b)) ts0])) (hsame : same (sOf (joinS [44,32] (pfq 32 (maskN Y.I.low Y.I.wide ([] ++ []) 0)))) (sOf [48,120,48]) = true)
    (next : ∀ F tu sv tv dl sc' rn',∀ ps',HasPs wf (spotF Y.I) ps' ([].map fun k => (k,if par then 2 else 1)) → DoesR e.G h₀ H₀ A₀ R₀ (lawF2 e.w c fr it) (f2L c fr it { K with tot := K.tot + 0,tu := tu } Y F s.e0 (i + 1) k (QL Q) (nq + 4 * ord.length) (rq ++ [.str (sOf (sg b)) ts0]) rn' (some sv) (some (.int (.ofNat i) tv)) (some (.ref dl)) (K.H.L ps' sc'))) :
    DoesR e.G h₀ H₀ A₀ R₀ (lawF2 e.w c fr it) (f2L c fr it K Y F s.ns i (k + 1) (QL Q) nq (.str (sOf (sg b)) ts0 :: rq) rn sc tc dc (K.H.L ps n)) := by
  have q : TgS s := ⟨⟩
  have hq := hs
  have hrq : rq.length ≤ 50 := by
    have h1 := hrs.len
    have h2 := T.len
    have h3 := W.mk20
    simp at h1
    omega
  have hks2 : ∀ k ∈ ([] : List Nat) ++ [],k < N := fun k hk => nomatch hk
  rcases hs with rfl | rfl
  all_goals
    refine walkR a0 aD (ts [1,1] <| ts [14,14,2,3,3,1001,3,1] <| tn [] []) ?_; intro gd mm sz0 tk0 o
    refine mm [0] (rnext_some (it := it) (i := i) (k := k)) ?_; intro o t0 sz1 tk1 _
    refine meetS (D := D + 50) a0 aD 23 [0,2,1,2,2,2,2,6,6] (f3_all (e := e) (D := D + 50) (c := c) (fr := fr) (it := sz1) (K := K) (Y := ⟨Y.ov,Y.no,Y.X,Y.ln,i,t0⟩) (N := N) (wd := Y.I.wide) (wf := wf) (sf := spotF Y.I) (ord := ord) (Z := Q) (F := F) (ns := q.s.ns3) (ps := ps) (n := n) (sc := sc) (l := l) (lf := [].map fun k => (k,(if par then 2 else 1))) (tl := (q.s.t3.map (entF K F))) (nq0 := nq) (par := par) (by omega) (by omega) W.B W.ov W.ordN W.ord20 W.ord0 W.quads hp q.s.h3 hps T.l2 T.lN T.run) (by omega) (by kernel_rfl) (by kernel_rfl) (by kernel_rfl) ?_; intro x1 sz2 tk2 hx1
    obtain ⟨F1,sv1,ps1,n1⟩ := x1
    have e1 := hx1.nil0
    simp only at e1
    subst e1
    refine ⟨(ts [15,16,0,0,0,16,0,0,0,16,0,0,0,0,16,17,15,16,0,0,0,16,0,0,0,16,0,0,0,0,16,17,0] <| ts [0] <| ts [6,17,17,1001,17,1] <| ts [11,11,4,4,4,11,3,3,1001,3,1] <| tn [] []),?_⟩; intro o
    refine mm [15,15,15] (getq_does (X := Y.Z) (ln := Y.rln) (xs := rq) (n := rn) (sv := sOf (sg b)) (tv := ts0) (by omega) (Nat.lt_of_le_of_lt hrq (by decide))) ?_; intro o _ sz3 tk3 _
    refine mm [0,0,0] (push_does (X := Y.Z) (ln := Y.rln) (xs := rq) (n := rn + 1) (sv := sOf (sg b)) (tv := ts0) (by omega) (small_size (by omega))) ?_; intro o _ sz4 tk4 _
    refine mm [2,18,1,0,16,0,0,0] (now_all0 (e := e) (D := D + 50) (C := ⟨sz4,sz4 + 1,sz4 + 2⟩) (fr := fr) (cl := c.c_ring) (ll := K.ml) (nl := Y.nm) (lv := Y.mks.map .bool) (X := Y.Z) (ln := Y.rln) (m := rn + 2) (q := (rq ++ [Value.str (sOf (sg b)) ts0])) (bs := Y.mks) (ss := (ms ++ [b]).map sg) (by omega) rfl hrs (by simp [T.len.symm]) (by simp; have := T.len; have := W.mk20; omega)) ?_; intro o z4 sz5 tk5 hz4
    obtain ⟨bz4,rfl⟩ := Option.isSome_iff_exists.mp (hz4.1 (by simp))
    refine meetL_v (D := D + 50) a0 aD [0,2,9,3,3,3,3] (fun o => fkOf q.s.ns4 (o.ob 11)) (fun F4 => f4_all (e := e) (D := D + 50) (c := c) (fr := fr) (it := sz5) (al := sz4 + 1) (K := K) (X := Y.Z) (ln := Y.rln) (nv := (rq ++ [Value.str (sOf (sg b)) ts0])) (nn := (rq ++ [Value.str (sOf (sg b)) ts0]).length) (F := F4) (ns := q.s.ns4) (tl := (q.s.t4.map (entF K F))) (m := rn + 2 + ((ms ++ [b]).map sg).length) (q := []) (ss := (ms ++ [b]).map sg) (by omega) hrs (by simp; have := T.len; have := W.mk20; omega) (by simp) (by simp) q.s.h4) (by omega) (by kernel_rfl) (by kernel_rfl) fun F5 sz6 tk6 _ => ⟨(ts [0,3,2,2,1001,2,1] <| ts [4,4,4,6,32,0] <| ts [27,27,7,7,7,23,0,0,0,23,0,0,0,23,0,0,0,0,23,24,0] <| ts [1,1,1,1,1,1,1,1001,1,1] <| tn [] []),?_⟩; intro o
    refine mm [2,3,1,0] (eq_all2 (e := e) (D := D + 50) (C := ⟨sz6,sz6 + 1,sz6 + 2⟩) (fr := fr) (ll := sz4 + 1) (nl := (rq ++ [Value.str (sOf (sg b)) ts0]).length) (lv := (rq ++ [Value.str (sOf (sg b)) ts0])) (ms := (ms ++ [b])) (by omega) hrs (by have := T.len; have := W.mk20; simp; omega)) ?_; intro o z6 sz7 tk7 hz6
    obtain ⟨bz6,rfl⟩ := Option.isSome_iff_exists.mp (hz6.1 (by simp))
    refine mm [2] (due_does (e := e) (D := D + 50) (ml := sz6 + 1) (bs := (ms ++ [b])) (nm := (ms ++ [b]).length) (h := K.h) (th := K.th) (w := Y.I.wide) (tw := Y.I.tw) (by omega) W.w0 (by have := W.wide; omega) W.h0 W.high T.hw (small_size (by have := T.len; have := W.mk20; simp; omega)) T.rc) ?_; intro o z7 sz8 tk8 hz7
    rw [T.hdue] at hz7
    refine mm [22,22,22] (values_0 (e := e) (D := D + 50) (H := K.H) (n := n1) (by omega)) ?_; intro o l8 sz9 tk9 _
    refine meetL_v (D := D + 50) a0 aD [0,0,10,31,31,31] (fun o => (fkOf q.s.ns5 (o.ob 12),maskT (fkOf q.s.ns5 (o.ob 12)))) (fun b => f5_all (e := e) (D := D + 50) (c := c) (fr := fr) (it := sz9 + 1) (al := sz9) (K := K) (I := Y.I) (vv := []) (nn := 0) (F := b.1) (ns := q.s.ns5) (ns' := q.s.ns6) (tl := (q.s.t5.map (entF K F))) (M0 := 0) (tm := b.2) (ks := [] ++ []) (by omega) (by simp [Strs]) (fun k hk => Nat.lt_of_lt_of_le (hks2 k hk) W.N20) W.base W.wide W.low q.s.h5 (fun _ => q.s.h6 hq)) (by omega) (by kernel_rfl) (by kernel_rfl) fun x9 sz10 tk10 _ => ⟨(ts [3,25,25,1001,25,1] <| ts [12,12,4,4,4,12,2,2,1001,2,1] <| ts [17,17,4,4,4,17,22,0,0,0,22,0,0,0,22,0,0,0,0,22,23,0] <| ts [21,2,0,0,0,2,0,0,0,2,0,0,0,0,2,3,0] <| ts [0,22,0] <| tn [] []),?_⟩; intro o
    refine mm [2,26,1,0,32,29,30,30,10] (sizes_all (e := e) (D := D + 50) (C := ⟨sz10,sz10 + 1,sz10 + 2⟩) (fr := fr) (cw := c.c_words) (ct := c.c_turn) (cd := c.c_due) (ll := K.ol) (nl := Y.no) (lv := Y.ov) (wl := Y.wl) (nw := Y.nw) (wv := Y.wv) (dl := z7.1) (dv := z7.2) (nd := z7.2.length) (m := i) (tx := t0) (N := N) (wf := wf) (ks := ord) (due := due) (par := par) (by omega) W.ov (by have := W.ord20; omega) hz7 W.wv (by have := W.N20; omega) W.ordN hp W.B.fl W.B.fu) ?_; intro o z10 sz11 tk11 hz10
    obtain ⟨z10l,z10b⟩ := z10
    obtain ⟨hz10,htz10⟩ := hz10
    simp only at hz10
    obtain ⟨bz10,ez10⟩ := Option.isSome_iff_exists.mp (htz10.1 W.ord0)
    simp only at ez10
    subst ez10
    rw [T.hks] at hz10
    have ls := hz10.len
    have es0 : z10l[0]? = none := by rw [List.getElem?_eq_none_iff,ls]; simp
    refine mm [2,3,1,0,37,5,36,6] (vals_all (e := e) (D := D + 50) (C := ⟨sz11,sz11 + 1,sz11 + 2⟩) (fr := fr) (cs := c.c_spots) (cd := c.c_due) (ll := K.ol) (nl := Y.no) (lv := Y.ov) (sl := Y.sl) (ns := Y.nz) (sv := Y.sv) (dl := z7.1) (dv := z7.2) (nd := z7.2.length) (N := N) (sf := spotF Y.I) (ks := ord) (due := due) (by omega) W.ov (by have := W.ord20; omega) hz7 W.sv (by have := W.N20; omega) W.ordN) ?_; intro o z11 sz12 tk12 hz11
    obtain ⟨z11l,z11b⟩ := z11
    obtain ⟨hz11,htz11⟩ := hz11
    simp only at hz11
    obtain ⟨bz11,ez11⟩ := Option.isSome_iff_exists.mp (htz11.1 W.ord0)
    simp only at ez11
    subst ez11
    rw [T.hks] at hz11
    have lv := hz11.len
    refine mm [21,21,21] (items_0 (e := e) (D := D + 50) (H := K.H) (n := n1) (by omega)) ?_; intro o l12 sz13 tk13 _
    refine mm [1,1,1] (values_0 (e := e) (D := D + 50) (H := K.H) (n := n1) (by omega)) ?_; intro o l13 sz14 tk14 _
    refine meetT (D := D + 50) a0 aD [1, 1, 1] (hint_0 (e := e) (D := D + 50) (H := K.H) (n := n1) (by omega)) (by omega) (by kernel_rfl) (by kernel_rfl) (fun _ => rfl) fun k14 sz15 tk15 _ => ⟨(tn [0, 0, 0, 0, 23, 23, 16, 16, 1001, 16, 1, 10, 10, 1001, 10, 1, 1, 1, 1, 1] (.rw (tcRw (.type "list") (.ref (sz15 + 5))) :: .stop :: [])), ?_⟩; intro o
    refine meetF (D := D + 50) a0 aD [] (a := sz15 + 5) 0 (by kernel_rfl) (list_new_does (a := .ref (sz15 + 5))) (by omega) (by kernel_rfl) (by kernel_rfl) (fun _ => rfl) fun l15 sz16 tk16 _ hf15 => ⟨(tn [1,1,1] (.rw (initRw l15 (sz15 + 5) (hf15 _ List.mem_cons_self)) :: (ts [1,1,1,1,2,2,2,1001,2,2,2,2,1,1,1,1,1,1,2,2,2,2,4,2,2,2,2,6,6] <| ts [6,6,1,31,0,0,21] <| tn [] [.mid 0]))),?_⟩; intro o
    refine mm [5,20] (lnext_end (it := (sz15 + 1)) (l := (sz10 + 1)) (xs := z10l) (n := z10l.length) (i := 0) (by omega) es0) ?_; intro o x sz17 tk17 _
    refine mm [22] (len_does (l := z7.1) (xs := z7.2) (n := z7.2.length) (m := 0) (by have := hz7.len; have h2 := T.same; rw [natI_len,h2] at this; exact this) (by decide)) ?_; intro o k16 sz18 tk18 _
    refine room_v a0 aD (by omega) (fun o => (codeOf o,sz15,sz18)) (siteF1RY 0 .NotEq 9) (siteF1TY 0 .NotEq 9) (ts [12,1,12,1001,12] <| ts [0,32,0] <| ts [23,7,7,1001,7,1] <| ts [4] <| ts [] <| ts [1001] <| ts [0,35,0,35,0] <| ts [0] <| ts [35,35] <| tn [] []) (by kernel_rfl) (by kernel_rfl) (by kernel_rfl) (fun p acts h => siteF1_ok p acts h) ?_; intro o
    refine mm [11,0,14,13,5,14] (list_ne_does (l := sz15) (r := sz18) (xs := [.ref l12,.ref l13,.int 0 k14]) (ys := [.ref l15,.ref (sz11 + 1),.int (.ofNat 0) k16]) (n := 0) (m := 0) (k := 2) (Z := [(l12,lob [] 0),(l13,lob [] 0),(l15,lob [] 2),(sz11 + 1,lob z11l z11l.length)]) (by omega) (by omega) (EqVs.cons (EqV.lists' (mem_ix 2 rfl) (mem_ix 4 rfl) (EqVs.nil (k := 1))) (EqVs.cons (EqV.lists' (mem_ix 3 rfl) (mem_ix 5 rfl) (EqVs.strs (ss := []) rfl hz11)) (EqVs.cons (EqV.int _ _ _) EqVs.nil)))) ?_; intro o _ sz19 tk19 _
    refine mm [] (pretty_does (e := e) (D := D + 50) (F := maskN Y.I.low Y.I.wide ([] ++ []) 0) (t := x9.2) (by omega) T.F T.J) ?_; intro o k18 sz20 tk20 _
    refine mm [2,8,1,0,25,26] (duew_all (e := e) (D := D + 50) (C := ⟨sz20,sz20 + 1,sz20 + 2⟩) (fr := fr) (cs := c.c_words) (ll := z7.1) (nl := z7.2.length) (lv := z7.2) (sl := Y.wl) (ns := Y.nw) (sv := Y.wv) (ks := due) (ss := (List.range N).map wf) (by omega) hz7 (by rw [T.same]; simp) W.wv (by have := W.N20; simp; omega) (by simpa using T.dueN)) ?_; intro o z19 sz21 tk21 hz19
    obtain ⟨z19l,z19b⟩ := z19
    obtain ⟨hz19,htz19⟩ := hz19
    simp only at hz19
    have ez19 := htz19.2 (by have := T.same; simpa using this)
    simp only at ez19
    subst ez19
    refine mm [2] (join_nil (e := e) (D := D + 50) (sep := [44,32]) (ss := due.map fun k => ((List.range N).map wf).getD k []) (t := tk20) (l := (sz20 + 1)) (vs := z19l) (n := z19l.length) hz19 (by simpa using T.same)) ?_; intro o k20 sz22 tk22 _
    refine mm [] (strlen_does (x := sOf []) (t := k20) (m := 0) rfl (by decide)) ?_; intro o k21 sz23 tk23 _
    refine mm [] (str_ne_does (x := sOf (joinS [44,32] (pfq 32 (maskN Y.I.low Y.I.wide ([] ++ []) 0)))) (t := k18) (y := sOf [48,120,48]) (u := tk23) (b := true) hsame) ?_; intro o _ sz24 tk24 _
    refine mm [20,20,20] (hint_0 (e := e) (D := D + 50) (H := K.H) (n := n1) (by omega)) ?_; intro o k22 sz25 tk25 _
    refine mm [] (op_add (e := e) (D := D + 50) (a := .ofNat K.tot) (b := 0) (r := .ofNat (K.tot + 0)) (t := K.tu) (u := k22) (by omega) rfl) ?_; intro o k23 sz26 tk26 _
    exact tailR_w [57,34,24,47,49,49,49,49,42,42,42,42,45,30,26,7,7,23,23,27,27,27,0,0,0] (fun o => fkOf q.s.e0 (o.ob 34)) (fun F => next F k23 sv1 t0 z7.1 n1 (rn + 2 + ((ms ++ [b]).map sg).length + ((ms ++ [b]).map sg).length) [] hx1)
theorem f2_end {S : Led} (a0 : Calm A₀ D) (aD : A₀.depth + 100 ≤ recursionLimit) (hD : D + 600 ≤ recursionLimit) {ns : List Nat} {q : List Value}
    (fin : ∀ h tk sz,Rep e.G h₀ H₀ h (f2L c fr it K Y F ns i 0 q nq rq rn sc tc dc []) sz → R₀ (.ok .next) (e.G.sh h tk)) :
    DoesR e.G h₀ H₀ A₀ R₀ (lawF2 e.w c fr it) (f2L c fr it K Y F ns i 0 q nq rq rn sc tc dc S) := by
  refine walkR a0 aD (tn [1,1,1,1,1,1] []) ?_; intro gd mm sz0 tk0 o
  exact retR [2,2,2,2,2,2,2,2,2,2,2,2,2,2,2,2,2,2,2,2,2,2] fin
end
end Mine
end
section
open PySem PySem.W PySem.W.X PyProof.Rows
set_option genInjectivity false
set_option genCtorIdx false
set_option backward.match.sparseCases false
namespace Mine
noncomputable def TextOk (Y : Gd) (wf : Nat → List Nat) (N : Nat) (ks due : List Nat) : Prop :=
  (ks = [] ∧ same (sOf (joinS [44,32] (pfq 32 0))) (sOf [48,120,48]) = true) ∨
  (∃ c0 cs0,joinS [44,32] (due.map fun k => ((List.range N).map wf).getD k []) = c0 :: cs0 ∧ same (sOf (joinS [44,32] (pfq 32 (maskN Y.I.low Y.I.wide (ks ++ ks) 0)))) (sOf (c0 :: cs0)) = true) ∧ ks ≠ []
noncomputable def Runs (h : Nat) (Y : Gd) (wf : Nat → List Nat) (N : Nat) (ord : List Nat) (tF : Nat) (mF : List Bool) : Nat → Nat → List Bool → List (Nat × Nat) → Nat → Prop
  | 0,_,ms,_,tot => tot = tF ∧ ms = mF
  | m + 1,i,ms0,l,tot => match ms0 with
    | [] => False
    | b :: ms => ∃ ks due,ks.length ≤ 2 ∧ Turn h Y wf N ord b ms (Int.ofNat (i % 2) != 0) l ks due ∧ TextOk Y wf N ks due ∧
      Runs h Y wf N ord tF mF m (i + 1) (ms ++ [b]) (ks.map fun k => (k,if (Int.ofNat (i % 2) != 0) then 2 else 1)) (tot + ks.length)
noncomputable def ShF (ns : List Nat) : Prop := ns = nsA ∨ ns = ns5d ∨ ns = ns5c
structure F2o where
  F : Fk
  ns : List Nat
  tu : Tok
  nq : Nat
  rq : List Value
  rn : Nat
  sc : Option Value
  tc : Option Value
  dc : Option Value
section
variable {e : Env0} {D : Nat} {c : Ck} {fr it : Addr} {K : Lk} {Y : Gd} {N : Nat} {wf : Nat → List Nat} {ord : List Nat} {Q : List Quad} {tF T : Nat} {mF : List Bool}
theorem f2_go {h₀ : Heap} {H₀ : List Addr} {A₀ : Around} {R₀ : Result → Shared → Prop} (a0 : Calm A₀ D) (aD : A₀.depth + 100 ≤ recursionLimit) (hD : D + 600 ≤ recursionLimit) (hC : 8 * D + 2000 < cLine) (W : Board e K.h Y wf N ord Q)
    (fin : ∀ (x : F2o) h tk sz,ShF x.ns → Strs (mF.map sg) x.rq → Rep e.G h₀ H₀ h (f2L c fr it { K with tot := tF,tu := x.tu } Y x.F x.ns T 0 (QL Q) x.nq x.rq x.rn x.sc x.tc x.dc []) sz → R₀ (.ok .next) (e.G.sh h tk)) :
    ∀ (m i : Nat) (tot : Nat) (tu : Tok) (F : Fk) (ns : List Nat) (ms : List Bool) (l : List (Nat × Nat)) (ps : List Pair) (n nq : Nat) (rq : List Value) (rn : Nat) (sc tc dc : Option Value),i + m = T →
      (ShF ns ∨ 0 < m ∧ ns = ns0 ++ [12]) → HasPs wf (spotF Y.I) ps l → Strs (ms.map sg) rq → Runs K.h Y wf N ord tF mF m i ms l tot →
      DoesR e.G h₀ H₀ A₀ R₀ (lawF2 e.w c fr it) (f2L c fr it { K with tot := tot,tu := tu } Y F ns i m (QL Q) nq rq rn sc tc dc (K.H.L ps n))
  | 0,i,tot,tu,F,ns,ms,l,ps,n,nq,rq,rn,sc,tc,dc,hi,hns,hps,hrq,hrun => by
    have hns' : ShF ns := by rcases hns with h | h; exact h; exact absurd h.1 (Nat.lt_irrefl _)
    obtain ⟨rfl,rfl⟩ := hrun
    obtain rfl : i = T := by omega
    exact f2_end a0 aD hD fun h tk sz Dh => fin ⟨F,ns,tu,nq,rq,rn,sc,tc,dc⟩ h tk sz hns' hrq Dh
  | m + 1,i,tot,tu,F,ns,ms0,l,ps,n,nq,rq,rn,sc,tc,dc,hi,hns,hps,hrq,hrun => by
    match ms0,hrq,hrun with
    | b :: ms,hrq,hrun =>
      obtain ⟨ks,due,h2,Tn,Tx,hrun'⟩ := hrun
      obtain ⟨ts0,rq',rfl,hrq'⟩ := hrq
      have hrs : Strs ((ms ++ [b]).map sg) (rq' ++ [.str (sOf (sg b)) ts0]) := by
        rw [List.map_append]; exact Strs.snoc hrq'
      have go : ∀ F tu sv tv dl sc' rn' ns',ShF ns' → ∀ ps',HasPs wf (spotF Y.I) ps' (ks.map fun k => (k,if (Int.ofNat (i % 2) != 0) then 2 else 1)) →
          DoesR e.G h₀ H₀ A₀ R₀ (lawF2 e.w c fr it) (f2L c fr it { K with tot := tot + ks.length,tu := tu } Y F ns' (i + 1) m (QL Q) (nq + 4 * ord.length) (rq' ++ [.str (sOf (sg b)) ts0]) rn' (some sv) (some (.int (.ofNat i) tv)) (some (.ref dl)) (K.H.L ps' sc')) :=
        fun F tu sv tv dl sc' rn' ns' hs ps' hp => f2_go a0 aD hD hC W fin m (i + 1) (tot + ks.length) tu F ns' (ms ++ [b]) _ ps' sc' (nq + 4 * ord.length) _ rn' _ _ _ (by omega) (.inl hs) hp hrs hrun'
      rcases Tx with ⟨rfl,hsame⟩ | ⟨⟨c0,cs0,hj0,hsame⟩,hne⟩
      · rcases hns with (rfl | rfl | rfl) | ⟨_,rfl⟩
        · exact f2_y .a (.inl rfl) a0 aD hD hC W Tn rfl hps hrs hsame fun F tu sv tv dl sc' rn' ps' hp => go F tu sv tv dl sc' rn' nsA (.inl rfl) ps' hp
        · exact f2_z .b (.inr rfl) a0 aD hD hC W Tn rfl hps hrs hsame fun F tu sv tv dl sc' rn' ps' hp => go F tu sv tv dl sc' rn' ns5d (.inr (.inl rfl)) ps' hp
        · exact f2_y .c (.inr rfl) a0 aD hD hC W Tn rfl hps hrs hsame fun F tu sv tv dl sc' rn' ps' hp => go F tu sv tv dl sc' rn' ns5c (.inr (.inr rfl)) ps' hp
        · exact f2_z .f (.inl rfl) a0 aD hD hC W Tn rfl hps hrs hsame fun F tu sv tv dl sc' rn' ps' hp => go F tu sv tv dl sc' rn' ns5d (.inr (.inl rfl)) ps' hp
      · rcases ks with _ | ⟨k1,_ | ⟨k2,_ | ⟨k3,kr⟩⟩⟩
        · exact absurd rfl hne
        · rcases hns with (rfl | rfl | rfl) | ⟨_,rfl⟩
          · exact f2_1 .a a0 aD hD hC W Tn rfl hps hrs hj0 hsame fun F tu sv tv dl sc' rn' ps' hp => go F tu sv tv dl sc' rn' nsA (.inl rfl) ps' hp
          · exact f2_1 .b a0 aD hD hC W Tn rfl hps hrs hj0 hsame fun F tu sv tv dl sc' rn' ps' hp => go F tu sv tv dl sc' rn' ns5c (.inr (.inr rfl)) ps' hp
          · exact f2_1 .c a0 aD hD hC W Tn rfl hps hrs hj0 hsame fun F tu sv tv dl sc' rn' ps' hp => go F tu sv tv dl sc' rn' ns5c (.inr (.inr rfl)) ps' hp
          · exact f2_1 .f a0 aD hD hC W Tn rfl hps hrs hj0 hsame fun F tu sv tv dl sc' rn' ps' hp => go F tu sv tv dl sc' rn' nsA (.inl rfl) ps' hp
        · rcases hns with (rfl | rfl | rfl) | ⟨_,rfl⟩
          · exact f2_2 .a a0 aD hD hC W Tn rfl hps hrs hj0 hsame fun F tu sv tv dl sc' rn' ps' hp => go F tu sv tv dl sc' rn' nsA (.inl rfl) ps' hp
          · exact f2_2 .b a0 aD hD hC W Tn rfl hps hrs hj0 hsame fun F tu sv tv dl sc' rn' ps' hp => go F tu sv tv dl sc' rn' ns5c (.inr (.inr rfl)) ps' hp
          · exact f2_2 .c a0 aD hD hC W Tn rfl hps hrs hj0 hsame fun F tu sv tv dl sc' rn' ps' hp => go F tu sv tv dl sc' rn' ns5c (.inr (.inr rfl)) ps' hp
          · exact f2_2 .f a0 aD hD hC W Tn rfl hps hrs hj0 hsame fun F tu sv tv dl sc' rn' ps' hp => go F tu sv tv dl sc' rn' nsA (.inl rfl) ps' hp
        · exact absurd h2 (by simp)
    | [],hrq,hrun => exact hrun.elim
theorem f2_all (hD : D + 600 ≤ recursionLimit) (hC : 8 * D + 2000 < cLine) (W : Board e K.h Y wf N ord Q) {tot : Nat} {tu : Tok} {F : Fk} {ms : List Bool} {l : List (Nat × Nat)} {ps : List Pair} {n nq : Nat} {rq : List Value} {rn : Nat} {sc tc dc : Option Value}
    (hT : 0 < T) (hps : HasPs wf (spotF Y.I) ps l) (hrq : Strs (ms.map sg) rq) (hrun : Runs K.h Y wf N ord tF mF T 0 ms l tot) :
    DoesL e.G D (lawF2 e.w c fr it) (f2L c fr it { K with tot := tot,tu := tu } Y F (ns0 ++ [12]) 0 T (QL Q) nq rq rn sc tc dc (K.H.L ps n)) (fun x : F2o => ShF x.ns ∧ Strs (mF.map sg) x.rq) (fun _ => .ok .next)
      (fun x => f2L c fr it { K with tot := tF,tu := x.tu } Y x.F x.ns T 0 (QL Q) x.nq x.rq x.rn x.sc x.tc x.dc []) :=
  doesL_of (by omega) fun A₀ R₀ h₀ a0 aD fin =>
    f2_go (T := T) a0 aD hD hC W (fun x h tk sz h1 h2 Dh => fin x h tk sz ⟨h1,h2⟩ Dh) T 0 tot tu F (ns0 ++ [12]) ms l ps n nq rq rn sc tc dc (by omega) (.inr ⟨hT,rfl⟩) hps hrq hrun
end
end Mine
end
section
open PySem PySem.W PySem.W.X PyProof.Rows PySem.Spec PySem.Calls
set_option genInjectivity false
set_option genCtorIdx false
set_option backward.match.sparseCases false
namespace Mine
section
variable {G : Gc} {D : Nat} {t u : Tok}
theorem ine_does {a b : Int} {c : Bool} (h : (a != b) = c) : Does G D (.builtin "int.__ne__" ⟨[.int a t, .int b u], []⟩) [] (fun _ : Unit => True) (fun _ => retV (.bool c)) (fun _ => []) (fun _ => []) :=
  val_does (by decide +kernel) PySem.F.entry_int_ne (h ▸ gives_int_ne a b t u)
theorem pow_does {n : Nat} (h : n = 4 ∨ n = 6) : Does G D (.builtin "int.__pow__" ⟨[.int 2 t, .int (.ofNat n) u], []⟩) [] (fun _ : Tok => True) (fun k => retV (.int (.ofNat (2 ^ n)) k)) (fun _ => []) (fun _ => []) := by
  rcases h with rfl | rfl
  · exact int_does (by decide +kernel) PySem.F.entry_int_pow (.of_eq rfl)
  · exact int_does (by decide +kernel) PySem.F.entry_int_pow (.of_eq rfl)
theorem ladd_does {l r : Addr} {xs ys : List Value} {n m : Nat} (h : xs.length + ys.length ≤ sizeLine) :
    Does G D (.builtin "list.__add__" ⟨[.ref l, .ref r], []⟩) [(l, lob xs n), (r, lob ys m)] (fun _ : Addr => True) (fun a => retV (.ref a)) (fun _ => [(l, lob xs n), (r, lob ys m)]) (fun a => [(a, lob (xs ++ ys) 0)]) := by
  refine new_does (by decide +kernel) PySem.F.entry_list_add rfl ((PySem.AutoSeq1.list___add___list_list_0 l ⟨xs⟩ n r ⟨ys⟩ m (by simpa using h)).of_imp fun A R s h => ?_)
  refine ⟨h.1 (l,lob xs n) (by simp),h.1 (r,lob ys m) (by simp),?_⟩
  have h2 := h.2
  simpa [lob] using h2

theorem lob_free (xs : List Value) (n : Nat) : (lob xs n).isFreed = false := rfl
theorem fold_none (m : Nat) : ∀ (acc : Array Value),List.foldl (fun x1 x2 => x1 ++ x2) acc (List.replicate m (⟨[.none]⟩ : Array Value)) = ⟨acc.toList ++ List.replicate m .none⟩ := by
  induction m with
  | zero => intro acc; simp
  | succ m ih =>
    intro acc
    rw [List.replicate_succ,List.foldl_cons,ih]
    simp [List.replicate_succ]
theorem lmulO_eq (m : Nat) : ({ cls := .type "list", data := .seq (List.foldl (fun x1 x2 => x1 ++ x2) #[] (List.replicate (if (⟨[.none]⟩ : Array Value).isEmpty = true then 0 else (Int.ofNat m).toNat) (⟨[.none]⟩ : Array Value))) } : Obj) = lob (List.replicate m .none) 0 := by
  have e : (if (⟨[.none]⟩ : Array Value).isEmpty = true then 0 else (Int.ofNat m).toNat) = m := rfl
  rw [e,fold_none]
  rfl
theorem lmul_any {l : Addr} {n m : Nat} (hm : m ≤ 1000) (I : Array Value) (x : Int) (hI : I.size = 1) (hx : x.toNat = m) (hx2 : Builtin.List.listFitsIndex x = true) :
    Meets (Builtin.«list.__mul__» ⟨[.ref l, .int x u], []⟩) (fun _ R s => s.heap.get? l = some { cls := .type "list", dict := none, data := .seq I n, slots := #[] } ∧ R (.ok (.ret (Value.ref s.heap.objs.size))) { s with heap := s.heap.push { cls := Value.type "list", data := Data.seq (List.foldl (fun x1 x2 => x1 ++ x2) #[] (List.replicate (if I.isEmpty = true then 0 else x.toNat) I)) }, toks := s.toks }) := by
  have hs : (1000 : Nat) ≤ sizeLine := by
    have e : sizeLine = 16777216 := by decide
    rw [e]; exact Nat.le_of_ble_eq_true rfl
  refine PySem.AutoListH.list___mul___list_int_3 l I n x u ?_ ?_ ?_
  · rw [hx2]; decide
  · rw [hI,hx,Nat.one_mul]; omega
  · rw [hI,hx,Nat.one_mul]
    unfold Builtin.List.listTooLong
    simp only [decide_eq_true_eq]
    exact Nat.not_lt.mpr (Nat.le_trans hm hs)
theorem fits_nat {m : Nat} (hm : m ≤ 1000) : Builtin.List.listFitsIndex (.ofNat m) = true := by
  unfold Builtin.List.listFitsIndex
  simp only [Bool.and_eq_true,decide_eq_true_eq]
  constructor
  · exact Int.le_trans (b := 0) (by decide) (Int.natCast_nonneg m)
  · exact Int.lt_of_le_of_lt (show (Int.ofNat m) ≤ 1000 from Int.ofNat_le.mpr hm) (by decide)
theorem lmul_does {l : Addr} {n m : Nat} (hm : m ≤ 1000) :
    Does G D (.builtin "list.__mul__" ⟨[.ref l, .int (.ofNat m) u], []⟩) [(l, lob [.none] n)] (fun _ : Addr => True) (fun a => retV (.ref a)) (fun _ => [(l, lob [.none] n)])
      (fun a => [(a,lob (List.replicate m .none) 0)]) := by
  obtain ⟨I,hI⟩ : ∃ I : Array Value,I = ⟨[.none]⟩ := ⟨_,rfl⟩
  obtain ⟨x,hx⟩ : ∃ x : Int,x = .ofNat m := ⟨_,rfl⟩
  have hm' := lmul_any (l := l) (n := n) (u := u) hm I x (by rw [hI]; rfl) (by rw [hx]; rfl) (by rw [hx]; exact fits_nat hm)
  have e : ({ cls := .type "list", data := .seq (List.foldl (fun x1 x2 => x1 ++ x2) #[] (List.replicate (if I.isEmpty = true then 0 else x.toNat) I)) } : Obj) = lob (List.replicate m .none) 0 := by
    subst hI; subst hx; exact lmulO_eq m
  rw [e] at hm'
  have e2 : ({ cls := .type "list", dict := none, data := .seq I n, slots := #[] } : Obj) = lob [.none] n := by subst hI; rfl
  rw [e2] at hm'
  rw [← hx]
  refine new_does (by decide +kernel) PySem.F.entry_list_mul (lob_free _ _) (hm'.of_imp fun A R s h => ?_)
  exact ⟨h.1 (l,lob [.none] n) (by simp),h.2⟩
theorem slice_does {l sl : Addr} {xs : List Value} {n : Nat} {a b : Int} {t1 t2 : Tok} (h0 : b ≠ 0) (hx : xs.length ≤ sizeLine) :
    Does G D (.builtin "list.__getitem__" ⟨[.ref l, .ref sl], []⟩) [(l, lob xs n), (sl, { cls := .type "slice", data := .fields ⟨[.int a t1, .none, .int b t2]⟩ })] (fun _ : Addr => True) (fun r => retV (.ref r))
      (fun _ => [(l, lob xs n), (sl, { cls := .type "slice", data := .fields ⟨[.int a t1, .none, .int b t2]⟩ })]) (fun r => [(r, lob (slicePick ⟨xs⟩ (some a) none (some b)).toList 0)]) := by
  refine new_does (by decide +kernel) PySem.F.entry_list_getitem rfl (.of_wp fun prog w A R s h => ?_)
  obtain ⟨ho1,hR⟩ := h
  have hl : s.heap.IsList l ⟨xs⟩ := ⟨_,ho1 (l,lob xs n) (by simp),rfl,n,rfl⟩
  have hs : s.heap.IsSliceOf sl (.int a t1) .none (.int b t2) := ⟨_, ho1 (sl, { cls := .type "slice", data := .fields ⟨[.int a t1, .none, .int b t2]⟩ }) (by simp), rfl, rfl⟩
  have pl : IsPart (.int a t1) (some a) := .int a t1
  have pu : IsPart .none none := .none
  have ps : IsPart (.int b t2) (some b) := .int b t2
  obtain ⟨o,ho,hc,ne,hd⟩ := id hl
  obtain ⟨os,hos,hcs,hds⟩ := id hs
  have hTs : s.TypeIs (.ref sl) "slice" := ⟨os, hos, hcs⟩
  show wpAny _ _ (Builtin.List.listSubscript? (.ref sl) >>= _) _ _ s
  refine wpAny_bind ?_
  · unfold Builtin.List.listSubscript?
    refine wpAny_bind (wpAny_specialOf hTs slice_no_index ?_)
    simp only [Option.isNone_none,if_true]
    refine wpAny_pure ?_
    show wpAny _ _ (typeOf (.ref sl) >>= _) _ _ s
    refine wpAny_bind (wpAny_typeOf hTs ?_)
    rw [if_neg (by decide)]
    rw [listSliceParts_eq]
    have hstep : ¬ ((rawPart (some b) == rawInt 0) = true) := by
      intro hh
      have : b = 0 := by simpa [rawPart,rawInt] using hh
      exact h0 this
    refine wpAny_bind (wpAny_bind (wpAny_field hos hds (x := .int b t2) rfl (wpAny_bind (wpAny_listPart ps ?_))))
    rw [if_neg hstep]
    refine wpAny_bind (wpAny_field hos hds (x := .int a t1) rfl (wpAny_bind (wpAny_listPart pl ?_)))
    refine wpAny_bind (wpAny_field hos hds (x := .none) rfl (wpAny_bind (wpAny_listPart pu (wpAny_pure ?_))))
    refine wpAny_bind (m := Builtin.List.listItems (.ref l)) ?_
    unfold Builtin.List.listItems
    refine wpAny_bind (wpAny_seqItems ho hd (wpAny_pure ?_))
    refine wpAny_bind (wpAny_of_eq (sliceIndices_raw (some a) none (some b) (⟨xs⟩ : Array Value).size (fun e => h0 (Option.some.inj e))) ?_)
    refine wpAny_bind (wpAny_newObj_type (wpAny_pure ⟨_,rfl,?_⟩) (Nat.le_trans (slicePick_size_le ⟨xs⟩ (some a) none (some b)) hx))
    exact hR
end
end Mine
end
section
open PySem PySem.W PySem.W.X PyProof.Rows
set_option genInjectivity false
set_option genCtorIdx false
namespace Mine
noncomputable def funSite (c : Code) (m : List Stmt → Env → Sem Flow) : Sem PySem.Fin := match c with
  | .func body env => do
    match ← (m body env).onRaise (leaving env) with
    | .ret v => ret v
    | _ => ret .none
  | _ => unsupported ""
noncomputable def siteFn (bk : Nat) (op : CmpOp) (i : Nat) (p : Code × Addr × Addr) (u : Sem Unit) : Sem PySem.Fin := funSite p.1 fun body env =>
  flowIf (tstB bk (testU u op (.ref p.2.1) (.ref p.2.2)) env) (ifBody1 body[i]!) (ifElse1 body[i]!) (body.drop (i + 1)) env
noncomputable def siteFnR (bk : Nat) (op : CmpOp) (i : Nat) (p : Code × Addr × Addr) (acts : List (Code × Pos)) : Sem PySem.Fin := siteFn bk op i p (roomU acts)
noncomputable def siteFnT (bk : Nat) (op : CmpOp) (i : Nat) (p : Code × Addr × Addr) : Sem PySem.Fin := siteFn bk op i p (pure ())
noncomputable def retPos : Stmt → Pos
  | .Return (some (.BoolOp _ _ p)) _ => p
  | _ => default
noncomputable def retRest : Stmt → List PySem.Expr
  | .Return (some (.BoolOp _ vs _)) _ => vs.drop 2
  | _ => []
noncomputable def siteRt (op : CmpOp) (i : Nat) (p : Code × Addr × Addr) (u : Sem Unit) : Sem PySem.Fin := funSite p.1 fun body env => do
  match ← (do
    return Flow.ret (← (do
      let v ← operate [.ref p.2.1,.ref p.2.2] (holding [.ref p.2.1,.ref p.2.2] (u >>= richR op (.ref p.2.1) (.ref p.2.2)))
      standAt (retPos body[i]!)
      let t ← holding [v] (truthy v)
      match BoolOp.And,t with
      | .And,false | .Or,true => pure v
      | _,_ => boolOp (retPos body[i]!) .And (evalEach (retRest body[i]!) env) : Sem Value)) : Sem Flow) with
  | .next => execs [] env
  | f => pure f
noncomputable def siteRtR (op : CmpOp) (i : Nat) (p : Code × Addr × Addr) (acts : List (Code × Pos)) : Sem PySem.Fin := siteRt op i p (roomU acts)
noncomputable def siteRtT (op : CmpOp) (i : Nat) (p : Code × Addr × Addr) : Sem PySem.Fin := siteRt op i p (pure ())
lay_quick siteFnR siteFnT siteRtR siteRtT
noncomputable abbrev siteFnRY := PySem.W.Fast.tw6951094994437936464
theorem siteFnRY_eq : @siteFnR = siteFnRY := PySem.W.Fast.te6951094994437936464
noncomputable abbrev siteFnTY := PySem.W.Fast.tw15808435730266225001
theorem siteFnTY_eq : @siteFnT = siteFnTY := PySem.W.Fast.te15808435730266225001
noncomputable abbrev siteRtRY := PySem.W.Fast.tw15123720521690272543
theorem siteRtRY_eq : @siteRtR = siteRtRY := PySem.W.Fast.te15123720521690272543
noncomputable abbrev siteRtTY := PySem.W.Fast.tw1653285618439694162
theorem siteRtTY_eq : @siteRtT = siteRtTY := PySem.W.Fast.te1653285618439694162
theorem siteFn_ok {bk : Nat} {op : CmpOp} {i : Nat} (p : Code × Addr × Addr) (acts : List (Code × Pos)) (h : ¬ (acts.map (·.1.cUnits)).sum ≥ cLine) : siteFnRY bk op i p acts = siteFnTY bk op i p := by
  rw [← siteFnRY_eq,← siteFnTY_eq]
  unfold siteFnR siteFnT
  rw [roomU_ok h]
theorem siteRt_ok {op : CmpOp} {i : Nat} (p : Code × Addr × Addr) (acts : List (Code × Pos)) (h : ¬ (acts.map (·.1.cUnits)).sum ≥ cLine) : siteRtRY op i p acts = siteRtTY op i p := by
  rw [← siteRtRY_eq,← siteRtTY_eq]
  unfold siteRtR siteRtT
  rw [roomU_ok h]
end Mine
end
section
open PySem PySem.W PySem.W.X PyProof.Rows
set_option genInjectivity false
set_option genCtorIdx false
set_option backward.match.sparseCases false
namespace Mine
noncomputable def bI (c : Bool) : Nat := match c with | true => 1 | false => 0
section
variable {e : Env0} {D : Nat}
theorem intb_does {c : Bool} (hD : D + 100 ≤ recursionLimit) : Does e.G D (.builtin "type.__call__" ⟨[.type "int", .bool c], []⟩) [] (fun _ : Tok => True) (fun k => retV (.int (.ofNat (bI c)) k)) (fun _ => []) (fun _ => []) := by
  cases c
  all_goals
    refine walk (tn [] []) hD ?_; intro A₀ R₀ h₀ sz0 tk0 a0 ad aD fin gd mm o
    exact ret_good tk0 [] trivial fin rfl
theorem lexer1 {s : List Nat} {t : Tok} (hD : D + 250 ≤ recursionLimit) (hs : s.length ≤ sizeLine) (h0 : s ≠ []) :
    Does e.G D (.call (.ref 315) ⟨[.str (sOf s) t],[]⟩) [(312,tabO [])] (fun z : LxR => Signs s z.vs ∧ z.X.ins = .ref z.R.st) (fun z => retV (.ref z.X.l)) (fun z => [(312,tab1 z.R.co)])
      (fun z => z.X.L (.int (.ofNat 1) z.u) [] 0 ++ z.R.L e.w z.vs.reverse s.length) := by
  cases hb : (sOf s).cps.all (fun c => decide (c < 128)) with
  | true => exact lexer1_a hD hs h0 hb
  | false => exact lexer1_s hD hs h0 hb
theorem lexer2 {s : List Nat} {t : Tok} {R₁ : Rx} (hD : D + 250 ≤ recursionLimit) (hs : s.length ≤ sizeLine) (h0 : s ≠ []) :
    Does e.G D (.call (.ref 315) ⟨[.str (sOf s) t],[]⟩) [(312,tab1 R₁.co),(R₁.co,codeOb R₁)] (fun z : LxR => Signs s z.vs ∧ z.X.ins = .ref z.R.st ∧ z.R.co = R₁.co ∧ codeOb z.R = codeOb R₁) (fun z => retV (.ref z.X.l)) (fun z => [(312,tab1 R₁.co),(R₁.co,codeOb R₁)])
      (fun z => z.X.L (.int (.ofNat 1) z.u) [] 0 ++ z.R.N e.w z.vs.reverse s.length) := by
  cases hb : (sOf s).cps.all (fun c => decide (c < 128)) with
  | true => exact lexer2_a hD hs h0 hb
  | false => exact lexer2_s hD hs h0 hb
noncomputable def Rs.LC (s : Rs) (e : Env0) (X : Lx) (R : Rx) (co : Addr) (ob : Obj) : Led := X.L s.ln s.q s.m ++ [(R.st, iob 76 R.sd), (R.sd, streamD R), (R.fn, lamOb e.w R), (co, ob), (R.cell, { cls := .type "cell", data := .cell (some (.ref R.lf)) }), (R.lf, lob s.cs s.n)]
theorem signs_all' {C : Cx} {fr cl ll : Addr} {nl N : Nat} {lv : List Value} {X : Lx} {R : Rx} {A : Nat → Rs → Prop} {x : Nat → List Nat} {s0 : Rs} {co : Addr} {ob : Obj} (hco : R.co = co) (hob : codeOb R = ob) (hD : D + 450 ≤ recursionLimit) {bs : List Bool} (hl : lv = bs.map .bool) (hN : bs.length = N) (hn : N ≤ 100) (h0 : A 0 s0) (hs : Step e (D + 50) X R A x N) :
    Does e.G D (lawS e xSigns C fr [(sOf [114,105,110,103],cl)]) ([(C.it,litO ll (0)),(ll,lob lv nl),(C.acc,lob ([]) (0)),(C.dc,dcO [95] none),(cl,cellO (.ref X.l))] ++ s0.LC e X R co ob)
      (fun z : List Value × Bnd × Rs => (Strs ((List.range N).map x) z.1 ∧ A N z.2.2) ∧ Told N (z.1,z.2.1)) (fun _ => .ok .next) (fun z => [(C.it,litE (N)),(ll,lob lv nl),(C.acc,lob (z.1) (z.1.length)),(C.dc,dcO [95] z.2.1),(cl,cellO (.ref X.l))] ++ z.2.2.LC e X R co ob) (fun _ => []) := by
  subst hco; subst hob
  exact signs_all hD hl hN hn h0 hs
theorem resr_all' {C : Cx} {fr cl : Addr} {N : Nat} {X : Lx} {R : Rx} {A : Nat → Rs → Prop} {x : Nat → List Nat} {s0 : Rs} {co : Addr} {ob : Obj} (hco : R.co = co) (hob : codeOb R = ob) (hD : D + 450 ≤ recursionLimit) (hn : N ≤ 100) (h0 : A 0 s0) (hs : Step e (D + 50) X R A x N) :
    Does e.G D (lawS e xResr C fr [(sOf [114,105,110,103],cl)]) ([(C.it,ritO (0) (N)),(C.acc,lob ([]) (0)),(C.dc,dcO [95] none),(cl,cellO (.ref X.l))] ++ s0.LC e X R co ob)
      (fun z : List Value × Bnd × Rs => (Strs ((List.range N).map x) z.1 ∧ A N z.2.2) ∧ Told N (z.1,z.2.1)) (fun _ => .ok .next) (fun z => [(C.it,ritO (N) (0)),(C.acc,lob (z.1) (z.1.length)),(C.dc,dcO [95] z.2.1),(cl,cellO (.ref X.l))] ++ z.2.2.LC e X R co ob) (fun _ => []) := by
  subst hco; subst hob
  exact resr_all hD hn h0 hs
end
end Mine
end
section
open PySem PySem.W PySem.W.X PyProof.Rows PySem.Spec PySem.Calls
set_option genInjectivity false
set_option genCtorIdx false
set_option backward.match.sparseCases false
namespace Mine
theorem runs_size {M : Model} {Γ : PySem.Ctx} {p : Pos} {t : Sem PySem.Fin} {fs : List Frame} {s s' : Shared} {e : End} (h : PySem.Runs M Γ p t fs s e s') : s.heap.objs.size ≤ s'.heap.objs.size := by
  induction h <;> (try simp only [Shared.setGen,Heap.size_push,Heap.size_update] at *) <;> omega
theorem code_size {M : Model} {A : Around} {s : Shared} {c : Code} {R : Result → Shared → Prop} (h : codeAny M A c (fun r s' => s.heap.objs.size ≤ s'.heap.objs.size → R r s') s) : codeAny M A c R s :=
  fun Γ p hc hΓ => by obtain ⟨r,s',hr,hR⟩ := h Γ p hc hΓ; exact ⟨r,s',hr,hR (runs_size hr)⟩
theorem sum_does {G : Gc} {D : Nat} {l : Addr} {xs : List Value} {n : Nat} {si : List Int} (hi : Ints si xs) :
    Does G D (.builtin "sum" ⟨[.ref l], []⟩) [(l, lob xs n)] (fun _ : Int × Tok => True) (fun z => retV (.int z.1 z.2)) (fun _ => [(l, lob xs n)]) (fun _ => []) := by
  intro A R s hc _ hf ho hn hy hfin
  refine code_size ?_
  refine codeAny_builtin F.entry_sum ?_
  rw [Around.under_plainId F.plain_sum _]
  have hl : s.heap.IsList l ⟨xs⟩ := ⟨_,own_one.mp ho,rfl,n,rfl⟩
  unfold Builtin.«sum»
  simp only [List.length_cons,List.length_nil]
  rw [if_neg (by decide)]
  refine wpAny_bind (wpAny_of_eq (show Builtin.Builtins.bindParams "sum" ["start"] 0 { } = pure [none] from rfl) ?_)
  refine wpAny_bind (wpAny_pyIter_list hl ?_)
  refine wpAny_bind (wpAny_mkInt ?_)
  refine wpAny_bind (wpAny_pure ?_)
  simp only [List.forIn_cons,List.forIn_nil]
  refine wpAny_bind (wpAny_bind (wpAny_bind (wpAny_isInstance (T := "int") (b := false) (typeIs_int _ _ _) F.sub_int_str ?_)))
  simp only [Bool.false_eq_true,if_false]
  refine wpAny_pure (wpAny_bind (wpAny_bind (wpAny_isInstance (T := "int") (b := false) (typeIs_int _ _ _) F.sub_int_bytes ?_)))
  simp only [Bool.false_eq_true,if_false]
  refine wpAny_pure (wpAny_bind (wpAny_bind (wpAny_isInstance (T := "int") (b := false) (typeIs_int _ _ _) F.sub_int_bytearray ?_)))
  simp only [Bool.false_eq_true,if_false]
  refine wpAny_pure (wpAny_pure ?_)
  refine wpAny_bind (wpAny_newObj_type ?_)
  have hlt : l < s.heap.objs.size := Heap.lt_size (own_one.mp ho)
  have hne : l ≠ s.heap.objs.size := Nat.ne_of_lt hlt
  have W := (Walks.list (prog := G.prog) (w := G.w) (A := A.in1) hc.hd s.heap.objs.size l hne ⟨xs⟩).toS
  have hget : ∀ o,(s.heap.push o).get? l = some (lob xs n) := fun o => Heap.get?_push_of_some _ (own_one.mp ho)
  refine wpAny_pure ⟨plainId_quiet F.plain_sum_loop _,codeAny_sum_loopAnyS W (fun j => si.getD j 0) (fun j v hv => ?_) _ ?_ _ 0 _ _ 0 0 (.inl rfl) rfl (Nat.zero_le _) ?_ (Heap.get?_push_size _ rfl) fun s' t' hm hsz => ?_⟩
  · have hj : j < si.length := by
      rw [← hi.len]
      simpa using (Array.getElem?_eq_some_iff.mp hv).1
    obtain ⟨t,ht⟩ := hi.at (List.getElem?_eq_getElem hj)
    refine ⟨t,?_⟩
    have h2 : xs[j]? = some v := by simpa using hv
    rw [ht] at h2
    rw [List.getD_eq_getElem?_getD,List.getElem?_eq_getElem hj]
    exact (Option.some.inj h2).symm
  · intro hm
    have h1 : (s.heap.push { cls := Value.type "list_iterator", data := Data.fields #[Value.ref l, Value.int 0 0] }).objs.size ∈ [s.heap.objs.size, l] := hm
    rw [Heap.size_push] at h1
    rcases List.mem_cons.mp h1 with h | h
    · exact absurd h (Nat.succ_ne_self _)
    · have h2 := List.mem_singleton.mp h
      exact absurd hlt (Nat.not_lt.mpr (h2 ▸ Nat.le_succ _))
  · refine ⟨⟨_,Heap.get?_push_of_some _ (Heap.get?_push_size _ rfl),rfl,rfl⟩,⟨lob xs n,?_,rfl,n,rfl⟩⟩
    exact Heap.get?_push_of_some _ (hget _)
  · have old : ∀ b o,s.heap.get? b = some o → s'.heap.get? b = some o := fun b o e => by
      have hb := Heap.lt_size e
      refine hm.heap b o ?_ (Heap.get?_push_of_some _ (Heap.get?_push_of_some _ e))
      intro h2
      have h1 : b ∈ [(s.heap.push { cls := Value.type "list_iterator", data := Data.fields #[Value.ref l, Value.int 0 0] }).objs.size, s.heap.objs.size] := h2
      rw [Heap.size_push] at h1
      rcases List.mem_cons.mp h1 with h | h
      · exact absurd hb (Nat.not_lt.mpr (h ▸ Nat.le_succ _))
      · exact absurd hb (Nat.not_lt.mpr (List.mem_singleton.mp h ▸ Nat.le_refl _))
    refine hfin (_,t') s' trivial ⟨⟨fun b o e nb => old b o (hf.base.keep b o e nb),Nat.le_trans hf.base.big hsz,hf.base.tab⟩,?_,?_,?_⟩ (own_one.mpr (old _ _ (own_one.mp ho))) own_nil ⟨hsz,fun b o e _ => old b o e⟩ (fun p hp => nomatch hp) List.nodup_nil
    · rw [hm.gens]; exact hf.gens
    · rw [hm.drawn]; exact hf.drawn
    · rw [hm.os]; exact hf.os
end Mine
end
section
open PySem PySem.W PySem.W.X PyProof.Rows
set_option genInjectivity false
set_option genCtorIdx false
set_option backward.match.sparseCases false
namespace Mine
open PySem (slicePick)
noncomputable def xCells (w : World) : Expr := atE (exprOf (lawB w)[1]!) []
noncomputable def fixV (k0 : Nat → Tok) : List Value := [.int 3 (k0 0),.int 2 (k0 1),.int 4 (k0 2),.int 2 (k0 3),.int 8 (k0 4),.int 1 (k0 5),.int 8191023 (k0 6)]
theorem fix_at (k0 : Nat → Tok) : ∀ i,i < 7 → ∃ a t,(fixV k0)[i]? = some (.int a t) := by
  intro i hi
  match i,hi with
  | 0,_ => exact ⟨_,_,rfl⟩
  | 1,_ => exact ⟨_,_,rfl⟩
  | 2,_ => exact ⟨_,_,rfl⟩
  | 3,_ => exact ⟨_,_,rfl⟩
  | 4,_ => exact ⟨_,_,rfl⟩
  | 5,_ => exact ⟨_,_,rfl⟩
  | 6,_ => exact ⟨_,_,rfl⟩
theorem ints_filterMap {vs : List Value} {si : List Int} (h : Ints si vs) : ∀ (l : List Nat),∃ s2,Ints s2 (l.filterMap fun i => vs[i]?)
  | [] => ⟨[],rfl⟩
  | i :: l => by
    obtain ⟨s2,h2⟩ := ints_filterMap h l
    cases hv : vs[i]? with
    | none => exact ⟨s2,by rw [List.filterMap_cons,hv]; exact h2⟩
    | some v =>
      have hi : i < si.length := by
        rw [← h.len]; exact (List.getElem?_eq_some_iff.mp hv).1
      obtain ⟨t,ht⟩ := h.at (List.getElem?_eq_getElem hi)
      rw [hv] at ht
      cases ht
      exact ⟨si[i] :: s2,by rw [List.filterMap_cons,hv]; exact ⟨t,_,rfl,h2⟩⟩
theorem ints_pick {vs : List Value} {si : List Int} (h : Ints si vs) (a b c : Option Int) : ∃ s2,Ints s2 (slicePick ⟨vs⟩ a b c).toList := by
  unfold slicePick
  obtain ⟨s2,h2⟩ := ints_filterMap h (sliceRange (sliceBounds a b c vs.length).1 (sliceBounds a b c vs.length).2.1 (sliceBounds a b c vs.length).2.2)
  exact ⟨s2,by simpa using h2⟩
section
variable {e : Env0} {D : Nat} {C : Cx} {fr cs cf sl fl : Addr} {i k ns : Nat} {a : Int} {ta : Tok} {ys sv : List Value} {k0 : Nat → Tok} {b : Bnd} {s2 : List Int}
theorem hs1000 : 1000 ≤ sizeLine := by
  have e : sizeLine = 16777216 := by decide
  rw [e]; exact Nat.le_of_ble_eq_true rfl
theorem cells_turn {α : Type} {ok : α → Prop} {res : α → Result} {post news : α → Led} (hD : D + 350 ≤ recursionLimit) (ha : (fixV k0)[i]? = some (.int a ta)) (hsv : sv.length ≤ 1000) (hsi : Ints s2 (slicePick ⟨sv⟩ (some (.ofNat i)) none (some 7)).toList) (hn : ys.length ≤ sizeLine)
    (next : ∀ g j1 r j2,Does e.G D (lawL e xCells C fr [(sOf [115,99,114,105,112,116],cs),(sOf [102,105,120,101,100],cf)]) ([(C.it,ritO (i + 1) (k)),(C.acc,lob (ys ++ [.int r j2]) (ys.length + 1)),(C.dc,dcO [116] (some (g,.int (.ofNat i) j1)))] ++ [(cs,cellO (.ref sl)),(cf,cellO (.ref fl)),(sl,lob sv ns),(fl,lob (fixV k0) 0)]) ok res post news) :
    Does e.G D (lawL e xCells C fr [(sOf [115,99,114,105,112,116],cs),(sOf [102,105,120,101,100],cf)]) ([(C.it,ritO (i) (k + 1)),(C.acc,lob (ys) (ys.length)),(C.dc,dcO [116] b)] ++ [(cs,cellO (.ref sl)),(cf,cellO (.ref fl)),(sl,lob sv ns),(fl,lob (fixV k0) 0)]) ok res post news := by
  cases b
  all_goals
    refine walk (ts [1,1] <| ts [3,3,5,3,7,7,7,7] <| ts [0,0,5,4,8,8,8,8] <| ts [] <| ts [] <| ts [6] <| ts [] <| tn [] []) (by omega) ?_; intro A₀ R₀ h₀ sz0 tk0 a0 ad aD fin gd mm o
    refine mm [0] (rnext_some (it := C.it) (i := i) (k := k)) ?_; intro o t0 sz1 tk1 _
    refine mm [6] (getit_does (l := fl) (xs := fixV k0) (n := 0) (j := i) (u := t0) (v := .int a ta) ha (small_size (by show 7 ≤ 100; decide))) ?_; intro o _ sz2 tk2 _
    refine mm [7,0] (slice_does (l := sl) (sl := sz2) (xs := sv) (n := ns) (a := .ofNat i) (b := 7) (t1 := t0) (t2 := tk2) (by decide) (Nat.le_trans hsv hs1000)) ?_; intro o l2 sz3 tk3 _
    refine mm [0] (sum_does (l := l2) (xs := (slicePick ⟨sv⟩ (some (.ofNat i)) none (some 7)).toList) (n := 0) hsi) ?_; intro o z3 sz4 tk4 _
    refine mm [] (iadd_does (a := a) (b := z3.1) (r := a + z3.1) (t := ta) (u := z3.2) rfl) ?_; intro o k4 sz5 tk5 _
    refine mm [5] (append_does (l := C.acc) (xs := ys) (n := ys.length) (v := .int (a + z3.1) k4) hn) ?_; intro o _ sz6 tk6 _
    exact tail_same_w a0 [5,0,4,4,4,1,2] (fun o => entOf (o.ob 6) 0) (fun g => next g t0 (a + z3.1) k4) ad (by kernel_rfl) (by kernel_rfl) fin
theorem cells_end (hD : D + 350 ≤ recursionLimit) :
    Does e.G D (lawL e xCells C fr [(sOf [115,99,114,105,112,116],cs),(sOf [102,105,120,101,100],cf)]) ([(C.it,ritO (i) (0)),(C.acc,lob (ys) (ys.length)),(C.dc,dcO [116] b)] ++ [(cs,cellO (.ref sl)),(cf,cellO (.ref fl)),(sl,lob sv ns),(fl,lob (fixV k0) 0)]) (fun _ : Unit => True) (fun _ => .ok .next) (fun _ => ([(C.it,ritO (i) (0)),(C.acc,lob (ys) (ys.length)),(C.dc,dcO [116] b)] ++ [(cs,cellO (.ref sl)),(cf,cellO (.ref fl)),(sl,lob sv ns),(fl,lob (fixV k0) 0)])) (fun _ => []) := by
  cases b
  all_goals
    refine walk (tn [1,1,1,1,1,1] []) (by omega) ?_; intro A₀ R₀ h₀ sz0 tk0 a0 ad aD fin gd mm o
    exact ret_good () [2,2,2,2,2,2,2] trivial fin rfl
theorem cells_all (hD : D + 350 ≤ recursionLimit) (hs : ∃ si,Ints si sv) (hl : sv.length ≤ 1000) :
    Does e.G D (lawS e xCells C fr [(sOf [115,99,114,105,112,116],cs),(sOf [102,105,120,101,100],cf)]) ([(C.it,ritO (0) (7)),(C.acc,lob ([]) (0)),(C.dc,dcO [116] none)] ++ [(cs,cellO (.ref sl)),(cf,cellO (.ref fl)),(sl,lob sv ns),(fl,lob (fixV k0) 0)])
      (fun z : List Int × List Value × ((Int × Tok) × Value) => Ints z.1 z.2.1 ∧ z.1.length = 7) (fun _ => .ok .next) (fun z => [(C.it,ritO (7) (0)),(C.acc,lob (z.2.1) (z.2.1.length)),(C.dc,dcO [116] (some z.2.2))] ++ [(cs,cellO (.ref sl)),(cf,cellO (.ref fl)),(sl,lob sv ns),(fl,lob (fixV k0) 0)]) (fun _ => []) := by
  obtain ⟨si,hsi⟩ := hs
  have key := comp_st0 (G := e.G) (D := D) (c := (lawL e xCells C fr [(sOf [115,99,114,105,112,116],cs),(sOf [102,105,120,101,100],cf)])) (S := List Int)
    (L := fun i ys b _ => ([(C.it,ritO (i) (7 - i)),(C.acc,lob (ys) (ys.length)),(C.dc,dcO [116] b)] ++ [(cs,cellO (.ref sl)),(cf,cellO (.ref fl)),(sl,lob sv ns),(fl,lob (fixV k0) 0)]))
    (P := fun ys b _ => ([(C.it,ritO (7) (0)),(C.acc,lob (ys) (ys.length)),(C.dc,dcO [116] b)] ++ [(cs,cellO (.ref sl)),(cf,cellO (.ref fl)),(sl,lob sv ns),(fl,lob (fixV k0) 0)])) (N := 7) (fun i ys s => Ints s ys ∧ s.length = i) [] ⟨rfl,rfl⟩
    (fun i ys b s hi hv _ _ _ _ _ next => by
      obtain ⟨a,ta,ha⟩ := fix_at k0 i hi
      obtain ⟨s2,h2⟩ := ints_pick hsi (some (.ofNat i)) none (some 7)
      have ek : 7 - i = (7 - (i + 1)) + 1 := by omega
      rw [ek]
      refine cells_turn hD ha hl h2 (small_size (by rw [hv.1.len,hv.2]; omega)) fun g j1 r j2 => ?_
      have hnx := next (ys ++ [.int r j2]) (g,.int (.ofNat i) j1) (s ++ [r]) ⟨hv.1.snoc,by rw [List.length_append,hv.2]; rfl⟩
      rw [List.length_append] at hnx
      exact hnx)
    (fun ys b s _ => by rw [Nat.sub_self]; exact cells_end hD)
  refine walk (tn [1] [.stop]) (by omega) ?_; intro A₀ R₀ h₀ sz0 tk0 a0 ad aD fin gd mm o
  exact tail_same a0 [0,0,0,0,0,0,0] key ad (by kernel_rfl) (by kernel_rfl) (fun z s' hz p1 p2 => by
    obtain ⟨ys,b,s⟩ := z
    obtain ⟨⟨h1,h2⟩,h3⟩ := hz
    obtain ⟨g,hg⟩ := Option.isSome_iff_exists.mp (h3.1 (by decide))
    simp only at hg
    subst hg
    exact fin (s,ys,g) s' ⟨h1,h2⟩ p1 p2)
end
end Mine
end
section
open PySem PySem.W PySem.W.X PyProof.Rows
open PySem (slicePick)
set_option genInjectivity false
set_option genCtorIdx false
set_option backward.match.sparseCases false
namespace Mine
noncomputable def evensN {α : Type} (a : Nat) : List α → List α
  | [] => []
  | x :: l => match a with
    | 0 => x :: evensN 1 l
    | _ => evensN 0 l
theorem len_succ {α : Type} {l : List α} {n : Nat} (h : l.length = n + 1) : ∃ x t,l = x :: t ∧ t.length = n := by
  cases l with
  | nil => cases h
  | cons x t => exact ⟨x,t,rfl,Nat.succ.inj h⟩
noncomputable def evensP (a : Nat) (vs : List Value) : Prop := (slicePick ⟨vs⟩ (some (.ofNat a)) none (some 2)).toList = evensN a vs
theorem pick_8 {a : Nat} {vs : List Value} (ha : a = 0 ∨ a = 1) (h : vs.length = 8) : evensP a vs := by
  obtain ⟨x0,l0,rfl,h0⟩ := len_succ h
  obtain ⟨x1,l1,rfl,h1⟩ := len_succ h0
  obtain ⟨x2,l2,rfl,h2⟩ := len_succ h1
  obtain ⟨x3,l3,rfl,h3⟩ := len_succ h2
  obtain ⟨x4,l4,rfl,h4⟩ := len_succ h3
  obtain ⟨x5,l5,rfl,h5⟩ := len_succ h4
  obtain ⟨x6,l6,rfl,h6⟩ := len_succ h5
  obtain ⟨x7,l7,rfl,h7⟩ := len_succ h6
  obtain rfl := List.length_eq_zero_iff.mp h7
  rcases ha with rfl | rfl
  · show (_ : List Value) = _; kernel_rfl
  · show (_ : List Value) = _; kernel_rfl
theorem pick_12 {a : Nat} {vs : List Value} (ha : a = 0 ∨ a = 1) (h : vs.length = 12) : evensP a vs := by
  obtain ⟨x0,l0,rfl,h0⟩ := len_succ h
  obtain ⟨x1,l1,rfl,h1⟩ := len_succ h0
  obtain ⟨x2,l2,rfl,h2⟩ := len_succ h1
  obtain ⟨x3,l3,rfl,h3⟩ := len_succ h2
  obtain ⟨x4,l4,rfl,h4⟩ := len_succ h3
  obtain ⟨x5,l5,rfl,h5⟩ := len_succ h4
  obtain ⟨x6,l6,rfl,h6⟩ := len_succ h5
  obtain ⟨x7,l7,rfl,h7⟩ := len_succ h6
  obtain ⟨x8,l8,rfl,h8⟩ := len_succ h7
  obtain ⟨x9,l9,rfl,h9⟩ := len_succ h8
  obtain ⟨x10,l10,rfl,h10⟩ := len_succ h9
  obtain ⟨x11,l11,rfl,h11⟩ := len_succ h10
  obtain rfl := List.length_eq_zero_iff.mp h11
  rcases ha with rfl | rfl
  · show (_ : List Value) = _; kernel_rfl
  · show (_ : List Value) = _; kernel_rfl
theorem evens_map : ∀ {ss : List (List Nat)} {vs : List Value} (a : Nat),Strs ss vs → Strs (evensN a ss) (evensN a vs)
  | [],_,_,h => by cases h; exact rfl
  | x :: l,_,0,h => by
    obtain ⟨t,vs,rfl,h⟩ := h
    exact ⟨t,_,rfl,evens_map 1 h⟩
  | x :: l,_,a + 1,h => by
    obtain ⟨t,vs,rfl,h⟩ := h
    exact evens_map 0 h
theorem evens_strs {a : Nat} {ss : List (List Nat)} {vs : List Value} (h : Strs ss vs) (ha : a = 0 ∨ a = 1) (hl : ss.length = 8 ∨ ss.length = 12) : Strs (evensN a ss) (slicePick ⟨vs⟩ (some (.ofNat a)) none (some 2)).toList := by
  have e : evensP a vs := by
    rcases hl with hl | hl
    · exact pick_8 ha (h.len.trans hl)
    · exact pick_12 ha (h.len.trans hl)
  unfold evensP at e
  rw [e]
  exact evens_map a h
end Mine
end
section
open PySem PySem.W PySem.W.X PyProof.Rows
set_option genInjectivity false
set_option genCtorIdx false
set_option backward.match.sparseCases false
namespace Mine
open PySem (slicePick)
noncomputable def spotN (base w k : Nat) : List Nat := oct (base + k / w) ++ oct (base + k % w)
theorem len_two {α : Type} {l : List α} (h : l.length = 2) : ∃ a b,l = [a,b] := by
  match l,h with
  | [a,b],_ => exact ⟨a,b,rfl⟩
theorem Strs.append : ∀ {a b : List (List Nat)} {x y : List Value},Strs a x → Strs b y → Strs (a ++ b) (x ++ y)
  | [],b,x,y,h1,h2 => by cases h1; exact h2
  | c :: a,b,x,y,h1,h2 => by
    obtain ⟨k,x',rfl,h1'⟩ := h1
    exact ⟨k,x' ++ y,rfl,h1'.append h2⟩
theorem quads_of {wf sf : Nat → List Nat} : ∀ {ord : List Nat} {vs : List Value},Strs (ord.flatMap fun k => [wf k,sf k]) vs → ∃ Q : List Quad,vs = QL Q ∧ QuadsOf wf sf ord Q
  | [],vs,h => by cases h; exact ⟨[],rfl,rfl⟩
  | k :: ord,vs,h => by
    obtain ⟨t,vs1,rfl,u,vs2,rfl,h'⟩ := h
    obtain ⟨Q,rfl,hQ⟩ := quads_of h'
    exact ⟨(sOf (wf k),t,sOf (sf k),u) :: Q,rfl,by unfold QuadsOf at *; rw [List.map_cons,List.map_cons,hQ]⟩
theorem fair_nil : Fair (sOf []) := ⟨by decide,fun i hi => absurd hi (Nat.not_lt_zero i)⟩
noncomputable def told2S : List Nat := [48,120,56,48,48,48,48,48,48,48,44,32,48,120,51,48,48,48,48,48,48,48,48]
theorem told2_eq : sOf (joinS [44,32] (pfq 32 (7 * 2 ^ 31))) = sOf told2S := by decide +kernel
theorem sg_exp (l : List Bool) : l.map expM = l.map sg := List.map_congr_left fun b _ => by cases b <;> rfl
theorem EqV.strE {Z : Led} {k : Nat} {x y : Str} {t u : Tok} (h : x = y) : EqV Z k (.str x t) (.str y u) := h ▸ EqV.str x t u
theorem eq_nones {Z : Led} {a b : Nat} : EqVs Z 0 (List.replicate a .none ++ List.replicate b .none) (List.replicate (a + b) .none) := by
  rw [List.replicate_append_replicate]
  exact ⟨rfl,fun j x y h1 h2 => by rw [h1] at h2; cases h2; exact EqV.same _⟩
structure LF (e : Env0) (c : List Int) where
  c6 : Int
  hc6 : c[6]? = some c6
  h : Nat
  w : Nat
  low : Nat
  base : Nat
  d1 : Bool
  d2 : Bool
  hd1 : (c6.fmod 3 == 2) = d1
  hd2 : (c6.fmod 3 == 1) = d2
  hh : (2 : Int) + .ofNat (bI d1) = .ofNat h
  hw : (2 : Int) + .ofNat (bI d2) = .ofNat w
  h2 : h ≤ 3
  w2 : w ≤ 3
  h0 : 2 ≤ h
  w0 : 2 ≤ w
  N46 : h * w = 4 ∨ h * w = 6
  h34 : (34 : Int) - .ofNat (h * w) = .ofNat (34 - h * w)
  hlow : ((c6.fdiv 10).fmod 100).fmod (.ofNat (34 - h * w)) = .ofNat low
  hbase : (c6.fdiv 1000).fmod 20000 = .ofNat base
  lowN : low + h * w ≤ 33
  baseN : base < 20000
  hB : ∀ t,t < h * w → freeB (orderN c (h * w) w t) (h * w) w ≠ []
  ordN : ∀ k ∈ orderN c (h * w) w (h * w),k < h * w
  ordL : (orderN c (h * w) w (h * w)).length = h * w
  mkL : (marksN c h w (h + w)).length = h + w
  sf10 : ∀ x ∈ (List.range (h * w)).map (spotN base w),x.length ≤ 10
  jl : JoinOk [] ((orderN c (h * w) w (h * w)).map fun k => word (low + k) ++ [32] ++ ((List.range (h * w)).map (spotN base w)).getD k [] ++ [10])
  js : JoinOk [] ((marksN c h w (h + w)).map shownM)
  fwL : ((orderN c (h * w) w (h * w)).flatMap fun k => [word (low + k),spotN base w k]).length = 2 * (h * w)
  s1len : (joinS [] ((orderN c (h * w) w (h * w)).map fun k => word (low + k) ++ [32] ++ ((List.range (h * w)).map (spotN base w)).getD k [] ++ [10]) ++ word (low + 0)).length ≤ sizeLine
  s1ne : joinS [] ((orderN c (h * w) w (h * w)).map fun k => word (low + k) ++ [32] ++ ((List.range (h * w)).map (spotN base w)).getD k [] ++ [10]) ++ word (low + 0) ≠ []
  s2len : (joinS [] ((marksN c h w (h + w)).map shownM) ++ [34,43]).length ≤ sizeLine
  s2ne : joinS [] ((marksN c h w (h + w)).map shownM) ++ [34,43] ≠ []
  fw_even : evensN 0 ((orderN c (h * w) w (h * w)).flatMap fun k => [word (low + k),spotN base w k]) = (orderN c (h * w) w (h * w)).map fun k => ((List.range (h * w)).map fun k => word (low + k)).getD k []
  fw_odd : evensN 1 ((orderN c (h * w) w (h * w)).flatMap fun k => [word (low + k),spotN base w k]) = (orderN c (h * w) w (h * w)).map fun k => ((List.range (h * w)).map (spotN base w)).getD k []
  lex1 : ∀ (D : Nat) (X : Lx) (R : Rx) (u : Tok) (vs : List Value),D + 500 ≤ recursionLimit → X.ins = .ref R.st → Signs (joinS [] ((orderN c (h * w) w (h * w)).map fun k => word (low + k) ++ [32] ++ ((List.range (h * w)).map (spotN base w)).getD k [] ++ [10]) ++ word (low + 0)) vs →
    ∃ A : Nat → Rs → Prop,A 0 ⟨.int (.ofNat 1) u,[],0,vs.reverse,(joinS [] ((orderN c (h * w) w (h * w)).map fun k => word (low + k) ++ [32] ++ ((List.range (h * w)).map (spotN base w)).getD k [] ++ [10]) ++ word (low + 0)).length⟩ ∧
      Step e D X R A (fun i => ((orderN c (h * w) w (h * w)).flatMap fun k => [word (low + k),spotN base w k]).getD i []) (2 * (h * w)) ∧
      ∀ s,A (2 * (h * w)) s → s.q = [] ∧ (∃ t,s.ln = .int (.ofNat (h * w + 1)) t) ∧ ∀ (q : List Value) (m : Nat),Strs ((orderN c (h * w) w (h * w)).flatMap fun k => [word (low + k),spotN base w k]) q →
        ∃ A2 : Nat → Rs → Prop,A2 0 ⟨s.ln,q,m,s.cs,s.n⟩ ∧ Step e D X R A2 (fun i => ((orderN c (h * w) w (h * w)).flatMap (fun k => [word (low + k),spotN base w k]) ++ [word (low + 0),[]]).getD i []) (2 * (h * w) + 2)
  lex2 : ∀ (D : Nat) (X : Lx) (R : Rx) (u : Tok) (vs : List Value),D + 500 ≤ recursionLimit → X.ins = .ref R.st → Signs (joinS [] ((marksN c h w (h + w)).map shownM) ++ [34,43]) vs →
    ∃ A : Nat → Rs → Prop,A 0 ⟨.int (.ofNat 1) u,[],0,vs.reverse,(joinS [] ((marksN c h w (h + w)).map shownM) ++ [34,43]).length⟩ ∧
      Step e D X R A (fun i => ((marksN c h w (h + w)).map sg).getD i []) (marksN c h w (h + w)).length ∧
      ∀ s,A (marksN c h w (h + w)).length s → s.q = [] ∧ (∃ t,s.ln = .int (.ofNat 1) t) ∧ ∀ (q : List Value) (m : Nat),Strs ((marksN c h w (h + w)).map sg) q →
        ∃ A2 : Nat → Rs → Prop,A2 0 ⟨s.ln,q,m,s.cs,s.n⟩ ∧ Step e D X R A2 (fun i => ((marksN c h w (h + w)).map sg ++ [[43],[]]).getD i []) ((marksN c h w (h + w)).length + 2) ∧
          ∀ s,A2 ((marksN c h w (h + w)).length + 2) s → ∃ t,s.ln = .int (.ofNat 1) t
  pw2 : 2 ^ (h * w) - 1 < 2 ^ 60
  F1 : (2 ^ (h * w) - 1) * 2 ^ low < 2 ^ 34
  J1 : JoinOk [44,32] (pfq 32 ((2 ^ (h * w) - 1) * 2 ^ low))
  J31 : JoinOk [44,32] (pfq 32 (7 * 2 ^ 31))
  jw : JoinOk [44,32] ((List.range (h * w)).map fun k => word (low + k))
  told1 : sOf (joinS [44,32] (pfq 32 ((2 ^ (h * w) - 1) * 2 ^ low))) = sOf (joinS [44,32] ((List.range (h * w)).map fun k => word (low + k)))
  W0 : Word (sOf (word (low + 0)))
  BGF : BG e w (fun k => word (low + k)) (spotN base w) (h * w)
  low50 : low < 50
  runs : ∀ Y : Gd,Y.I.low = low → Y.I.wide = w → Y.I.base = base → Y.mks = marksN c h w (h + w) → Runs h Y (fun k => word (low + k)) (h * w) (orderN c (h * w) w (h * w)) (h * w) (marksN c h w (h + w)) (h + w) 0 (marksN c h w (h + w)) (hitsF (dueN (marksN c h w (h + w)) h w) (orderN c (h * w) w (h * w))) 0
  rc0 : (rowsN (marksN c h w (h + w)) h w h).length ≤ (colsN (marksN c h w (h + w)) w w).length
  nd : (orderN c (h * w) w (h * w)).Nodup
  hits2 : (hitsF (dueN (marksN c h w (h + w)) h w) (orderN c (h * w) w (h * w))).length ≤ 2
namespace LF
variable {e : Env0} {c : List Int} (L : LF e c)
noncomputable abbrev wf (k : Nat) : List Nat := word (L.low + k)
noncomputable abbrev sf : Nat → List Nat := spotN L.base L.w
noncomputable abbrev ord : List Nat := orderN c (L.h * L.w) L.w (L.h * L.w)
noncomputable abbrev mks : List Bool := marksN c L.h L.w (L.h + L.w)
noncomputable abbrev due0 : List Nat := dueN L.mks L.h L.w
noncomputable abbrev lines : List (List Nat) := L.ord.map fun k => word (L.low + k) ++ [32] ++ ((List.range (L.h * L.w)).map L.sf).getD k [] ++ [10]
noncomputable abbrev txt : List Nat := joinS [] L.lines
noncomputable abbrev shw : List Nat := joinS [] (L.mks.map shownM)
noncomputable abbrev fw : List (List Nat) := L.ord.flatMap fun k => [word (L.low + k),L.sf k]
theorem range_getD (l : List (List Nat)) (n : Nat) (h : l.length = n) : (List.range n).map (fun i => l.getD i []) = l := by
  subst h
  apply List.ext_getElem
  · simp
  · intro i h1 h2
    simp at h1
    simp [h1]
theorem rl_range : (List.range (2 * (L.h * L.w) + 2)).map (fun i => (L.fw ++ [L.wf 0,[]]).getD i []) = L.fw ++ [L.wf 0,[]] := range_getD _ _ (by rw [List.length_append,L.fwL]; rfl)
theorem rr_range : (List.range (L.mks.length + 2)).map (fun i => (L.mks.map sg ++ [[43],[]]).getD i []) = L.mks.map sg ++ [[43],[]] := range_getD _ _ (by simp)
theorem nz : (Int.ofNat (34 - L.h * L.w)) ≠ 0 := by
  have := L.N46
  intro h
  rcases this with h4 | h4
  all_goals
    rw [h4] at h
    exact absurd h (by decide)
theorem pw1 : (Int.ofNat (2 ^ (L.h * L.w))) - 1 = .ofNat (2 ^ (L.h * L.w) - 1) := by
  have : 1 ≤ 2 ^ (L.h * L.w) := Nat.one_le_two_pow
  show ((2 ^ (L.h * L.w) : Nat) : Int) - ((1 : Nat) : Int) = ((2 ^ (L.h * L.w) - 1 : Nat) : Int)
  rw [Int.ofNat_sub this]
theorem fw_range : (List.range (2 * (L.h * L.w))).map (fun i => L.fw.getD i []) = L.fw := range_getD _ _ L.fwL
theorem sg_range : (List.range L.mks.length).map (fun i => (L.mks.map sg).getD i []) = L.mks.map sg := range_getD _ _ (by simp)
end LF
inductive Tri (a b c : Prop) : Prop
  | a (h : a)
  | b (h : b)
  | c (h : c)
theorem tri_of {a b c : Prop} : a ∨ b ∨ c → Tri a b c
  | .inl h => .a h
  | .inr (.inl h) => .b h
  | .inr (.inr h) => .c h
structure TgP (ps : List Pair) : Type where
noncomputable def TgP.ps {ps : List Pair} (_ : TgP ps) : List Pair := ps
noncomputable def TgP.k {ps : List Pair} (_ : TgP ps) : Nat := ps.length
noncomputable def ixF (k : Nat) : List Nat := [0,14 + 2 * k,5 + 2 * k,1] ++ List.replicate 4 (49 + 2 * k) ++ List.replicate 4 (43 + 2 * k) ++ [118 + 2 * k,118 + 2 * k,7 + 2 * k,5 + 2 * k,6 + 2 * k,5 + 2 * k,5 + 2 * k,84 + 2 * k,86 + 2 * k,86 + 2 * k,7 + 2 * k,7 + 2 * k,1] ++ List.replicate k 2
theorem eq_ps {wf sf : Nat → List Nat} {l : List (Nat × Nat)} {ps ps2 : List Pair} (h : HasPs wf sf ps l) (h2 : HasPs wf sf ps2 l) (hl : ps.length ≤ 2) (o o2 : Addr × Obj) : EqVs ([o,o2] ++ (ps.map Pair.ob ++ ps2.map Pair.ob)) 1 (refsP ps) (refsP ps2) := by
  have hl2 := h2.len.trans h.len.symm
  have hpp := h.trans h2.symm
  rcases ps with _ | ⟨p1,_ | ⟨p2,_ | ⟨p3,psr⟩⟩⟩
  · obtain rfl := List.length_eq_zero_iff.mp hl2
    exact EqVs.nil
  · obtain ⟨r1,rfl⟩ := List.length_eq_one_iff.mp hl2
    simp only [List.map_cons,List.map_nil,List.cons.injEq,Prod.mk.injEq,and_true] at hpp
    exact EqVs.cons (EqV.tuples' (mem_ix 2 rfl) (mem_ix 3 rfl) (EqVs.cons (EqV.strE hpp.1) (EqVs.cons (EqV.strE hpp.2) EqVs.nil))) EqVs.nil
  · obtain ⟨r1,r2,rfl⟩ := len_two hl2
    simp only [List.map_cons,List.map_nil,List.cons.injEq,Prod.mk.injEq,and_true] at hpp
    exact EqVs.cons (EqV.tuples' (mem_ix 2 rfl) (mem_ix 4 rfl) (EqVs.cons (EqV.strE hpp.1.1) (EqVs.cons (EqV.strE hpp.1.2) EqVs.nil))) (EqVs.cons (EqV.tuples' (mem_ix 3 rfl) (mem_ix 5 rfl) (EqVs.cons (EqV.strE hpp.2.1) (EqVs.cons (EqV.strE hpp.2.2) EqVs.nil))) EqVs.nil)
  · simp at hl
set_option maxHeartbeats 0 in
theorem law_walk {e : Env0} {D : Nat} {xl : Addr} {sv0 : List Value} {nx : Nat} (hD : D + 650 ≤ recursionLimit) (hC : 8 * D + 2500 < cLine) (hsv : ∃ si,Ints si sv0) (hsl : sv0.length ≤ 1000) (PL : ∀ c : List Int,c.length = 7 → LF e c) :
    DoesL e.G D (.call (.ref 356) ⟨[.ref xl],[]⟩) [(xl,lob sv0 nx),(312,tabO [])] (fun _ : Addr => True) (fun _ => retV (.bool true)) (fun co => [(xl,lob sv0 nx),(312,tab1 co)]) :=
  doesL_of (by omega) fun A₀ R₀ h₀ a0 aD fin => by
    refine walkR a0 aD (ts [1,0,12,12,0,12,12,0,0,1,1,1,1,1,1,1001,1] <| ts [1] <| ts [19,19,3,3,3,0,0,19,2,2,2,2] <| ts [] <| ts [1001] <| ts [] <| ts [] <| ts [0,0,19,1,1,1,1] <| ts [] <| ts [1001] <| ts [] <| ts [] <| ts [1,1,1,1001,1,1,1,1,1,1,2,1,1,1,1,1,1,2,1,1,1,1,1,1,2,1,1,1,23,23,22,22,23,5,5,5,5] <| ts [] <| ts [] <| ts [23,22] <| ts [] <| ts [] <| ts [23,1,1,1,1] <| ts [] <| ts [] <| ts [1,1,1,1001,1,1,1,1,1,1,2,1,1,1,1,1,1,2,1,1,1,1,1,1,2,1,1,1,25,25,24,24,0,27,27,26,0] <| ts [0,28,28,27,0] <| ts [1,1,1,1001,1,1,1,1,1,1,2,1,1,1,1,1,1,2,1,1,1,1,1,1,2,1,1,1,33,33,33,33,0,0,33,32] <| ts [1,1,1,1,1,1,1001,1] <| ts [1] <| ts [3,3,3,34,34,0,0,37,36] <| ts [1,1,1,1,1,1,1001,1] <| ts [1] <| ts [3,3,3,39,39,41,18,18,1001,18,1] <| ts [4,4,4] <| ts [44,44,44,21,21,1001,21,1] <| ts [4,4,4] <| ts [47,47,0,47,46,18,18,18,18] <| ts [] <| ts [0] <| ts [0,57] <| ts [0] <| ts [1,1,1,1001,1,1,1,1,1,1,2,1,1,1,1,1,1,2,1,1,1,1,1,1,2,1,1,1,67,67,66,66,0,0,0,0,69] <| ts [] <| ts [1,1,1,1,1,1,1001,1] <| ts [1] <| ts [73,73,3,3,3,73,32,32,1001,32,1] <| ts [76,76,4,4,4,76,17,17,17,17] <| ts [78,3,3,3,3] <| ts [81,33,33,1001,33,1] <| ts [4,4,4,84,2,2,1001,2,1] <| tn [4,4,4] [.mid 0]) ?_; intro gd mm sz0 tk0 o
    refine mm [0] (riter_does (r := (sz0 + 14)) (n := 7) (t := (tk0 + 8)) (u := (tk0 + 7)) (w := (tk0 + 9)) (by decide)) ?_; intro o ai0 sz1 tk1 _
    refine mm [2,1,0,13,12,13,1] (cells_all (e := e) (D := D + 50) (C := ⟨ai0,sz1,sz1 + 1⟩) (fr := sz0) (cs := sz0 + 1) (cf := sz0 + 2) (sl := xl) (fl := sz0 + 13) (sv := sv0) (ns := nx) (k0 := (fun i => tk0 + i)) (by omega) hsv hsl) ?_; intro o z1 sz2 tk2 hz1
    obtain ⟨cl,cv,cb⟩ := z1
    obtain ⟨hz1,hl1⟩ := hz1
    simp only at hz1 hl1
    have L := PL cl hl1
    obtain ⟨t6,g6⟩ := hz1.at L.hc6
    have q6 : cv.length ≤ sizeLine := small_size (by rw [hz1.len,hl1]; decide)
    have LN := L.N46
    have Lh := L.h2
    have Lw := L.w2
    have Lh0 := L.h0
    have Lw0 := L.w0
    have Llow := L.lowN
    have Lb := L.baseN
    refine mm [1] (getit_does (l := sz1) (xs := cv) (n := cv.length) (j := 6) (u := (tk2 + 2)) (v := .int L.c6 t6) g6 q6) ?_; intro o _ sz3 tk3 _
    refine mm [] (imod_does (a := L.c6) (b := 3) (r := L.c6.fmod 3) (t := t6) (u := tk3) ⟨rfl,by decide⟩) ?_; intro o k3 sz4 tk4 _
    refine mm [] (ieq_does (a := L.c6.fmod 3) (b := 2) (c := L.d1) (t := k3) (u := tk4) L.hd1) ?_; intro o _ sz5 tk5 _
    refine mm [] (intb_does (c := L.d1) (by omega)) ?_; intro o k5 sz6 tk6 _
    refine mm [] (iadd_does (a := 2) (b := .ofNat (bI L.d1)) (r := .ofNat L.h) (t := (tk2 + 1)) (u := k5) L.hh) ?_; intro o k6 sz7 tk7 _
    refine mm [0] (getit_does (l := sz1) (xs := cv) (n := cv.length) (j := 6) (u := (tk7 + 1)) (v := .int L.c6 t6) g6 q6) ?_; intro o _ sz8 tk8 _
    refine mm [] (imod_does (a := L.c6) (b := 3) (r := L.c6.fmod 3) (t := t6) (u := tk8) ⟨rfl,by decide⟩) ?_; intro o k8 sz9 tk9 _
    refine mm [] (ieq_does (a := L.c6.fmod 3) (b := 1) (c := L.d2) (t := k8) (u := tk9) L.hd2) ?_; intro o _ sz10 tk10 _
    refine mm [] (intb_does (c := L.d2) (by omega)) ?_; intro o k10 sz11 tk11 _
    refine mm [] (iadd_does (a := 2) (b := .ofNat (bI L.d2)) (r := .ofNat L.w) (t := tk7) (u := k10) L.hw) ?_; intro o k11 sz12 tk12 _
    refine mm [4] (getit_does (l := sz1) (xs := cv) (n := cv.length) (j := 6) (u := (tk12 + 1)) (v := .int L.c6 t6) g6 q6) ?_; intro o _ sz13 tk13 _
    refine mm [] (idiv_does (a := L.c6) (b := .ofNat 10) (r := L.c6.fdiv 10) (t := t6) (u := tk13) ⟨rfl,by decide,short_div (by decide)⟩) ?_; intro o k13 sz14 tk14 _
    refine mm [] (imod_does (a := L.c6.fdiv 10) (b := .ofNat 100) (r := (L.c6.fdiv 10).fmod 100) (t := k13) (u := tk14) ⟨rfl,by decide⟩) ?_; intro o k14 sz15 tk15 _
    refine mm [] (imul_does (a := .ofNat L.h) (b := .ofNat L.w) (r := .ofNat (L.h * L.w)) (t := k6) (u := k11) (mul_nat (by omega))) ?_; intro o k15 sz16 tk16 _
    refine mm [] (isub_does (a := 34) (b := .ofNat (L.h * L.w)) (r := .ofNat (34 - L.h * L.w)) (t := tk15) (u := k15) L.h34) ?_; intro o k16 sz17 tk17 _
    refine mm [] (imod_does (a := (L.c6.fdiv 10).fmod 100) (b := .ofNat (34 - L.h * L.w)) (r := .ofNat L.low) (t := k14) (u := k16) ⟨L.hlow,L.nz⟩) ?_; intro o k17 sz18 tk18 _
    refine mm [0] (getit_does (l := sz1) (xs := cv) (n := cv.length) (j := 6) (u := tk18) (v := .int L.c6 t6) g6 q6) ?_; intro o _ sz19 tk19 _
    refine mm [] (idiv_does (a := L.c6) (b := .ofNat 1000) (r := L.c6.fdiv 1000) (t := t6) (u := tk19) ⟨rfl,by decide,short_div (by decide)⟩) ?_; intro o k19 sz20 tk20 _
    refine mm [] (imod_does (a := L.c6.fdiv 1000) (b := .ofNat 20000) (r := .ofNat L.base) (t := k19) (u := tk20) ⟨L.hbase,by decide⟩) ?_; intro o k20 sz21 tk21 _
    refine mm [4] (order_does (e := e) (D := D + 50) (xl := sz1) (h := L.h) (th := k6) (w := L.w) (tw := k11) (xs := cl) (xv := cv) (nx := cv.length) (by omega) (by omega) (by omega) (by omega) (by omega) L.hB hz1 (by omega) (by omega)) ?_; intro o z21 sz22 tk22 hz21
    refine mm [1] (marks_does (e := e) (D := D + 50) (xl := sz1) (h := L.h) (th := k6) (w := L.w) (tw := k11) (xs := cl) (xv := cv) (nx := cv.length) (by omega) hz1 (by rw [hl1]; omega) (by omega)) ?_; intro o a22 sz23 tk23 _
    refine mm [] (imul_does (a := .ofNat L.h) (b := .ofNat L.w) (r := .ofNat (L.h * L.w)) (t := k6) (u := k11) (mul_nat (by omega))) ?_; intro o k23 sz24 tk24 _
    refine mm [0] (riter_does (r := sz24) (n := (L.h * L.w)) (t := tk24) (u := k23) (w := (tk24 + 1)) (by omega)) ?_; intro o a24 sz25 tk25 _
    refine mm [2,1,0,31] (words_all (e := e) (D := D + 50) (C := ⟨a24,sz25,sz25 + 1⟩) (fr := sz0) (cl := sz0 + 4) (low := L.low) (tl := k17) (n := (L.h * L.w)) (by omega) (by omega) (by omega)) ?_; intro o z25 sz26 tk26 hz25
    obtain ⟨z25l,z25b⟩ := z25
    obtain ⟨hz25,htz25⟩ := hz25
    obtain ⟨bz25,ebz25⟩ := Option.isSome_iff_exists.mp (htz25.1 (by omega))
    simp only at ebz25 hz25
    subst ebz25
    refine mm [] (imul_does (a := .ofNat L.h) (b := .ofNat L.w) (r := .ofNat (L.h * L.w)) (t := k6) (u := k11) (mul_nat (by omega))) ?_; intro o k26 sz27 tk27 _
    refine mm [0] (riter_does (r := sz27) (n := (L.h * L.w)) (t := tk27) (u := k26) (w := (tk27 + 1)) (by omega)) ?_; intro o a27 sz28 tk28 _
    refine mm [2,1,0,36,35] (spots_all (e := e) (D := D + 50) (C := ⟨a27,sz28,sz28 + 1⟩) (fr := sz0) (cw := sz0 + 3) (cb := sz0 + 5) (base := L.base) (w := L.w) (tw := k11) (tb := k20) (n := (L.h * L.w)) (by omega) (by omega) (by omega) (by omega) (by omega)) ?_; intro o z28 sz29 tk29 hz28
    obtain ⟨z28l,z28b⟩ := z28
    obtain ⟨hz28,htz28⟩ := hz28
    obtain ⟨bz28,ebz28⟩ := Option.isSome_iff_exists.mp (htz28.1 (by omega))
    simp only at ebz28 hz28
    subst ebz28
    have hks : ∀ k ∈ L.ord,k < ((List.range (L.h * L.w)).map L.sf).length ∧ L.low + k < 33 := fun k hk => by have := L.ordN k hk; simp; omega
    refine mm [2,19,1,0,37,9,1] (text_all (e := e) (D := D + 50) (C := ⟨sz29,sz29 + 1,sz29 + 2⟩) (fr := sz0) (cs := sz0 + 7) (cl := sz0 + 4) (low := L.low) (tl := k17) (ll := z21.1) (nl := z21.2.length) (lv := z21.2) (sl := sz28) (ns := z28l.length) (sv := z28l) (ks := L.ord) (ss := (List.range (L.h * L.w)).map L.sf) (by omega) hz21 (by rw [L.ordL]; omega) hz28 (by simp; omega) hks L.sf10) ?_; intro o z29 sz30 tk30 hz29
    obtain ⟨z29l,z29b⟩ := z29
    obtain ⟨hz29,htz29⟩ := hz29
    obtain ⟨bz29,ebz29⟩ := Option.isSome_iff_exists.mp (htz29.1 (by rw [L.ordL]; omega))
    simp only at ebz29 hz29
    subst ebz29
    refine mm [2] (join_does (sep := []) (ss := L.lines) (t := tk29) (l := (sz29 + 1)) (vs := z29l) (n := z29l.length) hz29 L.jl) ?_; intro o k30 sz31 tk31 _
    refine mm [2,22,1,0] (shown_all (e := e) (D := D + 50) (C := ⟨sz31,sz31 + 1,sz31 + 2⟩) (fr := sz0) (ll := a22) (nl := L.mks.length) (bs := L.mks) (by omega) (by rw [L.mkL]; omega)) ?_; intro o z31 sz32 tk32 hz31
    obtain ⟨z31l,z31b⟩ := z31
    obtain ⟨hz31,htz31⟩ := hz31
    obtain ⟨bz31,ebz31⟩ := Option.isSome_iff_exists.mp (htz31.1 (by rw [L.mkL]; omega))
    simp only at ebz31 hz31
    subst ebz31
    refine mm [2] (join_does (sep := []) (ss := L.mks.map shownM) (t := (tk31 + 1)) (l := (sz31 + 1)) (vs := z31l) (n := z31l.length) hz31 L.js) ?_; intro o k32 sz33 tk33 _
    obtain ⟨t33,g33⟩ := hz25.at (range_at (f := L.wf) (k := 0) (N := L.h * L.w) (by omega))
    have q33 : z25l.length ≤ sizeLine := small_size (by rw [hz25.len]; simp; omega)
    have q28 : z28l.length ≤ sizeLine := small_size (by rw [hz28.len]; simp; omega)
    refine mm [17] (getit_does (l := sz25) (xs := z25l) (n := z25l.length) (j := 0) (u := (tk33 + 1)) (v := .str (sOf (L.wf 0)) t33) g33 q33) ?_; intro o _ sz34 tk34 _
    refine mm [] (adds_does (x := L.txt) (y := L.wf 0) (t := k30) (u := t33) L.s1len) ?_; intro o k34 sz35 tk35 _
    refine mm [47] (lexer1 (e := e) (D := D + 50) (s := L.txt ++ L.wf 0) (t := k34) (by omega) L.s1len L.s1ne) ?_; intro o z35 sz36 tk36 hz35
    refine mm [] (adds_does (x := L.shw) (y := [34,43]) (t := k32) (u := tk36) L.s2len) ?_; intro o k36 sz37 tk37 _
    refine mm [9,6] (lexer2 (e := e) (D := D + 50) (R₁ := z35.R) (s := L.shw ++ [34,43]) (t := k36) (by omega) L.s2len L.s2ne) ?_; intro o z37 sz38 tk38 hz37
    refine mm [29] (len_does (l := z21.1) (xs := z21.2) (n := z21.2.length) (m := (L.h * L.w)) (by rw [hz21.len,natI_len,L.ordL]) (by omega)) ?_; intro o k38 sz39 tk39 _
    refine mm [] (imul_does (a := .ofNat 2) (b := .ofNat (L.h * L.w)) (r := .ofNat (2 * (L.h * L.w))) (t := tk38) (u := k38) (mul_nat (by omega))) ?_; intro o k39 sz40 tk40 _
    refine mm [0] (riter_does (r := sz40) (n := (2 * (L.h * L.w))) (t := tk40) (u := k39) (w := (tk40 + 1)) (by omega)) ?_; intro o a40 sz41 tk41 _
    obtain ⟨A1,hA1,hS1,hE1⟩ := L.lex1 (D + 100) z35.X z35.R z35.u z35.vs (by omega) hz35.2 hz35.1
    obtain ⟨A3,hA3,hS3,hE3⟩ := L.lex2 (D + 100) z37.X z37.R z37.u z37.vs (by omega) hz37.2.1 hz37.1
    refine mm [2,1,0,67,16,16,16,16,16,16,15,15,15] (first_all (e := e) (D := D + 50) (C := ⟨a40,sz41,sz41 + 1⟩) (fr := sz0) (cl := sz0 + 8) (X := z35.X) (R := z35.R) (N := 2 * (L.h * L.w)) (x := fun i => L.fw.getD i []) (A := A1) (s0 := ⟨.int (.ofNat 1) z35.u,[],0,z35.vs.reverse,(L.txt ++ L.wf 0).length⟩) (by omega) (by omega) hA1 hS1) ?_; intro o z41 sz42 tk42 hz41
    obtain ⟨z41l,z41b,s41⟩ := z41
    obtain ⟨⟨hz41,hs41⟩,ht41⟩ := hz41
    obtain ⟨b41,eb41⟩ := Option.isSome_iff_exists.mp (ht41.1 (by omega))
    simp only at eb41 hz41 hs41
    subst eb41
    rw [L.fw_range] at hz41
    obtain ⟨ln41,q41,m41,cs41,n41⟩ := s41
    obtain ⟨eq41,⟨u41,el41⟩,hE1⟩ := hE1 _ hs41
    simp only at eq41 el41
    subst eq41 el41
    obtain ⟨Q,eQ,hQ⟩ := quads_of (wf := L.wf) (sf := L.sf) hz41
    subst eQ
    refine mm [2,33,1,0,69,19,19,19,19,19,19,10,18,18] (signs_all' (co := z35.R.co) (ob := codeOb z35.R) hz37.2.2.1 hz37.2.2.2 (e := e) (D := D + 50) (C := ⟨sz42,sz42 + 1,sz42 + 2⟩) (fr := sz0) (cl := sz0 + 9) (X := z37.X) (R := z37.R) (ll := a22) (nl := L.mks.length) (lv := L.mks.map .bool) (N := L.mks.length) (x := fun i => (L.mks.map sg).getD i []) (A := A3) (s0 := ⟨.int (.ofNat 1) z37.u,[],0,z37.vs.reverse,(L.shw ++ [34,43]).length⟩) (by omega) rfl rfl (by rw [L.mkL]; omega) hA3 hS3) ?_; intro o z42 sz43 tk43 hz42
    obtain ⟨z42l,z42b,s42⟩ := z42
    obtain ⟨⟨hz42,hs42⟩,ht42⟩ := hz42
    obtain ⟨b42,eb42⟩ := Option.isSome_iff_exists.mp (ht42.1 (by rw [L.mkL]; omega))
    simp only at eb42 hz42 hs42
    subst eb42
    rw [L.sg_range] at hz42
    obtain ⟨ln42,q42,m42,cs42,n42⟩ := s42
    obtain ⟨eq42,⟨u42,el42⟩,hE3⟩ := hE3 _ hs42
    simp only at eq42 el42
    subst eq42 el42
    have q41 : (QL Q).length ≤ sizeLine := small_size (by rw [hz41.len,L.fwL]; omega)
    refine mm [16,0] (slice_does (l := sz41) (sl := sz43) (xs := (QL Q)) (n := (QL Q).length) (a := 0) (b := 2) (t1 := (tk43 + 1)) (t2 := (tk43 + 2)) (by decide) q41) ?_; intro o l43 sz44 tk44 _
    refine mm [2,0] (slice_does (l := sz41) (sl := sz44) (xs := (QL Q)) (n := (QL Q).length) (a := 1) (b := 2) (t1 := tk44) (t2 := (tk44 + 1)) (by decide) q41) ?_; intro o l44 sz45 tk45 _
    have hev := evens_strs (a := 0) hz41 (.inl rfl) (by rw [L.fwL]; omega)
    have hod := evens_strs (a := 1) hz41 (.inr rfl) (by rw [L.fwL]; omega)
    rw [L.fw_even] at hev
    rw [L.fw_odd] at hod
    refine mm [2,34,1,0,78,37] (ordw_all (e := e) (D := D + 50) (C := ⟨sz45 + 1,sz45 + 2,sz45 + 3⟩) (fr := sz0) (cs := sz0 + 6) (ll := z21.1) (nl := z21.2.length) (lv := z21.2) (sl := sz25) (ns := z25l.length) (sv := z25l) (ks := L.ord) (ss := (List.range (L.h * L.w)).map L.wf) (by omega) hz21 (by rw [L.ordL]; omega) hz25 (by simp; omega) (fun k hk => by have := L.ordN k hk; simpa using this)) ?_; intro o z45 sz46 tk46 hz45
    obtain ⟨z45l,z45b⟩ := z45
    obtain ⟨hz45,htz45⟩ := hz45
    obtain ⟨bz45,ebz45⟩ := Option.isSome_iff_exists.mp (htz45.1 (by rw [L.ordL]; omega))
    simp only at ebz45 hz45
    subst ebz45
    refine mm [2,3,1,0,48,49] (ords_all (e := e) (D := D + 50) (C := ⟨sz46,sz46 + 1,sz46 + 2⟩) (fr := sz0) (cs := sz0 + 7) (ll := z21.1) (nl := z21.2.length) (lv := z21.2) (sl := sz28) (ns := z28l.length) (sv := z28l) (ks := L.ord) (ss := (List.range (L.h * L.w)).map L.sf) (by omega) hz21 (by rw [L.ordL]; omega) hz28 (by simp; omega) (fun k hk => by have := L.ordN k hk; simpa using this)) ?_; intro o z46 sz47 tk47 hz46
    obtain ⟨z46l,z46b⟩ := z46
    obtain ⟨hz46,htz46⟩ := hz46
    obtain ⟨bz46,ebz46⟩ := Option.isSome_iff_exists.mp (htz46.1 (by rw [L.ordL]; omega))
    simp only at ebz46 hz46
    subst ebz46
    refine room_v a0 aD (by omega) (fun o => (codeOf o,sz45,sz47)) (siteFnRY 0 .NotEq 12) (siteFnTY 0 .NotEq 12) (ts [13,1,13,1001,13] <| ts [0,0,0,0,88] <| ts [] <| ts [] <| ts [56,0] <| ts [0] <| ts [0,0,0] <| ts [0] <| ts [89,89,89,15] <| tn [] [.mid 0]) (by kernel_rfl) (by kernel_rfl) (by kernel_rfl) (fun p acts h => siteFn_ok p acts h) ?_; intro o
    refine mm [12,0,14,11,7,2] (list_ne_does (l := sz45) (r := sz47) (xs := [.ref l43,.ref l44]) (ys := [.ref (sz45 + 2),.ref (sz46 + 1)]) (n := 0) (m := 0) (k := 1) (Z := [(l43,lob (slicePick ⟨(QL Q)⟩ (some 0) none (some 2)).toList 0),(l44,lob (slicePick ⟨(QL Q)⟩ (some 1) none (some 2)).toList 0),(sz45 + 2,lob z45l z45l.length),(sz46 + 1,lob z46l z46l.length)]) (by omega) (by omega) (EqVs.cons (EqV.lists' (mem_ix 2 rfl) (mem_ix 4 rfl) (EqVs.strs hev hz45)) (EqVs.cons (EqV.lists' (mem_ix 3 rfl) (mem_ix 5 rfl) (EqVs.strs hod hz46)) EqVs.nil))) ?_; intro o _ sz48 tk48 _
    refine mm [7] (len_does (l := z21.1) (xs := z21.2) (n := z21.2.length) (m := (L.h * L.w)) (by rw [hz21.len,natI_len,L.ordL]) (by omega)) ?_; intro o k48 sz49 tk49 _
    refine mm [] (pow_does (t := tk48) (n := (L.h * L.w)) (u := k48) L.N46) ?_; intro o k49 sz50 tk50 _
    refine mm [] (isub_does (a := .ofNat (2 ^ (L.h * L.w))) (b := 1) (r := .ofNat (2 ^ (L.h * L.w) - 1)) (t := k49) (u := tk50) L.pw1) ?_; intro o k50 sz51 tk51 _
    refine mm [] (op_lshift (e := e) (D := D + 50) (a := .ofNat (2 ^ (L.h * L.w) - 1)) (b := .ofNat L.low) (r := .ofNat ((2 ^ (L.h * L.w) - 1) * 2 ^ L.low)) (t := k50) (u := k17) (by omega) (shl_ok L.pw2 (by omega))) ?_; intro o k51 sz52 tk52 _
    refine mm [] (pretty_does (e := e) (D := D + 50) (F := (2 ^ (L.h * L.w) - 1) * 2 ^ L.low) (t := k51) (by omega) L.F1 L.J1) ?_; intro o k52 sz53 tk53 _
    refine mm [] (op_lshift (e := e) (D := D + 50) (a := .ofNat 7) (b := .ofNat 31) (r := .ofNat (7 * 2 ^ 31)) (t := tk53) (u := (tk53 + 1)) (by omega) (shl_ok (by decide) (by decide))) ?_; intro o k53 sz54 tk54 _
    refine mm [] (pretty_does (e := e) (D := D + 50) (F := 7 * 2 ^ 31) (t := k53) (by omega) (by decide) L.J31) ?_; intro o k54 sz55 tk55 _
    refine mm [15] (join_does (sep := [44,32]) (ss := (List.range (L.h * L.w)).map L.wf) (t := (tk55 + 1)) (l := sz25) (vs := z25l) (n := z25l.length) hz25 L.jw) ?_; intro o k55 sz56 tk56 _
    refine room_v a0 aD (by omega) (fun o => (codeOf o,sz55,sz56)) (siteFnRY 0 .NotEq 14) (siteFnTY 0 .NotEq 14) (ts [3,1,3,1001,3] <| ts [37,38,0,0,0,38,0,0,0,38,38,0,39,0,0,90] <| ts [] <| ts [1001] <| ts [90,90,22,22,1001,22,1] <| tn [4,4,4] [.mid 0]) (by kernel_rfl) (by kernel_rfl) (by kernel_rfl) (fun p acts h => siteFn_ok p acts h) ?_; intro o
    refine mm [2,0] (list_ne_does (l := sz55) (r := sz56) (xs := [.str (sOf (joinS [44,32] (pfq 32 ((2 ^ (L.h * L.w) - 1) * 2 ^ L.low)))) k52,.str (sOf (joinS [44,32] (pfq 32 (7 * 2 ^ 31)))) k54]) (ys := [.str (sOf (joinS [44,32] ((List.range (L.h * L.w)).map L.wf))) k55,.str (sOf told2S) tk56]) (n := 0) (m := 0) (k := 0) (Z := []) (by omega) (by omega) (EqVs.cons (EqV.strE L.told1) (EqVs.cons (EqV.strE told2_eq) EqVs.nil))) ?_; intro o _ sz57 tk57 _
    refine mm [3] (len_does (l := z21.1) (xs := z21.2) (n := z21.2.length) (m := (L.h * L.w)) (by rw [hz21.len,natI_len,L.ordL]) (by omega)) ?_; intro o k57 sz58 tk58 _
    refine mm [] (iadd_does (a := .ofNat (L.h * L.w)) (b := 1) (r := .ofNat ((L.h * L.w) + 1)) (t := k57) (u := tk58) rfl) ?_; intro o k58 sz59 tk59 _
    refine mm [] (ine_does (a := .ofNat (L.h * L.w + 1)) (b := .ofNat (L.h * L.w + 1)) (c := false) (t := u41) (u := k58) (by simp)) ?_; intro o _ sz60 tk60 _
    refine mm [2,23,1,0] (exp_all (e := e) (D := D + 50) (C := ⟨sz60,sz60 + 1,sz60 + 2⟩) (fr := sz0) (ll := a22) (nl := L.mks.length) (bs := L.mks) (by omega) (by rw [L.mkL]; omega)) ?_; intro o z60 sz61 tk61 hz60
    obtain ⟨z60l,z60b⟩ := z60
    obtain ⟨hz60,htz60⟩ := hz60
    obtain ⟨bz60,ebz60⟩ := Option.isSome_iff_exists.mp (htz60.1 (by rw [L.mkL]; omega))
    simp only at ebz60 hz60
    subst ebz60
    rw [sg_exp] at hz60
    refine room_v a0 aD (by omega) (fun o => (codeOf o,sz42 + 1,sz60 + 1)) (siteFnRY 2 .NotEq 15) (siteFnTY 2 .NotEq 15) (ts [26,3,26,1001,26] <| ts [93,23,23,1001,23,1] <| ts [4,4,4,96,9,9,1001,9,1] <| ts [4,4,4,11,3,11,11] <| ts [0,0,101,101,13,6,13,13] <| ts [] <| ts [4,4,4,4] <| tn [] [.mid 0]) (by kernel_rfl) (by kernel_rfl) (by kernel_rfl) (fun p acts h => siteFn_ok p acts h) ?_; intro o
    refine mm [25,2] (list_ne_does (l := sz42 + 1) (r := sz60 + 1) (xs := z42l) (ys := z60l) (n := z42l.length) (m := z60l.length) (k := 0) (Z := []) (by omega) (by omega) (EqVs.strs hz42 hz60)) ?_; intro o _ sz62 tk62 _
    refine mm [2,24,1,0,38,38,38,38] (pushl_all (e := e) (D := D + 50) (C := ⟨sz62,sz62 + 1,sz62 + 2⟩) (fr := sz0) (cl := sz0 + 8) (ll := sz41) (nl := (QL Q).length) (lv := (QL Q)) (X := z35.X) (ln := .int (.ofNat (L.h * L.w + 1)) u41) (q := []) (m := m41) (ss := L.fw) (by omega) hz41 (by rw [L.fwL]; omega) (by simp)) ?_; intro o z62 sz63 tk63 hz62
    obtain ⟨b62,rfl⟩ := Option.isSome_iff_exists.mp (hz62.1 (by rw [L.fwL]; omega))
    refine mm [2,10,1,0,33,33,33,33] (pushr_all (e := e) (D := D + 50) (C := ⟨sz63,sz63 + 1,sz63 + 2⟩) (fr := sz0) (cl := sz0 + 9) (ll := sz42 + 1) (nl := z42l.length) (lv := z42l) (X := z37.X) (ln := .int (.ofNat 1) u42) (q := []) (m := m42) (ss := L.mks.map sg) (by omega) hz42 (by simp [L.mkL]; omega) (by simp)) ?_; intro o z63 sz64 tk64 hz63
    obtain ⟨b63,rfl⟩ := Option.isSome_iff_exists.mp (hz63.1 (by simp [L.mkL]; omega))
    refine mm [10,2] (ladd_does (l := (sz62 + 1)) (r := (sz63 + 1)) (xs := List.replicate L.fw.length .none) (n := L.fw.length) (ys := List.replicate (L.mks.map sg).length .none) (m := (L.mks.map sg).length) (small_size (by simp only [List.length_replicate,List.length_map]; rw [L.fwL,L.mkL]; omega))) ?_; intro o l64 sz65 tk65 _
    refine mm [12,5] (ladd_does (l := sz41) (r := (sz42 + 1)) (xs := (QL Q)) (n := (QL Q).length) (ys := z42l) (m := z42l.length) (small_size (by rw [hz41.len,hz42.len,List.length_map,L.fwL,L.mkL]; omega))) ?_; intro o l65 sz66 tk66 _
    refine mm [0] (len_does (l := l65) (xs := (QL Q) ++ z42l) (n := 0) (m := L.fw.length + (L.mks.map sg).length) (by rw [List.length_append,hz41.len,hz42.len]) (by rw [List.length_map,L.fwL,L.mkL]; omega)) ?_; intro o k66 sz67 tk67 _
    refine mm [3] (lmul_does (l := sz65) (n := 0) (m := L.fw.length + (L.mks.map sg).length) (u := k66) (by rw [List.length_map,L.fwL,L.mkL]; omega)) ?_; intro o l67 sz68 tk68 _
    refine room_v a0 aD (by omega) (fun o => (codeOf o,l64,l67)) (siteFnRY 0 .NotEq 16) (siteFnTY 0 .NotEq 16) (ts [6,1,6,1001,6] <| ts [41,28,28,28,28] <| ts [42,2,2,2,2] <| ts [] <| ts [38,39,39,39,39] <| ts [106,106,0,106,0,0,0,0,0,0,0,0,0,0,0,0,0,0,0,0,0,0,0,0,0,0,0,0,0,0,0,0,0,1,0,1,0,0,0,0,1,0,0,1,1,1,1,0,1,1,1,1,0,0,1,4,0,0,1,1,2,0,0,0,2,0,2,0,2,0,0,0,2,0,3,3,3,1,4,4,1001,4,1,1,1] <| ts [1,9,9,9,1001,9,1,1,1,1,1,10,1,1,1,1,1,1,10,1,1,1,1,1,1,10,1,1,1,6,6,6,6,6,7,0,0,0,7,0,0,0,7,0,0,0,0,7,8,6,0] <| ts [6,7,0,0,0,7,0,0,0,7,0,0,0,0,7,8,6,0] <| ts [4,4] <| ts [1,9,9,9,1001,9,1,1,1,1,1,10,1,1,1,1,1,1,10,1,1,1,1,1,1,10,1,1,1,9,9,9,9,9,10,0,0,0,10,0,0,0,10,0,0,0,0,10,11,9,0] <| ts [9,10,0,0,0,10,0,0,0,10,0,0,0,0,10,11,9,0] <| ts [4,4] <| ts [1,118,118,0,118,56,16,16,16,16] <| ts [0] <| ts [0,118,56,6,6,6,6] <| ts [] <| ts [0] <| tn [118] [.mid 0]) (by kernel_rfl) (by kernel_rfl) (by kernel_rfl) (fun p acts h => siteFn_ok p acts h) ?_; intro o
    refine mm [5,0] (list_ne_does (l := l64) (r := l67) (xs := List.replicate L.fw.length .none ++ List.replicate (L.mks.map sg).length .none) (ys := List.replicate (L.fw.length + (L.mks.map sg).length) .none) (n := 0) (m := 0) (k := 0) (Z := []) (by omega) (by omega) eq_nones) ?_; intro o _ sz69 tk69 _
    refine mm [27] (getit_does (l := sz25) (xs := z25l) (n := z25l.length) (j := 0) (u := tk69) (v := .str (sOf (L.wf 0)) t33) g33 q33) ?_; intro o _ sz70 tk70 _
    refine mm [1] (getit_does (l := sz25) (xs := z25l) (n := z25l.length) (j := 0) (u := (tk70 + 1)) (v := .str (sOf (L.wf 0)) t33) g33 q33) ?_; intro o _ sz71 tk71 _
    refine mm [] (lower_does (x := sOf (L.wf 0)) (t := t33) L.W0.name.short) ?_; intro o k71 sz72 tk72 _
    obtain ⟨t28,g28⟩ := hz28.at (range_at (f := L.sf) (k := 0) (N := L.h * L.w) (by omega))
    refine mm [38] (getit_does (l := sz28) (xs := z28l) (n := z28l.length) (j := 0) (u := tk72) (v := .str (sOf (L.sf 0)) t28) g28 q28) ?_; intro o _ sz73 tk73 _
    refine mm [0,3] (lnext_some (it := (sz73 + 5)) (l := (sz73 + 1)) (xs := [.ref sz70,.ref sz73]) (n := 0) (i := 0) (v := .ref sz70) (by omega) rfl) ?_; intro o _ sz74 tk74 _
    refine mm [] (conv_does (self := (sz73 + 3)) (x := sOf (L.wf 0)) (t := t33) (b := true) (by omega) L.W0.name.fair) ?_; intro o _ sz75 tk75 _
    refine mm [] (conv_does (self := (sz73 + 3)) (x := sOf []) (t := tk70) (b := false) (by omega) fair_nil) ?_; intro o _ sz76 tk76 _
    refine mm [3,3] (lnext_some (it := (sz73 + 5)) (l := (sz73 + 1)) (xs := [.ref sz70,.ref sz73]) (n := 0) (i := 1) (v := .ref sz73) (by omega) rfl) ?_; intro o _ sz77 tk77 _
    refine mm [] (conv_does (self := (sz73 + 3)) (x := Txt.lower (sOf (L.wf 0))) (t := k71) (b := true) (by omega) L.W0.lname.fair) ?_; intro o _ sz78 tk78 _
    refine mm [] (conv_does (self := (sz73 + 3)) (x := sOf (L.sf 0)) (t := t28) (b := false) (by omega) (L.BGF.spot 0 (by omega))) ?_; intro o _ sz79 tk79 _
    refine mm [3,3] (lnext_end (it := (sz73 + 5)) (l := (sz73 + 1)) (xs := [.ref sz70,.ref sz73]) (n := 0) (i := 2) (by omega) rfl) ?_; intro o x sz80 tk80 _
    refine mm [15] (getit_does (l := sz25) (xs := z25l) (n := z25l.length) (j := 0) (u := (tk80 + 1)) (v := .str (sOf (L.wf 0)) t33) g33 q33) ?_; intro o _ sz81 tk81 _
    refine mm [12,12,4,13,11] (contains_hh (e := e) (D := D + 50) (H := ⟨sz73 + 3,sz73 + 2,sz73 + 1,fun _ => PyData.keyHash e.w.params (sOf [95,104,101,97,100,101,114,115]),fun _ => tk73 + 5⟩) (a := ⟨sz70,sOf (L.wf 0),t33,sOf [],tk70⟩) (b := ⟨sz73,Txt.lower (sOf (L.wf 0)),k71,sOf (L.sf 0),t28⟩) (n := 0) (by omega) L.W0.name L.W0.name (same_iff.mpr rfl) L.W0.lname L.W0.ll) ?_; intro o _ sz82 tk82 _
    refine mm [5] (getit_does (l := sz25) (xs := z25l) (n := z25l.length) (j := 0) (u := tk82) (v := .str (sOf (L.wf 0)) t33) g33 q33) ?_; intro o _ sz83 tk83 _
    refine mm [] (lower_does (x := sOf (L.wf 0)) (t := t33) L.W0.name.short) ?_; intro o k77 sz84 tk84 _
    refine mm [1,1,1,1,1] (delitem_hh (e := e) (D := D + 50) (H := ⟨sz73 + 3,sz73 + 2,sz73 + 1,fun _ => PyData.keyHash e.w.params (sOf [95,104,101,97,100,101,114,115]),fun _ => tk73 + 5⟩) (a := ⟨sz70,sOf (L.wf 0),t33,sOf [],tk70⟩) (b := ⟨sz73,Txt.lower (sOf (L.wf 0)),k71,sOf (L.sf 0),t28⟩) (n := 0) (x := Txt.lower (sOf (L.wf 0))) (t := k77) (by omega) L.W0.lname L.W0.name (same_iff.mpr (same_iff.mp L.W0.ll).symm) L.W0.lname (same_iff.mpr rfl)) ?_; intro o _ sz85 tk85 _
    refine room_v a0 aD (by omega) (fun o => (codeOf o,sz85,sz85 + 2)) (siteFnRY 0 .NotEq 19) (siteFnTY 0 .NotEq 19) (ts [3,1,3,1001,3] <| ts [0,121,121,92,0] <| ts [1,1,1,1001,1,1,1,1,1,1,2,1,1,1,1,1,1,2,1,1,1,1,1,1,2,1,1,1,125,125,126,126,126,50,50,1001,50,1] <| tn [] []) (by kernel_rfl) (by kernel_rfl) (by kernel_rfl) (fun p acts h => siteFn_ok p acts h) ?_; intro o
    refine mm [2,0,3,0] (list_ne_does (l := sz85) (r := sz85 + 2) (xs := [.bool true,.none,.ref (sz73 + 1)]) (ys := [.bool true,.none,.ref (sz85 + 1)]) (n := 0) (m := 0) (k := 1) (Z := [(sz73 + 1,lob [] 1),(sz85 + 1,lob [] 0)]) (by omega) (by omega) (EqVs.cons (EqV.same _) (EqVs.cons (EqV.same _) (EqVs.cons (EqV.lists' (mem_ix 2 rfl) (mem_ix 3 rfl) EqVs.nil) EqVs.nil)))) ?_; intro o _ sz86 tk86 _
    refine mm [42] (due_does (e := e) (D := D + 50) (ml := a22) (bs := L.mks) (nm := L.mks.length) (h := L.h) (th := k6) (w := L.w) (tw := k11) (by omega) (by omega) (by omega) (by omega) (by omega) (by rw [L.mkL]; omega) (small_size (by rw [L.mkL]; omega)) L.rc0) ?_; intro o z79 sz87 tk87 hz79
    refine meetL_v (D := D + 50) a0 aD [0,49,124,62,14,58,24,119,4,9,9,7] (fun o => fkOf ns0 (o.ob 126)) (fun F => f1_all (e := e) (D := D + 50) (c := ⟨sz0 + 12,sz0 + 11,sz0 + 10,sz0 + 9,sz0 + 8,sz0 + 7,sz0 + 6,sz0 + 5,sz0 + 4,sz0 + 3,sz0 + 2,sz0 + 1⟩) (fr := sz0) (it := sz87 + 4) (K := ⟨L.h,k6,a22,z21.1,⟨sz73 + 3,sz73 + 2,sz73 + 1,fun _ => PyData.keyHash e.w.params (sOf [95,104,101,97,100,101,114,115]),fun _ => tk73 + 5⟩,0,tk87,sz41,sz42 + 1⟩) (E := ⟨sz25,sz28,z79.1,z25l,z28l,z79.2,z21.2,z25l.length,z28l.length,z79.2.length,z21.2.length⟩) (N := L.h * L.w) (wf := L.wf) (sf := L.sf) (ord := L.ord) (due := L.due0) (F := F) (n := 1) (by omega) (by omega) L.BGF.toBF ⟨hz21,hz79,hz25,hz28⟩ L.ordN L.nd L.hits2 (by rw [L.ordL]; omega)) (by omega) (by kernel_rfl) (by kernel_rfl) ?_; intro x80 sz88 tk88 hx80
    obtain ⟨F1,ps1,n1⟩ := x80
    simp only at hx80
    refine ⟨(ts [3,3,2,2,1001,2,1] <| tn [] []),?_⟩; intro o
    have hl80 := hx80.len
    have h2 := L.hits2
    have q : TgP ps1 := ⟨⟩
    rcases ps_is (ps := ps1) (by rw [hl80]; exact h2) with ⟨p1,p2,rfl⟩ | ⟨p1,p2,rfl⟩ | ⟨p1,p2,rfl⟩
    all_goals
      refine meetL (D := D + 50) a0 aD [2,3,1,0,2,3,4,2,2,2] (pairs_all (e := e) (D := D + 50) (C := ⟨sz88,sz88 + 1,sz88 + 2⟩) (fr := sz0) (ll := z21.1) (nl := z21.2.length) (lv := z21.2) (cw := sz0 + 6) (cs := sz0 + 7) (cd := sz0 + 10) (wl := sz25) (nw := z25l.length) (wv := z25l) (sl := sz28) (ns := z28l.length) (sv := z28l) (dl := z79.1) (nd := z79.2.length) (dv := z79.2) (N := L.h * L.w) (wf := L.wf) (sf := L.sf) (ks := L.ord) (due := L.due0) (by omega) hz21 hz79 hz25 hz28 (by omega) L.ordN L.hits2) (by omega) (by kernel_rfl) (by kernel_rfl) ?_; intro x81 sz89 tk89 hx81
      obtain ⟨b81,ps2⟩ := x81
      obtain ⟨hp2,hb81⟩ := hx81
      simp only at hp2 hb81
      have hl2 := hp2.len.trans hx80.len.symm
      have q2 : TgP ps2 := ⟨⟩
      have hqq := eq_ps (ps := q.ps) (ps2 := q2.ps) hx80 hp2 (by rw [show q.ps.length = _ from hx80.len]; exact h2)
      rcases ps_is (ps := ps2) (by rw [hl2,hl80]; exact h2) with ⟨r1,r2,rfl⟩ | ⟨r1,r2,rfl⟩ | ⟨r1,r2,rfl⟩ <;> try (exfalso; simp at hl2; done)
      obtain ⟨bb81,eb81⟩ := Option.isSome_iff_exists.mp (hb81 (by rw [L.ordL]; omega))
      subst eb81
      refine ⟨(tn [4,4,4] [.mid 0]),?_⟩; intro o
      refine room_v a0 aD (by omega) (fun o => (codeOf o,sz73 + 1,sz88 + 1)) (siteFnRY 0 .NotEq 22) (siteFnTY 0 .NotEq 22) (ts [15 + q.k,3,15 + q.k,1001,15 + q.k] <| ts [0,0,0,0,13 + 2 * q.k] <| ts [1,1,1,1,1,1,1001,1] <| ts [1] <| tn [] []) (by kernel_rfl) (by kernel_rfl) (by kernel_rfl) (fun p acts h => siteFn_ok p acts h) ?_; intro o
      refine meet (D := D + 50) a0 aD ([14 + q.k,2] ++ (List.replicate q.k (13 + q.k) ++ List.replicate q.k 9)) (list_ne_does (l := sz73 + 1) (r := sz88 + 1) (xs := refsP q.ps) (ys := refsP q2.ps) (n := n1) (m := q.k) (k := 1) (Z := q.ps.map Pair.ob ++ q2.ps.map Pair.ob) (by omega) (by omega) (hqq _ _)) (by omega) (by kernel_rfl) (by kernel_rfl) (fun _ => rfl) ?_; intro o _ sz90 tk90 _
      refine mm [19 + 2 * q.k] (len_does (l := a22) (xs := L.mks.map .bool) (n := L.mks.length) (m := L.h + L.w) (by rw [List.length_map,L.mkL]) (by omega)) ?_; intro o k83 sz91 tk91 _
      refine mm [0] (riter_does (r := sz91) (n := (L.h + L.w)) (t := tk91) (u := k83) (w := (tk91 + 1)) (by omega)) ?_; intro o a84 sz92 tk92 _
      refine meetL (D := D + 50) a0 aD (ixF q.k) (f2_all (e := e) (D := D + 50) (c := ⟨sz0 + 12,sz0 + 11,sz0 + 10,sz0 + 9,sz0 + 8,sz0 + 7,sz0 + 6,sz0 + 5,sz0 + 4,sz0 + 3,sz0 + 2,sz0 + 1⟩) (fr := sz0) (it := a84) (K := ⟨L.h,k6,a22,z21.1,⟨sz73 + 3,sz73 + 2,sz73 + 1,fun _ => PyData.keyHash e.w.params (sOf [95,104,101,97,100,101,114,115]),fun _ => tk73 + 5⟩,0,tk87,sz41,sz42 + 1⟩) (Y := ⟨z21.2,z21.2.length,L.mks,L.mks.length,z35.X,.int (.ofNat (L.h * L.w + 1)) u41,z37.X,.int (.ofNat 1) u42,sz25,z25l,z25l.length,sz28,z28l,z28l.length,⟨L.low,L.w,L.base,k17,k11,k20⟩⟩) (N := L.h * L.w) (wf := L.wf) (ord := L.ord) (Q := Q) (tF := L.h * L.w) (T := L.h + L.w) (mF := L.mks) (tot := 0) (tu := tk87) (F := F1) (ms := L.mks) (l := hitsF L.due0 L.ord) (n := n1) (nq := m41 + L.fw.length) (rq := z42l) (rn := m42 + (L.mks.map sg).length) (sc := none) (tc := none) (dc := some (.ref z79.1)) (by omega) (by omega) { B := L.BGF,ov := hz21,wv := hz25,sv := hz28,ordN := L.ordN,ord20 := (by rw [L.ordL]; omega),ord0 := (by rw [L.ordL]; omega),N20 := (by omega),quads := hQ,base := Nat.lt_of_lt_of_le L.baseN (by decide),w0 := Nat.lt_of_lt_of_le (by decide) L.w0,wide := Nat.le_trans L.w2 (by decide),low := L.low50,h0 := Nat.lt_of_lt_of_le (by decide) L.h0,high := Nat.le_trans L.h2 (by decide),mk20 := (by show L.mks.length ≤ 20; rw [L.mkL]; omega) } (by omega) hx80 hz42 (L.runs ⟨z21.2,z21.2.length,L.mks,L.mks.length,z35.X,.int (.ofNat (L.h * L.w + 1)) u41,z37.X,.int (.ofNat 1) u42,sz25,z25l,z25l.length,sz28,z28l,z28l.length,⟨L.low,L.w,L.base,k17,k11,k20⟩⟩ rfl rfl rfl rfl)) (by omega) (by kernel_rfl) (by kernel_rfl) ?_; intro x85 sz93 tk93 hx85
      obtain ⟨F2,ns2,tu2,nq2,rq2,rn2,sc2,tc2,dc2⟩ := x85
      obtain ⟨hsh,hrq2⟩ := hx85
      simp only at hsh hrq2
      refine ⟨(ts [0,0,0,0,2] <| ts [] <| ts [1,1,1,1,1,1,1001,1] <| ts [1] <| ts [3,3,3,0,0,0,0,17] <| ts [] <| ts [1,1,1,1,1,1,1001,1] <| ts [1] <| ts [3,3,3,32,32,32,32,43] <| ts [1001] <| ts [32,32,38,39,39,39,39] <| ts [32,1,32,32] <| ts [35,21,1,21,21] <| tn [] [.mid 0]),?_⟩; intro o
      rcases tri_of hsh with rfl | rfl | rfl
      all_goals
        refine mm [51 + q.k] (len_does (l := sz41) (xs := QL Q) (n := (QL Q).length) (m := 2 * (L.h * L.w)) (by rw [hz41.len,L.fwL]) (by omega)) ?_; intro o k86 sz94 tk94 _
        refine mm [] (iadd_does (a := .ofNat (2 * (L.h * L.w))) (b := 2) (r := .ofNat (2 * (L.h * L.w) + 2)) (t := k86) (u := tk94) rfl) ?_; intro o k87 sz95 tk95 _
        refine mm [0] (riter_does (r := sz95) (n := (2 * (L.h * L.w) + 2)) (t := tk95) (u := k87) (w := (tk95 + 1)) (by omega)) ?_; intro o a88 sz96 tk96 _
        obtain ⟨A2,hA2,hS2⟩ := hE1 (QL Q) nq2 hz41
        refine mm [2,1,0,6,6,6,6,83 + q.k,83 + q.k,83 + q.k,78 + q.k,82 + q.k,82 + q.k] (resl_all (e := e) (D := D + 50) (C := ⟨a88,sz96,sz96 + 1⟩) (fr := sz0) (cl := sz0 + 8) (X := z35.X) (R := z35.R) (N := 2 * (L.h * L.w) + 2) (x := fun i => (L.fw ++ [L.wf 0,[]]).getD i []) (A := A2) (s0 := ⟨.int (.ofNat (L.h * L.w + 1)) u41,QL Q,nq2,cs41,n41⟩) (by omega) (by omega) hA2 hS2) ?_; intro o z89 sz97 tk97 hz89
        obtain ⟨z89l,z89b,s89⟩ := z89
        obtain ⟨⟨hz89,-⟩,ht89⟩ := hz89
        obtain ⟨b89,eb89⟩ := Option.isSome_iff_exists.mp (ht89.1 (by omega))
        simp only at eb89 hz89
        subst eb89
        rw [L.rl_range] at hz89
        refine mm [62 + q.k] (len_does (l := (sz42 + 1)) (xs := z42l) (n := z42l.length) (m := L.mks.length) (by rw [hz42.len,List.length_map]) (by rw [L.mkL]; omega)) ?_; intro o k90 sz98 tk98 _
        refine mm [] (iadd_does (a := .ofNat L.mks.length) (b := 2) (r := .ofNat (L.mks.length + 2)) (t := k90) (u := tk98) rfl) ?_; intro o k91 sz99 tk99 _
        refine mm [0] (riter_does (r := sz99) (n := (L.mks.length + 2)) (t := tk99) (u := k91) (w := (tk99 + 1)) (by rw [L.mkL]; omega)) ?_; intro o a92 sz100 tk100 _
        obtain ⟨A4,hA4,hS4,hE4⟩ := hE3 rq2 rn2 hrq2
        refine mm [2,1,0,21,21,21,21,85 + q.k,85 + q.k,85 + q.k,12,84 + q.k,84 + q.k] (resr_all' (co := z35.R.co) (ob := codeOb z35.R) hz37.2.2.1 hz37.2.2.2 (e := e) (D := D + 50) (C := ⟨a92,sz100,sz100 + 1⟩) (fr := sz0) (cl := sz0 + 9) (X := z37.X) (R := z37.R) (N := L.mks.length + 2) (x := fun i => (L.mks.map sg ++ [[43],[]]).getD i []) (A := A4) (s0 := ⟨.int (.ofNat 1) u42,rq2,rn2,cs42,n42⟩) (by omega) (by rw [L.mkL]; omega) hA4 hS4) ?_; intro o z93 sz101 tk101 hz93
        obtain ⟨z93l,z93b,s93⟩ := z93
        obtain ⟨⟨hz93,hs93⟩,ht93⟩ := hz93
        obtain ⟨u93,el93⟩ := hE4 _ hs93
        obtain ⟨ln93,q93,m93,cs93,n93⟩ := s93
        simp only at el93
        subst el93
        obtain ⟨b93,eb93⟩ := Option.isSome_iff_exists.mp (ht93.1 (by omega))
        simp only at eb93 hz93
        subst eb93
        rw [L.rr_range] at hz93
        refine mm [] (imul_does (a := .ofNat L.h) (b := .ofNat L.w) (r := .ofNat (L.h * L.w)) (t := k6) (u := k11) (mul_nat (by omega))) ?_; intro o k94 sz102 tk102 _
        refine mm [] (ieq_does (a := .ofNat (L.h * L.w)) (b := .ofNat (L.h * L.w)) (c := true) (t := tu2) (u := k94) (by simp)) ?_; intro o _ sz103 tk103 _
        refine mm [38] (getit_does (l := sz25) (xs := z25l) (n := z25l.length) (j := 0) (u := tk103) (v := .str (sOf (L.wf 0)) t33) g33 q33) ?_; intro o _ sz104 tk104 _
        refine mm [31,0] (ladd_does (l := sz41) (r := sz104) (xs := QL Q) (n := (QL Q).length) (ys := [.str (sOf (L.wf 0)) t33,.str (sOf []) tk104]) (m := 0) (small_size (by rw [hz41.len,L.fwL]; simp; omega))) ?_; intro o l97 sz105 tk105 _
        refine mm [20,0] (ladd_does (l := (sz42 + 1)) (r := sz105) (xs := z42l) (n := z42l.length) (ys := [.str (sOf [43]) tk105,.str (sOf []) (tk105 + 1)]) (m := 0) (small_size (by rw [hz42.len,List.length_map,L.mkL]; simp; omega))) ?_; intro o l98 sz106 tk106 _
        refine room_v a0 aD (by omega) (fun o => (codeOf o,sz101,sz106)) (siteRtRY .Eq 25) (siteRtTY .Eq 25) (ts [9,1,9,1001,9] <| ts [14,15,0,0,0,15,0,0,0,15,15,0,16,1001] <| tn [] []) (by kernel_rfl) (by kernel_rfl) (by kernel_rfl) (fun p acts h => siteRt_ok p acts h) ?_; intro o
        refine mm [8,0,22,8,3,0] (tuple_eq_does (l := sz101) (r := sz106) (xs := [.ref sz96,.ref sz100]) (ys := [.ref l97,.ref l98]) (k := 1) (Z := [(sz96,lob z89l z89l.length),(sz100,lob z93l z93l.length),(l97,lob (QL Q ++ [.str (sOf (L.wf 0)) t33,.str (sOf []) tk104]) 0),(l98,lob (z42l ++ [.str (sOf [43]) tk105,.str (sOf []) (tk105 + 1)]) 0)]) (by omega) (by omega) (EqVs.cons (EqV.lists' (mem_ix 2 rfl) (mem_ix 4 rfl) (EqVs.strs hz89 (hz41.append ⟨_,_,rfl,_,_,rfl,rfl⟩))) (EqVs.cons (EqV.lists' (mem_ix 3 rfl) (mem_ix 5 rfl) (EqVs.strs hz93 (hz42.append ⟨_,_,rfl,_,_,rfl,rfl⟩))) EqVs.nil))) ?_; intro o _ sz107 tk107 _
        refine mm [] (ieq_does (a := .ofNat 1) (b := 1) (c := true) (t := u93) (u := (tk107 + 1)) (by simp)) ?_; intro o _ sz108 tk108 _
        exact retR [140 + q.k,110 + q.k] (fun h tk sz Dh => fin z35.R.co h tk sz trivial Dh)
end Mine
namespace Mine
/-! ### the words -/
noncomputable def lwL (p : Nat) : List Nat := (Txt.lower (sOf (word p))).cps.toList
noncomputable def uwL (p : Nat) : List Nat := (Txt.upper (sOf (word p))).cps.toList
noncomputable def fairL (l : List Nat) : Bool := l.all (fun c => Nat.ble 32 c && !(Nat.beq c 127)) && Nat.ble l.length 100
noncomputable def eqL : List Nat → List Nat → Bool
  | [],[] => true
  | a :: l,b :: m => Nat.beq a b && eqL l m
  | _,_ => false
theorem eqL_iff : ∀ {l m : List Nat},eqL l m = true → l = m
  | [],[],_ => rfl
  | [],_ :: _,h => by cases h
  | _ :: _,[],h => by cases h
  | a :: l,b :: m,h => by
    simp only [eqL,Bool.and_eq_true] at h
    rw [Nat.eq_of_beq_eq_true h.1,eqL_iff h.2]
noncomputable def wordB (p : Nat) : Bool := fairL (word p) && fairL (lwL p) && fairL (uwL p) && eqL (Txt.lower (sOf (lwL p))).cps.toList (lwL p) && eqL (Txt.lower (sOf (uwL p))).cps.toList (lwL p) && !(word p).isEmpty
theorem wordsB : (List.range 33).all wordB = true := by decide +kernel
noncomputable def lowsNe : List (List Nat) → Bool
  | [] => true
  | a :: l => l.all (fun b => !eqL a b) && lowsNe l
theorem lows_ne : lowsNe ((List.range 33).map lwL) = true := by decide +kernel
theorem fair_of {l : List Nat} (h : fairL l = true) : Fair (sOf l) := by
  unfold fairL at h
  simp only [Bool.and_eq_true,List.all_eq_true] at h
  have hl := Nat.le_of_ble_eq_true h.2
  refine ⟨Nat.le_trans hl (by decide),fun i hi => ?_⟩
  have hi' : i < l.length := hi
  have hm := h.1 l[i] (List.getElem_mem hi')
  have e : (sOf l).cps.getD i 0 = l[i] := by
    show (⟨l⟩ : Array Nat).getD i 0 = l[i]
    simp [Array.getD,hi']
  rw [e]
  refine ⟨Nat.le_of_ble_eq_true hm.1,fun e2 => ?_⟩
  rw [e2] at hm
  exact absurd hm.2 (by decide)
theorem tooLong_of {n : Nat} (h : n ≤ 100) : Builtin.Str.tooLong n = false := by
  show decide (n > sizeLine) = false
  exact decide_eq_false (Nat.not_lt.mpr (small_size h))
theorem sOf_eta (x : Str) : sOf x.cps.toList = x := rfl
section
variable {p : Nat} (hp : p < 33)
include hp
theorem wordB_at : wordB p = true := List.all_eq_true.mp wordsB p (List.mem_range.mpr hp)
theorem word_parts : fairL (word p) = true ∧ fairL (lwL p) = true ∧ fairL (uwL p) = true ∧ Txt.lower (Txt.lower (sOf (word p))) = Txt.lower (sOf (word p)) ∧ Txt.lower (Txt.upper (sOf (word p))) = Txt.lower (sOf (word p)) ∧ word p ≠ [] := by
  have h := wordB_at hp
  unfold wordB at h
  simp only [Bool.and_eq_true] at h
  obtain ⟨⟨⟨⟨⟨h1,h2⟩,h3⟩,h4⟩,h5⟩,h6⟩ := h
  refine ⟨h1,h2,h3,?_,?_,?_⟩
  · have := eqL_iff h4
    show Txt.lower (sOf (lwL p)) = sOf (lwL p)
    rw [← sOf_eta (Txt.lower (sOf (lwL p))),this]
  · have := eqL_iff h5
    show Txt.lower (sOf (uwL p)) = sOf (lwL p)
    rw [← sOf_eta (Txt.lower (sOf (uwL p))),this]
  · intro e
    rw [e] at h6
    cases h6
theorem short_of {l : List Nat} (h : fairL l = true) : Builtin.Str.tooLong l.length = false := by
  unfold fairL at h
  simp only [Bool.and_eq_true] at h
  exact tooLong_of (Nat.le_of_ble_eq_true h.2)
theorem word_name : Name (sOf (word p)) :=
  have h := word_parts hp
  ⟨fair_of h.1,fair_of h.2.1,short_of hp h.2.1⟩
theorem word_lname : Name (Txt.lower (sOf (word p))) := by
  have h := word_parts hp
  refine ⟨fair_of h.2.1,?_,?_⟩
  · rw [h.2.2.2.1]; exact fair_of h.2.1
  · rw [h.2.2.2.1]; exact short_of hp h.2.1
theorem word_uname : Name (Txt.upper (sOf (word p))) := by
  have h := word_parts hp
  refine ⟨fair_of h.2.2.1,?_,?_⟩
  · rw [h.2.2.2.2.1]; exact fair_of h.2.1
  · rw [h.2.2.2.2.1]; exact short_of hp h.2.1
theorem word_word : Word (sOf (word p)) := ⟨word_name hp,word_lname hp,same_iff.mpr (word_parts hp).2.2.2.1⟩
theorem word_fm (f : Nat) : Name (fm f (sOf (word p))) := match f with
  | 0 => word_name hp
  | 1 => word_lname hp
  | _ + 2 => word_uname hp
theorem word_low (f : Nat) : Txt.lower (fm f (sOf (word p))) = Txt.lower (sOf (word p)) := match f with
  | 0 => rfl
  | 1 => (word_parts hp).2.2.2.1
  | _ + 2 => (word_parts hp).2.2.2.2.1
end
theorem lowsNe_at : ∀ {l : List (List Nat)},lowsNe l = true → ∀ {i j : Nat} {a b : List Nat},i < j → l[i]? = some a → l[j]? = some b → eqL a b = false
  | x :: l,h,0,j + 1,a,b,_,ha,hb => by
    simp only [lowsNe,Bool.and_eq_true,List.all_eq_true] at h
    simp only [List.getElem?_cons_zero,Option.some.injEq] at ha
    subst ha
    have := h.1 b (List.mem_of_getElem? hb)
    simpa using this
  | x :: l,h,i + 1,j + 1,a,b,hij,ha,hb => by
    simp only [lowsNe,Bool.and_eq_true] at h
    exact lowsNe_at h.2 (Nat.lt_of_succ_lt_succ hij) ha hb
  | [],_,_,_,_,_,_,ha,_ => by cases ha
theorem eqL_refl : ∀ l : List Nat,eqL l l = true
  | [] => rfl
  | a :: l => by simp [eqL,eqL_refl l]
theorem low_ne {p q : Nat} (hp : p < 33) (hq : q < 33) (h : p ≠ q) : same (Txt.lower (sOf (word p))) (Txt.lower (sOf (word q))) = false := by
  cases hs : same (Txt.lower (sOf (word p))) (Txt.lower (sOf (word q))) with
  | false => rfl
  | true =>
    have e : lwL p = lwL q := congrArg (fun x : Str => x.cps.toList) (same_iff.mp hs)
    have a1 := range_at (f := lwL) hp
    have a2 := range_at (f := lwL) hq
    rcases Nat.lt_or_gt_of_ne h with h | h
    · have := lowsNe_at lows_ne h a1 a2
      rw [e,eqL_refl] at this; cases this
    · have := lowsNe_at lows_ne h a2 a1
      rw [e,eqL_refl] at this; cases this
/-! ### the spots -/
theorem oct_fairB : (List.range 64).all (fun d => fairL [last d] && fairL [more d]) = true := by decide +kernel
theorem oct_code : ∀ d,d < 64 → (32 ≤ last d ∧ last d ≠ 127) ∧ (32 ≤ more d ∧ more d ≠ 127) := by
  intro d hd
  have h := List.all_eq_true.mp oct_fairB d (List.mem_range.mpr hd)
  simp only [fairL,List.all_cons,List.all_nil,Bool.and_eq_true,Bool.and_true] at h
  refine ⟨⟨Nat.le_of_ble_eq_true h.1.1.1,fun e => ?_⟩,⟨Nat.le_of_ble_eq_true h.2.1.1,fun e => ?_⟩⟩
  · rw [e] at h; exact absurd h.1.1.2 (by decide)
  · rw [e] at h; exact absurd h.2.1.2 (by decide)
theorem fair_chars {l : List Nat} (h : ∀ c ∈ l,32 ≤ c ∧ c ≠ 127) (hl : l.length ≤ 100) : Fair (sOf l) := by
  refine ⟨Nat.le_trans hl (by decide),fun i hi => ?_⟩
  have hi' : i < l.length := hi
  have e : (sOf l).cps.getD i 0 = l[i] := by
    show (⟨l⟩ : Array Nat).getD i 0 = l[i]
    simp [Array.getD,hi']
  rw [e]
  exact h _ (List.getElem_mem hi')
theorem oct_chars {N : Nat} (hN : N < 262144) : ∀ c ∈ oct N,32 ≤ c ∧ c ≠ 127 := by
  intro c hc
  unfold oct at hc
  rcases List.mem_append.mp hc with hc | hc
  · split at hc
    · cases hc
    · split at hc
      · rw [List.mem_singleton.mp hc]
        exact (oct_code _ (by omega)).2
      · rcases List.mem_cons.mp hc with hc | hc
        · rw [hc]; exact (oct_code _ (by omega)).2
        · rw [List.mem_singleton.mp hc]
          exact (oct_code _ (by omega)).2
  · rw [List.mem_singleton.mp hc]
    exact (oct_code _ (by omega)).1
theorem spotN_len (base w k : Nat) : (spotN base w k).length ≤ 10 := by
  unfold spotN
  have := oct_len (base + k / w)
  have := oct_len (base + k % w)
  rw [List.length_append]; omega
theorem spotN_fair {base w k : Nat} (hb : base < 20000) (hk : k < 100) : Fair (sOf (spotN base w k)) := by
  have d1 : k / w ≤ k := Nat.div_le_self k w
  have d2 : k % w ≤ k := Nat.mod_le k w
  refine fair_chars (fun c hc => ?_) (Nat.le_trans (spotN_len base w k) (by decide))
  unfold spotN at hc
  rcases List.mem_append.mp hc with hc | hc
  · exact oct_chars (by omega) c hc
  · exact oct_chars (by omega) c hc
theorem spotN_meet {e : Env0} {base w k j D : Nat} {t u : Tok} (hb : base < 20000) (hk : k < 100) (hj : j < 100) (hD : D + 400 ≤ recursionLimit) : MeetC e D (sOf (spotN base w k)) t (sOf (spotN base w j)) u (meetN w k j) := by
  have d1 : k / w ≤ k := Nat.div_le_self k w
  have d2 : k % w ≤ k := Nat.mod_le k w
  have d3 : j / w ≤ j := Nat.div_le_self j w
  have d4 : j % w ≤ j := Nat.mod_le j w
  refine meet_does hD (by omega) (by omega) (by omega) (by omega) ?_
  have e1 : ∀ a b : Nat,(Int.ofNat (base + a) - Int.ofNat (base + b) : Int) = Int.ofNat a - Int.ofNat b := fun a b => by simp; omega
  rw [e1,e1]
  rfl
theorem bg_of {e : Env0} {base w N low : Nat} (hb : base < 20000) (h0 : 0 < N) (hN : N ≤ 20) (hl : low + N ≤ 33) : BG e w (fun k => word (low + k)) (spotN base w) N where
  pos := h0
  small := by omega
  word := fun k hk => word_word (by omega)
  ne := fun j k hj hk h => low_ne (by omega) (by omega) (by omega)
  spot := fun k hk => spotN_fair hb (by omega)
  nm := fun k f hk => word_fm (by omega) f
  lw := fun k f hk => word_low (by omega) f
  fl := fun k hk => (word_name (p := low + k) (by omega)).short
  fu := fun k hk => short_of (p := low + k) (by omega) (word_parts (p := low + k) (by omega)).2.2.1
  mt := fun k j hk hj D t u hD => spotN_meet hb (by omega) (by omega) hD
end Mine
namespace Mine
/-! ### the texts of bits -/
noncomputable def eqLL : List (List Nat) → List (List Nat) → Bool
  | [],[] => true
  | a :: l,b :: m => eqL a b && eqLL l m
  | _,_ => false
theorem eqLL_iff : ∀ {l m : List (List Nat)},eqLL l m = true → l = m
  | [],[],_ => rfl
  | [],_ :: _,h => by cases h
  | _ :: _,[],h => by cases h
  | a :: l,b :: m,h => by
    simp only [eqLL,Bool.and_eq_true] at h
    rw [eqL_iff h.1,eqLL_iff h.2]
theorem two_bitsB : (List.range 33).all (fun q => (List.range q).all fun p => eqLL (pfq 32 (2 ^ p ||| 2 ^ q)) [word p,word q]) = true := by decide +kernel
theorem two_bits {p q : Nat} (hq : q < 33) (hp : p < q) : pfq 32 (2 ^ p ||| 2 ^ q) = [word p,word q] :=
  eqLL_iff (List.all_eq_true.mp (List.all_eq_true.mp two_bitsB q (List.mem_range.mpr hq)) p (List.mem_range.mpr hp))
theorem one_bit {p : Nat} (hp : p < 33) : pfq 32 (2 ^ p) = [word p] := by
  by_cases h : p < 32
  · exact pfq_one_bits p h
  · have : p = 32 := by omega
    subst this; exact pfq_32
noncomputable def toldB (N low : Nat) : Bool := eqLL (pfq 32 ((2 ^ N - 1) * 2 ^ low)) ((List.range N).map fun k => word (low + k))
theorem toldB4 : (List.range 30).all (toldB 4) = true := by decide +kernel
theorem toldB6 : (List.range 28).all (toldB 6) = true := by decide +kernel
theorem told_of {N low : Nat} (hN : N = 4 ∨ N = 6) (hl : low + N ≤ 33) : pfq 32 ((2 ^ N - 1) * 2 ^ low) = (List.range N).map fun k => word (low + k) := by
  rcases hN with rfl | rfl
  · exact eqLL_iff (List.all_eq_true.mp toldB4 low (List.mem_range.mpr (by omega)))
  · exact eqLL_iff (List.all_eq_true.mp toldB6 low (List.mem_range.mpr (by omega)))
theorem step_bit (low w k M : Nat) : M ||| 1 * 2 ^ (low + (w * (k / w) + k % w)) = M ||| 2 ^ (low + k) := by
  rw [Nat.one_mul,Nat.div_add_mod]
theorem mask_one (low w a : Nat) : maskN low w ([a] ++ [a]) 0 = 2 ^ (low + a) := by
  unfold maskN
  simp only [List.cons_append,List.nil_append,List.foldl_cons,List.foldl_nil,step_bit,Nat.zero_or,Nat.or_self]
theorem mask_two (low w a b : Nat) : maskN low w ([a,b] ++ [a,b]) 0 = 2 ^ (low + a) ||| 2 ^ (low + b) := by
  unfold maskN
  simp only [List.cons_append,List.nil_append,List.foldl_cons,List.foldl_nil,step_bit,Nat.zero_or]
  refine Nat.eq_of_testBit_eq fun i => ?_
  simp only [Nat.testBit_or]
  cases (2 ^ (low + a)).testBit i <;> cases (2 ^ (low + b)).testBit i <;> rfl
theorem pow_lt34 {p : Nat} (hp : p < 33) : 2 ^ p < 2 ^ 34 := Nat.pow_lt_pow_right (by decide) (by omega)
theorem or_lt34 {p q : Nat} (hp : p < 33) (hq : q < 33) : 2 ^ p ||| 2 ^ q < 2 ^ 34 := Nat.or_lt_two_pow (pow_lt34 hp) (pow_lt34 hq)
/-! ### joined texts -/
theorem fold_len (k : Nat) : ∀ (ss : List (List Nat)) (acc : Nat),(∀ x ∈ ss,x.length ≤ 50) → List.foldl (fun n (x : Str) => n + x.length + k) acc (ss.map sOf) ≤ acc + ss.length * (50 + k)
  | [],acc,_ => by simp
  | x :: ss,acc,h => by
    have h1 := h x List.mem_cons_self
    have ih := fold_len k ss (acc + (sOf x).length + k) fun y hy => h y (List.mem_cons_of_mem _ hy)
    rw [List.map_cons,List.foldl_cons,List.length_cons,Nat.succ_mul]
    rw [sOf_len] at ih
    rw [sOf_len]
    omega
theorem joinS_len {sep : List Nat} {ss : List (List Nat)} (h : ∀ x ∈ ss,x.length ≤ 50) : (joinS sep ss).length ≤ ss.length * (50 + sep.length) := by
  have hs : ∀ ss : List (List Nat),(∀ x ∈ ss,x.length ≤ 50) → ((ss.map sOf).map (·.length)).sum ≤ ss.length * 50 := by
    intro ss
    induction ss with
    | nil => intro _; simp
    | cons x ss ih =>
      intro h
      have h1 := h x List.mem_cons_self
      have ih := ih fun y hy => h y (List.mem_cons_of_mem _ hy)
      simp only [List.map_cons,List.sum_cons,List.length_cons,Nat.succ_mul]
      rw [sOf_len]
      omega
  have key : (Builtin.Str.glued (sOf sep) (ss.map sOf)).cps.toList.length ≤ ss.length * (50 + sep.length) := by
    have e : (Builtin.Str.glued (sOf sep) (ss.map sOf)).cps.toList.length = (Builtin.Str.glued (sOf sep) (ss.map sOf)).length := by simp [Str.length]
    rw [e,size_glued,sOf_len,List.length_map]
    have h1 := hs ss h
    have h2 : (ss.length - 1) * sep.length ≤ ss.length * sep.length := Nat.mul_le_mul_right _ (by omega)
    rw [Nat.mul_add]
    omega
  unfold joinS
  split
  · rename_i x
    have h1 := h x List.mem_cons_self
    simp; omega
  · exact key
theorem joinOk_of {sep : List Nat} {ss : List (List Nat)} (h : ∀ x ∈ ss,x.length ≤ 50) (hn : ss.length ≤ 10) (hs : sep.length ≤ 2) : JoinOk sep ss := by
  have hm : ss.length * (50 + sep.length) ≤ 10 * 52 := Nat.mul_le_mul hn (by omega)
  refine ⟨?_,Nat.le_trans (joinS_len h) (Nat.le_trans hm (Nat.le_trans (by decide) hs1000))⟩
  show decide (_ > sizeLine) = false
  refine decide_eq_false (Nat.not_lt.mpr ?_)
  have := fold_len sep.length ss 0 h
  rw [sOf_len,List.foldl_toArray]
  exact Nat.le_trans this (Nat.le_trans (by omega : _ ≤ 520) (Nat.le_trans (by decide) hs1000))
theorem word_len (p : Nat) (hp : p < 33) : (word p).length ≤ 30 := word_short p hp
theorem joinOk_words {sep : List Nat} {l : List Nat} {low : Nat} (hl : ∀ k ∈ l,low + k < 33) (hn : l.length ≤ 10) (hs : sep.length ≤ 2) : JoinOk sep (l.map fun k => word (low + k)) :=
  joinOk_of (fun x hx => by
    obtain ⟨k,hk,rfl⟩ := List.mem_map.mp hx
    have := word_len (low + k) (hl k hk)
    omega) (by rw [List.length_map]; exact hn) hs
end Mine
namespace Mine
/-! ### the turns,by their indices -/
noncomputable def TurnI (h w N : Nat) (ord : List Nat) (b : Bool) (ms : List Bool) (par : Bool) (l : List (Nat × Nat)) (ks due : List Nat) : Prop :=
  (rowsN (ms ++ [b]) h w h).length ≤ (colsN (ms ++ [b]) w w).length ∧ due.length = ks.length ∧ ks.length ≤ 2 ∧ l.length ≤ 2 ∧ (∀ p ∈ l,p.1 < N) ∧
    runF3 w (if par then 2 else 1) ord l = some (ks.map fun k => (k,if par then 2 else 1)) ∧ (∀ k ∈ due,k < N) ∧ (∀ k ∈ ks,k < N) ∧ (due = ks ∨ due = ks.reverse) ∧ (∀ i,i + 1 < due.length → due.getD i 0 < due.getD (i + 1) 0)
noncomputable def upB : List Nat → Bool
  | a :: b :: l => Nat.blt a b && upB (b :: l)
  | _ => true
noncomputable def turnB (h w N : Nat) (ord : List Nat) (b : Bool) (ms : List Bool) (par : Bool) (l : List (Nat × Nat)) (ks due : List Nat) : Bool :=
  decide ((rowsN (ms ++ [b]) h w h).length ≤ (colsN (ms ++ [b]) w w).length ∧ due.length = ks.length ∧ ks.length ≤ 2 ∧ l.length ≤ 2 ∧ (∀ p ∈ l,p.1 < N) ∧
    runF3 w (if par then 2 else 1) ord l = some (ks.map fun k => (k,if par then 2 else 1)) ∧ (∀ k ∈ due,k < N) ∧ (∀ k ∈ ks,k < N) ∧ (due = ks ∨ due = ks.reverse)) && upB due
noncomputable def runsB (h w N : Nat) (ord : List Nat) (tF : Nat) (mF : List Bool) : Nat → Nat → List Bool → List (Nat × Nat) → Nat → Bool
  | 0,_,ms,_,tot => decide (tot = tF ∧ ms = mF)
  | m + 1,i,ms0,l,tot => match ms0 with
    | [] => false
    | b :: ms => turnB h w N ord b ms (Int.ofNat (i % 2) != 0) l (ord.filter (dueN (ms ++ [b]) h w).contains) (dueN (ms ++ [b]) h w) &&
      runsB h w N ord tF mF m (i + 1) (ms ++ [b]) ((ord.filter (dueN (ms ++ [b]) h w).contains).map fun k => (k,if (Int.ofNat (i % 2) != 0) then 2 else 1)) (tot + (ord.filter (dueN (ms ++ [b]) h w).contains).length)
theorem join_one (x : List Nat) : joinS [44,32] [x] = x := rfl
theorem join_ne_nil {low : Nat} {due : List Nat} (hd : due ≠ []) (hl : ∀ k ∈ due,low + k < 33) : joinS [44,32] (due.map fun k => word (low + k)) ≠ [] := by
  match due,hd,hl with
  | [a],_,hl =>
    show word (low + a) ≠ []
    exact (word_parts (hl a (by simp))).2.2.2.2.2
  | a :: b :: l,_,_ =>
    intro e
    have : (Builtin.Str.glued (sOf [44,32]) ((word (low + a) :: word (low + b) :: l.map fun k => word (low + k)).map sOf)).length = 0 := by
      have e2 : (Builtin.Str.glued (sOf [44,32]) ((word (low + a) :: word (low + b) :: l.map fun k => word (low + k)).map sOf)).cps.toList = [] := e
      have e3 := congrArg List.length e2
      simpa [Str.length] using e3
    rw [size_glued] at this
    simp [sOf_len] at this
theorem zero_text : same (sOf (joinS [44,32] (pfq 32 0))) (sOf [48,120,48]) = true := by decide +kernel
theorem zero_join : JoinOk [44,32] (pfq 32 0) := by
  have e : pfq 32 0 = [[48,120,48]] := by decide +kernel
  rw [e]
  exact joinOk_of (by simp) (by simp) (by simp)
theorem mask_text {low w N : Nat} {ks due : List Nat} (hl : low + N ≤ 33) (h2 : ks.length ≤ 2) (h1 : ks ≠ []) (hsame : due.length = ks.length) (hdN : ∀ k ∈ due,k < N) (hp : due = ks ∨ due = ks.reverse) (hup : upB due = true) :
    maskN low w (ks ++ ks) 0 < 2 ^ 34 ∧ pfq 32 (maskN low w (ks ++ ks) 0) = due.map fun k => word (low + k) := by
  match ks,h2,h1,hsame,hp with
  | [a],_,_,_,hp =>
    have e : due = [a] := by rcases hp with h | h; exact h; exact h
    subst e
    have ha := hdN a (by simp)
    rw [mask_one]
    exact ⟨pow_lt34 (by omega),one_bit (by omega)⟩
  | [a,b],_,_,_,hp =>
    rw [mask_two]
    rcases hp with rfl | rfl
    · have ha := hdN a (by simp)
      have hb := hdN b (by simp)
      have hab : a < b := by
        simp only [upB,Bool.and_true] at hup
        exact Nat.le_of_ble_eq_true hup
      exact ⟨or_lt34 (by omega) (by omega),two_bits (by omega) (by omega)⟩
    · have ha := hdN a (by simp)
      have hb := hdN b (by simp)
      have hab : b < a := by
        simp only [List.reverse_cons,List.reverse_nil,List.nil_append,List.cons_append,upB,Bool.and_true] at hup
        exact Nat.le_of_ble_eq_true hup
      rw [Nat.or_comm]
      exact ⟨or_lt34 (by omega) (by omega),two_bits (by omega) (by omega)⟩
theorem runs_of {h w N low : Nat} {ord : List Nat} {tF : Nat} {mF : List Bool} {Y : Gd} (hl : low + N ≤ 33) (hY1 : Y.I.low = low) (hY2 : Y.I.wide = w) (hY3 : Y.mks.length = h + w) :
    ∀ (m i : Nat) (ms : List Bool) (l : List (Nat × Nat)) (tot : Nat),ms.length = h + w → runsB h w N ord tF mF m i ms l tot = true → Runs h Y (fun k => word (low + k)) N ord tF mF m i ms l tot
  | 0,i,ms,l,tot,hm,hr => (of_decide_eq_true hr : tot = tF ∧ ms = mF)
  | m + 1,i,[],l,tot,hm,hr => by cases hr
  | m + 1,i,b :: ms,l,tot,hm,hr => by
    simp only [runsB,Bool.and_eq_true] at hr
    obtain ⟨ht,hr⟩ := hr
    obtain ⟨due,edue⟩ : ∃ due,due = dueN (ms ++ [b]) h w := ⟨_,rfl⟩
    rw [← edue] at ht hr
    obtain ⟨ks,eks⟩ : ∃ ks,ks = ord.filter due.contains := ⟨_,rfl⟩
    rw [← eks] at ht hr
    simp only [turnB,Bool.and_eq_true] at ht
    obtain ⟨ht,hup⟩ := ht
    obtain ⟨t1,t2,t3,t4,t5,t6,t7,t8,t9⟩ := of_decide_eq_true ht
    have hlen : (ms ++ [b]).length = h + w := by rw [List.length_append]; simpa using hm
    have hgd : (due.map fun k => ((List.range N).map fun k => word (low + k)).getD k []) = due.map fun k => word (low + k) :=
      List.map_congr_left fun k hk => by
        rw [List.getD_eq_getElem?_getD,range_at (f := fun k => word (low + k)) (t7 k hk)]; rfl
    have hdl : ∀ k ∈ due,low + k < 33 := fun k hk => by have := t7 k hk; omega
    have hJ2 : JoinOk [44,32] (due.map fun k => ((List.range N).map fun k => word (low + k)).getD k []) := by
      rw [hgd]; exact joinOk_words hdl (by omega) (by simp)
    by_cases h1 : ks = []
    · have hd : due = [] := List.length_eq_zero_iff.mp (by rw [t2,h1]; rfl)
      refine ⟨ks,due,t3,?_,.inl ⟨h1,zero_text⟩,runs_of hl hY1 hY2 hY3 m (i + 1) (ms ++ [b]) _ _ hlen hr⟩
      exact { len := by rw [hY3]; simpa using hm,hw := by rw [hY2,hlen]; exact Nat.le_refl _,rc := by rw [hY2]; exact t1,hdue := by rw [hY2]; exact edue.symm,hks := eks.symm,same := t2,l2 := t4,lN := t5,run := by rw [hY2]; exact t6,dueN := t7,ksN := t8,F := by rw [h1]; exact Nat.two_pow_pos 34,J := by rw [h1]; exact zero_join,J2 := hJ2 }
    · obtain ⟨m1,m2⟩ := mask_text (w := w) hl t3 h1 t2 t7 t9 hup
      have hd : due ≠ [] := fun e => h1 (List.length_eq_zero_iff.mp (by rw [← t2,e]; rfl))
      have hj := join_ne_nil hd hdl
      obtain ⟨c0,cs0,hc⟩ := List.exists_cons_of_ne_nil hj
      refine ⟨ks,due,t3,?_,.inr ⟨⟨c0,cs0,by rw [hgd]; exact hc,?_⟩,h1⟩,runs_of hl hY1 hY2 hY3 m (i + 1) (ms ++ [b]) _ _ hlen hr⟩
      · exact { len := by rw [hY3]; simpa using hm,hw := by rw [hY2,hlen]; exact Nat.le_refl _,rc := by rw [hY2]; exact t1,hdue := by rw [hY2]; exact edue.symm,hks := eks.symm,same := t2,l2 := t4,lN := t5,run := by rw [hY2]; exact t6,dueN := t7,ksN := t8,F := by rw [hY1,hY2]; exact m1,J := by rw [hY1,hY2,m2]; exact joinOk_words hdl (by omega) (by simp),J2 := hJ2 }
      · rw [hY1,hY2,m2,hc]; exact same_iff.mpr rfl
end Mine
namespace Mine
/-! ### the orders and marks there are -/
noncomputable def allO (n w : Nat) : Nat → List (List Nat)
  | 0 => [[]]
  | t + 1 => (allO n w t).flatMap fun o => (freeB o n w).map fun k => o ++ [k]
noncomputable def fullO (n w t : Nat) : Bool := (allO n w t).all fun o => !(freeB o n w).isEmpty
theorem ordNext_mem {x : Int} {o : List Nat} {n w : Nat} (h : freeB o n w ≠ []) : ordNext x o n w ∈ freeB o n w := by
  unfold ordNext
  obtain ⟨l,hl⟩ : ∃ l,l = freeB o n w := ⟨_,rfl⟩
  rw [← hl] at h ⊢
  have hp : 0 < l.length := List.length_pos_iff.mpr h
  have h1 : 0 ≤ (x.fdiv 2).fmod (.ofNat l.length) := Int.fmod_nonneg_of_pos _ (by exact Int.ofNat_lt.mpr hp)
  have h2 : (x.fdiv 2).fmod (.ofNat l.length) < .ofNat l.length := Int.fmod_lt_of_pos _ (by exact Int.ofNat_lt.mpr hp)
  have h3 : ((x.fdiv 2).fmod (.ofNat l.length)).toNat < l.length := by
    have e : Int.ofNat l.length = (l.length : Int) := rfl
    rw [e] at h1 h2 ⊢
    omega
  rw [List.getD_eq_getElem?_getD,List.getElem?_eq_getElem h3]
  exact List.getElem_mem h3
theorem order_mem {c : List Int} {n w T : Nat} (hf : ∀ t,t < T → fullO n w t = true) : ∀ t,t ≤ T → orderN c n w t ∈ allO n w t ∧ (t < T → freeB (orderN c n w t) n w ≠ [])
  | 0,_ => by
    refine ⟨by simp [orderN,allO],fun h e => ?_⟩
    have := List.all_eq_true.mp (hf 0 h) [] (by simp [allO])
    simp only [orderN] at e
    rw [e] at this
    cases this
  | t + 1,ht => by
    obtain ⟨h1,h2⟩ := order_mem hf t (by omega)
    have hm : orderN c n w (t + 1) ∈ allO n w (t + 1) := by
      simp only [orderN,allO,List.mem_flatMap,List.mem_map]
      exact ⟨_,h1,_,ordNext_mem (h2 (by omega)),rfl⟩
    refine ⟨hm,fun h e => ?_⟩
    have := List.all_eq_true.mp (hf (t + 1) h) _ hm
    rw [e] at this
    cases this
noncomputable def chM (h w : Nat) (m : List Bool) : List Bool := if w - m.count true = h + w - m.length then [true] else if 0 < w - m.count true then [true,false] else [false]
noncomputable def allM (h w : Nat) : Nat → List (List Bool)
  | 0 => [[]]
  | t + 1 => (allM h w t).flatMap fun m => (chM h w m).map fun b => m ++ [b]
theorem mkNext_mem (c : List Int) (h w : Nat) (m : List Bool) : mkNext c h w m ∈ chM h w m := by
  unfold mkNext chM
  split
  · rename_i h1
    rw [decide_eq_true h1]; simp
  · rename_i h1
    rw [decide_eq_false h1]
    split
    · rename_i h2
      rw [decide_eq_true h2]
      simp only [Bool.false_or,Bool.true_and]
      cases ((c.getD m.length 0).fmod 2 == 1) <;> simp
    · rename_i h2
      rw [decide_eq_false h2]; simp
theorem marks_mem (c : List Int) (h w : Nat) : ∀ t,marksN c h w t ∈ allM h w t
  | 0 => by simp [marksN,allM]
  | t + 1 => by
    simp only [marksN,allM,List.mem_flatMap,List.mem_map]
    exact ⟨_,marks_mem c h w t,_,mkNext_mem c h w _,rfl⟩
noncomputable def goodB (h w : Nat) (o : List Nat) (m : List Bool) : Bool :=
  decide (o.Nodup ∧ (∀ k ∈ o,k < h * w) ∧ (hitsF (dueN m h w) o).length ≤ 2 ∧ (rowsN m h w h).length ≤ (colsN m w w).length) && runsB h w (h * w) o (h * w) m (h + w) 0 m (hitsF (dueN m h w) o) 0
noncomputable def boardB (h w : Nat) : Bool := (List.range (h * w)).all (fullO (h * w) w) && (allO (h * w) w (h * w)).all fun o => (allM h w (h + w)).all fun m => goodB h w o m
theorem board22 : boardB 2 2 = true := by decide +kernel
theorem board23 : boardB 2 3 = true := by decide +kernel
theorem board32 : boardB 3 2 = true := by decide +kernel
structure Ix (c : List Int) (h w : Nat) : Prop where
  free : ∀ t,t < h * w → freeB (orderN c (h * w) w t) (h * w) w ≠ []
  nd : (orderN c (h * w) w (h * w)).Nodup
  ordN : ∀ k ∈ orderN c (h * w) w (h * w),k < h * w
  hits : (hitsF (dueN (marksN c h w (h + w)) h w) (orderN c (h * w) w (h * w))).length ≤ 2
  rc : (rowsN (marksN c h w (h + w)) h w h).length ≤ (colsN (marksN c h w (h + w)) w w).length
  runs : runsB h w (h * w) (orderN c (h * w) w (h * w)) (h * w) (marksN c h w (h + w)) (h + w) 0 (marksN c h w (h + w)) (hitsF (dueN (marksN c h w (h + w)) h w) (orderN c (h * w) w (h * w))) 0 = true
theorem ix_of {h w : Nat} (hb : boardB h w = true) (c : List Int) : Ix c h w := by
  unfold boardB at hb
  simp only [Bool.and_eq_true] at hb
  have hf : ∀ t,t < h * w → fullO (h * w) w t = true := fun t ht => List.all_eq_true.mp hb.1 t (List.mem_range.mpr ht)
  have ho := order_mem (c := c) hf
  have hg := List.all_eq_true.mp (List.all_eq_true.mp hb.2 _ (ho (h * w) (Nat.le_refl _)).1) _ (marks_mem c h w (h + w))
  unfold goodB at hg
  simp only [Bool.and_eq_true] at hg
  obtain ⟨g1,g2,g3,g4⟩ := of_decide_eq_true hg.1
  exact ⟨fun t ht => (ho t (Nat.le_of_lt ht)).2 ht,g1,g2,g3,g4,hg.2⟩
end Mine
namespace Mine
/-! ### the lexers' signs -/
noncomputable def chB (c : Nat) : Bool := Nat.ble 33 c && Nat.blt c 256 && !(Nat.beq c 34) && !(Nat.beq c 92)
noncomputable def plB (c : Nat) : Bool := !(Nat.beq c 0) && !same (sOf [c]) nlS && !inWs c && !same (sOf [c]) quS && !same (sOf [c]) bsS
theorem plB_all : (List.range 256).all (fun c => !chB c || plB c) = true := by decide +kernel
theorem plB_of {c : Nat} (h : chB c = true) : plB c = true := by
  have hc : c < 256 := by
    unfold chB at h
    simp only [Bool.and_eq_true] at h
    exact Nat.le_of_ble_eq_true h.1.1.2
  have := List.all_eq_true.mp plB_all c (List.mem_range.mpr hc)
  rw [h] at this
  simpa using this
theorem words_ch : (List.range 33).all (fun p => (word p).all chB && !(word p).isEmpty) = true := by decide +kernel
theorem oct_ch : (List.range 64).all (fun d => chB (last d) && chB (more d)) = true := by decide +kernel
theorem oct_chB {N : Nat} (hN : N < 262144) : (oct N).all chB = true := by
  have key : ∀ d,d < 64 → chB (last d) = true ∧ chB (more d) = true := fun d hd => by
    have := List.all_eq_true.mp oct_ch d (List.mem_range.mpr hd)
    simpa using this
  refine List.all_eq_true.mpr fun c hc => ?_
  unfold oct at hc
  rcases List.mem_append.mp hc with hc | hc
  · split at hc
    · cases hc
    · split at hc
      · rw [List.mem_singleton.mp hc]; exact (key _ (by omega)).2
      · rcases List.mem_cons.mp hc with hc | hc
        · rw [hc]; exact (key _ (by omega)).2
        · rw [List.mem_singleton.mp hc]; exact (key _ (by omega)).2
  · rw [List.mem_singleton.mp hc]; exact (key _ (by omega)).1
theorem word_chB {p : Nat} (hp : p < 33) : (word p).all chB = true ∧ word p ≠ [] := by
  have := List.all_eq_true.mp words_ch p (List.mem_range.mpr hp)
  simp only [Bool.and_eq_true] at this
  refine ⟨this.1,fun e => ?_⟩
  rw [e] at this; cases this.2
theorem spot_chB {base w k : Nat} (hb : base < 20000) (hk : k < 100) : (spotN base w k).all chB = true ∧ spotN base w k ≠ [] := by
  have d1 : k / w ≤ k := Nat.div_le_self k w
  have d2 : k % w ≤ k := Nat.mod_le k w
  unfold spotN
  refine ⟨by rw [List.all_append,oct_chB (by omega),oct_chB (by omega)]; rfl,fun e => ?_⟩
  have := congrArg List.length e
  rw [List.length_append] at this
  unfold oct at this
  simp at this
theorem Signs.split : ∀ {a b : List Nat} {vs : List Value},Signs (a ++ b) vs → ∃ v1 v2,vs = v1 ++ v2 ∧ Signs a v1 ∧ Signs b v2
  | [],b,vs,h => ⟨[],vs,rfl,rfl,h⟩
  | c :: a,b,vs,h => by
    obtain ⟨k,vs',rfl,h'⟩ := h
    obtain ⟨v1,v2,rfl,h1,h2⟩ := Signs.split h'
    exact ⟨chV c k :: v1,v2,rfl,⟨k,v1,rfl,h1⟩,h2⟩
theorem signs_len' : ∀ {a : List Nat} {vs : List Value},Signs a vs → vs.length = a.length
  | [],vs,h => by cases h; rfl
  | c :: a,vs,h => by
    obtain ⟨k,vs',rfl,h'⟩ := h
    simp [signs_len' h']
theorem units_of : ∀ {x : List Nat} {vs : List Value},Signs x vs → x.all chB = true → ∃ us : List Un,signsOf us = vs ∧ txtOf us = x ∧ us.length = x.length ∧ us.all okC = true ∧ (x ≠ [] → okW us = true)
  | [],vs,h,_ => by cases h; exact ⟨[],rfl,rfl,rfl,rfl,fun e => absurd rfl e⟩
  | c :: x,vs,h,hx => by
    obtain ⟨k,vs',rfl,h'⟩ := h
    simp only [List.all_cons,Bool.and_eq_true] at hx
    obtain ⟨us,e1,e2,e3,e4,e5⟩ := units_of h' hx.2
    have hp := plB_of hx.1
    unfold plB at hp
    simp only [Bool.and_eq_true] at hp
    obtain ⟨⟨⟨⟨p1,p2⟩,p3⟩,p4⟩,p5⟩ := hp
    have hc : okC ⟨none,c,k⟩ = true := by
      unfold okC okU
      have : c ≠ 0 := by intro e; rw [e] at p1; cases p1
      simp [this,p2,p3,p5]
    refine ⟨⟨none,c,k⟩ :: us,?_,?_,?_,?_,fun _ => ?_⟩
    · rw [signs_cons,e1]; rfl
    · show c :: txtOf us = _; rw [e2]
    · simp [e3]
    · simp [hc,e4]
    · unfold okW
      simp [hc,e4,p4]
noncomputable def restT (ts : List (List Nat × Nat)) (z : List Nat) : List Nat := ts.flatMap (fun p => p.1 ++ [p.2]) ++ z
theorem restT_cons (p : List Nat × Nat) (ts : List (List Nat × Nat)) (z : List Nat) : restT (p :: ts) z = p.1 ++ ([p.2] ++ restT ts z) := by
  unfold restT; simp [List.append_assoc]
noncomputable def nlCount (ts : List (List Nat × Nat)) : Nat := (ts.filter fun p => Nat.beq p.2 10).length
noncomputable def AT (ts : List (List Nat × Nat)) (z : List Nat) (i : Nat) (s : Rs) : Prop :=
  s.q = [] ∧ (∃ t,s.ln = .int (.ofNat (1 + nlCount (ts.take i))) t) ∧ ∃ rv,Signs (restT (ts.drop i) z) rv ∧ s.cs = rv.reverse
theorem ws_32 : inWs 32 = true ∧ same (sOf [32]) nlS = false := by decide +kernel
theorem GetsX.mono {e : Env0} {D : Nat} {X : Lx} {R : Rx} {ln : Value} {q : List Value} {m : Nat} {cs : List Value} {n : Nat} {x : List Nat} {lnf : Tok → Value} {q' : List Value} {m' : Nat} {cs' : List Value} {n' : Nat} (h : GetsX e D X R ln q m cs n x lnf q' m' cs' n') : GetsX e D X R ln q m cs n x lnf q' m' cs' n' := h
theorem step_text {e : Env0} {D : Nat} {X : Lx} {R : Rx} {ts : List (List Nat × Nat)} {z : List Nat} (hD : D + 300 ≤ recursionLimit) (hi : X.ins = .ref R.st) (hts : ∀ p ∈ ts,p.1.all chB = true ∧ p.1 ≠ [] ∧ (p.2 = 32 ∨ p.2 = 10)) (hlen : (restT ts z).length ≤ 10000) :
    Step e D X R (AT ts z) (fun i => (ts.map (·.1)).getD i []) ts.length := by
  intro i hlt s ⟨hq,⟨t,hln⟩,rv,hrv,hcs⟩
  obtain ⟨ln,q,m,cs,n⟩ := s
  simp only at hq hln hcs
  subst hq hln hcs
  have hp := hts ts[i] (List.getElem_mem hlt)
  have hd : ts.drop i = ts[i] :: ts.drop (i + 1) := List.drop_eq_getElem_cons hlt
  have ht : ts.take (i + 1) = ts.take i ++ [ts[i]] := by rw [List.take_add_one,List.getElem?_eq_getElem hlt]; rfl
  have hx : (ts.map (·.1)).getD i [] = ts[i].1 := by
    rw [List.getD_eq_getElem?_getD,List.getElem?_map,List.getElem?_eq_getElem hlt]; rfl
  have hsz : 10000 < sizeLine := by
    have e : sizeLine = 16777216 := by decide
    rw [e]; exact Nat.le_of_ble_eq_true rfl
  have hle : (restT (ts.drop i) z).length ≤ 10000 := by
    refine Nat.le_trans ?_ hlen
    have : restT ts z = (ts.take i).flatMap (fun p => p.1 ++ [p.2]) ++ restT (ts.drop i) z := by
      unfold restT
      rw [← List.append_assoc,← List.flatMap_append,List.take_append_drop]
    rw [this,List.length_append]; omega
  rw [hd,restT_cons] at hrv hle
  obtain ⟨v1,v2,rfl,h1,h2⟩ := hrv.split
  obtain ⟨v3,v4,rfl,h3,h4⟩ := h2.split
  obtain ⟨tb,_,rfl,rfl⟩ := h3
  obtain ⟨us,e1,e2,e3,e4,e5⟩ := units_of h1 hp.1
  have hv1 := signs_len' h1
  have hv4 := signs_len' h4
  simp only [List.length_append,List.length_singleton] at hle
  have ecs : (v1 ++ ([chV ts[i].2 tb] ++ v4)).reverse = ((v4.reverse ++ [chV ts[i].2 tb]) ++ (signsOf us).reverse) := by
    rw [e1]; simp [List.append_assoc]
  have hb : v4.reverse.length + (signsOf us).length + 1 < sizeLine := by rw [List.length_reverse,e1,hv1,hv4]; omega
  have hb2 : us.length < sizeLine := by rw [e3]; omega
  rcases hp.2.2 with h32 | h10
  · refine ⟨fun _ => .int (.ofNat (1 + nlCount (ts.take i))) t,[],m,v4.reverse,n + (signsOf us).length + 1,?_,fun tt => ⟨rfl,⟨t,?_⟩,v4,h4,rfl⟩⟩
    · have g := get_word_ws (e := e) (D := D) (X := X) (R := R) (ln := .int (.ofNat (1 + nlCount (ts.take i))) t) (rest := v4.reverse) (m := m) (n := n) (us := us) (c := 32) (t := tb) hD hi (e5 hp.2.1) hb hb2 (by decide) ws_32.2 ws_32.1
      have key : GetsX e D X R (.int (.ofNat (1 + nlCount (ts.take i))) t) [] m (v1 ++ ([chV ts[i].2 tb] ++ v4)).reverse n ((ts.map (·.1)).getD i []) (fun _ => .int (.ofNat (1 + nlCount (ts.take i))) t) [] m v4.reverse (n + (signsOf us).length + 1) := by
        rw [ecs,h32,hx,← e2]; exact g
      exact key
    · show Value.int (.ofNat (1 + nlCount (ts.take i))) t = _
      rw [ht]
      have : nlCount (ts.take i ++ [ts[i]]) = nlCount (ts.take i) := by
        unfold nlCount; rw [List.filter_append]; simp [h32]
      rw [this]
  · refine ⟨fun k => .int (.ofNat (1 + nlCount (ts.take i) + 1)) k,[],m,v4.reverse,n + (signsOf us).length + 1,?_,fun tt => ⟨rfl,⟨tt,?_⟩,v4,h4,rfl⟩⟩
    · have g := get_word_nl (e := e) (D := D) (X := X) (R := R) (rest := v4.reverse) (m := m) (n := n) (us := us) (i := 1 + nlCount (ts.take i)) (u0 := t) (tb := tb) hD hi (e5 hp.2.1) hb hb2
      have key : GetsX e D X R (.int (.ofNat (1 + nlCount (ts.take i))) t) [] m (v1 ++ ([chV ts[i].2 tb] ++ v4)).reverse n ((ts.map (·.1)).getD i []) (fun k => .int (.ofNat (1 + nlCount (ts.take i) + 1)) k) [] m v4.reverse (n + (signsOf us).length + 1) := by
        rw [ecs,h10,hx,← e2]; exact g
      exact key
    · show Value.int (.ofNat (1 + nlCount (ts.take i) + 1)) tt = _
      rw [ht]
      have : nlCount (ts.take i ++ [ts[i]]) = nlCount (ts.take i) + 1 := by
        unfold nlCount; rw [List.filter_append,List.length_append]; simp [h10]
      rw [this,Nat.add_assoc]
end Mine
namespace Mine
noncomputable def CA (N : Nat) (A B : Nat → Rs → Prop) (i : Nat) (s : Rs) : Prop := (i < N ∧ A i s) ∨ (N ≤ i ∧ B (i - N) s)
section
variable {e : Env0} {D : Nat} {X : Lx} {R : Rx}
theorem Step.append {A B : Nat → Rs → Prop} {l1 l2 : List (List Nat)} (h1 : Step e D X R A (fun i => l1.getD i []) l1.length) (h2 : Step e D X R B (fun i => l2.getD i []) l2.length) (hab : ∀ s,A l1.length s → B 0 s) :
    Step e D X R (CA l1.length A B) (fun i => (l1 ++ l2).getD i []) (l1 ++ l2).length := by
  intro i hi s hs
  rw [List.length_append] at hi
  rcases hs with ⟨hlt,ha⟩ | ⟨hge,hb⟩
  · obtain ⟨lnf,q',m',cs',n',hg,hn⟩ := h1 i hlt s ha
    have hx : (l1 ++ l2).getD i [] = l1.getD i [] := by
      rw [List.getD_eq_getElem?_getD,List.getD_eq_getElem?_getD,List.getElem?_append_left hlt]
    refine ⟨lnf,q',m',cs',n',?_,fun t => ?_⟩
    · have hg' : GetsX e D X R s.ln s.q s.m s.cs s.n (l1.getD i []) lnf q' m' cs' n' := hg
      rw [← hx] at hg'
      exact hg'
    · rcases Nat.lt_or_ge (i + 1) l1.length with h | h
      · exact .inl ⟨h,hn t⟩
      · have e1 : i + 1 = l1.length := by omega
        refine .inr ⟨h,?_⟩
        rw [e1,Nat.sub_self]
        exact hab _ (e1 ▸ hn t)
  · obtain ⟨lnf,q',m',cs',n',hg,hn⟩ := h2 (i - l1.length) (by omega) s hb
    have hx : (l1 ++ l2).getD i [] = l2.getD (i - l1.length) [] := by
      rw [List.getD_eq_getElem?_getD,List.getD_eq_getElem?_getD,List.getElem?_append_right hge]
    refine ⟨lnf,q',m',cs',n',?_,fun t => .inr ⟨by omega,?_⟩⟩
    · have hg' : GetsX e D X R s.ln s.q s.m s.cs s.n (l2.getD (i - l1.length) []) lnf q' m' cs' n' := hg
      rw [← hx] at hg'
      exact hg'
    · have : i + 1 - l1.length = i - l1.length + 1 := by omega
      rw [this]; exact hn t
noncomputable def AQ (q0 : List Value) (ln : Value) (cs : List Value) (n : Nat) (i : Nat) (s : Rs) : Prop := s.q = q0.drop i ∧ s.ln = ln ∧ s.cs = cs ∧ s.n = n
theorem step_queue {xs : List (List Nat)} {q0 : List Value} {ln : Value} {cs : List Value} {n : Nat} (hD : D + 300 ≤ recursionLimit) (h : Strs xs q0) (hl : xs.length ≤ 100) : Step e D X R (AQ q0 ln cs n) (fun i => xs.getD i []) xs.length := by
  intro i hi s ⟨h1,h2,h3,h4⟩
  obtain ⟨ln',q',m',cs',n'⟩ := s
  simp only at h1 h2 h3 h4
  subst h1 h2 h3 h4
  obtain ⟨tv,hv⟩ := h.at (List.getElem?_eq_getElem hi)
  have hql := h.len
  have ed : q0.drop i = .str (sOf xs[i]) tv :: q0.drop (i + 1) := by
    rw [List.drop_eq_getElem_cons (by omega)]
    congr 1
    have := List.getElem?_eq_getElem (l := q0) (i := i) (by omega)
    rw [hv] at this
    exact (Option.some.inj this).symm
  have hx : xs.getD i [] = xs[i] := by rw [List.getD_eq_getElem?_getD,List.getElem?_eq_getElem hi]; rfl
  refine ⟨fun _ => ln',q0.drop (i + 1),m' + 1,cs',n',?_,fun _ => ⟨rfl,rfl,rfl,rfl⟩⟩
  have g := (getq_does (e := e) (D := D) (X := X) (ln := ln') (xs := q0.drop (i + 1)) (n := m') (sv := sOf xs[i]) (tv := tv) (by omega) (Nat.lt_of_le_of_lt (by rw [List.length_drop]; omega : _ ≤ 100) (by decide))).frame (R.L e.w cs' n')
  have key : GetsX e D X R ln' (q0.drop i) m' cs' n' (xs.getD i []) (fun _ => ln') (q0.drop (i + 1)) (m' + 1) cs' n' := by
    rw [ed,hx]
    exact g.map (fun _ => (tv,0)) (fun _ _ => trivial) (fun _ => rfl) (fun _ => rfl) (fun _ => rfl)
  exact key
noncomputable def AE (z : List Nat) (ln : Value) (i : Nat) (s : Rs) : Prop := s.q = [] ∧ s.ln = ln ∧ match i with
  | 0 => ∃ rv,Signs z rv ∧ s.cs = rv.reverse
  | _ => s.cs = []
theorem step_end {z : List Nat} {ln : Value} (hD : D + 300 ≤ recursionLimit) (hi : X.ins = .ref R.st) (hz : z.all chB = true) (hz0 : z ≠ []) (hlen : z.length ≤ 100) : Step e D X R (AE z ln) (fun i => [z,[]].getD i []) [z,[]].length := by
  intro i hlt s ⟨h1,h2,h3⟩
  obtain ⟨ln',q',m',cs',n'⟩ := s
  simp only at h1 h2 h3
  subst h1 h2
  match i,hlt,h3 with
  | 0,_,h3 =>
    obtain ⟨rv,hrv,rfl⟩ := h3
    obtain ⟨us,e1,e2,e3,e4,e5⟩ := units_of hrv hz
    refine ⟨fun _ => ln',[],m',[],n' + (signsOf us).length,?_,fun _ => ⟨rfl,rfl,rfl⟩⟩
    have g := get_word_end (e := e) (D := D) (X := X) (R := R) (ln := ln') (m := m') (n := n') (us := us) hD hi (e5 hz0) (by rw [e1,signs_len' hrv]; exact Nat.lt_of_le_of_lt hlen (by decide)) (by rw [e3]; exact Nat.lt_of_le_of_lt hlen (by decide))
    have key : GetsX e D X R ln' [] m' rv.reverse n' z (fun _ => ln') [] m' [] (n' + (signsOf us).length) := by
      rw [← e1]
      have g' := g.map (fun z => (z,(0 : Tok))) (ok' := fun _ : Tok × Tok => True) (res' := fun z => retV (.str (sOf (txtOf us)) z.1)) (post' := fun _ => X.L ln' [] m' ++ R.L e.w [] (n' + (signsOf us).length)) (news' := fun _ => []) (fun _ _ => trivial) (fun _ => rfl) (fun _ => rfl) (fun _ => rfl)
      rw [e2] at g'
      exact g'
    exact key
  | 1,_,h3 =>
    simp only at h3
    subst h3
    refine ⟨fun _ => ln',[],m',[],n',?_,fun _ => ⟨rfl,rfl,rfl⟩⟩
    have g := G_none (e := e) (D := D) (X := X) (R := R) (ln := ln') (m := m') (n := n') hD hi
    exact g.map (fun z => (z,(0 : Tok))) (ok' := fun _ : Tok × Tok => True) (res' := fun z => retV (.str (sOf []) z.1)) (post' := fun _ => X.L ln' [] m' ++ R.L e.w [] n') (news' := fun _ => []) (fun _ _ => trivial) (fun _ => rfl) (fun _ => rfl) (fun _ => rfl)
end
end Mine
namespace Mine
theorem joinS_flat : ∀ ss : List (List Nat),joinS [] ss = ss.flatten := by
  have key : ∀ (l : List (List Nat)) (acc : Array Nat),(List.foldl (fun acc (p : Str) => acc ++ (sOf []).cps ++ p.cps) acc (l.map sOf)).toList = acc.toList ++ l.flatten := by
    intro l
    induction l with
    | nil => intro acc; simp
    | cons x l ih =>
      intro acc
      rw [List.map_cons,List.foldl_cons,ih]
      simp [sOf]
  intro ss
  unfold joinS
  split
  · simp
  · cases ss with
    | nil => rfl
    | cons x l =>
      show (List.foldl _ (sOf x).cps ((x :: l).map sOf |>.drop 1)).toList = _
      rw [List.map_cons,List.drop_succ_cons,List.drop_zero,key]
      rfl
noncomputable def tsOf (low base w : Nat) (ord : List Nat) : List (List Nat × Nat) := ord.flatMap fun k => [(word (low + k),32),(spotN base w k,10)]
theorem ts_words (low base w : Nat) (ord : List Nat) : (tsOf low base w ord).map (·.1) = ord.flatMap fun k => [word (low + k),spotN base w k] := by
  unfold tsOf; rw [List.map_flatMap]; rfl
theorem ts_len (low base w : Nat) (ord : List Nat) : (tsOf low base w ord).length = 2 * ord.length := by
  unfold tsOf
  induction ord with
  | nil => rfl
  | cons a l ih => rw [List.flatMap_cons,List.length_append,ih]; simp; omega
theorem ts_nl (low base w : Nat) (ord : List Nat) : nlCount (tsOf low base w ord) = ord.length := by
  unfold tsOf nlCount
  induction ord with
  | nil => rfl
  | cons a l ih =>
    rw [List.flatMap_cons,List.filter_append,List.length_append,ih]
    simp; omega
theorem ts_text {low base w N : Nat} {ord : List Nat} (hN : ∀ k ∈ ord,k < N) (z : List Nat) :
    joinS [] (ord.map fun k => word (low + k) ++ [32] ++ ((List.range N).map (spotN base w)).getD k [] ++ [10]) ++ z = restT (tsOf low base w ord) z := by
  rw [joinS_flat]
  unfold restT tsOf
  congr 1
  induction ord with
  | nil => rfl
  | cons a l ih =>
    have ha := hN a List.mem_cons_self
    rw [List.map_cons,List.flatten_cons,List.flatMap_cons,List.flatMap_append,ih fun k hk => hN k (List.mem_cons_of_mem _ hk)]
    have e : ((List.range N).map (spotN base w)).getD a [] = spotN base w a := by
      rw [List.getD_eq_getElem?_getD,range_at (f := spotN base w) ha]; rfl
    rw [e]
    simp [List.append_assoc]
theorem ts_ok {low base w N : Nat} {ord : List Nat} (hN : ∀ k ∈ ord,k < N) (hl : low + N ≤ 33) (hb : base < 20000) : ∀ p ∈ tsOf low base w ord,p.1.all chB = true ∧ p.1 ≠ [] ∧ (p.2 = 32 ∨ p.2 = 10) := by
  intro p hp
  unfold tsOf at hp
  obtain ⟨k,hk,hp⟩ := List.mem_flatMap.mp hp
  have hkN := hN k hk
  rcases List.mem_cons.mp hp with rfl | hp
  · exact ⟨(word_chB (by omega)).1,(word_chB (by omega)).2,.inl rfl⟩
  · rw [List.mem_singleton.mp hp]
    exact ⟨(spot_chB hb (by omega)).1,(spot_chB hb (by omega)).2,.inr rfl⟩
theorem rest_len {ts : List (List Nat × Nat)} {z : List Nat} (h : ∀ p ∈ ts,p.1.length ≤ 50) : (restT ts z).length ≤ ts.length * 51 + z.length := by
  unfold restT
  rw [List.length_append]
  have : (ts.flatMap fun p => p.1 ++ [p.2]).length ≤ ts.length * 51 := by
    induction ts with
    | nil => simp
    | cons a l ih =>
      have h1 := h a List.mem_cons_self
      have ih := ih fun p hp => h p (List.mem_cons_of_mem _ hp)
      rw [List.flatMap_cons,List.length_append,List.length_append]
      have e : (a :: l).length * 51 = l.length * 51 + 51 := by rw [List.length_cons]; omega
      rw [e]
      simp only [List.length_singleton]
      omega
  omega
theorem ts_short {low base w N : Nat} {ord : List Nat} (hN : ∀ k ∈ ord,k < N) (hl : low + N ≤ 33) : ∀ p ∈ tsOf low base w ord,p.1.length ≤ 50 := by
  intro p hp
  unfold tsOf at hp
  obtain ⟨k,hk,hp⟩ := List.mem_flatMap.mp hp
  have hkN := hN k hk
  rcases List.mem_cons.mp hp with rfl | hp
  · have := word_len (low + k) (by omega)
    show (word (low + k)).length ≤ 50
    omega
  · rw [List.mem_singleton.mp hp]
    exact Nat.le_trans (spotN_len _ _ _) (by decide)
theorem lex1_of {e : Env0} {low base w N : Nat} {ord : List Nat} (hN : ∀ k ∈ ord,k < N) (hl : low + N ≤ 33) (hb : base < 20000) (h6 : ord.length ≤ 6) (h0 : 0 < ord.length) (hN0 : 0 < N) (D : Nat) (X : Lx) (R : Rx) (u : Tok) (vs : List Value) (hD : D + 500 ≤ recursionLimit) (hi : X.ins = .ref R.st)
    (hs : Signs (joinS [] (ord.map fun k => word (low + k) ++ [32] ++ ((List.range N).map (spotN base w)).getD k [] ++ [10]) ++ word (low + 0)) vs) (n0 : Nat) :
    ∃ A : Nat → Rs → Prop,A 0 ⟨.int (.ofNat 1) u,[],0,vs.reverse,n0⟩ ∧ Step e D X R A (fun i => (ord.flatMap fun k => [word (low + k),spotN base w k]).getD i []) (2 * ord.length) ∧
      ∀ s,A (2 * ord.length) s → s.q = [] ∧ (∃ t,s.ln = .int (.ofNat (ord.length + 1)) t) ∧ ∀ (q : List Value) (m : Nat),Strs (ord.flatMap fun k => [word (low + k),spotN base w k]) q →
        ∃ A2 : Nat → Rs → Prop,A2 0 ⟨s.ln,q,m,s.cs,s.n⟩ ∧ Step e D X R A2 (fun i => (ord.flatMap (fun k => [word (low + k),spotN base w k]) ++ [word (low + 0),[]]).getD i []) (2 * ord.length + 2) := by
  have hz := word_chB (p := low + 0) (by omega)
  have hzl := word_len (low + 0) (by omega)
  rw [ts_text hN] at hs
  have hts := ts_ok (w := w) hN hl hb
  have hlen : (restT (tsOf low base w ord) (word (low + 0))).length ≤ 10000 := by
    have := rest_len (z := word (low + 0)) (ts_short (base := base) (w := w) hN hl)
    rw [ts_len] at this
    omega
  have hstep := step_text (e := e) (D := D) (X := X) (R := R) (ts := tsOf low base w ord) (z := word (low + 0)) (by omega) hi hts hlen
  rw [ts_len,ts_words] at hstep
  refine ⟨AT (tsOf low base w ord) (word (low + 0)),⟨rfl,⟨u,rfl⟩,vs,hs,rfl⟩,hstep,?_⟩
  intro s ⟨h1,⟨t,h2⟩,rv,h3,h4⟩
  have hlt : 2 * ord.length = (tsOf low base w ord).length := (ts_len _ _ _ _).symm
  rw [hlt] at h2 h3
  rw [List.take_length,ts_nl,Nat.add_comm] at h2
  rw [List.drop_length] at h3
  refine ⟨h1,⟨t,h2⟩,fun q m hq => ?_⟩
  have hfl : (ord.flatMap fun k => [word (low + k),spotN base w k]).length = 2 * ord.length := by rw [← ts_words,List.length_map,ts_len]
  refine ⟨CA (ord.flatMap fun k => [word (low + k),spotN base w k]).length (AQ q s.ln s.cs s.n) (AE (word (low + 0)) s.ln),.inl ⟨by omega,rfl,rfl,rfl,rfl⟩,?_⟩
  have := Step.append (e := e) (D := D) (X := X) (R := R) (step_queue (cs := s.cs) (n := s.n) (ln := s.ln) (by omega) hq (by rw [hfl]; omega)) (step_end (z := word (low + 0)) (ln := s.ln) (by omega) hi hz.1 hz.2 (by omega)) (fun s' ⟨g1,g2,g3,g4⟩ => ⟨by rw [g1,← hq.len]; exact List.drop_length,g2,rv,by simpa [restT] using h3,by rw [g3,h4]⟩)
  rw [List.length_append,hfl] at this
  rw [hfl]
  exact this
end Mine
namespace Mine
noncomputable def AM (mk : List Bool) (i : Nat) (s : Rs) : Prop :=
  s.q = [] ∧ (∃ t,s.ln = .int (.ofNat 1) t) ∧ ∃ lead rv,Lead lead ∧ Signs ((mk.drop i).flatMap shownM ++ [34,43]) rv ∧ s.cs = rv.reverse ++ lead
theorem units_T {t1 t2 t3 t4 t5 t6 t7 : Tok} : okE [⟨some t1,34,t2⟩,⟨none,34,t3⟩,⟨some t4,92,t5⟩,⟨some t6,32,t7⟩] = true := by
  have : okE [⟨some 0,34,0⟩,⟨none,34,0⟩,⟨some 0,92,0⟩,⟨some 0,32,0⟩] = true := by decide +kernel
  exact this
theorem units_F {t2 t3 t4 t5 t6 : Tok} : [(⟨some t2,92,t3⟩ : Un),⟨none,32,t4⟩,⟨some t5,34,t6⟩].all okB = true := by
  have : [(⟨some 0,92,0⟩ : Un),⟨none,32,0⟩,⟨some 0,34,0⟩].all okB = true := by decide +kernel
  exact this
theorem units_P {t : Tok} : [(⟨none,43,t⟩ : Un)].all okB = true := by
  have : [(⟨none,43,0⟩ : Un)].all okB = true := by decide +kernel
  exact this
theorem ws_9 : inWs 9 = true ∧ same (sOf [9]) nlS = false := by decide +kernel
section
variable {e : Env0} {D : Nat} {X : Lx} {R : Rx}
theorem step_marks {mk : List Bool} (hD : D + 300 ≤ recursionLimit) (hi : X.ins = .ref R.st) (hm : mk.length ≤ 20) : Step e D X R (AM mk) (fun i => (mk.map sg).getD i []) mk.length := by
  intro i hlt s ⟨h1,⟨u,h2⟩,lead,rv,hL,h3,h4⟩
  obtain ⟨ln,q,m,cs,n⟩ := s
  simp only at h1 h2 h4
  subst h1 h2 h4
  have hd : mk.drop i = mk[i] :: mk.drop (i + 1) := List.drop_eq_getElem_cons hlt
  have hx : (mk.map sg).getD i [] = sg mk[i] := by
    rw [List.getD_eq_getElem?_getD,List.getElem?_map,List.getElem?_eq_getElem hlt]; rfl
  have hsh : ∀ b,(shownM b).length ≤ 9 := fun b => by cases b <;> decide
  have hfl : ∀ l : List Bool,(l.flatMap shownM).length ≤ 9 * l.length := fun l => by
    induction l with
    | nil => simp
    | cons a l ih =>
      have := hsh a
      rw [List.flatMap_cons,List.length_append,List.length_cons]; omega
  have hrest := hfl (mk.drop (i + 1))
  have hdl : (mk.drop (i + 1)).length ≤ 20 := by rw [List.length_drop]; omega
  have hsz : 10000 < sizeLine := by
    have e : sizeLine = 16777216 := by decide
    rw [e]; exact Nat.le_of_ble_eq_true rfl
  rw [hd,List.flatMap_cons,List.append_assoc] at h3
  obtain ⟨v1,v2,rfl,h5,h6⟩ := h3.split
  have hv2 := signs_len' h6
  simp only [List.length_append,List.length_cons,List.length_nil] at hv2
  cases hb : mk[i] with
  | true =>
    rw [hb] at h5 hx
    obtain ⟨t1,_,rfl,t2,_,rfl,t3,_,rfl,t4,_,rfl,t5,_,rfl,t6,_,rfl,t7,_,rfl,t8,_,rfl,t9,_,rfl,rfl⟩ := h5
    refine ⟨fun _ => .int (.ofNat 1) u,[],m,v2.reverse ++ [chV 13 t9],n + lead.length + ((signsOf [⟨some t1,34,t2⟩,⟨none,34,t3⟩,⟨some t4,92,t5⟩,⟨some t6,32,t7⟩]).length + 1),?_,fun _ => ⟨rfl,⟨u,rfl⟩,[chV 13 t9],v2,.ret t9,h6,rfl⟩⟩
    have g := get_esc_ws (e := e) (D := D) (X := X) (R := R) (ln := .int (.ofNat 1) u) (m := m) (n := n) (rest := v2.reverse ++ [chV 13 t9]) (us := [⟨some t1,34,t2⟩,⟨none,34,t3⟩,⟨some t4,92,t5⟩,⟨some t6,32,t7⟩]) (c := 9) (t := t8) hL hD hi units_T (by simp [signsOf,Un.signs]; omega) (Nat.lt_of_le_of_lt (by simp : _ ≤ 100) (by decide)) (by decide) ws_9.2 ws_9.1
    have key : GetsX e D X R (.int (.ofNat 1) u) [] m (([chV 92 t1,chV 34 t2,chV 34 t3,chV 92 t4,chV 92 t5,chV 92 t6,chV 32 t7,chV 9 t8,chV 13 t9] ++ v2).reverse ++ lead) n ((mk.map sg).getD i []) (fun _ => .int (.ofNat 1) u) [] m (v2.reverse ++ [chV 13 t9]) (n + lead.length + ((signsOf [⟨some t1,34,t2⟩,⟨none,34,t3⟩,⟨some t4,92,t5⟩,⟨some t6,32,t7⟩]).length + 1)) := by
      have ecs : ([chV 92 t1,chV 34 t2,chV 34 t3,chV 92 t4,chV 92 t5,chV 92 t6,chV 32 t7,chV 9 t8,chV 13 t9] ++ v2).reverse ++ lead = (((v2.reverse ++ [chV 13 t9]) ++ [chV 9 t8]) ++ (signsOf [⟨some t1,34,t2⟩,⟨none,34,t3⟩,⟨some t4,92,t5⟩,⟨some t6,32,t7⟩]).reverse) ++ lead := by
        simp [signsOf,Un.signs]
      rw [ecs,hx]
      exact g
    exact key
  | false =>
    rw [hb] at h5 hx
    obtain ⟨t1,_,rfl,t2,_,rfl,t3,_,rfl,t4,_,rfl,t5,_,rfl,t6,_,rfl,t7,_,rfl,rfl⟩ := h5
    refine ⟨fun _ => .int (.ofNat 1) u,[],m,v2.reverse,n + lead.length + (1 + (signsOf [⟨some t2,92,t3⟩,⟨none,32,t4⟩,⟨some t5,34,t6⟩]).length + 1),?_,fun _ => ⟨rfl,⟨u,rfl⟩,[],v2,.none,h6,by simp⟩⟩
    have g := get_quoted (e := e) (D := D) (X := X) (R := R) (ln := .int (.ofNat 1) u) (m := m) (n := n) (rest := v2.reverse) (us := [⟨some t2,92,t3⟩,⟨none,32,t4⟩,⟨some t5,34,t6⟩]) (ta := t1) (tb := t7) hL hD hi units_F (by simp [signsOf,Un.signs]; omega) (Nat.lt_of_le_of_lt (by simp : _ ≤ 100) (by decide))
    have key : GetsX e D X R (.int (.ofNat 1) u) [] m (([chV 34 t1,chV 92 t2,chV 92 t3,chV 32 t4,chV 92 t5,chV 34 t6,chV 34 t7] ++ v2).reverse ++ lead) n ((mk.map sg).getD i []) (fun _ => .int (.ofNat 1) u) [] m v2.reverse (n + lead.length + (1 + (signsOf [⟨some t2,92,t3⟩,⟨none,32,t4⟩,⟨some t5,34,t6⟩]).length + 1)) := by
      have ecs : ([chV 34 t1,chV 92 t2,chV 92 t3,chV 32 t4,chV 92 t5,chV 34 t6,chV 34 t7] ++ v2).reverse ++ lead = (((v2.reverse ++ [chV 34 t7]) ++ (signsOf [⟨some t2,92,t3⟩,⟨none,32,t4⟩,⟨some t5,34,t6⟩]).reverse) ++ [chV 34 t1]) ++ lead := by
        simp [signsOf,Un.signs]
      rw [ecs,hx]
      exact g
    exact key
noncomputable def AP (ln : Value) (i : Nat) (s : Rs) : Prop := s.q = [] ∧ s.ln = ln ∧ match i with
  | 0 => ∃ lead rv,Lead lead ∧ Signs [34,43] rv ∧ s.cs = rv.reverse ++ lead
  | _ => s.cs = []
theorem step_plus {ln : Value} (hD : D + 300 ≤ recursionLimit) (hi : X.ins = .ref R.st) : Step e D X R (AP ln) (fun i => [[43],[]].getD i []) [[43],([] : List Nat)].length := by
  intro i hlt s ⟨h1,h2,h3⟩
  obtain ⟨ln',q',m',cs',n'⟩ := s
  simp only at h1 h2 h3
  subst h1 h2
  match i,hlt,h3 with
  | 0,_,h3 =>
    obtain ⟨lead,rv,hL,hrv,rfl⟩ := h3
    obtain ⟨t1,_,rfl,t2,_,rfl,rfl⟩ := hrv
    refine ⟨fun _ => ln',[],m',[],n' + lead.length + (1 + (signsOf [⟨none,43,t2⟩]).length),?_,fun _ => ⟨rfl,rfl,rfl⟩⟩
    have g := get_quoted_end (e := e) (D := D) (X := X) (R := R) (ln := ln') (m := m') (n := n') (us := [⟨none,43,t2⟩]) (ta := t1) hL hD hi units_P (Nat.lt_of_le_of_lt (by simp [signsOf,Un.signs] : _ ≤ 100) (by decide)) (Nat.lt_of_le_of_lt (by simp : _ ≤ 100) (by decide))
    exact g.map (fun z => (z,(0 : Tok))) (ok' := fun _ : Tok × Tok => True) (res' := fun z => retV (.str (sOf [43]) z.1)) (post' := fun _ => X.L ln' [] m' ++ R.L e.w [] (n' + lead.length + (1 + (signsOf [⟨none,43,t2⟩]).length))) (news' := fun _ => []) (fun _ _ => trivial) (fun _ => rfl) (fun _ => rfl) (fun _ => rfl)
  | 1,_,h3 =>
    simp only at h3
    subst h3
    refine ⟨fun _ => ln',[],m',[],n',?_,fun _ => ⟨rfl,rfl,rfl⟩⟩
    have g := G_none (e := e) (D := D) (X := X) (R := R) (ln := ln') (m := m') (n := n') hD hi
    exact g.map (fun z => (z,(0 : Tok))) (ok' := fun _ : Tok × Tok => True) (res' := fun z => retV (.str (sOf []) z.1)) (post' := fun _ => X.L ln' [] m' ++ R.L e.w [] n') (news' := fun _ => []) (fun _ _ => trivial) (fun _ => rfl) (fun _ => rfl) (fun _ => rfl)
end
theorem lex2_of {e : Env0} {mk : List Bool} (hm : mk.length ≤ 20) (hm0 : 0 < mk.length) (D : Nat) (X : Lx) (R : Rx) (u : Tok) (vs : List Value) (hD : D + 500 ≤ recursionLimit) (hi : X.ins = .ref R.st) (hs : Signs (joinS [] (mk.map shownM) ++ [34,43]) vs) (n0 : Nat) :
    ∃ A : Nat → Rs → Prop,A 0 ⟨.int (.ofNat 1) u,[],0,vs.reverse,n0⟩ ∧ Step e D X R A (fun i => (mk.map sg).getD i []) mk.length ∧
      ∀ s,A mk.length s → s.q = [] ∧ (∃ t,s.ln = .int (.ofNat 1) t) ∧ ∀ (q : List Value) (m : Nat),Strs (mk.map sg) q →
        ∃ A2 : Nat → Rs → Prop,A2 0 ⟨s.ln,q,m,s.cs,s.n⟩ ∧ Step e D X R A2 (fun i => (mk.map sg ++ [[43],[]]).getD i []) (mk.length + 2) ∧
          ∀ s,A2 (mk.length + 2) s → ∃ t,s.ln = .int (.ofNat 1) t := by
  rw [joinS_flat,← List.flatMap_def] at hs
  refine ⟨AM mk,⟨rfl,⟨u,rfl⟩,[],vs,.none,hs,by simp⟩,step_marks (by omega) hi hm,?_⟩
  intro s ⟨h1,⟨t,h2⟩,lead,rv,hL,h3,h4⟩
  rw [List.drop_length] at h3
  refine ⟨h1,⟨t,h2⟩,fun q m hq => ?_⟩
  refine ⟨CA (mk.map sg).length (AQ q s.ln s.cs s.n) (AP s.ln),.inl ⟨by simpa using hm0,rfl,rfl,rfl,rfl⟩,?_,?_⟩
  · have := Step.append (e := e) (D := D) (X := X) (R := R) (step_queue (cs := s.cs) (n := s.n) (ln := s.ln) (by omega) hq (by simp; omega)) (step_plus (ln := s.ln) (by omega) hi) (fun s' ⟨g1,g2,g3,g4⟩ => ⟨by rw [g1,← hq.len]; exact List.drop_length,g2,lead,rv,hL,by simpa using h3,by rw [g3,h4]⟩)
    rw [List.length_append,List.length_map] at this
    rw [List.length_map]
    exact this
  · intro s' hs'
    rw [List.length_map] at hs'
    rcases hs' with ⟨hlt,_⟩ | ⟨_,h⟩
    · omega
    · exact ⟨t,by rw [h.2.1,h2]⟩
end Mine
namespace Mine
/-! ### the law's plain side,put together -/
theorem evens_pairs {α β : Type} (f g : α → β) : ∀ l : List α,evensN 0 (l.flatMap fun k => [f k,g k]) = l.map f ∧ evensN 1 (l.flatMap fun k => [f k,g k]) = l.map g
  | [] => ⟨rfl,rfl⟩
  | a :: l => by
    have ih := evens_pairs f g l
    refine ⟨?_,?_⟩
    · show f a :: evensN 0 (l.flatMap fun k => [f k,g k]) = _
      rw [ih.1]; rfl
    · show g a :: evensN 1 (l.flatMap fun k => [f k,g k]) = _
      rw [ih.2]; rfl
theorem map_getD {N : Nat} {ord : List Nat} (f : Nat → List Nat) (h : ∀ k ∈ ord,k < N) : ord.map f = ord.map fun k => ((List.range N).map f).getD k [] :=
  List.map_congr_left fun k hk => by
    rw [List.getD_eq_getElem?_getD,range_at (f := f) (h k hk)]; rfl
theorem getD_range {N k : Nat} {f : Nat → List Nat} (h : k < N) : ((List.range N).map f).getD k [] = f k := by
  rw [List.getD_eq_getElem?_getD,range_at (f := f) h]; rfl
theorem shown_len (b : Bool) : (shownM b).length ≤ 9 := by cases b <;> decide
theorem j31_all : JoinOk [44,32] (pfq 32 (7 * 2 ^ 31)) := by
  have h : ((pfq 32 (7 * 2 ^ 31)).all fun x => Nat.ble x.length 50) = true ∧ Nat.ble (pfq 32 (7 * 2 ^ 31)).length 10 = true := by decide +kernel
  exact joinOk_of (fun x hx => Nat.le_of_ble_eq_true (List.all_eq_true.mp h.1 x hx)) (Nat.le_of_ble_eq_true h.2) (by simp)
section
variable {c : List Int} {h w low base : Nat}
structure Sz (h w low base : Nat) : Prop where
  h2 : h ≤ 3
  w2 : w ≤ 3
  h0 : 2 ≤ h
  w0 : 2 ≤ w
  N46 : h * w = 4 ∨ h * w = 6
  lowN : low + h * w ≤ 33
  baseN : base < 20000
theorem Sz.n6 (S : Sz h w low base) : h * w ≤ 6 := by rcases S.N46 with e | e <;> omega
theorem Sz.n4 (S : Sz h w low base) : 4 ≤ h * w := by rcases S.N46 with e | e <;> omega
variable (S : Sz h w low base) (I : Ix c h w)
include S I
theorem line_len : ∀ x ∈ (orderN c (h * w) w (h * w)).map (fun k => word (low + k) ++ [32] ++ ((List.range (h * w)).map (spotN base w)).getD k [] ++ [10]),x.length ≤ 50 := by
  intro x hx
  obtain ⟨k,hk,rfl⟩ := List.mem_map.mp hx
  have hkN := I.ordN k hk
  have := S.lowN
  have h1 := word_len (low + k) (by omega)
  have h2 := spotN_len base w k
  rw [getD_range hkN]
  simp only [List.length_append,List.length_singleton]
  omega
theorem jl_all : JoinOk [] ((orderN c (h * w) w (h * w)).map fun k => word (low + k) ++ [32] ++ ((List.range (h * w)).map (spotN base w)).getD k [] ++ [10]) :=
  joinOk_of (line_len S I) (by rw [List.length_map,orderN_len]; have := S.n6; omega) (by simp)
theorem js_all : JoinOk [] ((marksN c h w (h + w)).map shownM) :=
  joinOk_of (fun x hx => by
    obtain ⟨b,_,rfl⟩ := List.mem_map.mp hx
    have := shown_len b
    omega) (by rw [List.length_map,marksN_len]; have := S.h2; have := S.w2; omega) (by simp)
theorem fwL_all : ((orderN c (h * w) w (h * w)).flatMap fun k => [word (low + k),spotN base w k]).length = 2 * (h * w) := by
  rw [← ts_words,List.length_map,ts_len,orderN_len]
theorem s1_all : (joinS [] ((orderN c (h * w) w (h * w)).map fun k => word (low + k) ++ [32] ++ ((List.range (h * w)).map (spotN base w)).getD k [] ++ [10]) ++ word (low + 0)).length ≤ 1000 := by
  have h1 := joinS_len (sep := []) (line_len S I)
  rw [List.length_map,orderN_len] at h1
  have := S.lowN
  have h2 := word_len (low + 0) (by have := S.n4; omega)
  have := S.n6
  rw [List.length_append]
  simp only [List.length_nil,Nat.add_zero] at h1
  omega
theorem s1ne_all : joinS [] ((orderN c (h * w) w (h * w)).map fun k => word (low + k) ++ [32] ++ ((List.range (h * w)).map (spotN base w)).getD k [] ++ [10]) ++ word (low + 0) ≠ [] := by
  intro e
  have := (List.append_eq_nil_iff.mp e).2
  exact (word_parts (p := low + 0) (by have := S.n4; have := S.lowN; omega)).2.2.2.2.2 this
theorem s2_all : (joinS [] ((marksN c h w (h + w)).map shownM) ++ [34,43]).length ≤ 1000 := by
  have h1 := joinS_len (sep := []) (ss := (marksN c h w (h + w)).map shownM) (fun x hx => by
    obtain ⟨b,_,rfl⟩ := List.mem_map.mp hx
    have := shown_len b
    omega)
  rw [List.length_map,marksN_len] at h1
  have := S.h2
  have := S.w2
  rw [List.length_append]
  simp only [List.length_nil,Nat.add_zero] at h1
  have e : ([34,43] : List Nat).length = 2 := rfl
  rw [e]
  omega
theorem pw_all : 2 ^ (h * w) - 1 < 2 ^ 60 ∧ (2 ^ (h * w) - 1) * 2 ^ low < 2 ^ 34 := by
  have h1 : 2 ^ (h * w) ≤ 2 ^ 60 := Nat.pow_le_pow_right (by decide) (by have := S.n6; omega)
  have h2 : 0 < 2 ^ (h * w) := Nat.two_pow_pos _
  have h3 : 0 < 2 ^ low := Nat.two_pow_pos _
  refine ⟨by omega,?_⟩
  have h4 : (2 ^ (h * w) - 1) * 2 ^ low < 2 ^ (h * w) * 2 ^ low := Nat.mul_lt_mul_of_pos_right (by omega) h3
  have h5 : 2 ^ (h * w) * 2 ^ low = 2 ^ (h * w + low) := (Nat.pow_add 2 _ _).symm
  have h6 : 2 ^ (h * w + low) ≤ 2 ^ 34 := Nat.pow_le_pow_right (by decide) (by have := S.lowN; omega)
  omega
end
noncomputable def lf_mk {e : Env0} {c : List Int} {c6 : Int} (hc6 : c[6]? = some c6) {h w low base : Nat} {d1 d2 : Bool} (hd1 : (c6.fmod 3 == 2) = d1) (hd2 : (c6.fmod 3 == 1) = d2)
    (hh : (2 : Int) + .ofNat (bI d1) = .ofNat h) (hw : (2 : Int) + .ofNat (bI d2) = .ofNat w) (S : Sz h w low base) (I : Ix c h w)
    (h34 : (34 : Int) - .ofNat (h * w) = .ofNat (34 - h * w)) (hlow : ((c6.fdiv 10).fmod 100).fmod (.ofNat (34 - h * w)) = .ofNat low) (hbase : (c6.fdiv 1000).fmod 20000 = .ofNat base) : LF e c where
  c6 := c6
  hc6 := hc6
  h := h
  w := w
  low := low
  base := base
  d1 := d1
  d2 := d2
  hd1 := hd1
  hd2 := hd2
  hh := hh
  hw := hw
  h2 := S.h2
  w2 := S.w2
  h0 := S.h0
  w0 := S.w0
  N46 := S.N46
  h34 := h34
  hlow := hlow
  hbase := hbase
  lowN := S.lowN
  baseN := S.baseN
  hB := I.free
  ordN := I.ordN
  ordL := orderN_len _ _ _ _
  mkL := marksN_len _ _ _ _
  sf10 := fun x hx => by
    obtain ⟨k,_,rfl⟩ := List.mem_map.mp hx
    exact spotN_len _ _ _
  jl := jl_all S I
  js := js_all S I
  fwL := fwL_all S I
  s1len := Nat.le_trans (s1_all S I) hs1000
  s1ne := s1ne_all S I
  s2len := Nat.le_trans (s2_all S I) hs1000
  s2ne := by simp
  fw_even := by rw [(evens_pairs (fun k => word (low + k)) (spotN base w) _).1]; exact map_getD _ I.ordN
  fw_odd := by rw [(evens_pairs (fun k => word (low + k)) (spotN base w) _).2]; exact map_getD _ I.ordN
  lex1 := fun D X R u vs hD hi hs => by
    have := lex1_of (e := e) (N := h * w) I.ordN S.lowN S.baseN (by rw [orderN_len]; exact S.n6) (by rw [orderN_len]; have := S.n4; omega) (by have := S.n4; omega) D X R u vs hD hi hs
      (joinS [] ((orderN c (h * w) w (h * w)).map fun k => word (low + k) ++ [32] ++ ((List.range (h * w)).map (spotN base w)).getD k [] ++ [10]) ++ word (low + 0)).length
    rw [orderN_len] at this
    exact this
  lex2 := fun D X R u vs hD hi hs => lex2_of (by rw [marksN_len]; have := S.h2; have := S.w2; omega) (by rw [marksN_len]; have := S.h0; omega) D X R u vs hD hi hs _
  pw2 := (pw_all S I).1
  F1 := (pw_all S I).2
  J1 := by
    rw [told_of S.N46 S.lowN]
    exact joinOk_words (fun k hk => by have := S.lowN; have := List.mem_range.mp hk; omega) (by rw [List.length_range]; have := S.n6; omega) (by simp)
  J31 := j31_all
  jw := joinOk_words (fun k hk => by have := S.lowN; have := List.mem_range.mp hk; omega) (by rw [List.length_range]; have := S.n6; omega) (by simp)
  told1 := by rw [told_of S.N46 S.lowN]
  W0 := word_word (by have := S.lowN; have := S.n4; omega)
  BGF := bg_of S.baseN (by have := S.n4; omega) (by have := S.n6; omega) S.lowN
  low50 := by have := S.lowN; omega
  runs := fun Y h1 h2 h3 h4 => runs_of S.lowN h1 h2 (by rw [h4,marksN_len]) _ _ _ _ _ (marksN_len _ _ _ _) I.runs
  rc0 := I.rc
  nd := I.nd
  hits2 := I.hits
theorem fmod_nat {a : Int} {n : Nat} (hn : 0 < n) : a.fmod (.ofNat n) = .ofNat (a.fmod (.ofNat n)).toNat ∧ (a.fmod (.ofNat n)).toNat < n := by
  have h1 : 0 ≤ a.fmod (.ofNat n) := Int.fmod_nonneg_of_pos _ (Int.ofNat_lt.mpr hn)
  have h2 : a.fmod (.ofNat n) < .ofNat n := Int.fmod_lt_of_pos _ (Int.ofNat_lt.mpr hn)
  have e : Int.ofNat n = (n : Int) := rfl
  rw [e] at h1 h2 ⊢
  refine ⟨?_,?_⟩
  · show _ = ((a.fmod (n : Int)).toNat : Int)
    omega
  · omega
theorem base_all (c6 : Int) : (c6.fdiv 1000).fmod 20000 = .ofNat ((c6.fdiv 1000).fmod 20000).toNat ∧ ((c6.fdiv 1000).fmod 20000).toNat < 20000 := fmod_nat (n := 20000) (by decide)
noncomputable def lf_of {e : Env0} (c : List Int) (hc : c.length = 7) : LF e c :=
  let c6 := c[6]'(by omega)
  have hc6 : c[6]? = some c6 := List.getElem?_eq_getElem _
  have b := base_all c6
  if h2 : c6.fmod 3 = 2 then
    have l := fmod_nat (a := (c6.fdiv 10).fmod 100) (n := 34 - 3 * 2) (by decide)
    lf_mk hc6 (d1 := true) (d2 := false) (h := 3) (w := 2) (by rw [h2]; rfl) (by rw [h2]; rfl) rfl rfl
      (low := (((c6.fdiv 10).fmod 100).fmod (.ofNat (34 - 3 * 2))).toNat) (base := ((c6.fdiv 1000).fmod 20000).toNat)
      ⟨by decide,by decide,by decide,by decide,.inr rfl,by have := l.2; omega,b.2⟩ (ix_of board32 c) rfl l.1 b.1
  else if h1 : c6.fmod 3 = 1 then
    have l := fmod_nat (a := (c6.fdiv 10).fmod 100) (n := 34 - 2 * 3) (by decide)
    lf_mk hc6 (d1 := false) (d2 := true) (h := 2) (w := 3) (by rw [h1]; rfl) (by rw [h1]; rfl) rfl rfl
      (low := (((c6.fdiv 10).fmod 100).fmod (.ofNat (34 - 2 * 3))).toNat) (base := ((c6.fdiv 1000).fmod 20000).toNat)
      ⟨by decide,by decide,by decide,by decide,.inr rfl,by have := l.2; omega,b.2⟩ (ix_of board23 c) rfl l.1 b.1
  else
    have l := fmod_nat (a := (c6.fdiv 10).fmod 100) (n := 34 - 2 * 2) (by decide)
    lf_mk hc6 (d1 := false) (d2 := false) (h := 2) (w := 2) (by simpa using h2) (by simpa using h1) rfl rfl
      (low := (((c6.fdiv 10).fmod 100).fmod (.ofNat (34 - 2 * 2))).toNat) (base := ((c6.fdiv 1000).fmod 20000).toNat)
      ⟨by decide,by decide,by decide,by decide,.inl rfl,by have := l.2; omega,b.2⟩ (ix_of board22 c) rfl l.1 b.1
end Mine
namespace Mine
/-! ### the entry -/
theorem holds_k {h : Heap} {K : Frag} {T : KT} (e : KT.of K = T) (ZA : AllIn h K) : KT.Holds h 1 0 T := e ▸ holds_of ZA
theorem ktop_is (P : Params) : KT.of (Mine.hd.heap_317 P) = Mine.hd.ktop_670 P := by kernel_rfl
theorem holds_z {P : Params} {h : Heap} : AllIn h (Mine.hd.heap_317 P) → KT.Holds h 1 0 (Mine.hd.ktop_670 P) := holds_k (ktop_is P)
theorem hget {h : Heap} {t : KT} {j : Nat} {o : Obj} (H : KT.Holds h 1 0 t) (e : t.get j = some o) : h.get? j = some o := by
  have z := KT.Holds.get H e
  rwa [Nat.one_mul,Nat.add_zero] at z
theorem ints_of {vs : List Value} {ns : List Int} (h : IntsAre vs ns) : Ints ns vs := by
  induction h with
  | nil => rfl
  | cons n t _ ih => exact ⟨t,_,rfl,ih⟩
theorem code_314 (w : World) : ∃ o vs, (kt w).get 314 = some o ∧ o.cls = .type "code" ∧ o.data = .fields vs ∧ vs[11]? = some (.ref 312) := by
  refine ⟨ob w 314,(match (ob w 314).data with | .fields vs => vs | _ => #[]),?_,?_,?_,?_⟩
  · kernel_rfl
  · kernel_rfl
  · kernel_rfl
  · kernel_rfl
theorem tab_312 (w : World) : (kt w).get 312 = some (tabO []) := by kernel_rfl
theorem law_call {w : World} {s₀ s₁ : Shared} {vs : List Value} {ns : List Int} {R : Result → Shared → Prop} (hk : (kt w).Holds s₀.heap 1 0) (hn : s₀.heap.objs.size = 357) (hn1 : s₁.heap.objs.size = 357 + 1)
    (keeps : ∀ b o,s₀.heap.get? b = some o → s₁.heap.get? b = some o) (hg : s₁.gens = #[]) (ho : s₁.heap.get? 357 = some (lob vs 0)) (hi : IntsAre vs ns) (hl : ns.length ≤ 63)
    (fin : ∀ h' tk',OldK s₁.heap h' → R (.ok (.ret (.bool true))) ⟨h',#[],s₁.drawn,tk',s₁.os⟩) :
    codeAny (model PySem.Challenge.rw_ti0065_01.row.prog w) callerA (.call (.ref 356) ⟨[.ref 357],[]⟩) R s₁ := by
  let e : Env0 := ⟨w,s₀.heap,s₁.drawn,s₁.os,hk⟩
  have hv := ints_of hi
  have hlen : vs.length = ns.length := hi.length
  have ht : s₀.heap.get? 312 = some (tabO []) := hget hk (tab_312 w)
  have hwalk := law_walk (e := e) (D := 301) (xl := 357) (sv0 := vs) (nx := 0) (by decide) (by decide) ⟨ns,hv⟩ (by omega) (fun c hc => lf_of c hc)
  have hfine : e.G.Fine s₁ := ⟨⟨fun b o h _ => keeps b o h,by show s₀.heap.objs.size ≤ _; omega,by show 312 < s₀.heap.objs.size; omega⟩,hg,rfl,rfl⟩
  refine hwalk callerA R s₁ ⟨rfl,by decide,by decide⟩ hfine ?_ ?_ ?_ ?_
  · intro p hp
    rcases List.mem_cons.mp hp with rfl | hp
    · exact ho
    · rw [List.mem_singleton.mp hp]
      exact keeps _ _ ht
  · show ([357,312] : List Addr).Nodup
    decide
  · intro p hp
    rcases List.mem_cons.mp hp with rfl | hp
    · exact .inl (by show s₀.heap.objs.size ≤ 357; omega)
    · rw [List.mem_singleton.mp hp]
      exact .inr rfl
  · intro co h' tk' sz' _ Dh
    refine fin h' tk' ⟨fun b o hb => ?_,fun b o hb => ?_⟩
    · by_cases h1 : b = 357
      · subst h1
        rw [ho] at hb
        cases hb
        exact .inl (Dh.own (357,lob vs 0) (by simp))
      · by_cases h2 : b = 312
        · subst h2
          rw [keeps _ _ ht] at hb
          cases hb
          obtain ⟨oc,vc,c1,c2,c3,c4⟩ := code_314 w
          exact .inr (.inl ⟨⟨314,oc,vc,keeps _ _ (hget hk c1),c2,c3,c4⟩,rfl,#[],#[.int 198 0,.int 18 0,.ref co],rfl,by
            have z := Dh.own (312,tab1 co) (by simp)
            rw [Array.empty_append]
            exact z⟩)
        · exact .inl (Dh.keep b o hb (by simp [keys,h1,h2]))
    · by_cases h1 : b = 357
      · exact ⟨_,h1 ▸ Dh.own (357,lob vs 0) (by simp)⟩
      · by_cases h2 : b = 312
        · exact ⟨_,h2 ▸ Dh.own (312,tab1 co) (by simp)⟩
        · exact ⟨o,Dh.keep b o hb (by simp [keys,h1,h2])⟩
end Mine
end
open PySem PySem.W PySem.W.X PyProof.Rows
namespace Mine
set_option maxHeartbeats 0 in
theorem walk_ok (d : DefRec) (kwd : List (Str × Expr)) (hn : d.name = PySem.Str.ofString "law") : WalkX hd.view_671 topL (XL hd.view_671 []) (obsZ topA) (valZ hd.heap_317 357 778) PySem.Challenge.rw_ti0065_01.row.toRowW d kwd fun f vs => PySem.call f vs := by
  intro w s₀ s₁ mg mb G y fa o pm cd doc dV kV ho hd hcd hD hmg hg args vals as L hpre hlay hrd hwl hlo
  obtain ⟨ZA,ZI,ZN,ZT⟩ := z_facts (K := Mine.hd.heap_317) (fun _ => by kernel_rfl) y
  have KX := InK.keeps w _ _ ZI (Laid.keeps L)
  have ZH := holds_z ZA
  clear ZA ZI y hd hcd hD
  refine Ground.open G ?_
  intro T B D TE TW
  have hfa : mg (PySem.Str.ofString "law") = some (.ref 356) := mg_of KX (Top.g T) (by kernel_rfl)
  have hfa2 : fa = 356 := by
    rw [hn] at hmg
    have h := hmg.symm.trans hfa
    simpa using h
  subst hfa2
  clear G B D TE TW KX T hfa hmg
  wrow_args hpre hlay hrd hwl hlo
  obtain ⟨hat,hsz⟩ := script_at L
  rw [ZN] at hat hsz
  subst hat
  rename_i ns _ _ _ _ _ _ _ vs _ _ hI _ hlen _ hL _ _
  have hob := script_obj L hL
  refine enter_call (law_call (vs := vs) (ns := ns) ZH ZN hsz (Laid.keeps L) L.gens hob hI (by omega) fun h' tk' O => ?_)
  refine ⟨.inl ⟨_,_,[],rfl,fun _ => rfl,ReadsW.bool true,?_,fun _ => ⟨List.nodup_nil,fun _ hm => (nomatch hm)⟩⟩,O,rfl,AllBare.empty⟩
  first | rfl | wrow_post
end Mine
theorem PySem.Challenge.cw_ti0065_01_holds : PySem.Challenge.rw_ti0065_01.Holds :=
  Mine.hd ⟨Mine.left,Mine.walk_ok _ _ rfl⟩
