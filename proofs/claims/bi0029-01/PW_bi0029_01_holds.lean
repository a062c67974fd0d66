import PyProof.Rows.All
import Wide.All
import OpenK.AllK
import Wide.FinOn
import Lean
import PySem.Challenge.RW_bi0029_01
open PySem PySem.W PySem.Spec PySem.Calls PyProof.Rows PyProof.V
set_option Elab.async false
set_option maxRecDepth 100000
set_option maxHeartbeats 0
open_top hd for PySem.Challenge.rw_bi0029_01
set_option maxHeartbeats 200000
set_option maxRecDepth 512
namespace Mine
set_option rowWalk.seconds 0
set_option compiler.extract_closed false
theorem anew0 : True := by
  w_top off
  trivial
def bodyOf : Stmt → List Stmt
  | .FunctionDef _ _ b _ _ _ _ _ _ _ => b
  | _ => []
def paramsOf : Stmt → Arguments
  | .FunctionDef _ a _ _ _ _ _ _ _ _ => a
  | _ => { posonlyargs := [], args := [], vararg := none, kwonlyargs := [], kw_defaults := [], kwarg := none, defaults := [] }
def scopeOf : Stmt → Scope
  | .FunctionDef _ _ _ _ _ _ s _ _ _ => s
  | _ => { kind := .function, names := [], isGenerator := false, isCoroutine := false, more := [] }
def nthSt (l : List Stmt) (n : Nat) : Stmt := match l[n]? with
  | some s => s
  | none => .Pass ⟨0, 0, 0, 0⟩
def lawSt : Stmt := nthSt PySem.Challenge.pw_bi0029_01.main.body 28
def addSt : Stmt := nthSt (bodyOf lawSt) 6
def readSt : Stmt := nthSt (bodyOf lawSt) 7
abbrev restSt (l : List Stmt) (n : Nat) : List Stmt := l.drop n
local macro_rules | `(tactic| k_get) => `(tactic| assumption)
local macro_rules | `(tactic| k_room) => `(tactic| (k_dflt ktr_room))
local macro_rules | `(tactic| k_mem) => `(tactic| assumption)
local macro_rules | `(tactic| k_all) => `(tactic| with_reducible assumption)
local macro_rules | `(tactic| walk_at "callWith ref") => `(tactic| (k_here; (with_reducible show wpAny _ _ (callWith _ _ _ (backTo _ (starEach [] _)) []) _ _ _); k_dflt (first | (refine' callWith_K0 ?k1 ?k2 ?_; (case k1 => k_in); (case k2 => k_is); k_whole) | (refine' callWith_M0 ?k1 ?k2 ?_; (case k1 => k_meth); (case k2 => k_is); k_whole; try dsimp only [List.nil_append, List.cons_append]) | (refine' callWith_F0 ?k1 ?_; (case k1 => exact FnAt.of (by k_asm) (by k_mem)); k_whole; try dsimp only [List.nil_append, List.cons_append]))))
local macro_rules | `(tactic| walk_at "callWith ref") => `(tactic| (k_here; (with_reducible show wpAny _ _ (callWith _ _ _ (backTo _ (starEach (_ :: _) _)) []) _ _ _); k_dflt (first | (refine' callWith_K ?k1 ?k2 ?_; (case k1 => k_asm); (case k2 => k_is); k_whole) | (refine' callWith_M ?k1 ?k2 ?k3 ?k4 ?_; (case k1 => k_asm); (case k2 => k_asm); (case k3 => k_mem); (case k4 => k_is); k_whole) | (refine' callWith_F ?k1 ?_; (case k1 => exact FnAt.of (by k_asm) (by k_mem)); k_whole))))
local macro_rules | `(tactic| walk_at "eval Name") => `(tactic| (k_here; (with_reducible show wpAny _ _ (eval (Expr.Name _ _) (envX _ _ _ _ _ _)) _ _ _); k_dflt (first | (refine' nameX_L ?F ?v ?_ ?a ?b; (case b => rfl); (case a => rfl); (case F => k_asm); (case v => rfl); k_whole) | (refine' nameX_F ?N ?c ?m ?d ?_ ?a ?b; (case b => rfl); (case a => rfl); (case N => k_asm); (case c => rfl); (case m => k_mem); (case d => k_asm); k_whole) | (refine' nameX_C ?N ?c ?m ?d ?_ ?a ?b; (case b => rfl); (case a => rfl); (case N => k_asm); (case c => rfl); (case m => k_mem); (case d => k_asm); k_whole) | (refine' nameX_K ?F ?X ?T ?e ?_ ?a ?b; (case b => rfl); (case a => rfl); (case F => k_asm); (case X => k_asm); (case T => k_asm); (case e => k_is); k_whole) | (refine' nameX_B ?F ?X ?T ?e ?v ?n ?_ ?a ?b; (case b => rfl); (case a => rfl); (case F => k_asm); (case X => k_asm); (case T => k_asm); (case e => k_is); (case v => boot_fast); (case n => decide); k_whole))))
local macro_rules | `(tactic| walk_at "call builtin:list.append") => `(tactic| (k_here; (with_reducible show wpAny _ _ (call (Value.builtin _) [Value.ref _, _]) _ _ _); k_dflt (refine' append_K ?k1 ?k2 ?k3 ?_ ?z); (case k1 => k_asm); (case k2 => k_asm); (case k3 => k_upd); (case z => (rw [sizeLine_eq]; omega)); k_whole; intro h' F' N'; (try k_sweep)))
local macro_rules | `(tactic| walk_at "newTuple") => `(tactic| (k_here; k_dflt (refine' kup_newTuple ?F ?N ?_ ?z; (case F => k_asm); (case N => k_asm); (case z => kmk_size)); intro D' h' F' N' l1; (try k_lt l1); (try k_sweep)))
theorem anew2 : True := by
  w_top off
  trivial
abbrev PR : Program := PySem.Challenge.rw_bi0029_01.row.prog
abbrev tupObj (l : Array Value) : Obj := { cls := .type "tuple", data := .seq l }
abbrev delta (x : Str) : Int := if x = Str.ofString "a" then 0 else 1
theorem delta_a {x : Str} (h : (x == Str.ofString "a") = true) : delta x = 0 := by unfold delta; rw [if_pos (eq_of_beq h)]
theorem delta_n {x : Str} (h : (x == Str.ofString "a") = false) : delta x = 1 := by unfold delta; rw [if_neg (fun e => by rw [e, beq_self_eq_true] at h; cases h)]
abbrev stKvs (i r o v : Value) : List (Str × Value) := [(Str.ofString "in", i), (Str.ofString "read", r), (Str.ofString "others", o), (Str.ofString "over", v)]
abbrev stD (i r o v : Int) : List (PyData × PyData) := [(.str (Str.ofString "in"), .int i), (.str (Str.ofString "read"), .int r), (.str (Str.ofString "others"), .int o), (.str (Str.ofString "over"), .int v)]
theorem stored_in (i r o v i' : Value) : PySem.stored (stKvs i r o v) (Str.ofString "in") i' = stKvs i' r o v := by kernel_rfl
theorem stored_read (i r o v i' : Value) : PySem.stored (stKvs i r o v) (Str.ofString "read") i' = stKvs i i' o v := by kernel_rfl
theorem stored_others (i r o v i' : Value) : PySem.stored (stKvs i r o v) (Str.ofString "others") i' = stKvs i r i' v := by kernel_rfl
theorem stored_over (i r o v i' : Value) : PySem.stored (stKvs i r o v) (Str.ofString "over") i' = stKvs i r o i' := by kernel_rfl
theorem put_in (i r o v i' : Int) : putD (.str (Str.ofString "in")) (.int i') (stD i r o v) = stD i' r o v := by kernel_rfl
theorem put_read (i r o v i' : Int) : putD (.str (Str.ofString "read")) (.int i') (stD i r o v) = stD i i' o v := by kernel_rfl
theorem put_others (i r o v i' : Int) : putD (.str (Str.ofString "others")) (.int i') (stD i r o v) = stD i r i' v := by kernel_rfl
theorem put_over (i r o v i' : Int) : putD (.str (Str.ofString "over")) (.int i') (stD i r o v) = stD i r o i' := by kernel_rfl
theorem look_in (i r o v : Int) : lookup (.str (Str.ofString "in")) (stD i r o v) = some (.int i) := by kernel_rfl
theorem look_read (i r o v : Int) : lookup (.str (Str.ofString "read")) (stD i r o v) = some (.int r) := by kernel_rfl
theorem look_others (i r o v : Int) : lookup (.str (Str.ofString "others")) (stD i r o v) = some (.int o) := by kernel_rfl
theorem look_over (i r o v : Int) : lookup (.str (Str.ofString "over")) (stD i r o v) = some (.int v) := by kernel_rfl
/-- the state's dict with its four ints -/
def StIs (w : World) (ob : Obj) (i r o v : Int) : Prop := ∃ t1 t2 t3 t4 : Tok, ob.IsDictOf (strKind PR w) (stKvs (.int i t1) (.int r t2) (.int o t3) (.int v t4)) ∧ FlatPairs PyData.str (stKvs (.int i t1) (.int r t2) (.int o t3) (.int v t4)) (stD i r o v)
section
variable {w : World} {A : Around} {E : Value → Shared → Prop} {s : Shared} {h₀ : Heap} {L st : Addr} {m : Str → Option Value} {news : List (Addr × Obj)} {g : Obj → List (Addr × Obj)} {ob : Obj} {i r o v : Int} {t : Tok}
theorem st_tab (N : News h₀ L s.heap news) (hm : (st, ob) ∈ news) (lo : (st == sysModules) = false) (I : StIs w ob i r o v) : TabAt (strKind PR w) PyData.str s.heap st (stD i r o v) :=
  let ⟨_, _, _, _, hd, hf⟩ := I; TabAt.ofNews N hm lo hd hf
theorem st_get {Q : Value → Shared → Prop} {key : Str} {x : Int} (hl : lookup (.str key) (stD i r o v) = some (.int x)) (N : News h₀ L s.heap news) (hm : (st, ob) ∈ news) (lo : (st == sysModules) = false) (I : StIs w ob i r o v)
    (h : ∀ t' tk', Q (.int x t') { s with toks := tk' }) : wpAny (model PR w) A (getItem (.ref st) (.str key t)) Q E s :=
  getItem_tab same_str (strKind_is _ _ _ _) (st_tab N hm lo I) hl fun y hy => by obtain ⟨t', rfl⟩ := Flat.int_inv hy; exact h t' _
theorem st_sub {Q : Value → Shared → Prop} {key : Str} {x : Int} {value slice : Expr} (hl : lookup (.str key) (stD i r o v) = some (.int x)) (N : News h₀ L s.heap news) (hm : (st, ob) ∈ news) (lo : (st == sysModules) = false) (I : StIs w ob i r o v)
    (h : ∀ t' tk', Q (.int x t') { s with toks := tk' })
    (hs : subscripted slice false (.ref st) (.str key t) = operate [.ref st, .str key t] (getItem (.ref st) (.str key t))) (hg : ∀ y, letTemporaryGo value (.ref st) y = pure ()) :
    wpAny (model PR w) A (subscriptTail value slice (.ref st) (.str key t)) Q E s :=
  item_tab same_str (strKind_is _ _ _ _) (st_tab N hm lo I) hl (fun y hy => by obtain ⟨t', rfl⟩ := Flat.int_inv hy; exact h t' _) hs hg
theorem st_set {Q : Unit → Shared → Prop} {key : Str} {x i' r' o' v' : Int} {tx : Tok} (hs : ∀ t1 t2 t3 t4 : Tok, ∃ t1' t2' t3' t4', PySem.stored (stKvs (.int i t1) (.int r t2) (.int o t3) (.int v t4)) key (.int x tx) = stKvs (.int i' t1') (.int r' t2') (.int o' t3') (.int v' t4'))
    (hp : putD (.str key) (.int x) (stD i r o v) = stD i' r' o' v')
    (F : Fr h₀ L s.heap m) (N : News h₀ L s.heap news) (U : UpdF st ob news g) (I : StIs w ob i r o v)
    (h : ∀ h' ob' tk', Fr h₀ L h' m → News h₀ L h' (g ob') → StIs w ob' i' r' o' v' → Q () { s with heap := h', toks := tk' }) : wpAny (model PR w) A (setItem (.ref st) (.str key t) (.int x tx)) Q E s := by
  obtain ⟨t1, t2, t3, t4, hd, hf⟩ := I
  refine setItem_K (enc := PyData.str) (k := key) (dv := .int x) same_str (strKind_is _ _ _ _) (Flat.int _ _) F N U hd hf (fun h' ob' F' N' hd' hf' => h h' ob' _ F' N' ?_) (by rw [sizeLine_eq]; exact Nat.le_of_ble_eq_true rfl)
  obtain ⟨t1', t2', t3', t4', e⟩ := hs t1 t2 t3 t4
  rw [e] at hd' hf'
  rw [hp] at hf'
  exact ⟨_, _, _, _, hd', hf'⟩
section
variable {Q : Value → Shared → Prop}
theorem st_get_in (N : News h₀ L s.heap news) (hm : (st, ob) ∈ news) (lo : (st == sysModules) = false) (I : StIs w ob i r o v) (h : ∀ t' tk', Q (.int i t') { s with toks := tk' }) : wpAny (model PR w) A (getItem (.ref st) (.str (Str.ofString "in") t)) Q E s := st_get (look_in _ _ _ _) N hm lo I h
theorem st_get_read (N : News h₀ L s.heap news) (hm : (st, ob) ∈ news) (lo : (st == sysModules) = false) (I : StIs w ob i r o v) (h : ∀ t' tk', Q (.int r t') { s with toks := tk' }) : wpAny (model PR w) A (getItem (.ref st) (.str (Str.ofString "read") t)) Q E s := st_get (look_read _ _ _ _) N hm lo I h
theorem st_get_others (N : News h₀ L s.heap news) (hm : (st, ob) ∈ news) (lo : (st == sysModules) = false) (I : StIs w ob i r o v) (h : ∀ t' tk', Q (.int o t') { s with toks := tk' }) : wpAny (model PR w) A (getItem (.ref st) (.str (Str.ofString "others") t)) Q E s := st_get (look_others _ _ _ _) N hm lo I h
theorem st_get_over (N : News h₀ L s.heap news) (hm : (st, ob) ∈ news) (lo : (st == sysModules) = false) (I : StIs w ob i r o v) (h : ∀ t' tk', Q (.int v t') { s with toks := tk' }) : wpAny (model PR w) A (getItem (.ref st) (.str (Str.ofString "over") t)) Q E s := st_get (look_over _ _ _ _) N hm lo I h
variable {xn : Str} {p1 p2 : Pos} {kd : Nat}
theorem st_sub_in (N : News h₀ L s.heap news) (hm : (st, ob) ∈ news) (lo : (st == sysModules) = false) (I : StIs w ob i r o v) (h : ∀ t' tk', Q (.int i t') { s with toks := tk' }) : wpAny (model PR w) A (subscriptTail (.Name xn p1) (.Constant (.str (Str.ofString "in")) kd p2) (.ref st) (.str (Str.ofString "in") t)) Q E s := st_sub (look_in _ _ _ _) N hm lo I h (by with_unfolding_all rfl) (by intro _; with_unfolding_all rfl)
theorem st_sub_read (N : News h₀ L s.heap news) (hm : (st, ob) ∈ news) (lo : (st == sysModules) = false) (I : StIs w ob i r o v) (h : ∀ t' tk', Q (.int r t') { s with toks := tk' }) : wpAny (model PR w) A (subscriptTail (.Name xn p1) (.Constant (.str (Str.ofString "read")) kd p2) (.ref st) (.str (Str.ofString "read") t)) Q E s := st_sub (look_read _ _ _ _) N hm lo I h (by with_unfolding_all rfl) (by intro _; with_unfolding_all rfl)
theorem st_sub_others (N : News h₀ L s.heap news) (hm : (st, ob) ∈ news) (lo : (st == sysModules) = false) (I : StIs w ob i r o v) (h : ∀ t' tk', Q (.int o t') { s with toks := tk' }) : wpAny (model PR w) A (subscriptTail (.Name xn p1) (.Constant (.str (Str.ofString "others")) kd p2) (.ref st) (.str (Str.ofString "others") t)) Q E s := st_sub (look_others _ _ _ _) N hm lo I h (by with_unfolding_all rfl) (by intro _; with_unfolding_all rfl)
theorem st_sub_over (N : News h₀ L s.heap news) (hm : (st, ob) ∈ news) (lo : (st == sysModules) = false) (I : StIs w ob i r o v) (h : ∀ t' tk', Q (.int v t') { s with toks := tk' }) : wpAny (model PR w) A (subscriptTail (.Name xn p1) (.Constant (.str (Str.ofString "over")) kd p2) (.ref st) (.str (Str.ofString "over") t)) Q E s := st_sub (look_over _ _ _ _) N hm lo I h (by with_unfolding_all rfl) (by intro _; with_unfolding_all rfl)
end
variable {Q : Unit → Shared → Prop} {x : Int} {tx : Tok}
theorem st_set_in (F : Fr h₀ L s.heap m) (N : News h₀ L s.heap news) (U : UpdF st ob news g) (I : StIs w ob i r o v) (h : ∀ h' ob' tk', Fr h₀ L h' m → News h₀ L h' (g ob') → StIs w ob' x r o v → Q () { s with heap := h', toks := tk' }) : wpAny (model PR w) A (setItem (.ref st) (.str (Str.ofString "in") t) (.int x tx)) Q E s := st_set (fun _ _ _ _ => ⟨_, _, _, _, stored_in _ _ _ _ _⟩) (put_in _ _ _ _ _) F N U I h
theorem st_set_read (F : Fr h₀ L s.heap m) (N : News h₀ L s.heap news) (U : UpdF st ob news g) (I : StIs w ob i r o v) (h : ∀ h' ob' tk', Fr h₀ L h' m → News h₀ L h' (g ob') → StIs w ob' i x o v → Q () { s with heap := h', toks := tk' }) : wpAny (model PR w) A (setItem (.ref st) (.str (Str.ofString "read") t) (.int x tx)) Q E s := st_set (fun _ _ _ _ => ⟨_, _, _, _, stored_read _ _ _ _ _⟩) (put_read _ _ _ _ _) F N U I h
theorem st_set_others (F : Fr h₀ L s.heap m) (N : News h₀ L s.heap news) (U : UpdF st ob news g) (I : StIs w ob i r o v) (h : ∀ h' ob' tk', Fr h₀ L h' m → News h₀ L h' (g ob') → StIs w ob' i r x v → Q () { s with heap := h', toks := tk' }) : wpAny (model PR w) A (setItem (.ref st) (.str (Str.ofString "others") t) (.int x tx)) Q E s := st_set (fun _ _ _ _ => ⟨_, _, _, _, stored_others _ _ _ _ _⟩) (put_others _ _ _ _ _) F N U I h
theorem st_set_over (F : Fr h₀ L s.heap m) (N : News h₀ L s.heap news) (U : UpdF st ob news g) (I : StIs w ob i r o v) (h : ∀ h' ob' tk', Fr h₀ L h' m → News h₀ L h' (g ob') → StIs w ob' i r o x → Q () { s with heap := h', toks := tk' }) : wpAny (model PR w) A (setItem (.ref st) (.str (Str.ofString "over") t) (.int x tx)) Q E s := st_set (fun _ _ _ _ => ⟨_, _, _, _, stored_over _ _ _ _ _⟩) (put_over _ _ _ _ _) F N U I h
end
local macro_rules | `(tactic| walk_at "getItem ref str") => `(tactic| (k_here; (with_reducible show wpAny _ _ (getItem (Value.ref _) (Value.str (PySem.Str.ofString "in") _)) _ _ _); (k_dflt (refine' st_get_in ?N ?m ?lo ?I ?_); (case N => k_asm); (case m => k_mem); (case lo => assumption); (case I => assumption)); intro t9 tk9))
local macro_rules | `(tactic| walk_at "subscriptTail Name Constant ref str") => `(tactic| (k_here; (with_reducible show wpAny _ _ (subscriptTail _ _ (Value.ref _) (Value.str (PySem.Str.ofString "in") _)) _ _ _); (k_dflt (refine' st_sub_in ?N ?m ?lo ?I ?_); (case N => k_asm); (case m => k_mem); (case lo => assumption); (case I => assumption)); intro t9 tk9))
local macro_rules | `(tactic| walk_at "setItem ref str") => `(tactic| (k_here; (with_reducible show wpAny _ _ (setItem (Value.ref _) (Value.str (PySem.Str.ofString "in") _) _) _ _ _); (k_dflt (refine' st_set_in ?F ?N ?U ?I ?_); (case F => k_asm); (case N => k_asm); (case U => k_updF); (case I => assumption)); intro h' o' tk' F' N' I'; (try dsimp only at N'); (try k_sweep)))
local macro_rules | `(tactic| walk_at "getItem ref str") => `(tactic| (k_here; (with_reducible show wpAny _ _ (getItem (Value.ref _) (Value.str (PySem.Str.ofString "read") _)) _ _ _); (k_dflt (refine' st_get_read ?N ?m ?lo ?I ?_); (case N => k_asm); (case m => k_mem); (case lo => assumption); (case I => assumption)); intro t9 tk9))
local macro_rules | `(tactic| walk_at "subscriptTail Name Constant ref str") => `(tactic| (k_here; (with_reducible show wpAny _ _ (subscriptTail _ _ (Value.ref _) (Value.str (PySem.Str.ofString "read") _)) _ _ _); (k_dflt (refine' st_sub_read ?N ?m ?lo ?I ?_); (case N => k_asm); (case m => k_mem); (case lo => assumption); (case I => assumption)); intro t9 tk9))
local macro_rules | `(tactic| walk_at "setItem ref str") => `(tactic| (k_here; (with_reducible show wpAny _ _ (setItem (Value.ref _) (Value.str (PySem.Str.ofString "read") _) _) _ _ _); (k_dflt (refine' st_set_read ?F ?N ?U ?I ?_); (case F => k_asm); (case N => k_asm); (case U => k_updF); (case I => assumption)); intro h' o' tk' F' N' I'; (try dsimp only at N'); (try k_sweep)))
local macro_rules | `(tactic| walk_at "getItem ref str") => `(tactic| (k_here; (with_reducible show wpAny _ _ (getItem (Value.ref _) (Value.str (PySem.Str.ofString "others") _)) _ _ _); (k_dflt (refine' st_get_others ?N ?m ?lo ?I ?_); (case N => k_asm); (case m => k_mem); (case lo => assumption); (case I => assumption)); intro t9 tk9))
local macro_rules | `(tactic| walk_at "subscriptTail Name Constant ref str") => `(tactic| (k_here; (with_reducible show wpAny _ _ (subscriptTail _ _ (Value.ref _) (Value.str (PySem.Str.ofString "others") _)) _ _ _); (k_dflt (refine' st_sub_others ?N ?m ?lo ?I ?_); (case N => k_asm); (case m => k_mem); (case lo => assumption); (case I => assumption)); intro t9 tk9))
local macro_rules | `(tactic| walk_at "setItem ref str") => `(tactic| (k_here; (with_reducible show wpAny _ _ (setItem (Value.ref _) (Value.str (PySem.Str.ofString "others") _) _) _ _ _); (k_dflt (refine' st_set_others ?F ?N ?U ?I ?_); (case F => k_asm); (case N => k_asm); (case U => k_updF); (case I => assumption)); intro h' o' tk' F' N' I'; (try dsimp only at N'); (try k_sweep)))
local macro_rules | `(tactic| walk_at "getItem ref str") => `(tactic| (k_here; (with_reducible show wpAny _ _ (getItem (Value.ref _) (Value.str (PySem.Str.ofString "over") _)) _ _ _); (k_dflt (refine' st_get_over ?N ?m ?lo ?I ?_); (case N => k_asm); (case m => k_mem); (case lo => assumption); (case I => assumption)); intro t9 tk9))
local macro_rules | `(tactic| walk_at "subscriptTail Name Constant ref str") => `(tactic| (k_here; (with_reducible show wpAny _ _ (subscriptTail _ _ (Value.ref _) (Value.str (PySem.Str.ofString "over") _)) _ _ _); (k_dflt (refine' st_sub_over ?N ?m ?lo ?I ?_); (case N => k_asm); (case m => k_mem); (case lo => assumption); (case I => assumption)); intro t9 tk9))
local macro_rules | `(tactic| walk_at "setItem ref str") => `(tactic| (k_here; (with_reducible show wpAny _ _ (setItem (Value.ref _) (Value.str (PySem.Str.ofString "over") _) _) _ _ _); (k_dflt (refine' st_set_over ?F ?N ?U ?I ?_); (case F => k_asm); (case N => k_asm); (case U => k_updF); (case I => assumption)); intro h' o' tk' F' N' I'; (try dsimp only at N'); (try k_sweep)))
local macro_rules | `(tactic| walk_at "S1") => `(tactic| first | (k_unfold; (try dsimp only)) | walk1 | (dsimp only; walk1))
theorem anew4 : True := by
  w_top off
  trivial
abbrev hookKey : Nat → Str
  | 0 => Str.ofString "_before_commit"
  | 1 => Str.ofString "_after_commit"
  | 2 => Str.ofString "_before_abort"
  | _ => Str.ofString "_after_abort"
abbrev addKey : Nat → Str
  | 0 => Str.ofString "addBeforeCommitHook"
  | 1 => Str.ofString "addAfterCommitHook"
  | 2 => Str.ofString "addBeforeAbortHook"
  | _ => Str.ofString "addAfterAbortHook"
set_option maxRecDepth 100000 in
set_option maxHeartbeats 0 in
theorem add_tells {w : World} {p : Program} {loose : List Str} {mean : ExcName → Option Value} {mg mb : Str → Option Value}
    {dp un : Nat} {gd : Option (List Code)} {cn : Str} {cs : Scope} {a : Addr} {ccd : Value} {cl : List (Str × Addr)} {outer : List Env} {A₀ : Around} {base h₀ : Heap} {L : Addr} {m : Str → Option Value} {s : Shared}
    {qA : Str} {docA pmA ctvA : Value} {addF codA readF cK cR cS cT lb st tr dx : Addr} {oK oR oS oT ocA ost : Obj} {es : List DictEntry} {n nl k : Nat} {vsA : Array Value} {tqA : Tok}
    {items : Array Value} {rest : List (Addr × Obj)} {x : Str} {tx tkk : Tok} {i r o v : Int}
    {Q E : Value → Shared → Prop}
    (B : Below A₀ base outer h₀) (F : Fr h₀ L s.heap m) (T : Top p loose mean mg mb h₀) (hk : cs.kind = .function) (hdp : dp + 3 < recursionLimit) (hu : un + 16 < cLine)
    (N : News h₀ L s.heap ((lb, W.listOf items nl) :: (st, ost) :: rest))
    (hlb : ∀ p ∈ rest, p.1 ≠ lb) (hst : ∀ p ∈ rest, p.1 ≠ st) (hne : @Ne Nat lb st) (lost : (st == sysModules) = false)
    (hA : (addF, fnMade (Str.ofString "add") qA (paramsOf addSt) (bodyOf addSt) (scopeOf addSt) [(Str.ofString "transaction", cT), (Str.ofString "state", cS), (Str.ofString "read", cR), (Str.ofString "kind", cK)] docA pmA codA ctvA) ∈ rest)
    (hcA : (codA, ocA) ∈ rest) (hcA1 : ocA.data = .fields vsA) (hcA2 : vsA[1]? = some (.str qA tqA))
    (hcK : (cK, oK) ∈ rest) (hcK1 : oK.data = .cell (some (.int (k : Nat) tkk))) (hk4 : k < 4)
    (hcR : (cR, oR) ∈ rest) (hcR1 : oR.data = .cell (some (.ref readF)))
    (hcS : (cS, oS) ∈ rest) (hcS1 : oS.data = .cell (some (.ref st)))
    (hcT : (cT, oT) ∈ rest) (hcT1 : oT.data = .cell (some (.ref tr)))
    (htr : (tr, instObj 546 dx) ∈ rest) (hdx : (dx, dictOf es n) ∈ rest)
    (hkey : getL (hookKey k) es = some (some (.ref lb))) (hadd : getL (addKey k) es = some none)
    (hsz : items.size < 100000)
    (hstI : StIs w ost i r o v)
    (hi : 0 ≤ i ∧ i < 100000) (ho : 0 ≤ o ∧ o < 100000)
    (hret : ∀ (e d t : Addr) (od ost' : Obj) (h' : Heap) (tk' : Nat), Fr h₀ L h' m →
      News h₀ L h' ((e, tupObj #[.ref readF, .ref t, .ref d]) :: (d, od) :: (t, tupObj #[.str x tx]) :: (lb, W.listOf (items.push (.ref e)) (nl + 1)) :: (st, ost') :: rest) →
      (@LT.lt Nat _ lb t ∧ @LT.lt Nat _ st t ∧ AllLt t rest) → @LT.lt Nat _ t d → @LT.lt Nat _ d e →
      StIs w ost' (i + 1) r (o + delta x) v →
      Q .none { s with heap := h', toks := tk' }) :
    (hd.heap_39 w.params).In h₀ → wpAny (model PySem.Challenge.rw_bi0029_01.row.prog w) (ktrTop dp un gd cn cs L a ccd cl outer) (call (.ref addF) [.str x tx]) Q E s := by
  k_fill
  intro X
  generalize hsc : scopeOf addSt = sc at *
  conv at hsc => lhs; whnf
  generalize hpa : paramsOf addSt = pa at *
  conv at hpa => lhs; whnf
  generalize hbo : bodyOf addSt = bo at *
  conv at hbo => lhs; whnf
  subst hsc hpa hbo
  refine wpAny_call ?_
  (k_dflt (refine' code_nest ?k1 ?k2 ?k3 ?k4 ?k5 ?kA ?kF ?kK ?k6 ?k7 ?k8 ?k9 ?kB ?_ ?c2 ?c3 ?c4 ?c5))
  (case kA => exact rfl)
  (case kF => exact rfl)
  (case kK => exact hk)
  (case k1 => k_asm)
  (case k2 => k_asm)
  (case k3 => k_asm)
  (case k4 => k_asm)
  (case k5 => k_asm)
  (case k6 => exact .tail _ (.tail _ hA))
  (case k7 => exact codeRec_news N (.tail _ (.tail _ hcA)) hcA1 hcA2)
  (case k8 => k_dflt ktr_room)
  (case k9 => exact BindsTo.of_eq rfl)
  (case c5 => decide)
  (case kB => exact locs rfl)
  (case c2 => exact rfl)
  (case c3 => exact rfl)
  (case c4 => exact rfl)
  k_whole
  intro g' L' h' FG' F' N' B' X' T'
  (try dsimp only)
  (try k_lift B')
  replace F' : Fr g' L' h' (fun y => List.lookup y [(Str.ofString "letter", Value.str x tx)]) := F'
  show wpAny _ _ _ _ _ { s with heap := h', toks := s.toks + 1 }
  (try k_fold)
  iterate 10 walk_at "S1"
  refine wpAny_mono (Q := fun fl s₂ => fl = Flow.next ∧ ∃ (h₂ : Heap) (tk₂ : Nat) (o₂ : Obj), s₂ = { s with heap := h₂, toks := tk₂ } ∧ Fr g' L' h₂ (fun y => List.lookup y [(Str.ofString "letter", Value.str x tx)]) ∧
      News g' L' h₂ ((lb, W.listOf items nl) :: (st, o₂) :: rest) ∧ StIs w o₂ (i + 1) r (o + delta x) v) ?cut1 ?cut2 (fun e s₂ h => h)
  · iterate 11 walk_at "S1"
    all_goals (iterate 3 walk_at "S1")
    · have hδ : delta x = 0 := delta_a (by assumption)
      rw [hδ]
      exact ⟨rfl, _, _, _, rfl, by assumption, by assumption, by assumption⟩
    · have hδ : delta x = 1 := delta_n (by assumption)
      rw [hδ]
      exact ⟨rfl, _, _, _, rfl, by assumption, by assumption, by assumption⟩
  · rintro fl s₂ ⟨rfl, h₂, tk₂, o₂, rfl, F₂, N₂, I₂⟩
    clear hstI ho
    dsimp only
    rcases (by omega : k = 0 ∨ k = 1 ∨ k = 2 ∨ k = 3) with rfl | rfl | rfl | rfl
    all_goals (dsimp only [hookKey, addKey] at hkey hadd)
    all_goals (repeat' walk_at "S1")
    all_goals exact hret _ _ _ _ _ _ _ (by assumption) (by assumption) (by assumption) (by omega) (by omega) (by assumption)
theorem anew5 : True := by
  w_top off
  trivial
theorem add_tellsP {w : World} {p : Program} {loose : List Str} {mean : ExcName → Option Value} {mg mb : Str → Option Value}
    {dp un : Nat} {gd : Option (List Code)} {cn : Str} {cs : Scope} {a : Addr} {ccd : Value} {cl : List (Str × Addr)} {outer : List Env} {A₀ : Around} {base h₀ : Heap} {L : Addr} {m : Str → Option Value} {s : Shared}
    {qA : Str} {docA pmA ctvA : Value} {addF codA readF cK cR cS cT lb st tr dx : Addr} {oK oR oS oT ocA ost : Obj} {es : List DictEntry} {n nl k : Nat} {vsA : Array Value} {tqA : Tok}
    {items : Array Value} {rest : List (Addr × Obj)} {x : Str} {tx tkk : Tok} {i r o v : Int} (pre : List (Addr × Obj))
    {Q E : Value → Shared → Prop}
    (B : Below A₀ base outer h₀) (F : Fr h₀ L s.heap m) (T : Top p loose mean mg mb h₀) (hk : cs.kind = .function) (hdp : dp + 3 < recursionLimit) (hu : un + 16 < cLine)
    (N : News h₀ L s.heap (pre ++ (lb, W.listOf items nl) :: (st, ost) :: rest))
    (hlb' : ∀ p ∈ pre, p.1 ≠ lb) (hst' : ∀ p ∈ pre, p.1 ≠ st)
    (hlb : ∀ p ∈ rest, p.1 ≠ lb) (hst : ∀ p ∈ rest, p.1 ≠ st) (hne : @Ne Nat lb st) (lost : (st == sysModules) = false)
    (hA : (addF, fnMade (Str.ofString "add") qA (paramsOf addSt) (bodyOf addSt) (scopeOf addSt) [(Str.ofString "transaction", cT), (Str.ofString "state", cS), (Str.ofString "read", cR), (Str.ofString "kind", cK)] docA pmA codA ctvA) ∈ rest)
    (hcA : (codA, ocA) ∈ rest) (hcA1 : ocA.data = .fields vsA) (hcA2 : vsA[1]? = some (.str qA tqA))
    (hcK : (cK, oK) ∈ rest) (hcK1 : oK.data = .cell (some (.int (k : Nat) tkk))) (hk4 : k < 4)
    (hcR : (cR, oR) ∈ rest) (hcR1 : oR.data = .cell (some (.ref readF)))
    (hcS : (cS, oS) ∈ rest) (hcS1 : oS.data = .cell (some (.ref st)))
    (hcT : (cT, oT) ∈ rest) (hcT1 : oT.data = .cell (some (.ref tr)))
    (htr : (tr, instObj 546 dx) ∈ rest) (hdx : (dx, dictOf es n) ∈ rest)
    (hkey : getL (hookKey k) es = some (some (.ref lb))) (hadd : getL (addKey k) es = some none)
    (hsz : items.size < 100000)
    (hstI : StIs w ost i r o v)
    (hi : 0 ≤ i ∧ i < 100000) (ho : 0 ≤ o ∧ o < 100000)
    (X : (hd.heap_39 w.params).In h₀)
    (hret : ∀ (e d t : Addr) (od ost' : Obj) (h' : Heap) (tk' : Nat), Fr h₀ L h' m →
      News h₀ L h' ((e, tupObj #[.ref readF, .ref t, .ref d]) :: (d, od) :: (t, tupObj #[.str x tx]) :: (pre ++ (lb, W.listOf (items.push (.ref e)) (nl + 1)) :: (st, ost') :: rest)) →
      (@LT.lt Nat _ lb t ∧ @LT.lt Nat _ st t ∧ AllLt t pre ∧ AllLt t rest) → @LT.lt Nat _ t d → @LT.lt Nat _ d e →
      StIs w ost' (i + 1) r (o + delta x) v →
      Q .none { s with heap := h', toks := tk' }) :
    wpAny (model PySem.Challenge.rw_bi0029_01.row.prog w) (ktrTop dp un gd cn cs L a ccd cl outer) (call (.ref addF) [.str x tx]) Q E s := by
  have split : ∀ {l : List (Addr × Obj)} {t : Addr}, AllLt t (pre ++ l) → AllLt t pre ∧ AllLt t l := by
    intro l t h
    clear N hlb' hst' hret
    induction pre with
    | nil => exact ⟨trivial, h⟩
    | cons q r ih => exact ⟨⟨h.1, (ih h.2).1⟩, (ih h.2).2⟩
  refine add_tells (rest := pre ++ rest) (nl := nl) B F T hk hdp hu (cb_drop N ?_) ?_ ?_ hne lost (List.mem_append_right _ hA) (List.mem_append_right _ hcA) hcA1 hcA2 (List.mem_append_right _ hcK) hcK1 hk4 (List.mem_append_right _ hcR) hcR1 (List.mem_append_right _ hcS) hcS1 (List.mem_append_right _ hcT) hcT1 (List.mem_append_right _ htr) (List.mem_append_right _ hdx) hkey hadd hsz hstI hi ho ?_ X
  · intro q hq
    simp only [List.mem_cons, List.mem_append] at hq ⊢
    rcases hq with h | h | h | h
    · exact .inr (.inl h)
    · exact .inr (.inr (.inl h))
    · exact .inl h
    · exact .inr (.inr (.inr h))
  · intro q hq
    rcases List.mem_append.mp hq with h | h
    · exact hlb' q h
    · exact hlb q h
  · intro q hq
    rcases List.mem_append.mp hq with h | h
    · exact hst' q h
    · exact hst q h
  · intro e d t od ost' h' tk' F' N' lt1 lt2 lt3 I'
    refine hret e d t od ost' h' tk' F' (cb_drop N' ?_) ⟨lt1.1, lt1.2.1, split lt1.2.2⟩ lt2 lt3 I'
    intro q hq
    simp only [List.mem_cons, List.mem_append] at hq ⊢
    rcases hq with h | h | h | h | h | h | h
    · exact .inl h
    · exact .inr (.inl h)
    · exact .inr (.inr (.inl h))
    · exact .inr (.inr (.inr (.inr (.inr (.inl h)))))
    · exact .inr (.inr (.inr (.inl h)))
    · exact .inr (.inr (.inr (.inr (.inl h))))
    · exact .inr (.inr (.inr (.inr (.inr (.inr h)))))
theorem anew6 : True := by
  w_top off
  trivial
theorem allLt_mem {d : Nat} {l : List (Addr × Obj)} {p : Addr × Obj} (h : AllLt d l) (hp : p ∈ l) : @LT.lt Nat _ p.1 d := by
  induction l with
  | nil => cases hp
  | cons q r ih =>
    rcases List.mem_cons.mp hp with e | e
    · rw [e]; exact h.1
    · exact ih h.2 e
theorem allLt_app {t : Nat} : ∀ {k l : List (Addr × Obj)}, AllLt t (k ++ l) → AllLt t k ∧ AllLt t l
  | [], _, h => ⟨trivial, h⟩
  | _ :: _, _, h => ⟨⟨h.1, (allLt_app h.2).1⟩, (allLt_app h.2).2⟩
/-- one entry of a hook list: (read, (letter,), {}) -/
def EntAt (led : List (Addr × Obj)) (readF : Addr) (v : Value) (x : Str) : Prop := ∃ (e t d : Addr) (tx : Tok), v = .ref e ∧ (e, tupObj #[.ref readF, .ref t, .ref d]) ∈ led ∧ (t, tupObj #[.str x tx]) ∈ led
theorem EntAt.mono {l l' : List (Addr × Obj)} {f : Addr} {v : Value} {x : Str} (h : EntAt l f v x) (hs : ∀ p ∈ l, p ∈ l') : EntAt l' f v x :=
  let ⟨e, t, d, tx, a, b, c⟩ := h; ⟨e, t, d, tx, a, hs _ b, hs _ c⟩
def EntsAt (led : List (Addr × Obj)) (readF : Addr) : List Value → List Str → Prop
  | [], [] => True
  | v :: vs, x :: xs => EntAt led readF v x ∧ EntsAt led readF vs xs
  | _, _ => False
theorem EntsAt.mono {l l' : List (Addr × Obj)} {f : Addr} (hs : ∀ p ∈ l, p ∈ l') : ∀ {vs : List Value} {xs : List Str}, EntsAt l f vs xs → EntsAt l' f vs xs
  | [], [], h => h
  | _ :: _, _ :: _, h => ⟨h.1.mono hs, EntsAt.mono hs h.2⟩
  | [], _ :: _, h => h
  | _ :: _, [], h => h
theorem EntsAt.append {l : List (Addr × Obj)} {f : Addr} : ∀ {vs us : List Value} {xs ys : List Str}, EntsAt l f vs xs → EntsAt l f us ys → EntsAt l f (vs ++ us) (xs ++ ys)
  | [], _, [], _, _, h => h
  | _ :: _, _, _ :: _, _, h, k => ⟨h.1, EntsAt.append h.2 k⟩
  | [], _, _ :: _, _, h, _ => h.elim
  | _ :: _, _, [], _, h, _ => h.elim
theorem EntsAt.length {l : List (Addr × Obj)} {f : Addr} : ∀ {vs : List Value} {xs : List Str}, EntsAt l f vs xs → vs.length = xs.length
  | [], [], _ => rfl
  | _ :: _, _ :: _, h => congrArg (· + 1) (EntsAt.length h.2)
  | [], _ :: _, h => h.elim
  | _ :: _, [], h => h.elim
theorem EntsAt.get {l : List (Addr × Obj)} {f : Addr} : ∀ {vs : List Value} {xs : List Str} {j : Nat} {v : Value} {x : Str}, EntsAt l f vs xs → vs[j]? = some v → xs[j]? = some x → EntAt l f v x
  | [], [], _, _, _, _, h, _ => by simp at h
  | _ :: _, _ :: _, 0, _, _, h, hv, hx => by
    simp only [List.getElem?_cons_zero, Option.some.injEq] at hv hx
    exact hv ▸ hx ▸ h.1
  | _ :: _, _ :: _, j + 1, _, _, h, hv, hx => EntsAt.get h.2 (by simpa using hv) (by simpa using hx)
  | [], _ :: _, _, _, _, h, _, _ => h.elim
  | _ :: _, [], _, _, _, h, _, _ => h.elim
def dsum : List Str → Int
  | [] => 0
  | x :: xs => delta x + dsum xs
theorem dsum_snoc (x : Str) : ∀ xs : List Str, dsum (xs ++ [x]) = dsum xs + delta x
  | [] => by simp [dsum]
  | y :: ys => by simp only [List.cons_append, dsum, dsum_snoc x ys]; omega
theorem delta_le (x : Str) : 0 ≤ delta x ∧ delta x ≤ 1 := by unfold delta; split <;> omega
theorem dsum_le : ∀ xs : List Str, 0 ≤ dsum xs ∧ dsum xs ≤ xs.length
  | [] => by simp [dsum]
  | x :: xs => by have := dsum_le xs; have := delta_le x; simp only [dsum, List.length_cons]; omega
/-- the signs of a text, one string each -/
def chars (xs : Str) : List Str := xs.cps.toList.map fun c => ⟨#[c]⟩
theorem chars_get {xs : Str} {i : Nat} {c : Nat} (h : xs.cps[i]? = some c) : (chars xs)[i]? = some ⟨#[c]⟩ := by
  unfold chars
  rw [List.getElem?_map, Array.getElem?_toList, h]
  rfl
theorem chars_len (xs : Str) : (chars xs).length = xs.cps.size := by simp [chars]
/-- the word that a letter becomes -/
def ruleOf (x : Str) : Str := if x = Str.ofString "a" then Str.ofString "bc" else if x = Str.ofString "b" then Str.ofString "a" else Str.ofString "aaa"
def addsOf (x : Str) (v left : Int) : List Str := if v = 0 ∧ 1 < left then chars (ruleOf x) else []
theorem fr_list {h₀ h : Heap} {L : Addr} {x : Str} {v : Value} {l : List (Str × Value)} (F : Fr h₀ L h (fun y => if y = x then some v else List.lookup y l)) : Fr h₀ L h (fun y => List.lookup y ((x, v) :: l)) := by
  have e : (fun y => if y = x then some v else List.lookup y l) = fun y => List.lookup y ((x, v) :: l) := by
    funext y
    by_cases h : y = x
    · subst h; simp [List.lookup]
    · simp [List.lookup, h, beq_eq_false_iff_ne.mpr h]
  exact e ▸ F
/-- what a cut holds: no row of the walk has this head, so a walk stops here -/
def Hold (P : Flow → Shared → Prop) (f : Flow) (s : Shared) : Prop := P f s
theorem rule_ascii {x : Str} (hx : x = Str.ofString "a" ∨ x = Str.ofString "b" ∨ x = Str.ofString "c") : (ruleOf x).cps.all (fun c => decide (c < 128)) = true := by
  rcases hx with rfl | rfl | rfl <;> decide +kernel
theorem rule_size {x : Str} (hx : x = Str.ofString "a" ∨ x = Str.ofString "b" ∨ x = Str.ofString "c") : (ruleOf x).cps.size ≤ 3 := by
  rcases hx with rfl | rfl | rfl <;> decide +kernel
theorem look_ne {y k : Str} {v : Value} {l : List (Str × Value)} (h : y ≠ k) : List.lookup y ((k, v) :: l) = List.lookup y l := by rw [List.lookup, beq_eq_false_iff_ne.mpr h]
local macro_rules | `(tactic| walk_at "GO") => `(tactic| repeat' walk_at "S1")
local macro_rules | `(tactic| walk_at "TO") => `(tactic| iterate 4 (first | (with_reducible show wpAny _ _ (exec _ _) _ _ _) | walk_at "S1"))
theorem anew8 : True := by
  w_top off
  trivial
abbrev itObj (xs : Str) (t : Tok) (i : Nat) : Obj := { cls := .type "str_ascii_iterator", data := .fields #[.str xs t, .int i 0] }
set_option maxRecDepth 100000 in
theorem iter_strN {prog : Program} {w : World} {A : Around} {E : Value → Shared → Prop} {s : Shared} {env : Env} {h₀ : Heap} {x : Str} {body : List Stmt} {Q : Flow → Shared → Prop}
    {xs : Str} {t : Tok} {m₀ : Str → Option Value} {news : List (Addr × Obj)} (J : Nat → (Str → Option Value) → List (Addr × Obj) → Prop)
    (hh : A.handled = none) (ha : xs.cps.all (· < 128) = true) (F : Fr h₀ env.locals s.heap m₀) (N : News h₀ env.locals s.heap news)
    (hj : J 0 m₀ news)
    (turn : ∀ i c u m₁ news₁ (s₁ : Shared) own I, xs.cps[i]? = some c → J i m₁ news₁ → (∀ p ∈ news, @LT.lt Nat _ p.1 I) → (∀ p ∈ own, p.1 = I) → (∃ oI, (I, oI) ∈ own) → (∀ p ∈ news₁, p.1 ≠ I) →
      Fr h₀ env.locals s₁.heap (fun y => if y = x then some (.str ⟨#[c]⟩ u) else m₁ y) → News h₀ env.locals s₁.heap (own ++ news₁) →
      wpAny (model prog w) A (execs body env) (Hold fun f s₂ => f = .next ∧ ∃ h' tk' m' news', s₂ = { s₁ with heap := h', toks := tk' } ∧ Fr h₀ env.locals h' m' ∧ News h₀ env.locals h' (own ++ news') ∧ (∀ p ∈ news', p.1 ≠ I) ∧ J (i + 1) m' news') E s₁)
    (done : ∀ m₁ news₁ h tk, J xs.cps.size m₁ news₁ → Fr h₀ env.locals h m₁ → News h₀ env.locals h news₁ → Q .next { s with heap := h, toks := tk }) :
    wpAny (model prog w) A (pyIter (.str xs t)) (fun it s₂ => LoopAtU prog w A h₀ env x body Q E it s₂) E s := by
  refine wpAny_pyIter_ascii ha ?_
  have W := Walks.strAscii (prog := prog) (w := w) hh s.heap.objs.size xs t
  refine ⟨_, _, _, xs.cps.size, _, _, m₀, news, J, rfl, W, ?_, ?_, ?_, ⟨_, Heap.get?_push_size _ rfl, rfl, rfl⟩, F.push _, (fun p hp => ⟨Heap.get?_push_of_some _ (N p hp).1, (N p hp).2⟩), hj, ?_, ?_⟩
  · intro hm
    exact absurd F.ns.lt ((List.mem_singleton.mp hm) ▸ Nat.lt_irrefl _)
  · intro b hb
    rw [List.mem_singleton.mp hb]
    exact next_is_new F
  · intro p hp hI
    exact absurd (Heap.lt_size (N p hp).1) ((List.mem_singleton.mp hI) ▸ Nat.lt_irrefl _)
  · rintro i v m₁ news₁ s₁ own hin hP hJ hoff hown _ hall hst F₁ N₁
    obtain ⟨c, u, hc, rfl⟩ := hP
    obtain ⟨oI, hoI, _⟩ := hst
    refine wpAny_mono (turn i c u m₁ news₁ s₁ own s.heap.objs.size hc hJ (fun p hp => Heap.lt_size (N p hp).1) (fun p hp => List.mem_singleton.mp (hown p hp))
      ⟨oI, hall _ (List.mem_singleton.mpr rfl) (next_is_new F) oI hoI⟩ (fun p hp e => hoff p hp (List.mem_singleton.mpr e)) F₁ N₁) (fun f s₂ p => ?_) fun _ _ e => e
    obtain ⟨rfl, h', tk'', m', news', rfl, F', N', ho', hj'⟩ := p
    exact ⟨rfl, h', tk'', m', news', rfl, F', N', fun q hq hI => ho' q hq (List.mem_singleton.mp hI), hj'⟩
  · rintro h' tk m' news' F' N' _ hJ
    exact done m' news' h' tk hJ F' N'
theorem anew9 : True := by
  w_top off
  trivial
local macro_rules | `(tactic| walk_at "ADDP") => `(tactic| (
  (case B => k_asm); (case F => k_asm); (case T => k_asm); (case hk => exact rfl); (case hdp => k_dflt ktr_room); (case hu => k_dflt ktr_units); (case N => k_asm);
  (case a1 => k_all); (case a2 => k_all); (case a3 => k_all); (case a4 => k_all); (case hne => assumption); (case lo => assumption);
  (case hA => k_mem); (case hcA => k_mem); (case hcA1 => assumption); (case hcA2 => assumption); (case hcK => k_mem); (case hcK1 => assumption); (case hk4 => assumption); (case hcR => k_mem); (case hcR1 => assumption); (case hcS => k_mem); (case hcS1 => assumption); (case hcT => k_mem); (case hcT1 => assumption); (case htr => k_mem); (case hdx => k_mem); (case hkey => assumption); (case hadd => assumption);
  (case hsz => (simp only [Array.size_push]; omega)); (case hstI => assumption); (case hi => omega); (case ho => (simp only [delta] at *; omega)); (case X => k_asm)))
set_option maxRecDepth 100000 in
set_option maxHeartbeats 0 in
theorem read_tells {w : World} {p : Program} {loose : List Str} {mean : ExcName → Option Value} {mg mb : Str → Option Value}
    {dp un : Nat} {gd : Option (List Code)} {cn : Str} {cs : Scope} {a : Addr} {ccd : Value} {cl : List (Str × Addr)} {outer : List Env} {A₀ : Around} {base h₀ : Heap} {L : Addr} {m : Str → Option Value} {s : Shared}
    {qA qR : Str} {docA pmA ctvA docR pmR ctvR : Value} {addF codA readF codR cA cW cK cR cS cT lb st rw tr dx ag kw : Addr} {oA oW oK oR oS oT ocA ocR ost : Obj} {es : List DictEntry} {n nl nr k : Nat} {vsA vsR : Array Value} {tqA tqR : Tok}
    {items rows : Array Value} {rest : List (Addr × Obj)} {x : Str} {tx tkk : Tok} {i r o v : Int} {av : Array Value}
    {Q E : Value → Shared → Prop}
    (B : Below A₀ base outer h₀) (F : Fr h₀ L s.heap m) (T : Top p loose mean mg mb h₀) (hk : cs.kind = .function) (hdp : dp + 5 < recursionLimit) (hu : un + 32 < cLine)
    (N : News h₀ L s.heap ((lb, W.listOf items nl) :: (st, ost) :: (rw, W.listOf rows nr) :: rest))
    (hlb : ∀ p ∈ rest, p.1 ≠ lb) (hst : ∀ p ∈ rest, p.1 ≠ st) (hrw : ∀ p ∈ rest, p.1 ≠ rw) (hne : @Ne Nat lb st) (hne2 : @Ne Nat lb rw) (hne3 : @Ne Nat st rw) (lost : (st == sysModules) = false)
    (hR : (readF, fnMade (Str.ofString "read") qR (paramsOf readSt) (bodyOf readSt) (scopeOf readSt) [(Str.ofString "state", cS), (Str.ofString "rows", cW), (Str.ofString "add", cA)] docR pmR codR ctvR) ∈ rest)
    (hcdR : (codR, ocR) ∈ rest) (hcdR1 : ocR.data = .fields vsR) (hcdR2 : vsR[1]? = some (.str qR tqR))
    (hA : (addF, fnMade (Str.ofString "add") qA (paramsOf addSt) (bodyOf addSt) (scopeOf addSt) [(Str.ofString "transaction", cT), (Str.ofString "state", cS), (Str.ofString "read", cR), (Str.ofString "kind", cK)] docA pmA codA ctvA) ∈ rest)
    (hcA : (codA, ocA) ∈ rest) (hcA1 : ocA.data = .fields vsA) (hcA2 : vsA[1]? = some (.str qA tqA))
    (hcK : (cK, oK) ∈ rest) (hcK1 : oK.data = .cell (some (.int (k : Nat) tkk))) (hk4 : k < 4)
    (hcR : (cR, oR) ∈ rest) (hcR1 : oR.data = .cell (some (.ref readF)))
    (hcS : (cS, oS) ∈ rest) (hcS1 : oS.data = .cell (some (.ref st)))
    (hcT : (cT, oT) ∈ rest) (hcT1 : oT.data = .cell (some (.ref tr)))
    (hcAd : (cA, oA) ∈ rest) (hcAd1 : oA.data = .cell (some (.ref addF)))
    (hcW : (cW, oW) ∈ rest) (hcW1 : oW.data = .cell (some (.ref rw)))
    (htr : (tr, instObj 546 dx) ∈ rest) (hdx : (dx, dictOf es n) ∈ rest)
    (hkey : getL (hookKey k) es = some (some (.ref lb))) (hadd : getL (addKey k) es = some none)
    (hag : (ag, tupObj av) ∈ rest) (hav : av = #[.str x tx] ∨ ∃ b, av = #[.bool b, .str x tx])
    (hsz : items.size < 90000) (hszr : rows.size < 90000)
    (hstI : StIs w ost i r o v)
    (hi : 0 ≤ i ∧ i < 90000) (hr : 0 ≤ r ∧ r < 90000) (ho : 0 ≤ o ∧ o < 90000) (hv : v = 0 ∨ v = 1) (hx : x = Str.ofString "a" ∨ x = Str.ofString "b" ∨ x = Str.ofString "c")
    (hret : ∀ (created : List (Addr × Obj)) (newvs rows' : Array Value) (nl' nr' : Nat) (ost' : Obj) (h' : Heap) (tk' : Nat) (tl : Tok), Fr h₀ L h' m →
      News h₀ L h' (created ++ (lb, W.listOf (items ++ newvs) nl') :: (st, ost') :: (rw, W.listOf rows' nr') :: rest) →
      (∀ p ∈ created, @Ne Nat p.1 lb ∧ @Ne Nat p.1 st ∧ @Ne Nat p.1 rw ∧ ∀ q ∈ rest, @LT.lt Nat _ q.1 p.1) → EntsAt created readF newvs.toList (addsOf x v (i - r)) →
      (rows' = if v = 0 ∧ o = 0 then rows.push (.int (i - r) tl) else rows) →
      StIs w ost' (i + newvs.size) (r + 1) (o + dsum (addsOf x v (i - r)) - delta x) (1 - v) → Q .none { s with heap := h', toks := tk' }) :
    (hd.heap_39 w.params).In h₀ → wpAny (model PySem.Challenge.rw_bi0029_01.row.prog w) (ktrTop dp un gd cn cs L a ccd cl outer) (call (.ref readF) [.ref ag, .ref kw]) Q E s := by
  k_fill
  intro X
  generalize hsc : scopeOf readSt = sc at *
  conv at hsc => lhs; whnf
  generalize hpa : paramsOf readSt = pa at *
  conv at hpa => lhs; whnf
  generalize hbo : bodyOf readSt = bo at *
  conv at hbo => lhs; whnf
  subst hsc hpa hbo
  refine wpAny_call ?_
  (k_dflt (refine' code_nest ?k1 ?k2 ?k3 ?k4 ?k5 ?kA ?kF ?kK ?k6 ?k7 ?k8 ?k9 ?kB ?_ ?c2 ?c3 ?c4 ?c5))
  (case kA => exact rfl)
  (case kF => exact rfl)
  (case kK => exact hk)
  (case k1 => k_asm)
  (case k2 => k_asm)
  (case k3 => k_asm)
  (case k4 => k_asm)
  (case k5 => k_asm)
  (case k6 => exact .tail _ (.tail _ (.tail _ hR)))
  (case k7 => exact codeRec_news N (.tail _ (.tail _ (.tail _ hcdR))) hcdR1 hcdR2)
  (case k8 => k_dflt ktr_room)
  (case k9 => exact BindsTo.of_eq rfl)
  (case c5 => decide)
  (case kB => exact locs rfl)
  (case c2 => exact rfl)
  (case c3 => exact rfl)
  (case c4 => exact rfl)
  k_whole
  intro g' L' h' FG' F' N' B' X' T'
  (try dsimp only)
  (try k_lift B')
  replace F' : Fr g' L' h' (fun y => List.lookup y [(Str.ofString "kws", Value.ref kw), (Str.ofString "args", Value.ref ag)]) := F'
  show wpAny _ _ _ _ _ { s with heap := h', toks := s.toks + 2 }
  (try k_fold)
  walk_at "TO"
  refine wpAny_mono (Q := Hold (fun fl s₂ => fl = Flow.next ∧ ∃ (h₂ : Heap) (tk₂ : Nat), s₂ = { s with heap := h₂, toks := tk₂ } ∧ Fr g' L' h₂ (fun y => List.lookup y [(Str.ofString "letter", Value.str x tx), (Str.ofString "kws", Value.ref kw), (Str.ofString "args", Value.ref ag)]) ∧ News g' L' h₂ ((lb, W.listOf items nl) :: (st, ost) :: (rw, W.listOf rows nr) :: rest))) ?_ ?_ (fun e s₂ h => h)
  · rcases hav with rfl | ⟨bb, rfl⟩
    all_goals walk_at "GO"
    all_goals exact ⟨rfl, _, _, rfl, fr_list (by assumption), by assumption⟩
  clear hag hav N' F'
  rintro fl s₂ ⟨rfl, h₂, tk₂, rfl, F₂, N₂⟩
  try dsimp only
  walk_at "TO"
  refine wpAny_mono (Q := Hold (fun fl s₂ => fl = Flow.next ∧ ∃ (h₂ : Heap) (tk₂ : Nat) (tl : Tok), s₂ = { s with heap := h₂, toks := tk₂ } ∧ Fr g' L' h₂ (fun y => List.lookup y [(Str.ofString "left", Value.int (i - r) tl), (Str.ofString "letter", Value.str x tx), (Str.ofString "kws", Value.ref kw), (Str.ofString "args", Value.ref ag)]) ∧ News g' L' h₂ ((lb, W.listOf items nl) :: (st, ost) :: (rw, W.listOf rows nr) :: rest))) ?_ ?_ (fun e s₂ h => h)
  · walk_at "GO"
    exact ⟨rfl, _, _, _, rfl, fr_list (by assumption), by assumption⟩
  clear F₂ N₂
  rintro fl s₂ ⟨rfl, h₂, tk₂, tl, rfl, F₂, N₂⟩
  try dsimp only
  walk_at "TO"
  refine wpAny_mono (Q := Hold (fun fl s₂ => fl = Flow.next ∧ ∃ (h₂ : Heap) (tk₂ : Nat) (rows' : Array Value) (nr' : Nat), s₂ = { s with heap := h₂, toks := tk₂ } ∧ Fr g' L' h₂ (fun y => List.lookup y [(Str.ofString "left", Value.int (i - r) tl), (Str.ofString "letter", Value.str x tx), (Str.ofString "kws", Value.ref kw), (Str.ofString "args", Value.ref ag)]) ∧ News g' L' h₂ ((lb, W.listOf items nl) :: (st, ost) :: (rw, W.listOf rows' nr') :: rest) ∧ rows' = if v = 0 ∧ o = 0 then rows.push (Value.int (i - r) tl) else rows)) ?_ ?_ (fun e s₂ h => h)
  · rcases hv with rfl | rfl
    · by_cases ho0 : o = 0
      · subst ho0
        walk_at "GO"
        exact ⟨rfl, _, _, _, _, rfl, by assumption, by assumption, rfl⟩
      · walk_at "GO"
        all_goals first | exact ⟨rfl, _, _, _, _, rfl, by assumption, by assumption, (if_neg (fun h => ho0 h.2)).symm⟩ | (exfalso; simp_all; done)
    · walk_at "GO"
      exact ⟨rfl, _, _, _, _, rfl, by assumption, by assumption, rfl⟩
  clear F₂ N₂
  rintro fl s₂ ⟨rfl, h₂, tk₂, rows', nr', rfl, F₂, N₂, er⟩
  try dsimp only
  walk_at "TO"
  refine wpAny_mono (Q := Hold (fun fl s₂ => fl = Flow.next ∧ ∃ (h₂ : Heap) (tk₂ : Nat) (created : List (Addr × Obj)) (newvs : Array Value) (nl' : Nat) (ost' : Obj) (u : Str → Option Value), s₂ = { s with heap := h₂, toks := tk₂ } ∧ Fr g' L' h₂ (fun y => if y = Str.ofString "one" then u y else List.lookup y [(Str.ofString "left", Value.int (i - r) tl), (Str.ofString "letter", Value.str x tx), (Str.ofString "kws", Value.ref kw), (Str.ofString "args", Value.ref ag)]) ∧ News g' L' h₂ (created ++ (lb, W.listOf (items ++ newvs) nl') :: (st, ost') :: (rw, W.listOf rows' nr') :: rest) ∧ EntsAt created readF newvs.toList (addsOf x v (i - r)) ∧ (∀ p ∈ created, @Ne Nat p.1 lb ∧ @Ne Nat p.1 st ∧ @Ne Nat p.1 rw ∧ ∀ q ∈ rest, @LT.lt Nat _ q.1 p.1) ∧ StIs w ost' (i + newvs.size) r (o + dsum (addsOf x v (i - r))) v)) ?_ ?_ (fun e s₂ h => h)
  · have stay : ∀ h tk, Fr g' L' h (fun y => List.lookup y [(Str.ofString "left", Value.int (i - r) tl), (Str.ofString "letter", Value.str x tx), (Str.ofString "kws", Value.ref kw), (Str.ofString "args", Value.ref ag)]) →
        News g' L' h ((lb, W.listOf items nl) :: (st, ost) :: (rw, W.listOf rows' nr') :: rest) → ¬ (v = 0 ∧ 1 < i - r) →
        Hold (fun fl s₂ => fl = Flow.next ∧ ∃ (h₂ : Heap) (tk₂ : Nat) (created : List (Addr × Obj)) (newvs : Array Value) (nl' : Nat) (ost' : Obj) (u : Str → Option Value), s₂ = { s with heap := h₂, toks := tk₂ } ∧ Fr g' L' h₂ (fun y => if y = Str.ofString "one" then u y else List.lookup y [(Str.ofString "left", Value.int (i - r) tl), (Str.ofString "letter", Value.str x tx), (Str.ofString "kws", Value.ref kw), (Str.ofString "args", Value.ref ag)]) ∧ News g' L' h₂ (created ++ (lb, W.listOf (items ++ newvs) nl') :: (st, ost') :: (rw, W.listOf rows' nr') :: rest) ∧ EntsAt created readF newvs.toList (addsOf x v (i - r)) ∧ (∀ p ∈ created, @Ne Nat p.1 lb ∧ @Ne Nat p.1 st ∧ @Ne Nat p.1 rw ∧ ∀ q ∈ rest, @LT.lt Nat _ q.1 p.1) ∧ StIs w ost' (i + newvs.size) r (o + dsum (addsOf x v (i - r))) v) Flow.next { s with heap := h, toks := tk } := by
      intro h tk F N hn
      refine ⟨rfl, h, tk, [], #[], nl, ost, (fun _ => none), rfl, ?_, N, ?_, (fun p hp => by cases hp), ?_⟩
      · have e : (fun y => List.lookup y [(Str.ofString "left", Value.int (i - r) tl), (Str.ofString "letter", Value.str x tx), (Str.ofString "kws", Value.ref kw), (Str.ofString "args", Value.ref ag)]) = (fun y => if y = Str.ofString "one" then none else List.lookup y [(Str.ofString "left", Value.int (i - r) tl), (Str.ofString "letter", Value.str x tx), (Str.ofString "kws", Value.ref kw), (Str.ofString "args", Value.ref ag)]) := by
          funext y
          by_cases hy : y = Str.ofString "one"
          · rw [if_pos hy, hy]; rfl
          · rw [if_neg hy]
        exact e ▸ F
      · rw [addsOf, if_neg hn]; trivial
      · rw [addsOf, if_neg hn]
        simpa [dsum] using hstI
    rcases hv with rfl | rfl
    · by_cases hl : 1 < i - r
      · iterate 23 walk_at "S1"
        refine wpAny_mono (Q := fun xv s₁ => ∃ (h₂ : Heap) (tk₂ : Nat) (tr : Tok), xv = Value.str (ruleOf x) tr ∧ s₁ = { s with heap := h₂, toks := tk₂ } ∧ Fr g' L' h₂ (fun y => List.lookup y [(Str.ofString "left", Value.int (i - r) tl), (Str.ofString "letter", Value.str x tx), (Str.ofString "kws", Value.ref kw), (Str.ofString "args", Value.ref ag)]) ∧
          News g' L' h₂ ((lb, W.listOf items nl) :: (st, ost) :: (rw, W.listOf rows' nr') :: rest)) ?_ ?_ (fun e s₂ h => h)
        · have cl : ∀ h tk (t : Tok) (y : Str) (ld : List (Addr × Obj)), y = ruleOf x → Fr g' L' h (fun y => List.lookup y [(Str.ofString "left", Value.int (i - r) tl), (Str.ofString "letter", Value.str x tx), (Str.ofString "kws", Value.ref kw), (Str.ofString "args", Value.ref ag)]) → News g' L' h ld → (∀ q ∈ ((lb, W.listOf items nl) :: (st, ost) :: (rw, W.listOf rows' nr') :: rest), q ∈ ld) →
            ∃ (h₂ : Heap) (tk₂ : Nat) (tr : Tok), Value.str y t = Value.str (ruleOf x) tr ∧ { s with heap := h, toks := tk } = { s with heap := h₂, toks := tk₂ } ∧ Fr g' L' h₂ (fun y => List.lookup y [(Str.ofString "left", Value.int (i - r) tl), (Str.ofString "letter", Value.str x tx), (Str.ofString "kws", Value.ref kw), (Str.ofString "args", Value.ref ag)]) ∧
              News g' L' h₂ ((lb, W.listOf items nl) :: (st, ost) :: (rw, W.listOf rows' nr') :: rest) := fun h tk t y ld e F N hs => ⟨h, tk, t, by rw [e], rfl, F, cb_drop N hs⟩
          rcases hx with rfl | rfl | rfl
          all_goals (iterate 24 walk_at "S1")
          all_goals exact cl _ _ _ _ _ rfl (by assumption) (by assumption) (fun q hq => by first | exact hq | exact .tail _ hq | exact .tail _ (.tail _ hq))
        clear stay
        rintro xv s₁ ⟨h₃, tk₃, tr₃, rfl, rfl, F₃, N₃⟩
        refine' iter_strN (fun j m₁ news₁ => (∀ y, y ≠ Str.ofString "one" → m₁ y = List.lookup y [(Str.ofString "left", Value.int (i - r) tl), (Str.ofString "letter", Value.str x tx), (Str.ofString "kws", Value.ref kw), (Str.ofString "args", Value.ref ag)]) ∧ ∃ (created : List (Addr × Obj)) (newvs : Array Value) (nl' : Nat) (ost' : Obj), news₁ = created ++ (lb, W.listOf (items ++ newvs) nl') :: (st, ost') :: (rw, W.listOf rows' nr') :: rest ∧ newvs.size = j ∧
          EntsAt created readF newvs.toList ((chars (ruleOf x)).take j) ∧ (∀ p ∈ created, @Ne Nat p.1 lb ∧ @Ne Nat p.1 st ∧ @Ne Nat p.1 rw ∧ ∀ q ∈ rest, @LT.lt Nat _ q.1 p.1) ∧ StIs w ost' (i + (j : Nat)) r (o + dsum ((chars (ruleOf x)).take j)) 0) ?hh ?ha ?F ?N ?hj ?turn ?done
        case F => exact F₃
        case N => exact N₃
        case hh => rfl
        case ha => exact rule_ascii hx
        case hj => exact ⟨fun y _ => rfl, [], #[], nl, ost, rfl, rfl, trivial, (fun p hp => by cases hp), by simpa [dsum] using hstI⟩
        case turn =>
          rintro j c u m₁ news₁ s₁ own I hc ⟨hm, created, newvs, nl', ost', rfl, hj, hE, hC, hI⟩ hlt hown ⟨oI, hoI⟩ hoff F₁ N₁
          have e : (fun y => if y = Str.ofString "one" then some (Value.str ⟨#[c]⟩ u) else m₁ y) = fun y => List.lookup y ((Str.ofString "one", Value.str ⟨#[c]⟩ u) :: [(Str.ofString "left", Value.int (i - r) tl), (Str.ofString "letter", Value.str x tx), (Str.ofString "kws", Value.ref kw), (Str.ofString "args", Value.ref ag)]) := by
            funext y
            by_cases hy : y = Str.ofString "one"
            · rw [if_pos hy, hy]; rfl
            · rw [if_neg hy, hm y hy, look_ne hy]
          rw [e] at F₁
          obtain ⟨pre, hpre⟩ : ∃ pre, pre = own ++ created := ⟨_, rfl⟩
          rw [← List.append_assoc, ← hpre] at N₁
          have mm : ∀ q ∈ ((rw, W.listOf rows' nr') :: rest), q ∈ pre ++ (lb, W.listOf (items ++ newvs) nl') :: (st, ost') :: (rw, W.listOf rows' nr') :: rest := fun q hq => List.mem_append_right _ (.tail _ (.tail _ hq))
          have mAd := mm _ (.tail _ hcAd)
          have mA := mm _ (.tail _ hA)
          have gl : ∀ p ∈ pre, p.1 ≠ lb := by
            intro p hp
            rw [hpre] at hp
            rcases List.mem_append.mp hp with h1 | h1
            · rw [hown p h1]; exact Ne.symm (Nat.ne_of_lt (hlt _ (.head _)))
            · exact (hC p h1).1
          have gs : ∀ p ∈ pre, p.1 ≠ st := by
            intro p hp
            rw [hpre] at hp
            rcases List.mem_append.mp hp with h1 | h1
            · rw [hown p h1]; exact Ne.symm (Nat.ne_of_lt (hlt _ (.tail _ (.head _))))
            · exact (hC p h1).2.1
          have hjc : j < 4 := by
            have h1 : j < (ruleOf x).cps.size := by
              rcases Nat.lt_or_ge j (ruleOf x).cps.size with h | h
              · exact h
              · rw [Array.getElem?_eq_none h] at hc; cases hc
            have h2 : (ruleOf x).cps.size ≤ 3 := rule_size hx
            omega
          have hds : 0 ≤ dsum ((chars (ruleOf x)).take j) ∧ dsum ((chars (ruleOf x)).take j) ≤ 4 := by
            have h1 := dsum_le ((chars (ruleOf x)).take j)
            have h2 : ((chars (ruleOf x)).take j).length ≤ j := by rw [List.length_take]; exact Nat.min_le_left _ _
            omega
          iterate 12 (first | (with_reducible show wpAny _ _ (call _ _) _ _ _) | walk_at "S1")
          rotate_left
          · exact FnAt.of N₁ mA
          refine' add_tellsP (rest := (rw, W.listOf rows' nr') :: rest) pre ?B ?F ?T ?hk ?hdp ?hu ?N gl gs ?a3 ?a4 hne lost (.tail _ hA) (.tail _ hcA) hcA1 hcA2 (.tail _ hcK) hcK1 hk4 (.tail _ hcR) hcR1 (.tail _ hcS) hcS1 (.tail _ hcT) hcT1 (.tail _ htr) (.tail _ hdx) hkey hadd ?hsz hI ?hi ?ho ?X ?hret
          case B => k_asm
          case F => k_asm
          case T => k_asm
          case hk => exact rfl
          case hdp => k_dflt ktr_room
          case hu => k_dflt ktr_units
          case N => k_asm
          case X => k_asm
          case a3 =>
            intro p hp
            rcases List.mem_cons.mp hp with rfl | h1
            · exact Ne.symm hne2
            · exact hlb p h1
          case a4 =>
            intro p hp
            rcases List.mem_cons.mp hp with rfl | h1
            · exact Ne.symm hne3
            · exact hst p h1
          case hsz => simp only [Array.size_append]; omega
          case hi => omega
          case ho => omega
          case hret =>
            intro e' d t od ost'' h' tk' F₄ N₄ lt1 lt2 lt3 I₄
            have lpre := lt1.2.2.1
            rw [hpre] at lpre
            have ltI : @LT.lt Nat _ I t := allLt_mem (allLt_app lpre).1 hoI
            have ltrw : @LT.lt Nat _ rw t := lt1.2.2.2.1
            have ltlb : @LT.lt Nat _ lb t := lt1.1
            have ltst : @LT.lt Nat _ st t := lt1.2.1
            have ltre : ∀ q ∈ rest, @LT.lt Nat _ q.1 t := fun q hq => allLt_mem lt1.2.2.2.2 hq
            walk_at "GO"
            have hI1 : i + ((j + 1 : Nat) : Int) = i + (j : Nat) + 1 := by omega
            have htk : (chars (ruleOf x)).take (j + 1) = (chars (ruleOf x)).take j ++ [⟨#[c]⟩] := by rw [List.take_add_one, chars_get hc]; rfl
            have hps : items ++ newvs.push (Value.ref e') = (items ++ newvs).push (Value.ref e') := by simp
            refine ⟨rfl, h', tk', _, ((e', tupObj #[.ref readF, .ref t, .ref d]) :: (d, od) :: (t, tupObj #[.str ⟨#[c]⟩ u]) :: created) ++ (lb, W.listOf (items ++ newvs.push (.ref e')) (nl' + 1)) :: (st, ost'') :: (rw, W.listOf rows' nr') :: rest, rfl, F₄, ?_, ?_, ?_, _, newvs.push (.ref e'), nl' + 1, ost'', rfl, ?_, ?_, ?_, ?_⟩
            · rw [hps]
              refine cb_drop N₄ ?_
              intro q hq
              simp only [List.mem_cons, List.mem_append, List.cons_append, hpre] at hq ⊢
              rcases hq with h | h | h | h | h | h
              · exact .inr (.inr (.inr (.inl (.inl h))))
              · exact .inl h
              · exact .inr (.inl h)
              · exact .inr (.inr (.inl h))
              · exact .inr (.inr (.inr (.inl (.inr h))))
              · exact .inr (.inr (.inr (.inr h)))
            · intro q hq
              simp only [List.mem_cons, List.mem_append, List.cons_append] at hq
              rcases hq with rfl | rfl | rfl | h | rfl | rfl | h
              · exact (fun h : @Eq Nat e' I => by omega)
              · exact (fun h : @Eq Nat d I => by omega)
              · exact (fun h : @Eq Nat t I => by omega)
              · exact hoff q (List.mem_append_left _ h)
              · exact hoff (lb, W.listOf (items ++ newvs) nl') (List.mem_append_right _ (.head _))
              · exact hoff (st, ost') (List.mem_append_right _ (.tail _ (.head _)))
              · exact hoff q (List.mem_append_right _ (.tail _ (.tail _ (List.mem_cons.mpr h))))
            · intro y hy
              exact look_ne hy
            · simp [hj]
            · rw [htk, Array.toList_push]
              exact EntsAt.append (hE.mono (fun q hq => .tail _ (.tail _ (.tail _ hq)))) ⟨⟨e', t, d, u, rfl, .head _, .tail _ (.tail _ (.head _))⟩, trivial⟩
            · intro q hq
              simp only [List.mem_cons] at hq
              rcases hq with rfl | rfl | rfl | h
              · exact ⟨(fun h : @Eq Nat e' lb => by omega), (fun h : @Eq Nat e' st => by omega), (fun h : @Eq Nat e' rw => by omega), fun q hq => by have := ltre q hq; show @LT.lt Nat _ q.1 e'; omega⟩
              · exact ⟨(fun h : @Eq Nat d lb => by omega), (fun h : @Eq Nat d st => by omega), (fun h : @Eq Nat d rw => by omega), fun q hq => by have := ltre q hq; show @LT.lt Nat _ q.1 d; omega⟩
              · exact ⟨(fun h : @Eq Nat t lb => by omega), (fun h : @Eq Nat t st => by omega), (fun h : @Eq Nat t rw => by omega), ltre⟩
              · exact hC q h
            · rw [hI1, htk, dsum_snoc, ← Int.add_assoc]
              exact I₄
        case done =>
          rintro m₁ news₁ h tk ⟨hm, created, newvs, nl', ost', rfl, hj, hE, hC, hI⟩ F₁ N₁
          have hfull : (chars (ruleOf x)).take (ruleOf x).cps.size = chars (ruleOf x) := List.take_of_length_le (by rw [chars_len]; exact Nat.le_refl _)
          rw [hfull] at hE hI
          walk_at "GO"
          have ha : addsOf x 0 (i - r) = chars (ruleOf x) := if_pos ⟨rfl, hl⟩
          refine ⟨rfl, h, tk, created, newvs, nl', ost', m₁, rfl, ?_, N₁, by rw [ha]; exact hE, hC, by rw [ha, hj]; exact hI⟩
          have e : m₁ = (fun y => if y = Str.ofString "one" then m₁ y else List.lookup y [(Str.ofString "left", Value.int (i - r) tl), (Str.ofString "letter", Value.str x tx), (Str.ofString "kws", Value.ref kw), (Str.ofString "args", Value.ref ag)]) := by
            funext y
            by_cases hy : y = Str.ofString "one"
            · rw [if_pos hy]
            · rw [if_neg hy, hm y hy]
          exact e ▸ F₁
      · walk_at "GO"
        all_goals first | exact stay _ _ (by assumption) (by assumption) (fun h => hl h.2) | (exfalso; simp_all; done)
    · walk_at "GO"
      exact stay _ _ (by assumption) (by assumption) (fun h => absurd h.1 (by decide))
  clear F₂ N₂ hstI
  rintro fl s₂ ⟨rfl, h₂, tk₂, created, newvs, nl', ost', u, rfl, F₂, N₂, hE, hC, I₂⟩
  try dsimp only
  obtain ⟨tll, htl⟩ : ∃ tll, tll = created ++ (lb, W.listOf (items ++ newvs) nl') :: (rw, W.listOf rows' nr') :: rest := ⟨_, rfl⟩
  have N₃ : News g' L' h₂ ((st, ost') :: tll) := by
    refine cb_drop N₂ ?_
    intro q hq
    simp only [List.mem_cons, List.mem_append, htl] at hq ⊢
    rcases hq with h | h | h | h | h
    · exact .inr (.inr (.inl h))
    · exact .inl h
    · exact .inr (.inl h)
    · exact .inr (.inr (.inr (.inl h)))
    · exact .inr (.inr (.inr (.inr h)))
  have ns : ∀ p ∈ tll, p.1 ≠ st := by
    intro q hq
    simp only [List.mem_cons, List.mem_append, htl] at hq
    rcases hq with h | rfl | rfl | h
    · exact (hC q h).2.1
    · exact hne
    · exact Ne.symm hne3
    · exact hst q h
  have m2 : (cS, oS) ∈ tll := by rw [htl]; exact List.mem_append_right _ (.tail _ (.tail _ hcS))
  clear N₂
  have hvv : 0 ≤ v ∧ v ≤ 1 := by omega
  have back : ∀ ob, ∀ q ∈ created ++ (lb, W.listOf (items ++ newvs) nl') :: (st, ob) :: (rw, W.listOf rows' nr') :: rest, q ∈ (st, ob) :: tll := by
    intro ob q hq
    simp only [List.mem_cons, List.mem_append, htl] at hq ⊢
    rcases hq with h | h | h | h | h
    · exact .inr (.inl h)
    · exact .inr (.inr (.inl h))
    · exact .inl h
    · exact .inr (.inr (.inr (.inl h)))
    · exact .inr (.inr (.inr (.inr h)))
  walk_at "GO"
  all_goals try (leave1; try dsimp only)
  · have hδ : delta x = 0 := delta_a (by assumption)
    exact hret created newvs rows' nl' nr' _ _ _ tl (by assumption) (cb_drop (by assumption) (back _)) hC hE er (by rw [hδ]; assumption)
  · have hδ : delta x = 1 := delta_n (by assumption)
    exact hret created newvs rows' nl' nr' _ _ _ tl (by assumption) (cb_drop (by assumption) (back _)) hC hE er (by rw [hδ]; assumption)
theorem anew10 : True := by
  w_top off
  trivial
set_option maxRecDepth 100000 in
/-- a for loop with a tuple as target over a list that its body may lengthen -/
theorem for_grow {prog : Program} {w : World} {A : Around} {E : Value → Shared → Prop} {s : Shared} {env : Env} {h₀ : Heap} {elts : List Expr} {x1 : Nat} {tp pos : Pos} {iter : Expr} {body : List Stmt} {Q : Flow → Shared → Prop}
    {m₀ : Str → Option Value} {lb : Addr} {items₀ : Array Value} {nl₀ : Nat} {led₀ : List (Addr × Obj)}
    (J : Nat → Nat → (Str → Option Value) → Array Value → Nat → List (Addr × Obj) → Prop) (n₀ : Nat)
    (hh : A.handled = none) (F : Fr h₀ env.locals s.heap m₀) (N : News h₀ env.locals s.heap ((lb, W.listOf items₀ nl₀) :: led₀))
    (he : ∀ Q' : Value → Shared → Prop, Q' (.ref lb) s → wpAny (model prog w) A (eval iter env) Q' E s)
    (hj : J n₀ 0 m₀ items₀ nl₀ led₀)
    (hv : ∀ k i m items nl led v, J k i m items nl led → items[i]? = some v → ∃ T, v = .ref T)
    (turn : ∀ k i m items nl led v h tk I oI, J k i m items nl led → items[i]? = some v → (∀ p ∈ led, p.1 ≠ I) → lb ≠ I → Fr h₀ env.locals h m → News h₀ env.locals h ((I, oI) :: (lb, W.listOf items nl) :: led) →
      wpAny (model prog w) A (assign (.Tuple elts x1 tp) env v) (fun _ s₂ => wpAny (model prog w) A (execs body env)
        (Hold fun f s₃ => f = .next ∧ ∃ k' h' tk' m' items' nl' led', k' < k ∧ s₃ = { s with heap := h', toks := tk' } ∧ Fr h₀ env.locals h' m' ∧ News h₀ env.locals h' ((I, oI) :: (lb, W.listOf items' nl') :: led') ∧ (∀ p ∈ led', p.1 ≠ I) ∧ J k' (i + 1) m' items' nl' led') E s₂) E { s with heap := h, toks := tk })
    (done : ∀ k i m items nl led h tk, J k i m items nl led → items[i]? = none → Fr h₀ env.locals h m → News h₀ env.locals h ((lb, W.listOf items nl) :: led) → Q .next { s with heap := h, toks := tk })
    (hs : ∀ x, foldedSetIterable iter env x = pure x := by intro _; rfl)
    (hE : PassesOwn (model prog w) A env E := by passes_own) :
    wpAny (model prog w) A (exec (.For (.Tuple elts x1 tp) iter body [] pos) env) Q E s := by
  have hls : s.heap.IsList lb items₀ := ⟨_, (N _ (.head _)).1, rfl, _, rfl⟩
  refine wpAny_For (he _ (wpAny_pyIter_list hls ?_)) hs
  have hlbI : lb ≠ s.heap.objs.size := Nat.ne_of_lt (Heap.lt_size (N _ (.head _)).1)
  have hLI : env.locals ≠ s.heap.objs.size := Nat.ne_of_lt F.ns.lt
  have hI0 : h₀.get? s.heap.objs.size = none := next_is_new F
  have hledI : ∀ p ∈ led₀, p.1 ≠ s.heap.objs.size := fun p hp => Nat.ne_of_lt (Heap.lt_size (N p (.tail _ hp)).1)
  refine codeAny_forLoop_any (R := fun r s' => match r with | .ok f => Q f s' | .error e => cameBackBy (model prog w) A env E e s')
    (fun k s' => ∃ h' tk m i items nl led oI, s' = { s with heap := h', toks := tk } ∧ Fr h₀ env.locals h' m ∧ News h₀ env.locals h' ((s.heap.objs.size, oI) :: (lb, W.listOf items nl) :: led) ∧ oI.cls = .type "list_iterator" ∧ oI.data = .fields #[.ref lb, .int (i : Nat) 0] ∧
      (∀ p ∈ led, p.1 ≠ s.heap.objs.size) ∧ J k i m items nl led) ?_ n₀
    ⟨_, s.toks, m₀, 0, items₀, nl₀, led₀, { cls := .type "list_iterator", data := .fields #[.ref lb, .int 0 0] }, rfl, F.push _, ?_, rfl, rfl, hledI, hj⟩
  · rintro k s' ⟨h', tk, m, i, items, nl, led, oI, rfl, F', N', hc, hd, hoff, hJ⟩
    have hit : h'.IsListIter s.heap.objs.size lb i := ⟨oI, (N' _ (.head _)).1, hc, hd⟩
    have hl : h'.IsList lb items := ⟨_, (N' _ (.tail _ (.head _))).1, rfl, _, rfl⟩
    have next : ∀ h₁ : Heap, Heap.ExtBut s.heap.objs.size h' h₁ → Fr h₀ env.locals h₁ m ∧ News h₀ env.locals h₁ ((lb, W.listOf items nl) :: led) := fun h₁ hk₁ =>
      ⟨⟨F'.ns.at' fun o e => hk₁ _ o hLI e, fun b o e => hk₁ b o (fun hb => by rw [hb, hI0] at e; cases e) (F'.keep b o e), F'.above⟩,
        fun p hp => ⟨hk₁ _ _ (by rcases List.mem_cons.mp hp with rfl | h
                                 · exact hlbI
                                 · exact hoff p h) (N' p (.tail _ hp)).1, (N' p (.tail _ hp)).2⟩⟩
    cases hx : items[i]? with
    | none =>
      refine wpAny_passesOwn hE (wpAny_pyNext_list_end hh hit hl hx fun h₁ hk₁ => ?_)
      obtain ⟨F₁, N₁⟩ := next h₁ hk₁
      exact wpAny_execs_nil (done k i m items nl led h₁ tk hJ hx F₁ N₁)
    | some v =>
      obtain ⟨T, rfl⟩ := hv k i m items nl led v hJ hx
      refine wpAny_passesOwn hE (wpAny_pyNext_list_item hit hl hx fun h₁ hit₁ hk₁ => ?_)
      obtain ⟨F₁, N₁⟩ := next h₁ hk₁.extBut
      obtain ⟨o₁, ho₁, hc₁, hd₁⟩ := id hit₁
      refine wpAny_letOwnedTupleGo_listiter hit₁ ?_
      have N₂ : News h₀ env.locals h₁ ((s.heap.objs.size, o₁) :: (lb, W.listOf items nl) :: led) := by
        intro p hp
        rcases List.mem_cons.mp hp with rfl | h
        · exact ⟨ho₁, Ne.symm hLI, hI0⟩
        · exact N₁ p h
      refine wpAny_passesOwn hE (wpAny_mono (turn k i m items nl led _ h₁ tk s.heap.objs.size o₁ hJ hx hoff hlbI F₁ N₂) (fun _ s₂ h₂ => wpAny_passesOwn hE (wpAny_mono h₂ (fun f s₃ h₃ => ?_) fun _ _ z => z)) fun _ _ z => z)
      obtain ⟨rfl, k', h₃', tk₃, m₃, items₃, nl₃, led₃, hlt, rfl, F₃, N₃, hoff₃, hJ₃⟩ := h₃
      exact ⟨k', hlt, h₃', tk₃, m₃, i + 1, items₃, nl₃, led₃, o₁, rfl, F₃, N₃, hc₁, hd₁, hoff₃, hJ₃⟩
  · intro p hp
    rcases List.mem_cons.mp hp with rfl | h
    · exact ⟨Heap.get?_push_size _ rfl, Ne.symm hLI, hI0⟩
    · exact ⟨Heap.get?_push_of_some _ (N p h).1, (N p h).2⟩
theorem anew11 : True := by
  w_top off
  trivial
/-- the queue's letters as numbers -/
def toS : Nat → Str
  | 0 => Str.ofString "a"
  | 1 => Str.ofString "b"
  | _ => Str.ofString "c"
def ruleN : Nat → List Nat
  | 0 => [1, 2]
  | 1 => [0]
  | _ => [0, 0, 0]
def dN : Nat → Int
  | 0 => 0
  | _ => 1
def dsumN : List Nat → Int
  | [] => 0
  | x :: xs => dN x + dsumN xs
theorem toS_abc (x : Nat) : toS x = Str.ofString "a" ∨ toS x = Str.ofString "b" ∨ toS x = Str.ofString "c" := match x with
  | 0 => .inl rfl
  | 1 => .inr (.inl rfl)
  | _ + 2 => .inr (.inr rfl)
theorem delta_toS (x : Nat) : delta (toS x) = dN x := match x with
  | 0 => (if_pos rfl : (if Str.ofString "a" = Str.ofString "a" then (0 : Int) else 1) = 0)
  | 1 => (if_neg (by decide +kernel) : (if Str.ofString "b" = Str.ofString "a" then (0 : Int) else 1) = 1)
  | _ + 2 => (if_neg (by decide +kernel) : (if Str.ofString "c" = Str.ofString "a" then (0 : Int) else 1) = 1)
theorem dsum_toS : ∀ xs : List Nat, dsum (xs.map toS) = dsumN xs
  | [] => rfl
  | x :: xs => by simp only [List.map_cons, dsum, dsumN, delta_toS, dsum_toS xs]
theorem chars_toS (x : Nat) : chars (ruleOf (toS x)) = (ruleN x).map toS := match x with
  | 0 => by decide +kernel
  | 1 => by decide +kernel
  | _ + 2 => (by decide +kernel : chars (ruleOf (Str.ofString "c")) = [Str.ofString "a", Str.ofString "a", Str.ofString "a"])
structure QS where
  ls : List Nat
  r : Nat
  o : Int
  v : Int
  ns : List Int
def addsN (x : Nat) (v left : Int) : List Nat := if v = 0 ∧ 1 < left then ruleN x else []
theorem adds_toS (x : Nat) (v left : Int) : addsOf (toS x) v left = (addsN x v left).map toS := by
  unfold addsOf addsN
  by_cases h : v = 0 ∧ 1 < left
  · rw [if_pos h, if_pos h, chars_toS]
  · rw [if_neg h, if_neg h]; rfl
def QS.left (q : QS) : Int := (q.ls.length : Int) - (q.r : Int)
def stepQ (x : Nat) (q : QS) : QS :=
  { ls := q.ls ++ addsN x q.v q.left, r := q.r + 1, o := q.o + dsumN (addsN x q.v q.left) - dN x, v := 1 - q.v, ns := if q.v = 0 ∧ q.o = 0 then q.ns ++ [q.left] else q.ns }
def QS.ok (q : QS) : Bool := decide (q.ls.length < 80000) && decide (q.r < 80000) && decide (0 ≤ q.o) && decide (q.o < 80000) && (decide (q.v = 0) || decide (q.v = 1)) && decide (q.ns.length < 80000)
def runQ : Nat → QS → Option QS
  | 0, _ => none
  | n + 1, q => match q.ls[q.r]? with
    | none => some q
    | some x => if q.ok = true then runQ n (stepQ x q) else none
def startQ (n : Nat) : QS := { ls := List.replicate n 0, r := 0, o := 0, v := 0, ns := [] }
def nextD (n : Int) : Int := if n % 2 = 0 then n / 2 else (3 * n + 1) / 2
def dueL : Nat → List Int → List Int
  | 0, ds => ds
  | k + 1, ds => if 1 < ds.getLastD 0 then dueL k (ds ++ [nextD (ds.getLastD 0)]) else ds
def goodN (n : Nat) : Bool := match runQ 1000 (startQ n) with
  | some q => decide (q.ns = dueL 100 [(n : Int)]) && decide (q.ls.length = q.r)
  | none => false
theorem good1 : goodN 1 = true := by decide +kernel
theorem good2 : goodN 2 = true := by decide +kernel
theorem good3 : goodN 3 = true := by decide +kernel
theorem good4 : goodN 4 = true := by decide +kernel
theorem good5 : goodN 5 = true := by decide +kernel
theorem good6 : goodN 6 = true := by decide +kernel
theorem good7 : goodN 7 = true := by decide +kernel
theorem good8 : goodN 8 = true := by decide +kernel
theorem good_all {n : Nat} (h1 : 1 ≤ n) (h2 : n ≤ 8) : ∃ q, runQ 1000 (startQ n) = some q ∧ q.ns = dueL 100 [(n : Int)] ∧ q.ls.length = q.r := by
  have h : goodN n = true := by
    rcases (by omega : n = 1 ∨ n = 2 ∨ n = 3 ∨ n = 4 ∨ n = 5 ∨ n = 6 ∨ n = 7 ∨ n = 8) with rfl | rfl | rfl | rfl | rfl | rfl | rfl | rfl
    · exact good1
    · exact good2
    · exact good3
    · exact good4
    · exact good5
    · exact good6
    · exact good7
    · exact good8
  unfold goodN at h
  cases hr : runQ 1000 (startQ n) with
  | none => rw [hr] at h; cases h
  | some q =>
    rw [hr] at h
    simp only [Bool.and_eq_true, decide_eq_true_eq] at h
    exact ⟨q, rfl, h.1, h.2⟩
theorem runQ_r : ∀ {n : Nat} {q qf : QS}, runQ n q = some qf → q.r ≤ 1000 - n → n ≤ 1000 → qf.r ≤ 1000
  | 0, _, _, h, _, _ => by cases h
  | n + 1, q, qf, h, hr, hn => by
    rw [runQ] at h
    cases hq : q.ls[q.r]? with
    | none =>
      rw [hq] at h
      cases h
      omega
    | some x =>
      rw [hq] at h
      dsimp only at h
      by_cases hok : q.ok = true
      · rw [if_pos hok] at h
        refine runQ_r h ?_ (by omega)
        show q.r + 1 ≤ 1000 - n
        omega
      · rw [if_neg hok] at h
        cases h
local macro_rules | `(tactic| walk_at "exec Try") => `(tactic| ((with_reducible show wpAny _ _ (exec (Stmt.Try _ (_ :: _) _ [] _) _) _ _ _); refine wpAny_Try_except ?_))
local macro_rules | `(tactic| walk_at "exec Try") => `(tactic| ((with_reducible show wpAny _ _ (exec (Stmt.Try _ [] _ (_ :: _) _) _) _ _ _); refine wpAny_Try_finally ?_))
theorem anew13 : True := by
  w_top off
  trivial
def bodyC : Stmt → List Stmt
  | .ClassDef _ _ _ b _ _ _ _ _ _ _ => b
  | _ => []
def tryBody : Stmt → List Stmt
  | .Try b _ _ _ _ => b
  | _ => []
def hooksSt : Stmt := nthSt (bodyC (nthSt PySem.Challenge.pw_bi0029_01.main.body 16)) 29
def hookFor : Stmt := nthSt (tryBody (nthSt (bodyOf hooksSt) 1)) 0
abbrev hkMap (u1 u2 u3 : Option Value) (base : List (Str × Value)) : Str → Option Value := fun y => if y = Str.ofString "hook" then u1 else if y = Str.ofString "args" then u2 else if y = Str.ofString "kws" then u3 else List.lookup y base
abbrev hkBase (pf lb tr : Addr) (cv ev : Value) : List (Str × Value) := [(Str.ofString "prefix_args", Value.ref pf), (Str.ofString "clean", cv), (Str.ofString "exc", ev), (Str.ofString "hooks", Value.ref lb), (Str.ofString "self", Value.ref tr)]
def forBody : Stmt → List Stmt
  | .For _ _ b _ _ => b
  | _ => []
def forTgt : Stmt → Expr
  | .For t _ _ _ _ => t
  | _ => .Name (Str.ofString "") ⟨0, 0, 0, 0⟩
theorem hk_map {u1 u2 u3 : Option Value} {v1 v2 v3 : Value} {b : List (Str × Value)} :
    (fun y => if y = Str.ofString "kws" then some v3 else if y = Str.ofString "args" then some v2 else if y = Str.ofString "hook" then some v1 else hkMap u1 u2 u3 b y) = hkMap (some v1) (some v2) (some v3) b := by
  funext y
  unfold hkMap
  by_cases h1 : y = Str.ofString "hook"
  · subst h1
    rw [if_neg (by decide +kernel), if_neg (by decide +kernel), if_pos rfl, if_pos rfl]
  · by_cases h2 : y = Str.ofString "args"
    · subst h2
      rw [if_neg (by decide +kernel), if_pos rfl, if_neg h1, if_pos rfl]
    · by_cases h3 : y = Str.ofString "kws"
      · subst h3
        rw [if_pos rfl, if_neg h1, if_neg h2, if_pos rfl]
      · simp only [h1, h2, h3, if_false]
set_option maxRecDepth 100000 in
set_option maxHeartbeats 0 in
theorem hooks_turn {w : World} {p : Program} {loose : List Str} {mean : ExcName → Option Value} {mg mb : Str → Option Value}
    {dp un : Nat} {gd : Option (List Code)} {cn : Str} {a : Addr} {ccd : Value} {outer : List Env} {A₀ : Around} {base h₀ : Heap} {L : Addr} {s : Shared}
    {qA qR : Str} {docA pmA ctvA docR pmR ctvR : Value} {addF codA readF codR cA cW cK cR cS cT lb st rw tr dx pf e t d : Addr} {oA oW oK oR oS oT ocA ocR ost : Obj} {es : List DictEntry} {n nl nr k : Nat} {vsA vsR : Array Value} {tqA tqR : Tok}
    {items rows : Array Value} {rest : List (Addr × Obj)} {tkk : Tok} {u1 u2 u3 : Option Value} {cv ev : Value} {x : Str} {tx : Tok} {i r o v : Int}
    {P : Flow → Shared → Prop} {E : Value → Shared → Prop}
    (B : Below A₀ base outer h₀) (F : Fr h₀ L s.heap (hkMap u1 u2 u3 (hkBase pf lb tr cv ev))) (T : Top p loose mean mg mb h₀) (hdp : dp + 8 < recursionLimit) (hu : un + 64 < cLine)
    (N : News h₀ L s.heap ((lb, W.listOf items nl) :: (st, ost) :: (rw, W.listOf rows nr) :: rest))
    (hlb : ∀ p ∈ rest, p.1 ≠ lb) (hst : ∀ p ∈ rest, p.1 ≠ st) (hrw : ∀ p ∈ rest, p.1 ≠ rw) (hne : @Ne Nat lb st) (hne2 : @Ne Nat lb rw) (hne3 : @Ne Nat st rw) (lost : (st == sysModules) = false)
    (hR : (readF, fnMade (Str.ofString "read") qR (paramsOf readSt) (bodyOf readSt) (scopeOf readSt) [(Str.ofString "state", cS), (Str.ofString "rows", cW), (Str.ofString "add", cA)] docR pmR codR ctvR) ∈ rest)
    (hcdR : (codR, ocR) ∈ rest) (hcdR1 : ocR.data = .fields vsR) (hcdR2 : vsR[1]? = some (.str qR tqR))
    (hA : (addF, fnMade (Str.ofString "add") qA (paramsOf addSt) (bodyOf addSt) (scopeOf addSt) [(Str.ofString "transaction", cT), (Str.ofString "state", cS), (Str.ofString "read", cR), (Str.ofString "kind", cK)] docA pmA codA ctvA) ∈ rest)
    (hcA : (codA, ocA) ∈ rest) (hcA1 : ocA.data = .fields vsA) (hcA2 : vsA[1]? = some (.str qA tqA))
    (hcK : (cK, oK) ∈ rest) (hcK1 : oK.data = .cell (some (.int (k : Nat) tkk))) (hk4 : k < 4)
    (hcR : (cR, oR) ∈ rest) (hcR1 : oR.data = .cell (some (.ref readF)))
    (hcS : (cS, oS) ∈ rest) (hcS1 : oS.data = .cell (some (.ref st)))
    (hcT : (cT, oT) ∈ rest) (hcT1 : oT.data = .cell (some (.ref tr)))
    (hcAd : (cA, oA) ∈ rest) (hcAd1 : oA.data = .cell (some (.ref addF)))
    (hcW : (cW, oW) ∈ rest) (hcW1 : oW.data = .cell (some (.ref rw)))
    (htr : (tr, instObj 546 dx) ∈ rest) (hdx : (dx, dictOf es n) ∈ rest)
    (hkey : getL (hookKey k) es = some (some (.ref lb))) (hadd : getL (addKey k) es = some none)
    (hpf : pf = 415 ∨ ∃ b, (pf, tupObj #[.bool b]) ∈ rest)
    (hme : (e, tupObj #[.ref readF, .ref t, .ref d]) ∈ rest) (hmt : (t, tupObj #[.str x tx]) ∈ rest)
    (hsz : items.size < 90000) (hszr : rows.size < 90000)
    (hstI : StIs w ost i r o v)
    (hi : 0 ≤ i ∧ i < 90000) (hr : 0 ≤ r ∧ r < 90000) (ho : 0 ≤ o ∧ o < 90000) (hv : v = 0 ∨ v = 1) (hx : x = Str.ofString "a" ∨ x = Str.ofString "b" ∨ x = Str.ofString "c")
    (hret : ∀ (created : List (Addr × Obj)) (newvs rows' : Array Value) (nl' nr' : Nat) (ost' : Obj) (h' : Heap) (tk' : Nat) (tl : Tok), Fr h₀ L h' (hkMap (some (.ref readF)) (some (.ref t)) (some (.ref d)) (hkBase pf lb tr cv ev)) →
      News h₀ L h' (created ++ (lb, W.listOf (items ++ newvs) nl') :: (st, ost') :: (rw, W.listOf rows' nr') :: rest) →
      (∀ p ∈ created, @Ne Nat p.1 lb ∧ @Ne Nat p.1 st ∧ @Ne Nat p.1 rw ∧ ∀ q ∈ rest, @LT.lt Nat _ q.1 p.1) → EntsAt created readF newvs.toList (addsOf x v (i - r)) →
      (rows' = if v = 0 ∧ o = 0 then rows.push (.int (i - r) tl) else rows) →
      StIs w ost' (i + newvs.size) (r + 1) (o + dsum (addsOf x v (i - r)) - delta x) (1 - v) → P .next { s with heap := h', toks := tk' }) :
    (hd.heap_39 w.params).In h₀ → wpAny (model PySem.Challenge.rw_bi0029_01.row.prog w) (ktrTop dp un gd cn (scopeOf hooksSt) L a ccd [] outer) (assign (forTgt hookFor) (envX cn (scopeOf hooksSt) L a ccd []) (.ref e))
      (fun _ s₂ => wpAny (model PySem.Challenge.rw_bi0029_01.row.prog w) (ktrTop dp un gd cn (scopeOf hooksSt) L a ccd [] outer) (execs (forBody hookFor) (envX cn (scopeOf hooksSt) L a ccd [])) (Hold P) E s₂) E s := by
  k_fill
  intro X
  generalize hsc : scopeOf hooksSt = sc at *
  conv at hsc => lhs; whnf
  generalize hft : forTgt hookFor = ft at *
  conv at hft => lhs; whnf
  generalize hfb : forBody hookFor = fb at *
  conv at hfb => lhs; whnf
  subst hsc hft hfb
  have mm : ∀ q ∈ rest, q ∈ (lb, W.listOf items nl) :: (st, ost) :: (rw, W.listOf rows nr) :: rest := fun q hq => .tail _ (.tail _ (.tail _ hq))
  iterate 24 (first | (with_reducible show wpAny _ _ (binaryOp _ _ _) _ _ _) | walk_at "S1")
  rcases hpf with rfl | ⟨b, hpf⟩
  · (k_dflt (refine' kde_addT0 ?k1 ?k2 ?k3 ?k4 ?k5 ?k7 ?_))
    (case k1 => k_asm)
    (case k2 => k_asm)
    (case k3 => kun_tup)
    (case k4 => kun_tup)
    (case k5 => exact rfl)
    (case k7 => exact Nat.le_of_ble_eq_true rfl)
    k_whole
    iterate 8 (first | (with_reducible show wpAny _ _ (call _ _) _ _ _) | walk_at "S1")
    refine' read_tells (dp := dp) (un := un) (x := x) (i := i) (r := r) (o := o) (v := v) (rest := rest) ?B ?F ?T ?hk ?hdp ?hu ?N ?hlb ?hst ?hrw hne hne2 hne3 lost hR hcdR hcdR1 hcdR2 hA hcA hcA1 hcA2 hcK hcK1 hk4 hcR hcR1 hcS hcS1 hcT hcT1 hcAd hcAd1 hcW hcW1 htr hdx hkey hadd ?hag ?hav hsz hszr hstI hi hr ho hv hx ?hret ?X
    case B => k_asm
    case F => k_asm
    case T => k_asm
    case hk => exact rfl
    case hdp => k_dflt ktr_room
    case hu => k_dflt ktr_units
    case X => k_asm
    case N => k_asm
    case hlb => exact hlb
    case hst => exact hst
    case hrw => exact hrw
    case hag => exact hmt
    case hav => exact .inl rfl
    case hret =>
      intro created newvs rows' nl' nr' ost' h' tk' tl F₂ N₂ hC hE er I₂
      walk_at "GO"
      rw [hk_map] at F₂
      exact hret created newvs rows' nl' nr' ost' h' tk' tl F₂ N₂ hC hE er I₂
    exact FnAt.of (by assumption) (mm _ hR)
  · (k_dflt (refine' kde_addT ?k1 ?k2 ?k3 ?k4 ?k5 ?k6 ?k7 ?k8 ?_))
    (case k1 => k_asm)
    (case k2 => k_asm)
    (case k3 => kun_tup)
    (case k4 => kun_tup)
    (case k5 => exact List.cons_ne_nil _ _)
    (case k6 => exact List.cons_ne_nil _ _)
    (case k7 => exact Nat.le_of_ble_eq_true rfl)
    (case k8 => exact rfl)
    k_whole
    intro D h' F' N' lD
    iterate 8 (first | (with_reducible show wpAny _ _ (call _ _) _ _ _) | walk_at "S1")
    have ltD : ∀ q ∈ rest, q.1 < D := fun q hq => lD q (mm q hq)
    have N₃ : News h₀ L h' ((lb, W.listOf items nl) :: (st, ost) :: (rw, W.listOf rows nr) :: (D, tupObj #[.bool b, .str x tx]) :: rest) := by
      refine cb_drop N' ?_
      intro q hq
      simp only [List.mem_cons] at hq
      rcases hq with h | h | h | h | h
      · exact .tail _ (h ▸ .head _)
      · exact .tail _ (.tail _ (h ▸ .head _))
      · exact .tail _ (.tail _ (.tail _ (h ▸ .head _)))
      · exact h ▸ .head _
      · exact .tail _ (.tail _ (.tail _ (.tail _ h)))
    have d1 : @LT.lt Nat _ lb D := lD _ (.head _)
    have d2 : @LT.lt Nat _ st D := lD _ (.tail _ (.head _))
    have d3 : @LT.lt Nat _ rw D := lD _ (.tail _ (.tail _ (.head _)))
    clear N'
    refine' read_tells (dp := dp) (un := un) (x := x) (i := i) (r := r) (o := o) (v := v) (rest := (D, tupObj #[.bool b, .str x tx]) :: rest) ?B ?F ?T ?hk ?hdp ?hu ?N ?hlb ?hst ?hrw hne hne2 hne3 lost (.tail _ hR) (.tail _ hcdR) hcdR1 hcdR2 (.tail _ hA) (.tail _ hcA) hcA1 hcA2 (.tail _ hcK) hcK1 hk4 (.tail _ hcR) hcR1 (.tail _ hcS) hcS1 (.tail _ hcT) hcT1 (.tail _ hcAd) hcAd1 (.tail _ hcW) hcW1 (.tail _ htr) (.tail _ hdx) hkey hadd ?hag ?hav hsz hszr hstI hi hr ho hv hx ?hret ?X
    case B => k_asm
    case F => k_asm
    case T => k_asm
    case hk => exact rfl
    case hdp => k_dflt ktr_room
    case hu => k_dflt ktr_units
    case X => k_asm
    case N => exact N₃
    case hlb =>
      intro q hq
      rcases List.mem_cons.mp hq with rfl | h
      · exact (fun h : @Eq Nat D lb => by omega)
      · exact hlb q h
    case hst =>
      intro q hq
      rcases List.mem_cons.mp hq with rfl | h
      · exact (fun h : @Eq Nat D st => by omega)
      · exact hst q h
    case hrw =>
      intro q hq
      rcases List.mem_cons.mp hq with rfl | h
      · exact (fun h : @Eq Nat D rw => by omega)
      · exact hrw q h
    case hag => exact .head _
    case hav => exact .inr ⟨b, rfl⟩
    case hret =>
      intro created newvs rows' nl' nr' ost' h' tk' tl F₂ N₂ hC hE er I₂
      walk_at "GO"
      rw [hk_map] at F₂
      refine hret created newvs rows' nl' nr' ost' h' tk' tl F₂ (cb_drop N₂ ?_) (fun p hp => ⟨(hC p hp).1, (hC p hp).2.1, (hC p hp).2.2.1, fun q hq => (hC p hp).2.2.2 q (.tail _ hq)⟩) hE er I₂
      intro q hq
      simp only [List.mem_cons, List.mem_append] at hq ⊢
      rcases hq with h | h | h | h | h
      · exact .inl h
      · exact .inr (.inl h)
      · exact .inr (.inr (.inl h))
      · exact .inr (.inr (.inr (.inl h)))
      · exact .inr (.inr (.inr (.inr (.inr h))))
    exact FnAt.of N' (.tail _ (mm _ hR))
theorem anew14 : True := by
  w_top off
  trivial
set_option maxRecDepth 100000 in
set_option maxHeartbeats 0 in
theorem hooks_for {w : World} {p : Program} {loose : List Str} {mean : ExcName → Option Value} {mg mb : Str → Option Value}
    {dp un : Nat} {gd : Option (List Code)} {cn : Str} {a : Addr} {ccd : Value} {outer : List Env} {A₀ : Around} {base h₀ : Heap} {L : Addr} {s : Shared}
    {qA qR : Str} {docA pmA ctvA docR pmR ctvR : Value} {addF codA readF codR cA cW cK cR cS cT lb st rw tr dx pf : Addr} {oA oW oK oR oS oT ocA ocR ost₀ : Obj} {es : List DictEntry} {n nl₀ nr₀ k : Nat} {vsA vsR : Array Value} {tqA tqR : Tok}
    {items₀ rows₀ : Array Value} {created₀ rest : List (Addr × Obj)} {tkk : Tok} {u1 u2 u3 : Option Value} {cv ev : Value} {q₀ qf : QS} {n₀ : Nat}
    {Q : Flow → Shared → Prop} {E : Value → Shared → Prop}
    (B : Below A₀ base outer h₀) (F : Fr h₀ L s.heap (hkMap u1 u2 u3 (hkBase pf lb tr cv ev))) (T : Top p loose mean mg mb h₀) (hdp : dp + 8 < recursionLimit) (hu : un + 64 < cLine)
    (N : News h₀ L s.heap ((lb, W.listOf items₀ nl₀) :: (st, ost₀) :: (rw, W.listOf rows₀ nr₀) :: (created₀ ++ rest)))
    (hlb : ∀ p ∈ rest, p.1 ≠ lb) (hst : ∀ p ∈ rest, p.1 ≠ st) (hrw : ∀ p ∈ rest, p.1 ≠ rw) (hne : @Ne Nat lb st) (hne2 : @Ne Nat lb rw) (hne3 : @Ne Nat st rw) (lost : (st == sysModules) = false)
    (hR : (readF, fnMade (Str.ofString "read") qR (paramsOf readSt) (bodyOf readSt) (scopeOf readSt) [(Str.ofString "state", cS), (Str.ofString "rows", cW), (Str.ofString "add", cA)] docR pmR codR ctvR) ∈ rest)
    (hcdR : (codR, ocR) ∈ rest) (hcdR1 : ocR.data = .fields vsR) (hcdR2 : vsR[1]? = some (.str qR tqR))
    (hA : (addF, fnMade (Str.ofString "add") qA (paramsOf addSt) (bodyOf addSt) (scopeOf addSt) [(Str.ofString "transaction", cT), (Str.ofString "state", cS), (Str.ofString "read", cR), (Str.ofString "kind", cK)] docA pmA codA ctvA) ∈ rest)
    (hcA : (codA, ocA) ∈ rest) (hcA1 : ocA.data = .fields vsA) (hcA2 : vsA[1]? = some (.str qA tqA))
    (hcK : (cK, oK) ∈ rest) (hcK1 : oK.data = .cell (some (.int (k : Nat) tkk))) (hk4 : k < 4)
    (hcR : (cR, oR) ∈ rest) (hcR1 : oR.data = .cell (some (.ref readF)))
    (hcS : (cS, oS) ∈ rest) (hcS1 : oS.data = .cell (some (.ref st)))
    (hcT : (cT, oT) ∈ rest) (hcT1 : oT.data = .cell (some (.ref tr)))
    (hcAd : (cA, oA) ∈ rest) (hcAd1 : oA.data = .cell (some (.ref addF)))
    (hcW : (cW, oW) ∈ rest) (hcW1 : oW.data = .cell (some (.ref rw)))
    (htr : (tr, instObj 546 dx) ∈ rest) (hdx : (dx, dictOf es n) ∈ rest)
    (hkey : getL (hookKey k) es = some (some (.ref lb))) (hadd : getL (addKey k) es = some none)
    (hpf : pf = 415 ∨ ∃ b, (pf, tupObj #[.bool b]) ∈ rest)
    (hC₀ : ∀ p ∈ created₀, @Ne Nat p.1 lb ∧ @Ne Nat p.1 st ∧ @Ne Nat p.1 rw) (hE₀ : EntsAt created₀ readF items₀.toList (q₀.ls.map toS)) (hS₀ : StIs w ost₀ (q₀.ls.length : Nat) (q₀.r : Nat) q₀.o q₀.v) (hN₀ : IntsAre rows₀.toList q₀.ns)
    (hr₀ : q₀.r = 0) (hrun : runQ n₀ q₀ = some qf)
    (hE : PassesOwn (model PySem.Challenge.rw_bi0029_01.row.prog w) (ktrTop dp un gd cn (scopeOf hooksSt) L a ccd [] outer) (envX cn (scopeOf hooksSt) L a ccd []) E)
    (hret : ∀ (created : List (Addr × Obj)) (items rows : Array Value) (nl nr : Nat) (ost : Obj) (h' : Heap) (tk' : Nat) (v1 v2 v3 : Option Value), Fr h₀ L h' (hkMap v1 v2 v3 (hkBase pf lb tr cv ev)) →
      News h₀ L h' ((lb, W.listOf items nl) :: (st, ost) :: (rw, W.listOf rows nr) :: (created ++ rest)) →
      (∀ p ∈ created, @Ne Nat p.1 lb ∧ @Ne Nat p.1 st ∧ @Ne Nat p.1 rw) → EntsAt created readF items.toList (qf.ls.map toS) →
      StIs w ost (qf.ls.length : Nat) (qf.r : Nat) qf.o qf.v → IntsAre rows.toList qf.ns → Q .next { s with heap := h', toks := tk' })
    (X : (hd.heap_39 w.params).In h₀) : wpAny (model PySem.Challenge.rw_bi0029_01.row.prog w) (ktrTop dp un gd cn (scopeOf hooksSt) L a ccd [] outer) (exec hookFor (envX cn (scopeOf hooksSt) L a ccd [])) Q E s := by
  refine' for_grow (fun k i m items nl led => ∃ (q : QS) (rows : Array Value) (nr : Nat) (created : List (Addr × Obj)) (ost : Obj) (v1 v2 v3 : Option Value), m = hkMap v1 v2 v3 (hkBase pf lb tr cv ev) ∧ led = (st, ost) :: (rw, W.listOf rows nr) :: (created ++ rest) ∧ q.r = i ∧ runQ k q = some qf ∧
      EntsAt created readF items.toList (q.ls.map toS) ∧ (∀ p ∈ created, @Ne Nat p.1 lb ∧ @Ne Nat p.1 st ∧ @Ne Nat p.1 rw) ∧ StIs w ost (q.ls.length : Nat) (q.r : Nat) q.o q.v ∧ IntsAre rows.toList q.ns) n₀ ?hh ?F ?N ?he ?hj ?hv ?turn ?done ?hs hE
  case F => exact F
  case N => exact N
  case hh => rfl
  case hs => intro _; rfl
  case he =>
    intro Q' h'
    refine' nameX_L ?F ?v ?_ ?a ?b
    (case b => rfl)
    (case a => rfl)
    (case F => exact F)
    (case v => rfl)
    exact h'
  case hj => exact ⟨q₀, rows₀, nr₀, created₀, ost₀, u1, u2, u3, rfl, rfl, hr₀, hrun, hE₀, hC₀, hS₀, hN₀⟩
  case hv =>
    rintro k i m items nl led v ⟨q, rows, nr, created, ost, v1, v2, v3, rfl, rfl, hr, hrun, hEn, hC, hS, hN⟩ hx
    have hlen := hEn.length
    simp only [Array.length_toList, List.length_map] at hlen
    have hi : i < items.size := by
      rcases Nat.lt_or_ge i items.size with h | h
      · exact h
      · rw [Array.getElem?_eq_none h] at hx; cases hx
    obtain ⟨e, t, d, tx, rfl, _⟩ := hEn.get (j := i) (v := v) (x := (q.ls.map toS)[i]'(by rw [List.length_map]; omega)) (by rw [Array.getElem?_toList]; exact hx) (List.getElem?_eq_getElem _)
    exact ⟨e, rfl⟩
  case done =>
    rintro k i m items nl led h tk ⟨q, rows, nr, created, ost, v1, v2, v3, rfl, rfl, hr, hrun, hEn, hC, hS, hN⟩ hx F' N'
    have hlen := hEn.length
    simp only [Array.length_toList, List.length_map] at hlen
    have hi : items.size ≤ i := by
      rcases Nat.lt_or_ge i items.size with h | h
      · rw [Array.getElem?_eq_getElem h] at hx; cases hx
      · exact h
    have hq : q.ls[q.r]? = none := List.getElem?_eq_none (by omega)
    cases k with
    | zero => cases hrun
    | succ k =>
      rw [runQ, hq] at hrun
      cases hrun
      exact hret created items rows nl nr ost h tk v1 v2 v3 F' N' hC hEn hS hN
  case turn =>
    rintro k i m items nl led v h tk I oI ⟨q, rows, nr, created, ost, v1, v2, v3, rfl, rfl, rfl, hrun, hEn, hC, hS, hN⟩ hx hoff hI F' N'
    have hlen := hEn.length
    simp only [Array.length_toList, List.length_map] at hlen
    have hi : q.r < items.size := by
      rcases Nat.lt_or_ge q.r items.size with h | h
      · exact h
      · rw [Array.getElem?_eq_none h] at hx; cases hx
    have hi' : q.r < q.ls.length := by omega
    obtain ⟨x, hxq⟩ : ∃ x, q.ls[q.r]? = some x := ⟨_, List.getElem?_eq_getElem hi'⟩
    obtain ⟨e, t, d, tx, rfl, he1, he2⟩ := hEn.get (j := q.r) (v := v) (x := toS x) (by rw [Array.getElem?_toList]; exact hx) (by rw [List.getElem?_map, hxq]; rfl)
    cases k with
    | zero => cases hrun
    | succ k =>
      rw [runQ, hxq] at hrun
      dsimp only at hrun
      by_cases hok : q.ok = true
      · rw [if_pos hok] at hrun
        have hnl := hN.length
        simp only [Array.length_toList] at hnl
        have hok' := hok
        simp only [QS.ok, Bool.and_eq_true, Bool.or_eq_true, decide_eq_true_eq] at hok'
        obtain ⟨⟨⟨⟨⟨k1, k2⟩, k3⟩, k4⟩, k5⟩, k6⟩ := hok'
        have N₂ : News h₀ L h ((lb, W.listOf items nl) :: (st, ost) :: (rw, W.listOf rows nr) :: ((I, oI) :: (created ++ rest))) := by
          refine cb_drop N' ?_
          intro p hp
          simp only [List.mem_cons] at hp ⊢
          rcases hp with h | h | h | h | h
          · exact .inr (.inl h)
          · exact .inr (.inr (.inl h))
          · exact .inr (.inr (.inr (.inl h)))
          · exact .inl h
          · exact .inr (.inr (.inr (.inr h)))
        have mr : ∀ p ∈ rest, p ∈ (I, oI) :: (created ++ rest) := fun p hp => .tail _ (List.mem_append_right _ hp)
        have mc : ∀ p ∈ created, p ∈ (I, oI) :: (created ++ rest) := fun p hp => .tail _ (List.mem_append_left _ hp)
        have hIst : st ≠ I := hoff (st, ost) (.head _)
        have hIrw : rw ≠ I := hoff (rw, W.listOf rows nr) (.tail _ (.head _))
        refine' hooks_turn (i := (q.ls.length : Nat)) (r := (q.r : Nat)) (o := q.o) (v := q.v) (x := toS x) (s := { s with heap := h, toks := tk }) B F' T hdp hu N₂ ?g1 ?g2 ?g3 hne hne2 hne3 lost (mr _ hR) (mr _ hcdR) hcdR1 hcdR2 (mr _ hA) (mr _ hcA) hcA1 hcA2 (mr _ hcK) hcK1 hk4 (mr _ hcR) hcR1 (mr _ hcS) hcS1 (mr _ hcT) hcT1 (mr _ hcAd) hcAd1 (mr _ hcW) hcW1 (mr _ htr) (mr _ hdx) hkey hadd ?g4 (mc _ he1) (mc _ he2) ?g5 ?g6 hS ?g7 ?g8 ?g9 ?g10 (toS_abc x) ?hret X
        case g1 =>
          intro p hp
          rcases List.mem_cons.mp hp with rfl | hp
          · exact Ne.symm hI
          · rcases List.mem_append.mp hp with hp | hp
            · exact (hC p hp).1
            · exact hlb p hp
        case g2 =>
          intro p hp
          rcases List.mem_cons.mp hp with rfl | hp
          · exact Ne.symm hIst
          · rcases List.mem_append.mp hp with hp | hp
            · exact (hC p hp).2.1
            · exact hst p hp
        case g3 =>
          intro p hp
          rcases List.mem_cons.mp hp with rfl | hp
          · exact Ne.symm hIrw
          · rcases List.mem_append.mp hp with hp | hp
            · exact (hC p hp).2.2
            · exact hrw p hp
        case g4 =>
          rcases hpf with h | ⟨b, h⟩
          · exact .inl h
          · exact .inr ⟨b, mr _ h⟩
        case g5 => omega
        case g6 => omega
        case g7 => omega
        case g8 => omega
        case g9 => omega
        case g10 => exact k5
        case hret =>
          intro created' newvs rows' nl' nr' ost' h' tk' tl F₂ N₂ hC' hEn' er hS'
          have hl : ((q.ls.length : Nat) : Int) - ((q.r : Nat) : Int) = q.left := rfl
          rw [hl, adds_toS] at hEn'
          rw [hl] at er
          rw [hl, adds_toS, dsum_toS, delta_toS] at hS'
          have hlen' := hEn'.length
          simp only [Array.length_toList, List.length_map] at hlen'
          refine ⟨rfl, k, h', tk', _, items ++ newvs, nl', (st, ost') :: (rw, W.listOf rows' nr') :: ((created' ++ created) ++ rest), Nat.lt_succ_self k, rfl, F₂, ?_, ?_, stepQ x q, rows', nr', created' ++ created, ost', _, _, _, rfl, rfl, rfl, hrun, ?_, ?_, ?_, ?_⟩
          · refine cb_drop N₂ ?_
            intro p hp
            simp only [List.mem_cons, List.mem_append] at hp ⊢
            rcases hp with h | h | h | h | (h | h) | h
            · exact .inr (.inr (.inr (.inr (.inl h))))
            · exact .inr (.inl h)
            · exact .inr (.inr (.inl h))
            · exact .inr (.inr (.inr (.inl h)))
            · exact .inl h
            · exact .inr (.inr (.inr (.inr (.inr (.inl h)))))
            · exact .inr (.inr (.inr (.inr (.inr (.inr h)))))
          · intro p hp
            simp only [List.mem_cons, List.mem_append] at hp
            rcases hp with rfl | rfl | (h | h) | h
            · exact hIst
            · exact hIrw
            · exact fun e => absurd ((hC' p h).2.2.2 (I, oI) (.head _)) (e ▸ Nat.lt_irrefl _)
            · exact hoff p (.tail _ (.tail _ (List.mem_append_left _ h)))
            · exact hoff p (.tail _ (.tail _ (List.mem_append_right _ h)))
          · rw [Array.toList_append]
            show EntsAt _ _ _ ((q.ls ++ addsN x q.v q.left).map toS)
            rw [List.map_append]
            exact EntsAt.append (hEn.mono fun p hp => List.mem_append_right _ hp) (hEn'.mono fun p hp => List.mem_append_left _ hp)
          · intro p hp
            rcases List.mem_append.mp hp with hp | hp
            · exact ⟨(hC' p hp).1, (hC' p hp).2.1, (hC' p hp).2.2.1⟩
            · exact hC p hp
          · have e1 : (((stepQ x q).ls.length : Nat) : Int) = (q.ls.length : Nat) + (newvs.size : Nat) := by
              show (((q.ls ++ addsN x q.v q.left).length : Nat) : Int) = _
              rw [List.length_append]; omega
            rw [e1]
            exact hS'
          · show IntsAre rows'.toList (if q.v = 0 ∧ q.o = 0 then q.ns ++ [q.left] else q.ns)
            rw [er]
            by_cases hc : q.v = 0 ∧ q.o = 0
            · rw [if_pos hc, if_pos hc, Array.toList_push]
              exact IntsAre.append hN (.cons _ _ .nil)
            · rw [if_neg hc, if_neg hc]
              exact hN
      · rw [if_neg hok] at hrun
        cases hrun
theorem anew15 : True := by
  w_top off
  trivial
local macro_rules | `(tactic| walk_at "call builtin:len") => `(tactic| (k_here; refine len_list (by k_asm) (by with_reducible assumption) ?_))
local macro_rules | `(tactic| walk_at "subscriptTail Name Name ref int") => `(tactic| (k_here; with_unfolding_all refine item_list (by k_asm) (by with_reducible assumption) (by with_reducible assumption) (by with_reducible assumption) ?_))
set_option maxRecDepth 100000 in
set_option maxHeartbeats 0 in
theorem law_at_tells {w : World} {p : Program} {loose : List Str} {mean : ExcName → Option Value} {mg mb : Str → Option Value} 
  {dp un : Nat} {gd : Option (List Code)} {cn : Str} {cs : Scope} {a : Addr} {ccd : Value} {cl : List (Str × Addr)} {outer : List Env} {A₀ : Around} {base h₀ : Heap} {L : Addr} {m : Str → Option Value} {news : List (Addr × Obj)} {s : Shared} {l : Addr} {vs : List Value} {ns : List Int} {d : Int} {tk tk2 : Tok} {x : Int} (i : Nat) (hx : x = (i : Int))
    {Q E : Value → Shared → Prop}
    (B : Below A₀ base outer h₀) (F : Fr h₀ L s.heap m) (N : News h₀ L s.heap news) (T : Top p loose mean mg mb h₀) (hk : cs.kind = .function) (hl : base.IsList l vs.toArray) (hi : IntsAre vs ns) (hfit : ns.length < 2 ^ 62) (h0 : i < 2 ^ 62) (hdp : dp + 1 < recursionLimit) (hu : un + 8 < cLine)
    (hret : ∀ t h' tk', Fr h₀ L h' m → News h₀ L h' news → Q (.int (ns.getD i d) t) { s with heap := h', toks := tk' }) :
    (hd.heap_39 w.params).In h₀ → wpAny (model PySem.Challenge.rw_bi0029_01.row.prog w) (ktrTop dp un gd cn cs L a ccd cl outer) (call (.ref 836) [.ref l, .int x tk, .int d tk2]) Q E s := by
  k_fill
  intro X
  subst hx
  refine wpAny_call ?_
  k_dflt cell_enter
  have hlen := IntsAre.length hi
  have hsz : ((vs.toArray.size : Nat) : Int) < 2 ^ 63 := by simp only [List.size_toArray]; omega
  have hi0 : (0 : Int) ≤ (i : Int) := Int.natCast_nonneg i
  have hi1 : ((i : Nat) : Int) < 2 ^ 63 := by omega
  iterate 11 walk1
  refine len_list (Fr.lst (by assumption) (by assumption)) hsz ?_
  k_steps
  · have e : ns.getD ((i : Int)).toNat 0 = ns.getD i d := by
      simp only [decide_eq_true_eq, List.size_toArray] at *
      have hlt : i < ns.length := by omega
      simp [hlt]
    exact cell_ret (Q := Q) (s := s) hret e (by assumption) (by assumption)
  · have e : d = ns.getD i d := by
      simp only [decide_eq_true_eq, decide_eq_false_iff_not, List.size_toArray] at *
      have hlt : ns.length ≤ i := by omega
      simp [hlt]
    exact cell_ret (Q := Q) (s := s) hret e (by assumption) (by assumption)
theorem anew16 : True := by
  w_top off
  trivial
section
variable {prog : Program} {w : World} {A : Around} {E : Value → Shared → Prop} {s : Shared} {K : Frag} {x C L f : Addr} {h₀ : Heap} {m : Str → Option Value} {ox : Obj} {od : Option Obj}
def TrueLen (Q : Bool → Shared → Prop) (v : Value) (s' : Shared) : Prop := match v with
  | .int n _ => (0 ≤ n ∧ n < 2 ^ 63) ∧ Q (n != 0) { s' with toks := s'.toks + 1 }
  | _ => False
theorem TrueLen.zero {Q : Bool → Shared → Prop} {t : Tok} {s' : Shared} (h : Q false { s' with toks := s'.toks + 1 }) : TrueLen Q (.int 0 t) s' := ⟨⟨by decide, by decide⟩, h⟩
theorem truthy_KL {Q : Bool → Shared → Prop} (F : Fr h₀ L s.heap m) (X₀ : K.In h₀) (I : InstAt s.heap x ox C od) (hb : findIn K (.ref C) "__bool__" = some none) (hs : findIn K (.ref C) "__len__" = some (some (.ref f))) (hf : isFn K (.ref f) = true)
    (h : wpAny (model prog w) A.in1 (call (.ref f) [.ref x]) (TrueLen Q) E s) : wpAny (model prog w) A (truthy (.ref x)) Q E s := by
  have X := X₀.keeps F.keep
  have key : wpAny (model prog w) A (runValue (.builtin "len" ⟨[.ref x], []⟩)) (fun r s' => ∃ n t, r = .int n t ∧ Q (n != 0) s') E s := by
    refine wpAny_runValue (codeAny_builtin entry_len ?_)
    rw [Around.under_plainId plain_len _]
    unfold Builtin.«len»
    refine wpAny_bind (m := oneArg "len" _) (wpAny_pure ?_)
    refine wpAny_bind (m := callSpecial? (.ref x) (Str.ofString "__len__")) (special_fn X I hs (beq_iff_eq.mp hf) (wpAny_mono h (fun r s' hr => ?_) fun _ _ y => y))
    cases r <;> first | exact hr.elim | skip
    rename_i n u
    obtain ⟨⟨h0, h1⟩, hq⟩ := hr
    refine wpAny_bind (wpAny_holding (wpAny_pure ?_))
    refine wpAny_bind (wpAny_letGo ?_)
    show wpAny _ _ (if n < 0 then _ else _) _ _ _
    rw [if_neg (by omega)]
    show wpAny _ _ (if n ≥ 2 ^ 63 then _ else _) _ _ _
    rw [if_neg (by omega)]
    exact wpAny_bind (wpAny_mkInt (wpAny_pure ⟨_, _, rfl, hq⟩))
  unfold truthy
  refine wpAny_bind (m := callSpecial? (.ref x) (Str.ofString "__bool__")) (wpAny_bind (wpAny_bind (I.type.here ((looks_findIn X hb).here (wpAny_pure ?_)))))
  refine wpAny_bind (wpAny_bind (I.type.here ((looks_findIn X hs).here ?_)))
  refine wpAny_bind (wpAny_mono key (fun r s' h' => ?_) fun _ _ e => e)
  obtain ⟨n, t, rfl, hq⟩ := h'
  exact wpAny_pure hq
end
theorem is_str_ne {M : Model} {A : Around} {E : Value → Shared → Prop} {s : Shared} {y z : Str} {u v : Tok} {Q : Value → Shared → Prop} (h0 : (u == 0 || v == 0) = false) (huv : (u == v) = false) (hyz : (y == z) = false) (h : Q (.bool false) s) :
    wpAny M A (compareOp .Is (.str y u) (.str z v)) Q E s := by
  show wpAny M A (isSame (.str y u) (.str z v) >>= fun b => pure (.bool b)) Q E s
  rw [isSame_str_other y z u v h0 huv hyz]
  exact wpAny_bind (wpAny_pure (wpAny_pure h))
theorem truthy_items {prog : Program} {w : World} {A : Around} {E : Value → Shared → Prop} {s : Shared} {h₀ : Heap} {L a : Addr} {news : List (Addr × Obj)} {items : Array Value} {nl : Nat} {Q : Bool → Shared → Prop}
    (N : News h₀ L s.heap news) (hm : (a, W.listOf items nl) ∈ news) (h0 : 0 < items.size) (hfit : items.size < 2 ^ 62) (h : Q true { s with toks := s.toks + 1 + 1 }) : wpAny (model prog w) A (truthy (.ref a)) Q E s :=
  wpAny_truthy_list (items := items) ⟨_, (N _ hm).1, rfl, _, rfl⟩ (by omega) (by
    have e : (!items.isEmpty) = true := by
      simp only [Array.isEmpty, Bool.not_eq_true', decide_eq_false_iff_not]
      omega
    rw [e]; exact h)
theorem anew17 : True := by
  w_top off
  trivial
theorem sel_all (items : Array Value) (g : Value × Nat → Option Value) (h : ∀ x k, k < items.size → g (x, k) = none) : (items.toList.zipIdx.filterMap g).toArray = #[] := by
  have e : items.toList.zipIdx.filterMap g = [] := by
    rw [List.filterMap_eq_nil_iff]
    rintro ⟨x, k⟩ hp
    have := List.snd_lt_of_mem_zipIdx hp
    simp only [Array.length_toList] at this
    exact h x k (by omega)
  rw [e]
section
variable {prog : Program} {w : World} {A : Around} {E : Value → Shared → Prop} {s : Shared}
theorem delItem_all {l sl : Addr} {items : Array Value} {n : Nat} {Q : Unit → Shared → Prop} (hl : s.heap.get? l = some (W.listOf items n)) (hs : s.heap.IsSliceOf sl .none .none .none) (hz : items.size ≤ sizeLine)
    (h : ∀ h' n', h'.get? l = some (W.listOf #[] n') → Heap.SameBut l s.heap h' → Q () { s with heap := h' }) : wpAny (model prog w) A (delItem (.ref l) (.ref sl)) Q E s := by
  have hL : s.heap.IsList l items := ⟨_, hl, rfl, _, rfl⟩
  obtain ⟨os, hos, hcs, hds⟩ := id hs
  have hTs : s.TypeIs (.ref sl) "slice" := ⟨os, hos, hcs⟩
  refine wpAny_delItem_slot hL.typeIs (by decide) F.slot_list_delitem (wpAny_call_entry F.slot_list_delitem hL.typeIs F.entry_list_delitem ?_ (F.args_list_delitem_2 _ _))
  show wpAny _ _ (Builtin.List.listSubscript? (.ref sl) >>= _) _ _ s
  refine wpAny_bind ?_
  unfold Builtin.List.listSubscript?
  refine wpAny_bind (wpAny_specialOf hTs slice_no_index ?_)
  simp only [Option.isNone_none, if_true]
  refine wpAny_pure ?_
  show wpAny _ _ (typeOf (.ref sl) >>= _) _ _ s
  refine wpAny_bind (wpAny_typeOf hTs ?_)
  rw [if_neg (by decide)]
  rw [listSliceParts_eq]
  refine wpAny_bind (wpAny_bind (wpAny_field hos hds (x := .none) rfl (wpAny_bind (wpAny_listPart .none ?_))))
  rw [if_neg (show ¬ ((rawPart none == rawInt 0) = true) from Bool.false_ne_true)]
  refine wpAny_bind (wpAny_field hos hds (x := .none) rfl (wpAny_bind (wpAny_listPart .none ?_)))
  refine wpAny_bind (wpAny_field hos hds (x := .none) rfl (wpAny_bind (wpAny_listPart .none (wpAny_pure ?_))))
  refine wpAny_bind (m := Builtin.List.listItems (.ref l)) ?_
  unfold Builtin.List.listItems
  refine wpAny_bind (wpAny_seqItems hl rfl (wpAny_pure ?_))
  refine wpAny_bind (wpAny_of_eq (sliceIndices_raw none none none items.size (by simp)) ?_)
  refine wpAny_bind (wpAny_rule ?_)
  have sel : ∀ g : Value × Nat → Option Value, (∀ x k, k < items.size → g (x, k) = none) → ((items.toList.zipIdx.filterMap g).toArray).size ≤ sizeLine + 1 := by
    intro g hg
    rw [sel_all items g hg]
    exact Nat.zero_le _
  refine wpAny_bind (wpAny_updateSeq hl rfl (wpAny_bind (wpAny_letGo (wpAny_pure ⟨_, rfl, h _ _ ((IsL.update (n := n) hl _).trans (congrArg (fun z => some (W.listOf z _)) (sel_all items _ ?_))) (Heap.SameBut.update ..)⟩))) hz (sel _ ?_))
  all_goals
    intro x k hk
    refine if_pos ?_
    show (if (_ : Int) > 0 then (decide (_ ≤ ((k : Nat) : Int)) && decide (((k : Nat) : Int) < _) && (_ % _ == (0 : Int))) else _) = true
    simp [sliceBounds]
    omega
end
section
variable {prog : Program} {w : World} {A : Around} {E : Value → Shared → Prop} {s : Shared} {h₀ h : Heap} {L l : Addr} {m : Str → Option Value} {news : List (Addr × Obj)} {g : Obj → List (Addr × Obj)} {items : Array Value} {n : Nat}
theorem delAll_K {Q : Unit → Shared → Prop} (F : Fr h₀ L h m) (N : News h₀ L h news) (U : UpdF l (W.listOf items n) news g) (hz : items.size ≤ sizeLine)
    (e : s.heap = h.push { cls := .type "slice", data := .fields #[.none, .none, .none] })
    (k : ∀ h' n', Fr h₀ L h' m → News h₀ L h' (g (W.listOf #[] n')) → Q () { s with heap := h' }) : wpAny (model prog w) A (delItem (.ref l) (.ref h.objs.size)) Q E s := by
  have F₁ : Fr h₀ L s.heap m := e ▸ F.push _
  have N₁ : News h₀ L s.heap news := fun p hp => ⟨e ▸ Heap.get?_push_of_some _ (N p hp).1, (N p hp).2⟩
  obtain ⟨own, rest, rfl, hg, h1, h2⟩ := U.split
  have hmem := N₁ (l, W.listOf items n) (List.mem_append_right _ (.head _))
  refine delItem_all hmem.1 ⟨_, e ▸ Heap.get?_push_size _ rfl, rfl, rfl⟩ hz fun h' n' ho' hs => ?_
  refine k h' n' ⟨F₁.ns.sameBut hs (Ne.symm hmem.2.1), fun b ob e => (hs.2 b (fun q => ?_)).trans (F₁.keep b ob e), F₁.above⟩ (hg _ ▸ N₁.setAt h1 h2 hs ho')
  rw [q, hmem.2.2] at e; cases e
end
def Above (a : Nat) (l : List (Addr × Obj)) : Prop := ∀ p ∈ l, @LT.lt Nat _ a p.1
theorem Above.ne {a b : Nat} {l : List (Addr × Obj)} (h : Above a l) (hb : b ≤ a) : ∀ p ∈ l, p.1 ≠ b := fun p hp e => by
  have := h p hp
  rw [e] at this
  exact absurd this (Nat.not_lt.mpr hb)
theorem anew18 : True := by
  w_top off
  trivial
section
variable {prog : Program} {w : World} {A : Around} {E : Value → Shared → Prop} {s : Shared} {h₀ : Heap} {L : Addr} {m : Str → Option Value} {news : List (Addr × Obj)}
theorem sort_none {D q : Addr} {n : Nat} {Q : Value → Shared → Prop} (F : Fr h₀ L s.heap m) (N : News h₀ L s.heap ((D, W.listOf #[] n) :: news)) (hD : ∀ p ∈ news, p.1 ≠ D)
    (h : ∀ h' tk n', Fr h₀ L h' m → News h₀ L h' ((D, W.listOf #[] n') :: news) → Q .none { s with heap := h', toks := tk }) :
    wpAny (model prog w) A (call (.builtin "list.sort") [.ref D] [(Str.ofString "key", .ref q)]) Q E s := by
  have m1 := N _ (.head _)
  refine wpAny_call_entry_kw slot_list_sort ⟨_, m1.1, rfl⟩ entry_list_sort ?_ (ksk_l1 _ _)
  rw [ksk_t1]
  refine ksk_sort (vs := []) (kz := []) (b := false) F (fun p hp => N p (.tail _ hp)) m1.1 m1.2.1 m1.2.2 hD rfl (by decide) (fun i v k hv => by simp at hv) fun h' tk out c F' N' k' => ⟨_, rfl, ?_⟩
  obtain ⟨ps, hp, ho, _⟩ := k'
  have e1 : ps = [] := List.perm_nil.mp hp
  subst e1
  have e2 : out = #[] := by
    apply Array.ext'
    exact ho
  subst e2
  exact h h' tk c F' N'
end
theorem callWith_kw0 {M : Model} {A : Around} {E : Value → Shared → Prop} {s : Shared} {env : Env} {pos : Pos} {id : String} {first : List Value} {kws : List Keyword} {Q : Value → Shared → Prop}
    (h : wpAny M A (evalAll ((backToKw pos (keywordEach kws env)).map (·.2))) (fun kvs s₂ => wpAny M A (call (.builtin id) first (((backToKw pos (keywordEach kws env)).filterMap (·.1)).zip kvs)) Q E s₂) E s)
    (hall : (backToKw pos (keywordEach kws env)).all (·.1.isSome) = true := by rfl) (hkw : (backToKw pos (keywordEach kws env)).any (·.1.isNone) = false := by rfl) :
    wpAny M A (callWith pos (.builtin id) first (backTo pos (starEach [] env)) (backToKw pos (keywordEach kws env))) Q E s :=
  callWith_builtin_kwB rfl hkw (evalArgs_kw_nil hall (wpAny_mono h (fun kvs s' h' => by
    show wpAny _ _ (call _ (first ++ []) _) _ _ _
    rw [List.append_nil]
    exact h') fun _ _ e => e))
local macro_rules | `(tactic| walk_at "truthy ref") => `(tactic| (k_here; (with_reducible show wpAny _ _ (truthy (Value.ref _)) _ _ _); k_dflt (refine' truthy_KL ?k1 ?k2 ?k3 ?k4 ?k5 ?k6 ?_; (case k1 => k_asm); (case k2 => k_asm); (case k3 => k_inst); (case k4 => k_is); (case k5 => k_is); (case k6 => k_is); k_whole)))
local macro_rules | `(tactic| walk_at "TrueLen") => `(tactic| (refine TrueLen.zero ?_))
local macro_rules | `(tactic| walk_at "compareOp Is str str") => `(tactic| (refine is_str_ne (by decide) (by decide) (by decide +kernel) ?_))
local macro_rules | `(tactic| walk_at "truthy ref") => `(tactic| (k_here; (with_reducible show wpAny _ _ (truthy (Value.ref _)) _ _ _); k_dflt (refine' truthy_items ?k1 ?k2 ?k3 ?k4 ?_; (case k1 => k_asm); (case k2 => k_mem); (case k3 => with_reducible assumption); (case k4 => with_reducible assumption); k_whole)))
theorem anew20 : True := by
  w_top off
  trivial
theorem range_small {n : Nat} (h : n ≤ 8) : Builtin.Range.small 0 (n : Int) 1 = true ∧ Builtin.Range.rangeSize 0 (n : Int) 1 = (n : Int) := by
  rcases (by omega : n = 0 ∨ n = 1 ∨ n = 2 ∨ n = 3 ∨ n = 4 ∨ n = 5 ∨ n = 6 ∨ n = 7 ∨ n = 8) with rfl | rfl | rfl | rfl | rfl | rfl | rfl | rfl | rfl <;> exact ⟨by decide +kernel, by decide +kernel⟩
set_option maxRecDepth 100000 in
theorem iter_rangeN {prog : Program} {w : World} {A : Around} {E : Value → Shared → Prop} {s : Shared} {env : Env} {h₀ : Heap} {x : Str} {body : List Stmt} {Q : Flow → Shared → Prop}
    {r : Addr} {n : Nat} {t u v : Tok} {m₀ : Str → Option Value} {news : List (Addr × Obj)} (J : Nat → (Str → Option Value) → List (Addr × Obj) → Prop)
    (hh : A.handled = none) (hr : IsRange s.heap r 0 (n : Int) 1 t u v) (hn : n ≤ 8) (F : Fr h₀ env.locals s.heap m₀) (N : News h₀ env.locals s.heap news)
    (hj : J 0 m₀ news)
    (turn : ∀ i u m₁ news₁ (s₁ : Shared) own I, i < n → J i m₁ news₁ → (∀ p ∈ news, @LT.lt Nat _ p.1 I) → (∀ p ∈ own, p.1 = I) → (∃ oI, (I, oI) ∈ own) → (∀ p ∈ news₁, p.1 ≠ I) →
      Fr h₀ env.locals s₁.heap (fun y => if y = x then some u else m₁ y) → News h₀ env.locals s₁.heap (own ++ news₁) →
      wpAny (model prog w) A (execs body env) (Hold fun f s₂ => f = .next ∧ ∃ h' tk' m' news', s₂ = { s₁ with heap := h', toks := tk' } ∧ Fr h₀ env.locals h' m' ∧ News h₀ env.locals h' (own ++ news') ∧ (∀ p ∈ news', p.1 ≠ I) ∧ J (i + 1) m' news') E s₁)
    (done : ∀ m₁ news₁ h tk, J n m₁ news₁ → Fr h₀ env.locals h m₁ → News h₀ env.locals h news₁ → Q .next { s with heap := h, toks := tk }) :
    wpAny (model prog w) A (pyIter (.ref r)) (fun it s₂ => LoopAtU prog w A h₀ env x body Q E it s₂) E s := by
  refine wpAny_pyIter_range hr (range_small hn).1 ?_
  have W := Walks.range (prog := prog) (w := w) hh s.heap.objs.size 0 1 n
  refine ⟨_, _, _, n, _, _, m₀, news, J, rfl, W, ?_, ?_, ?_, ?_, F.push _, (fun p hp => ⟨Heap.get?_push_of_some _ (N p hp).1, (N p hp).2⟩), hj, ?_, ?_⟩
  · intro hm
    exact absurd F.ns.lt ((List.mem_singleton.mp hm) ▸ Nat.lt_irrefl _)
  · intro b hb
    rw [List.mem_singleton.mp hb]
    exact next_is_new F
  · intro p hp hI
    exact absurd (Heap.lt_size (N p hp).1) ((List.mem_singleton.mp hI) ▸ Nat.lt_irrefl _)
  · rw [(range_small hn).2]
    show IsRangeIter _ _ (0 + ((0 : Nat) : Int) * 1) ((n : Int) - ((0 : Nat) : Int)) 1
    have e1 : (0 + ((0 : Nat) : Int) * 1) = 0 := by omega
    have e2 : ((n : Int) - ((0 : Nat) : Int)) = n := by omega
    rw [e1, e2]
    exact Heap.get?_push_size _ rfl
  · rintro i v m₁ news₁ s₁ own hin hP hJ hoff hown _ hall hst F₁ N₁
    obtain ⟨u, rfl⟩ := hP
    refine wpAny_mono (turn i _ m₁ news₁ s₁ own s.heap.objs.size hin hJ (fun p hp => Heap.lt_size (N p hp).1) (fun p hp => List.mem_singleton.mp (hown p hp))
      ⟨_, hall _ (List.mem_singleton.mpr rfl) (next_is_new F) _ hst⟩ (fun p hp e => hoff p hp (List.mem_singleton.mpr e)) F₁ N₁) (fun f s₂ p => ?_) fun _ _ e => e
    obtain ⟨rfl, h', tk'', m', news', rfl, F', N', ho', hj'⟩ := p
    exact ⟨rfl, h', tk'', m', news', rfl, F', N', fun q hq hI => ho' q hq (List.mem_singleton.mp hI), hj'⟩
  · rintro h' tk m' news' F' N' _ hJ
    exact done m' news' h' tk hJ F' N'
theorem anew21 : True := by
  w_top off
  trivial
abbrev ent (w : World) (x : String) (t : Tok) (v : Value) : DictEntry := { hash := PyData.keyHash w.params (Str.ofString x), key := .str (Str.ofString x) t, val := v }
abbrev lawEnv (L fa : Addr) : Env := envOfC (Str.ofString "law") (scopeOf lawSt) L fa (.ref 842)
abbrev lawMap (l mg : Addr) (n0 : Nat) (tn : Tok) : Str → Option Value := fun y => if y = Str.ofString "manager" then some (.ref mg) else if y = Str.ofString "number" then some (.int (n0 : Nat) tn) else if y = Str.ofString "script" then some (.ref l) else none
theorem led_split {h₀ h : Heap} {L : Addr} {x a b c : Addr × Obj} {R created : List (Addr × Obj)} (N : News h₀ L h (x :: a :: b :: c :: (R ++ created))) : News h₀ L h (a :: b :: c :: (created ++ (x :: R))) := by
  refine cb_drop N ?_
  intro p hp
  simp only [List.mem_cons, List.mem_append] at hp ⊢
  rcases hp with h | h | h | h | h | h
  · exact .inr (.inl h)
  · exact .inr (.inr (.inl h))
  · exact .inr (.inr (.inr (.inl h)))
  · exact .inr (.inr (.inr (.inr (.inr h))))
  · exact .inl h
  · exact .inr (.inr (.inr (.inr (.inl h))))
theorem led_back {h₀ h : Heap} {L : Addr} {a b c : Addr × Obj} {R created : List (Addr × Obj)} (N : News h₀ L h (a :: b :: c :: (created ++ R))) : News h₀ L h (a :: b :: c :: R) := by
  refine cb_drop N ?_
  intro p hp
  simp only [List.mem_cons, List.mem_append] at hp ⊢
  rcases hp with h | h | h | h
  · exact .inl h
  · exact .inr (.inl h)
  · exact .inr (.inr (.inl h))
  · exact .inr (.inr (.inr (.inr h)))
theorem hk_start {pf lb tr : Addr} {cv ev : Value} : (fun y => List.lookup y (hkBase pf lb tr cv ev)) = hkMap none none none (hkBase pf lb tr cv ev) := by
  funext y
  unfold hkMap
  by_cases h1 : y = Str.ofString "hook"
  · subst h1; rw [if_pos rfl]; kernel_rfl
  · by_cases h2 : y = Str.ofString "args"
    · subst h2; rw [if_neg h1, if_pos rfl]; kernel_rfl
    · by_cases h3 : y = Str.ofString "kws"
      · subst h3; rw [if_neg h1, if_neg h2, if_pos rfl]; kernel_rfl
      · rw [if_neg h1, if_neg h2, if_neg h3]
theorem led_pf {h₀ h : Heap} {L : Addr} {x a b c : Addr × Obj} {R created : List (Addr × Obj)} (N : News h₀ L h (x :: a :: b :: c :: (created ++ R))) : News h₀ L h (a :: b :: c :: (created ++ (x :: R))) := by
  refine cb_drop N ?_
  intro p hp
  simp only [List.mem_cons, List.mem_append] at hp ⊢
  rcases hp with h | h | h | h | h | h
  · exact .inr (.inl h)
  · exact .inr (.inr (.inl h))
  · exact .inr (.inr (.inr (.inl h)))
  · exact .inr (.inr (.inr (.inr (.inl h))))
  · exact .inl h
  · exact .inr (.inr (.inr (.inr (.inr h))))
theorem led_pf2 {h₀ h : Heap} {L : Addr} {x a b c : Addr × Obj} {R : List (Addr × Obj)} (N : News h₀ L h (a :: b :: c :: x :: R)) : News h₀ L h (a :: b :: c :: R) := by
  refine cb_drop N ?_
  intro p hp
  simp only [List.mem_cons] at hp ⊢
  rcases hp with h | h | h | h
  · exact .inl h
  · exact .inr (.inl h)
  · exact .inr (.inr (.inl h))
  · exact .inr (.inr (.inr (.inr h)))
theorem aboveR {R c r : List (Addr × Obj)} {rw x : Nat} (h : R = c ++ r) (hc : Above rw c) (hx : x ≤ rw) (hr : ∀ p ∈ r, p.1 ≠ x) : ∀ p ∈ R, p.1 ≠ x := fun p hp => by
  rw [h] at hp
  rcases List.mem_append.mp hp with q | q
  · exact hc.ne hx p q
  · exact hr p q
theorem anew22 : True := by
  w_top off
  trivial
set_option maxRecDepth 100000 in
set_option maxHeartbeats 0 in
theorem law_loop {w : World} {p : Program} {loose : List Str} {mean : ExcName → Option Value} {mg' mb' : Str → Option Value} {base : Heap} {L fa l : Addr} {s : Shared} {o1 oK oR oS oT ocA ost : Obj}
    {addF codA readF cK cR cS cT lb st tr dx mg : Addr} {es : List DictEntry} {n k n0 : Nat} {tn tkk : Tok} {qA : Str} {docA pmA ctvA : Value} {vsA : Array Value} {tqA : Tok} {rest : List (Addr × Obj)}
    {Q : Flow → Shared → Prop} {E : Value → Shared → Prop}
    (hE : PassesOwn (model PySem.Challenge.rw_bi0029_01.row.prog w) (callerA.deeper (lawEnv L fa)) (lawEnv L fa) E)
    (B : Below callerA base [] base) (T : Top p loose mean mg' mb' base) (F : Fr base L s.heap (lawMap l mg n0 tn))
    (N : News base L s.heap ((lb, W.listOf #[] 0) :: (st, ost) :: rest))
    (hlb : ∀ p ∈ rest, p.1 ≠ lb) (hst : ∀ p ∈ rest, p.1 ≠ st) (hne : @Ne Nat lb st) (lost : (st == sysModules) = false)
    (hA : (addF, fnMade (Str.ofString "add") qA (paramsOf addSt) (bodyOf addSt) (scopeOf addSt) [(Str.ofString "transaction", cT), (Str.ofString "state", cS), (Str.ofString "read", cR), (Str.ofString "kind", cK)] docA pmA codA ctvA) ∈ rest)
    (hcA : (codA, ocA) ∈ rest) (hcA1 : ocA.data = .fields vsA) (hcA2 : vsA[1]? = some (.str qA tqA))
    (hcK : (cK, oK) ∈ rest) (hcK1 : oK.data = .cell (some (.int (k : Nat) tkk))) (hk4 : k < 4)
    (hcR : (cR, oR) ∈ rest) (hcR1 : oR.data = .cell (some (.ref readF)))
    (hcS : (cS, oS) ∈ rest) (hcS1 : oS.data = .cell (some (.ref st)))
    (hcT : (cT, oT) ∈ rest) (hcT1 : oT.data = .cell (some (.ref tr)))
    (hcAd : (L + 1, o1) ∈ rest) (hcAd1 : o1.data = .cell (some (.ref addF)))
    (htr : (tr, instObj 546 dx) ∈ rest) (hdx : (dx, dictOf es n) ∈ rest)
    (hkey : getL (hookKey k) es = some (some (.ref lb))) (hadd : getL (addKey k) es = some none)
    (hn2 : n0 ≤ 8) (hS : StIs w ost 0 0 0 0)
    (hret : ∀ (created : List (Addr × Obj)) (items : Array Value) (nl : Nat) (ost' : Obj) (h' : Heap) (tk' : Nat) (uk : Option Value), Fr base L h' (fun y => if y = Str.ofString "k" then uk else lawMap l mg n0 tn y) →
      News base L h' (created ++ (lb, W.listOf items nl) :: (st, ost') :: rest) → (∀ p ∈ created, @LT.lt Nat _ lb p.1 ∧ @LT.lt Nat _ st p.1 ∧ ∀ q ∈ rest, @LT.lt Nat _ q.1 p.1) →
      EntsAt created readF items.toList ((List.replicate n0 0).map toS) → StIs w ost' (n0 : Nat) 0 0 0 → Q .next { s with heap := h', toks := tk' }) :
    (hd.heap_39 w.params).In base → wpAny (model PySem.Challenge.rw_bi0029_01.row.prog w) (callerA.deeper (lawEnv L fa)) (exec (nthSt (bodyOf lawSt) 8) (lawEnv L fa)) Q E s := by
  k_fill
  intro X
  generalize hsc : scopeOf lawSt = sc at *
  conv at hsc => lhs; whnf
  generalize hbo : nthSt (bodyOf lawSt) 8 = bo at *
  conv at hbo => lhs; whnf
  subst hsc hbo
  refine' For_invU base ?hx ?hp ?h ?hs hE
  case hx => rfl
  case hp => rfl
  case hs => intro _; rfl
  iterate 7 walk_at "S1"
  refine' iter_rangeN (fun i m₁ news₁ => (∀ y, y ≠ Str.ofString "k" → m₁ y = lawMap l mg n0 tn y) ∧ ∃ (created : List (Addr × Obj)) (items : Array Value) (nl : Nat) (ost' : Obj), news₁ = created ++ (lb, W.listOf items nl) :: (st, ost') :: rest ∧ items.size = i ∧
    EntsAt created readF items.toList ((List.replicate i 0).map toS) ∧ (∀ p ∈ created, @LT.lt Nat _ lb p.1 ∧ @LT.lt Nat _ st p.1 ∧ ∀ q ∈ rest, @LT.lt Nat _ q.1 p.1) ∧ StIs w ost' (i : Nat) 0 0 0) ?hh ?hr hn2 ?F ?N ?hj ?turn ?done
  case F => assumption
  case N => assumption
  case hh => rfl
  case hr => assumption
  case hj => exact ⟨fun y _ => rfl, [], #[], 0, ost, rfl, rfl, trivial, (fun p hp => by cases hp), hS⟩
  case turn =>
    rintro i u m₁ news₁ s₁ own I hi ⟨hm, created, items, nl, ost', rfl, hsz, hEn, hC, hI⟩ hlt hown ⟨oI, hoI⟩ hoff F₁ N₁
    have e : (fun y => if y = Str.ofString "k" then some u else m₁ y) = fun y => if y = Str.ofString "k" then some u else lawMap l mg n0 tn y := by
      funext y
      by_cases hy : y = Str.ofString "k"
      · rw [if_pos hy, if_pos hy]
      · rw [if_neg hy, if_neg hy, hm y hy]
    rw [e] at F₁
    obtain ⟨pre, hpre⟩ : ∃ pre, pre = own ++ created := ⟨_, rfl⟩
    rw [← List.append_assoc, ← hpre] at N₁
    have mm : ∀ q ∈ rest, q ∈ pre ++ (lb, W.listOf items nl) :: (st, ost') :: rest := fun q hq => List.mem_append_right _ (.tail _ (.tail _ hq))
    have mAd := mm _ hcAd
    have mA := mm _ hA
    have gl : ∀ p ∈ pre, p.1 ≠ lb := by
      intro p hp
      rw [hpre] at hp
      rcases List.mem_append.mp hp with h1 | h1
      · rw [hown p h1]; exact Ne.symm (Nat.ne_of_lt (hlt _ (.head _)))
      · exact Ne.symm (Nat.ne_of_lt (hC p h1).1)
    have gs : ∀ p ∈ pre, p.1 ≠ st := by
      intro p hp
      rw [hpre] at hp
      rcases List.mem_append.mp hp with h1 | h1
      · rw [hown p h1]; exact Ne.symm (Nat.ne_of_lt (hlt _ (.tail _ (.head _))))
      · exact Ne.symm (Nat.ne_of_lt (hC p h1).2.1)
    iterate 12 (first | (with_reducible show wpAny _ _ (call _ _) _ _ _) | walk_at "S1")
    rotate_left
    · exact FnAt.of N₁ mA
    refine' add_tellsP (rest := rest) pre ?B ?F ?T ?hk ?hdp ?hu ?N gl gs hlb hst hne lost hA hcA hcA1 hcA2 hcK hcK1 hk4 hcR hcR1 hcS hcS1 hcT hcT1 htr hdx hkey hadd ?hsz hI ?hi ?ho ?X ?hret
    case B => k_asm
    case F => k_asm
    case T => k_asm
    case hk => exact rfl
    case hdp => k_dflt ktr_room
    case hu => k_dflt ktr_units
    case N => k_asm
    case X => k_asm
    case hsz => omega
    case hi => omega
    case ho => omega
    case hret =>
      intro e' d t od ost'' h' tk' F₄ N₄ lt1 lt2 lt3 I₄
      have lpre := lt1.2.2.1
      rw [hpre] at lpre
      have ltI : @LT.lt Nat _ I t := allLt_mem (allLt_app lpre).1 hoI
      have ltlb : @LT.lt Nat _ lb t := lt1.1
      have ltst : @LT.lt Nat _ st t := lt1.2.1
      have ltre : ∀ q ∈ rest, @LT.lt Nat _ q.1 t := fun q hq => allLt_mem lt1.2.2.2 hq
      walk_at "GO"
      have hd0 : delta (Str.ofString "a") = 0 := delta_toS 0
      have hI1 : ((i + 1 : Nat) : Int) = (i : Nat) + 1 := by omega
      refine ⟨rfl, h', tk', _, ((e', tupObj #[.ref readF, .ref t, .ref d]) :: (d, od) :: (t, tupObj #[.str (Str.ofString "a") s₁.toks]) :: created) ++ (lb, W.listOf (items.push (.ref e')) (nl + 1)) :: (st, ost'') :: rest, rfl, F₄, ?_, ?_, ?_, _, items.push (.ref e'), nl + 1, ost'', rfl, ?_, ?_, ?_, ?_⟩
      · refine cb_drop N₄ ?_
        intro q hq
        simp only [List.mem_cons, List.mem_append, List.cons_append, hpre] at hq ⊢
        rcases hq with h | h | h | h | h | h
        · exact .inr (.inr (.inr (.inl (.inl h))))
        · exact .inl h
        · exact .inr (.inl h)
        · exact .inr (.inr (.inl h))
        · exact .inr (.inr (.inr (.inl (.inr h))))
        · exact .inr (.inr (.inr (.inr h)))
      · intro q hq
        simp only [List.mem_cons, List.mem_append, List.cons_append] at hq
        rcases hq with rfl | rfl | rfl | h | rfl | rfl | h
        · exact (fun h : @Eq Nat e' I => by omega)
        · exact (fun h : @Eq Nat d I => by omega)
        · exact (fun h : @Eq Nat t I => by omega)
        · exact hoff q (List.mem_append_left _ h)
        · exact hoff (lb, W.listOf items nl) (List.mem_append_right _ (.head _))
        · exact hoff (st, ost') (List.mem_append_right _ (.tail _ (.head _)))
        · exact hoff q (List.mem_append_right _ (.tail _ (.tail _ h)))
      · intro y hy
        exact if_neg hy
      · simp [hsz]
      · rw [Array.toList_push, List.replicate_succ', List.map_append]
        exact EntsAt.append (hEn.mono (fun q hq => .tail _ (.tail _ (.tail _ hq)))) ⟨⟨e', t, d, _, rfl, .head _, .tail _ (.tail _ (.head _))⟩, trivial⟩
      · intro q hq
        simp only [List.mem_cons] at hq
        rcases hq with rfl | rfl | rfl | h
        · exact ⟨by show @LT.lt Nat _ lb e'; omega, by show @LT.lt Nat _ st e'; omega, fun q hq => by have := ltre q hq; show @LT.lt Nat _ q.1 e'; omega⟩
        · exact ⟨by show @LT.lt Nat _ lb d; omega, by show @LT.lt Nat _ st d; omega, fun q hq => by have := ltre q hq; show @LT.lt Nat _ q.1 d; omega⟩
        · exact ⟨ltlb, ltst, ltre⟩
        · exact hC q h
      · rw [hI1]
        rw [hd0] at I₄
        exact I₄
  case done =>
    rintro m₁ news₁ h tk ⟨hm, created, items, nl, ost', rfl, hsz, hEn, hC, hI⟩ F₁ N₁
    refine hret created items nl ost' h tk (m₁ (Str.ofString "k")) ?_ N₁ hC hEn hI
    have e : m₁ = (fun y => if y = Str.ofString "k" then m₁ (Str.ofString "k") else lawMap l mg n0 tn y) := by
      funext y
      by_cases hy : y = Str.ofString "k"
      · rw [if_pos hy, hy]
      · rw [if_neg hy, hm y hy]
    exact e ▸ F₁
local macro_rules | `(tactic| k_all) => `(tactic| (refine Above.ne (by with_reducible assumption) ?_; omega))
local macro_rules | `(tactic| walk_at "delItem ref ref") => `(tactic| (k_here; (with_reducible show wpAny _ _ (delItem (Value.ref _) (Value.ref _)) _ _ _); k_dflt (refine' delAll_K ?k1 ?k2 ?k3 ?k4 ?k5 ?_; (case k5 => rfl); (case k1 => k_asm); (case k2 => k_asm); (case k3 => k_updF); (case k4 => first | (with_reducible assumption) | exact Nat.zero_le _); k_whole); intro h' n' F' N'; (try dsimp only at N'); (try k_sweep)))
local macro_rules | `(tactic| walk_at "callWith builtin:list.sort") => `(tactic| (k_here; k_dflt (refine' callWith_kw0 ?_ ?a ?b; (case a => rfl); (case b => rfl); k_whole)))
local macro_rules | `(tactic| walk_at "call builtin:list.sort") => `(tactic| (k_here; k_dflt (refine' sort_none ?k1 ?k2 ?k3 ?_; (case k1 => k_asm); (case k2 => k_asm); (case k3 => k_all); k_whole); intro h' tk' n' F' N'))
theorem anew24 : True := by
  w_top off
  trivial
theorem iter_none {prog : Program} {w : World} {A : Around} {E : Value → Shared → Prop} {s : Shared} {env : Env} {h₀ : Heap} {x : Str} {body : List Stmt} {Q : Flow → Shared → Prop}
    {l : Addr} {c : Nat} {m₀ : Str → Option Value} {news : List (Addr × Obj)}
    (hh : A.handled = none) (F : Fr h₀ env.locals s.heap m₀) (N : News h₀ env.locals s.heap news) (hm : (l, W.listOf #[] c) ∈ news)
    (done : ∀ h tk, Fr h₀ env.locals h m₀ → News h₀ env.locals h news → Q .next { s with heap := h, toks := tk }) :
    wpAny (model prog w) A (pyIter (.ref l)) (fun it s₂ => LoopAtU prog w A h₀ env x body Q E it s₂) E s := by
  have hls : s.heap.IsList l #[] := ⟨_, (N _ hm).1, rfl, _, rfl⟩
  refine wpAny_pyIter_list hls ?_
  have hlI : l ≠ s.heap.objs.size := Nat.ne_of_lt (Heap.lt_size (N _ hm).1)
  have W := Walks.list (prog := prog) (w := w) hh s.heap.objs.size l hlI #[]
  have N₁ : News h₀ env.locals (s.heap.push { cls := .type "list_iterator", data := .fields #[.ref l, .int 0 0] }) news := fun p hp => ⟨Heap.get?_push_of_some _ (N p hp).1, (N p hp).2⟩
  refine ⟨_, _, _, _, _, _, m₀, news, fun _ m n => m = m₀ ∧ n = news, rfl, W, ?_, ?_, ?_, ⟨⟨_, Heap.get?_push_size _ rfl, rfl, rfl⟩, ⟨_, (N₁ _ hm).1, rfl, _, rfl⟩⟩, F.push _, N₁, ⟨rfl, rfl⟩, ?_, ?_⟩
  · intro hq
    rcases List.mem_cons.mp hq with h | h
    · exact absurd F.ns.lt (h ▸ Nat.lt_irrefl _)
    · exact (N _ hm).2.1 (List.mem_singleton.mp h).symm
  · intro b hb
    rw [List.mem_singleton.mp hb]
    exact next_is_new F
  · intro p hp hI
    exact absurd (Heap.lt_size (N p hp).1) ((List.mem_singleton.mp hI) ▸ Nat.lt_irrefl _)
  · intro i v m₁ news₁ s₁ own hi
    exact absurd hi (Nat.not_lt_zero _)
  · rintro h' tk m' news' F' N' _ ⟨rfl, rfl⟩
    exact done h' tk F' N'
theorem truthy_none {prog : Program} {w : World} {A : Around} {E : Value → Shared → Prop} {s : Shared} {h₀ : Heap} {L a : Addr} {news : List (Addr × Obj)} {nl : Nat} {Q : Bool → Shared → Prop}
    (N : News h₀ L s.heap news) (hm : (a, W.listOf #[] nl) ∈ news) (h : Q false { s with toks := s.toks + 1 + 1 }) : wpAny (model prog w) A (truthy (.ref a)) Q E s :=
  wpAny_truthy_list (items := #[]) ⟨_, (N _ hm).1, rfl, _, rfl⟩ (by decide) h
theorem For_invN {prog : Program} {w : World} {A : Around} {E : Value → Shared → Prop} {Q : Flow → Shared → Prop} {s : Shared} {env : Env} {h₀ : Heap} {m : Str → Option Value} {x : Str} {px pos : Pos} {iter : Expr} {body : List Stmt} (_F : Fr h₀ env.locals s.heap m) (hx : env.kindOf x = some .local)
    (hp : (env.scope.kind == .class || (env.scope.kind == .module && env.locals != env.globals)) = false)
    (h : wpAny (model prog w) A (eval iter env) (fun xv s₁ => wpAny (model prog w) A (pyIter xv) (fun it s₂ => LoopAtU prog w A h₀ env x body Q E it s₂) E s₁) E s)
    (hs : ∀ x, foldedSetIterable iter env x = pure x)
    (hE : PassesOwn (model prog w) A env E) :
    wpAny (model prog w) A (exec (.For (.Name x px) iter body [] pos) env) Q E s := For_invU h₀ hx hp h hs hE
local macro_rules | `(tactic| walk_at "truthy ref") => `(tactic| (k_here; (with_reducible show wpAny _ _ (truthy (Value.ref _)) _ _ _); k_dflt (refine' truthy_none ?k1 ?k2 ?_; (case k1 => k_asm); (case k2 => k_mem); k_whole)))
local macro_rules | `(tactic| walk_at "S1") => `(tactic| ((with_reducible show wpAny _ _ (exec (Stmt.For (Expr.Name _ _) _ _ [] _) _) _ _ _); (refine' For_invN ?k0 ?k1 ?k2 ?k3 ?k4 ?k5); (case k0 => k_asm); (case k1 => rfl); (case k2 => rfl); (case k4 => (intro _; rfl)); (case k5 => passes_own)))
local macro_rules | `(tactic| walk_at "S1") => `(tactic| (k_here; (with_reducible show wpAny _ _ (pyIter (Value.ref _)) _ _ _); k_dflt (refine' iter_none ?k1 ?k2 ?k3 ?k4 ?_; (case k1 => rfl); (case k2 => k_asm); (case k3 => k_asm); (case k4 => k_mem); k_whole); intro h' tk' F' N'; (try dsimp only); (try k_sweep)))
theorem anew26 : True := by
  w_top off
  trivial
section
variable {prog : Program} {w : World} {A : Around} {E : Value → Shared → Prop} {s : Shared} {K : Frag} {x C L : Addr} {ox : Obj} {od : Obj} {h₀ : Heap} {m : Str → Option Value} {news : List (Addr × Obj)} {es : List DictEntry} {n : Nat} {t : Tok}
theorem kind_hasattr : builtinKind "hasattr" = none := by decide +kernel
theorem plain_hasattr : plainId "hasattr" = true := by decide +kernel
theorem entry_hasattr : entryFor table "hasattr" = some Builtin.«hasattr» := entryFor_of_tree (by kernel_rfl)
theorem args_hasattr (a b : Value) : argsOk "hasattr" ⟨[a, b], []⟩ := by unfold argsOk; kernel_rfl
def dataStr : Str := Str.ofString "_data"
theorem findObj_miss (hh : hasDictIn K C = true) (ha : findIn K (.ref C) dataStr = some none) (hl : lookIn dataStr od = some none) : findObj K C (some od) dataStr = some .missing := by
  obtain ⟨cd, hc', hd⟩ := any_some hh
  unfold findObj
  have ho : ownOf cd (some od) dataStr = some none := by unfold PySem.W.ownOf; rw [if_pos hd]; exact hl
  have hcp : copiedNames.contains dataStr = false := by decide +kernel
  rw [hc', Option.bind_some, ha, Option.bind_some]
  simp only [Option.bind_some, ho, hcp, Bool.false_and, Bool.false_eq_true, if_false]
theorem name_fits : (Str.ofString "Transaction").cps.foldl (fun k c => k + (Str.utf8Of c).length) 0 ≤ 100 := by decide +kernel
theorem cut_name {A : Around} {E : Value → Shared → Prop} {s : Shared} {Q : String → Shared → Prop} (X : K.In s.heap) (I : InstAt s.heap x ox C (some od)) (hn : (clsIn K C).map (·.name) = some (Str.ofString "Transaction"))
    (h : Q (Str.ofString "Transaction").toString s) : wpAny (model prog w) A (typeNameOfCut 100 (.ref x)) Q E s := by
  obtain ⟨cd, hcd, hcn⟩ := Option.map_eq_some_iff.mp hn
  have LC := looks_clsIn (M := model prog w) X hcd
  have L0 := I.type (M := model prog w)
  unfold typeNameOfCut shownTypeOf typeNameCut
  refine wpAny_bind (wpAny_bind (L0.here (wpAny_pure ?_)))
  refine wpAny_bind (LC.here ?_)
  rw [hcn, if_pos name_fits]
  exact wpAny_pure h
theorem msg_fits : (((s!"'{(Str.ofString "Transaction").toString}' object has no attribute '" : String) : Str) ++ dataStr ++ Str.ofString "'").length ≤ sizeLine := by
  refine attrMsg_fits (by decide +kernel) (by decide +kernel)
theorem hasattr_no {Q : Value → Shared → Prop} (hA : A.handled = none) (F : Fr h₀ L s.heap m) (X₀ : K.In h₀) (N : News h₀ L s.heap news) (I : InstAt s.heap x ox C (some (dictOf es n))) (hg : plainGet K C dataStr = true) (hh : hasDictIn K C = true) (ha : findIn K (.ref C) dataStr = some none)
    (hm : mroIn K C (.type "module") = some false) (hn : (clsIn K C).map (·.name) = some (Str.ofString "Transaction")) (hl : getL dataStr es = some none)
    (h : ∀ h' tk', Fr h₀ L h' m → News h₀ L h' news → Q (.bool false) { s with heap := h', toks := tk' }) : wpAny (model prog w) A (call (.builtin "hasattr") [.ref x, .str dataStr t]) Q E s := by
  have X := X₀.keeps F.keep
  have hf := findObj_miss (od := dictOf es n) hh ha (by rw [lookIn_dict, hl])
  refine Calls.call_function_entry kind_hasattr plain_hasattr entry_hasattr (args_hasattr _ _) ?_
  unfold Builtin.«hasattr»
  refine wpAny_bind (wpAny_of_eq (a := [.ref x, .str dataStr t]) (by first | rfl | kernel_rfl) ?_)
  dsimp only
  refine wpAny_bind (wpAny_of_eq (a := ()) (by first | rfl | kernel_rfl) ?_)
  rw [if_neg (fun q => by cases (beq_iff_eq.mp q))]
  have L0 := I.type (M := model prog w)
  have L1 := looks_find (M := model prog w) X I hf
  have L2 := looks_findIn (M := model prog w) X (plainGet_of hg).2
  have L3 := looks_findIn (M := model prog w) X (plainGet_of hg).1
  have L4 := looks_mroIn (M := model prog w) X hm
  refine wpAny_bind (L0.here ?_)
  dsimp only
  k_delta "optionalOnAModule"
  dsimp only
  refine wpAny_bind (wpAny_bind (wpAny_of_eq (a := some dataStr) (by first | rfl | kernel_rfl) ?_))
  dsimp only
  unfold isInstance
  refine wpAny_bind (wpAny_bind (L0.here (L4.here ?_)))
  rw [if_pos (show (!false) = true from rfl)]
  refine wpAny_pure ?_
  rw [if_neg (show ¬ (((0 : Nat) == 1) = true) by decide)]
  have fin : wpAny (model prog w) A.in1 (getAttrBy? (.ref x) (.str dataStr t)) (fun r s' => r = none ∧ ∃ h' tk', s' = { s with heap := h', toks := tk' } ∧ Fr h₀ L h' m ∧ News h₀ L h' news) E s := by
    unfold getAttrBy? getAttrBy
    refine wpAny_bind (wpAny_attempt (wpAny_holding (wpAny_bind (L0.here (wpAny_bind (L3.here ?_))))))
    show wpAny _ _ (getAttrEveryday _ _ _) _ _ _
    refine wpAny_bind (wpAny_onRaise (wpAny_runValue (codeAny_builtin PySem.F.plainObj_entry_getattr_hooked ?_)))
    refine wpAny_bind (wpAny_pure (wpAny_bind (L0.here (wpAny_bind (L1.here (wpAny_bind (L2.here ?_)))))))
    show wpAny _ _ (Builtin.ObjectAttr.noSuchAttribute (.ref x) dataStr) _ _ _
    unfold Builtin.ObjectAttr.noSuchAttribute
    refine wpAny_bind (cut_name X I hn ?_)
    refine wpAny_raiseAttrError hA ?_ msg_fits
    intro h' tk' e He
    show wpAny _ _ (pure ()) _ _ _
    refine wpAny_pure ?_
    dsimp only
    have hT : ({ s with heap := h', toks := tk' } : Shared).TypeIs (.ref e) "AttributeError" := by
      obtain ⟨t', u', he⟩ := He.there
      exact ⟨_, he, rfl⟩
    refine wpAny_bind (wpAny_isInstance hT sub_AttributeError ?_)
    rw [if_pos (show true = true from rfl)]
    refine wpAny_pure ⟨rfl, h', tk', rfl, ⟨F.ns.at' fun o e => He.keeps _ o e, fun b o e => He.keeps b o (F.keep b o e), F.above⟩, fun p hp => ⟨He.keeps _ _ (N p hp).1, (N p hp).2⟩⟩
  refine wpAny_bind (wpAny_mono fin (fun r s' h' => ?_) fun _ _ e => e)
  obtain ⟨rfl, h', tk', rfl, F', N'⟩ := h'
  rw [if_neg (show ¬ (((none : Option Value).isNone && (0 : Nat) == 2) = true) by decide)]
  exact wpAny_pure ⟨_, rfl, h h' tk' F' N'⟩
end
local macro_rules | `(tactic| walk_at "call builtin:hasattr") => `(tactic| (k_here; k_dflt (refine' hasattr_no ?k0 ?k1 ?k2 ?k3 ?k4 ?k5 ?k6 ?k7 ?k8 ?k9 ?ka ?_; (case k4 => k_inst); (case k1 => k_asm); (case k2 => k_asm); (case k3 => k_asm); (case k0 => rfl); (case k5 => k_is); (case k6 => k_is); (case k7 => k_is); (case k8 => k_is); (case k9 => first | k_is | kernel_rfl | with_unfolding_all rfl); (case ka => k_get); k_whole); intro h' tk' F' N'; (try dsimp only); (try k_sweep)))
theorem anew28 : True := by
  w_top off
  trivial
set_option maxRecDepth 100000 in
set_option maxHeartbeats 0 in
theorem hook_none0 {w : World} {p : Program} {loose : List Str} {mean : ExcName → Option Value} {mg' mb' : Str → Option Value}
    {dp un : Nat} {gd : Option (List Code)} {cn : Str} {cs : Scope} {a : Addr} {ccd : Value} {cl : List (Str × Addr)} {outer : List Env} {A₀ : Around} {base h₀ : Heap} {L : Addr} {m : Str → Option Value} {s : Shared}
    {tr dx lb : Addr} {es : List DictEntry} {n nl : Nat} {news : List (Addr × Obj)}
    {Q E : Value → Shared → Prop}
    (B : Below A₀ base outer h₀) (F : Fr h₀ L s.heap m) (T : Top p loose mean mg' mb' h₀) (hk : cs.kind = .function) (hdp : dp + 8 < recursionLimit) (hu : un + 64 < cLine)
    (N : News h₀ L s.heap news)
    (htr : (tr, instObj 546 dx) ∈ news) (hdx : (dx, dictOf es n) ∈ news) (hl : (lb, W.listOf #[] nl) ∈ news)
    (hkey : getL (Str.ofString "_before_commit") es = some (some (.ref lb))) (hch : getL (Str.ofString "_call_hooks") es = some none)
    (hret : ∀ (h' : Heap) (tk' : Nat), Fr h₀ L h' m → News h₀ L h' news → Q .none { s with heap := h', toks := tk' }) :
    (hd.heap_39 w.params).In h₀ → wpAny (model PySem.Challenge.rw_bi0029_01.row.prog w) (ktrTop dp un gd cn cs L a ccd cl outer) (call (.ref 390) [.ref tr]) Q E s := by
  k_fill
  intro X
  refine wpAny_call ?_
  k_dflt cell_enter
  walk_at "GO"
  all_goals try (leave1; try dsimp only)
  exact hret _ _ (by assumption) (by first | assumption | exact cb_drop (by assumption) (fun p hp => .tail _ hp) | exact cb_drop (by assumption) (fun p hp => .tail _ (.tail _ hp)))
theorem anew29 : True := by
  w_top off
  trivial
set_option maxRecDepth 100000 in
set_option maxHeartbeats 0 in
theorem hook_none1 {w : World} {p : Program} {loose : List Str} {mean : ExcName → Option Value} {mg' mb' : Str → Option Value}
    {dp un : Nat} {gd : Option (List Code)} {cn : Str} {cs : Scope} {a : Addr} {ccd : Value} {cl : List (Str × Addr)} {outer : List Env} {A₀ : Around} {base h₀ : Heap} {L : Addr} {m : Str → Option Value} {s : Shared}
    {tr dx lb : Addr} {es : List DictEntry} {n nl : Nat} {news : List (Addr × Obj)}
    {Q E : Value → Shared → Prop}
    (B : Below A₀ base outer h₀) (F : Fr h₀ L s.heap m) (T : Top p loose mean mg' mb' h₀) (hk : cs.kind = .function) (hdp : dp + 8 < recursionLimit) (hu : un + 64 < cLine)
    (N : News h₀ L s.heap news)
    (htr : (tr, instObj 546 dx) ∈ news) (hdx : (dx, dictOf es n) ∈ news) (hl : (lb, W.listOf #[] nl) ∈ news)
    (hkey : getL (Str.ofString "_after_commit") es = some (some (.ref lb))) (hch : getL (Str.ofString "_call_hooks") es = some none)
    (hret : ∀ (h' : Heap) (tk' : Nat), Fr h₀ L h' m → News h₀ L h' news → Q .none { s with heap := h', toks := tk' }) :
    (hd.heap_39 w.params).In h₀ → wpAny (model PySem.Challenge.rw_bi0029_01.row.prog w) (ktrTop dp un gd cn cs L a ccd cl outer) (call (.ref 414) [.ref tr] [(Str.ofString "status", .bool true)]) Q E s := by
  k_fill
  intro X
  (refine wpAny_call ?_; k_dflt (refine' code_def ?k1 ?k2 ?k3 ?k4 ?k5 ?kA ?kF ?kK ?k6 ?k7 ?k8 ?k9 ?kB ?_ ?c2 ?c3 ?c4 ?c5; (case kA => exact rfl); (case kF => exact rfl); (case kK => assumption); (case k1 => k_asm); (case k2 => k_asm); (case k3 => k_asm); (case k4 => k_asm); (case k5 => k_asm); (case k6 => k_is); (case k7 => k_is); (case k8 => ktr_room); (case k9 => first | exact BindsTo.of_eq rfl | exact binds_K (by k_in) rfl (by k_is) rfl rfl rfl); (case c5 => decide); (case kB => exact locs rfl); (case c2 => exact rfl); (case c3 => exact rfl); (case c4 => exact rfl); k_whole; intro g' L' h' FG' F' N' B' X' T'; (try dsimp only); (try k_lift B'); (try k_fold)))
  walk_at "GO"
  all_goals try (leave1; try dsimp only)
  exact hret _ _ (by assumption) (by first | assumption | exact cb_drop (by assumption) (fun p hp => .tail _ hp) | exact cb_drop (by assumption) (fun p hp => .tail _ (.tail _ hp)))
theorem anew30 : True := by
  w_top off
  trivial
set_option maxRecDepth 100000 in
set_option maxHeartbeats 0 in
theorem hook_none2 {w : World} {p : Program} {loose : List Str} {mean : ExcName → Option Value} {mg' mb' : Str → Option Value}
    {dp un : Nat} {gd : Option (List Code)} {cn : Str} {cs : Scope} {a : Addr} {ccd : Value} {cl : List (Str × Addr)} {outer : List Env} {A₀ : Around} {base h₀ : Heap} {L : Addr} {m : Str → Option Value} {s : Shared}
    {tr dx lb : Addr} {es : List DictEntry} {n nl : Nat} {news : List (Addr × Obj)}
    {Q E : Value → Shared → Prop}
    (B : Below A₀ base outer h₀) (F : Fr h₀ L s.heap m) (T : Top p loose mean mg' mb' h₀) (hk : cs.kind = .function) (hdp : dp + 8 < recursionLimit) (hu : un + 64 < cLine)
    (N : News h₀ L s.heap news)
    (htr : (tr, instObj 546 dx) ∈ news) (hdx : (dx, dictOf es n) ∈ news) (hl : (lb, W.listOf #[] nl) ∈ news)
    (hkey : getL (Str.ofString "_before_abort") es = some (some (.ref lb))) (hch : getL (Str.ofString "_call_hooks") es = some none)
    (hret : ∀ (h' : Heap) (tk' : Nat), Fr h₀ L h' m → News h₀ L h' news → Q .none { s with heap := h', toks := tk' }) :
    (hd.heap_39 w.params).In h₀ → wpAny (model PySem.Challenge.rw_bi0029_01.row.prog w) (ktrTop dp un gd cn cs L a ccd cl outer) (call (.ref 446) [.ref tr]) Q E s := by
  k_fill
  intro X
  refine wpAny_call ?_
  k_dflt cell_enter
  walk_at "GO"
  all_goals try (leave1; try dsimp only)
  exact hret _ _ (by assumption) (by first | assumption | exact cb_drop (by assumption) (fun p hp => .tail _ hp) | exact cb_drop (by assumption) (fun p hp => .tail _ (.tail _ hp)))
theorem anew31 : True := by
  w_top off
  trivial
set_option maxRecDepth 100000 in
set_option maxHeartbeats 0 in
theorem hook_none3 {w : World} {p : Program} {loose : List Str} {mean : ExcName → Option Value} {mg' mb' : Str → Option Value}
    {dp un : Nat} {gd : Option (List Code)} {cn : Str} {cs : Scope} {a : Addr} {ccd : Value} {cl : List (Str × Addr)} {outer : List Env} {A₀ : Around} {base h₀ : Heap} {L : Addr} {m : Str → Option Value} {s : Shared}
    {tr dx lb : Addr} {es : List DictEntry} {n nl : Nat} {news : List (Addr × Obj)}
    {Q E : Value → Shared → Prop}
    (B : Below A₀ base outer h₀) (F : Fr h₀ L s.heap m) (T : Top p loose mean mg' mb' h₀) (hk : cs.kind = .function) (hdp : dp + 8 < recursionLimit) (hu : un + 64 < cLine)
    (N : News h₀ L s.heap news)
    (htr : (tr, instObj 546 dx) ∈ news) (hdx : (dx, dictOf es n) ∈ news) (hl : (lb, W.listOf #[] nl) ∈ news)
    (hkey : getL (Str.ofString "_after_abort") es = some (some (.ref lb))) (hch : getL (Str.ofString "_call_hooks") es = some none)
    (hret : ∀ (h' : Heap) (tk' : Nat), Fr h₀ L h' m → News h₀ L h' news → Q .none { s with heap := h', toks := tk' }) :
    (hd.heap_39 w.params).In h₀ → wpAny (model PySem.Challenge.rw_bi0029_01.row.prog w) (ktrTop dp un gd cn cs L a ccd cl outer) (call (.ref 469) [.ref tr]) Q E s := by
  k_fill
  intro X
  refine wpAny_call ?_
  k_dflt cell_enter
  walk_at "GO"
  all_goals try (leave1; try dsimp only)
  exact hret _ _ (by assumption) (by first | assumption | exact cb_drop (by assumption) (fun p hp => .tail _ hp) | exact cb_drop (by assumption) (fun p hp => .tail _ (.tail _ hp)))
theorem anew32 : True := by
  w_top off
  trivial
set_option maxRecDepth 100000 in
set_option maxHeartbeats 0 in
theorem res_none {w : World} {p : Program} {loose : List Str} {mean : ExcName → Option Value} {mg' mb' : Str → Option Value}
    {dp un : Nat} {gd : Option (List Code)} {cn : Str} {cs : Scope} {a : Addr} {ccd : Value} {cl : List (Str × Addr)} {outer : List Env} {A₀ : Around} {base h₀ : Heap} {L : Addr} {m : Str → Option Value} {s : Shared}
    {tr dx rl : Addr} {es : List DictEntry} {n nrl : Nat} {news : List (Addr × Obj)}
    {Q E : Value → Shared → Prop}
    (B : Below A₀ base outer h₀) (F : Fr h₀ L s.heap m) (T : Top p loose mean mg' mb' h₀) (hk : cs.kind = .function) (hdp : dp + 8 < recursionLimit) (hu : un + 64 < cLine)
    (N : News h₀ L s.heap news)
    (htr : (tr, instObj 546 dx) ∈ news) (hdx : (dx, dictOf es n) ∈ news) (hl : (rl, W.listOf #[] nrl) ∈ news)
    (hkey : getL (Str.ofString "_resources") es = some (some (.ref rl)))
    (hret : ∀ (h' : Heap) (tk' : Nat), Fr h₀ L h' m → News h₀ L h' news → Q .none { s with heap := h', toks := tk' }) :
    (hd.heap_39 w.params).In h₀ → wpAny (model PySem.Challenge.rw_bi0029_01.row.prog w) (ktrTop dp un gd cn cs L a ccd cl outer) (call (.ref 476) [.ref tr]) Q E s := by
  k_fill
  intro X
  (refine wpAny_call ?_; k_dflt (refine' code_defC ?k1 ?k2 ?k3 ?k4 ?k5 ?kA ?kF ?kK ?k6 ?k7 ?k8 ?k9 ?kB ?kD ?_ ?c2 ?c3 ?c4; (case kA => exact rfl); (case kF => exact rfl); (case kK => assumption); (case k1 => k_asm); (case k2 => k_asm); (case k3 => k_asm); (case k4 => k_asm); (case k5 => k_asm); (case k6 => k_is); (case k7 => k_is); (case k8 => ktr_room); (case k9 => first | exact BindsTo.of_eq rfl | exact binds_K (by k_in) rfl (by k_is) rfl rfl rfl); (case kB => exact rfl); (case kD => decide +kernel); (case c2 => exact rfl); (case c3 => exact rfl); (case c4 => exact rfl); k_whole; intro g' L' h' tk' cells' FG' F' N' Y' B' X' T' l1; (try k_lt l1); k_cells Y'; (try simp only [List.cons_append, List.nil_append] at N'); (try dsimp only); (try k_lift B'); (try k_fold)))
  walk_at "GO"
  all_goals try (leave1; try dsimp only)
  exact hret _ _ (by assumption) (by first | assumption | exact cb_drop (by assumption) (fun p hp => .tail _ hp) | exact cb_drop (by assumption) (fun p hp => .tail _ (.tail _ hp)))
theorem anew33 : True := by
  w_top off
  trivial
set_option maxRecDepth 100000 in
set_option maxHeartbeats 0 in
theorem map_none {w : World} {p : Program} {loose : List Str} {mean : ExcName → Option Value} {mg' mb' : Str → Option Value}
    {dp un : Nat} {gd : Option (List Code)} {cn : Str} {cs : Scope} {a : Addr} {ccd : Value} {cl : List (Str × Addr)} {outer : List Env} {A₀ : Around} {base h₀ : Heap} {L : Addr} {m : Str → Option Value} {s : Shared}
    {sy dsy ly fn : Addr} {es : List DictEntry} {n nly : Nat} {news : List (Addr × Obj)}
    {Q E : Value → Shared → Prop}
    (B : Below A₀ base outer h₀) (F : Fr h₀ L s.heap m) (T : Top p loose mean mg' mb' h₀) (hk : cs.kind = .function) (hdp : dp + 8 < recursionLimit) (hu : un + 64 < cLine)
    (N : News h₀ L s.heap news)
    (hsy : (sy, instObj 167 dsy) ∈ news) (hds : (dsy, dictOf es n) ∈ news) (hly : (ly, W.listOf #[] nly) ∈ news)
    (hkey : getL (Str.ofString "data") es = some (some (.ref ly))) (haw : getL (Str.ofString "as_weakref_list") es = some none)
    (hret : ∀ (h' : Heap) (tk' : Nat), Fr h₀ L h' m → News h₀ L h' news → Q .none { s with heap := h', toks := tk' }) :
    (hd.heap_39 w.params).In h₀ → wpAny (model PySem.Challenge.rw_bi0029_01.row.prog w) (ktrTop dp un gd cn cs L a ccd cl outer) (call (.ref 157) [.ref sy, .ref fn]) Q E s := by
  k_fill
  intro X
  refine wpAny_call ?_
  k_dflt cell_enter
  walk_at "GO"
  all_goals try (leave1; try dsimp only)
  exact hret _ _ (by assumption) (by first | assumption | exact cb_drop (by assumption) (fun p hp => .tail _ hp) | exact cb_drop (by assumption) (fun p hp => .tail _ (.tail _ hp)))
theorem anew34 : True := by
  w_top off
  trivial
set_option maxRecDepth 100000 in
set_option maxHeartbeats 0 in
theorem free_all {w : World} {p : Program} {loose : List Str} {mean : ExcName → Option Value} {mg' mb' : Str → Option Value}
    {dp un : Nat} {gd : Option (List Code)} {cn : Str} {cs : Scope} {a : Addr} {ccd : Value} {cl : List (Str × Addr)} {outer : List Env} {A₀ : Around} {base h₀ : Heap} {L : Addr} {m : Str → Option Value} {s : Shared}
    {tr dx mg dmg sy rl ad vo ex hb ha ab aa : Addr} {n1 n2 n3 n4 n5 : Nat} {sv : Value} {t1 t2 t3 t4 t5 t6 t7 t8 t9 t10 t11 t12 t13 t14 t15 : Tok} {rest : List (Addr × Obj)}
    {Q E : Value → Shared → Prop}
    (B : Below A₀ base outer h₀) (F : Fr h₀ L s.heap m) (T : Top p loose mean mg' mb' h₀) (hk : cs.kind = .function) (hdp : dp + 10 < recursionLimit) (hu : un + 80 < cLine)
    (N : News h₀ L s.heap ((dmg, dictOf [ent w "explicit" t13 (.bool false), ent w "_txn" t14 (.ref tr), ent w "_synchs" t15 (.ref sy)] 3) :: (dx, dictOf [ent w "status" t1 (sv), ent w "_resources" t2 (.ref rl), ent w "_synchronizers" t3 (.ref sy), ent w "_manager" t4 (.ref mg), ent w "_adapters" t5 (.ref ad), ent w "_voted" t6 (.ref vo), ent w "extension" t7 (.ref ex), ent w "_failure_traceback" t8 (.none), ent w "_before_commit" t9 (.ref hb), ent w "_after_commit" t10 (.ref ha), ent w "_before_abort" t11 (.ref ab), ent w "_after_abort" t12 (.ref aa)] 12) :: (rl, W.listOf #[] n1) :: (hb, W.listOf #[] n2) :: (ha, W.listOf #[] n3) :: (ab, W.listOf #[] n4) :: (aa, W.listOf #[] n5) :: rest))
    (hmg : (mg, instObj 818 dmg) ∈ rest) (htr : (tr, instObj 546 dx) ∈ rest) (o0 : @LT.lt Nat _ dmg dx) (o1 : @LT.lt Nat _ dx rl) (o2 : @LT.lt Nat _ rl hb) (o3 : @LT.lt Nat _ hb ha) (o4 : @LT.lt Nat _ ha ab) (o5 : @LT.lt Nat _ ab aa)
    (hdmg : ∀ p ∈ rest, p.1 ≠ dmg) (hdx : ∀ p ∈ rest, p.1 ≠ dx) (hrl : ∀ p ∈ rest, p.1 ≠ rl) (hhb : ∀ p ∈ rest, p.1 ≠ hb) (hha : ∀ p ∈ rest, p.1 ≠ ha) (hab : ∀ p ∈ rest, p.1 ≠ ab) (haa : ∀ p ∈ rest, p.1 ≠ aa)
    (hret : ∀ (h' : Heap) (tk' : Nat) (n1 n2 n3 n4 n5 : Nat), Fr h₀ L h' m → News h₀ L h' ((dmg, dictOf [ent w "explicit" t13 (.bool false), ent w "_txn" t14 (.none), ent w "_synchs" t15 (.ref sy)] 3) :: (dx, dictOf [ent w "status" t1 (sv), ent w "_resources" t2 (.ref rl), ent w "_synchronizers" t3 (.ref 212), ent w "_manager" t4 (.none), ent w "_adapters" t5 (.none), ent w "_voted" t6 (.none), ent w "extension" t7 (.none), ent w "_failure_traceback" t8 (.none), ent w "_before_commit" t9 (.ref hb), ent w "_after_commit" t10 (.ref ha), ent w "_before_abort" t11 (.ref ab), ent w "_after_abort" t12 (.ref aa)] 12) :: (rl, W.listOf #[] n1) :: (hb, W.listOf #[] n2) :: (ha, W.listOf #[] n3) :: (ab, W.listOf #[] n4) :: (aa, W.listOf #[] n5) :: rest) → Q .none { s with heap := h', toks := tk' }) :
    (hd.heap_39 w.params).In h₀ → wpAny (model PySem.Challenge.rw_bi0029_01.row.prog w) (ktrTop dp un gd cn cs L a ccd cl outer) (call (.ref 495) [.ref tr]) Q E s := by
  k_fill
  intro X
  refine wpAny_call ?_
  k_dflt cell_enter
  walk_at "GO"
  all_goals try (leave1; try dsimp only)
  exact hret _ _ _ _ _ _ _ (by assumption) (by assumption)
theorem anew35 : True := by
  w_top off
  trivial
set_option maxRecDepth 100000 in
set_option maxHeartbeats 0 in
theorem free_rest {w : World} {p : Program} {loose : List Str} {mean : ExcName → Option Value} {mg' mb' : Str → Option Value}
    {dp un : Nat} {gd : Option (List Code)} {cn : Str} {cs : Scope} {a : Addr} {ccd : Value} {cl : List (Str × Addr)} {outer : List Env} {A₀ : Around} {base h₀ : Heap} {L : Addr} {m : Str → Option Value} {s : Shared}
    {tr dx mg dmg sy rl ad vo ex hb ha ab aa : Addr} {n1 n2 n3 n4 n5 : Nat} {sv : Value} {t1 t2 t3 t4 t5 t6 t7 t8 t9 t10 t11 t12 t13 t14 t15 : Tok} {rest : List (Addr × Obj)}
    {Q E : Value → Shared → Prop}
    (B : Below A₀ base outer h₀) (F : Fr h₀ L s.heap m) (T : Top p loose mean mg' mb' h₀) (hk : cs.kind = .function) (hdp : dp + 10 < recursionLimit) (hu : un + 80 < cLine)
    (N : News h₀ L s.heap ((dmg, dictOf [ent w "explicit" t13 (.bool false), ent w "_txn" t14 (.none), ent w "_synchs" t15 (.ref sy)] 3) :: (dx, dictOf [ent w "status" t1 (sv), ent w "_resources" t2 (.ref rl), ent w "_synchronizers" t3 (.ref sy), ent w "_manager" t4 (.none), ent w "_adapters" t5 (.ref ad), ent w "_voted" t6 (.ref vo), ent w "extension" t7 (.ref ex), ent w "_failure_traceback" t8 (.none), ent w "_before_commit" t9 (.ref hb), ent w "_after_commit" t10 (.ref ha), ent w "_before_abort" t11 (.ref ab), ent w "_after_abort" t12 (.ref aa)] 12) :: (rl, W.listOf #[] n1) :: (hb, W.listOf #[] n2) :: (ha, W.listOf #[] n3) :: (ab, W.listOf #[] n4) :: (aa, W.listOf #[] n5) :: rest))
    (hmg : (mg, instObj 818 dmg) ∈ rest) (htr : (tr, instObj 546 dx) ∈ rest) (o0 : @LT.lt Nat _ dmg dx) (o1 : @LT.lt Nat _ dx rl) (o2 : @LT.lt Nat _ rl hb) (o3 : @LT.lt Nat _ hb ha) (o4 : @LT.lt Nat _ ha ab) (o5 : @LT.lt Nat _ ab aa)
    (hdmg : ∀ p ∈ rest, p.1 ≠ dmg) (hdx : ∀ p ∈ rest, p.1 ≠ dx) (hrl : ∀ p ∈ rest, p.1 ≠ rl) (hhb : ∀ p ∈ rest, p.1 ≠ hb) (hha : ∀ p ∈ rest, p.1 ≠ ha) (hab : ∀ p ∈ rest, p.1 ≠ ab) (haa : ∀ p ∈ rest, p.1 ≠ aa)
    (hret : ∀ (h' : Heap) (tk' : Nat) (n1 n2 n3 n4 n5 : Nat), Fr h₀ L h' m → News h₀ L h' ((dmg, dictOf [ent w "explicit" t13 (.bool false), ent w "_txn" t14 (.none), ent w "_synchs" t15 (.ref sy)] 3) :: (dx, dictOf [ent w "status" t1 (sv), ent w "_resources" t2 (.ref rl), ent w "_synchronizers" t3 (.ref 212), ent w "_manager" t4 (.none), ent w "_adapters" t5 (.none), ent w "_voted" t6 (.none), ent w "extension" t7 (.none), ent w "_failure_traceback" t8 (.none), ent w "_before_commit" t9 (.ref hb), ent w "_after_commit" t10 (.ref ha), ent w "_before_abort" t11 (.ref ab), ent w "_after_abort" t12 (.ref aa)] 12) :: (rl, W.listOf #[] n1) :: (hb, W.listOf #[] n2) :: (ha, W.listOf #[] n3) :: (ab, W.listOf #[] n4) :: (aa, W.listOf #[] n5) :: rest) → Q .none { s with heap := h', toks := tk' }) :
    (hd.heap_39 w.params).In h₀ → wpAny (model PySem.Challenge.rw_bi0029_01.row.prog w) (ktrTop dp un gd cn cs L a ccd cl outer) (call (.ref 495) [.ref tr]) Q E s := by
  k_fill
  intro X
  refine wpAny_call ?_
  k_dflt cell_enter
  walk_at "GO"
  all_goals try (leave1; try dsimp only)
  exact hret _ _ _ _ _ _ _ (by assumption) (by assumption)
theorem anew36 : True := by
  w_top off
  trivial
set_option maxRecDepth 100000 in
set_option maxHeartbeats 0 in
theorem hook_call0 {w : World} {p : Program} {loose : List Str} {mean : ExcName → Option Value} {mg mb : Str → Option Value}
    {dp un : Nat} {gd : Option (List Code)} {cn : Str} {cs : Scope} {a : Addr} {ccd : Value} {cl : List (Str × Addr)} {outer : List Env} {A₀ : Around} {base h₀ : Heap} {L : Addr} {m : Str → Option Value} {s : Shared}
    {qA qR : Str} {docA pmA ctvA docR pmR ctvR : Value} {addF codA readF codR cA cW cK cR cS cT lb st rw tr dx rl : Addr} {oA oW oK oR oS oT ocA ocR ost₀ : Obj} {es : List DictEntry} {n nl₀ nr₀ nrl k : Nat} {vsA vsR : Array Value} {tqA tqR : Tok}
    {items₀ : Array Value} {created₀ rest : List (Addr × Obj)} {tkk : Tok} {n0 : Nat} {qf : QS}
    {Q E : Value → Shared → Prop}
    (B : Below A₀ base outer h₀) (F : Fr h₀ L s.heap m) (T : Top p loose mean mg mb h₀) (hk : cs.kind = .function) (hkk : k = 0) (hdp : dp + 16 < recursionLimit) (hu : un + 128 < cLine)
    (N : News h₀ L s.heap ((lb, W.listOf items₀ nl₀) :: (st, ost₀) :: (rw, W.listOf #[] nr₀) :: (created₀ ++ rest)))
    (hlb : ∀ p ∈ rest, p.1 ≠ lb) (hst : ∀ p ∈ rest, p.1 ≠ st) (hrw : ∀ p ∈ rest, p.1 ≠ rw) (hne : @Ne Nat lb st) (hne2 : @Ne Nat lb rw) (hne3 : @Ne Nat st rw) (lost : (st == sysModules) = false)
    (hR : (readF, fnMade (Str.ofString "read") qR (paramsOf readSt) (bodyOf readSt) (scopeOf readSt) [(Str.ofString "state", cS), (Str.ofString "rows", cW), (Str.ofString "add", cA)] docR pmR codR ctvR) ∈ rest)
    (hcdR : (codR, ocR) ∈ rest) (hcdR1 : ocR.data = .fields vsR) (hcdR2 : vsR[1]? = some (.str qR tqR))
    (hA : (addF, fnMade (Str.ofString "add") qA (paramsOf addSt) (bodyOf addSt) (scopeOf addSt) [(Str.ofString "transaction", cT), (Str.ofString "state", cS), (Str.ofString "read", cR), (Str.ofString "kind", cK)] docA pmA codA ctvA) ∈ rest)
    (hcA : (codA, ocA) ∈ rest) (hcA1 : ocA.data = .fields vsA) (hcA2 : vsA[1]? = some (.str qA tqA))
    (hcK : (cK, oK) ∈ rest) (hcK1 : oK.data = .cell (some (.int (k : Nat) tkk))) (hk4 : k < 4)
    (hcR : (cR, oR) ∈ rest) (hcR1 : oR.data = .cell (some (.ref readF)))
    (hcS : (cS, oS) ∈ rest) (hcS1 : oS.data = .cell (some (.ref st)))
    (hcT : (cT, oT) ∈ rest) (hcT1 : oT.data = .cell (some (.ref tr)))
    (hcAd : (cA, oA) ∈ rest) (hcAd1 : oA.data = .cell (some (.ref addF)))
    (hcW : (cW, oW) ∈ rest) (hcW1 : oW.data = .cell (some (.ref rw)))
    (htr : (tr, instObj 546 dx) ∈ rest) (hdx : (dx, dictOf es n) ∈ rest)
    (hkey : getL (hookKey k) es = some (some (.ref lb))) (hadd : getL (addKey k) es = some none)
    (hrl : (rl, W.listOf #[] nrl) ∈ rest) (hres : getL (Str.ofString "_resources") es = some (some (.ref rl))) (hch : getL (Str.ofString "_call_hooks") es = some none)
    (hC₀ : ∀ p ∈ created₀, @Ne Nat p.1 lb ∧ @Ne Nat p.1 st ∧ @Ne Nat p.1 rw) (hE₀ : EntsAt created₀ readF items₀.toList ((List.replicate n0 0).map toS)) (hS₀ : StIs w ost₀ (n0 : Nat) 0 0 0)
    (hpos : 0 < items₀.size) (hfit : items₀.size < 2 ^ 62) (hrun : runQ 1000 (startQ n0) = some qf) (hlenr : qf.ls.length = qf.r)
    (hret : ∀ (rows : Array Value) (nl nr : Nat) (ost : Obj) (h' : Heap) (tk' : Nat), Fr h₀ L h' m → News h₀ L h' ((lb, W.listOf #[] nl) :: (st, ost) :: (rw, W.listOf rows nr) :: rest) →
      StIs w ost (qf.ls.length : Nat) (qf.r : Nat) qf.o qf.v → IntsAre rows.toList qf.ns → Q .none { s with heap := h', toks := tk' }) :
    (hd.heap_39 w.params).In h₀ → wpAny (model PySem.Challenge.rw_bi0029_01.row.prog w) (ktrTop dp un gd cn cs L a ccd cl outer) (call (.ref 390) [.ref tr]) Q E s := by
  k_fill
  intro X
  subst hkk
  obtain ⟨R, hRR⟩ : ∃ R, R = created₀ ++ rest := ⟨_, rfl⟩
  rw [← hRR] at N
  have mR : ∀ q ∈ rest, q ∈ R := fun q hq => by rw [hRR]; exact List.mem_append_right _ hq
  dsimp only [hookKey] at hkey
  have htr' := mR _ htr
  have hdx' := mR _ hdx
  have hrl' := mR _ hrl
  refine wpAny_call ?_
  k_dflt cell_enter
  iterate 40 (first | (with_reducible show wpAny _ _ (exec (Stmt.For (Expr.Tuple _ _ _) _ _ _ _) _) _ _ _) | walk_at "S1")
  rename News _ _ _ _ => N9
  rename Fr _ _ _ _ => F9
  rw [hRR] at N9
  have F8 : Fr _ _ _ (fun y => List.lookup y (hkBase 415 lb tr (.bool false) (.bool true))) := F9
  rw [hk_start] at F8
  clear F9
  refine' hooks_for (q₀ := startQ n0) (qf := qf) (n₀ := 1000) (k := 0) ?B F8 ?T ?hdp ?hu N9 hlb hst hrw hne hne2 hne3 lost hR hcdR hcdR1 hcdR2 hA hcA hcA1 hcA2 hcK hcK1 hk4 hcR hcR1 hcS hcS1 hcT hcT1 hcAd hcAd1 hcW hcW1 htr hdx hkey hadd ?hpf hC₀ hE₀ ?hS0 .nil rfl hrun ?hE ?hret ?X
  case B => k_asm
  case T => k_asm
  case X => k_asm
  case hdp => k_dflt ktr_room
  case hu => k_dflt ktr_units
  case hpf => exact .inl rfl
  case hS0 => simpa [startQ] using hS₀
  case hE => passes_own
  case hret =>
    intro created' items' rows' nl' nr' ost' h' tk' v1 v2 v3 F₅ N₅ hC₅ hE₅ hS₅ hI₅
    have N₆ := led_back N₅
    have hzi : items'.size ≤ sizeLine := by
      have h1 := hE₅.length
      simp only [Array.length_toList, List.length_map] at h1
      rw [h1, hlenr, sizeLine_eq]
      exact Nat.le_trans (runQ_r hrun (Nat.zero_le _) (by decide)) (by decide)
    clear N₅ N9 F8 hC₅ hE₅
    walk_at "GO"
    all_goals try (leave1; try dsimp only)
    exact hret rows' _ nr' ost' _ _ (by assumption) (by assumption) hS₅ hI₅
theorem anew37 : True := by
  w_top off
  trivial
set_option maxRecDepth 100000 in
set_option maxHeartbeats 0 in
theorem hook_call1 {w : World} {p : Program} {loose : List Str} {mean : ExcName → Option Value} {mg mb : Str → Option Value}
    {dp un : Nat} {gd : Option (List Code)} {cn : Str} {cs : Scope} {a : Addr} {ccd : Value} {cl : List (Str × Addr)} {outer : List Env} {A₀ : Around} {base h₀ : Heap} {L : Addr} {m : Str → Option Value} {s : Shared}
    {qA qR : Str} {docA pmA ctvA docR pmR ctvR : Value} {addF codA readF codR cA cW cK cR cS cT lb st rw tr dx rl : Addr} {oA oW oK oR oS oT ocA ocR ost₀ : Obj} {es : List DictEntry} {n nl₀ nr₀ nrl k : Nat} {vsA vsR : Array Value} {tqA tqR : Tok}
    {items₀ : Array Value} {created₀ rest : List (Addr × Obj)} {tkk : Tok} {n0 : Nat} {qf : QS}
    {Q E : Value → Shared → Prop}
    (B : Below A₀ base outer h₀) (F : Fr h₀ L s.heap m) (T : Top p loose mean mg mb h₀) (hk : cs.kind = .function) (hkk : k = 1) (hdp : dp + 16 < recursionLimit) (hu : un + 128 < cLine)
    (N : News h₀ L s.heap ((lb, W.listOf items₀ nl₀) :: (st, ost₀) :: (rw, W.listOf #[] nr₀) :: (created₀ ++ rest)))
    (hlb : ∀ p ∈ rest, p.1 ≠ lb) (hst : ∀ p ∈ rest, p.1 ≠ st) (hrw : ∀ p ∈ rest, p.1 ≠ rw) (hne : @Ne Nat lb st) (hne2 : @Ne Nat lb rw) (hne3 : @Ne Nat st rw) (lost : (st == sysModules) = false)
    (hR : (readF, fnMade (Str.ofString "read") qR (paramsOf readSt) (bodyOf readSt) (scopeOf readSt) [(Str.ofString "state", cS), (Str.ofString "rows", cW), (Str.ofString "add", cA)] docR pmR codR ctvR) ∈ rest)
    (hcdR : (codR, ocR) ∈ rest) (hcdR1 : ocR.data = .fields vsR) (hcdR2 : vsR[1]? = some (.str qR tqR))
    (hA : (addF, fnMade (Str.ofString "add") qA (paramsOf addSt) (bodyOf addSt) (scopeOf addSt) [(Str.ofString "transaction", cT), (Str.ofString "state", cS), (Str.ofString "read", cR), (Str.ofString "kind", cK)] docA pmA codA ctvA) ∈ rest)
    (hcA : (codA, ocA) ∈ rest) (hcA1 : ocA.data = .fields vsA) (hcA2 : vsA[1]? = some (.str qA tqA))
    (hcK : (cK, oK) ∈ rest) (hcK1 : oK.data = .cell (some (.int (k : Nat) tkk))) (hk4 : k < 4)
    (hcR : (cR, oR) ∈ rest) (hcR1 : oR.data = .cell (some (.ref readF)))
    (hcS : (cS, oS) ∈ rest) (hcS1 : oS.data = .cell (some (.ref st)))
    (hcT : (cT, oT) ∈ rest) (hcT1 : oT.data = .cell (some (.ref tr)))
    (hcAd : (cA, oA) ∈ rest) (hcAd1 : oA.data = .cell (some (.ref addF)))
    (hcW : (cW, oW) ∈ rest) (hcW1 : oW.data = .cell (some (.ref rw)))
    (htr : (tr, instObj 546 dx) ∈ rest) (hdx : (dx, dictOf es n) ∈ rest)
    (hkey : getL (hookKey k) es = some (some (.ref lb))) (hadd : getL (addKey k) es = some none)
    (hrl : (rl, W.listOf #[] nrl) ∈ rest) (hres : getL (Str.ofString "_resources") es = some (some (.ref rl))) (hch : getL (Str.ofString "_call_hooks") es = some none)
    (hC₀ : ∀ p ∈ created₀, @Ne Nat p.1 lb ∧ @Ne Nat p.1 st ∧ @Ne Nat p.1 rw) (hE₀ : EntsAt created₀ readF items₀.toList ((List.replicate n0 0).map toS)) (hS₀ : StIs w ost₀ (n0 : Nat) 0 0 0)
    (hpos : 0 < items₀.size) (hfit : items₀.size < 2 ^ 62) (hrun : runQ 1000 (startQ n0) = some qf) (hlenr : qf.ls.length = qf.r)
    (hret : ∀ (rows : Array Value) (nl nr : Nat) (ost : Obj) (h' : Heap) (tk' : Nat), Fr h₀ L h' m → News h₀ L h' ((lb, W.listOf #[] nl) :: (st, ost) :: (rw, W.listOf rows nr) :: rest) →
      StIs w ost (qf.ls.length : Nat) (qf.r : Nat) qf.o qf.v → IntsAre rows.toList qf.ns → Q .none { s with heap := h', toks := tk' }) :
    (hd.heap_39 w.params).In h₀ → wpAny (model PySem.Challenge.rw_bi0029_01.row.prog w) (ktrTop dp un gd cn cs L a ccd cl outer) (call (.ref 414) [.ref tr] [(Str.ofString "status", .bool true)]) Q E s := by
  k_fill
  intro X
  subst hkk
  obtain ⟨R, hRR⟩ : ∃ R, R = created₀ ++ rest := ⟨_, rfl⟩
  rw [← hRR] at N
  have mR : ∀ q ∈ rest, q ∈ R := fun q hq => by rw [hRR]; exact List.mem_append_right _ hq
  dsimp only [hookKey] at hkey
  have htr' := mR _ htr
  have hdx' := mR _ hdx
  have hrl' := mR _ hrl
  (refine wpAny_call ?_; k_dflt (refine' code_def ?k1 ?k2 ?k3 ?k4 ?k5 ?kA ?kF ?kK ?k6 ?k7 ?k8 ?k9 ?kB ?_ ?c2 ?c3 ?c4 ?c5; (case kA => exact rfl); (case kF => exact rfl); (case kK => assumption); (case k1 => k_asm); (case k2 => k_asm); (case k3 => k_asm); (case k4 => k_asm); (case k5 => k_asm); (case k6 => k_is); (case k7 => k_is); (case k8 => ktr_room); (case k9 => first | exact BindsTo.of_eq rfl | exact binds_K (by k_in) rfl (by k_is) rfl rfl rfl); (case c5 => decide); (case kB => exact locs rfl); (case c2 => exact rfl); (case c3 => exact rfl); (case c4 => exact rfl); k_whole; intro g' L' h' FG' F' N' B' X' T'; (try dsimp only); (try k_lift B'); (try k_fold)))
  iterate 40 (first | (with_reducible show wpAny _ _ (exec (Stmt.For (Expr.Tuple _ _ _) _ _ _ _) _) _ _ _) | walk_at "S1")
  rename News _ _ _ _ => N9
  rename Fr _ _ _ _ => F9
  rw [hRR] at N9
  have N8 := led_pf N9
  have F8 : Fr _ _ _ (fun y => List.lookup y (hkBase _ lb tr (.bool true) (.bool false))) := F9
  rw [hk_start] at F8
  clear F9
  refine' hooks_for (q₀ := startQ n0) (qf := qf) (n₀ := 1000) (k := 1) ?B F8 ?T ?hdp ?hu N8 (by k_all) (by k_all) (by k_all) hne hne2 hne3 lost (.tail _ hR) (.tail _ hcdR) hcdR1 hcdR2 (.tail _ hA) (.tail _ hcA) hcA1 hcA2 (.tail _ hcK) hcK1 hk4 (.tail _ hcR) hcR1 (.tail _ hcS) hcS1 (.tail _ hcT) hcT1 (.tail _ hcAd) hcAd1 (.tail _ hcW) hcW1 (.tail _ htr) (.tail _ hdx) hkey hadd ?hpf hC₀ hE₀ ?hS0 .nil rfl hrun ?hE ?hret ?X
  case B => k_asm
  case T => k_asm
  case X => k_asm
  case hdp => k_dflt ktr_room
  case hu => k_dflt ktr_units
  case hpf => exact .inr ⟨true, .head _⟩
  case hS0 => simpa [startQ] using hS₀
  case hE => passes_own
  case hret =>
    intro created' items' rows' nl' nr' ost' h' tk' v1 v2 v3 F₅ N₅ hC₅ hE₅ hS₅ hI₅
    have N₆ := led_back N₅
    have hzi : items'.size ≤ sizeLine := by
      have h1 := hE₅.length
      simp only [Array.length_toList, List.length_map] at h1
      rw [h1, hlenr, sizeLine_eq]
      exact Nat.le_trans (runQ_r hrun (Nat.zero_le _) (by decide)) (by decide)
    clear N₅ N9 F8 hC₅ hE₅
    walk_at "GO"
    all_goals try (leave1; try dsimp only)
    exact hret rows' _ nr' ost' _ _ (by assumption) (led_pf2 (by assumption)) hS₅ hI₅
theorem anew38 : True := by
  w_top off
  trivial
set_option maxRecDepth 100000 in
set_option maxHeartbeats 0 in
theorem hook_call2 {w : World} {p : Program} {loose : List Str} {mean : ExcName → Option Value} {mg mb : Str → Option Value}
    {dp un : Nat} {gd : Option (List Code)} {cn : Str} {cs : Scope} {a : Addr} {ccd : Value} {cl : List (Str × Addr)} {outer : List Env} {A₀ : Around} {base h₀ : Heap} {L : Addr} {m : Str → Option Value} {s : Shared}
    {qA qR : Str} {docA pmA ctvA docR pmR ctvR : Value} {addF codA readF codR cA cW cK cR cS cT lb st rw tr dx rl : Addr} {oA oW oK oR oS oT ocA ocR ost₀ : Obj} {es : List DictEntry} {n nl₀ nr₀ nrl k : Nat} {vsA vsR : Array Value} {tqA tqR : Tok}
    {items₀ : Array Value} {created₀ rest : List (Addr × Obj)} {tkk : Tok} {n0 : Nat} {qf : QS}
    {Q E : Value → Shared → Prop}
    (B : Below A₀ base outer h₀) (F : Fr h₀ L s.heap m) (T : Top p loose mean mg mb h₀) (hk : cs.kind = .function) (hkk : k = 2) (hdp : dp + 16 < recursionLimit) (hu : un + 128 < cLine)
    (N : News h₀ L s.heap ((lb, W.listOf items₀ nl₀) :: (st, ost₀) :: (rw, W.listOf #[] nr₀) :: (created₀ ++ rest)))
    (hlb : ∀ p ∈ rest, p.1 ≠ lb) (hst : ∀ p ∈ rest, p.1 ≠ st) (hrw : ∀ p ∈ rest, p.1 ≠ rw) (hne : @Ne Nat lb st) (hne2 : @Ne Nat lb rw) (hne3 : @Ne Nat st rw) (lost : (st == sysModules) = false)
    (hR : (readF, fnMade (Str.ofString "read") qR (paramsOf readSt) (bodyOf readSt) (scopeOf readSt) [(Str.ofString "state", cS), (Str.ofString "rows", cW), (Str.ofString "add", cA)] docR pmR codR ctvR) ∈ rest)
    (hcdR : (codR, ocR) ∈ rest) (hcdR1 : ocR.data = .fields vsR) (hcdR2 : vsR[1]? = some (.str qR tqR))
    (hA : (addF, fnMade (Str.ofString "add") qA (paramsOf addSt) (bodyOf addSt) (scopeOf addSt) [(Str.ofString "transaction", cT), (Str.ofString "state", cS), (Str.ofString "read", cR), (Str.ofString "kind", cK)] docA pmA codA ctvA) ∈ rest)
    (hcA : (codA, ocA) ∈ rest) (hcA1 : ocA.data = .fields vsA) (hcA2 : vsA[1]? = some (.str qA tqA))
    (hcK : (cK, oK) ∈ rest) (hcK1 : oK.data = .cell (some (.int (k : Nat) tkk))) (hk4 : k < 4)
    (hcR : (cR, oR) ∈ rest) (hcR1 : oR.data = .cell (some (.ref readF)))
    (hcS : (cS, oS) ∈ rest) (hcS1 : oS.data = .cell (some (.ref st)))
    (hcT : (cT, oT) ∈ rest) (hcT1 : oT.data = .cell (some (.ref tr)))
    (hcAd : (cA, oA) ∈ rest) (hcAd1 : oA.data = .cell (some (.ref addF)))
    (hcW : (cW, oW) ∈ rest) (hcW1 : oW.data = .cell (some (.ref rw)))
    (htr : (tr, instObj 546 dx) ∈ rest) (hdx : (dx, dictOf es n) ∈ rest)
    (hkey : getL (hookKey k) es = some (some (.ref lb))) (hadd : getL (addKey k) es = some none)
    (hrl : (rl, W.listOf #[] nrl) ∈ rest) (hres : getL (Str.ofString "_resources") es = some (some (.ref rl))) (hch : getL (Str.ofString "_call_hooks") es = some none)
    (hC₀ : ∀ p ∈ created₀, @Ne Nat p.1 lb ∧ @Ne Nat p.1 st ∧ @Ne Nat p.1 rw) (hE₀ : EntsAt created₀ readF items₀.toList ((List.replicate n0 0).map toS)) (hS₀ : StIs w ost₀ (n0 : Nat) 0 0 0)
    (hpos : 0 < items₀.size) (hfit : items₀.size < 2 ^ 62) (hrun : runQ 1000 (startQ n0) = some qf) (hlenr : qf.ls.length = qf.r)
    (hret : ∀ (rows : Array Value) (nl nr : Nat) (ost : Obj) (h' : Heap) (tk' : Nat), Fr h₀ L h' m → News h₀ L h' ((lb, W.listOf #[] nl) :: (st, ost) :: (rw, W.listOf rows nr) :: rest) →
      StIs w ost (qf.ls.length : Nat) (qf.r : Nat) qf.o qf.v → IntsAre rows.toList qf.ns → Q .none { s with heap := h', toks := tk' }) :
    (hd.heap_39 w.params).In h₀ → wpAny (model PySem.Challenge.rw_bi0029_01.row.prog w) (ktrTop dp un gd cn cs L a ccd cl outer) (call (.ref 446) [.ref tr]) Q E s := by
  k_fill
  intro X
  subst hkk
  obtain ⟨R, hRR⟩ : ∃ R, R = created₀ ++ rest := ⟨_, rfl⟩
  rw [← hRR] at N
  have mR : ∀ q ∈ rest, q ∈ R := fun q hq => by rw [hRR]; exact List.mem_append_right _ hq
  dsimp only [hookKey] at hkey
  have htr' := mR _ htr
  have hdx' := mR _ hdx
  have hrl' := mR _ hrl
  refine wpAny_call ?_
  k_dflt cell_enter
  iterate 40 (first | (with_reducible show wpAny _ _ (exec (Stmt.For (Expr.Tuple _ _ _) _ _ _ _) _) _ _ _) | walk_at "S1")
  rename News _ _ _ _ => N9
  rename Fr _ _ _ _ => F9
  rw [hRR] at N9
  have F8 : Fr _ _ _ (fun y => List.lookup y (hkBase 415 lb tr (.bool false) (.bool false))) := F9
  rw [hk_start] at F8
  clear F9
  refine' hooks_for (q₀ := startQ n0) (qf := qf) (n₀ := 1000) (k := 2) ?B F8 ?T ?hdp ?hu N9 hlb hst hrw hne hne2 hne3 lost hR hcdR hcdR1 hcdR2 hA hcA hcA1 hcA2 hcK hcK1 hk4 hcR hcR1 hcS hcS1 hcT hcT1 hcAd hcAd1 hcW hcW1 htr hdx hkey hadd ?hpf hC₀ hE₀ ?hS0 .nil rfl hrun ?hE ?hret ?X
  case B => k_asm
  case T => k_asm
  case X => k_asm
  case hdp => k_dflt ktr_room
  case hu => k_dflt ktr_units
  case hpf => exact .inl rfl
  case hS0 => simpa [startQ] using hS₀
  case hE => passes_own
  case hret =>
    intro created' items' rows' nl' nr' ost' h' tk' v1 v2 v3 F₅ N₅ hC₅ hE₅ hS₅ hI₅
    have N₆ := led_back N₅
    have hzi : items'.size ≤ sizeLine := by
      have h1 := hE₅.length
      simp only [Array.length_toList, List.length_map] at h1
      rw [h1, hlenr, sizeLine_eq]
      exact Nat.le_trans (runQ_r hrun (Nat.zero_le _) (by decide)) (by decide)
    clear N₅ N9 F8 hC₅ hE₅
    walk_at "GO"
    all_goals try (leave1; try dsimp only)
    exact hret rows' _ nr' ost' _ _ (by assumption) (by assumption) hS₅ hI₅
theorem anew39 : True := by
  w_top off
  trivial
set_option maxRecDepth 100000 in
set_option maxHeartbeats 0 in
theorem hook_call3 {w : World} {p : Program} {loose : List Str} {mean : ExcName → Option Value} {mg mb : Str → Option Value}
    {dp un : Nat} {gd : Option (List Code)} {cn : Str} {cs : Scope} {a : Addr} {ccd : Value} {cl : List (Str × Addr)} {outer : List Env} {A₀ : Around} {base h₀ : Heap} {L : Addr} {m : Str → Option Value} {s : Shared}
    {qA qR : Str} {docA pmA ctvA docR pmR ctvR : Value} {addF codA readF codR cA cW cK cR cS cT lb st rw tr dx rl : Addr} {oA oW oK oR oS oT ocA ocR ost₀ : Obj} {es : List DictEntry} {n nl₀ nr₀ nrl k : Nat} {vsA vsR : Array Value} {tqA tqR : Tok}
    {items₀ : Array Value} {created₀ rest : List (Addr × Obj)} {tkk : Tok} {n0 : Nat} {qf : QS}
    {Q E : Value → Shared → Prop}
    (B : Below A₀ base outer h₀) (F : Fr h₀ L s.heap m) (T : Top p loose mean mg mb h₀) (hk : cs.kind = .function) (hkk : k = 3) (hdp : dp + 16 < recursionLimit) (hu : un + 128 < cLine)
    (N : News h₀ L s.heap ((lb, W.listOf items₀ nl₀) :: (st, ost₀) :: (rw, W.listOf #[] nr₀) :: (created₀ ++ rest)))
    (hlb : ∀ p ∈ rest, p.1 ≠ lb) (hst : ∀ p ∈ rest, p.1 ≠ st) (hrw : ∀ p ∈ rest, p.1 ≠ rw) (hne : @Ne Nat lb st) (hne2 : @Ne Nat lb rw) (hne3 : @Ne Nat st rw) (lost : (st == sysModules) = false)
    (hR : (readF, fnMade (Str.ofString "read") qR (paramsOf readSt) (bodyOf readSt) (scopeOf readSt) [(Str.ofString "state", cS), (Str.ofString "rows", cW), (Str.ofString "add", cA)] docR pmR codR ctvR) ∈ rest)
    (hcdR : (codR, ocR) ∈ rest) (hcdR1 : ocR.data = .fields vsR) (hcdR2 : vsR[1]? = some (.str qR tqR))
    (hA : (addF, fnMade (Str.ofString "add") qA (paramsOf addSt) (bodyOf addSt) (scopeOf addSt) [(Str.ofString "transaction", cT), (Str.ofString "state", cS), (Str.ofString "read", cR), (Str.ofString "kind", cK)] docA pmA codA ctvA) ∈ rest)
    (hcA : (codA, ocA) ∈ rest) (hcA1 : ocA.data = .fields vsA) (hcA2 : vsA[1]? = some (.str qA tqA))
    (hcK : (cK, oK) ∈ rest) (hcK1 : oK.data = .cell (some (.int (k : Nat) tkk))) (hk4 : k < 4)
    (hcR : (cR, oR) ∈ rest) (hcR1 : oR.data = .cell (some (.ref readF)))
    (hcS : (cS, oS) ∈ rest) (hcS1 : oS.data = .cell (some (.ref st)))
    (hcT : (cT, oT) ∈ rest) (hcT1 : oT.data = .cell (some (.ref tr)))
    (hcAd : (cA, oA) ∈ rest) (hcAd1 : oA.data = .cell (some (.ref addF)))
    (hcW : (cW, oW) ∈ rest) (hcW1 : oW.data = .cell (some (.ref rw)))
    (htr : (tr, instObj 546 dx) ∈ rest) (hdx : (dx, dictOf es n) ∈ rest)
    (hkey : getL (hookKey k) es = some (some (.ref lb))) (hadd : getL (addKey k) es = some none)
    (hrl : (rl, W.listOf #[] nrl) ∈ rest) (hres : getL (Str.ofString "_resources") es = some (some (.ref rl))) (hch : getL (Str.ofString "_call_hooks") es = some none)
    (hC₀ : ∀ p ∈ created₀, @Ne Nat p.1 lb ∧ @Ne Nat p.1 st ∧ @Ne Nat p.1 rw) (hE₀ : EntsAt created₀ readF items₀.toList ((List.replicate n0 0).map toS)) (hS₀ : StIs w ost₀ (n0 : Nat) 0 0 0)
    (hpos : 0 < items₀.size) (hfit : items₀.size < 2 ^ 62) (hrun : runQ 1000 (startQ n0) = some qf) (hlenr : qf.ls.length = qf.r)
    (hret : ∀ (rows : Array Value) (nl nr : Nat) (ost : Obj) (h' : Heap) (tk' : Nat), Fr h₀ L h' m → News h₀ L h' ((lb, W.listOf #[] nl) :: (st, ost) :: (rw, W.listOf rows nr) :: rest) →
      StIs w ost (qf.ls.length : Nat) (qf.r : Nat) qf.o qf.v → IntsAre rows.toList qf.ns → Q .none { s with heap := h', toks := tk' }) :
    (hd.heap_39 w.params).In h₀ → wpAny (model PySem.Challenge.rw_bi0029_01.row.prog w) (ktrTop dp un gd cn cs L a ccd cl outer) (call (.ref 469) [.ref tr]) Q E s := by
  k_fill
  intro X
  subst hkk
  obtain ⟨R, hRR⟩ : ∃ R, R = created₀ ++ rest := ⟨_, rfl⟩
  rw [← hRR] at N
  have mR : ∀ q ∈ rest, q ∈ R := fun q hq => by rw [hRR]; exact List.mem_append_right _ hq
  dsimp only [hookKey] at hkey
  have htr' := mR _ htr
  have hdx' := mR _ hdx
  have hrl' := mR _ hrl
  refine wpAny_call ?_
  k_dflt cell_enter
  iterate 40 (first | (with_reducible show wpAny _ _ (exec (Stmt.For (Expr.Tuple _ _ _) _ _ _ _) _) _ _ _) | walk_at "S1")
  rename News _ _ _ _ => N9
  rename Fr _ _ _ _ => F9
  rw [hRR] at N9
  have F8 : Fr _ _ _ (fun y => List.lookup y (hkBase 415 lb tr (.bool true) (.bool true))) := F9
  rw [hk_start] at F8
  clear F9
  refine' hooks_for (q₀ := startQ n0) (qf := qf) (n₀ := 1000) (k := 3) ?B F8 ?T ?hdp ?hu N9 hlb hst hrw hne hne2 hne3 lost hR hcdR hcdR1 hcdR2 hA hcA hcA1 hcA2 hcK hcK1 hk4 hcR hcR1 hcS hcS1 hcT hcT1 hcAd hcAd1 hcW hcW1 htr hdx hkey hadd ?hpf hC₀ hE₀ ?hS0 .nil rfl hrun ?hE ?hret ?X
  case B => k_asm
  case T => k_asm
  case X => k_asm
  case hdp => k_dflt ktr_room
  case hu => k_dflt ktr_units
  case hpf => exact .inl rfl
  case hS0 => simpa [startQ] using hS₀
  case hE => passes_own
  case hret =>
    intro created' items' rows' nl' nr' ost' h' tk' v1 v2 v3 F₅ N₅ hC₅ hE₅ hS₅ hI₅
    have N₆ := led_back N₅
    have hzi : items'.size ≤ sizeLine := by
      have h1 := hE₅.length
      simp only [Array.length_toList, List.length_map] at h1
      rw [h1, hlenr, sizeLine_eq]
      exact Nat.le_trans (runQ_r hrun (Nat.zero_le _) (by decide)) (by decide)
    clear N₅ N9 F8 hC₅ hE₅
    walk_at "GO"
    all_goals try (leave1; try dsimp only)
    exact hret rows' _ nr' ost' _ _ (by assumption) (by assumption) hS₅ hI₅
local macro_rules | `(tactic| walk_at "S1") => `(tactic| (k_here; (with_reducible show wpAny _ _ (call (Value.ref _) _ _) _ _ _); k_dflt (first | ((with_reducible show wpAny _ _ (call (Value.ref 390) _ _) _ _ _); refine' hook_none0 ?B ?F ?T ?hk ?hdp ?hu ?N ?a1 ?a2 ?a4 ?a3 ?a5 ?hret ?X) | ((with_reducible show wpAny _ _ (call (Value.ref 414) _ _) _ _ _); refine' hook_none1 ?B ?F ?T ?hk ?hdp ?hu ?N ?a1 ?a2 ?a4 ?a3 ?a5 ?hret ?X) | ((with_reducible show wpAny _ _ (call (Value.ref 446) _ _) _ _ _); refine' hook_none2 ?B ?F ?T ?hk ?hdp ?hu ?N ?a1 ?a2 ?a4 ?a3 ?a5 ?hret ?X) | ((with_reducible show wpAny _ _ (call (Value.ref 469) _ _) _ _ _); refine' hook_none3 ?B ?F ?T ?hk ?hdp ?hu ?N ?a1 ?a2 ?a4 ?a3 ?a5 ?hret ?X) | ((with_reducible show wpAny _ _ (call (Value.ref 476) _ _) _ _ _); refine' res_none ?B ?F ?T ?hk ?hdp ?hu ?N ?a1 ?a2 ?a4 ?a3 ?hret ?X) | ((with_reducible show wpAny _ _ (call (Value.ref 157) _ _) _ _ _); refine' map_none ?B ?F ?T ?hk ?hdp ?hu ?N ?a1 ?a2 ?a4 ?a3 ?a5 ?hret ?X)); (case B => k_asm); (case F => k_asm); (case T => k_asm); (case X => k_asm); (case hk => exact rfl); (case hdp => k_dflt ktr_room); (case hu => k_dflt ktr_units); (case N => k_asm); (case a1 => k_mem); (case a2 => k_mem); (case a3 => k_get); (case a4 => k_mem); (try (case a5 => k_get)); intro h' tk' F' N'; (try dsimp only); (try k_sweep)))
theorem anew41 : True := by
  w_top off
  trivial
theorem led_com0 {h₀ h : Heap} {L : Addr} {x a b c m1 m2 m3 m4 m5 m6 m7 : Addr × Obj} {R created rest : List (Addr × Obj)} (hR : R = created ++ rest) (N : News h₀ L h (x :: a :: b :: c :: m1 :: m2 :: m3 :: m4 :: m5 :: m6 :: m7 :: R)) :
    News h₀ L h (a :: b :: c :: (created ++ (x :: m1 :: m2 :: m3 :: m4 :: m5 :: m6 :: m7 :: rest))) := by
  refine cb_drop N ?_
  intro p hp
  rw [hR]
  simp only [List.mem_cons, List.mem_append] at hp ⊢
  grind
theorem led_fin0 {h₀ h : Heap} {L : Addr} {x a b c m1 m2 m3 m4 m5 m6 m7 y1 y2 y3 y4 : Addr × Obj} {rest : List (Addr × Obj)} (N : News h₀ L h (y1 :: y2 :: y3 :: y4 :: a :: b :: c :: x :: m1 :: m2 :: m3 :: m4 :: m5 :: m6 :: m7 :: rest)) :
    News h₀ L h (m2 :: m3 :: m4 :: a :: m5 :: m6 :: m7 :: b :: c :: m1 :: rest) := by
  refine cb_drop N ?_
  intro p hp
  simp only [List.mem_cons, List.mem_append] at hp ⊢
  grind
set_option maxRecDepth 100000 in
set_option maxHeartbeats 0 in
theorem commit0 {w : World} {p : Program} {loose : List Str} {mean : ExcName → Option Value} {mg' mb' : Str → Option Value}
    {dp un : Nat} {gd : Option (List Code)} {cn : Str} {cs : Scope} {a : Addr} {ccd : Value} {cl : List (Str × Addr)} {outer : List Env} {A₀ : Around} {base h₀ : Heap} {L : Addr} {m : Str → Option Value} {s : Shared}
    {qA qR : Str} {docA pmA ctvA docR pmR ctvR : Value} {addF codA readF codR cA cW cK cR cS cT st rw tr dx mg dmg sy dsy ly rl ad vo ex hb ha ab aa : Addr} {oA oW oK oR oS oT ocA ocR ost₀ : Obj} {esy : List DictEntry} {nsy nly n1 n2 n3 n4 nl₀ nr₀ k : Nat} {vsA vsR : Array Value} {tqA tqR : Tok}
    {items₀ : Array Value} {created₀ rest : List (Addr × Obj)} {tkk : Tok} {n0 : Nat} {qf : QS} {t1 t2 t3 t4 t5 t6 t7 t8 t9 t10 t11 t12 t13 t14 t15 : Tok}
    {Q E : Value → Shared → Prop}
    (B : Below A₀ base outer h₀) (F : Fr h₀ L s.heap m) (T : Top p loose mean mg' mb' h₀) (hk : cs.kind = .function) (hkk : k = 0) (hdp : dp + 24 < recursionLimit) (hu : un + 256 < cLine)
    (C1 : CodeHd base 662 658) (C2 : CodeHd base 513 509) (C3 : CodeHd base 475 471) (C4 : CodeHd base 359 355)
    (N : News h₀ L s.heap ((hb, W.listOf items₀ nl₀) :: (st, ost₀) :: (rw, W.listOf #[] nr₀) :: (355, tabObj #[]) :: (dmg, dictOf [ent w "explicit" t13 (.bool false), ent w "_txn" t14 (.ref tr), ent w "_synchs" t15 (.ref sy)] 3) :: (dx, dictOf [ent w "status" t1 ((.str (Str.ofString "Active") 413)), ent w "_resources" t2 (.ref rl), ent w "_synchronizers" t3 (.ref sy), ent w "_manager" t4 (.ref mg), ent w "_adapters" t5 (.ref ad), ent w "_voted" t6 (.ref vo), ent w "extension" t7 (.ref ex), ent w "_failure_traceback" t8 (.none), ent w "_before_commit" t9 (.ref hb), ent w "_after_commit" t10 (.ref ha), ent w "_before_abort" t11 (.ref ab), ent w "_after_abort" t12 (.ref aa)] 12) :: (rl, W.listOf #[] n1) :: (ha, W.listOf #[] n2) :: (ab, W.listOf #[] n3) :: (aa, W.listOf #[] n4) :: (created₀ ++ rest)))
    (o0 : @LT.lt Nat _ 355 dmg) (o1 : @LT.lt Nat _ dmg dx) (o2 : @LT.lt Nat _ dx rl) (o3 : @LT.lt Nat _ rl hb) (o4 : @LT.lt Nat _ hb ha) (o5 : @LT.lt Nat _ ha ab) (o6 : @LT.lt Nat _ ab aa) (o7 : @LT.lt Nat _ aa st) (o8 : @LT.lt Nat _ st rw)
    (g0 : ∀ p ∈ rest, p.1 ≠ 355) (g1 : ∀ p ∈ rest, p.1 ≠ dmg) (g2 : ∀ p ∈ rest, p.1 ≠ dx) (g3 : ∀ p ∈ rest, p.1 ≠ rl) (g4 : ∀ p ∈ rest, p.1 ≠ hb) (g5 : ∀ p ∈ rest, p.1 ≠ ha) (g6 : ∀ p ∈ rest, p.1 ≠ ab) (g7 : ∀ p ∈ rest, p.1 ≠ aa) (g8 : ∀ p ∈ rest, p.1 ≠ st) (g9 : ∀ p ∈ rest, p.1 ≠ rw)
    (hcr : Above rw created₀) (lost : (st == sysModules) = false)
    (hR : (readF, fnMade (Str.ofString "read") qR (paramsOf readSt) (bodyOf readSt) (scopeOf readSt) [(Str.ofString "state", cS), (Str.ofString "rows", cW), (Str.ofString "add", cA)] docR pmR codR ctvR) ∈ rest)
    (hcdR : (codR, ocR) ∈ rest) (hcdR1 : ocR.data = .fields vsR) (hcdR2 : vsR[1]? = some (.str qR tqR))
    (hA : (addF, fnMade (Str.ofString "add") qA (paramsOf addSt) (bodyOf addSt) (scopeOf addSt) [(Str.ofString "transaction", cT), (Str.ofString "state", cS), (Str.ofString "read", cR), (Str.ofString "kind", cK)] docA pmA codA ctvA) ∈ rest)
    (hcA : (codA, ocA) ∈ rest) (hcA1 : ocA.data = .fields vsA) (hcA2 : vsA[1]? = some (.str qA tqA))
    (hcK : (cK, oK) ∈ rest) (hcK1 : oK.data = .cell (some (.int (k : Nat) tkk))) (hk4 : k < 4)
    (hcR : (cR, oR) ∈ rest) (hcR1 : oR.data = .cell (some (.ref readF)))
    (hcS : (cS, oS) ∈ rest) (hcS1 : oS.data = .cell (some (.ref st)))
    (hcT : (cT, oT) ∈ rest) (hcT1 : oT.data = .cell (some (.ref tr)))
    (hcAd : (cA, oA) ∈ rest) (hcAd1 : oA.data = .cell (some (.ref addF)))
    (hcW : (cW, oW) ∈ rest) (hcW1 : oW.data = .cell (some (.ref rw)))
    (htr : (tr, instObj 546 dx) ∈ rest) (hmg : (mg, instObj 818 dmg) ∈ rest) (hsy : (sy, instObj 167 dsy) ∈ rest) (hds : (dsy, dictOf esy nsy) ∈ rest) (hly : (ly, W.listOf #[] nly) ∈ rest)
    (hda : getL (Str.ofString "data") esy = some (some (.ref ly))) (haw : getL (Str.ofString "as_weakref_list") esy = some none) (hmap : getL (Str.ofString "map") esy = some none)
    (hE₀ : EntsAt created₀ readF items₀.toList ((List.replicate n0 0).map toS)) (hS₀ : StIs w ost₀ (n0 : Nat) 0 0 0)
    (hpos : 0 < items₀.size) (hfit : items₀.size < 2 ^ 62) (hrun : runQ 1000 (startQ n0) = some qf) (hlenr : qf.ls.length = qf.r)
    (hret : ∀ (rows : Array Value) (m1 m2 m3 m4 m5 nr : Nat) (ost : Obj) (sv : Value) (ps : Array Value) (h' : Heap) (tk' : Nat), Fr h₀ L h' m → News h₀ L h' ((dmg, dictOf [ent w "explicit" t13 (.bool false), ent w "_txn" t14 (.none), ent w "_synchs" t15 (.ref sy)] 3) :: (dx, dictOf [ent w "status" t1 (sv), ent w "_resources" t2 (.ref rl), ent w "_synchronizers" t3 (.ref 212), ent w "_manager" t4 (.none), ent w "_adapters" t5 (.none), ent w "_voted" t6 (.none), ent w "extension" t7 (.none), ent w "_failure_traceback" t8 (.none), ent w "_before_commit" t9 (.ref hb), ent w "_after_commit" t10 (.ref ha), ent w "_before_abort" t11 (.ref ab), ent w "_after_abort" t12 (.ref aa)] 12) :: (rl, W.listOf #[] m1) :: (hb, W.listOf #[] m2) :: (ha, W.listOf #[] m3) :: (ab, W.listOf #[] m4) :: (aa, W.listOf #[] m5) :: (st, ost) :: (rw, W.listOf rows nr) :: (355, tabObj ps) :: rest) →
      StIs w ost (qf.ls.length : Nat) (qf.r : Nat) qf.o qf.v → IntsAre rows.toList qf.ns → Q .none { s with heap := h', toks := tk' }) :
    (hd.heap_39 w.params).In h₀ → wpAny (model PySem.Challenge.rw_bi0029_01.row.prog w) (ktrTop dp un gd cn cs L a ccd cl outer) (call (.ref 360) [.ref tr]) Q E s := by
  k_fill
  intro X
  subst hkk
  obtain ⟨R, hRR⟩ : ∃ R, R = created₀ ++ rest := ⟨_, rfl⟩
  rw [← hRR] at N
  have mR : ∀ q ∈ rest, q ∈ R := fun q hq => by rw [hRR]; exact List.mem_append_right _ hq
  have htr' := mR _ htr
  have hmg' := mR _ hmg
  have hsy' := mR _ hsy
  have hds' := mR _ hds
  have hly' := mR _ hly
  have gR0 : ∀ p ∈ R, p.1 ≠ 355 := aboveR hRR hcr (by omega) g0
  have gR1 : ∀ p ∈ R, p.1 ≠ dmg := aboveR hRR hcr (by omega) g1
  have gR2 : ∀ p ∈ R, p.1 ≠ dx := aboveR hRR hcr (by omega) g2
  have gR3 : ∀ p ∈ R, p.1 ≠ rl := aboveR hRR hcr (by omega) g3
  have gR4 : ∀ p ∈ R, p.1 ≠ hb := aboveR hRR hcr (by omega) g4
  have gR5 : ∀ p ∈ R, p.1 ≠ ha := aboveR hRR hcr (by omega) g5
  have gR6 : ∀ p ∈ R, p.1 ≠ ab := aboveR hRR hcr (by omega) g6
  have gR7 : ∀ p ∈ R, p.1 ≠ aa := aboveR hRR hcr (by omega) g7
  have gR8 : ∀ p ∈ R, p.1 ≠ st := aboveR hRR hcr (by omega) g8
  have gR9 : ∀ p ∈ R, p.1 ≠ rw := aboveR hRR hcr (by omega) g9
  (refine wpAny_call ?_; k_dflt (refine' code_defC ?k1 ?k2 ?k3 ?k4 ?k5 ?kA ?kF ?kK ?k6 ?k7 ?k8 ?k9 ?kB ?kD ?_ ?c2 ?c3 ?c4; (case kA => exact rfl); (case kF => exact rfl); (case kK => assumption); (case k1 => k_asm); (case k2 => k_asm); (case k3 => k_asm); (case k4 => k_asm); (case k5 => k_asm); (case k6 => k_is); (case k7 => k_is); (case k8 => ktr_room); (case k9 => first | exact BindsTo.of_eq rfl | exact binds_K (by k_in) rfl (by k_is) rfl rfl rfl); (case kB => exact rfl); (case kD => decide +kernel); (case c2 => exact rfl); (case c3 => exact rfl); (case c4 => exact rfl); k_whole; intro g' L' h' tk' cells' FG' F' N' Y' B' X' T' l1; (try k_lt l1); k_cells Y'; (try simp only [List.cons_append, List.nil_append] at N'); (try dsimp only); (try k_lift B'); (try k_fold)))
  iterate 200 (first | (with_reducible show wpAny _ _ (call (Value.ref 390) _ _) _ _ _) | walk_at "S1")
  rename News _ _ _ _ => N9
  rename Fr _ _ _ _ => F9
  have N8 := led_com0 hRR N9
  clear N9
  k_dflt (refine' hook_call0 (k := 0) (qf := qf) ?B F9 ?T ?hk rfl ?hdp ?hu N8 (List.forall_mem_cons.mpr ⟨by k_ne, List.forall_mem_cons.mpr ⟨(Nat.ne_of_lt (Nat.lt_trans o0 (Nat.lt_trans o1 (Nat.lt_trans o2 o3)))), List.forall_mem_cons.mpr ⟨(Nat.ne_of_lt (Nat.lt_trans o1 (Nat.lt_trans o2 o3))), List.forall_mem_cons.mpr ⟨(Nat.ne_of_lt (Nat.lt_trans o2 o3)), List.forall_mem_cons.mpr ⟨(Nat.ne_of_lt o3), List.forall_mem_cons.mpr ⟨(Nat.ne_of_gt o4), List.forall_mem_cons.mpr ⟨(Nat.ne_of_gt (Nat.lt_trans o4 o5)), List.forall_mem_cons.mpr ⟨(Nat.ne_of_gt (Nat.lt_trans o4 (Nat.lt_trans o5 o6))), g4⟩⟩⟩⟩⟩⟩⟩⟩) (List.forall_mem_cons.mpr ⟨by k_ne, List.forall_mem_cons.mpr ⟨(Nat.ne_of_lt (Nat.lt_trans o0 (Nat.lt_trans o1 (Nat.lt_trans o2 (Nat.lt_trans o3 (Nat.lt_trans o4 (Nat.lt_trans o5 (Nat.lt_trans o6 o7)))))))), List.forall_mem_cons.mpr ⟨(Nat.ne_of_lt (Nat.lt_trans o1 (Nat.lt_trans o2 (Nat.lt_trans o3 (Nat.lt_trans o4 (Nat.lt_trans o5 (Nat.lt_trans o6 o7))))))), List.forall_mem_cons.mpr ⟨(Nat.ne_of_lt (Nat.lt_trans o2 (Nat.lt_trans o3 (Nat.lt_trans o4 (Nat.lt_trans o5 (Nat.lt_trans o6 o7)))))), List.forall_mem_cons.mpr ⟨(Nat.ne_of_lt (Nat.lt_trans o3 (Nat.lt_trans o4 (Nat.lt_trans o5 (Nat.lt_trans o6 o7))))), List.forall_mem_cons.mpr ⟨(Nat.ne_of_lt (Nat.lt_trans o5 (Nat.lt_trans o6 o7))), List.forall_mem_cons.mpr ⟨(Nat.ne_of_lt (Nat.lt_trans o6 o7)), List.forall_mem_cons.mpr ⟨(Nat.ne_of_lt o7), g8⟩⟩⟩⟩⟩⟩⟩⟩) (List.forall_mem_cons.mpr ⟨by k_ne, List.forall_mem_cons.mpr ⟨(Nat.ne_of_lt (Nat.lt_trans o0 (Nat.lt_trans o1 (Nat.lt_trans o2 (Nat.lt_trans o3 (Nat.lt_trans o4 (Nat.lt_trans o5 (Nat.lt_trans o6 (Nat.lt_trans o7 o8))))))))), List.forall_mem_cons.mpr ⟨(Nat.ne_of_lt (Nat.lt_trans o1 (Nat.lt_trans o2 (Nat.lt_trans o3 (Nat.lt_trans o4 (Nat.lt_trans o5 (Nat.lt_trans o6 (Nat.lt_trans o7 o8)))))))), List.forall_mem_cons.mpr ⟨(Nat.ne_of_lt (Nat.lt_trans o2 (Nat.lt_trans o3 (Nat.lt_trans o4 (Nat.lt_trans o5 (Nat.lt_trans o6 (Nat.lt_trans o7 o8))))))), List.forall_mem_cons.mpr ⟨(Nat.ne_of_lt (Nat.lt_trans o3 (Nat.lt_trans o4 (Nat.lt_trans o5 (Nat.lt_trans o6 (Nat.lt_trans o7 o8)))))), List.forall_mem_cons.mpr ⟨(Nat.ne_of_lt (Nat.lt_trans o5 (Nat.lt_trans o6 (Nat.lt_trans o7 o8)))), List.forall_mem_cons.mpr ⟨(Nat.ne_of_lt (Nat.lt_trans o6 (Nat.lt_trans o7 o8))), List.forall_mem_cons.mpr ⟨(Nat.ne_of_lt (Nat.lt_trans o7 o8)), g9⟩⟩⟩⟩⟩⟩⟩⟩) (Nat.ne_of_lt (Nat.lt_trans o4 (Nat.lt_trans o5 (Nat.lt_trans o6 o7)))) (Nat.ne_of_lt (Nat.lt_trans o4 (Nat.lt_trans o5 (Nat.lt_trans o6 (Nat.lt_trans o7 o8))))) (Nat.ne_of_lt o8) lost (by k_mem) (by k_mem) hcdR1 hcdR2 (by k_mem) (by k_mem) hcA1 hcA2 (by k_mem) hcK1 (by decide) (by k_mem) hcR1 (by k_mem) hcS1 (by k_mem) hcT1 (by k_mem) hcAd1 (by k_mem) hcW1 (by k_mem) (by k_mem) (by kernel_rfl) (by kernel_rfl) (by k_mem) (by kernel_rfl) (by kernel_rfl) ?hC hE₀ hS₀ hpos hfit hrun hlenr ?hret ?X)
  case B => k_asm
  case T => k_asm
  case X => k_asm
  case hk => exact rfl
  case hdp => k_dflt ktr_room
  case hu => k_dflt ktr_units
  case hC => exact fun p hp => ⟨hcr.ne (Nat.le_of_lt (Nat.lt_trans o4 (Nat.lt_trans o5 (Nat.lt_trans o6 (Nat.lt_trans o7 o8))))) p hp, hcr.ne (Nat.le_of_lt o8) p hp, hcr.ne (Nat.le_refl _) p hp⟩
  case hret =>
    intro rows' nl' nr' ost' h' tk' F₅ N₅ hS₅ hI₅
    clear N8 F9
    try dsimp only at N₅
    iterate 300 (first | (with_reducible show wpAny _ _ (call (Value.ref 495) _ _) _ _ _) | walk_at "S1")
    rename News _ _ _ _ => N7
    rename Fr _ _ _ _ => F7
    have N6 := led_fin0 N7
    clear N7
    k_dflt (refine' free_all (mg := mg) ?B F7 ?T ?hk ?hdp ?hu N6 (by k_mem) (by k_mem) o1 o2 o3 o4 o5 o6 (List.forall_mem_cons.mpr ⟨(Nat.ne_of_gt (Nat.lt_trans o1 (Nat.lt_trans o2 (Nat.lt_trans o3 (Nat.lt_trans o4 (Nat.lt_trans o5 (Nat.lt_trans o6 o7))))))), List.forall_mem_cons.mpr ⟨(Nat.ne_of_gt (Nat.lt_trans o1 (Nat.lt_trans o2 (Nat.lt_trans o3 (Nat.lt_trans o4 (Nat.lt_trans o5 (Nat.lt_trans o6 (Nat.lt_trans o7 o8)))))))), List.forall_mem_cons.mpr ⟨(Nat.ne_of_lt o0), g1⟩⟩⟩) (List.forall_mem_cons.mpr ⟨(Nat.ne_of_gt (Nat.lt_trans o2 (Nat.lt_trans o3 (Nat.lt_trans o4 (Nat.lt_trans o5 (Nat.lt_trans o6 o7)))))), List.forall_mem_cons.mpr ⟨(Nat.ne_of_gt (Nat.lt_trans o2 (Nat.lt_trans o3 (Nat.lt_trans o4 (Nat.lt_trans o5 (Nat.lt_trans o6 (Nat.lt_trans o7 o8))))))), List.forall_mem_cons.mpr ⟨(Nat.ne_of_lt (Nat.lt_trans o0 o1)), g2⟩⟩⟩) (List.forall_mem_cons.mpr ⟨(Nat.ne_of_gt (Nat.lt_trans o3 (Nat.lt_trans o4 (Nat.lt_trans o5 (Nat.lt_trans o6 o7))))), List.forall_mem_cons.mpr ⟨(Nat.ne_of_gt (Nat.lt_trans o3 (Nat.lt_trans o4 (Nat.lt_trans o5 (Nat.lt_trans o6 (Nat.lt_trans o7 o8)))))), List.forall_mem_cons.mpr ⟨(Nat.ne_of_lt (Nat.lt_trans o0 (Nat.lt_trans o1 o2))), g3⟩⟩⟩) (List.forall_mem_cons.mpr ⟨(Nat.ne_of_gt (Nat.lt_trans o4 (Nat.lt_trans o5 (Nat.lt_trans o6 o7)))), List.forall_mem_cons.mpr ⟨(Nat.ne_of_gt (Nat.lt_trans o4 (Nat.lt_trans o5 (Nat.lt_trans o6 (Nat.lt_trans o7 o8))))), List.forall_mem_cons.mpr ⟨(Nat.ne_of_lt (Nat.lt_trans o0 (Nat.lt_trans o1 (Nat.lt_trans o2 o3)))), g4⟩⟩⟩) (List.forall_mem_cons.mpr ⟨(Nat.ne_of_gt (Nat.lt_trans o5 (Nat.lt_trans o6 o7))), List.forall_mem_cons.mpr ⟨(Nat.ne_of_gt (Nat.lt_trans o5 (Nat.lt_trans o6 (Nat.lt_trans o7 o8)))), List.forall_mem_cons.mpr ⟨(Nat.ne_of_lt (Nat.lt_trans o0 (Nat.lt_trans o1 (Nat.lt_trans o2 (Nat.lt_trans o3 o4))))), g5⟩⟩⟩) (List.forall_mem_cons.mpr ⟨(Nat.ne_of_gt (Nat.lt_trans o6 o7)), List.forall_mem_cons.mpr ⟨(Nat.ne_of_gt (Nat.lt_trans o6 (Nat.lt_trans o7 o8))), List.forall_mem_cons.mpr ⟨(Nat.ne_of_lt (Nat.lt_trans o0 (Nat.lt_trans o1 (Nat.lt_trans o2 (Nat.lt_trans o3 (Nat.lt_trans o4 o5)))))), g6⟩⟩⟩) (List.forall_mem_cons.mpr ⟨(Nat.ne_of_gt o7), List.forall_mem_cons.mpr ⟨(Nat.ne_of_gt (Nat.lt_trans o7 o8)), List.forall_mem_cons.mpr ⟨(Nat.ne_of_lt (Nat.lt_trans o0 (Nat.lt_trans o1 (Nat.lt_trans o2 (Nat.lt_trans o3 (Nat.lt_trans o4 (Nat.lt_trans o5 o6))))))), g7⟩⟩⟩) ?hret ?X)
    case B => k_asm
    case T => k_asm
    case X => k_asm
    case hk => exact rfl
    case hdp => k_dflt ktr_room
    case hu => k_dflt ktr_units
    case hret =>
      intro h8 tk8 m1 m2 m3 m4 m5 F₉ N₉
      clear N6 F7
      try dsimp only
      walk_at "GO"
      all_goals try (leave1; try dsimp only)
      exact hret rows' _ _ _ _ _ _ _ _ _ _ _ (by assumption) (by assumption) hS₅ hI₅
theorem anew42 : True := by
  w_top off
  trivial
theorem led_com1 {h₀ h : Heap} {L : Addr} {x a b c m1 m2 m3 m4 m5 m6 m7 y1 y2 y3 y4 : Addr × Obj} {R created rest : List (Addr × Obj)} (hR : R = created ++ rest) (N : News h₀ L h (y1 :: y2 :: y3 :: y4 :: x :: a :: b :: c :: m1 :: m2 :: m3 :: m4 :: m5 :: m6 :: m7 :: R)) :
    News h₀ L h (a :: b :: c :: (created ++ (x :: m1 :: m2 :: m3 :: m4 :: m5 :: m6 :: m7 :: rest))) := by
  refine cb_drop N ?_
  intro p hp
  rw [hR]
  simp only [List.mem_cons, List.mem_append] at hp ⊢
  grind
theorem led_fin1 {h₀ h : Heap} {L : Addr} {x a b c m1 m2 m3 m4 m5 m6 m7 : Addr × Obj} {rest : List (Addr × Obj)} (N : News h₀ L h (a :: b :: c :: x :: m1 :: m2 :: m3 :: m4 :: m5 :: m6 :: m7 :: rest)) :
    News h₀ L h (m2 :: m3 :: m4 :: m5 :: a :: m6 :: m7 :: b :: c :: m1 :: rest) := by
  refine cb_drop N ?_
  intro p hp
  simp only [List.mem_cons, List.mem_append] at hp ⊢
  grind
set_option maxRecDepth 100000 in
set_option maxHeartbeats 0 in
theorem commit1 {w : World} {p : Program} {loose : List Str} {mean : ExcName → Option Value} {mg' mb' : Str → Option Value}
    {dp un : Nat} {gd : Option (List Code)} {cn : Str} {cs : Scope} {a : Addr} {ccd : Value} {cl : List (Str × Addr)} {outer : List Env} {A₀ : Around} {base h₀ : Heap} {L : Addr} {m : Str → Option Value} {s : Shared}
    {qA qR : Str} {docA pmA ctvA docR pmR ctvR : Value} {addF codA readF codR cA cW cK cR cS cT st rw tr dx mg dmg sy dsy ly rl ad vo ex hb ha ab aa : Addr} {oA oW oK oR oS oT ocA ocR ost₀ : Obj} {esy : List DictEntry} {nsy nly n1 n2 n3 n4 nl₀ nr₀ k : Nat} {vsA vsR : Array Value} {tqA tqR : Tok}
    {items₀ : Array Value} {created₀ rest : List (Addr × Obj)} {tkk : Tok} {n0 : Nat} {qf : QS} {t1 t2 t3 t4 t5 t6 t7 t8 t9 t10 t11 t12 t13 t14 t15 : Tok}
    {Q E : Value → Shared → Prop}
    (B : Below A₀ base outer h₀) (F : Fr h₀ L s.heap m) (T : Top p loose mean mg' mb' h₀) (hk : cs.kind = .function) (hkk : k = 1) (hdp : dp + 24 < recursionLimit) (hu : un + 256 < cLine)
    (C1 : CodeHd base 662 658) (C2 : CodeHd base 513 509) (C3 : CodeHd base 475 471) (C4 : CodeHd base 359 355)
    (N : News h₀ L s.heap ((ha, W.listOf items₀ nl₀) :: (st, ost₀) :: (rw, W.listOf #[] nr₀) :: (355, tabObj #[]) :: (dmg, dictOf [ent w "explicit" t13 (.bool false), ent w "_txn" t14 (.ref tr), ent w "_synchs" t15 (.ref sy)] 3) :: (dx, dictOf [ent w "status" t1 ((.str (Str.ofString "Active") 413)), ent w "_resources" t2 (.ref rl), ent w "_synchronizers" t3 (.ref sy), ent w "_manager" t4 (.ref mg), ent w "_adapters" t5 (.ref ad), ent w "_voted" t6 (.ref vo), ent w "extension" t7 (.ref ex), ent w "_failure_traceback" t8 (.none), ent w "_before_commit" t9 (.ref hb), ent w "_after_commit" t10 (.ref ha), ent w "_before_abort" t11 (.ref ab), ent w "_after_abort" t12 (.ref aa)] 12) :: (rl, W.listOf #[] n1) :: (hb, W.listOf #[] n2) :: (ab, W.listOf #[] n3) :: (aa, W.listOf #[] n4) :: (created₀ ++ rest)))
    (o0 : @LT.lt Nat _ 355 dmg) (o1 : @LT.lt Nat _ dmg dx) (o2 : @LT.lt Nat _ dx rl) (o3 : @LT.lt Nat _ rl hb) (o4 : @LT.lt Nat _ hb ha) (o5 : @LT.lt Nat _ ha ab) (o6 : @LT.lt Nat _ ab aa) (o7 : @LT.lt Nat _ aa st) (o8 : @LT.lt Nat _ st rw)
    (g0 : ∀ p ∈ rest, p.1 ≠ 355) (g1 : ∀ p ∈ rest, p.1 ≠ dmg) (g2 : ∀ p ∈ rest, p.1 ≠ dx) (g3 : ∀ p ∈ rest, p.1 ≠ rl) (g4 : ∀ p ∈ rest, p.1 ≠ hb) (g5 : ∀ p ∈ rest, p.1 ≠ ha) (g6 : ∀ p ∈ rest, p.1 ≠ ab) (g7 : ∀ p ∈ rest, p.1 ≠ aa) (g8 : ∀ p ∈ rest, p.1 ≠ st) (g9 : ∀ p ∈ rest, p.1 ≠ rw)
    (hcr : Above rw created₀) (lost : (st == sysModules) = false)
    (hR : (readF, fnMade (Str.ofString "read") qR (paramsOf readSt) (bodyOf readSt) (scopeOf readSt) [(Str.ofString "state", cS), (Str.ofString "rows", cW), (Str.ofString "add", cA)] docR pmR codR ctvR) ∈ rest)
    (hcdR : (codR, ocR) ∈ rest) (hcdR1 : ocR.data = .fields vsR) (hcdR2 : vsR[1]? = some (.str qR tqR))
    (hA : (addF, fnMade (Str.ofString "add") qA (paramsOf addSt) (bodyOf addSt) (scopeOf addSt) [(Str.ofString "transaction", cT), (Str.ofString "state", cS), (Str.ofString "read", cR), (Str.ofString "kind", cK)] docA pmA codA ctvA) ∈ rest)
    (hcA : (codA, ocA) ∈ rest) (hcA1 : ocA.data = .fields vsA) (hcA2 : vsA[1]? = some (.str qA tqA))
    (hcK : (cK, oK) ∈ rest) (hcK1 : oK.data = .cell (some (.int (k : Nat) tkk))) (hk4 : k < 4)
    (hcR : (cR, oR) ∈ rest) (hcR1 : oR.data = .cell (some (.ref readF)))
    (hcS : (cS, oS) ∈ rest) (hcS1 : oS.data = .cell (some (.ref st)))
    (hcT : (cT, oT) ∈ rest) (hcT1 : oT.data = .cell (some (.ref tr)))
    (hcAd : (cA, oA) ∈ rest) (hcAd1 : oA.data = .cell (some (.ref addF)))
    (hcW : (cW, oW) ∈ rest) (hcW1 : oW.data = .cell (some (.ref rw)))
    (htr : (tr, instObj 546 dx) ∈ rest) (hmg : (mg, instObj 818 dmg) ∈ rest) (hsy : (sy, instObj 167 dsy) ∈ rest) (hds : (dsy, dictOf esy nsy) ∈ rest) (hly : (ly, W.listOf #[] nly) ∈ rest)
    (hda : getL (Str.ofString "data") esy = some (some (.ref ly))) (haw : getL (Str.ofString "as_weakref_list") esy = some none) (hmap : getL (Str.ofString "map") esy = some none)
    (hE₀ : EntsAt created₀ readF items₀.toList ((List.replicate n0 0).map toS)) (hS₀ : StIs w ost₀ (n0 : Nat) 0 0 0)
    (hpos : 0 < items₀.size) (hfit : items₀.size < 2 ^ 62) (hrun : runQ 1000 (startQ n0) = some qf) (hlenr : qf.ls.length = qf.r)
    (hret : ∀ (rows : Array Value) (m1 m2 m3 m4 m5 nr : Nat) (ost : Obj) (sv : Value) (ps : Array Value) (h' : Heap) (tk' : Nat), Fr h₀ L h' m → News h₀ L h' ((dmg, dictOf [ent w "explicit" t13 (.bool false), ent w "_txn" t14 (.none), ent w "_synchs" t15 (.ref sy)] 3) :: (dx, dictOf [ent w "status" t1 (sv), ent w "_resources" t2 (.ref rl), ent w "_synchronizers" t3 (.ref 212), ent w "_manager" t4 (.none), ent w "_adapters" t5 (.none), ent w "_voted" t6 (.none), ent w "extension" t7 (.none), ent w "_failure_traceback" t8 (.none), ent w "_before_commit" t9 (.ref hb), ent w "_after_commit" t10 (.ref ha), ent w "_before_abort" t11 (.ref ab), ent w "_after_abort" t12 (.ref aa)] 12) :: (rl, W.listOf #[] m1) :: (hb, W.listOf #[] m2) :: (ha, W.listOf #[] m3) :: (ab, W.listOf #[] m4) :: (aa, W.listOf #[] m5) :: (st, ost) :: (rw, W.listOf rows nr) :: (355, tabObj ps) :: rest) →
      StIs w ost (qf.ls.length : Nat) (qf.r : Nat) qf.o qf.v → IntsAre rows.toList qf.ns → Q .none { s with heap := h', toks := tk' }) :
    (hd.heap_39 w.params).In h₀ → wpAny (model PySem.Challenge.rw_bi0029_01.row.prog w) (ktrTop dp un gd cn cs L a ccd cl outer) (call (.ref 360) [.ref tr]) Q E s := by
  k_fill
  intro X
  subst hkk
  obtain ⟨R, hRR⟩ : ∃ R, R = created₀ ++ rest := ⟨_, rfl⟩
  rw [← hRR] at N
  have mR : ∀ q ∈ rest, q ∈ R := fun q hq => by rw [hRR]; exact List.mem_append_right _ hq
  have htr' := mR _ htr
  have hmg' := mR _ hmg
  have hsy' := mR _ hsy
  have hds' := mR _ hds
  have hly' := mR _ hly
  have gR0 : ∀ p ∈ R, p.1 ≠ 355 := aboveR hRR hcr (by omega) g0
  have gR1 : ∀ p ∈ R, p.1 ≠ dmg := aboveR hRR hcr (by omega) g1
  have gR2 : ∀ p ∈ R, p.1 ≠ dx := aboveR hRR hcr (by omega) g2
  have gR3 : ∀ p ∈ R, p.1 ≠ rl := aboveR hRR hcr (by omega) g3
  have gR4 : ∀ p ∈ R, p.1 ≠ hb := aboveR hRR hcr (by omega) g4
  have gR5 : ∀ p ∈ R, p.1 ≠ ha := aboveR hRR hcr (by omega) g5
  have gR6 : ∀ p ∈ R, p.1 ≠ ab := aboveR hRR hcr (by omega) g6
  have gR7 : ∀ p ∈ R, p.1 ≠ aa := aboveR hRR hcr (by omega) g7
  have gR8 : ∀ p ∈ R, p.1 ≠ st := aboveR hRR hcr (by omega) g8
  have gR9 : ∀ p ∈ R, p.1 ≠ rw := aboveR hRR hcr (by omega) g9
  (refine wpAny_call ?_; k_dflt (refine' code_defC ?k1 ?k2 ?k3 ?k4 ?k5 ?kA ?kF ?kK ?k6 ?k7 ?k8 ?k9 ?kB ?kD ?_ ?c2 ?c3 ?c4; (case kA => exact rfl); (case kF => exact rfl); (case kK => assumption); (case k1 => k_asm); (case k2 => k_asm); (case k3 => k_asm); (case k4 => k_asm); (case k5 => k_asm); (case k6 => k_is); (case k7 => k_is); (case k8 => ktr_room); (case k9 => first | exact BindsTo.of_eq rfl | exact binds_K (by k_in) rfl (by k_is) rfl rfl rfl); (case kB => exact rfl); (case kD => decide +kernel); (case c2 => exact rfl); (case c3 => exact rfl); (case c4 => exact rfl); k_whole; intro g' L' h' tk' cells' FG' F' N' Y' B' X' T' l1; (try k_lt l1); k_cells Y'; (try simp only [List.cons_append, List.nil_append] at N'); (try dsimp only); (try k_lift B'); (try k_fold)))
  iterate 200 (first | (with_reducible show wpAny _ _ (call (Value.ref 414) _ _) _ _ _) | walk_at "S1")
  rename News _ _ _ _ => N9
  rename Fr _ _ _ _ => F9
  have N8 := led_com1 hRR N9
  clear N9
  k_dflt (refine' hook_call1 (k := 1) (qf := qf) ?B F9 ?T ?hk rfl ?hdp ?hu N8 (List.forall_mem_cons.mpr ⟨by k_ne, List.forall_mem_cons.mpr ⟨(Nat.ne_of_lt (Nat.lt_trans o0 (Nat.lt_trans o1 (Nat.lt_trans o2 (Nat.lt_trans o3 o4))))), List.forall_mem_cons.mpr ⟨(Nat.ne_of_lt (Nat.lt_trans o1 (Nat.lt_trans o2 (Nat.lt_trans o3 o4)))), List.forall_mem_cons.mpr ⟨(Nat.ne_of_lt (Nat.lt_trans o2 (Nat.lt_trans o3 o4))), List.forall_mem_cons.mpr ⟨(Nat.ne_of_lt (Nat.lt_trans o3 o4)), List.forall_mem_cons.mpr ⟨(Nat.ne_of_lt o4), List.forall_mem_cons.mpr ⟨(Nat.ne_of_gt o5), List.forall_mem_cons.mpr ⟨(Nat.ne_of_gt (Nat.lt_trans o5 o6)), g5⟩⟩⟩⟩⟩⟩⟩⟩) (List.forall_mem_cons.mpr ⟨by k_ne, List.forall_mem_cons.mpr ⟨(Nat.ne_of_lt (Nat.lt_trans o0 (Nat.lt_trans o1 (Nat.lt_trans o2 (Nat.lt_trans o3 (Nat.lt_trans o4 (Nat.lt_trans o5 (Nat.lt_trans o6 o7)))))))), List.forall_mem_cons.mpr ⟨(Nat.ne_of_lt (Nat.lt_trans o1 (Nat.lt_trans o2 (Nat.lt_trans o3 (Nat.lt_trans o4 (Nat.lt_trans o5 (Nat.lt_trans o6 o7))))))), List.forall_mem_cons.mpr ⟨(Nat.ne_of_lt (Nat.lt_trans o2 (Nat.lt_trans o3 (Nat.lt_trans o4 (Nat.lt_trans o5 (Nat.lt_trans o6 o7)))))), List.forall_mem_cons.mpr ⟨(Nat.ne_of_lt (Nat.lt_trans o3 (Nat.lt_trans o4 (Nat.lt_trans o5 (Nat.lt_trans o6 o7))))), List.forall_mem_cons.mpr ⟨(Nat.ne_of_lt (Nat.lt_trans o4 (Nat.lt_trans o5 (Nat.lt_trans o6 o7)))), List.forall_mem_cons.mpr ⟨(Nat.ne_of_lt (Nat.lt_trans o6 o7)), List.forall_mem_cons.mpr ⟨(Nat.ne_of_lt o7), g8⟩⟩⟩⟩⟩⟩⟩⟩) (List.forall_mem_cons.mpr ⟨by k_ne, List.forall_mem_cons.mpr ⟨(Nat.ne_of_lt (Nat.lt_trans o0 (Nat.lt_trans o1 (Nat.lt_trans o2 (Nat.lt_trans o3 (Nat.lt_trans o4 (Nat.lt_trans o5 (Nat.lt_trans o6 (Nat.lt_trans o7 o8))))))))), List.forall_mem_cons.mpr ⟨(Nat.ne_of_lt (Nat.lt_trans o1 (Nat.lt_trans o2 (Nat.lt_trans o3 (Nat.lt_trans o4 (Nat.lt_trans o5 (Nat.lt_trans o6 (Nat.lt_trans o7 o8)))))))), List.forall_mem_cons.mpr ⟨(Nat.ne_of_lt (Nat.lt_trans o2 (Nat.lt_trans o3 (Nat.lt_trans o4 (Nat.lt_trans o5 (Nat.lt_trans o6 (Nat.lt_trans o7 o8))))))), List.forall_mem_cons.mpr ⟨(Nat.ne_of_lt (Nat.lt_trans o3 (Nat.lt_trans o4 (Nat.lt_trans o5 (Nat.lt_trans o6 (Nat.lt_trans o7 o8)))))), List.forall_mem_cons.mpr ⟨(Nat.ne_of_lt (Nat.lt_trans o4 (Nat.lt_trans o5 (Nat.lt_trans o6 (Nat.lt_trans o7 o8))))), List.forall_mem_cons.mpr ⟨(Nat.ne_of_lt (Nat.lt_trans o6 (Nat.lt_trans o7 o8))), List.forall_mem_cons.mpr ⟨(Nat.ne_of_lt (Nat.lt_trans o7 o8)), g9⟩⟩⟩⟩⟩⟩⟩⟩) (Nat.ne_of_lt (Nat.lt_trans o5 (Nat.lt_trans o6 o7))) (Nat.ne_of_lt (Nat.lt_trans o5 (Nat.lt_trans o6 (Nat.lt_trans o7 o8)))) (Nat.ne_of_lt o8) lost (by k_mem) (by k_mem) hcdR1 hcdR2 (by k_mem) (by k_mem) hcA1 hcA2 (by k_mem) hcK1 (by decide) (by k_mem) hcR1 (by k_mem) hcS1 (by k_mem) hcT1 (by k_mem) hcAd1 (by k_mem) hcW1 (by k_mem) (by k_mem) (by kernel_rfl) (by kernel_rfl) (by k_mem) (by kernel_rfl) (by kernel_rfl) ?hC hE₀ hS₀ hpos hfit hrun hlenr ?hret ?X)
  case B => k_asm
  case T => k_asm
  case X => k_asm
  case hk => exact rfl
  case hdp => k_dflt ktr_room
  case hu => k_dflt ktr_units
  case hC => exact fun p hp => ⟨hcr.ne (Nat.le_of_lt (Nat.lt_trans o5 (Nat.lt_trans o6 (Nat.lt_trans o7 o8)))) p hp, hcr.ne (Nat.le_of_lt o8) p hp, hcr.ne (Nat.le_refl _) p hp⟩
  case hret =>
    intro rows' nl' nr' ost' h' tk' F₅ N₅ hS₅ hI₅
    clear N8 F9
    try dsimp only at N₅
    iterate 300 (first | (with_reducible show wpAny _ _ (call (Value.ref 495) _ _) _ _ _) | walk_at "S1")
    rename News _ _ _ _ => N7
    rename Fr _ _ _ _ => F7
    have N6 := led_fin1 N7
    clear N7
    k_dflt (refine' free_all (mg := mg) ?B F7 ?T ?hk ?hdp ?hu N6 (by k_mem) (by k_mem) o1 o2 o3 o4 o5 o6 (List.forall_mem_cons.mpr ⟨(Nat.ne_of_gt (Nat.lt_trans o1 (Nat.lt_trans o2 (Nat.lt_trans o3 (Nat.lt_trans o4 (Nat.lt_trans o5 (Nat.lt_trans o6 o7))))))), List.forall_mem_cons.mpr ⟨(Nat.ne_of_gt (Nat.lt_trans o1 (Nat.lt_trans o2 (Nat.lt_trans o3 (Nat.lt_trans o4 (Nat.lt_trans o5 (Nat.lt_trans o6 (Nat.lt_trans o7 o8)))))))), List.forall_mem_cons.mpr ⟨(Nat.ne_of_lt o0), g1⟩⟩⟩) (List.forall_mem_cons.mpr ⟨(Nat.ne_of_gt (Nat.lt_trans o2 (Nat.lt_trans o3 (Nat.lt_trans o4 (Nat.lt_trans o5 (Nat.lt_trans o6 o7)))))), List.forall_mem_cons.mpr ⟨(Nat.ne_of_gt (Nat.lt_trans o2 (Nat.lt_trans o3 (Nat.lt_trans o4 (Nat.lt_trans o5 (Nat.lt_trans o6 (Nat.lt_trans o7 o8))))))), List.forall_mem_cons.mpr ⟨(Nat.ne_of_lt (Nat.lt_trans o0 o1)), g2⟩⟩⟩) (List.forall_mem_cons.mpr ⟨(Nat.ne_of_gt (Nat.lt_trans o3 (Nat.lt_trans o4 (Nat.lt_trans o5 (Nat.lt_trans o6 o7))))), List.forall_mem_cons.mpr ⟨(Nat.ne_of_gt (Nat.lt_trans o3 (Nat.lt_trans o4 (Nat.lt_trans o5 (Nat.lt_trans o6 (Nat.lt_trans o7 o8)))))), List.forall_mem_cons.mpr ⟨(Nat.ne_of_lt (Nat.lt_trans o0 (Nat.lt_trans o1 o2))), g3⟩⟩⟩) (List.forall_mem_cons.mpr ⟨(Nat.ne_of_gt (Nat.lt_trans o4 (Nat.lt_trans o5 (Nat.lt_trans o6 o7)))), List.forall_mem_cons.mpr ⟨(Nat.ne_of_gt (Nat.lt_trans o4 (Nat.lt_trans o5 (Nat.lt_trans o6 (Nat.lt_trans o7 o8))))), List.forall_mem_cons.mpr ⟨(Nat.ne_of_lt (Nat.lt_trans o0 (Nat.lt_trans o1 (Nat.lt_trans o2 o3)))), g4⟩⟩⟩) (List.forall_mem_cons.mpr ⟨(Nat.ne_of_gt (Nat.lt_trans o5 (Nat.lt_trans o6 o7))), List.forall_mem_cons.mpr ⟨(Nat.ne_of_gt (Nat.lt_trans o5 (Nat.lt_trans o6 (Nat.lt_trans o7 o8)))), List.forall_mem_cons.mpr ⟨(Nat.ne_of_lt (Nat.lt_trans o0 (Nat.lt_trans o1 (Nat.lt_trans o2 (Nat.lt_trans o3 o4))))), g5⟩⟩⟩) (List.forall_mem_cons.mpr ⟨(Nat.ne_of_gt (Nat.lt_trans o6 o7)), List.forall_mem_cons.mpr ⟨(Nat.ne_of_gt (Nat.lt_trans o6 (Nat.lt_trans o7 o8))), List.forall_mem_cons.mpr ⟨(Nat.ne_of_lt (Nat.lt_trans o0 (Nat.lt_trans o1 (Nat.lt_trans o2 (Nat.lt_trans o3 (Nat.lt_trans o4 o5)))))), g6⟩⟩⟩) (List.forall_mem_cons.mpr ⟨(Nat.ne_of_gt o7), List.forall_mem_cons.mpr ⟨(Nat.ne_of_gt (Nat.lt_trans o7 o8)), List.forall_mem_cons.mpr ⟨(Nat.ne_of_lt (Nat.lt_trans o0 (Nat.lt_trans o1 (Nat.lt_trans o2 (Nat.lt_trans o3 (Nat.lt_trans o4 (Nat.lt_trans o5 o6))))))), g7⟩⟩⟩) ?hret ?X)
    case B => k_asm
    case T => k_asm
    case X => k_asm
    case hk => exact rfl
    case hdp => k_dflt ktr_room
    case hu => k_dflt ktr_units
    case hret =>
      intro h8 tk8 m1 m2 m3 m4 m5 F₉ N₉
      clear N6 F7
      try dsimp only
      walk_at "GO"
      all_goals try (leave1; try dsimp only)
      exact hret rows' _ _ _ _ _ _ _ _ _ _ _ (by assumption) (by assumption) hS₅ hI₅
theorem anew43 : True := by
  w_top off
  trivial
theorem led_com2 {h₀ h : Heap} {L : Addr} {x a b c m1 m2 m3 m4 m5 m6 m7 : Addr × Obj} {R created rest : List (Addr × Obj)} (hR : R = created ++ rest) (N : News h₀ L h (x :: a :: b :: c :: m1 :: m2 :: m3 :: m4 :: m5 :: m6 :: m7 :: R)) :
    News h₀ L h (a :: b :: c :: (created ++ (x :: m1 :: m2 :: m3 :: m4 :: m5 :: m6 :: m7 :: rest))) := by
  refine cb_drop N ?_
  intro p hp
  rw [hR]
  simp only [List.mem_cons, List.mem_append] at hp ⊢
  grind
theorem led_fin2 {h₀ h : Heap} {L : Addr} {x a b c m1 m2 m3 m4 m5 m6 m7 y1 y2 y3 y4 : Addr × Obj} {rest : List (Addr × Obj)} (N : News h₀ L h (y1 :: y2 :: y3 :: y4 :: a :: b :: c :: x :: m1 :: m2 :: m3 :: m4 :: m5 :: m6 :: m7 :: rest)) :
    News h₀ L h (m2 :: m3 :: m4 :: m5 :: m6 :: a :: m7 :: b :: c :: m1 :: rest) := by
  refine cb_drop N ?_
  intro p hp
  simp only [List.mem_cons, List.mem_append] at hp ⊢
  grind
set_option maxRecDepth 100000 in
set_option maxHeartbeats 0 in
theorem abort2 {w : World} {p : Program} {loose : List Str} {mean : ExcName → Option Value} {mg' mb' : Str → Option Value}
    {dp un : Nat} {gd : Option (List Code)} {cn : Str} {cs : Scope} {a : Addr} {ccd : Value} {cl : List (Str × Addr)} {outer : List Env} {A₀ : Around} {base h₀ : Heap} {L : Addr} {m : Str → Option Value} {s : Shared}
    {qA qR : Str} {docA pmA ctvA docR pmR ctvR : Value} {addF codA readF codR cA cW cK cR cS cT st rw tr dx mg dmg sy dsy ly rl ad vo ex hb ha ab aa : Addr} {oA oW oK oR oS oT ocA ocR ost₀ : Obj} {esy : List DictEntry} {nsy nly n1 n2 n3 n4 nl₀ nr₀ k : Nat} {vsA vsR : Array Value} {tqA tqR : Tok}
    {items₀ : Array Value} {created₀ rest : List (Addr × Obj)} {tkk : Tok} {n0 : Nat} {qf : QS} {t1 t2 t3 t4 t5 t6 t7 t8 t9 t10 t11 t12 t13 t14 t15 : Tok}
    {Q E : Value → Shared → Prop}
    (B : Below A₀ base outer h₀) (F : Fr h₀ L s.heap m) (T : Top p loose mean mg' mb' h₀) (hk : cs.kind = .function) (hkk : k = 2) (hdp : dp + 24 < recursionLimit) (hu : un + 256 < cLine)
    (C1 : CodeHd base 662 658) (C2 : CodeHd base 513 509) (C3 : CodeHd base 475 471) (C4 : CodeHd base 359 355)
    (N : News h₀ L s.heap ((ab, W.listOf items₀ nl₀) :: (st, ost₀) :: (rw, W.listOf #[] nr₀) :: (509, tabObj #[]) :: (dmg, dictOf [ent w "explicit" t13 (.bool false), ent w "_txn" t14 (.ref tr), ent w "_synchs" t15 (.ref sy)] 3) :: (dx, dictOf [ent w "status" t1 ((.str (Str.ofString "Active") 413)), ent w "_resources" t2 (.ref rl), ent w "_synchronizers" t3 (.ref sy), ent w "_manager" t4 (.ref mg), ent w "_adapters" t5 (.ref ad), ent w "_voted" t6 (.ref vo), ent w "extension" t7 (.ref ex), ent w "_failure_traceback" t8 (.none), ent w "_before_commit" t9 (.ref hb), ent w "_after_commit" t10 (.ref ha), ent w "_before_abort" t11 (.ref ab), ent w "_after_abort" t12 (.ref aa)] 12) :: (rl, W.listOf #[] n1) :: (hb, W.listOf #[] n2) :: (ha, W.listOf #[] n3) :: (aa, W.listOf #[] n4) :: (created₀ ++ rest)))
    (o0 : @LT.lt Nat _ 509 dmg) (o1 : @LT.lt Nat _ dmg dx) (o2 : @LT.lt Nat _ dx rl) (o3 : @LT.lt Nat _ rl hb) (o4 : @LT.lt Nat _ hb ha) (o5 : @LT.lt Nat _ ha ab) (o6 : @LT.lt Nat _ ab aa) (o7 : @LT.lt Nat _ aa st) (o8 : @LT.lt Nat _ st rw)
    (g0 : ∀ p ∈ rest, p.1 ≠ 509) (g1 : ∀ p ∈ rest, p.1 ≠ dmg) (g2 : ∀ p ∈ rest, p.1 ≠ dx) (g3 : ∀ p ∈ rest, p.1 ≠ rl) (g4 : ∀ p ∈ rest, p.1 ≠ hb) (g5 : ∀ p ∈ rest, p.1 ≠ ha) (g6 : ∀ p ∈ rest, p.1 ≠ ab) (g7 : ∀ p ∈ rest, p.1 ≠ aa) (g8 : ∀ p ∈ rest, p.1 ≠ st) (g9 : ∀ p ∈ rest, p.1 ≠ rw)
    (hcr : Above rw created₀) (lost : (st == sysModules) = false)
    (hR : (readF, fnMade (Str.ofString "read") qR (paramsOf readSt) (bodyOf readSt) (scopeOf readSt) [(Str.ofString "state", cS), (Str.ofString "rows", cW), (Str.ofString "add", cA)] docR pmR codR ctvR) ∈ rest)
    (hcdR : (codR, ocR) ∈ rest) (hcdR1 : ocR.data = .fields vsR) (hcdR2 : vsR[1]? = some (.str qR tqR))
    (hA : (addF, fnMade (Str.ofString "add") qA (paramsOf addSt) (bodyOf addSt) (scopeOf addSt) [(Str.ofString "transaction", cT), (Str.ofString "state", cS), (Str.ofString "read", cR), (Str.ofString "kind", cK)] docA pmA codA ctvA) ∈ rest)
    (hcA : (codA, ocA) ∈ rest) (hcA1 : ocA.data = .fields vsA) (hcA2 : vsA[1]? = some (.str qA tqA))
    (hcK : (cK, oK) ∈ rest) (hcK1 : oK.data = .cell (some (.int (k : Nat) tkk))) (hk4 : k < 4)
    (hcR : (cR, oR) ∈ rest) (hcR1 : oR.data = .cell (some (.ref readF)))
    (hcS : (cS, oS) ∈ rest) (hcS1 : oS.data = .cell (some (.ref st)))
    (hcT : (cT, oT) ∈ rest) (hcT1 : oT.data = .cell (some (.ref tr)))
    (hcAd : (cA, oA) ∈ rest) (hcAd1 : oA.data = .cell (some (.ref addF)))
    (hcW : (cW, oW) ∈ rest) (hcW1 : oW.data = .cell (some (.ref rw)))
    (htr : (tr, instObj 546 dx) ∈ rest) (hmg : (mg, instObj 818 dmg) ∈ rest) (hsy : (sy, instObj 167 dsy) ∈ rest) (hds : (dsy, dictOf esy nsy) ∈ rest) (hly : (ly, W.listOf #[] nly) ∈ rest)
    (hda : getL (Str.ofString "data") esy = some (some (.ref ly))) (haw : getL (Str.ofString "as_weakref_list") esy = some none) (hmap : getL (Str.ofString "map") esy = some none)
    (hE₀ : EntsAt created₀ readF items₀.toList ((List.replicate n0 0).map toS)) (hS₀ : StIs w ost₀ (n0 : Nat) 0 0 0)
    (hpos : 0 < items₀.size) (hfit : items₀.size < 2 ^ 62) (hrun : runQ 1000 (startQ n0) = some qf) (hlenr : qf.ls.length = qf.r)
    (hret : ∀ (rows : Array Value) (m1 m2 m3 m4 m5 nr : Nat) (ost : Obj) (sv : Value) (ps : Array Value) (h' : Heap) (tk' : Nat), Fr h₀ L h' m → News h₀ L h' ((dmg, dictOf [ent w "explicit" t13 (.bool false), ent w "_txn" t14 (.none), ent w "_synchs" t15 (.ref sy)] 3) :: (dx, dictOf [ent w "status" t1 (sv), ent w "_resources" t2 (.ref rl), ent w "_synchronizers" t3 (.ref 212), ent w "_manager" t4 (.none), ent w "_adapters" t5 (.none), ent w "_voted" t6 (.none), ent w "extension" t7 (.none), ent w "_failure_traceback" t8 (.none), ent w "_before_commit" t9 (.ref hb), ent w "_after_commit" t10 (.ref ha), ent w "_before_abort" t11 (.ref ab), ent w "_after_abort" t12 (.ref aa)] 12) :: (rl, W.listOf #[] m1) :: (hb, W.listOf #[] m2) :: (ha, W.listOf #[] m3) :: (ab, W.listOf #[] m4) :: (aa, W.listOf #[] m5) :: (st, ost) :: (rw, W.listOf rows nr) :: (509, tabObj ps) :: rest) →
      StIs w ost (qf.ls.length : Nat) (qf.r : Nat) qf.o qf.v → IntsAre rows.toList qf.ns → Q .none { s with heap := h', toks := tk' }) :
    (hd.heap_39 w.params).In h₀ → wpAny (model PySem.Challenge.rw_bi0029_01.row.prog w) (ktrTop dp un gd cn cs L a ccd cl outer) (call (.ref 514) [.ref tr]) Q E s := by
  k_fill
  intro X
  subst hkk
  obtain ⟨R, hRR⟩ : ∃ R, R = created₀ ++ rest := ⟨_, rfl⟩
  rw [← hRR] at N
  have mR : ∀ q ∈ rest, q ∈ R := fun q hq => by rw [hRR]; exact List.mem_append_right _ hq
  have htr' := mR _ htr
  have hmg' := mR _ hmg
  have hsy' := mR _ hsy
  have hds' := mR _ hds
  have hly' := mR _ hly
  have gR0 : ∀ p ∈ R, p.1 ≠ 509 := aboveR hRR hcr (by omega) g0
  have gR1 : ∀ p ∈ R, p.1 ≠ dmg := aboveR hRR hcr (by omega) g1
  have gR2 : ∀ p ∈ R, p.1 ≠ dx := aboveR hRR hcr (by omega) g2
  have gR3 : ∀ p ∈ R, p.1 ≠ rl := aboveR hRR hcr (by omega) g3
  have gR4 : ∀ p ∈ R, p.1 ≠ hb := aboveR hRR hcr (by omega) g4
  have gR5 : ∀ p ∈ R, p.1 ≠ ha := aboveR hRR hcr (by omega) g5
  have gR6 : ∀ p ∈ R, p.1 ≠ ab := aboveR hRR hcr (by omega) g6
  have gR7 : ∀ p ∈ R, p.1 ≠ aa := aboveR hRR hcr (by omega) g7
  have gR8 : ∀ p ∈ R, p.1 ≠ st := aboveR hRR hcr (by omega) g8
  have gR9 : ∀ p ∈ R, p.1 ≠ rw := aboveR hRR hcr (by omega) g9
  (refine wpAny_call ?_; k_dflt (refine' code_defC ?k1 ?k2 ?k3 ?k4 ?k5 ?kA ?kF ?kK ?k6 ?k7 ?k8 ?k9 ?kB ?kD ?_ ?c2 ?c3 ?c4; (case kA => exact rfl); (case kF => exact rfl); (case kK => assumption); (case k1 => k_asm); (case k2 => k_asm); (case k3 => k_asm); (case k4 => k_asm); (case k5 => k_asm); (case k6 => k_is); (case k7 => k_is); (case k8 => ktr_room); (case k9 => first | exact BindsTo.of_eq rfl | exact binds_K (by k_in) rfl (by k_is) rfl rfl rfl); (case kB => exact rfl); (case kD => decide +kernel); (case c2 => exact rfl); (case c3 => exact rfl); (case c4 => exact rfl); k_whole; intro g' L' h' tk' cells' FG' F' N' Y' B' X' T' l1; (try k_lt l1); k_cells Y'; (try simp only [List.cons_append, List.nil_append] at N'); (try dsimp only); (try k_lift B'); (try k_fold)))
  iterate 200 (first | (with_reducible show wpAny _ _ (call (Value.ref 446) _ _) _ _ _) | walk_at "S1")
  rename News _ _ _ _ => N9
  rename Fr _ _ _ _ => F9
  have N8 := led_com2 hRR N9
  clear N9
  k_dflt (refine' hook_call2 (k := 2) (qf := qf) ?B F9 ?T ?hk rfl ?hdp ?hu N8 (List.forall_mem_cons.mpr ⟨by k_ne, List.forall_mem_cons.mpr ⟨(Nat.ne_of_lt (Nat.lt_trans o0 (Nat.lt_trans o1 (Nat.lt_trans o2 (Nat.lt_trans o3 (Nat.lt_trans o4 o5)))))), List.forall_mem_cons.mpr ⟨(Nat.ne_of_lt (Nat.lt_trans o1 (Nat.lt_trans o2 (Nat.lt_trans o3 (Nat.lt_trans o4 o5))))), List.forall_mem_cons.mpr ⟨(Nat.ne_of_lt (Nat.lt_trans o2 (Nat.lt_trans o3 (Nat.lt_trans o4 o5)))), List.forall_mem_cons.mpr ⟨(Nat.ne_of_lt (Nat.lt_trans o3 (Nat.lt_trans o4 o5))), List.forall_mem_cons.mpr ⟨(Nat.ne_of_lt (Nat.lt_trans o4 o5)), List.forall_mem_cons.mpr ⟨(Nat.ne_of_lt o5), List.forall_mem_cons.mpr ⟨(Nat.ne_of_gt o6), g6⟩⟩⟩⟩⟩⟩⟩⟩) (List.forall_mem_cons.mpr ⟨by k_ne, List.forall_mem_cons.mpr ⟨(Nat.ne_of_lt (Nat.lt_trans o0 (Nat.lt_trans o1 (Nat.lt_trans o2 (Nat.lt_trans o3 (Nat.lt_trans o4 (Nat.lt_trans o5 (Nat.lt_trans o6 o7)))))))), List.forall_mem_cons.mpr ⟨(Nat.ne_of_lt (Nat.lt_trans o1 (Nat.lt_trans o2 (Nat.lt_trans o3 (Nat.lt_trans o4 (Nat.lt_trans o5 (Nat.lt_trans o6 o7))))))), List.forall_mem_cons.mpr ⟨(Nat.ne_of_lt (Nat.lt_trans o2 (Nat.lt_trans o3 (Nat.lt_trans o4 (Nat.lt_trans o5 (Nat.lt_trans o6 o7)))))), List.forall_mem_cons.mpr ⟨(Nat.ne_of_lt (Nat.lt_trans o3 (Nat.lt_trans o4 (Nat.lt_trans o5 (Nat.lt_trans o6 o7))))), List.forall_mem_cons.mpr ⟨(Nat.ne_of_lt (Nat.lt_trans o4 (Nat.lt_trans o5 (Nat.lt_trans o6 o7)))), List.forall_mem_cons.mpr ⟨(Nat.ne_of_lt (Nat.lt_trans o5 (Nat.lt_trans o6 o7))), List.forall_mem_cons.mpr ⟨(Nat.ne_of_lt o7), g8⟩⟩⟩⟩⟩⟩⟩⟩) (List.forall_mem_cons.mpr ⟨by k_ne, List.forall_mem_cons.mpr ⟨(Nat.ne_of_lt (Nat.lt_trans o0 (Nat.lt_trans o1 (Nat.lt_trans o2 (Nat.lt_trans o3 (Nat.lt_trans o4 (Nat.lt_trans o5 (Nat.lt_trans o6 (Nat.lt_trans o7 o8))))))))), List.forall_mem_cons.mpr ⟨(Nat.ne_of_lt (Nat.lt_trans o1 (Nat.lt_trans o2 (Nat.lt_trans o3 (Nat.lt_trans o4 (Nat.lt_trans o5 (Nat.lt_trans o6 (Nat.lt_trans o7 o8)))))))), List.forall_mem_cons.mpr ⟨(Nat.ne_of_lt (Nat.lt_trans o2 (Nat.lt_trans o3 (Nat.lt_trans o4 (Nat.lt_trans o5 (Nat.lt_trans o6 (Nat.lt_trans o7 o8))))))), List.forall_mem_cons.mpr ⟨(Nat.ne_of_lt (Nat.lt_trans o3 (Nat.lt_trans o4 (Nat.lt_trans o5 (Nat.lt_trans o6 (Nat.lt_trans o7 o8)))))), List.forall_mem_cons.mpr ⟨(Nat.ne_of_lt (Nat.lt_trans o4 (Nat.lt_trans o5 (Nat.lt_trans o6 (Nat.lt_trans o7 o8))))), List.forall_mem_cons.mpr ⟨(Nat.ne_of_lt (Nat.lt_trans o5 (Nat.lt_trans o6 (Nat.lt_trans o7 o8)))), List.forall_mem_cons.mpr ⟨(Nat.ne_of_lt (Nat.lt_trans o7 o8)), g9⟩⟩⟩⟩⟩⟩⟩⟩) (Nat.ne_of_lt (Nat.lt_trans o6 o7)) (Nat.ne_of_lt (Nat.lt_trans o6 (Nat.lt_trans o7 o8))) (Nat.ne_of_lt o8) lost (by k_mem) (by k_mem) hcdR1 hcdR2 (by k_mem) (by k_mem) hcA1 hcA2 (by k_mem) hcK1 (by decide) (by k_mem) hcR1 (by k_mem) hcS1 (by k_mem) hcT1 (by k_mem) hcAd1 (by k_mem) hcW1 (by k_mem) (by k_mem) (by kernel_rfl) (by kernel_rfl) (by k_mem) (by kernel_rfl) (by kernel_rfl) ?hC hE₀ hS₀ hpos hfit hrun hlenr ?hret ?X)
  case B => k_asm
  case T => k_asm
  case X => k_asm
  case hk => exact rfl
  case hdp => k_dflt ktr_room
  case hu => k_dflt ktr_units
  case hC => exact fun p hp => ⟨hcr.ne (Nat.le_of_lt (Nat.lt_trans o6 (Nat.lt_trans o7 o8))) p hp, hcr.ne (Nat.le_of_lt o8) p hp, hcr.ne (Nat.le_refl _) p hp⟩
  case hret =>
    intro rows' nl' nr' ost' h' tk' F₅ N₅ hS₅ hI₅
    clear N8 F9
    try dsimp only at N₅
    iterate 300 (first | (with_reducible show wpAny _ _ (call (Value.ref 495) _ _) _ _ _) | walk_at "S1")
    rename News _ _ _ _ => N7
    rename Fr _ _ _ _ => F7
    have N6 := led_fin2 N7
    clear N7
    k_dflt (refine' free_rest (mg := mg) ?B F7 ?T ?hk ?hdp ?hu N6 (by k_mem) (by k_mem) o1 o2 o3 o4 o5 o6 (List.forall_mem_cons.mpr ⟨(Nat.ne_of_gt (Nat.lt_trans o1 (Nat.lt_trans o2 (Nat.lt_trans o3 (Nat.lt_trans o4 (Nat.lt_trans o5 (Nat.lt_trans o6 o7))))))), List.forall_mem_cons.mpr ⟨(Nat.ne_of_gt (Nat.lt_trans o1 (Nat.lt_trans o2 (Nat.lt_trans o3 (Nat.lt_trans o4 (Nat.lt_trans o5 (Nat.lt_trans o6 (Nat.lt_trans o7 o8)))))))), List.forall_mem_cons.mpr ⟨(Nat.ne_of_lt o0), g1⟩⟩⟩) (List.forall_mem_cons.mpr ⟨(Nat.ne_of_gt (Nat.lt_trans o2 (Nat.lt_trans o3 (Nat.lt_trans o4 (Nat.lt_trans o5 (Nat.lt_trans o6 o7)))))), List.forall_mem_cons.mpr ⟨(Nat.ne_of_gt (Nat.lt_trans o2 (Nat.lt_trans o3 (Nat.lt_trans o4 (Nat.lt_trans o5 (Nat.lt_trans o6 (Nat.lt_trans o7 o8))))))), List.forall_mem_cons.mpr ⟨(Nat.ne_of_lt (Nat.lt_trans o0 o1)), g2⟩⟩⟩) (List.forall_mem_cons.mpr ⟨(Nat.ne_of_gt (Nat.lt_trans o3 (Nat.lt_trans o4 (Nat.lt_trans o5 (Nat.lt_trans o6 o7))))), List.forall_mem_cons.mpr ⟨(Nat.ne_of_gt (Nat.lt_trans o3 (Nat.lt_trans o4 (Nat.lt_trans o5 (Nat.lt_trans o6 (Nat.lt_trans o7 o8)))))), List.forall_mem_cons.mpr ⟨(Nat.ne_of_lt (Nat.lt_trans o0 (Nat.lt_trans o1 o2))), g3⟩⟩⟩) (List.forall_mem_cons.mpr ⟨(Nat.ne_of_gt (Nat.lt_trans o4 (Nat.lt_trans o5 (Nat.lt_trans o6 o7)))), List.forall_mem_cons.mpr ⟨(Nat.ne_of_gt (Nat.lt_trans o4 (Nat.lt_trans o5 (Nat.lt_trans o6 (Nat.lt_trans o7 o8))))), List.forall_mem_cons.mpr ⟨(Nat.ne_of_lt (Nat.lt_trans o0 (Nat.lt_trans o1 (Nat.lt_trans o2 o3)))), g4⟩⟩⟩) (List.forall_mem_cons.mpr ⟨(Nat.ne_of_gt (Nat.lt_trans o5 (Nat.lt_trans o6 o7))), List.forall_mem_cons.mpr ⟨(Nat.ne_of_gt (Nat.lt_trans o5 (Nat.lt_trans o6 (Nat.lt_trans o7 o8)))), List.forall_mem_cons.mpr ⟨(Nat.ne_of_lt (Nat.lt_trans o0 (Nat.lt_trans o1 (Nat.lt_trans o2 (Nat.lt_trans o3 o4))))), g5⟩⟩⟩) (List.forall_mem_cons.mpr ⟨(Nat.ne_of_gt (Nat.lt_trans o6 o7)), List.forall_mem_cons.mpr ⟨(Nat.ne_of_gt (Nat.lt_trans o6 (Nat.lt_trans o7 o8))), List.forall_mem_cons.mpr ⟨(Nat.ne_of_lt (Nat.lt_trans o0 (Nat.lt_trans o1 (Nat.lt_trans o2 (Nat.lt_trans o3 (Nat.lt_trans o4 o5)))))), g6⟩⟩⟩) (List.forall_mem_cons.mpr ⟨(Nat.ne_of_gt o7), List.forall_mem_cons.mpr ⟨(Nat.ne_of_gt (Nat.lt_trans o7 o8)), List.forall_mem_cons.mpr ⟨(Nat.ne_of_lt (Nat.lt_trans o0 (Nat.lt_trans o1 (Nat.lt_trans o2 (Nat.lt_trans o3 (Nat.lt_trans o4 (Nat.lt_trans o5 o6))))))), g7⟩⟩⟩) ?hret ?X)
    case B => k_asm
    case T => k_asm
    case X => k_asm
    case hk => exact rfl
    case hdp => k_dflt ktr_room
    case hu => k_dflt ktr_units
    case hret =>
      intro h8 tk8 m1 m2 m3 m4 m5 F₉ N₉
      clear N6 F7
      try dsimp only
      walk_at "GO"
      all_goals try (leave1; try dsimp only)
      exact hret rows' _ _ _ _ _ _ _ _ _ _ _ (by assumption) (by assumption) hS₅ hI₅
theorem anew44 : True := by
  w_top off
  trivial
theorem led_com3 {h₀ h : Heap} {L : Addr} {x a b c m1 m2 m3 m4 m5 m6 m7 y1 y2 : Addr × Obj} {R created rest : List (Addr × Obj)} (hR : R = created ++ rest) (N : News h₀ L h (y1 :: y2 :: x :: a :: b :: c :: m1 :: m2 :: m3 :: m4 :: m5 :: m6 :: m7 :: R)) :
    News h₀ L h (a :: b :: c :: (created ++ (x :: m1 :: m2 :: m3 :: m4 :: m5 :: m6 :: m7 :: rest))) := by
  refine cb_drop N ?_
  intro p hp
  rw [hR]
  simp only [List.mem_cons, List.mem_append] at hp ⊢
  grind
theorem led_fin3 {h₀ h : Heap} {L : Addr} {x a b c m1 m2 m3 m4 m5 m6 m7 y1 y2 : Addr × Obj} {rest : List (Addr × Obj)} (N : News h₀ L h (y1 :: y2 :: a :: b :: c :: x :: m1 :: m2 :: m3 :: m4 :: m5 :: m6 :: m7 :: rest)) :
    News h₀ L h (m2 :: m3 :: m4 :: m5 :: m6 :: m7 :: a :: b :: c :: m1 :: rest) := by
  refine cb_drop N ?_
  intro p hp
  simp only [List.mem_cons, List.mem_append] at hp ⊢
  grind
set_option maxRecDepth 100000 in
set_option maxHeartbeats 0 in
theorem abort3 {w : World} {p : Program} {loose : List Str} {mean : ExcName → Option Value} {mg' mb' : Str → Option Value}
    {dp un : Nat} {gd : Option (List Code)} {cn : Str} {cs : Scope} {a : Addr} {ccd : Value} {cl : List (Str × Addr)} {outer : List Env} {A₀ : Around} {base h₀ : Heap} {L : Addr} {m : Str → Option Value} {s : Shared}
    {qA qR : Str} {docA pmA ctvA docR pmR ctvR : Value} {addF codA readF codR cA cW cK cR cS cT st rw tr dx mg dmg sy dsy ly rl ad vo ex hb ha ab aa : Addr} {oA oW oK oR oS oT ocA ocR ost₀ : Obj} {esy : List DictEntry} {nsy nly n1 n2 n3 n4 nl₀ nr₀ k : Nat} {vsA vsR : Array Value} {tqA tqR : Tok}
    {items₀ : Array Value} {created₀ rest : List (Addr × Obj)} {tkk : Tok} {n0 : Nat} {qf : QS} {t1 t2 t3 t4 t5 t6 t7 t8 t9 t10 t11 t12 t13 t14 t15 : Tok}
    {Q E : Value → Shared → Prop}
    (B : Below A₀ base outer h₀) (F : Fr h₀ L s.heap m) (T : Top p loose mean mg' mb' h₀) (hk : cs.kind = .function) (hkk : k = 3) (hdp : dp + 24 < recursionLimit) (hu : un + 256 < cLine)
    (C1 : CodeHd base 662 658) (C2 : CodeHd base 513 509) (C3 : CodeHd base 475 471) (C4 : CodeHd base 359 355)
    (N : News h₀ L s.heap ((aa, W.listOf items₀ nl₀) :: (st, ost₀) :: (rw, W.listOf #[] nr₀) :: (509, tabObj #[]) :: (dmg, dictOf [ent w "explicit" t13 (.bool false), ent w "_txn" t14 (.ref tr), ent w "_synchs" t15 (.ref sy)] 3) :: (dx, dictOf [ent w "status" t1 ((.str (Str.ofString "Active") 413)), ent w "_resources" t2 (.ref rl), ent w "_synchronizers" t3 (.ref sy), ent w "_manager" t4 (.ref mg), ent w "_adapters" t5 (.ref ad), ent w "_voted" t6 (.ref vo), ent w "extension" t7 (.ref ex), ent w "_failure_traceback" t8 (.none), ent w "_before_commit" t9 (.ref hb), ent w "_after_commit" t10 (.ref ha), ent w "_before_abort" t11 (.ref ab), ent w "_after_abort" t12 (.ref aa)] 12) :: (rl, W.listOf #[] n1) :: (hb, W.listOf #[] n2) :: (ha, W.listOf #[] n3) :: (ab, W.listOf #[] n4) :: (created₀ ++ rest)))
    (o0 : @LT.lt Nat _ 509 dmg) (o1 : @LT.lt Nat _ dmg dx) (o2 : @LT.lt Nat _ dx rl) (o3 : @LT.lt Nat _ rl hb) (o4 : @LT.lt Nat _ hb ha) (o5 : @LT.lt Nat _ ha ab) (o6 : @LT.lt Nat _ ab aa) (o7 : @LT.lt Nat _ aa st) (o8 : @LT.lt Nat _ st rw)
    (g0 : ∀ p ∈ rest, p.1 ≠ 509) (g1 : ∀ p ∈ rest, p.1 ≠ dmg) (g2 : ∀ p ∈ rest, p.1 ≠ dx) (g3 : ∀ p ∈ rest, p.1 ≠ rl) (g4 : ∀ p ∈ rest, p.1 ≠ hb) (g5 : ∀ p ∈ rest, p.1 ≠ ha) (g6 : ∀ p ∈ rest, p.1 ≠ ab) (g7 : ∀ p ∈ rest, p.1 ≠ aa) (g8 : ∀ p ∈ rest, p.1 ≠ st) (g9 : ∀ p ∈ rest, p.1 ≠ rw)
    (hcr : Above rw created₀) (lost : (st == sysModules) = false)
    (hR : (readF, fnMade (Str.ofString "read") qR (paramsOf readSt) (bodyOf readSt) (scopeOf readSt) [(Str.ofString "state", cS), (Str.ofString "rows", cW), (Str.ofString "add", cA)] docR pmR codR ctvR) ∈ rest)
    (hcdR : (codR, ocR) ∈ rest) (hcdR1 : ocR.data = .fields vsR) (hcdR2 : vsR[1]? = some (.str qR tqR))
    (hA : (addF, fnMade (Str.ofString "add") qA (paramsOf addSt) (bodyOf addSt) (scopeOf addSt) [(Str.ofString "transaction", cT), (Str.ofString "state", cS), (Str.ofString "read", cR), (Str.ofString "kind", cK)] docA pmA codA ctvA) ∈ rest)
    (hcA : (codA, ocA) ∈ rest) (hcA1 : ocA.data = .fields vsA) (hcA2 : vsA[1]? = some (.str qA tqA))
    (hcK : (cK, oK) ∈ rest) (hcK1 : oK.data = .cell (some (.int (k : Nat) tkk))) (hk4 : k < 4)
    (hcR : (cR, oR) ∈ rest) (hcR1 : oR.data = .cell (some (.ref readF)))
    (hcS : (cS, oS) ∈ rest) (hcS1 : oS.data = .cell (some (.ref st)))
    (hcT : (cT, oT) ∈ rest) (hcT1 : oT.data = .cell (some (.ref tr)))
    (hcAd : (cA, oA) ∈ rest) (hcAd1 : oA.data = .cell (some (.ref addF)))
    (hcW : (cW, oW) ∈ rest) (hcW1 : oW.data = .cell (some (.ref rw)))
    (htr : (tr, instObj 546 dx) ∈ rest) (hmg : (mg, instObj 818 dmg) ∈ rest) (hsy : (sy, instObj 167 dsy) ∈ rest) (hds : (dsy, dictOf esy nsy) ∈ rest) (hly : (ly, W.listOf #[] nly) ∈ rest)
    (hda : getL (Str.ofString "data") esy = some (some (.ref ly))) (haw : getL (Str.ofString "as_weakref_list") esy = some none) (hmap : getL (Str.ofString "map") esy = some none)
    (hE₀ : EntsAt created₀ readF items₀.toList ((List.replicate n0 0).map toS)) (hS₀ : StIs w ost₀ (n0 : Nat) 0 0 0)
    (hpos : 0 < items₀.size) (hfit : items₀.size < 2 ^ 62) (hrun : runQ 1000 (startQ n0) = some qf) (hlenr : qf.ls.length = qf.r)
    (hret : ∀ (rows : Array Value) (m1 m2 m3 m4 m5 nr : Nat) (ost : Obj) (sv : Value) (ps : Array Value) (h' : Heap) (tk' : Nat), Fr h₀ L h' m → News h₀ L h' ((dmg, dictOf [ent w "explicit" t13 (.bool false), ent w "_txn" t14 (.none), ent w "_synchs" t15 (.ref sy)] 3) :: (dx, dictOf [ent w "status" t1 (sv), ent w "_resources" t2 (.ref rl), ent w "_synchronizers" t3 (.ref 212), ent w "_manager" t4 (.none), ent w "_adapters" t5 (.none), ent w "_voted" t6 (.none), ent w "extension" t7 (.none), ent w "_failure_traceback" t8 (.none), ent w "_before_commit" t9 (.ref hb), ent w "_after_commit" t10 (.ref ha), ent w "_before_abort" t11 (.ref ab), ent w "_after_abort" t12 (.ref aa)] 12) :: (rl, W.listOf #[] m1) :: (hb, W.listOf #[] m2) :: (ha, W.listOf #[] m3) :: (ab, W.listOf #[] m4) :: (aa, W.listOf #[] m5) :: (st, ost) :: (rw, W.listOf rows nr) :: (509, tabObj ps) :: rest) →
      StIs w ost (qf.ls.length : Nat) (qf.r : Nat) qf.o qf.v → IntsAre rows.toList qf.ns → Q .none { s with heap := h', toks := tk' }) :
    (hd.heap_39 w.params).In h₀ → wpAny (model PySem.Challenge.rw_bi0029_01.row.prog w) (ktrTop dp un gd cn cs L a ccd cl outer) (call (.ref 514) [.ref tr]) Q E s := by
  k_fill
  intro X
  subst hkk
  obtain ⟨R, hRR⟩ : ∃ R, R = created₀ ++ rest := ⟨_, rfl⟩
  rw [← hRR] at N
  have mR : ∀ q ∈ rest, q ∈ R := fun q hq => by rw [hRR]; exact List.mem_append_right _ hq
  have htr' := mR _ htr
  have hmg' := mR _ hmg
  have hsy' := mR _ hsy
  have hds' := mR _ hds
  have hly' := mR _ hly
  have gR0 : ∀ p ∈ R, p.1 ≠ 509 := aboveR hRR hcr (by omega) g0
  have gR1 : ∀ p ∈ R, p.1 ≠ dmg := aboveR hRR hcr (by omega) g1
  have gR2 : ∀ p ∈ R, p.1 ≠ dx := aboveR hRR hcr (by omega) g2
  have gR3 : ∀ p ∈ R, p.1 ≠ rl := aboveR hRR hcr (by omega) g3
  have gR4 : ∀ p ∈ R, p.1 ≠ hb := aboveR hRR hcr (by omega) g4
  have gR5 : ∀ p ∈ R, p.1 ≠ ha := aboveR hRR hcr (by omega) g5
  have gR6 : ∀ p ∈ R, p.1 ≠ ab := aboveR hRR hcr (by omega) g6
  have gR7 : ∀ p ∈ R, p.1 ≠ aa := aboveR hRR hcr (by omega) g7
  have gR8 : ∀ p ∈ R, p.1 ≠ st := aboveR hRR hcr (by omega) g8
  have gR9 : ∀ p ∈ R, p.1 ≠ rw := aboveR hRR hcr (by omega) g9
  (refine wpAny_call ?_; k_dflt (refine' code_defC ?k1 ?k2 ?k3 ?k4 ?k5 ?kA ?kF ?kK ?k6 ?k7 ?k8 ?k9 ?kB ?kD ?_ ?c2 ?c3 ?c4; (case kA => exact rfl); (case kF => exact rfl); (case kK => assumption); (case k1 => k_asm); (case k2 => k_asm); (case k3 => k_asm); (case k4 => k_asm); (case k5 => k_asm); (case k6 => k_is); (case k7 => k_is); (case k8 => ktr_room); (case k9 => first | exact BindsTo.of_eq rfl | exact binds_K (by k_in) rfl (by k_is) rfl rfl rfl); (case kB => exact rfl); (case kD => decide +kernel); (case c2 => exact rfl); (case c3 => exact rfl); (case c4 => exact rfl); k_whole; intro g' L' h' tk' cells' FG' F' N' Y' B' X' T' l1; (try k_lt l1); k_cells Y'; (try simp only [List.cons_append, List.nil_append] at N'); (try dsimp only); (try k_lift B'); (try k_fold)))
  iterate 200 (first | (with_reducible show wpAny _ _ (call (Value.ref 469) _ _) _ _ _) | walk_at "S1")
  rename News _ _ _ _ => N9
  rename Fr _ _ _ _ => F9
  have N8 := led_com3 hRR N9
  clear N9
  k_dflt (refine' hook_call3 (k := 3) (qf := qf) ?B F9 ?T ?hk rfl ?hdp ?hu N8 (List.forall_mem_cons.mpr ⟨by k_ne, List.forall_mem_cons.mpr ⟨(Nat.ne_of_lt (Nat.lt_trans o0 (Nat.lt_trans o1 (Nat.lt_trans o2 (Nat.lt_trans o3 (Nat.lt_trans o4 (Nat.lt_trans o5 o6))))))), List.forall_mem_cons.mpr ⟨(Nat.ne_of_lt (Nat.lt_trans o1 (Nat.lt_trans o2 (Nat.lt_trans o3 (Nat.lt_trans o4 (Nat.lt_trans o5 o6)))))), List.forall_mem_cons.mpr ⟨(Nat.ne_of_lt (Nat.lt_trans o2 (Nat.lt_trans o3 (Nat.lt_trans o4 (Nat.lt_trans o5 o6))))), List.forall_mem_cons.mpr ⟨(Nat.ne_of_lt (Nat.lt_trans o3 (Nat.lt_trans o4 (Nat.lt_trans o5 o6)))), List.forall_mem_cons.mpr ⟨(Nat.ne_of_lt (Nat.lt_trans o4 (Nat.lt_trans o5 o6))), List.forall_mem_cons.mpr ⟨(Nat.ne_of_lt (Nat.lt_trans o5 o6)), List.forall_mem_cons.mpr ⟨(Nat.ne_of_lt o6), g7⟩⟩⟩⟩⟩⟩⟩⟩) (List.forall_mem_cons.mpr ⟨by k_ne, List.forall_mem_cons.mpr ⟨(Nat.ne_of_lt (Nat.lt_trans o0 (Nat.lt_trans o1 (Nat.lt_trans o2 (Nat.lt_trans o3 (Nat.lt_trans o4 (Nat.lt_trans o5 (Nat.lt_trans o6 o7)))))))), List.forall_mem_cons.mpr ⟨(Nat.ne_of_lt (Nat.lt_trans o1 (Nat.lt_trans o2 (Nat.lt_trans o3 (Nat.lt_trans o4 (Nat.lt_trans o5 (Nat.lt_trans o6 o7))))))), List.forall_mem_cons.mpr ⟨(Nat.ne_of_lt (Nat.lt_trans o2 (Nat.lt_trans o3 (Nat.lt_trans o4 (Nat.lt_trans o5 (Nat.lt_trans o6 o7)))))), List.forall_mem_cons.mpr ⟨(Nat.ne_of_lt (Nat.lt_trans o3 (Nat.lt_trans o4 (Nat.lt_trans o5 (Nat.lt_trans o6 o7))))), List.forall_mem_cons.mpr ⟨(Nat.ne_of_lt (Nat.lt_trans o4 (Nat.lt_trans o5 (Nat.lt_trans o6 o7)))), List.forall_mem_cons.mpr ⟨(Nat.ne_of_lt (Nat.lt_trans o5 (Nat.lt_trans o6 o7))), List.forall_mem_cons.mpr ⟨(Nat.ne_of_lt (Nat.lt_trans o6 o7)), g8⟩⟩⟩⟩⟩⟩⟩⟩) (List.forall_mem_cons.mpr ⟨by k_ne, List.forall_mem_cons.mpr ⟨(Nat.ne_of_lt (Nat.lt_trans o0 (Nat.lt_trans o1 (Nat.lt_trans o2 (Nat.lt_trans o3 (Nat.lt_trans o4 (Nat.lt_trans o5 (Nat.lt_trans o6 (Nat.lt_trans o7 o8))))))))), List.forall_mem_cons.mpr ⟨(Nat.ne_of_lt (Nat.lt_trans o1 (Nat.lt_trans o2 (Nat.lt_trans o3 (Nat.lt_trans o4 (Nat.lt_trans o5 (Nat.lt_trans o6 (Nat.lt_trans o7 o8)))))))), List.forall_mem_cons.mpr ⟨(Nat.ne_of_lt (Nat.lt_trans o2 (Nat.lt_trans o3 (Nat.lt_trans o4 (Nat.lt_trans o5 (Nat.lt_trans o6 (Nat.lt_trans o7 o8))))))), List.forall_mem_cons.mpr ⟨(Nat.ne_of_lt (Nat.lt_trans o3 (Nat.lt_trans o4 (Nat.lt_trans o5 (Nat.lt_trans o6 (Nat.lt_trans o7 o8)))))), List.forall_mem_cons.mpr ⟨(Nat.ne_of_lt (Nat.lt_trans o4 (Nat.lt_trans o5 (Nat.lt_trans o6 (Nat.lt_trans o7 o8))))), List.forall_mem_cons.mpr ⟨(Nat.ne_of_lt (Nat.lt_trans o5 (Nat.lt_trans o6 (Nat.lt_trans o7 o8)))), List.forall_mem_cons.mpr ⟨(Nat.ne_of_lt (Nat.lt_trans o6 (Nat.lt_trans o7 o8))), g9⟩⟩⟩⟩⟩⟩⟩⟩) (Nat.ne_of_lt o7) (Nat.ne_of_lt (Nat.lt_trans o7 o8)) (Nat.ne_of_lt o8) lost (by k_mem) (by k_mem) hcdR1 hcdR2 (by k_mem) (by k_mem) hcA1 hcA2 (by k_mem) hcK1 (by decide) (by k_mem) hcR1 (by k_mem) hcS1 (by k_mem) hcT1 (by k_mem) hcAd1 (by k_mem) hcW1 (by k_mem) (by k_mem) (by kernel_rfl) (by kernel_rfl) (by k_mem) (by kernel_rfl) (by kernel_rfl) ?hC hE₀ hS₀ hpos hfit hrun hlenr ?hret ?X)
  case B => k_asm
  case T => k_asm
  case X => k_asm
  case hk => exact rfl
  case hdp => k_dflt ktr_room
  case hu => k_dflt ktr_units
  case hC => exact fun p hp => ⟨hcr.ne (Nat.le_of_lt (Nat.lt_trans o7 o8)) p hp, hcr.ne (Nat.le_of_lt o8) p hp, hcr.ne (Nat.le_refl _) p hp⟩
  case hret =>
    intro rows' nl' nr' ost' h' tk' F₅ N₅ hS₅ hI₅
    clear N8 F9
    try dsimp only at N₅
    iterate 300 (first | (with_reducible show wpAny _ _ (call (Value.ref 495) _ _) _ _ _) | walk_at "S1")
    rename News _ _ _ _ => N7
    rename Fr _ _ _ _ => F7
    have N6 := led_fin3 N7
    clear N7
    k_dflt (refine' free_rest (mg := mg) ?B F7 ?T ?hk ?hdp ?hu N6 (by k_mem) (by k_mem) o1 o2 o3 o4 o5 o6 (List.forall_mem_cons.mpr ⟨(Nat.ne_of_gt (Nat.lt_trans o1 (Nat.lt_trans o2 (Nat.lt_trans o3 (Nat.lt_trans o4 (Nat.lt_trans o5 (Nat.lt_trans o6 o7))))))), List.forall_mem_cons.mpr ⟨(Nat.ne_of_gt (Nat.lt_trans o1 (Nat.lt_trans o2 (Nat.lt_trans o3 (Nat.lt_trans o4 (Nat.lt_trans o5 (Nat.lt_trans o6 (Nat.lt_trans o7 o8)))))))), List.forall_mem_cons.mpr ⟨(Nat.ne_of_lt o0), g1⟩⟩⟩) (List.forall_mem_cons.mpr ⟨(Nat.ne_of_gt (Nat.lt_trans o2 (Nat.lt_trans o3 (Nat.lt_trans o4 (Nat.lt_trans o5 (Nat.lt_trans o6 o7)))))), List.forall_mem_cons.mpr ⟨(Nat.ne_of_gt (Nat.lt_trans o2 (Nat.lt_trans o3 (Nat.lt_trans o4 (Nat.lt_trans o5 (Nat.lt_trans o6 (Nat.lt_trans o7 o8))))))), List.forall_mem_cons.mpr ⟨(Nat.ne_of_lt (Nat.lt_trans o0 o1)), g2⟩⟩⟩) (List.forall_mem_cons.mpr ⟨(Nat.ne_of_gt (Nat.lt_trans o3 (Nat.lt_trans o4 (Nat.lt_trans o5 (Nat.lt_trans o6 o7))))), List.forall_mem_cons.mpr ⟨(Nat.ne_of_gt (Nat.lt_trans o3 (Nat.lt_trans o4 (Nat.lt_trans o5 (Nat.lt_trans o6 (Nat.lt_trans o7 o8)))))), List.forall_mem_cons.mpr ⟨(Nat.ne_of_lt (Nat.lt_trans o0 (Nat.lt_trans o1 o2))), g3⟩⟩⟩) (List.forall_mem_cons.mpr ⟨(Nat.ne_of_gt (Nat.lt_trans o4 (Nat.lt_trans o5 (Nat.lt_trans o6 o7)))), List.forall_mem_cons.mpr ⟨(Nat.ne_of_gt (Nat.lt_trans o4 (Nat.lt_trans o5 (Nat.lt_trans o6 (Nat.lt_trans o7 o8))))), List.forall_mem_cons.mpr ⟨(Nat.ne_of_lt (Nat.lt_trans o0 (Nat.lt_trans o1 (Nat.lt_trans o2 o3)))), g4⟩⟩⟩) (List.forall_mem_cons.mpr ⟨(Nat.ne_of_gt (Nat.lt_trans o5 (Nat.lt_trans o6 o7))), List.forall_mem_cons.mpr ⟨(Nat.ne_of_gt (Nat.lt_trans o5 (Nat.lt_trans o6 (Nat.lt_trans o7 o8)))), List.forall_mem_cons.mpr ⟨(Nat.ne_of_lt (Nat.lt_trans o0 (Nat.lt_trans o1 (Nat.lt_trans o2 (Nat.lt_trans o3 o4))))), g5⟩⟩⟩) (List.forall_mem_cons.mpr ⟨(Nat.ne_of_gt (Nat.lt_trans o6 o7)), List.forall_mem_cons.mpr ⟨(Nat.ne_of_gt (Nat.lt_trans o6 (Nat.lt_trans o7 o8))), List.forall_mem_cons.mpr ⟨(Nat.ne_of_lt (Nat.lt_trans o0 (Nat.lt_trans o1 (Nat.lt_trans o2 (Nat.lt_trans o3 (Nat.lt_trans o4 o5)))))), g6⟩⟩⟩) (List.forall_mem_cons.mpr ⟨(Nat.ne_of_gt o7), List.forall_mem_cons.mpr ⟨(Nat.ne_of_gt (Nat.lt_trans o7 o8)), List.forall_mem_cons.mpr ⟨(Nat.ne_of_lt (Nat.lt_trans o0 (Nat.lt_trans o1 (Nat.lt_trans o2 (Nat.lt_trans o3 (Nat.lt_trans o4 (Nat.lt_trans o5 o6))))))), g7⟩⟩⟩) ?hret ?X)
    case B => k_asm
    case T => k_asm
    case X => k_asm
    case hk => exact rfl
    case hdp => k_dflt ktr_room
    case hu => k_dflt ktr_units
    case hret =>
      intro h8 tk8 m1 m2 m3 m4 m5 F₉ N₉
      clear N6 F7
      try dsimp only
      walk_at "GO"
      all_goals try (leave1; try dsimp only)
      exact hret rows' _ _ _ _ _ _ _ _ _ _ _ (by assumption) (by assumption) hS₅ hI₅
theorem anew45 : True := by
  w_top off
  trivial
set_option maxRecDepth 100000 in
set_option maxHeartbeats 0 in
theorem law_act0 {w : World} {p : Program} {loose : List Str} {mean : ExcName → Option Value} {mg' mb' : Str → Option Value}
    {base : Heap} {L fa l : Addr} {s : Shared}
    {qA qR : Str} {docA pmA ctvA docR pmR ctvR : Value} {addF codA readF codR st rw tr dx mg dmg sy dsy ly rl ad vo ex hb ha ab aa : Addr} {oA oW oK oR oS oT ocA ocR ost₀ : Obj} {esy : List DictEntry} {nsy nly n1 n2 n3 n4 nl₀ nr₀ k : Nat} {vsA vsR : Array Value} {tqA tqR : Tok}
    {items₀ : Array Value} {created₀ rest : List (Addr × Obj)} {tkk tn : Tok} {n0 : Nat} {qf : QS} {t1 t2 t3 t4 t5 t6 t7 t8 t9 t10 t11 t12 t13 t14 t15 : Tok} {uk : Option Value}
    {Q : Flow → Shared → Prop} {E : Value → Shared → Prop}
    (hE : PassesOwn (model PySem.Challenge.rw_bi0029_01.row.prog w) (callerA.deeper (lawEnv L fa)) (lawEnv L fa) E)
    (B : Below callerA base [] base) (F : Fr base L s.heap (fun y => if y = Str.ofString "k" then uk else lawMap l mg n0 tn y)) (T : Top p loose mean mg' mb' base) (hkk : k = 0)
    (C1 : CodeHd base 662 658) (C2 : CodeHd base 513 509) (C3 : CodeHd base 475 471) (C4 : CodeHd base 359 355)
    (N : News base L s.heap ((hb, W.listOf items₀ nl₀) :: (st, ost₀) :: (rw, W.listOf #[] nr₀) :: (355, tabObj #[]) :: (dmg, dictOf [ent w "explicit" t13 (.bool false), ent w "_txn" t14 (.ref tr), ent w "_synchs" t15 (.ref sy)] 3) :: (dx, dictOf [ent w "status" t1 ((.str (Str.ofString "Active") 413)), ent w "_resources" t2 (.ref rl), ent w "_synchronizers" t3 (.ref sy), ent w "_manager" t4 (.ref mg), ent w "_adapters" t5 (.ref ad), ent w "_voted" t6 (.ref vo), ent w "extension" t7 (.ref ex), ent w "_failure_traceback" t8 (.none), ent w "_before_commit" t9 (.ref hb), ent w "_after_commit" t10 (.ref ha), ent w "_before_abort" t11 (.ref ab), ent w "_after_abort" t12 (.ref aa)] 12) :: (rl, W.listOf #[] n1) :: (ha, W.listOf #[] n2) :: (ab, W.listOf #[] n3) :: (aa, W.listOf #[] n4) :: (created₀ ++ rest)))
    (o0 : @LT.lt Nat _ 355 dmg) (o1 : @LT.lt Nat _ dmg dx) (o2 : @LT.lt Nat _ dx rl) (o3 : @LT.lt Nat _ rl hb) (o4 : @LT.lt Nat _ hb ha) (o5 : @LT.lt Nat _ ha ab) (o6 : @LT.lt Nat _ ab aa) (o7 : @LT.lt Nat _ aa st) (o8 : @LT.lt Nat _ st rw)
    (g0 : ∀ p ∈ rest, p.1 ≠ 355) (g1 : ∀ p ∈ rest, p.1 ≠ dmg) (g2 : ∀ p ∈ rest, p.1 ≠ dx) (g3 : ∀ p ∈ rest, p.1 ≠ rl) (g4 : ∀ p ∈ rest, p.1 ≠ hb) (g5 : ∀ p ∈ rest, p.1 ≠ ha) (g6 : ∀ p ∈ rest, p.1 ≠ ab) (g7 : ∀ p ∈ rest, p.1 ≠ aa) (g8 : ∀ p ∈ rest, p.1 ≠ st) (g9 : ∀ p ∈ rest, p.1 ≠ rw)
    (hcr : Above rw created₀) (lost : (st == sysModules) = false)
    (hR : (readF, fnMade (Str.ofString "read") qR (paramsOf readSt) (bodyOf readSt) (scopeOf readSt) [(Str.ofString "state", L + 1 + 1 + 1 + 1 + 1), (Str.ofString "rows", L + 1 + 1 + 1 + 1), (Str.ofString "add", L + 1)] docR pmR codR ctvR) ∈ rest)
    (hcdR : (codR, ocR) ∈ rest) (hcdR1 : ocR.data = .fields vsR) (hcdR2 : vsR[1]? = some (.str qR tqR))
    (hA : (addF, fnMade (Str.ofString "add") qA (paramsOf addSt) (bodyOf addSt) (scopeOf addSt) [(Str.ofString "transaction", L + 1 + 1 + 1 + 1 + 1 + 1), (Str.ofString "state", L + 1 + 1 + 1 + 1 + 1), (Str.ofString "read", L + 1 + 1 + 1), (Str.ofString "kind", L + 1 + 1)] docA pmA codA ctvA) ∈ rest)
    (hcA : (codA, ocA) ∈ rest) (hcA1 : ocA.data = .fields vsA) (hcA2 : vsA[1]? = some (.str qA tqA))
    (hcK : (L + 1 + 1, oK) ∈ rest) (hcK1 : oK.data = .cell (some (.int (k : Nat) tkk))) (hk4 : k < 4)
    (hcR : (L + 1 + 1 + 1, oR) ∈ rest) (hcR1 : oR.data = .cell (some (.ref readF)))
    (hcS : (L + 1 + 1 + 1 + 1 + 1, oS) ∈ rest) (hcS1 : oS.data = .cell (some (.ref st)))
    (hcT : (L + 1 + 1 + 1 + 1 + 1 + 1, oT) ∈ rest) (hcT1 : oT.data = .cell (some (.ref tr)))
    (hcAd : (L + 1, oA) ∈ rest) (hcAd1 : oA.data = .cell (some (.ref addF)))
    (hcW : (L + 1 + 1 + 1 + 1, oW) ∈ rest) (hcW1 : oW.data = .cell (some (.ref rw)))
    (htr : (tr, instObj 546 dx) ∈ rest) (hmg : (mg, instObj 818 dmg) ∈ rest) (hsy : (sy, instObj 167 dsy) ∈ rest) (hds : (dsy, dictOf esy nsy) ∈ rest) (hly : (ly, W.listOf #[] nly) ∈ rest)
    (hda : getL (Str.ofString "data") esy = some (some (.ref ly))) (haw : getL (Str.ofString "as_weakref_list") esy = some none) (hmap : getL (Str.ofString "map") esy = some none)
    (hE₀ : EntsAt created₀ readF items₀.toList ((List.replicate n0 0).map toS)) (hS₀ : StIs w ost₀ (n0 : Nat) 0 0 0)
    (hpos : 0 < items₀.size) (hfit : items₀.size < 2 ^ 62) (hrun : runQ 1000 (startQ n0) = some qf) (hlenr : qf.ls.length = qf.r)
    (hret : ∀ (rows : Array Value) (m1 m2 m3 m4 m5 nr : Nat) (ost : Obj) (sv : Value) (ps : Array Value) (h' : Heap) (tk' : Nat), Fr base L h' (fun y => if y = Str.ofString "k" then uk else lawMap l mg n0 tn y) → News base L h' ((dmg, dictOf [ent w "explicit" t13 (.bool false), ent w "_txn" t14 (.none), ent w "_synchs" t15 (.ref sy)] 3) :: (dx, dictOf [ent w "status" t1 (sv), ent w "_resources" t2 (.ref rl), ent w "_synchronizers" t3 (.ref 212), ent w "_manager" t4 (.none), ent w "_adapters" t5 (.none), ent w "_voted" t6 (.none), ent w "extension" t7 (.none), ent w "_failure_traceback" t8 (.none), ent w "_before_commit" t9 (.ref hb), ent w "_after_commit" t10 (.ref ha), ent w "_before_abort" t11 (.ref ab), ent w "_after_abort" t12 (.ref aa)] 12) :: (rl, W.listOf #[] m1) :: (hb, W.listOf #[] m2) :: (ha, W.listOf #[] m3) :: (ab, W.listOf #[] m4) :: (aa, W.listOf #[] m5) :: (st, ost) :: (rw, W.listOf rows nr) :: (355, tabObj ps) :: rest) →
      StIs w ost (qf.ls.length : Nat) (qf.r : Nat) qf.o qf.v → IntsAre rows.toList qf.ns → Q .next { s with heap := h', toks := tk' }) :
    (hd.heap_39 w.params).In base → wpAny (model PySem.Challenge.rw_bi0029_01.row.prog w) (callerA.deeper (lawEnv L fa)) (exec (nthSt (bodyOf lawSt) 9) (lawEnv L fa)) Q E s := by
  k_fill
  intro X
  generalize hsc : scopeOf lawSt = sc at *
  conv at hsc => lhs; whnf
  generalize hbo : nthSt (bodyOf lawSt) 9 = bo at *
  conv at hbo => lhs; whnf
  subst hsc hbo hkk
  obtain ⟨R, hRR⟩ : ∃ R, R = created₀ ++ rest := ⟨_, rfl⟩
  rw [← hRR] at N
  have mR : ∀ q ∈ rest, q ∈ R := fun q hq => by rw [hRR]; exact List.mem_append_right _ hq
  have htr' := mR _ htr
  have hmg' := mR _ hmg
  have hcK' := mR _ hcK
  iterate 80 (first | (with_reducible show wpAny _ _ (call (Value.ref 360) _ _) _ _ _) | walk_at "S1")
  rename News _ _ _ _ => N9
  rename Fr _ _ _ _ => F9
  rw [hRR] at N9
  k_dflt (refine' commit0 ?B F9 ?T ?hk rfl ?hdp ?hu C1 C2 C3 C4 N9 o0 o1 o2 o3 o4 o5 o6 o7 o8 g0 g1 g2 g3 g4 g5 g6 g7 g8 g9 hcr lost hR hcdR hcdR1 hcdR2 hA hcA hcA1 hcA2 hcK hcK1 hk4 hcR hcR1 hcS hcS1 hcT hcT1 hcAd hcAd1 hcW hcW1 htr hmg hsy hds hly hda haw hmap hE₀ hS₀ hpos hfit hrun hlenr ?hret ?X)
  case B => k_asm
  case T => k_asm
  case X => k_asm
  case hk => exact rfl
  case hdp => k_dflt ktr_room
  case hu => k_dflt ktr_units
  case hret =>
    intro rows' m1 m2 m3 m4 m5 nr' ost' sv ps' h' tk' F₅ N₅ hS₅ hI₅
    clear N9 F9
    walk_at "GO"
    all_goals try (leave1; try dsimp only)
    exact hret rows' _ _ _ _ _ _ _ _ _ _ _ (by assumption) (by assumption) hS₅ hI₅
theorem anew46 : True := by
  w_top off
  trivial
set_option maxRecDepth 100000 in
set_option maxHeartbeats 0 in
theorem law_act1 {w : World} {p : Program} {loose : List Str} {mean : ExcName → Option Value} {mg' mb' : Str → Option Value}
    {base : Heap} {L fa l : Addr} {s : Shared}
    {qA qR : Str} {docA pmA ctvA docR pmR ctvR : Value} {addF codA readF codR st rw tr dx mg dmg sy dsy ly rl ad vo ex hb ha ab aa : Addr} {oA oW oK oR oS oT ocA ocR ost₀ : Obj} {esy : List DictEntry} {nsy nly n1 n2 n3 n4 nl₀ nr₀ k : Nat} {vsA vsR : Array Value} {tqA tqR : Tok}
    {items₀ : Array Value} {created₀ rest : List (Addr × Obj)} {tkk tn : Tok} {n0 : Nat} {qf : QS} {t1 t2 t3 t4 t5 t6 t7 t8 t9 t10 t11 t12 t13 t14 t15 : Tok} {uk : Option Value}
    {Q : Flow → Shared → Prop} {E : Value → Shared → Prop}
    (hE : PassesOwn (model PySem.Challenge.rw_bi0029_01.row.prog w) (callerA.deeper (lawEnv L fa)) (lawEnv L fa) E)
    (B : Below callerA base [] base) (F : Fr base L s.heap (fun y => if y = Str.ofString "k" then uk else lawMap l mg n0 tn y)) (T : Top p loose mean mg' mb' base) (hkk : k = 1)
    (C1 : CodeHd base 662 658) (C2 : CodeHd base 513 509) (C3 : CodeHd base 475 471) (C4 : CodeHd base 359 355)
    (N : News base L s.heap ((ha, W.listOf items₀ nl₀) :: (st, ost₀) :: (rw, W.listOf #[] nr₀) :: (355, tabObj #[]) :: (dmg, dictOf [ent w "explicit" t13 (.bool false), ent w "_txn" t14 (.ref tr), ent w "_synchs" t15 (.ref sy)] 3) :: (dx, dictOf [ent w "status" t1 ((.str (Str.ofString "Active") 413)), ent w "_resources" t2 (.ref rl), ent w "_synchronizers" t3 (.ref sy), ent w "_manager" t4 (.ref mg), ent w "_adapters" t5 (.ref ad), ent w "_voted" t6 (.ref vo), ent w "extension" t7 (.ref ex), ent w "_failure_traceback" t8 (.none), ent w "_before_commit" t9 (.ref hb), ent w "_after_commit" t10 (.ref ha), ent w "_before_abort" t11 (.ref ab), ent w "_after_abort" t12 (.ref aa)] 12) :: (rl, W.listOf #[] n1) :: (hb, W.listOf #[] n2) :: (ab, W.listOf #[] n3) :: (aa, W.listOf #[] n4) :: (created₀ ++ rest)))
    (o0 : @LT.lt Nat _ 355 dmg) (o1 : @LT.lt Nat _ dmg dx) (o2 : @LT.lt Nat _ dx rl) (o3 : @LT.lt Nat _ rl hb) (o4 : @LT.lt Nat _ hb ha) (o5 : @LT.lt Nat _ ha ab) (o6 : @LT.lt Nat _ ab aa) (o7 : @LT.lt Nat _ aa st) (o8 : @LT.lt Nat _ st rw)
    (g0 : ∀ p ∈ rest, p.1 ≠ 355) (g1 : ∀ p ∈ rest, p.1 ≠ dmg) (g2 : ∀ p ∈ rest, p.1 ≠ dx) (g3 : ∀ p ∈ rest, p.1 ≠ rl) (g4 : ∀ p ∈ rest, p.1 ≠ hb) (g5 : ∀ p ∈ rest, p.1 ≠ ha) (g6 : ∀ p ∈ rest, p.1 ≠ ab) (g7 : ∀ p ∈ rest, p.1 ≠ aa) (g8 : ∀ p ∈ rest, p.1 ≠ st) (g9 : ∀ p ∈ rest, p.1 ≠ rw)
    (hcr : Above rw created₀) (lost : (st == sysModules) = false)
    (hR : (readF, fnMade (Str.ofString "read") qR (paramsOf readSt) (bodyOf readSt) (scopeOf readSt) [(Str.ofString "state", L + 1 + 1 + 1 + 1 + 1), (Str.ofString "rows", L + 1 + 1 + 1 + 1), (Str.ofString "add", L + 1)] docR pmR codR ctvR) ∈ rest)
    (hcdR : (codR, ocR) ∈ rest) (hcdR1 : ocR.data = .fields vsR) (hcdR2 : vsR[1]? = some (.str qR tqR))
    (hA : (addF, fnMade (Str.ofString "add") qA (paramsOf addSt) (bodyOf addSt) (scopeOf addSt) [(Str.ofString "transaction", L + 1 + 1 + 1 + 1 + 1 + 1), (Str.ofString "state", L + 1 + 1 + 1 + 1 + 1), (Str.ofString "read", L + 1 + 1 + 1), (Str.ofString "kind", L + 1 + 1)] docA pmA codA ctvA) ∈ rest)
    (hcA : (codA, ocA) ∈ rest) (hcA1 : ocA.data = .fields vsA) (hcA2 : vsA[1]? = some (.str qA tqA))
    (hcK : (L + 1 + 1, oK) ∈ rest) (hcK1 : oK.data = .cell (some (.int (k : Nat) tkk))) (hk4 : k < 4)
    (hcR : (L + 1 + 1 + 1, oR) ∈ rest) (hcR1 : oR.data = .cell (some (.ref readF)))
    (hcS : (L + 1 + 1 + 1 + 1 + 1, oS) ∈ rest) (hcS1 : oS.data = .cell (some (.ref st)))
    (hcT : (L + 1 + 1 + 1 + 1 + 1 + 1, oT) ∈ rest) (hcT1 : oT.data = .cell (some (.ref tr)))
    (hcAd : (L + 1, oA) ∈ rest) (hcAd1 : oA.data = .cell (some (.ref addF)))
    (hcW : (L + 1 + 1 + 1 + 1, oW) ∈ rest) (hcW1 : oW.data = .cell (some (.ref rw)))
    (htr : (tr, instObj 546 dx) ∈ rest) (hmg : (mg, instObj 818 dmg) ∈ rest) (hsy : (sy, instObj 167 dsy) ∈ rest) (hds : (dsy, dictOf esy nsy) ∈ rest) (hly : (ly, W.listOf #[] nly) ∈ rest)
    (hda : getL (Str.ofString "data") esy = some (some (.ref ly))) (haw : getL (Str.ofString "as_weakref_list") esy = some none) (hmap : getL (Str.ofString "map") esy = some none)
    (hE₀ : EntsAt created₀ readF items₀.toList ((List.replicate n0 0).map toS)) (hS₀ : StIs w ost₀ (n0 : Nat) 0 0 0)
    (hpos : 0 < items₀.size) (hfit : items₀.size < 2 ^ 62) (hrun : runQ 1000 (startQ n0) = some qf) (hlenr : qf.ls.length = qf.r)
    (hret : ∀ (rows : Array Value) (m1 m2 m3 m4 m5 nr : Nat) (ost : Obj) (sv : Value) (ps : Array Value) (h' : Heap) (tk' : Nat), Fr base L h' (fun y => if y = Str.ofString "k" then uk else lawMap l mg n0 tn y) → News base L h' ((dmg, dictOf [ent w "explicit" t13 (.bool false), ent w "_txn" t14 (.none), ent w "_synchs" t15 (.ref sy)] 3) :: (dx, dictOf [ent w "status" t1 (sv), ent w "_resources" t2 (.ref rl), ent w "_synchronizers" t3 (.ref 212), ent w "_manager" t4 (.none), ent w "_adapters" t5 (.none), ent w "_voted" t6 (.none), ent w "extension" t7 (.none), ent w "_failure_traceback" t8 (.none), ent w "_before_commit" t9 (.ref hb), ent w "_after_commit" t10 (.ref ha), ent w "_before_abort" t11 (.ref ab), ent w "_after_abort" t12 (.ref aa)] 12) :: (rl, W.listOf #[] m1) :: (hb, W.listOf #[] m2) :: (ha, W.listOf #[] m3) :: (ab, W.listOf #[] m4) :: (aa, W.listOf #[] m5) :: (st, ost) :: (rw, W.listOf rows nr) :: (355, tabObj ps) :: rest) →
      StIs w ost (qf.ls.length : Nat) (qf.r : Nat) qf.o qf.v → IntsAre rows.toList qf.ns → Q .next { s with heap := h', toks := tk' }) :
    (hd.heap_39 w.params).In base → wpAny (model PySem.Challenge.rw_bi0029_01.row.prog w) (callerA.deeper (lawEnv L fa)) (exec (nthSt (bodyOf lawSt) 9) (lawEnv L fa)) Q E s := by
  k_fill
  intro X
  generalize hsc : scopeOf lawSt = sc at *
  conv at hsc => lhs; whnf
  generalize hbo : nthSt (bodyOf lawSt) 9 = bo at *
  conv at hbo => lhs; whnf
  subst hsc hbo hkk
  obtain ⟨R, hRR⟩ : ∃ R, R = created₀ ++ rest := ⟨_, rfl⟩
  rw [← hRR] at N
  have mR : ∀ q ∈ rest, q ∈ R := fun q hq => by rw [hRR]; exact List.mem_append_right _ hq
  have htr' := mR _ htr
  have hmg' := mR _ hmg
  have hcK' := mR _ hcK
  iterate 80 (first | (with_reducible show wpAny _ _ (call (Value.ref 360) _ _) _ _ _) | walk_at "S1")
  rename News _ _ _ _ => N9
  rename Fr _ _ _ _ => F9
  rw [hRR] at N9
  k_dflt (refine' commit1 ?B F9 ?T ?hk rfl ?hdp ?hu C1 C2 C3 C4 N9 o0 o1 o2 o3 o4 o5 o6 o7 o8 g0 g1 g2 g3 g4 g5 g6 g7 g8 g9 hcr lost hR hcdR hcdR1 hcdR2 hA hcA hcA1 hcA2 hcK hcK1 hk4 hcR hcR1 hcS hcS1 hcT hcT1 hcAd hcAd1 hcW hcW1 htr hmg hsy hds hly hda haw hmap hE₀ hS₀ hpos hfit hrun hlenr ?hret ?X)
  case B => k_asm
  case T => k_asm
  case X => k_asm
  case hk => exact rfl
  case hdp => k_dflt ktr_room
  case hu => k_dflt ktr_units
  case hret =>
    intro rows' m1 m2 m3 m4 m5 nr' ost' sv ps' h' tk' F₅ N₅ hS₅ hI₅
    clear N9 F9
    walk_at "GO"
    all_goals try (leave1; try dsimp only)
    exact hret rows' _ _ _ _ _ _ _ _ _ _ _ (by assumption) (by assumption) hS₅ hI₅
theorem anew47 : True := by
  w_top off
  trivial
set_option maxRecDepth 100000 in
set_option maxHeartbeats 0 in
theorem law_act2 {w : World} {p : Program} {loose : List Str} {mean : ExcName → Option Value} {mg' mb' : Str → Option Value}
    {base : Heap} {L fa l : Addr} {s : Shared}
    {qA qR : Str} {docA pmA ctvA docR pmR ctvR : Value} {addF codA readF codR st rw tr dx mg dmg sy dsy ly rl ad vo ex hb ha ab aa : Addr} {oA oW oK oR oS oT ocA ocR ost₀ : Obj} {esy : List DictEntry} {nsy nly n1 n2 n3 n4 nl₀ nr₀ k : Nat} {vsA vsR : Array Value} {tqA tqR : Tok}
    {items₀ : Array Value} {created₀ rest : List (Addr × Obj)} {tkk tn : Tok} {n0 : Nat} {qf : QS} {t1 t2 t3 t4 t5 t6 t7 t8 t9 t10 t11 t12 t13 t14 t15 : Tok} {uk : Option Value}
    {Q : Flow → Shared → Prop} {E : Value → Shared → Prop}
    (hE : PassesOwn (model PySem.Challenge.rw_bi0029_01.row.prog w) (callerA.deeper (lawEnv L fa)) (lawEnv L fa) E)
    (B : Below callerA base [] base) (F : Fr base L s.heap (fun y => if y = Str.ofString "k" then uk else lawMap l mg n0 tn y)) (T : Top p loose mean mg' mb' base) (hkk : k = 2)
    (C1 : CodeHd base 662 658) (C2 : CodeHd base 513 509) (C3 : CodeHd base 475 471) (C4 : CodeHd base 359 355)
    (N : News base L s.heap ((ab, W.listOf items₀ nl₀) :: (st, ost₀) :: (rw, W.listOf #[] nr₀) :: (509, tabObj #[]) :: (dmg, dictOf [ent w "explicit" t13 (.bool false), ent w "_txn" t14 (.ref tr), ent w "_synchs" t15 (.ref sy)] 3) :: (dx, dictOf [ent w "status" t1 ((.str (Str.ofString "Active") 413)), ent w "_resources" t2 (.ref rl), ent w "_synchronizers" t3 (.ref sy), ent w "_manager" t4 (.ref mg), ent w "_adapters" t5 (.ref ad), ent w "_voted" t6 (.ref vo), ent w "extension" t7 (.ref ex), ent w "_failure_traceback" t8 (.none), ent w "_before_commit" t9 (.ref hb), ent w "_after_commit" t10 (.ref ha), ent w "_before_abort" t11 (.ref ab), ent w "_after_abort" t12 (.ref aa)] 12) :: (rl, W.listOf #[] n1) :: (hb, W.listOf #[] n2) :: (ha, W.listOf #[] n3) :: (aa, W.listOf #[] n4) :: (created₀ ++ rest)))
    (o0 : @LT.lt Nat _ 509 dmg) (o1 : @LT.lt Nat _ dmg dx) (o2 : @LT.lt Nat _ dx rl) (o3 : @LT.lt Nat _ rl hb) (o4 : @LT.lt Nat _ hb ha) (o5 : @LT.lt Nat _ ha ab) (o6 : @LT.lt Nat _ ab aa) (o7 : @LT.lt Nat _ aa st) (o8 : @LT.lt Nat _ st rw)
    (g0 : ∀ p ∈ rest, p.1 ≠ 509) (g1 : ∀ p ∈ rest, p.1 ≠ dmg) (g2 : ∀ p ∈ rest, p.1 ≠ dx) (g3 : ∀ p ∈ rest, p.1 ≠ rl) (g4 : ∀ p ∈ rest, p.1 ≠ hb) (g5 : ∀ p ∈ rest, p.1 ≠ ha) (g6 : ∀ p ∈ rest, p.1 ≠ ab) (g7 : ∀ p ∈ rest, p.1 ≠ aa) (g8 : ∀ p ∈ rest, p.1 ≠ st) (g9 : ∀ p ∈ rest, p.1 ≠ rw)
    (hcr : Above rw created₀) (lost : (st == sysModules) = false)
    (hR : (readF, fnMade (Str.ofString "read") qR (paramsOf readSt) (bodyOf readSt) (scopeOf readSt) [(Str.ofString "state", L + 1 + 1 + 1 + 1 + 1), (Str.ofString "rows", L + 1 + 1 + 1 + 1), (Str.ofString "add", L + 1)] docR pmR codR ctvR) ∈ rest)
    (hcdR : (codR, ocR) ∈ rest) (hcdR1 : ocR.data = .fields vsR) (hcdR2 : vsR[1]? = some (.str qR tqR))
    (hA : (addF, fnMade (Str.ofString "add") qA (paramsOf addSt) (bodyOf addSt) (scopeOf addSt) [(Str.ofString "transaction", L + 1 + 1 + 1 + 1 + 1 + 1), (Str.ofString "state", L + 1 + 1 + 1 + 1 + 1), (Str.ofString "read", L + 1 + 1 + 1), (Str.ofString "kind", L + 1 + 1)] docA pmA codA ctvA) ∈ rest)
    (hcA : (codA, ocA) ∈ rest) (hcA1 : ocA.data = .fields vsA) (hcA2 : vsA[1]? = some (.str qA tqA))
    (hcK : (L + 1 + 1, oK) ∈ rest) (hcK1 : oK.data = .cell (some (.int (k : Nat) tkk))) (hk4 : k < 4)
    (hcR : (L + 1 + 1 + 1, oR) ∈ rest) (hcR1 : oR.data = .cell (some (.ref readF)))
    (hcS : (L + 1 + 1 + 1 + 1 + 1, oS) ∈ rest) (hcS1 : oS.data = .cell (some (.ref st)))
    (hcT : (L + 1 + 1 + 1 + 1 + 1 + 1, oT) ∈ rest) (hcT1 : oT.data = .cell (some (.ref tr)))
    (hcAd : (L + 1, oA) ∈ rest) (hcAd1 : oA.data = .cell (some (.ref addF)))
    (hcW : (L + 1 + 1 + 1 + 1, oW) ∈ rest) (hcW1 : oW.data = .cell (some (.ref rw)))
    (htr : (tr, instObj 546 dx) ∈ rest) (hmg : (mg, instObj 818 dmg) ∈ rest) (hsy : (sy, instObj 167 dsy) ∈ rest) (hds : (dsy, dictOf esy nsy) ∈ rest) (hly : (ly, W.listOf #[] nly) ∈ rest)
    (hda : getL (Str.ofString "data") esy = some (some (.ref ly))) (haw : getL (Str.ofString "as_weakref_list") esy = some none) (hmap : getL (Str.ofString "map") esy = some none)
    (hE₀ : EntsAt created₀ readF items₀.toList ((List.replicate n0 0).map toS)) (hS₀ : StIs w ost₀ (n0 : Nat) 0 0 0)
    (hpos : 0 < items₀.size) (hfit : items₀.size < 2 ^ 62) (hrun : runQ 1000 (startQ n0) = some qf) (hlenr : qf.ls.length = qf.r)
    (hret : ∀ (rows : Array Value) (m1 m2 m3 m4 m5 nr : Nat) (ost : Obj) (sv : Value) (ps : Array Value) (h' : Heap) (tk' : Nat), Fr base L h' (fun y => if y = Str.ofString "k" then uk else lawMap l mg n0 tn y) → News base L h' ((dmg, dictOf [ent w "explicit" t13 (.bool false), ent w "_txn" t14 (.none), ent w "_synchs" t15 (.ref sy)] 3) :: (dx, dictOf [ent w "status" t1 (sv), ent w "_resources" t2 (.ref rl), ent w "_synchronizers" t3 (.ref 212), ent w "_manager" t4 (.none), ent w "_adapters" t5 (.none), ent w "_voted" t6 (.none), ent w "extension" t7 (.none), ent w "_failure_traceback" t8 (.none), ent w "_before_commit" t9 (.ref hb), ent w "_after_commit" t10 (.ref ha), ent w "_before_abort" t11 (.ref ab), ent w "_after_abort" t12 (.ref aa)] 12) :: (rl, W.listOf #[] m1) :: (hb, W.listOf #[] m2) :: (ha, W.listOf #[] m3) :: (ab, W.listOf #[] m4) :: (aa, W.listOf #[] m5) :: (st, ost) :: (rw, W.listOf rows nr) :: (509, tabObj ps) :: rest) →
      StIs w ost (qf.ls.length : Nat) (qf.r : Nat) qf.o qf.v → IntsAre rows.toList qf.ns → Q .next { s with heap := h', toks := tk' }) :
    (hd.heap_39 w.params).In base → wpAny (model PySem.Challenge.rw_bi0029_01.row.prog w) (callerA.deeper (lawEnv L fa)) (exec (nthSt (bodyOf lawSt) 9) (lawEnv L fa)) Q E s := by
  k_fill
  intro X
  generalize hsc : scopeOf lawSt = sc at *
  conv at hsc => lhs; whnf
  generalize hbo : nthSt (bodyOf lawSt) 9 = bo at *
  conv at hbo => lhs; whnf
  subst hsc hbo hkk
  obtain ⟨R, hRR⟩ : ∃ R, R = created₀ ++ rest := ⟨_, rfl⟩
  rw [← hRR] at N
  have mR : ∀ q ∈ rest, q ∈ R := fun q hq => by rw [hRR]; exact List.mem_append_right _ hq
  have htr' := mR _ htr
  have hmg' := mR _ hmg
  have hcK' := mR _ hcK
  iterate 80 (first | (with_reducible show wpAny _ _ (call (Value.ref 514) _ _) _ _ _) | walk_at "S1")
  rename News _ _ _ _ => N9
  rename Fr _ _ _ _ => F9
  rw [hRR] at N9
  k_dflt (refine' abort2 ?B F9 ?T ?hk rfl ?hdp ?hu C1 C2 C3 C4 N9 o0 o1 o2 o3 o4 o5 o6 o7 o8 g0 g1 g2 g3 g4 g5 g6 g7 g8 g9 hcr lost hR hcdR hcdR1 hcdR2 hA hcA hcA1 hcA2 hcK hcK1 hk4 hcR hcR1 hcS hcS1 hcT hcT1 hcAd hcAd1 hcW hcW1 htr hmg hsy hds hly hda haw hmap hE₀ hS₀ hpos hfit hrun hlenr ?hret ?X)
  case B => k_asm
  case T => k_asm
  case X => k_asm
  case hk => exact rfl
  case hdp => k_dflt ktr_room
  case hu => k_dflt ktr_units
  case hret =>
    intro rows' m1 m2 m3 m4 m5 nr' ost' sv ps' h' tk' F₅ N₅ hS₅ hI₅
    clear N9 F9
    walk_at "GO"
    all_goals try (leave1; try dsimp only)
    exact hret rows' _ _ _ _ _ _ _ _ _ _ _ (by assumption) (by assumption) hS₅ hI₅
theorem anew48 : True := by
  w_top off
  trivial
set_option maxRecDepth 100000 in
set_option maxHeartbeats 0 in
theorem law_act3 {w : World} {p : Program} {loose : List Str} {mean : ExcName → Option Value} {mg' mb' : Str → Option Value}
    {base : Heap} {L fa l : Addr} {s : Shared}
    {qA qR : Str} {docA pmA ctvA docR pmR ctvR : Value} {addF codA readF codR st rw tr dx mg dmg sy dsy ly rl ad vo ex hb ha ab aa : Addr} {oA oW oK oR oS oT ocA ocR ost₀ : Obj} {esy : List DictEntry} {nsy nly n1 n2 n3 n4 nl₀ nr₀ k : Nat} {vsA vsR : Array Value} {tqA tqR : Tok}
    {items₀ : Array Value} {created₀ rest : List (Addr × Obj)} {tkk tn : Tok} {n0 : Nat} {qf : QS} {t1 t2 t3 t4 t5 t6 t7 t8 t9 t10 t11 t12 t13 t14 t15 : Tok} {uk : Option Value}
    {Q : Flow → Shared → Prop} {E : Value → Shared → Prop}
    (hE : PassesOwn (model PySem.Challenge.rw_bi0029_01.row.prog w) (callerA.deeper (lawEnv L fa)) (lawEnv L fa) E)
    (B : Below callerA base [] base) (F : Fr base L s.heap (fun y => if y = Str.ofString "k" then uk else lawMap l mg n0 tn y)) (T : Top p loose mean mg' mb' base) (hkk : k = 3)
    (C1 : CodeHd base 662 658) (C2 : CodeHd base 513 509) (C3 : CodeHd base 475 471) (C4 : CodeHd base 359 355)
    (N : News base L s.heap ((aa, W.listOf items₀ nl₀) :: (st, ost₀) :: (rw, W.listOf #[] nr₀) :: (509, tabObj #[]) :: (dmg, dictOf [ent w "explicit" t13 (.bool false), ent w "_txn" t14 (.ref tr), ent w "_synchs" t15 (.ref sy)] 3) :: (dx, dictOf [ent w "status" t1 ((.str (Str.ofString "Active") 413)), ent w "_resources" t2 (.ref rl), ent w "_synchronizers" t3 (.ref sy), ent w "_manager" t4 (.ref mg), ent w "_adapters" t5 (.ref ad), ent w "_voted" t6 (.ref vo), ent w "extension" t7 (.ref ex), ent w "_failure_traceback" t8 (.none), ent w "_before_commit" t9 (.ref hb), ent w "_after_commit" t10 (.ref ha), ent w "_before_abort" t11 (.ref ab), ent w "_after_abort" t12 (.ref aa)] 12) :: (rl, W.listOf #[] n1) :: (hb, W.listOf #[] n2) :: (ha, W.listOf #[] n3) :: (ab, W.listOf #[] n4) :: (created₀ ++ rest)))
    (o0 : @LT.lt Nat _ 509 dmg) (o1 : @LT.lt Nat _ dmg dx) (o2 : @LT.lt Nat _ dx rl) (o3 : @LT.lt Nat _ rl hb) (o4 : @LT.lt Nat _ hb ha) (o5 : @LT.lt Nat _ ha ab) (o6 : @LT.lt Nat _ ab aa) (o7 : @LT.lt Nat _ aa st) (o8 : @LT.lt Nat _ st rw)
    (g0 : ∀ p ∈ rest, p.1 ≠ 509) (g1 : ∀ p ∈ rest, p.1 ≠ dmg) (g2 : ∀ p ∈ rest, p.1 ≠ dx) (g3 : ∀ p ∈ rest, p.1 ≠ rl) (g4 : ∀ p ∈ rest, p.1 ≠ hb) (g5 : ∀ p ∈ rest, p.1 ≠ ha) (g6 : ∀ p ∈ rest, p.1 ≠ ab) (g7 : ∀ p ∈ rest, p.1 ≠ aa) (g8 : ∀ p ∈ rest, p.1 ≠ st) (g9 : ∀ p ∈ rest, p.1 ≠ rw)
    (hcr : Above rw created₀) (lost : (st == sysModules) = false)
    (hR : (readF, fnMade (Str.ofString "read") qR (paramsOf readSt) (bodyOf readSt) (scopeOf readSt) [(Str.ofString "state", L + 1 + 1 + 1 + 1 + 1), (Str.ofString "rows", L + 1 + 1 + 1 + 1), (Str.ofString "add", L + 1)] docR pmR codR ctvR) ∈ rest)
    (hcdR : (codR, ocR) ∈ rest) (hcdR1 : ocR.data = .fields vsR) (hcdR2 : vsR[1]? = some (.str qR tqR))
    (hA : (addF, fnMade (Str.ofString "add") qA (paramsOf addSt) (bodyOf addSt) (scopeOf addSt) [(Str.ofString "transaction", L + 1 + 1 + 1 + 1 + 1 + 1), (Str.ofString "state", L + 1 + 1 + 1 + 1 + 1), (Str.ofString "read", L + 1 + 1 + 1), (Str.ofString "kind", L + 1 + 1)] docA pmA codA ctvA) ∈ rest)
    (hcA : (codA, ocA) ∈ rest) (hcA1 : ocA.data = .fields vsA) (hcA2 : vsA[1]? = some (.str qA tqA))
    (hcK : (L + 1 + 1, oK) ∈ rest) (hcK1 : oK.data = .cell (some (.int (k : Nat) tkk))) (hk4 : k < 4)
    (hcR : (L + 1 + 1 + 1, oR) ∈ rest) (hcR1 : oR.data = .cell (some (.ref readF)))
    (hcS : (L + 1 + 1 + 1 + 1 + 1, oS) ∈ rest) (hcS1 : oS.data = .cell (some (.ref st)))
    (hcT : (L + 1 + 1 + 1 + 1 + 1 + 1, oT) ∈ rest) (hcT1 : oT.data = .cell (some (.ref tr)))
    (hcAd : (L + 1, oA) ∈ rest) (hcAd1 : oA.data = .cell (some (.ref addF)))
    (hcW : (L + 1 + 1 + 1 + 1, oW) ∈ rest) (hcW1 : oW.data = .cell (some (.ref rw)))
    (htr : (tr, instObj 546 dx) ∈ rest) (hmg : (mg, instObj 818 dmg) ∈ rest) (hsy : (sy, instObj 167 dsy) ∈ rest) (hds : (dsy, dictOf esy nsy) ∈ rest) (hly : (ly, W.listOf #[] nly) ∈ rest)
    (hda : getL (Str.ofString "data") esy = some (some (.ref ly))) (haw : getL (Str.ofString "as_weakref_list") esy = some none) (hmap : getL (Str.ofString "map") esy = some none)
    (hE₀ : EntsAt created₀ readF items₀.toList ((List.replicate n0 0).map toS)) (hS₀ : StIs w ost₀ (n0 : Nat) 0 0 0)
    (hpos : 0 < items₀.size) (hfit : items₀.size < 2 ^ 62) (hrun : runQ 1000 (startQ n0) = some qf) (hlenr : qf.ls.length = qf.r)
    (hret : ∀ (rows : Array Value) (m1 m2 m3 m4 m5 nr : Nat) (ost : Obj) (sv : Value) (ps : Array Value) (h' : Heap) (tk' : Nat), Fr base L h' (fun y => if y = Str.ofString "k" then uk else lawMap l mg n0 tn y) → News base L h' ((dmg, dictOf [ent w "explicit" t13 (.bool false), ent w "_txn" t14 (.none), ent w "_synchs" t15 (.ref sy)] 3) :: (dx, dictOf [ent w "status" t1 (sv), ent w "_resources" t2 (.ref rl), ent w "_synchronizers" t3 (.ref 212), ent w "_manager" t4 (.none), ent w "_adapters" t5 (.none), ent w "_voted" t6 (.none), ent w "extension" t7 (.none), ent w "_failure_traceback" t8 (.none), ent w "_before_commit" t9 (.ref hb), ent w "_after_commit" t10 (.ref ha), ent w "_before_abort" t11 (.ref ab), ent w "_after_abort" t12 (.ref aa)] 12) :: (rl, W.listOf #[] m1) :: (hb, W.listOf #[] m2) :: (ha, W.listOf #[] m3) :: (ab, W.listOf #[] m4) :: (aa, W.listOf #[] m5) :: (st, ost) :: (rw, W.listOf rows nr) :: (509, tabObj ps) :: rest) →
      StIs w ost (qf.ls.length : Nat) (qf.r : Nat) qf.o qf.v → IntsAre rows.toList qf.ns → Q .next { s with heap := h', toks := tk' }) :
    (hd.heap_39 w.params).In base → wpAny (model PySem.Challenge.rw_bi0029_01.row.prog w) (callerA.deeper (lawEnv L fa)) (exec (nthSt (bodyOf lawSt) 9) (lawEnv L fa)) Q E s := by
  k_fill
  intro X
  generalize hsc : scopeOf lawSt = sc at *
  conv at hsc => lhs; whnf
  generalize hbo : nthSt (bodyOf lawSt) 9 = bo at *
  conv at hbo => lhs; whnf
  subst hsc hbo hkk
  obtain ⟨R, hRR⟩ : ∃ R, R = created₀ ++ rest := ⟨_, rfl⟩
  rw [← hRR] at N
  have mR : ∀ q ∈ rest, q ∈ R := fun q hq => by rw [hRR]; exact List.mem_append_right _ hq
  have htr' := mR _ htr
  have hmg' := mR _ hmg
  have hcK' := mR _ hcK
  iterate 80 (first | (with_reducible show wpAny _ _ (call (Value.ref 514) _ _) _ _ _) | walk_at "S1")
  rename News _ _ _ _ => N9
  rename Fr _ _ _ _ => F9
  rw [hRR] at N9
  k_dflt (refine' abort3 ?B F9 ?T ?hk rfl ?hdp ?hu C1 C2 C3 C4 N9 o0 o1 o2 o3 o4 o5 o6 o7 o8 g0 g1 g2 g3 g4 g5 g6 g7 g8 g9 hcr lost hR hcdR hcdR1 hcdR2 hA hcA hcA1 hcA2 hcK hcK1 hk4 hcR hcR1 hcS hcS1 hcT hcT1 hcAd hcAd1 hcW hcW1 htr hmg hsy hds hly hda haw hmap hE₀ hS₀ hpos hfit hrun hlenr ?hret ?X)
  case B => k_asm
  case T => k_asm
  case X => k_asm
  case hk => exact rfl
  case hdp => k_dflt ktr_room
  case hu => k_dflt ktr_units
  case hret =>
    intro rows' m1 m2 m3 m4 m5 nr' ost' sv ps' h' tk' F₅ N₅ hS₅ hI₅
    clear N9 F9
    walk_at "GO"
    all_goals try (leave1; try dsimp only)
    exact hret rows' _ _ _ _ _ _ _ _ _ _ _ (by assumption) (by assumption) hS₅ hI₅
theorem anew49 : True := by
  w_top off
  trivial
theorem getD_lastD (ds : List Int) (hne : ds ≠ []) : ds.getD ((-1 : Int) + (ds.length : Nat)).toNat 0 = ds.getLastD 0 := by
  rcases List.eq_nil_or_concat ds with h | ⟨xs, c, rfl⟩
  · exact absurd h hne
  · rw [List.concat_eq_append, getD_last, List.getLastD_eq_getLast?, List.getLast?_append]
    rfl
theorem sub_lastN {prog : Program} {w : World} {A : Around} {E : Value → Shared → Prop} {s : Shared} {h₀ : Heap} {L : Addr} {news : List (Addr × Obj)} {value slice : Expr} {du : Addr} {vs : List Value} {c : Nat} {ds : List Int} {u : Tok} {Q : Value → Shared → Prop}
    (N : News h₀ L s.heap news) (hm : (du, W.listOf vs.toArray c) ∈ news) (hi : IntsAre vs ds) (hne : ds ≠ []) (h : ∀ t, Q (.int (ds.getLastD 0) t) s)
    (hs : subscripted slice false (.ref du) (.int (-1) u) = operate [.ref du, .int (-1) u] (getItem (.ref du) (.int (-1) u)) := by with_unfolding_all rfl) (hg : ∀ r, letTemporaryGo value (.ref du) r = pure () := by intro _; with_unfolding_all rfl) :
    wpAny (model prog w) A (subscriptTail value slice (.ref du) (.int (-1) u)) Q E s := by
  have hl : 0 < ds.length := List.length_pos_iff.mpr hne
  refine item_list_ints_neg (ns := ds) ⟨_, (N _ hm).1, rfl, _, rfl⟩ hi (by decide) (by omega) (by decide) (fun t => ?_) hs hg
  rw [getD_lastD ds hne]
  exact h t
local macro_rules | `(tactic| walk_at "S1") => `(tactic| (k_here; (with_reducible show wpAny _ _ (subscriptTail _ _ (Value.ref _) (Value.int _ _)) _ _ _); k_dflt (refine' sub_lastN ?k1 ?k2 ?k3 ?k4 ?_; (case k1 => k_asm); (case k2 => k_mem); (case k3 => assumption); (case k4 => assumption); k_whole); intro t9; (try dsimp only)))
theorem due_step {base h' : Heap} {L du : Addr} {s : Shared} {m : Str → Option Value} {news : List (Addr × Obj)} {vs : List Value} {c n tk' n0 : Nat} {ds : List Int} {y : Int} {t : Tok}
    (F' : Fr base L h' m) (N' : News base L h' ((du, W.listOf (vs.toArray.push (.int y t)) c) :: news)) (hI : IntsAre vs ds) (hd : dueL n ds = dueL 100 [(n0 : Int)]) (hsz : vs.length + n ≤ 101) (hlast : (dueL 100 [(n0 : Int)]).getLastD 0 ≤ 1)
    (h1 : 1 < ds.getLastD 0) (hy : nextD (ds.getLastD 0) = y) :
    WhileStep base L s (fun n m₁ news₁ => m₁ = m ∧ ∃ (vs : List Value) (c : Nat) (ds : List Int), news₁ = (du, W.listOf vs.toArray c) :: news ∧ IntsAre vs ds ∧ ds ≠ [] ∧ dueL n ds = dueL 100 [(n0 : Int)] ∧ vs.length + n ≤ 101) n .next { s with heap := h', toks := tk' } := by
  cases n with
  | zero =>
    have e : ds = dueL 100 [(n0 : Int)] := hd
    rw [← e] at hlast
    omega
  | succ k =>
    refine WhileStep.intro (n' := k) F' N' (Nat.lt_succ_self k) ⟨rfl, vs ++ [.int y t], c, ds ++ [y], by rw [List.push_toArray], hI.append (.cons _ _ .nil), by simp, ?_, by simp; omega⟩
    rw [← hd, ← hy]
    conv => rhs; unfold dueL
    rw [if_pos h1]
set_option maxRecDepth 100000 in
set_option maxHeartbeats 0 in
theorem law_while {w : World} {p : Program} {loose : List Str} {mean : ExcName → Option Value} {mg' mb' : Str → Option Value} {base : Heap} {L fa du : Addr} {s : Shared} {n0 c : Nat} {tn : Tok} {news : List (Addr × Obj)} {m : Str → Option Value}
    {Q : Flow → Shared → Prop} {E : Value → Shared → Prop}
    (hE : PassesOwn (model PySem.Challenge.rw_bi0029_01.row.prog w) (callerA.deeper (lawEnv L fa)) (lawEnv L fa) E)
    (B : Below callerA base [] base) (T : Top p loose mean mg' mb' base) (F : Fr base L s.heap (fun y => if y = Str.ofString "due" then some (.ref du) else m y))
    (N : News base L s.heap ((du, W.listOf #[.int (n0 : Nat) tn] c) :: news)) (hnd : ∀ p ∈ news, p.1 ≠ du) (hlast : (dueL 100 [(n0 : Int)]).getLastD 0 ≤ 1)
    (hret : ∀ (vs : List Value) (c' : Nat) (h' : Heap) (tk' : Nat), Fr base L h' (fun y => if y = Str.ofString "due" then some (.ref du) else m y) → News base L h' ((du, W.listOf vs.toArray c') :: news) → IntsAre vs (dueL 100 [(n0 : Int)]) → vs.length ≤ 101 → Q .next { s with heap := h', toks := tk' }) :
    (hd.heap_39 w.params).In base → wpAny (model PySem.Challenge.rw_bi0029_01.row.prog w) (callerA.deeper (lawEnv L fa)) (exec (nthSt (bodyOf lawSt) 11) (lawEnv L fa)) Q E s := by
  k_fill
  intro X
  generalize hsc : scopeOf lawSt = sc at *
  conv at hsc => lhs; whnf
  generalize hbo : nthSt (bodyOf lawSt) 11 = bo at *
  conv at hbo => lhs; whnf
  subst hsc hbo
  refine' While_inv (fun n m₁ news₁ => m₁ = (fun y => if y = Str.ofString "due" then some (.ref du) else m y) ∧ ∃ (vs : List Value) (c : Nat) (ds : List Int), news₁ = (du, W.listOf vs.toArray c) :: news ∧ IntsAre vs ds ∧ ds ≠ [] ∧ dueL n ds = dueL 100 [(n0 : Int)] ∧ vs.length + n ≤ 101) (n₀ := 100) F N ⟨rfl, [.int (n0 : Nat) tn], c, [(n0 : Int)], rfl, ?h0, by simp, rfl, by simp⟩ ?turn hE
  case h0 => l_ints
  case turn =>
    rintro n m₁ news₁ h₁ tk₁ F₁ N₁ ⟨rfl, vs, c, ds, rfl, hI, hne, hd, hsz⟩
    walk_at "GO"
    · rename 1 < ds.getLastD 0 => h1
      rename (ds.getLastD 0).fmod 2 = 0 => h2
      rename Fr _ _ _ _ => F'
      rename News _ _ _ _ => N'
      exact due_step F' N' hI hd hsz hlast h1 (by unfold nextD; rw [Int.fmod_eq_emod_of_nonneg _ (by decide)] at h2; rw [if_pos h2, Int.fdiv_eq_ediv_of_nonneg _ (by decide)])
    · rename 1 < ds.getLastD 0 => h1
      rename (ds.getLastD 0).fmod 2 ≠ 0 => h2
      rename Fr _ _ _ _ => F'
      rename News _ _ _ _ => N'
      exact due_step F' N' hI hd hsz hlast h1 (by unfold nextD; rw [Int.fmod_eq_emod_of_nonneg _ (by decide)] at h2; rw [if_neg h2, Int.fdiv_eq_ediv_of_nonneg _ (by decide)])
    · rename ¬ 1 < ds.getLastD 0 => h1
      have e : ds = dueL 100 [(n0 : Int)] := by
        rw [← hd]
        cases n with
        | zero => rfl
        | succ k => unfold dueL; rw [if_neg h1]
      rw [e] at hI
      exact hret vs c h₁ _ F₁ N₁ hI (by omega)
theorem anew50 : True := by
  w_top off
  trivial
theorem ne_ints_same {prog : Program} {w : World} {A : Around} {E : Value → Shared → Prop} {s : Shared} {h₀ : Heap} {L : Addr} {news : List (Addr × Obj)} {a b : Addr} {xs ys : List Value} {n1 n2 : Nat} {ns : List Int} {Q : Value → Shared → Prop}
    (N : News h₀ L s.heap news) (ha : (a, W.listOf xs.toArray n1) ∈ news) (hb : (b, W.listOf ys.toArray n2) ∈ news) (hi : IntsAre xs ns) (hj : IntsAre ys ns) (hu : A.units + 64 < cLine) (h : Q (.bool false) s) :
    wpAny (model prog w) A (compareOp .NotEq (.ref a) (.ref b)) Q E s :=
  ke_ne_ints ⟨_, (N _ ha).1, rfl, _, rfl⟩ ⟨_, (N _ hb).1, rfl, _, rfl⟩ hi hj hu (by rw [decide_eq_true rfl]; exact h)
local macro_rules | `(tactic| walk_at "S1") => `(tactic| (k_here; (with_reducible show wpAny _ _ (compareOp CmpOp.NotEq (Value.ref _) (Value.ref _)) _ _ _); k_dflt (refine' ne_ints_same ?k1 ?k2 ?k3 ?k4 ?k5 ?k6 ?_; (case k1 => k_asm); (case k2 => k_mem); (case k3 => k_mem); (case k4 => assumption); (case k5 => assumption); (case k6 => ke_room); k_whole); (try dsimp only)))
set_option maxRecDepth 100000 in
set_option maxHeartbeats 0 in
theorem law_tail {w : World} {p : Program} {loose : List Str} {mean : ExcName → Option Value} {mg' mb' : Str → Option Value} {base : Heap} {L fa l mg : Addr} {s : Shared} {o4 o5 o6 ost : Obj}
    {st rw tr dx hb ha ab aa : Addr} {es : List DictEntry} {n n0 nr n1 n2 n3 n4 : Nat} {tn : Tok} {news : List (Addr × Obj)} {uk : Option Value} {du : Addr} {vs : List Value} {c : Nat} {vr : List Value} {r : Nat} {o v : Int}
    {Q : Flow → Shared → Prop} {E : Value → Shared → Prop}
    (hE : PassesOwn (model PySem.Challenge.rw_bi0029_01.row.prog w) (callerA.deeper (lawEnv L fa)) (lawEnv L fa) E)
    (B : Below callerA base [] base) (T : Top p loose mean mg' mb' base) (F : Fr base L s.heap (fun y => if y = Str.ofString "due" then some (.ref du) else if y = Str.ofString "k" then uk else lawMap l mg n0 tn y))
    (N : News base L s.heap news) (lost : (st == sysModules) = false)
    (hst : (st, ost) ∈ news) (hrw : (rw, W.listOf vr.toArray nr) ∈ news) (htr : (tr, instObj 546 dx) ∈ news) (hdx : (dx, dictOf es n) ∈ news)
    (hb1 : (hb, W.listOf #[] n1) ∈ news) (ha1 : (ha, W.listOf #[] n2) ∈ news) (ab1 : (ab, W.listOf #[] n3) ∈ news) (aa1 : (aa, W.listOf #[] n4) ∈ news)
    (g0 : getL (Str.ofString "_before_commit") es = some (some (.ref hb))) (g00 : getL (Str.ofString "getBeforeCommitHooks") es = some none)
    (g1 : getL (Str.ofString "_after_commit") es = some (some (.ref ha))) (g11 : getL (Str.ofString "getAfterCommitHooks") es = some none)
    (g2 : getL (Str.ofString "_before_abort") es = some (some (.ref ab))) (g22 : getL (Str.ofString "getBeforeAbortHooks") es = some none)
    (g3 : getL (Str.ofString "_after_abort") es = some (some (.ref aa))) (g33 : getL (Str.ofString "getAfterAbortHooks") es = some none)
    (hcW : (L + 1 + 1 + 1 + 1, o4) ∈ news) (hcW1 : o4.data = .cell (some (.ref rw))) (hcS : (L + 1 + 1 + 1 + 1 + 1, o5) ∈ news) (hcS1 : o5.data = .cell (some (.ref st))) (hcT : (L + 1 + 1 + 1 + 1 + 1 + 1, o6) ∈ news) (hcT1 : o6.data = .cell (some (.ref tr)))
    (hS : StIs w ost (r : Nat) (r : Nat) o v) (hns : IntsAre vr (dueL 100 [(n0 : Int)]))
    (hdu : (du, W.listOf vs.toArray c) ∈ news) (hvs : IntsAre vs (dueL 100 [(n0 : Int)])) (hvl : vs.length ≤ 101)
    (hret : ∀ (h' : Heap) (tk' : Nat) (m' : Str → Option Value), Fr base L h' m' → News base L h' news → Q (.ret (.bool true)) { s with heap := h', toks := tk' }) :
    (hd.heap_39 w.params).In base → wpAny (model PySem.Challenge.rw_bi0029_01.row.prog w) (callerA.deeper (lawEnv L fa)) (execs (restSt (bodyOf lawSt) 12) (lawEnv L fa)) Q E s := by
  k_fill
  intro X
  generalize hsc : scopeOf lawSt = sc at *
  conv at hsc => lhs; whnf
  generalize hbo : restSt (bodyOf lawSt) 12 = bo at *
  conv at hbo => lhs; whnf
  subst hsc hbo
  iterate 22 walk_at "S1"
  · exact absurd rfl (by assumption)
  walk_at "GO"
  exact hret _ _ _ (by assumption) (cb_drop (by assumption) (fun p hp => .tail _ (.tail _ (.tail _ (.tail _ (.tail _ (.tail _ (.tail _ (.tail _ (.tail _ (.tail _ hp)))))))))))
theorem anew51 : True := by
  w_top off
  trivial
set_option maxRecDepth 100000 in
set_option maxHeartbeats 0 in
theorem law_due {w : World} {p : Program} {loose : List Str} {mean : ExcName → Option Value} {mg' mb' : Str → Option Value} {base : Heap} {L fa l mg : Addr} {s : Shared} {n0 : Nat} {tn : Tok} {news : List (Addr × Obj)} {uk : Option Value}
    {Q : Flow → Shared → Prop} {E : Value → Shared → Prop}
    (hE : PassesOwn (model PySem.Challenge.rw_bi0029_01.row.prog w) (callerA.deeper (lawEnv L fa)) (lawEnv L fa) E)
    (B : Below callerA base [] base) (T : Top p loose mean mg' mb' base) (F : Fr base L s.heap (fun y => if y = Str.ofString "k" then uk else lawMap l mg n0 tn y)) (N : News base L s.heap news)
    (hret : ∀ (du : Addr) (c : Nat) (tn' : Tok) (h' : Heap) (tk' : Nat), Fr base L h' (fun y => if y = Str.ofString "due" then some (.ref du) else if y = Str.ofString "k" then uk else lawMap l mg n0 tn y) → News base L h' ((du, W.listOf #[.int (n0 : Nat) tn'] c) :: news) →
      (∀ p ∈ news, @LT.lt Nat _ p.1 du) → Q .next { s with heap := h', toks := tk' }) :
    (hd.heap_39 w.params).In base → wpAny (model PySem.Challenge.rw_bi0029_01.row.prog w) (callerA.deeper (lawEnv L fa)) (exec (nthSt (bodyOf lawSt) 10) (lawEnv L fa)) Q E s := by
  k_fill
  intro X
  generalize hsc : scopeOf lawSt = sc at *
  conv at hsc => lhs; whnf
  generalize hbo : nthSt (bodyOf lawSt) 10 = bo at *
  conv at hbo => lhs; whnf
  subst hsc hbo
  walk_at "GO"
  exact hret _ _ _ _ _ (by assumption) (by assumption) (by assumption)
theorem due_last {n : Nat} (h1 : 1 ≤ n) (h2 : n ≤ 8) : (dueL 100 [(n : Int)]).getLastD 0 ≤ 1 := by
  rcases (by omega : n = 1 ∨ n = 2 ∨ n = 3 ∨ n = 4 ∨ n = 5 ∨ n = 6 ∨ n = 7 ∨ n = 8) with rfl | rfl | rfl | rfl | rfl | rfl | rfl | rfl <;> decide +kernel
theorem led_sec {h₀ h : Heap} {L : Addr} {a b c m1 m2 m3 m4 m5 m6 m7 : Addr × Obj} {created rest : List (Addr × Obj)} (N : News h₀ L h (created ++ a :: b :: c :: m1 :: m2 :: m3 :: m4 :: m5 :: m6 :: m7 :: rest)) :
    News h₀ L h (a :: b :: c :: m1 :: m2 :: m3 :: m4 :: m5 :: m6 :: m7 :: (created ++ rest)) := by
  refine cb_drop N ?_
  intro p hp
  simp only [List.mem_cons, List.mem_append] at hp ⊢
  grind
theorem anew52 : True := by
  w_top off
  trivial
set_option maxRecDepth 100000 in
set_option maxHeartbeats 0 in
theorem law_sec0 {w : World} {p : Program} {loose : List Str} {mean : ExcName → Option Value} {mg' mb' : Str → Option Value}
    {base : Heap} {L fa l : Addr} {s : Shared}
    {qA qR : Str} {docA pmA ctvA docR pmR ctvR : Value} {addF codA readF codR st rw tr dx mg dmg sy dsy ly rl ad vo ex hb ha ab aa : Addr} {oA oW oK oR oS oT ocA ocR ost₀ : Obj} {esy : List DictEntry} {nsy nly k : Nat} {vsA vsR : Array Value} {tqA tqR : Tok}
    {rest : List (Addr × Obj)} {tkk tn : Tok} {n0 : Nat} {t1 t2 t3 t4 t5 t6 t7 t8 t9 t10 t11 t12 t13 t14 t15 : Tok} {p1 p2 p3 p4 : Array Value}
    {Q : Flow → Shared → Prop} {E : Value → Shared → Prop}
    (hE : PassesOwn (model PySem.Challenge.rw_bi0029_01.row.prog w) (callerA.deeper (lawEnv L fa)) (lawEnv L fa) E)
    (B : Below callerA base [] base) (F : Fr base L s.heap (lawMap l mg n0 tn)) (T : Top p loose mean mg' mb' base) (hkk : k = 0)
    (C1 : CodeHd base 662 658) (C2 : CodeHd base 513 509) (C3 : CodeHd base 475 471) (C4 : CodeHd base 359 355)
    (N : News base L s.heap ((hb, W.listOf #[] 0) :: (st, ost₀) :: (rw, W.listOf #[] 0) :: (355, tabObj #[]) :: (dmg, dictOf [ent w "explicit" t13 (.bool false), ent w "_txn" t14 (.ref tr), ent w "_synchs" t15 (.ref sy)] 3) :: (dx, dictOf [ent w "status" t1 ((.str (Str.ofString "Active") 413)), ent w "_resources" t2 (.ref rl), ent w "_synchronizers" t3 (.ref sy), ent w "_manager" t4 (.ref mg), ent w "_adapters" t5 (.ref ad), ent w "_voted" t6 (.ref vo), ent w "extension" t7 (.ref ex), ent w "_failure_traceback" t8 (.none), ent w "_before_commit" t9 (.ref hb), ent w "_after_commit" t10 (.ref ha), ent w "_before_abort" t11 (.ref ab), ent w "_after_abort" t12 (.ref aa)] 12) :: (rl, W.listOf #[] 0) :: (ha, W.listOf #[] 0) :: (ab, W.listOf #[] 0) :: (aa, W.listOf #[] 0) :: rest))
    (o0 : @LT.lt Nat _ 355 dmg) (o1 : @LT.lt Nat _ dmg dx) (o2 : @LT.lt Nat _ dx rl) (o3 : @LT.lt Nat _ rl hb) (o4 : @LT.lt Nat _ hb ha) (o5 : @LT.lt Nat _ ha ab) (o6 : @LT.lt Nat _ ab aa) (o7 : @LT.lt Nat _ aa st) (o8 : @LT.lt Nat _ st rw)
    (g0 : ∀ p ∈ rest, p.1 ≠ 355) (g1 : ∀ p ∈ rest, p.1 ≠ dmg) (g2 : ∀ p ∈ rest, p.1 ≠ dx) (g3 : ∀ p ∈ rest, p.1 ≠ rl) (g4 : ∀ p ∈ rest, p.1 ≠ hb) (g5 : ∀ p ∈ rest, p.1 ≠ ha) (g6 : ∀ p ∈ rest, p.1 ≠ ab) (g7 : ∀ p ∈ rest, p.1 ≠ aa) (g8 : ∀ p ∈ rest, p.1 ≠ st) (g9 : ∀ p ∈ rest, p.1 ≠ rw)
    (lost : (st == sysModules) = false)
    (hR : (readF, fnMade (Str.ofString "read") qR (paramsOf readSt) (bodyOf readSt) (scopeOf readSt) [(Str.ofString "state", L + 1 + 1 + 1 + 1 + 1), (Str.ofString "rows", L + 1 + 1 + 1 + 1), (Str.ofString "add", L + 1)] docR pmR codR ctvR) ∈ rest)
    (hcdR : (codR, ocR) ∈ rest) (hcdR1 : ocR.data = .fields vsR) (hcdR2 : vsR[1]? = some (.str qR tqR))
    (hA : (addF, fnMade (Str.ofString "add") qA (paramsOf addSt) (bodyOf addSt) (scopeOf addSt) [(Str.ofString "transaction", L + 1 + 1 + 1 + 1 + 1 + 1), (Str.ofString "state", L + 1 + 1 + 1 + 1 + 1), (Str.ofString "read", L + 1 + 1 + 1), (Str.ofString "kind", L + 1 + 1)] docA pmA codA ctvA) ∈ rest)
    (hcA : (codA, ocA) ∈ rest) (hcA1 : ocA.data = .fields vsA) (hcA2 : vsA[1]? = some (.str qA tqA))
    (hcK : (L + 1 + 1, oK) ∈ rest) (hcK1 : oK.data = .cell (some (.int (k : Nat) tkk))) (hk4 : k < 4)
    (hcR : (L + 1 + 1 + 1, oR) ∈ rest) (hcR1 : oR.data = .cell (some (.ref readF)))
    (hcS : (L + 1 + 1 + 1 + 1 + 1, oS) ∈ rest) (hcS1 : oS.data = .cell (some (.ref st)))
    (hcT : (L + 1 + 1 + 1 + 1 + 1 + 1, oT) ∈ rest) (hcT1 : oT.data = .cell (some (.ref tr)))
    (hcAd : (L + 1, oA) ∈ rest) (hcAd1 : oA.data = .cell (some (.ref addF)))
    (hcW : (L + 1 + 1 + 1 + 1, oW) ∈ rest) (hcW1 : oW.data = .cell (some (.ref rw)))
    (htr : (tr, instObj 546 dx) ∈ rest) (hmg : (mg, instObj 818 dmg) ∈ rest) (hsy : (sy, instObj 167 dsy) ∈ rest) (hds : (dsy, dictOf esy nsy) ∈ rest) (hly : (ly, W.listOf #[] nly) ∈ rest)
    (hda : getL (Str.ofString "data") esy = some (some (.ref ly))) (haw : getL (Str.ofString "as_weakref_list") esy = some none) (hmap : getL (Str.ofString "map") esy = some none)
    (ta658 : (658, tabObj p1) ∈ rest) (ta509 : (509, tabObj p2) ∈ rest) (ta471 : (471, tabObj p3) ∈ rest) (ta838 : (838, tabObj p4) ∈ rest)
    (hS₀ : StIs w ost₀ 0 0 0 0) (hn1 : 1 ≤ n0) (hn2 : n0 ≤ 8)
    (hret : ∀ (h' : Heap) (tk' : Nat) (m' : Str → Option Value) (news' : List (Addr × Obj)), Fr base L h' m' → News base L h' news' → (∀ P ∈ [658, 509, 471, 355, 838], ∃ ps, ((P : Nat), tabObj ps) ∈ news') → Q (.ret (.bool true)) { s with heap := h', toks := tk' }) :
    (hd.heap_39 w.params).In base → wpAny (model PySem.Challenge.rw_bi0029_01.row.prog w) (callerA.deeper (lawEnv L fa)) (execs (restSt (bodyOf lawSt) 8) (lawEnv L fa)) Q E s := by
  intro X
  have e : restSt (bodyOf lawSt) 8 = nthSt (bodyOf lawSt) 8 :: nthSt (bodyOf lawSt) 9 :: nthSt (bodyOf lawSt) 10 :: nthSt (bodyOf lawSt) 11 :: restSt (bodyOf lawSt) 12 := by rfl
  rw [e]
  subst hkk
  refine wpAny_execs_cons ?_
  refine' law_loop (k := 0) (es := [ent w "status" t1 ((.str (Str.ofString "Active") 413)), ent w "_resources" t2 (.ref rl), ent w "_synchronizers" t3 (.ref sy), ent w "_manager" t4 (.ref mg), ent w "_adapters" t5 (.ref ad), ent w "_voted" t6 (.ref vo), ent w "extension" t7 (.ref ex), ent w "_failure_traceback" t8 (.none), ent w "_before_commit" t9 (.ref hb), ent w "_after_commit" t10 (.ref ha), ent w "_before_abort" t11 (.ref ab), ent w "_after_abort" t12 (.ref aa)]) (n := 12) hE B T F N (by k_all) (by k_all) (by k_ne) lost (by k_mem) (by k_mem) hcA1 hcA2 (by k_mem) hcK1 (by decide) (by k_mem) hcR1 (by k_mem) hcS1 (by k_mem) hcT1 (by k_mem) hcAd1 (by k_mem) (by k_mem) (by kernel_rfl) (by kernel_rfl) hn2 hS₀ ?_ X
  intro created items nl ost' h' tk' uk F1 N1 hC hEn hI
  dsimp only
  have hcr : Above rw created := fun p hp => (hC p hp).2.2 _ (.head _)
  have N2 := led_sec N1
  have hz : items.size = n0 := by
    have := hEn.length
    simp only [Array.length_toList, List.length_map, List.length_replicate] at this
    exact this
  have hpos : 0 < items.size := by omega
  have hfit : items.size < 2 ^ 62 := by omega
  obtain ⟨qf, hrun, hns, hlenr⟩ := good_all hn1 hn2
  refine wpAny_execs_cons ?_
  refine' law_act0 (k := 0) hE B F1 T rfl C1 C2 C3 C4 N2 o0 o1 o2 o3 o4 o5 o6 o7 o8 g0 g1 g2 g3 g4 g5 g6 g7 g8 g9 hcr lost hR hcdR hcdR1 hcdR2 hA hcA hcA1 hcA2 hcK hcK1 hk4 hcR hcR1 hcS hcS1 hcT hcT1 hcAd hcAd1 hcW hcW1 htr hmg hsy hds hly hda haw hmap hEn hI hpos hfit hrun hlenr ?_ X
  intro rows m1 m2 m3 m4 m5 nr ost3 sv ps h3 tk3 F3 N3 hS3 hI3
  dsimp only
  rw [hns] at hI3
  rw [hlenr] at hS3
  obtain ⟨vr, rfl⟩ : ∃ vr : List Value, rows = vr.toArray := ⟨rows.toList, by simp⟩
  refine wpAny_execs_cons ?_
  refine' law_due hE B T F3 N3 ?_ X
  intro du c tn' h4 tk4 F4 N4 l4
  dsimp only
  refine wpAny_execs_cons ?_
  refine' law_while (m := fun y => if y = Str.ofString "k" then uk else lawMap l mg n0 tn y) hE B T F4 N4 (fun p hp => Nat.ne_of_lt (l4 p hp)) (due_last hn1 hn2) ?_ X
  intro vs c' h5 tk5 F5 N5 hvs hvl
  dsimp only
  refine' law_tail (hb := hb) (ha := ha) (ab := ab) (aa := aa) (tr := tr) (dx := dx) hE B T F5 N5 lost (by k_mem) (by k_mem) (by k_mem) (by k_mem) (by k_mem) (by k_mem) (by k_mem) (by k_mem) (by kernel_rfl) (by kernel_rfl) (by kernel_rfl) (by kernel_rfl) (by kernel_rfl) (by kernel_rfl) (by kernel_rfl) (by kernel_rfl) (by k_mem) hcW1 (by k_mem) hcS1 (by k_mem) hcT1 hS3 hI3 (by k_mem) hvs hvl ?_ X
  intro h6 tk6 m6 F6 N6
  refine hret _ _ _ _ F6 N6 ?_
  intro P hP
  simp only [List.mem_cons, List.not_mem_nil, or_false] at hP
  rcases hP with rfl | rfl | rfl | rfl | rfl
  · exact ⟨_, by k_mem⟩
  · exact ⟨_, by k_mem⟩
  · exact ⟨_, by k_mem⟩
  · exact ⟨_, by k_mem⟩
  · exact ⟨_, by k_mem⟩
theorem anew53 : True := by
  w_top off
  trivial
set_option maxRecDepth 100000 in
set_option maxHeartbeats 0 in
theorem law_sec1 {w : World} {p : Program} {loose : List Str} {mean : ExcName → Option Value} {mg' mb' : Str → Option Value}
    {base : Heap} {L fa l : Addr} {s : Shared}
    {qA qR : Str} {docA pmA ctvA docR pmR ctvR : Value} {addF codA readF codR st rw tr dx mg dmg sy dsy ly rl ad vo ex hb ha ab aa : Addr} {oA oW oK oR oS oT ocA ocR ost₀ : Obj} {esy : List DictEntry} {nsy nly k : Nat} {vsA vsR : Array Value} {tqA tqR : Tok}
    {rest : List (Addr × Obj)} {tkk tn : Tok} {n0 : Nat} {t1 t2 t3 t4 t5 t6 t7 t8 t9 t10 t11 t12 t13 t14 t15 : Tok} {p1 p2 p3 p4 : Array Value}
    {Q : Flow → Shared → Prop} {E : Value → Shared → Prop}
    (hE : PassesOwn (model PySem.Challenge.rw_bi0029_01.row.prog w) (callerA.deeper (lawEnv L fa)) (lawEnv L fa) E)
    (B : Below callerA base [] base) (F : Fr base L s.heap (lawMap l mg n0 tn)) (T : Top p loose mean mg' mb' base) (hkk : k = 1)
    (C1 : CodeHd base 662 658) (C2 : CodeHd base 513 509) (C3 : CodeHd base 475 471) (C4 : CodeHd base 359 355)
    (N : News base L s.heap ((ha, W.listOf #[] 0) :: (st, ost₀) :: (rw, W.listOf #[] 0) :: (355, tabObj #[]) :: (dmg, dictOf [ent w "explicit" t13 (.bool false), ent w "_txn" t14 (.ref tr), ent w "_synchs" t15 (.ref sy)] 3) :: (dx, dictOf [ent w "status" t1 ((.str (Str.ofString "Active") 413)), ent w "_resources" t2 (.ref rl), ent w "_synchronizers" t3 (.ref sy), ent w "_manager" t4 (.ref mg), ent w "_adapters" t5 (.ref ad), ent w "_voted" t6 (.ref vo), ent w "extension" t7 (.ref ex), ent w "_failure_traceback" t8 (.none), ent w "_before_commit" t9 (.ref hb), ent w "_after_commit" t10 (.ref ha), ent w "_before_abort" t11 (.ref ab), ent w "_after_abort" t12 (.ref aa)] 12) :: (rl, W.listOf #[] 0) :: (hb, W.listOf #[] 0) :: (ab, W.listOf #[] 0) :: (aa, W.listOf #[] 0) :: rest))
    (o0 : @LT.lt Nat _ 355 dmg) (o1 : @LT.lt Nat _ dmg dx) (o2 : @LT.lt Nat _ dx rl) (o3 : @LT.lt Nat _ rl hb) (o4 : @LT.lt Nat _ hb ha) (o5 : @LT.lt Nat _ ha ab) (o6 : @LT.lt Nat _ ab aa) (o7 : @LT.lt Nat _ aa st) (o8 : @LT.lt Nat _ st rw)
    (g0 : ∀ p ∈ rest, p.1 ≠ 355) (g1 : ∀ p ∈ rest, p.1 ≠ dmg) (g2 : ∀ p ∈ rest, p.1 ≠ dx) (g3 : ∀ p ∈ rest, p.1 ≠ rl) (g4 : ∀ p ∈ rest, p.1 ≠ hb) (g5 : ∀ p ∈ rest, p.1 ≠ ha) (g6 : ∀ p ∈ rest, p.1 ≠ ab) (g7 : ∀ p ∈ rest, p.1 ≠ aa) (g8 : ∀ p ∈ rest, p.1 ≠ st) (g9 : ∀ p ∈ rest, p.1 ≠ rw)
    (lost : (st == sysModules) = false)
    (hR : (readF, fnMade (Str.ofString "read") qR (paramsOf readSt) (bodyOf readSt) (scopeOf readSt) [(Str.ofString "state", L + 1 + 1 + 1 + 1 + 1), (Str.ofString "rows", L + 1 + 1 + 1 + 1), (Str.ofString "add", L + 1)] docR pmR codR ctvR) ∈ rest)
    (hcdR : (codR, ocR) ∈ rest) (hcdR1 : ocR.data = .fields vsR) (hcdR2 : vsR[1]? = some (.str qR tqR))
    (hA : (addF, fnMade (Str.ofString "add") qA (paramsOf addSt) (bodyOf addSt) (scopeOf addSt) [(Str.ofString "transaction", L + 1 + 1 + 1 + 1 + 1 + 1), (Str.ofString "state", L + 1 + 1 + 1 + 1 + 1), (Str.ofString "read", L + 1 + 1 + 1), (Str.ofString "kind", L + 1 + 1)] docA pmA codA ctvA) ∈ rest)
    (hcA : (codA, ocA) ∈ rest) (hcA1 : ocA.data = .fields vsA) (hcA2 : vsA[1]? = some (.str qA tqA))
    (hcK : (L + 1 + 1, oK) ∈ rest) (hcK1 : oK.data = .cell (some (.int (k : Nat) tkk))) (hk4 : k < 4)
    (hcR : (L + 1 + 1 + 1, oR) ∈ rest) (hcR1 : oR.data = .cell (some (.ref readF)))
    (hcS : (L + 1 + 1 + 1 + 1 + 1, oS) ∈ rest) (hcS1 : oS.data = .cell (some (.ref st)))
    (hcT : (L + 1 + 1 + 1 + 1 + 1 + 1, oT) ∈ rest) (hcT1 : oT.data = .cell (some (.ref tr)))
    (hcAd : (L + 1, oA) ∈ rest) (hcAd1 : oA.data = .cell (some (.ref addF)))
    (hcW : (L + 1 + 1 + 1 + 1, oW) ∈ rest) (hcW1 : oW.data = .cell (some (.ref rw)))
    (htr : (tr, instObj 546 dx) ∈ rest) (hmg : (mg, instObj 818 dmg) ∈ rest) (hsy : (sy, instObj 167 dsy) ∈ rest) (hds : (dsy, dictOf esy nsy) ∈ rest) (hly : (ly, W.listOf #[] nly) ∈ rest)
    (hda : getL (Str.ofString "data") esy = some (some (.ref ly))) (haw : getL (Str.ofString "as_weakref_list") esy = some none) (hmap : getL (Str.ofString "map") esy = some none)
    (ta658 : (658, tabObj p1) ∈ rest) (ta509 : (509, tabObj p2) ∈ rest) (ta471 : (471, tabObj p3) ∈ rest) (ta838 : (838, tabObj p4) ∈ rest)
    (hS₀ : StIs w ost₀ 0 0 0 0) (hn1 : 1 ≤ n0) (hn2 : n0 ≤ 8)
    (hret : ∀ (h' : Heap) (tk' : Nat) (m' : Str → Option Value) (news' : List (Addr × Obj)), Fr base L h' m' → News base L h' news' → (∀ P ∈ [658, 509, 471, 355, 838], ∃ ps, ((P : Nat), tabObj ps) ∈ news') → Q (.ret (.bool true)) { s with heap := h', toks := tk' }) :
    (hd.heap_39 w.params).In base → wpAny (model PySem.Challenge.rw_bi0029_01.row.prog w) (callerA.deeper (lawEnv L fa)) (execs (restSt (bodyOf lawSt) 8) (lawEnv L fa)) Q E s := by
  intro X
  have e : restSt (bodyOf lawSt) 8 = nthSt (bodyOf lawSt) 8 :: nthSt (bodyOf lawSt) 9 :: nthSt (bodyOf lawSt) 10 :: nthSt (bodyOf lawSt) 11 :: restSt (bodyOf lawSt) 12 := by rfl
  rw [e]
  subst hkk
  refine wpAny_execs_cons ?_
  refine' law_loop (k := 1) (es := [ent w "status" t1 ((.str (Str.ofString "Active") 413)), ent w "_resources" t2 (.ref rl), ent w "_synchronizers" t3 (.ref sy), ent w "_manager" t4 (.ref mg), ent w "_adapters" t5 (.ref ad), ent w "_voted" t6 (.ref vo), ent w "extension" t7 (.ref ex), ent w "_failure_traceback" t8 (.none), ent w "_before_commit" t9 (.ref hb), ent w "_after_commit" t10 (.ref ha), ent w "_before_abort" t11 (.ref ab), ent w "_after_abort" t12 (.ref aa)]) (n := 12) hE B T F N (by k_all) (by k_all) (by k_ne) lost (by k_mem) (by k_mem) hcA1 hcA2 (by k_mem) hcK1 (by decide) (by k_mem) hcR1 (by k_mem) hcS1 (by k_mem) hcT1 (by k_mem) hcAd1 (by k_mem) (by k_mem) (by kernel_rfl) (by kernel_rfl) hn2 hS₀ ?_ X
  intro created items nl ost' h' tk' uk F1 N1 hC hEn hI
  dsimp only
  have hcr : Above rw created := fun p hp => (hC p hp).2.2 _ (.head _)
  have N2 := led_sec N1
  have hz : items.size = n0 := by
    have := hEn.length
    simp only [Array.length_toList, List.length_map, List.length_replicate] at this
    exact this
  have hpos : 0 < items.size := by omega
  have hfit : items.size < 2 ^ 62 := by omega
  obtain ⟨qf, hrun, hns, hlenr⟩ := good_all hn1 hn2
  refine wpAny_execs_cons ?_
  refine' law_act1 (k := 1) hE B F1 T rfl C1 C2 C3 C4 N2 o0 o1 o2 o3 o4 o5 o6 o7 o8 g0 g1 g2 g3 g4 g5 g6 g7 g8 g9 hcr lost hR hcdR hcdR1 hcdR2 hA hcA hcA1 hcA2 hcK hcK1 hk4 hcR hcR1 hcS hcS1 hcT hcT1 hcAd hcAd1 hcW hcW1 htr hmg hsy hds hly hda haw hmap hEn hI hpos hfit hrun hlenr ?_ X
  intro rows m1 m2 m3 m4 m5 nr ost3 sv ps h3 tk3 F3 N3 hS3 hI3
  dsimp only
  rw [hns] at hI3
  rw [hlenr] at hS3
  obtain ⟨vr, rfl⟩ : ∃ vr : List Value, rows = vr.toArray := ⟨rows.toList, by simp⟩
  refine wpAny_execs_cons ?_
  refine' law_due hE B T F3 N3 ?_ X
  intro du c tn' h4 tk4 F4 N4 l4
  dsimp only
  refine wpAny_execs_cons ?_
  refine' law_while (m := fun y => if y = Str.ofString "k" then uk else lawMap l mg n0 tn y) hE B T F4 N4 (fun p hp => Nat.ne_of_lt (l4 p hp)) (due_last hn1 hn2) ?_ X
  intro vs c' h5 tk5 F5 N5 hvs hvl
  dsimp only
  refine' law_tail (hb := hb) (ha := ha) (ab := ab) (aa := aa) (tr := tr) (dx := dx) hE B T F5 N5 lost (by k_mem) (by k_mem) (by k_mem) (by k_mem) (by k_mem) (by k_mem) (by k_mem) (by k_mem) (by kernel_rfl) (by kernel_rfl) (by kernel_rfl) (by kernel_rfl) (by kernel_rfl) (by kernel_rfl) (by kernel_rfl) (by kernel_rfl) (by k_mem) hcW1 (by k_mem) hcS1 (by k_mem) hcT1 hS3 hI3 (by k_mem) hvs hvl ?_ X
  intro h6 tk6 m6 F6 N6
  refine hret _ _ _ _ F6 N6 ?_
  intro P hP
  simp only [List.mem_cons, List.not_mem_nil, or_false] at hP
  rcases hP with rfl | rfl | rfl | rfl | rfl
  · exact ⟨_, by k_mem⟩
  · exact ⟨_, by k_mem⟩
  · exact ⟨_, by k_mem⟩
  · exact ⟨_, by k_mem⟩
  · exact ⟨_, by k_mem⟩
theorem anew54 : True := by
  w_top off
  trivial
set_option maxRecDepth 100000 in
set_option maxHeartbeats 0 in
theorem law_sec2 {w : World} {p : Program} {loose : List Str} {mean : ExcName → Option Value} {mg' mb' : Str → Option Value}
    {base : Heap} {L fa l : Addr} {s : Shared}
    {qA qR : Str} {docA pmA ctvA docR pmR ctvR : Value} {addF codA readF codR st rw tr dx mg dmg sy dsy ly rl ad vo ex hb ha ab aa : Addr} {oA oW oK oR oS oT ocA ocR ost₀ : Obj} {esy : List DictEntry} {nsy nly k : Nat} {vsA vsR : Array Value} {tqA tqR : Tok}
    {rest : List (Addr × Obj)} {tkk tn : Tok} {n0 : Nat} {t1 t2 t3 t4 t5 t6 t7 t8 t9 t10 t11 t12 t13 t14 t15 : Tok} {p1 p2 p3 p4 : Array Value}
    {Q : Flow → Shared → Prop} {E : Value → Shared → Prop}
    (hE : PassesOwn (model PySem.Challenge.rw_bi0029_01.row.prog w) (callerA.deeper (lawEnv L fa)) (lawEnv L fa) E)
    (B : Below callerA base [] base) (F : Fr base L s.heap (lawMap l mg n0 tn)) (T : Top p loose mean mg' mb' base) (hkk : k = 2)
    (C1 : CodeHd base 662 658) (C2 : CodeHd base 513 509) (C3 : CodeHd base 475 471) (C4 : CodeHd base 359 355)
    (N : News base L s.heap ((ab, W.listOf #[] 0) :: (st, ost₀) :: (rw, W.listOf #[] 0) :: (509, tabObj #[]) :: (dmg, dictOf [ent w "explicit" t13 (.bool false), ent w "_txn" t14 (.ref tr), ent w "_synchs" t15 (.ref sy)] 3) :: (dx, dictOf [ent w "status" t1 ((.str (Str.ofString "Active") 413)), ent w "_resources" t2 (.ref rl), ent w "_synchronizers" t3 (.ref sy), ent w "_manager" t4 (.ref mg), ent w "_adapters" t5 (.ref ad), ent w "_voted" t6 (.ref vo), ent w "extension" t7 (.ref ex), ent w "_failure_traceback" t8 (.none), ent w "_before_commit" t9 (.ref hb), ent w "_after_commit" t10 (.ref ha), ent w "_before_abort" t11 (.ref ab), ent w "_after_abort" t12 (.ref aa)] 12) :: (rl, W.listOf #[] 0) :: (hb, W.listOf #[] 0) :: (ha, W.listOf #[] 0) :: (aa, W.listOf #[] 0) :: rest))
    (o0 : @LT.lt Nat _ 509 dmg) (o1 : @LT.lt Nat _ dmg dx) (o2 : @LT.lt Nat _ dx rl) (o3 : @LT.lt Nat _ rl hb) (o4 : @LT.lt Nat _ hb ha) (o5 : @LT.lt Nat _ ha ab) (o6 : @LT.lt Nat _ ab aa) (o7 : @LT.lt Nat _ aa st) (o8 : @LT.lt Nat _ st rw)
    (g0 : ∀ p ∈ rest, p.1 ≠ 509) (g1 : ∀ p ∈ rest, p.1 ≠ dmg) (g2 : ∀ p ∈ rest, p.1 ≠ dx) (g3 : ∀ p ∈ rest, p.1 ≠ rl) (g4 : ∀ p ∈ rest, p.1 ≠ hb) (g5 : ∀ p ∈ rest, p.1 ≠ ha) (g6 : ∀ p ∈ rest, p.1 ≠ ab) (g7 : ∀ p ∈ rest, p.1 ≠ aa) (g8 : ∀ p ∈ rest, p.1 ≠ st) (g9 : ∀ p ∈ rest, p.1 ≠ rw)
    (lost : (st == sysModules) = false)
    (hR : (readF, fnMade (Str.ofString "read") qR (paramsOf readSt) (bodyOf readSt) (scopeOf readSt) [(Str.ofString "state", L + 1 + 1 + 1 + 1 + 1), (Str.ofString "rows", L + 1 + 1 + 1 + 1), (Str.ofString "add", L + 1)] docR pmR codR ctvR) ∈ rest)
    (hcdR : (codR, ocR) ∈ rest) (hcdR1 : ocR.data = .fields vsR) (hcdR2 : vsR[1]? = some (.str qR tqR))
    (hA : (addF, fnMade (Str.ofString "add") qA (paramsOf addSt) (bodyOf addSt) (scopeOf addSt) [(Str.ofString "transaction", L + 1 + 1 + 1 + 1 + 1 + 1), (Str.ofString "state", L + 1 + 1 + 1 + 1 + 1), (Str.ofString "read", L + 1 + 1 + 1), (Str.ofString "kind", L + 1 + 1)] docA pmA codA ctvA) ∈ rest)
    (hcA : (codA, ocA) ∈ rest) (hcA1 : ocA.data = .fields vsA) (hcA2 : vsA[1]? = some (.str qA tqA))
    (hcK : (L + 1 + 1, oK) ∈ rest) (hcK1 : oK.data = .cell (some (.int (k : Nat) tkk))) (hk4 : k < 4)
    (hcR : (L + 1 + 1 + 1, oR) ∈ rest) (hcR1 : oR.data = .cell (some (.ref readF)))
    (hcS : (L + 1 + 1 + 1 + 1 + 1, oS) ∈ rest) (hcS1 : oS.data = .cell (some (.ref st)))
    (hcT : (L + 1 + 1 + 1 + 1 + 1 + 1, oT) ∈ rest) (hcT1 : oT.data = .cell (some (.ref tr)))
    (hcAd : (L + 1, oA) ∈ rest) (hcAd1 : oA.data = .cell (some (.ref addF)))
    (hcW : (L + 1 + 1 + 1 + 1, oW) ∈ rest) (hcW1 : oW.data = .cell (some (.ref rw)))
    (htr : (tr, instObj 546 dx) ∈ rest) (hmg : (mg, instObj 818 dmg) ∈ rest) (hsy : (sy, instObj 167 dsy) ∈ rest) (hds : (dsy, dictOf esy nsy) ∈ rest) (hly : (ly, W.listOf #[] nly) ∈ rest)
    (hda : getL (Str.ofString "data") esy = some (some (.ref ly))) (haw : getL (Str.ofString "as_weakref_list") esy = some none) (hmap : getL (Str.ofString "map") esy = some none)
    (ta658 : (658, tabObj p1) ∈ rest) (ta471 : (471, tabObj p2) ∈ rest) (ta355 : (355, tabObj p3) ∈ rest) (ta838 : (838, tabObj p4) ∈ rest)
    (hS₀ : StIs w ost₀ 0 0 0 0) (hn1 : 1 ≤ n0) (hn2 : n0 ≤ 8)
    (hret : ∀ (h' : Heap) (tk' : Nat) (m' : Str → Option Value) (news' : List (Addr × Obj)), Fr base L h' m' → News base L h' news' → (∀ P ∈ [658, 509, 471, 355, 838], ∃ ps, ((P : Nat), tabObj ps) ∈ news') → Q (.ret (.bool true)) { s with heap := h', toks := tk' }) :
    (hd.heap_39 w.params).In base → wpAny (model PySem.Challenge.rw_bi0029_01.row.prog w) (callerA.deeper (lawEnv L fa)) (execs (restSt (bodyOf lawSt) 8) (lawEnv L fa)) Q E s := by
  intro X
  have e : restSt (bodyOf lawSt) 8 = nthSt (bodyOf lawSt) 8 :: nthSt (bodyOf lawSt) 9 :: nthSt (bodyOf lawSt) 10 :: nthSt (bodyOf lawSt) 11 :: restSt (bodyOf lawSt) 12 := by rfl
  rw [e]
  subst hkk
  refine wpAny_execs_cons ?_
  refine' law_loop (k := 2) (es := [ent w "status" t1 ((.str (Str.ofString "Active") 413)), ent w "_resources" t2 (.ref rl), ent w "_synchronizers" t3 (.ref sy), ent w "_manager" t4 (.ref mg), ent w "_adapters" t5 (.ref ad), ent w "_voted" t6 (.ref vo), ent w "extension" t7 (.ref ex), ent w "_failure_traceback" t8 (.none), ent w "_before_commit" t9 (.ref hb), ent w "_after_commit" t10 (.ref ha), ent w "_before_abort" t11 (.ref ab), ent w "_after_abort" t12 (.ref aa)]) (n := 12) hE B T F N (by k_all) (by k_all) (by k_ne) lost (by k_mem) (by k_mem) hcA1 hcA2 (by k_mem) hcK1 (by decide) (by k_mem) hcR1 (by k_mem) hcS1 (by k_mem) hcT1 (by k_mem) hcAd1 (by k_mem) (by k_mem) (by kernel_rfl) (by kernel_rfl) hn2 hS₀ ?_ X
  intro created items nl ost' h' tk' uk F1 N1 hC hEn hI
  dsimp only
  have hcr : Above rw created := fun p hp => (hC p hp).2.2 _ (.head _)
  have N2 := led_sec N1
  have hz : items.size = n0 := by
    have := hEn.length
    simp only [Array.length_toList, List.length_map, List.length_replicate] at this
    exact this
  have hpos : 0 < items.size := by omega
  have hfit : items.size < 2 ^ 62 := by omega
  obtain ⟨qf, hrun, hns, hlenr⟩ := good_all hn1 hn2
  refine wpAny_execs_cons ?_
  refine' law_act2 (k := 2) hE B F1 T rfl C1 C2 C3 C4 N2 o0 o1 o2 o3 o4 o5 o6 o7 o8 g0 g1 g2 g3 g4 g5 g6 g7 g8 g9 hcr lost hR hcdR hcdR1 hcdR2 hA hcA hcA1 hcA2 hcK hcK1 hk4 hcR hcR1 hcS hcS1 hcT hcT1 hcAd hcAd1 hcW hcW1 htr hmg hsy hds hly hda haw hmap hEn hI hpos hfit hrun hlenr ?_ X
  intro rows m1 m2 m3 m4 m5 nr ost3 sv ps h3 tk3 F3 N3 hS3 hI3
  dsimp only
  rw [hns] at hI3
  rw [hlenr] at hS3
  obtain ⟨vr, rfl⟩ : ∃ vr : List Value, rows = vr.toArray := ⟨rows.toList, by simp⟩
  refine wpAny_execs_cons ?_
  refine' law_due hE B T F3 N3 ?_ X
  intro du c tn' h4 tk4 F4 N4 l4
  dsimp only
  refine wpAny_execs_cons ?_
  refine' law_while (m := fun y => if y = Str.ofString "k" then uk else lawMap l mg n0 tn y) hE B T F4 N4 (fun p hp => Nat.ne_of_lt (l4 p hp)) (due_last hn1 hn2) ?_ X
  intro vs c' h5 tk5 F5 N5 hvs hvl
  dsimp only
  refine' law_tail (hb := hb) (ha := ha) (ab := ab) (aa := aa) (tr := tr) (dx := dx) hE B T F5 N5 lost (by k_mem) (by k_mem) (by k_mem) (by k_mem) (by k_mem) (by k_mem) (by k_mem) (by k_mem) (by kernel_rfl) (by kernel_rfl) (by kernel_rfl) (by kernel_rfl) (by kernel_rfl) (by kernel_rfl) (by kernel_rfl) (by kernel_rfl) (by k_mem) hcW1 (by k_mem) hcS1 (by k_mem) hcT1 hS3 hI3 (by k_mem) hvs hvl ?_ X
  intro h6 tk6 m6 F6 N6
  refine hret _ _ _ _ F6 N6 ?_
  intro P hP
  simp only [List.mem_cons, List.not_mem_nil, or_false] at hP
  rcases hP with rfl | rfl | rfl | rfl | rfl
  · exact ⟨_, by k_mem⟩
  · exact ⟨_, by k_mem⟩
  · exact ⟨_, by k_mem⟩
  · exact ⟨_, by k_mem⟩
  · exact ⟨_, by k_mem⟩
theorem anew55 : True := by
  w_top off
  trivial
set_option maxRecDepth 100000 in
set_option maxHeartbeats 0 in
theorem law_sec3 {w : World} {p : Program} {loose : List Str} {mean : ExcName → Option Value} {mg' mb' : Str → Option Value}
    {base : Heap} {L fa l : Addr} {s : Shared}
    {qA qR : Str} {docA pmA ctvA docR pmR ctvR : Value} {addF codA readF codR st rw tr dx mg dmg sy dsy ly rl ad vo ex hb ha ab aa : Addr} {oA oW oK oR oS oT ocA ocR ost₀ : Obj} {esy : List DictEntry} {nsy nly k : Nat} {vsA vsR : Array Value} {tqA tqR : Tok}
    {rest : List (Addr × Obj)} {tkk tn : Tok} {n0 : Nat} {t1 t2 t3 t4 t5 t6 t7 t8 t9 t10 t11 t12 t13 t14 t15 : Tok} {p1 p2 p3 p4 : Array Value}
    {Q : Flow → Shared → Prop} {E : Value → Shared → Prop}
    (hE : PassesOwn (model PySem.Challenge.rw_bi0029_01.row.prog w) (callerA.deeper (lawEnv L fa)) (lawEnv L fa) E)
    (B : Below callerA base [] base) (F : Fr base L s.heap (lawMap l mg n0 tn)) (T : Top p loose mean mg' mb' base) (hkk : k = 3)
    (C1 : CodeHd base 662 658) (C2 : CodeHd base 513 509) (C3 : CodeHd base 475 471) (C4 : CodeHd base 359 355)
    (N : News base L s.heap ((aa, W.listOf #[] 0) :: (st, ost₀) :: (rw, W.listOf #[] 0) :: (509, tabObj #[]) :: (dmg, dictOf [ent w "explicit" t13 (.bool false), ent w "_txn" t14 (.ref tr), ent w "_synchs" t15 (.ref sy)] 3) :: (dx, dictOf [ent w "status" t1 ((.str (Str.ofString "Active") 413)), ent w "_resources" t2 (.ref rl), ent w "_synchronizers" t3 (.ref sy), ent w "_manager" t4 (.ref mg), ent w "_adapters" t5 (.ref ad), ent w "_voted" t6 (.ref vo), ent w "extension" t7 (.ref ex), ent w "_failure_traceback" t8 (.none), ent w "_before_commit" t9 (.ref hb), ent w "_after_commit" t10 (.ref ha), ent w "_before_abort" t11 (.ref ab), ent w "_after_abort" t12 (.ref aa)] 12) :: (rl, W.listOf #[] 0) :: (hb, W.listOf #[] 0) :: (ha, W.listOf #[] 0) :: (ab, W.listOf #[] 0) :: rest))
    (o0 : @LT.lt Nat _ 509 dmg) (o1 : @LT.lt Nat _ dmg dx) (o2 : @LT.lt Nat _ dx rl) (o3 : @LT.lt Nat _ rl hb) (o4 : @LT.lt Nat _ hb ha) (o5 : @LT.lt Nat _ ha ab) (o6 : @LT.lt Nat _ ab aa) (o7 : @LT.lt Nat _ aa st) (o8 : @LT.lt Nat _ st rw)
    (g0 : ∀ p ∈ rest, p.1 ≠ 509) (g1 : ∀ p ∈ rest, p.1 ≠ dmg) (g2 : ∀ p ∈ rest, p.1 ≠ dx) (g3 : ∀ p ∈ rest, p.1 ≠ rl) (g4 : ∀ p ∈ rest, p.1 ≠ hb) (g5 : ∀ p ∈ rest, p.1 ≠ ha) (g6 : ∀ p ∈ rest, p.1 ≠ ab) (g7 : ∀ p ∈ rest, p.1 ≠ aa) (g8 : ∀ p ∈ rest, p.1 ≠ st) (g9 : ∀ p ∈ rest, p.1 ≠ rw)
    (lost : (st == sysModules) = false)
    (hR : (readF, fnMade (Str.ofString "read") qR (paramsOf readSt) (bodyOf readSt) (scopeOf readSt) [(Str.ofString "state", L + 1 + 1 + 1 + 1 + 1), (Str.ofString "rows", L + 1 + 1 + 1 + 1), (Str.ofString "add", L + 1)] docR pmR codR ctvR) ∈ rest)
    (hcdR : (codR, ocR) ∈ rest) (hcdR1 : ocR.data = .fields vsR) (hcdR2 : vsR[1]? = some (.str qR tqR))
    (hA : (addF, fnMade (Str.ofString "add") qA (paramsOf addSt) (bodyOf addSt) (scopeOf addSt) [(Str.ofString "transaction", L + 1 + 1 + 1 + 1 + 1 + 1), (Str.ofString "state", L + 1 + 1 + 1 + 1 + 1), (Str.ofString "read", L + 1 + 1 + 1), (Str.ofString "kind", L + 1 + 1)] docA pmA codA ctvA) ∈ rest)
    (hcA : (codA, ocA) ∈ rest) (hcA1 : ocA.data = .fields vsA) (hcA2 : vsA[1]? = some (.str qA tqA))
    (hcK : (L + 1 + 1, oK) ∈ rest) (hcK1 : oK.data = .cell (some (.int (k : Nat) tkk))) (hk4 : k < 4)
    (hcR : (L + 1 + 1 + 1, oR) ∈ rest) (hcR1 : oR.data = .cell (some (.ref readF)))
    (hcS : (L + 1 + 1 + 1 + 1 + 1, oS) ∈ rest) (hcS1 : oS.data = .cell (some (.ref st)))
    (hcT : (L + 1 + 1 + 1 + 1 + 1 + 1, oT) ∈ rest) (hcT1 : oT.data = .cell (some (.ref tr)))
    (hcAd : (L + 1, oA) ∈ rest) (hcAd1 : oA.data = .cell (some (.ref addF)))
    (hcW : (L + 1 + 1 + 1 + 1, oW) ∈ rest) (hcW1 : oW.data = .cell (some (.ref rw)))
    (htr : (tr, instObj 546 dx) ∈ rest) (hmg : (mg, instObj 818 dmg) ∈ rest) (hsy : (sy, instObj 167 dsy) ∈ rest) (hds : (dsy, dictOf esy nsy) ∈ rest) (hly : (ly, W.listOf #[] nly) ∈ rest)
    (hda : getL (Str.ofString "data") esy = some (some (.ref ly))) (haw : getL (Str.ofString "as_weakref_list") esy = some none) (hmap : getL (Str.ofString "map") esy = some none)
    (ta658 : (658, tabObj p1) ∈ rest) (ta471 : (471, tabObj p2) ∈ rest) (ta355 : (355, tabObj p3) ∈ rest) (ta838 : (838, tabObj p4) ∈ rest)
    (hS₀ : StIs w ost₀ 0 0 0 0) (hn1 : 1 ≤ n0) (hn2 : n0 ≤ 8)
    (hret : ∀ (h' : Heap) (tk' : Nat) (m' : Str → Option Value) (news' : List (Addr × Obj)), Fr base L h' m' → News base L h' news' → (∀ P ∈ [658, 509, 471, 355, 838], ∃ ps, ((P : Nat), tabObj ps) ∈ news') → Q (.ret (.bool true)) { s with heap := h', toks := tk' }) :
    (hd.heap_39 w.params).In base → wpAny (model PySem.Challenge.rw_bi0029_01.row.prog w) (callerA.deeper (lawEnv L fa)) (execs (restSt (bodyOf lawSt) 8) (lawEnv L fa)) Q E s := by
  intro X
  have e : restSt (bodyOf lawSt) 8 = nthSt (bodyOf lawSt) 8 :: nthSt (bodyOf lawSt) 9 :: nthSt (bodyOf lawSt) 10 :: nthSt (bodyOf lawSt) 11 :: restSt (bodyOf lawSt) 12 := by rfl
  rw [e]
  subst hkk
  refine wpAny_execs_cons ?_
  refine' law_loop (k := 3) (es := [ent w "status" t1 ((.str (Str.ofString "Active") 413)), ent w "_resources" t2 (.ref rl), ent w "_synchronizers" t3 (.ref sy), ent w "_manager" t4 (.ref mg), ent w "_adapters" t5 (.ref ad), ent w "_voted" t6 (.ref vo), ent w "extension" t7 (.ref ex), ent w "_failure_traceback" t8 (.none), ent w "_before_commit" t9 (.ref hb), ent w "_after_commit" t10 (.ref ha), ent w "_before_abort" t11 (.ref ab), ent w "_after_abort" t12 (.ref aa)]) (n := 12) hE B T F N (by k_all) (by k_all) (by k_ne) lost (by k_mem) (by k_mem) hcA1 hcA2 (by k_mem) hcK1 (by decide) (by k_mem) hcR1 (by k_mem) hcS1 (by k_mem) hcT1 (by k_mem) hcAd1 (by k_mem) (by k_mem) (by kernel_rfl) (by kernel_rfl) hn2 hS₀ ?_ X
  intro created items nl ost' h' tk' uk F1 N1 hC hEn hI
  dsimp only
  have hcr : Above rw created := fun p hp => (hC p hp).2.2 _ (.head _)
  have N2 := led_sec N1
  have hz : items.size = n0 := by
    have := hEn.length
    simp only [Array.length_toList, List.length_map, List.length_replicate] at this
    exact this
  have hpos : 0 < items.size := by omega
  have hfit : items.size < 2 ^ 62 := by omega
  obtain ⟨qf, hrun, hns, hlenr⟩ := good_all hn1 hn2
  refine wpAny_execs_cons ?_
  refine' law_act3 (k := 3) hE B F1 T rfl C1 C2 C3 C4 N2 o0 o1 o2 o3 o4 o5 o6 o7 o8 g0 g1 g2 g3 g4 g5 g6 g7 g8 g9 hcr lost hR hcdR hcdR1 hcdR2 hA hcA hcA1 hcA2 hcK hcK1 hk4 hcR hcR1 hcS hcS1 hcT hcT1 hcAd hcAd1 hcW hcW1 htr hmg hsy hds hly hda haw hmap hEn hI hpos hfit hrun hlenr ?_ X
  intro rows m1 m2 m3 m4 m5 nr ost3 sv ps h3 tk3 F3 N3 hS3 hI3
  dsimp only
  rw [hns] at hI3
  rw [hlenr] at hS3
  obtain ⟨vr, rfl⟩ : ∃ vr : List Value, rows = vr.toArray := ⟨rows.toList, by simp⟩
  refine wpAny_execs_cons ?_
  refine' law_due hE B T F3 N3 ?_ X
  intro du c tn' h4 tk4 F4 N4 l4
  dsimp only
  refine wpAny_execs_cons ?_
  refine' law_while (m := fun y => if y = Str.ofString "k" then uk else lawMap l mg n0 tn y) hE B T F4 N4 (fun p hp => Nat.ne_of_lt (l4 p hp)) (due_last hn1 hn2) ?_ X
  intro vs c' h5 tk5 F5 N5 hvs hvl
  dsimp only
  refine' law_tail (hb := hb) (ha := ha) (ab := ab) (aa := aa) (tr := tr) (dx := dx) hE B T F5 N5 lost (by k_mem) (by k_mem) (by k_mem) (by k_mem) (by k_mem) (by k_mem) (by k_mem) (by k_mem) (by kernel_rfl) (by kernel_rfl) (by kernel_rfl) (by kernel_rfl) (by kernel_rfl) (by kernel_rfl) (by kernel_rfl) (by kernel_rfl) (by k_mem) hcW1 (by k_mem) hcS1 (by k_mem) hcT1 hS3 hI3 (by k_mem) hvs hvl ?_ X
  intro h6 tk6 m6 F6 N6
  refine hret _ _ _ _ F6 N6 ?_
  intro P hP
  simp only [List.mem_cons, List.not_mem_nil, or_false] at hP
  rcases hP with rfl | rfl | rfl | rfl | rfl
  · exact ⟨_, by k_mem⟩
  · exact ⟨_, by k_mem⟩
  · exact ⟨_, by k_mem⟩
  · exact ⟨_, by k_mem⟩
  · exact ⟨_, by k_mem⟩
theorem anew56 : True := by
  w_top off
  trivial
def Up : Nat → List Nat → Prop
  | _, [] => True
  | a, b :: l => a < b ∧ Up b l
def nth (a : Nat) : List Nat → Nat → Nat
  | _, 0 => a
  | [], _ + 1 => a
  | b :: l, i + 1 => nth b l i
theorem Up.le : ∀ {l : List Nat} {a : Nat} (j : Nat), Up a l → a ≤ nth a l j
  | _, _, 0, _ => Nat.le_refl _
  | [], _, _ + 1, _ => Nat.le_refl _
  | _ :: _, _, j + 1, h => Nat.le_trans (Nat.le_of_lt h.1) (Up.le j h.2)
theorem Up.lt : ∀ {l : List Nat} {a : Nat} (i j : Nat), Up a l → i < j → j ≤ l.length → nth a l i < nth a l j
  | _, _, _, 0, _, h, _ => absurd h (Nat.not_lt_zero _)
  | [], _, _, _ + 1, _, _, h => absurd h (Nat.not_succ_le_zero _)
  | _ :: _, _, 0, j + 1, u, _, _ => Nat.lt_of_lt_of_le u.1 (Up.le j u.2)
  | _ :: _, _, i + 1, j + 1, u, h, hj => Up.lt i j u.2 (Nat.lt_of_succ_lt_succ h) (Nat.le_of_succ_le_succ hj)
theorem Up.ltb {l : List Nat} {a : Nat} (u : Up a l) (i j : Nat) (h : (Nat.blt i j && Nat.ble j l.length) = true) : nth a l i < nth a l j := by
  rw [Bool.and_eq_true] at h
  exact Up.lt i j u (Nat.le_of_ble_eq_true h.1) (Nat.le_of_ble_eq_true h.2)
theorem Up.ne1 {l : List Nat} {a : Nat} (u : Up a l) (i j : Nat) (h : (Nat.blt i j && Nat.ble j l.length) = true) : nth a l i ≠ nth a l j := Nat.ne_of_lt (u.ltb i j h)
theorem Up.ne2 {l : List Nat} {a : Nat} (u : Up a l) (i j : Nat) (h : (Nat.blt j i && Nat.ble i l.length) = true) : nth a l i ≠ nth a l j := Nat.ne_of_gt (u.ltb j i h)
set_option maxRecDepth 100000 in
set_option maxHeartbeats 0 in
theorem law_second {w : World} {p : Program} {loose : List Str} {mean : ExcName → Option Value} {mg' mb' : Str → Option Value} {base : Heap} {L fa l : Addr} {s : Shared} {o1 o2 o3 o4 o5 o6 : Obj}
    {dmg mg dsy sy ly dtr tr rl ad vo ex hb ha ab aa st rw codA addF codR readF : Addr} {oex oad ost ocA ocR ocx : Obj} {cx : Addr} {t1 t2 t3 t4 t5 t6 t7 t8 t9 t10 t11 t12 t13 t14 t15 t16 tn tkk : Tok} {tb : Array Value} {n0 k : Nat} {qA qR : Str} {docA pmA ctvA docR pmR ctvR : Value} {vsA vsR : Array Value} {tqA tqR : Tok}
    {Q : Flow → Shared → Prop} {E : Value → Shared → Prop}
    (hE : PassesOwn (model PySem.Challenge.rw_bi0029_01.row.prog w) (callerA.deeper (lawEnv L fa)) (lawEnv L fa) E)
    (B : Below callerA base [] base) (T : Top p loose mean mg' mb' base) (F : Fr base L s.heap (lawMap l mg n0 tn))
    (C1 : CodeHd base 662 658) (C2 : CodeHd base 513 509) (C3 : CodeHd base 475 471) (C4 : CodeHd base 359 355)
    (N : News base L s.heap [(readF, fnMade (Str.ofString "read") qR (paramsOf readSt) (bodyOf readSt) (scopeOf readSt) [(Str.ofString "state", L + 1 + 1 + 1 + 1 + 1), (Str.ofString "rows", L + 1 + 1 + 1 + 1), (Str.ofString "add", L + 1)] docR pmR codR ctvR), (codR, ocR), (addF, fnMade (Str.ofString "add") qA (paramsOf addSt) (bodyOf addSt) (scopeOf addSt) [(Str.ofString "transaction", L + 1 + 1 + 1 + 1 + 1 + 1), (Str.ofString "state", L + 1 + 1 + 1 + 1 + 1), (Str.ofString "read", L + 1 + 1 + 1), (Str.ofString "kind", L + 1 + 1)] docA pmA codA ctvA), (codA, ocA), (rw, W.listOf #[] 0), (st, ost), (L + 1 + 1 + 1 + 1 + 1, o5), (L + 1 + 1 + 1 + 1, o4), (L + 1 + 1 + 1, o3), (L + 1 + 1, o2), (L + 1, o1), (838, tabObj tb), (cx, ocx), (aa, W.listOf #[] 0), (ab, W.listOf #[] 0), (ha, W.listOf #[] 0), (hb, W.listOf #[] 0), (ex, oex), (vo, W.listOf #[] 0), (ad, oad), (rl, W.listOf #[] 0), (tr, instObj 546 dtr), (dtr, dictOf [ent w "status" t1 (.str (Str.ofString "Active") 413), ent w "_resources" t2 (.ref rl), ent w "_synchronizers" t3 (.ref sy), ent w "_manager" t4 (.ref mg), ent w "_adapters" t5 (.ref ad), ent w "_voted" t6 (.ref vo), ent w "extension" t7 (.ref ex), ent w "_failure_traceback" t8 (.none), ent w "_before_commit" t9 (.ref hb), ent w "_after_commit" t10 (.ref ha), ent w "_before_abort" t11 (.ref ab), ent w "_after_abort" t12 (.ref aa)] 12), (ly, W.listOf #[] 0), (sy, instObj 167 dsy), (dsy, dictOf [ent w "data" t16 (.ref ly)] 1), (mg, instObj 818 dmg), (dmg, dictOf [ent w "explicit" t13 (.bool false), ent w "_txn" t14 (.ref tr), ent w "_synchs" t15 (.ref sy)] 3), (L + 1 + 1 + 1 + 1 + 1 + 1, o6), (658, tabObj #[]), (509, tabObj #[]), (471, tabObj #[]), (355, tabObj #[])])
    (oc : @LT.lt Nat _ 838 L ∧ @LT.lt Nat _ (L + 6) dmg ∧ @LT.lt Nat _ dmg mg ∧ @LT.lt Nat _ mg dsy ∧ @LT.lt Nat _ dsy sy ∧ @LT.lt Nat _ sy ly ∧ @LT.lt Nat _ ly dtr ∧ @LT.lt Nat _ dtr tr ∧ @LT.lt Nat _ tr rl ∧ @LT.lt Nat _ rl ad ∧ @LT.lt Nat _ ad vo ∧ @LT.lt Nat _ vo ex ∧ @LT.lt Nat _ ex hb ∧ @LT.lt Nat _ hb ha ∧ @LT.lt Nat _ ha ab ∧ @LT.lt Nat _ ab aa ∧ @LT.lt Nat _ aa st ∧ @LT.lt Nat _ st rw ∧ @LT.lt Nat _ rw codA ∧ @LT.lt Nat _ codA addF ∧ @LT.lt Nat _ addF codR ∧ @LT.lt Nat _ codR readF) (lost : (st == sysModules) = false)
    (hcR1 : ocR.data = .fields vsR) (hcR2 : vsR[1]? = some (.str qR tqR)) (hcA1 : ocA.data = .fields vsA) (hcA2 : vsA[1]? = some (.str qA tqA))
    (d1 : o1.data = .cell (some (.ref addF))) (d2 : o2.data = .cell (some (.int (k : Nat) tkk))) (d3 : o3.data = .cell (some (.ref readF))) (d4 : o4.data = .cell (some (.ref rw))) (d5 : o5.data = .cell (some (.ref st))) (d6 : o6.data = .cell (some (.ref tr)))
    (hS : StIs w ost 0 0 0 0) (hn1 : 1 ≤ n0) (hn2 : n0 ≤ 8) (hk4 : k < 4)
    (hret : ∀ (h' : Heap) (tk' : Nat) (m' : Str → Option Value) (news' : List (Addr × Obj)), Fr base L h' m' → News base L h' news' → (∀ P ∈ [658, 509, 471, 355, 838], ∃ ps, ((P : Nat), tabObj ps) ∈ news') → Q (.ret (.bool true)) { s with heap := h', toks := tk' }) :
    (hd.heap_39 w.params).In base → wpAny (model PySem.Challenge.rw_bi0029_01.row.prog w) (callerA.deeper (lawEnv L fa)) (execs (restSt (bodyOf lawSt) 8) (lawEnv L fa)) Q E s := by
  intro X
  have u : Up 355 [471, 509, 658, 838, L + 1, L + 1 + 1, L + 1 + 1 + 1, L + 1 + 1 + 1 + 1, L + 1 + 1 + 1 + 1 + 1, L + 1 + 1 + 1 + 1 + 1 + 1, dmg, mg, dsy, sy, ly, dtr, tr, rl, ad, vo, ex, hb, ha, ab, aa, st, rw, codA, addF, codR, readF] := ⟨by omega, by omega, by omega, by omega, by omega, by omega, by omega, by omega, by omega, by omega, by omega, by omega, by omega, by omega, by omega, by omega, by omega, by omega, by omega, by omega, by omega, by omega, by omega, by omega, by omega, by omega, by omega, by omega, by omega, by omega, by omega, trivial⟩
  rcases (by omega : k = 0 ∨ k = 1 ∨ k = 2 ∨ k = 3) with rfl | rfl | rfl | rfl
  · exact law_sec0 (k := 0) (rest := [(readF, fnMade (Str.ofString "read") qR (paramsOf readSt) (bodyOf readSt) (scopeOf readSt) [(Str.ofString "state", L + 1 + 1 + 1 + 1 + 1), (Str.ofString "rows", L + 1 + 1 + 1 + 1), (Str.ofString "add", L + 1)] docR pmR codR ctvR), (codR, ocR), (addF, fnMade (Str.ofString "add") qA (paramsOf addSt) (bodyOf addSt) (scopeOf addSt) [(Str.ofString "transaction", L + 1 + 1 + 1 + 1 + 1 + 1), (Str.ofString "state", L + 1 + 1 + 1 + 1 + 1), (Str.ofString "read", L + 1 + 1 + 1), (Str.ofString "kind", L + 1 + 1)] docA pmA codA ctvA), (codA, ocA), (L + 1 + 1 + 1 + 1 + 1, o5), (L + 1 + 1 + 1 + 1, o4), (L + 1 + 1 + 1, o3), (L + 1 + 1, o2), (L + 1, o1), (838, tabObj tb), (ex, oex), (vo, W.listOf #[] 0), (ad, oad), (tr, instObj 546 dtr), (ly, W.listOf #[] 0), (sy, instObj 167 dsy), (dsy, dictOf [ent w "data" t16 (.ref ly)] 1), (mg, instObj 818 dmg), (L + 1 + 1 + 1 + 1 + 1 + 1, o6), (658, tabObj #[]), (509, tabObj #[]), (471, tabObj #[])]) hE B F T rfl C1 C2 C3 C4 (cb_drop N (List.forall_mem_cons.mpr ⟨.tail _ (.tail _ (.tail _ (.tail _ (.tail _ (.tail _ (.tail _ (.tail _ (.tail _ (.tail _ (.tail _ (.tail _ (.tail _ (.tail _ (.tail _ (.tail _ (.head _)))))))))))))))), List.forall_mem_cons.mpr ⟨.tail _ (.tail _ (.tail _ (.tail _ (.tail _ (.head _))))), List.forall_mem_cons.mpr ⟨.tail _ (.tail _ (.tail _ (.tail _ (.head _)))), List.forall_mem_cons.mpr ⟨.tail _ (.tail _ (.tail _ (.tail _ (.tail _ (.tail _ (.tail _ (.tail _ (.tail _ (.tail _ (.tail _ (.tail _ (.tail _ (.tail _ (.tail _ (.tail _ (.tail _ (.tail _ (.tail _ (.tail _ (.tail _ (.tail _ (.tail _ (.tail _ (.tail _ (.tail _ (.tail _ (.tail _ (.tail _ (.tail _ (.tail _ (.tail _ (.head _)))))))))))))))))))))))))))))))), List.forall_mem_cons.mpr ⟨.tail _ (.tail _ (.tail _ (.tail _ (.tail _ (.tail _ (.tail _ (.tail _ (.tail _ (.tail _ (.tail _ (.tail _ (.tail _ (.tail _ (.tail _ (.tail _ (.tail _ (.tail _ (.tail _ (.tail _ (.tail _ (.tail _ (.tail _ (.tail _ (.tail _ (.tail _ (.tail _ (.head _))))))))))))))))))))))))))), List.forall_mem_cons.mpr ⟨.tail _ (.tail _ (.tail _ (.tail _ (.tail _ (.tail _ (.tail _ (.tail _ (.tail _ (.tail _ (.tail _ (.tail _ (.tail _ (.tail _ (.tail _ (.tail _ (.tail _ (.tail _ (.tail _ (.tail _ (.tail _ (.tail _ (.head _)))))))))))))))))))))), List.forall_mem_cons.mpr ⟨.tail _ (.tail _ (.tail _ (.tail _ (.tail _ (.tail _ (.tail _ (.tail _ (.tail _ (.tail _ (.tail _ (.tail _ (.tail _ (.tail _ (.tail _ (.tail _ (.tail _ (.tail _ (.tail _ (.tail _ (.head _)))))))))))))))))))), List.forall_mem_cons.mpr ⟨.tail _ (.tail _ (.tail _ (.tail _ (.tail _ (.tail _ (.tail _ (.tail _ (.tail _ (.tail _ (.tail _ (.tail _ (.tail _ (.tail _ (.tail _ (.head _))))))))))))))), List.forall_mem_cons.mpr ⟨.tail _ (.tail _ (.tail _ (.tail _ (.tail _ (.tail _ (.tail _ (.tail _ (.tail _ (.tail _ (.tail _ (.tail _ (.tail _ (.tail _ (.head _)))))))))))))), List.forall_mem_cons.mpr ⟨.tail _ (.tail _ (.tail _ (.tail _ (.tail _ (.tail _ (.tail _ (.tail _ (.tail _ (.tail _ (.tail _ (.tail _ (.tail _ (.head _))))))))))))), List.forall_mem_cons.mpr ⟨.head _, List.forall_mem_cons.mpr ⟨.tail _ (.head _), List.forall_mem_cons.mpr ⟨.tail _ (.tail _ (.head _)), List.forall_mem_cons.mpr ⟨.tail _ (.tail _ (.tail _ (.head _))), List.forall_mem_cons.mpr ⟨.tail _ (.tail _ (.tail _ (.tail _ (.tail _ (.tail _ (.head _)))))), List.forall_mem_cons.mpr ⟨.tail _ (.tail _ (.tail _ (.tail _ (.tail _ (.tail _ (.tail _ (.head _))))))), List.forall_mem_cons.mpr ⟨.tail _ (.tail _ (.tail _ (.tail _ (.tail _ (.tail _ (.tail _ (.tail _ (.head _)))))))), List.forall_mem_cons.mpr ⟨.tail _ (.tail _ (.tail _ (.tail _ (.tail _ (.tail _ (.tail _ (.tail _ (.tail _ (.head _))))))))), List.forall_mem_cons.mpr ⟨.tail _ (.tail _ (.tail _ (.tail _ (.tail _ (.tail _ (.tail _ (.tail _ (.tail _ (.tail _ (.head _)))))))))), List.forall_mem_cons.mpr ⟨.tail _ (.tail _ (.tail _ (.tail _ (.tail _ (.tail _ (.tail _ (.tail _ (.tail _ (.tail _ (.tail _ (.head _))))))))))), List.forall_mem_cons.mpr ⟨.tail _ (.tail _ (.tail _ (.tail _ (.tail _ (.tail _ (.tail _ (.tail _ (.tail _ (.tail _ (.tail _ (.tail _ (.tail _ (.tail _ (.tail _ (.tail _ (.tail _ (.head _))))))))))))))))), List.forall_mem_cons.mpr ⟨.tail _ (.tail _ (.tail _ (.tail _ (.tail _ (.tail _ (.tail _ (.tail _ (.tail _ (.tail _ (.tail _ (.tail _ (.tail _ (.tail _ (.tail _ (.tail _ (.tail _ (.tail _ (.head _)))))))))))))))))), List.forall_mem_cons.mpr ⟨.tail _ (.tail _ (.tail _ (.tail _ (.tail _ (.tail _ (.tail _ (.tail _ (.tail _ (.tail _ (.tail _ (.tail _ (.tail _ (.tail _ (.tail _ (.tail _ (.tail _ (.tail _ (.tail _ (.head _))))))))))))))))))), List.forall_mem_cons.mpr ⟨.tail _ (.tail _ (.tail _ (.tail _ (.tail _ (.tail _ (.tail _ (.tail _ (.tail _ (.tail _ (.tail _ (.tail _ (.tail _ (.tail _ (.tail _ (.tail _ (.tail _ (.tail _ (.tail _ (.tail _ (.tail _ (.head _))))))))))))))))))))), List.forall_mem_cons.mpr ⟨.tail _ (.tail _ (.tail _ (.tail _ (.tail _ (.tail _ (.tail _ (.tail _ (.tail _ (.tail _ (.tail _ (.tail _ (.tail _ (.tail _ (.tail _ (.tail _ (.tail _ (.tail _ (.tail _ (.tail _ (.tail _ (.tail _ (.tail _ (.head _))))))))))))))))))))))), List.forall_mem_cons.mpr ⟨.tail _ (.tail _ (.tail _ (.tail _ (.tail _ (.tail _ (.tail _ (.tail _ (.tail _ (.tail _ (.tail _ (.tail _ (.tail _ (.tail _ (.tail _ (.tail _ (.tail _ (.tail _ (.tail _ (.tail _ (.tail _ (.tail _ (.tail _ (.tail _ (.head _)))))))))))))))))))))))), List.forall_mem_cons.mpr ⟨.tail _ (.tail _ (.tail _ (.tail _ (.tail _ (.tail _ (.tail _ (.tail _ (.tail _ (.tail _ (.tail _ (.tail _ (.tail _ (.tail _ (.tail _ (.tail _ (.tail _ (.tail _ (.tail _ (.tail _ (.tail _ (.tail _ (.tail _ (.tail _ (.tail _ (.head _))))))))))))))))))))))))), List.forall_mem_cons.mpr ⟨.tail _ (.tail _ (.tail _ (.tail _ (.tail _ (.tail _ (.tail _ (.tail _ (.tail _ (.tail _ (.tail _ (.tail _ (.tail _ (.tail _ (.tail _ (.tail _ (.tail _ (.tail _ (.tail _ (.tail _ (.tail _ (.tail _ (.tail _ (.tail _ (.tail _ (.tail _ (.head _)))))))))))))))))))))))))), List.forall_mem_cons.mpr ⟨.tail _ (.tail _ (.tail _ (.tail _ (.tail _ (.tail _ (.tail _ (.tail _ (.tail _ (.tail _ (.tail _ (.tail _ (.tail _ (.tail _ (.tail _ (.tail _ (.tail _ (.tail _ (.tail _ (.tail _ (.tail _ (.tail _ (.tail _ (.tail _ (.tail _ (.tail _ (.tail _ (.tail _ (.head _)))))))))))))))))))))))))))), List.forall_mem_cons.mpr ⟨.tail _ (.tail _ (.tail _ (.tail _ (.tail _ (.tail _ (.tail _ (.tail _ (.tail _ (.tail _ (.tail _ (.tail _ (.tail _ (.tail _ (.tail _ (.tail _ (.tail _ (.tail _ (.tail _ (.tail _ (.tail _ (.tail _ (.tail _ (.tail _ (.tail _ (.tail _ (.tail _ (.tail _ (.tail _ (.head _))))))))))))))))))))))))))))), List.forall_mem_cons.mpr ⟨.tail _ (.tail _ (.tail _ (.tail _ (.tail _ (.tail _ (.tail _ (.tail _ (.tail _ (.tail _ (.tail _ (.tail _ (.tail _ (.tail _ (.tail _ (.tail _ (.tail _ (.tail _ (.tail _ (.tail _ (.tail _ (.tail _ (.tail _ (.tail _ (.tail _ (.tail _ (.tail _ (.tail _ (.tail _ (.tail _ (.head _)))))))))))))))))))))))))))))), List.forall_mem_cons.mpr ⟨.tail _ (.tail _ (.tail _ (.tail _ (.tail _ (.tail _ (.tail _ (.tail _ (.tail _ (.tail _ (.tail _ (.tail _ (.tail _ (.tail _ (.tail _ (.tail _ (.tail _ (.tail _ (.tail _ (.tail _ (.tail _ (.tail _ (.tail _ (.tail _ (.tail _ (.tail _ (.tail _ (.tail _ (.tail _ (.tail _ (.tail _ (.head _))))))))))))))))))))))))))))))), List.forall_mem_nil _⟩⟩⟩⟩⟩⟩⟩⟩⟩⟩⟩⟩⟩⟩⟩⟩⟩⟩⟩⟩⟩⟩⟩⟩⟩⟩⟩⟩⟩⟩⟩⟩)) (u.ltb 0 11 rfl) (u.ltb 11 16 rfl) (u.ltb 16 18 rfl) (u.ltb 18 22 rfl) (u.ltb 22 23 rfl) (u.ltb 23 24 rfl) (u.ltb 24 25 rfl) (u.ltb 25 26 rfl) (u.ltb 26 27 rfl) (List.forall_mem_cons.mpr ⟨(u.ne2 31 0 rfl), List.forall_mem_cons.mpr ⟨(u.ne2 30 0 rfl), List.forall_mem_cons.mpr ⟨(u.ne2 29 0 rfl), List.forall_mem_cons.mpr ⟨(u.ne2 28 0 rfl), List.forall_mem_cons.mpr ⟨(u.ne2 9 0 rfl), List.forall_mem_cons.mpr ⟨(u.ne2 8 0 rfl), List.forall_mem_cons.mpr ⟨(u.ne2 7 0 rfl), List.forall_mem_cons.mpr ⟨(u.ne2 6 0 rfl), List.forall_mem_cons.mpr ⟨(u.ne2 5 0 rfl), List.forall_mem_cons.mpr ⟨(u.ne2 4 0 rfl), List.forall_mem_cons.mpr ⟨(u.ne2 21 0 rfl), List.forall_mem_cons.mpr ⟨(u.ne2 20 0 rfl), List.forall_mem_cons.mpr ⟨(u.ne2 19 0 rfl), List.forall_mem_cons.mpr ⟨(u.ne2 17 0 rfl), List.forall_mem_cons.mpr ⟨(u.ne2 15 0 rfl), List.forall_mem_cons.mpr ⟨(u.ne2 14 0 rfl), List.forall_mem_cons.mpr ⟨(u.ne2 13 0 rfl), List.forall_mem_cons.mpr ⟨(u.ne2 12 0 rfl), List.forall_mem_cons.mpr ⟨(u.ne2 10 0 rfl), List.forall_mem_cons.mpr ⟨(u.ne2 3 0 rfl), List.forall_mem_cons.mpr ⟨(u.ne2 2 0 rfl), List.forall_mem_cons.mpr ⟨(u.ne2 1 0 rfl), List.forall_mem_nil _⟩⟩⟩⟩⟩⟩⟩⟩⟩⟩⟩⟩⟩⟩⟩⟩⟩⟩⟩⟩⟩⟩) (List.forall_mem_cons.mpr ⟨(u.ne2 31 11 rfl), List.forall_mem_cons.mpr ⟨(u.ne2 30 11 rfl), List.forall_mem_cons.mpr ⟨(u.ne2 29 11 rfl), List.forall_mem_cons.mpr ⟨(u.ne2 28 11 rfl), List.forall_mem_cons.mpr ⟨(u.ne1 9 11 rfl), List.forall_mem_cons.mpr ⟨(u.ne1 8 11 rfl), List.forall_mem_cons.mpr ⟨(u.ne1 7 11 rfl), List.forall_mem_cons.mpr ⟨(u.ne1 6 11 rfl), List.forall_mem_cons.mpr ⟨(u.ne1 5 11 rfl), List.forall_mem_cons.mpr ⟨(u.ne1 4 11 rfl), List.forall_mem_cons.mpr ⟨(u.ne2 21 11 rfl), List.forall_mem_cons.mpr ⟨(u.ne2 20 11 rfl), List.forall_mem_cons.mpr ⟨(u.ne2 19 11 rfl), List.forall_mem_cons.mpr ⟨(u.ne2 17 11 rfl), List.forall_mem_cons.mpr ⟨(u.ne2 15 11 rfl), List.forall_mem_cons.mpr ⟨(u.ne2 14 11 rfl), List.forall_mem_cons.mpr ⟨(u.ne2 13 11 rfl), List.forall_mem_cons.mpr ⟨(u.ne2 12 11 rfl), List.forall_mem_cons.mpr ⟨(u.ne1 10 11 rfl), List.forall_mem_cons.mpr ⟨(u.ne1 3 11 rfl), List.forall_mem_cons.mpr ⟨(u.ne1 2 11 rfl), List.forall_mem_cons.mpr ⟨(u.ne1 1 11 rfl), List.forall_mem_nil _⟩⟩⟩⟩⟩⟩⟩⟩⟩⟩⟩⟩⟩⟩⟩⟩⟩⟩⟩⟩⟩⟩) (List.forall_mem_cons.mpr ⟨(u.ne2 31 16 rfl), List.forall_mem_cons.mpr ⟨(u.ne2 30 16 rfl), List.forall_mem_cons.mpr ⟨(u.ne2 29 16 rfl), List.forall_mem_cons.mpr ⟨(u.ne2 28 16 rfl), List.forall_mem_cons.mpr ⟨(u.ne1 9 16 rfl), List.forall_mem_cons.mpr ⟨(u.ne1 8 16 rfl), List.forall_mem_cons.mpr ⟨(u.ne1 7 16 rfl), List.forall_mem_cons.mpr ⟨(u.ne1 6 16 rfl), List.forall_mem_cons.mpr ⟨(u.ne1 5 16 rfl), List.forall_mem_cons.mpr ⟨(u.ne1 4 16 rfl), List.forall_mem_cons.mpr ⟨(u.ne2 21 16 rfl), List.forall_mem_cons.mpr ⟨(u.ne2 20 16 rfl), List.forall_mem_cons.mpr ⟨(u.ne2 19 16 rfl), List.forall_mem_cons.mpr ⟨(u.ne2 17 16 rfl), List.forall_mem_cons.mpr ⟨(u.ne1 15 16 rfl), List.forall_mem_cons.mpr ⟨(u.ne1 14 16 rfl), List.forall_mem_cons.mpr ⟨(u.ne1 13 16 rfl), List.forall_mem_cons.mpr ⟨(u.ne1 12 16 rfl), List.forall_mem_cons.mpr ⟨(u.ne1 10 16 rfl), List.forall_mem_cons.mpr ⟨(u.ne1 3 16 rfl), List.forall_mem_cons.mpr ⟨(u.ne1 2 16 rfl), List.forall_mem_cons.mpr ⟨(u.ne1 1 16 rfl), List.forall_mem_nil _⟩⟩⟩⟩⟩⟩⟩⟩⟩⟩⟩⟩⟩⟩⟩⟩⟩⟩⟩⟩⟩⟩) (List.forall_mem_cons.mpr ⟨(u.ne2 31 18 rfl), List.forall_mem_cons.mpr ⟨(u.ne2 30 18 rfl), List.forall_mem_cons.mpr ⟨(u.ne2 29 18 rfl), List.forall_mem_cons.mpr ⟨(u.ne2 28 18 rfl), List.forall_mem_cons.mpr ⟨(u.ne1 9 18 rfl), List.forall_mem_cons.mpr ⟨(u.ne1 8 18 rfl), List.forall_mem_cons.mpr ⟨(u.ne1 7 18 rfl), List.forall_mem_cons.mpr ⟨(u.ne1 6 18 rfl), List.forall_mem_cons.mpr ⟨(u.ne1 5 18 rfl), List.forall_mem_cons.mpr ⟨(u.ne1 4 18 rfl), List.forall_mem_cons.mpr ⟨(u.ne2 21 18 rfl), List.forall_mem_cons.mpr ⟨(u.ne2 20 18 rfl), List.forall_mem_cons.mpr ⟨(u.ne2 19 18 rfl), List.forall_mem_cons.mpr ⟨(u.ne1 17 18 rfl), List.forall_mem_cons.mpr ⟨(u.ne1 15 18 rfl), List.forall_mem_cons.mpr ⟨(u.ne1 14 18 rfl), List.forall_mem_cons.mpr ⟨(u.ne1 13 18 rfl), List.forall_mem_cons.mpr ⟨(u.ne1 12 18 rfl), List.forall_mem_cons.mpr ⟨(u.ne1 10 18 rfl), List.forall_mem_cons.mpr ⟨(u.ne1 3 18 rfl), List.forall_mem_cons.mpr ⟨(u.ne1 2 18 rfl), List.forall_mem_cons.mpr ⟨(u.ne1 1 18 rfl), List.forall_mem_nil _⟩⟩⟩⟩⟩⟩⟩⟩⟩⟩⟩⟩⟩⟩⟩⟩⟩⟩⟩⟩⟩⟩) (List.forall_mem_cons.mpr ⟨(u.ne2 31 22 rfl), List.forall_mem_cons.mpr ⟨(u.ne2 30 22 rfl), List.forall_mem_cons.mpr ⟨(u.ne2 29 22 rfl), List.forall_mem_cons.mpr ⟨(u.ne2 28 22 rfl), List.forall_mem_cons.mpr ⟨(u.ne1 9 22 rfl), List.forall_mem_cons.mpr ⟨(u.ne1 8 22 rfl), List.forall_mem_cons.mpr ⟨(u.ne1 7 22 rfl), List.forall_mem_cons.mpr ⟨(u.ne1 6 22 rfl), List.forall_mem_cons.mpr ⟨(u.ne1 5 22 rfl), List.forall_mem_cons.mpr ⟨(u.ne1 4 22 rfl), List.forall_mem_cons.mpr ⟨(u.ne1 21 22 rfl), List.forall_mem_cons.mpr ⟨(u.ne1 20 22 rfl), List.forall_mem_cons.mpr ⟨(u.ne1 19 22 rfl), List.forall_mem_cons.mpr ⟨(u.ne1 17 22 rfl), List.forall_mem_cons.mpr ⟨(u.ne1 15 22 rfl), List.forall_mem_cons.mpr ⟨(u.ne1 14 22 rfl), List.forall_mem_cons.mpr ⟨(u.ne1 13 22 rfl), List.forall_mem_cons.mpr ⟨(u.ne1 12 22 rfl), List.forall_mem_cons.mpr ⟨(u.ne1 10 22 rfl), List.forall_mem_cons.mpr ⟨(u.ne1 3 22 rfl), List.forall_mem_cons.mpr ⟨(u.ne1 2 22 rfl), List.forall_mem_cons.mpr ⟨(u.ne1 1 22 rfl), List.forall_mem_nil _⟩⟩⟩⟩⟩⟩⟩⟩⟩⟩⟩⟩⟩⟩⟩⟩⟩⟩⟩⟩⟩⟩) (List.forall_mem_cons.mpr ⟨(u.ne2 31 23 rfl), List.forall_mem_cons.mpr ⟨(u.ne2 30 23 rfl), List.forall_mem_cons.mpr ⟨(u.ne2 29 23 rfl), List.forall_mem_cons.mpr ⟨(u.ne2 28 23 rfl), List.forall_mem_cons.mpr ⟨(u.ne1 9 23 rfl), List.forall_mem_cons.mpr ⟨(u.ne1 8 23 rfl), List.forall_mem_cons.mpr ⟨(u.ne1 7 23 rfl), List.forall_mem_cons.mpr ⟨(u.ne1 6 23 rfl), List.forall_mem_cons.mpr ⟨(u.ne1 5 23 rfl), List.forall_mem_cons.mpr ⟨(u.ne1 4 23 rfl), List.forall_mem_cons.mpr ⟨(u.ne1 21 23 rfl), List.forall_mem_cons.mpr ⟨(u.ne1 20 23 rfl), List.forall_mem_cons.mpr ⟨(u.ne1 19 23 rfl), List.forall_mem_cons.mpr ⟨(u.ne1 17 23 rfl), List.forall_mem_cons.mpr ⟨(u.ne1 15 23 rfl), List.forall_mem_cons.mpr ⟨(u.ne1 14 23 rfl), List.forall_mem_cons.mpr ⟨(u.ne1 13 23 rfl), List.forall_mem_cons.mpr ⟨(u.ne1 12 23 rfl), List.forall_mem_cons.mpr ⟨(u.ne1 10 23 rfl), List.forall_mem_cons.mpr ⟨(u.ne1 3 23 rfl), List.forall_mem_cons.mpr ⟨(u.ne1 2 23 rfl), List.forall_mem_cons.mpr ⟨(u.ne1 1 23 rfl), List.forall_mem_nil _⟩⟩⟩⟩⟩⟩⟩⟩⟩⟩⟩⟩⟩⟩⟩⟩⟩⟩⟩⟩⟩⟩) (List.forall_mem_cons.mpr ⟨(u.ne2 31 24 rfl), List.forall_mem_cons.mpr ⟨(u.ne2 30 24 rfl), List.forall_mem_cons.mpr ⟨(u.ne2 29 24 rfl), List.forall_mem_cons.mpr ⟨(u.ne2 28 24 rfl), List.forall_mem_cons.mpr ⟨(u.ne1 9 24 rfl), List.forall_mem_cons.mpr ⟨(u.ne1 8 24 rfl), List.forall_mem_cons.mpr ⟨(u.ne1 7 24 rfl), List.forall_mem_cons.mpr ⟨(u.ne1 6 24 rfl), List.forall_mem_cons.mpr ⟨(u.ne1 5 24 rfl), List.forall_mem_cons.mpr ⟨(u.ne1 4 24 rfl), List.forall_mem_cons.mpr ⟨(u.ne1 21 24 rfl), List.forall_mem_cons.mpr ⟨(u.ne1 20 24 rfl), List.forall_mem_cons.mpr ⟨(u.ne1 19 24 rfl), List.forall_mem_cons.mpr ⟨(u.ne1 17 24 rfl), List.forall_mem_cons.mpr ⟨(u.ne1 15 24 rfl), List.forall_mem_cons.mpr ⟨(u.ne1 14 24 rfl), List.forall_mem_cons.mpr ⟨(u.ne1 13 24 rfl), List.forall_mem_cons.mpr ⟨(u.ne1 12 24 rfl), List.forall_mem_cons.mpr ⟨(u.ne1 10 24 rfl), List.forall_mem_cons.mpr ⟨(u.ne1 3 24 rfl), List.forall_mem_cons.mpr ⟨(u.ne1 2 24 rfl), List.forall_mem_cons.mpr ⟨(u.ne1 1 24 rfl), List.forall_mem_nil _⟩⟩⟩⟩⟩⟩⟩⟩⟩⟩⟩⟩⟩⟩⟩⟩⟩⟩⟩⟩⟩⟩) (List.forall_mem_cons.mpr ⟨(u.ne2 31 25 rfl), List.forall_mem_cons.mpr ⟨(u.ne2 30 25 rfl), List.forall_mem_cons.mpr ⟨(u.ne2 29 25 rfl), List.forall_mem_cons.mpr ⟨(u.ne2 28 25 rfl), List.forall_mem_cons.mpr ⟨(u.ne1 9 25 rfl), List.forall_mem_cons.mpr ⟨(u.ne1 8 25 rfl), List.forall_mem_cons.mpr ⟨(u.ne1 7 25 rfl), List.forall_mem_cons.mpr ⟨(u.ne1 6 25 rfl), List.forall_mem_cons.mpr ⟨(u.ne1 5 25 rfl), List.forall_mem_cons.mpr ⟨(u.ne1 4 25 rfl), List.forall_mem_cons.mpr ⟨(u.ne1 21 25 rfl), List.forall_mem_cons.mpr ⟨(u.ne1 20 25 rfl), List.forall_mem_cons.mpr ⟨(u.ne1 19 25 rfl), List.forall_mem_cons.mpr ⟨(u.ne1 17 25 rfl), List.forall_mem_cons.mpr ⟨(u.ne1 15 25 rfl), List.forall_mem_cons.mpr ⟨(u.ne1 14 25 rfl), List.forall_mem_cons.mpr ⟨(u.ne1 13 25 rfl), List.forall_mem_cons.mpr ⟨(u.ne1 12 25 rfl), List.forall_mem_cons.mpr ⟨(u.ne1 10 25 rfl), List.forall_mem_cons.mpr ⟨(u.ne1 3 25 rfl), List.forall_mem_cons.mpr ⟨(u.ne1 2 25 rfl), List.forall_mem_cons.mpr ⟨(u.ne1 1 25 rfl), List.forall_mem_nil _⟩⟩⟩⟩⟩⟩⟩⟩⟩⟩⟩⟩⟩⟩⟩⟩⟩⟩⟩⟩⟩⟩) (List.forall_mem_cons.mpr ⟨(u.ne2 31 26 rfl), List.forall_mem_cons.mpr ⟨(u.ne2 30 26 rfl), List.forall_mem_cons.mpr ⟨(u.ne2 29 26 rfl), List.forall_mem_cons.mpr ⟨(u.ne2 28 26 rfl), List.forall_mem_cons.mpr ⟨(u.ne1 9 26 rfl), List.forall_mem_cons.mpr ⟨(u.ne1 8 26 rfl), List.forall_mem_cons.mpr ⟨(u.ne1 7 26 rfl), List.forall_mem_cons.mpr ⟨(u.ne1 6 26 rfl), List.forall_mem_cons.mpr ⟨(u.ne1 5 26 rfl), List.forall_mem_cons.mpr ⟨(u.ne1 4 26 rfl), List.forall_mem_cons.mpr ⟨(u.ne1 21 26 rfl), List.forall_mem_cons.mpr ⟨(u.ne1 20 26 rfl), List.forall_mem_cons.mpr ⟨(u.ne1 19 26 rfl), List.forall_mem_cons.mpr ⟨(u.ne1 17 26 rfl), List.forall_mem_cons.mpr ⟨(u.ne1 15 26 rfl), List.forall_mem_cons.mpr ⟨(u.ne1 14 26 rfl), List.forall_mem_cons.mpr ⟨(u.ne1 13 26 rfl), List.forall_mem_cons.mpr ⟨(u.ne1 12 26 rfl), List.forall_mem_cons.mpr ⟨(u.ne1 10 26 rfl), List.forall_mem_cons.mpr ⟨(u.ne1 3 26 rfl), List.forall_mem_cons.mpr ⟨(u.ne1 2 26 rfl), List.forall_mem_cons.mpr ⟨(u.ne1 1 26 rfl), List.forall_mem_nil _⟩⟩⟩⟩⟩⟩⟩⟩⟩⟩⟩⟩⟩⟩⟩⟩⟩⟩⟩⟩⟩⟩) (List.forall_mem_cons.mpr ⟨(u.ne2 31 27 rfl), List.forall_mem_cons.mpr ⟨(u.ne2 30 27 rfl), List.forall_mem_cons.mpr ⟨(u.ne2 29 27 rfl), List.forall_mem_cons.mpr ⟨(u.ne2 28 27 rfl), List.forall_mem_cons.mpr ⟨(u.ne1 9 27 rfl), List.forall_mem_cons.mpr ⟨(u.ne1 8 27 rfl), List.forall_mem_cons.mpr ⟨(u.ne1 7 27 rfl), List.forall_mem_cons.mpr ⟨(u.ne1 6 27 rfl), List.forall_mem_cons.mpr ⟨(u.ne1 5 27 rfl), List.forall_mem_cons.mpr ⟨(u.ne1 4 27 rfl), List.forall_mem_cons.mpr ⟨(u.ne1 21 27 rfl), List.forall_mem_cons.mpr ⟨(u.ne1 20 27 rfl), List.forall_mem_cons.mpr ⟨(u.ne1 19 27 rfl), List.forall_mem_cons.mpr ⟨(u.ne1 17 27 rfl), List.forall_mem_cons.mpr ⟨(u.ne1 15 27 rfl), List.forall_mem_cons.mpr ⟨(u.ne1 14 27 rfl), List.forall_mem_cons.mpr ⟨(u.ne1 13 27 rfl), List.forall_mem_cons.mpr ⟨(u.ne1 12 27 rfl), List.forall_mem_cons.mpr ⟨(u.ne1 10 27 rfl), List.forall_mem_cons.mpr ⟨(u.ne1 3 27 rfl), List.forall_mem_cons.mpr ⟨(u.ne1 2 27 rfl), List.forall_mem_cons.mpr ⟨(u.ne1 1 27 rfl), List.forall_mem_nil _⟩⟩⟩⟩⟩⟩⟩⟩⟩⟩⟩⟩⟩⟩⟩⟩⟩⟩⟩⟩⟩⟩) lost (.head _) (.tail _ (.head _)) hcR1 hcR2 (.tail _ (.tail _ (.head _))) (.tail _ (.tail _ (.tail _ (.head _)))) hcA1 hcA2 (.tail _ (.tail _ (.tail _ (.tail _ (.tail _ (.tail _ (.tail _ (.head _)))))))) d2 (by decide) (.tail _ (.tail _ (.tail _ (.tail _ (.tail _ (.tail _ (.head _))))))) d3 (.tail _ (.tail _ (.tail _ (.tail _ (.head _))))) d5 (.tail _ (.tail _ (.tail _ (.tail _ (.tail _ (.tail _ (.tail _ (.tail _ (.tail _ (.tail _ (.tail _ (.tail _ (.tail _ (.tail _ (.tail _ (.tail _ (.tail _ (.tail _ (.head _))))))))))))))))))) d6 (.tail _ (.tail _ (.tail _ (.tail _ (.tail _ (.tail _ (.tail _ (.tail _ (.head _))))))))) d1 (.tail _ (.tail _ (.tail _ (.tail _ (.tail _ (.head _)))))) d4 (.tail _ (.tail _ (.tail _ (.tail _ (.tail _ (.tail _ (.tail _ (.tail _ (.tail _ (.tail _ (.tail _ (.tail _ (.tail _ (.head _)))))))))))))) (.tail _ (.tail _ (.tail _ (.tail _ (.tail _ (.tail _ (.tail _ (.tail _ (.tail _ (.tail _ (.tail _ (.tail _ (.tail _ (.tail _ (.tail _ (.tail _ (.tail _ (.head _)))))))))))))))))) (.tail _ (.tail _ (.tail _ (.tail _ (.tail _ (.tail _ (.tail _ (.tail _ (.tail _ (.tail _ (.tail _ (.tail _ (.tail _ (.tail _ (.tail _ (.head _)))))))))))))))) (.tail _ (.tail _ (.tail _ (.tail _ (.tail _ (.tail _ (.tail _ (.tail _ (.tail _ (.tail _ (.tail _ (.tail _ (.tail _ (.tail _ (.tail _ (.tail _ (.head _))))))))))))))))) (.tail _ (.tail _ (.tail _ (.tail _ (.tail _ (.tail _ (.tail _ (.tail _ (.tail _ (.tail _ (.tail _ (.tail _ (.tail _ (.tail _ (.head _))))))))))))))) (by kernel_rfl) (by kernel_rfl) (by kernel_rfl) (.tail _ (.tail _ (.tail _ (.tail _ (.tail _ (.tail _ (.tail _ (.tail _ (.tail _ (.tail _ (.tail _ (.tail _ (.tail _ (.tail _ (.tail _ (.tail _ (.tail _ (.tail _ (.tail _ (.head _)))))))))))))))))))) (.tail _ (.tail _ (.tail _ (.tail _ (.tail _ (.tail _ (.tail _ (.tail _ (.tail _ (.tail _ (.tail _ (.tail _ (.tail _ (.tail _ (.tail _ (.tail _ (.tail _ (.tail _ (.tail _ (.tail _ (.head _))))))))))))))))))))) (.tail _ (.tail _ (.tail _ (.tail _ (.tail _ (.tail _ (.tail _ (.tail _ (.tail _ (.tail _ (.tail _ (.tail _ (.tail _ (.tail _ (.tail _ (.tail _ (.tail _ (.tail _ (.tail _ (.tail _ (.tail _ (.head _)))))))))))))))))))))) (.tail _ (.tail _ (.tail _ (.tail _ (.tail _ (.tail _ (.tail _ (.tail _ (.tail _ (.head _)))))))))) hS hn1 hn2 hret X
  · exact law_sec1 (k := 1) (rest := [(readF, fnMade (Str.ofString "read") qR (paramsOf readSt) (bodyOf readSt) (scopeOf readSt) [(Str.ofString "state", L + 1 + 1 + 1 + 1 + 1), (Str.ofString "rows", L + 1 + 1 + 1 + 1), (Str.ofString "add", L + 1)] docR pmR codR ctvR), (codR, ocR), (addF, fnMade (Str.ofString "add") qA (paramsOf addSt) (bodyOf addSt) (scopeOf addSt) [(Str.ofString "transaction", L + 1 + 1 + 1 + 1 + 1 + 1), (Str.ofString "state", L + 1 + 1 + 1 + 1 + 1), (Str.ofString "read", L + 1 + 1 + 1), (Str.ofString "kind", L + 1 + 1)] docA pmA codA ctvA), (codA, ocA), (L + 1 + 1 + 1 + 1 + 1, o5), (L + 1 + 1 + 1 + 1, o4), (L + 1 + 1 + 1, o3), (L + 1 + 1, o2), (L + 1, o1), (838, tabObj tb), (ex, oex), (vo, W.listOf #[] 0), (ad, oad), (tr, instObj 546 dtr), (ly, W.listOf #[] 0), (sy, instObj 167 dsy), (dsy, dictOf [ent w "data" t16 (.ref ly)] 1), (mg, instObj 818 dmg), (L + 1 + 1 + 1 + 1 + 1 + 1, o6), (658, tabObj #[]), (509, tabObj #[]), (471, tabObj #[])]) hE B F T rfl C1 C2 C3 C4 (cb_drop N (List.forall_mem_cons.mpr ⟨.tail _ (.tail _ (.tail _ (.tail _ (.tail _ (.tail _ (.tail _ (.tail _ (.tail _ (.tail _ (.tail _ (.tail _ (.tail _ (.tail _ (.tail _ (.head _))))))))))))))), List.forall_mem_cons.mpr ⟨.tail _ (.tail _ (.tail _ (.tail _ (.tail _ (.head _))))), List.forall_mem_cons.mpr ⟨.tail _ (.tail _ (.tail _ (.tail _ (.head _)))), List.forall_mem_cons.mpr ⟨.tail _ (.tail _ (.tail _ (.tail _ (.tail _ (.tail _ (.tail _ (.tail _ (.tail _ (.tail _ (.tail _ (.tail _ (.tail _ (.tail _ (.tail _ (.tail _ (.tail _ (.tail _ (.tail _ (.tail _ (.tail _ (.tail _ (.tail _ (.tail _ (.tail _ (.tail _ (.tail _ (.tail _ (.tail _ (.tail _ (.tail _ (.tail _ (.head _)))))))))))))))))))))))))))))))), List.forall_mem_cons.mpr ⟨.tail _ (.tail _ (.tail _ (.tail _ (.tail _ (.tail _ (.tail _ (.tail _ (.tail _ (.tail _ (.tail _ (.tail _ (.tail _ (.tail _ (.tail _ (.tail _ (.tail _ (.tail _ (.tail _ (.tail _ (.tail _ (.tail _ (.tail _ (.tail _ (.tail _ (.tail _ (.tail _ (.head _))))))))))))))))))))))))))), List.forall_mem_cons.mpr ⟨.tail _ (.tail _ (.tail _ (.tail _ (.tail _ (.tail _ (.tail _ (.tail _ (.tail _ (.tail _ (.tail _ (.tail _ (.tail _ (.tail _ (.tail _ (.tail _ (.tail _ (.tail _ (.tail _ (.tail _ (.tail _ (.tail _ (.head _)))))))))))))))))))))), List.forall_mem_cons.mpr ⟨.tail _ (.tail _ (.tail _ (.tail _ (.tail _ (.tail _ (.tail _ (.tail _ (.tail _ (.tail _ (.tail _ (.tail _ (.tail _ (.tail _ (.tail _ (.tail _ (.tail _ (.tail _ (.tail _ (.tail _ (.head _)))))))))))))))))))), List.forall_mem_cons.mpr ⟨.tail _ (.tail _ (.tail _ (.tail _ (.tail _ (.tail _ (.tail _ (.tail _ (.tail _ (.tail _ (.tail _ (.tail _ (.tail _ (.tail _ (.tail _ (.tail _ (.head _)))))))))))))))), List.forall_mem_cons.mpr ⟨.tail _ (.tail _ (.tail _ (.tail _ (.tail _ (.tail _ (.tail _ (.tail _ (.tail _ (.tail _ (.tail _ (.tail _ (.tail _ (.tail _ (.head _)))))))))))))), List.forall_mem_cons.mpr ⟨.tail _ (.tail _ (.tail _ (.tail _ (.tail _ (.tail _ (.tail _ (.tail _ (.tail _ (.tail _ (.tail _ (.tail _ (.tail _ (.head _))))))))))))), List.forall_mem_cons.mpr ⟨.head _, List.forall_mem_cons.mpr ⟨.tail _ (.head _), List.forall_mem_cons.mpr ⟨.tail _ (.tail _ (.head _)), List.forall_mem_cons.mpr ⟨.tail _ (.tail _ (.tail _ (.head _))), List.forall_mem_cons.mpr ⟨.tail _ (.tail _ (.tail _ (.tail _ (.tail _ (.tail _ (.head _)))))), List.forall_mem_cons.mpr ⟨.tail _ (.tail _ (.tail _ (.tail _ (.tail _ (.tail _ (.tail _ (.head _))))))), List.forall_mem_cons.mpr ⟨.tail _ (.tail _ (.tail _ (.tail _ (.tail _ (.tail _ (.tail _ (.tail _ (.head _)))))))), List.forall_mem_cons.mpr ⟨.tail _ (.tail _ (.tail _ (.tail _ (.tail _ (.tail _ (.tail _ (.tail _ (.tail _ (.head _))))))))), List.forall_mem_cons.mpr ⟨.tail _ (.tail _ (.tail _ (.tail _ (.tail _ (.tail _ (.tail _ (.tail _ (.tail _ (.tail _ (.head _)))))))))), List.forall_mem_cons.mpr ⟨.tail _ (.tail _ (.tail _ (.tail _ (.tail _ (.tail _ (.tail _ (.tail _ (.tail _ (.tail _ (.tail _ (.head _))))))))))), List.forall_mem_cons.mpr ⟨.tail _ (.tail _ (.tail _ (.tail _ (.tail _ (.tail _ (.tail _ (.tail _ (.tail _ (.tail _ (.tail _ (.tail _ (.tail _ (.tail _ (.tail _ (.tail _ (.tail _ (.head _))))))))))))))))), List.forall_mem_cons.mpr ⟨.tail _ (.tail _ (.tail _ (.tail _ (.tail _ (.tail _ (.tail _ (.tail _ (.tail _ (.tail _ (.tail _ (.tail _ (.tail _ (.tail _ (.tail _ (.tail _ (.tail _ (.tail _ (.head _)))))))))))))))))), List.forall_mem_cons.mpr ⟨.tail _ (.tail _ (.tail _ (.tail _ (.tail _ (.tail _ (.tail _ (.tail _ (.tail _ (.tail _ (.tail _ (.tail _ (.tail _ (.tail _ (.tail _ (.tail _ (.tail _ (.tail _ (.tail _ (.head _))))))))))))))))))), List.forall_mem_cons.mpr ⟨.tail _ (.tail _ (.tail _ (.tail _ (.tail _ (.tail _ (.tail _ (.tail _ (.tail _ (.tail _ (.tail _ (.tail _ (.tail _ (.tail _ (.tail _ (.tail _ (.tail _ (.tail _ (.tail _ (.tail _ (.tail _ (.head _))))))))))))))))))))), List.forall_mem_cons.mpr ⟨.tail _ (.tail _ (.tail _ (.tail _ (.tail _ (.tail _ (.tail _ (.tail _ (.tail _ (.tail _ (.tail _ (.tail _ (.tail _ (.tail _ (.tail _ (.tail _ (.tail _ (.tail _ (.tail _ (.tail _ (.tail _ (.tail _ (.tail _ (.head _))))))))))))))))))))))), List.forall_mem_cons.mpr ⟨.tail _ (.tail _ (.tail _ (.tail _ (.tail _ (.tail _ (.tail _ (.tail _ (.tail _ (.tail _ (.tail _ (.tail _ (.tail _ (.tail _ (.tail _ (.tail _ (.tail _ (.tail _ (.tail _ (.tail _ (.tail _ (.tail _ (.tail _ (.tail _ (.head _)))))))))))))))))))))))), List.forall_mem_cons.mpr ⟨.tail _ (.tail _ (.tail _ (.tail _ (.tail _ (.tail _ (.tail _ (.tail _ (.tail _ (.tail _ (.tail _ (.tail _ (.tail _ (.tail _ (.tail _ (.tail _ (.tail _ (.tail _ (.tail _ (.tail _ (.tail _ (.tail _ (.tail _ (.tail _ (.tail _ (.head _))))))))))))))))))))))))), List.forall_mem_cons.mpr ⟨.tail _ (.tail _ (.tail _ (.tail _ (.tail _ (.tail _ (.tail _ (.tail _ (.tail _ (.tail _ (.tail _ (.tail _ (.tail _ (.tail _ (.tail _ (.tail _ (.tail _ (.tail _ (.tail _ (.tail _ (.tail _ (.tail _ (.tail _ (.tail _ (.tail _ (.tail _ (.head _)))))))))))))))))))))))))), List.forall_mem_cons.mpr ⟨.tail _ (.tail _ (.tail _ (.tail _ (.tail _ (.tail _ (.tail _ (.tail _ (.tail _ (.tail _ (.tail _ (.tail _ (.tail _ (.tail _ (.tail _ (.tail _ (.tail _ (.tail _ (.tail _ (.tail _ (.tail _ (.tail _ (.tail _ (.tail _ (.tail _ (.tail _ (.tail _ (.tail _ (.head _)))))))))))))))))))))))))))), List.forall_mem_cons.mpr ⟨.tail _ (.tail _ (.tail _ (.tail _ (.tail _ (.tail _ (.tail _ (.tail _ (.tail _ (.tail _ (.tail _ (.tail _ (.tail _ (.tail _ (.tail _ (.tail _ (.tail _ (.tail _ (.tail _ (.tail _ (.tail _ (.tail _ (.tail _ (.tail _ (.tail _ (.tail _ (.tail _ (.tail _ (.tail _ (.head _))))))))))))))))))))))))))))), List.forall_mem_cons.mpr ⟨.tail _ (.tail _ (.tail _ (.tail _ (.tail _ (.tail _ (.tail _ (.tail _ (.tail _ (.tail _ (.tail _ (.tail _ (.tail _ (.tail _ (.tail _ (.tail _ (.tail _ (.tail _ (.tail _ (.tail _ (.tail _ (.tail _ (.tail _ (.tail _ (.tail _ (.tail _ (.tail _ (.tail _ (.tail _ (.tail _ (.head _)))))))))))))))))))))))))))))), List.forall_mem_cons.mpr ⟨.tail _ (.tail _ (.tail _ (.tail _ (.tail _ (.tail _ (.tail _ (.tail _ (.tail _ (.tail _ (.tail _ (.tail _ (.tail _ (.tail _ (.tail _ (.tail _ (.tail _ (.tail _ (.tail _ (.tail _ (.tail _ (.tail _ (.tail _ (.tail _ (.tail _ (.tail _ (.tail _ (.tail _ (.tail _ (.tail _ (.tail _ (.head _))))))))))))))))))))))))))))))), List.forall_mem_nil _⟩⟩⟩⟩⟩⟩⟩⟩⟩⟩⟩⟩⟩⟩⟩⟩⟩⟩⟩⟩⟩⟩⟩⟩⟩⟩⟩⟩⟩⟩⟩⟩)) (u.ltb 0 11 rfl) (u.ltb 11 16 rfl) (u.ltb 16 18 rfl) (u.ltb 18 22 rfl) (u.ltb 22 23 rfl) (u.ltb 23 24 rfl) (u.ltb 24 25 rfl) (u.ltb 25 26 rfl) (u.ltb 26 27 rfl) (List.forall_mem_cons.mpr ⟨(u.ne2 31 0 rfl), List.forall_mem_cons.mpr ⟨(u.ne2 30 0 rfl), List.forall_mem_cons.mpr ⟨(u.ne2 29 0 rfl), List.forall_mem_cons.mpr ⟨(u.ne2 28 0 rfl), List.forall_mem_cons.mpr ⟨(u.ne2 9 0 rfl), List.forall_mem_cons.mpr ⟨(u.ne2 8 0 rfl), List.forall_mem_cons.mpr ⟨(u.ne2 7 0 rfl), List.forall_mem_cons.mpr ⟨(u.ne2 6 0 rfl), List.forall_mem_cons.mpr ⟨(u.ne2 5 0 rfl), List.forall_mem_cons.mpr ⟨(u.ne2 4 0 rfl), List.forall_mem_cons.mpr ⟨(u.ne2 21 0 rfl), List.forall_mem_cons.mpr ⟨(u.ne2 20 0 rfl), List.forall_mem_cons.mpr ⟨(u.ne2 19 0 rfl), List.forall_mem_cons.mpr ⟨(u.ne2 17 0 rfl), List.forall_mem_cons.mpr ⟨(u.ne2 15 0 rfl), List.forall_mem_cons.mpr ⟨(u.ne2 14 0 rfl), List.forall_mem_cons.mpr ⟨(u.ne2 13 0 rfl), List.forall_mem_cons.mpr ⟨(u.ne2 12 0 rfl), List.forall_mem_cons.mpr ⟨(u.ne2 10 0 rfl), List.forall_mem_cons.mpr ⟨(u.ne2 3 0 rfl), List.forall_mem_cons.mpr ⟨(u.ne2 2 0 rfl), List.forall_mem_cons.mpr ⟨(u.ne2 1 0 rfl), List.forall_mem_nil _⟩⟩⟩⟩⟩⟩⟩⟩⟩⟩⟩⟩⟩⟩⟩⟩⟩⟩⟩⟩⟩⟩) (List.forall_mem_cons.mpr ⟨(u.ne2 31 11 rfl), List.forall_mem_cons.mpr ⟨(u.ne2 30 11 rfl), List.forall_mem_cons.mpr ⟨(u.ne2 29 11 rfl), List.forall_mem_cons.mpr ⟨(u.ne2 28 11 rfl), List.forall_mem_cons.mpr ⟨(u.ne1 9 11 rfl), List.forall_mem_cons.mpr ⟨(u.ne1 8 11 rfl), List.forall_mem_cons.mpr ⟨(u.ne1 7 11 rfl), List.forall_mem_cons.mpr ⟨(u.ne1 6 11 rfl), List.forall_mem_cons.mpr ⟨(u.ne1 5 11 rfl), List.forall_mem_cons.mpr ⟨(u.ne1 4 11 rfl), List.forall_mem_cons.mpr ⟨(u.ne2 21 11 rfl), List.forall_mem_cons.mpr ⟨(u.ne2 20 11 rfl), List.forall_mem_cons.mpr ⟨(u.ne2 19 11 rfl), List.forall_mem_cons.mpr ⟨(u.ne2 17 11 rfl), List.forall_mem_cons.mpr ⟨(u.ne2 15 11 rfl), List.forall_mem_cons.mpr ⟨(u.ne2 14 11 rfl), List.forall_mem_cons.mpr ⟨(u.ne2 13 11 rfl), List.forall_mem_cons.mpr ⟨(u.ne2 12 11 rfl), List.forall_mem_cons.mpr ⟨(u.ne1 10 11 rfl), List.forall_mem_cons.mpr ⟨(u.ne1 3 11 rfl), List.forall_mem_cons.mpr ⟨(u.ne1 2 11 rfl), List.forall_mem_cons.mpr ⟨(u.ne1 1 11 rfl), List.forall_mem_nil _⟩⟩⟩⟩⟩⟩⟩⟩⟩⟩⟩⟩⟩⟩⟩⟩⟩⟩⟩⟩⟩⟩) (List.forall_mem_cons.mpr ⟨(u.ne2 31 16 rfl), List.forall_mem_cons.mpr ⟨(u.ne2 30 16 rfl), List.forall_mem_cons.mpr ⟨(u.ne2 29 16 rfl), List.forall_mem_cons.mpr ⟨(u.ne2 28 16 rfl), List.forall_mem_cons.mpr ⟨(u.ne1 9 16 rfl), List.forall_mem_cons.mpr ⟨(u.ne1 8 16 rfl), List.forall_mem_cons.mpr ⟨(u.ne1 7 16 rfl), List.forall_mem_cons.mpr ⟨(u.ne1 6 16 rfl), List.forall_mem_cons.mpr ⟨(u.ne1 5 16 rfl), List.forall_mem_cons.mpr ⟨(u.ne1 4 16 rfl), List.forall_mem_cons.mpr ⟨(u.ne2 21 16 rfl), List.forall_mem_cons.mpr ⟨(u.ne2 20 16 rfl), List.forall_mem_cons.mpr ⟨(u.ne2 19 16 rfl), List.forall_mem_cons.mpr ⟨(u.ne2 17 16 rfl), List.forall_mem_cons.mpr ⟨(u.ne1 15 16 rfl), List.forall_mem_cons.mpr ⟨(u.ne1 14 16 rfl), List.forall_mem_cons.mpr ⟨(u.ne1 13 16 rfl), List.forall_mem_cons.mpr ⟨(u.ne1 12 16 rfl), List.forall_mem_cons.mpr ⟨(u.ne1 10 16 rfl), List.forall_mem_cons.mpr ⟨(u.ne1 3 16 rfl), List.forall_mem_cons.mpr ⟨(u.ne1 2 16 rfl), List.forall_mem_cons.mpr ⟨(u.ne1 1 16 rfl), List.forall_mem_nil _⟩⟩⟩⟩⟩⟩⟩⟩⟩⟩⟩⟩⟩⟩⟩⟩⟩⟩⟩⟩⟩⟩) (List.forall_mem_cons.mpr ⟨(u.ne2 31 18 rfl), List.forall_mem_cons.mpr ⟨(u.ne2 30 18 rfl), List.forall_mem_cons.mpr ⟨(u.ne2 29 18 rfl), List.forall_mem_cons.mpr ⟨(u.ne2 28 18 rfl), List.forall_mem_cons.mpr ⟨(u.ne1 9 18 rfl), List.forall_mem_cons.mpr ⟨(u.ne1 8 18 rfl), List.forall_mem_cons.mpr ⟨(u.ne1 7 18 rfl), List.forall_mem_cons.mpr ⟨(u.ne1 6 18 rfl), List.forall_mem_cons.mpr ⟨(u.ne1 5 18 rfl), List.forall_mem_cons.mpr ⟨(u.ne1 4 18 rfl), List.forall_mem_cons.mpr ⟨(u.ne2 21 18 rfl), List.forall_mem_cons.mpr ⟨(u.ne2 20 18 rfl), List.forall_mem_cons.mpr ⟨(u.ne2 19 18 rfl), List.forall_mem_cons.mpr ⟨(u.ne1 17 18 rfl), List.forall_mem_cons.mpr ⟨(u.ne1 15 18 rfl), List.forall_mem_cons.mpr ⟨(u.ne1 14 18 rfl), List.forall_mem_cons.mpr ⟨(u.ne1 13 18 rfl), List.forall_mem_cons.mpr ⟨(u.ne1 12 18 rfl), List.forall_mem_cons.mpr ⟨(u.ne1 10 18 rfl), List.forall_mem_cons.mpr ⟨(u.ne1 3 18 rfl), List.forall_mem_cons.mpr ⟨(u.ne1 2 18 rfl), List.forall_mem_cons.mpr ⟨(u.ne1 1 18 rfl), List.forall_mem_nil _⟩⟩⟩⟩⟩⟩⟩⟩⟩⟩⟩⟩⟩⟩⟩⟩⟩⟩⟩⟩⟩⟩) (List.forall_mem_cons.mpr ⟨(u.ne2 31 22 rfl), List.forall_mem_cons.mpr ⟨(u.ne2 30 22 rfl), List.forall_mem_cons.mpr ⟨(u.ne2 29 22 rfl), List.forall_mem_cons.mpr ⟨(u.ne2 28 22 rfl), List.forall_mem_cons.mpr ⟨(u.ne1 9 22 rfl), List.forall_mem_cons.mpr ⟨(u.ne1 8 22 rfl), List.forall_mem_cons.mpr ⟨(u.ne1 7 22 rfl), List.forall_mem_cons.mpr ⟨(u.ne1 6 22 rfl), List.forall_mem_cons.mpr ⟨(u.ne1 5 22 rfl), List.forall_mem_cons.mpr ⟨(u.ne1 4 22 rfl), List.forall_mem_cons.mpr ⟨(u.ne1 21 22 rfl), List.forall_mem_cons.mpr ⟨(u.ne1 20 22 rfl), List.forall_mem_cons.mpr ⟨(u.ne1 19 22 rfl), List.forall_mem_cons.mpr ⟨(u.ne1 17 22 rfl), List.forall_mem_cons.mpr ⟨(u.ne1 15 22 rfl), List.forall_mem_cons.mpr ⟨(u.ne1 14 22 rfl), List.forall_mem_cons.mpr ⟨(u.ne1 13 22 rfl), List.forall_mem_cons.mpr ⟨(u.ne1 12 22 rfl), List.forall_mem_cons.mpr ⟨(u.ne1 10 22 rfl), List.forall_mem_cons.mpr ⟨(u.ne1 3 22 rfl), List.forall_mem_cons.mpr ⟨(u.ne1 2 22 rfl), List.forall_mem_cons.mpr ⟨(u.ne1 1 22 rfl), List.forall_mem_nil _⟩⟩⟩⟩⟩⟩⟩⟩⟩⟩⟩⟩⟩⟩⟩⟩⟩⟩⟩⟩⟩⟩) (List.forall_mem_cons.mpr ⟨(u.ne2 31 23 rfl), List.forall_mem_cons.mpr ⟨(u.ne2 30 23 rfl), List.forall_mem_cons.mpr ⟨(u.ne2 29 23 rfl), List.forall_mem_cons.mpr ⟨(u.ne2 28 23 rfl), List.forall_mem_cons.mpr ⟨(u.ne1 9 23 rfl), List.forall_mem_cons.mpr ⟨(u.ne1 8 23 rfl), List.forall_mem_cons.mpr ⟨(u.ne1 7 23 rfl), List.forall_mem_cons.mpr ⟨(u.ne1 6 23 rfl), List.forall_mem_cons.mpr ⟨(u.ne1 5 23 rfl), List.forall_mem_cons.mpr ⟨(u.ne1 4 23 rfl), List.forall_mem_cons.mpr ⟨(u.ne1 21 23 rfl), List.forall_mem_cons.mpr ⟨(u.ne1 20 23 rfl), List.forall_mem_cons.mpr ⟨(u.ne1 19 23 rfl), List.forall_mem_cons.mpr ⟨(u.ne1 17 23 rfl), List.forall_mem_cons.mpr ⟨(u.ne1 15 23 rfl), List.forall_mem_cons.mpr ⟨(u.ne1 14 23 rfl), List.forall_mem_cons.mpr ⟨(u.ne1 13 23 rfl), List.forall_mem_cons.mpr ⟨(u.ne1 12 23 rfl), List.forall_mem_cons.mpr ⟨(u.ne1 10 23 rfl), List.forall_mem_cons.mpr ⟨(u.ne1 3 23 rfl), List.forall_mem_cons.mpr ⟨(u.ne1 2 23 rfl), List.forall_mem_cons.mpr ⟨(u.ne1 1 23 rfl), List.forall_mem_nil _⟩⟩⟩⟩⟩⟩⟩⟩⟩⟩⟩⟩⟩⟩⟩⟩⟩⟩⟩⟩⟩⟩) (List.forall_mem_cons.mpr ⟨(u.ne2 31 24 rfl), List.forall_mem_cons.mpr ⟨(u.ne2 30 24 rfl), List.forall_mem_cons.mpr ⟨(u.ne2 29 24 rfl), List.forall_mem_cons.mpr ⟨(u.ne2 28 24 rfl), List.forall_mem_cons.mpr ⟨(u.ne1 9 24 rfl), List.forall_mem_cons.mpr ⟨(u.ne1 8 24 rfl), List.forall_mem_cons.mpr ⟨(u.ne1 7 24 rfl), List.forall_mem_cons.mpr ⟨(u.ne1 6 24 rfl), List.forall_mem_cons.mpr ⟨(u.ne1 5 24 rfl), List.forall_mem_cons.mpr ⟨(u.ne1 4 24 rfl), List.forall_mem_cons.mpr ⟨(u.ne1 21 24 rfl), List.forall_mem_cons.mpr ⟨(u.ne1 20 24 rfl), List.forall_mem_cons.mpr ⟨(u.ne1 19 24 rfl), List.forall_mem_cons.mpr ⟨(u.ne1 17 24 rfl), List.forall_mem_cons.mpr ⟨(u.ne1 15 24 rfl), List.forall_mem_cons.mpr ⟨(u.ne1 14 24 rfl), List.forall_mem_cons.mpr ⟨(u.ne1 13 24 rfl), List.forall_mem_cons.mpr ⟨(u.ne1 12 24 rfl), List.forall_mem_cons.mpr ⟨(u.ne1 10 24 rfl), List.forall_mem_cons.mpr ⟨(u.ne1 3 24 rfl), List.forall_mem_cons.mpr ⟨(u.ne1 2 24 rfl), List.forall_mem_cons.mpr ⟨(u.ne1 1 24 rfl), List.forall_mem_nil _⟩⟩⟩⟩⟩⟩⟩⟩⟩⟩⟩⟩⟩⟩⟩⟩⟩⟩⟩⟩⟩⟩) (List.forall_mem_cons.mpr ⟨(u.ne2 31 25 rfl), List.forall_mem_cons.mpr ⟨(u.ne2 30 25 rfl), List.forall_mem_cons.mpr ⟨(u.ne2 29 25 rfl), List.forall_mem_cons.mpr ⟨(u.ne2 28 25 rfl), List.forall_mem_cons.mpr ⟨(u.ne1 9 25 rfl), List.forall_mem_cons.mpr ⟨(u.ne1 8 25 rfl), List.forall_mem_cons.mpr ⟨(u.ne1 7 25 rfl), List.forall_mem_cons.mpr ⟨(u.ne1 6 25 rfl), List.forall_mem_cons.mpr ⟨(u.ne1 5 25 rfl), List.forall_mem_cons.mpr ⟨(u.ne1 4 25 rfl), List.forall_mem_cons.mpr ⟨(u.ne1 21 25 rfl), List.forall_mem_cons.mpr ⟨(u.ne1 20 25 rfl), List.forall_mem_cons.mpr ⟨(u.ne1 19 25 rfl), List.forall_mem_cons.mpr ⟨(u.ne1 17 25 rfl), List.forall_mem_cons.mpr ⟨(u.ne1 15 25 rfl), List.forall_mem_cons.mpr ⟨(u.ne1 14 25 rfl), List.forall_mem_cons.mpr ⟨(u.ne1 13 25 rfl), List.forall_mem_cons.mpr ⟨(u.ne1 12 25 rfl), List.forall_mem_cons.mpr ⟨(u.ne1 10 25 rfl), List.forall_mem_cons.mpr ⟨(u.ne1 3 25 rfl), List.forall_mem_cons.mpr ⟨(u.ne1 2 25 rfl), List.forall_mem_cons.mpr ⟨(u.ne1 1 25 rfl), List.forall_mem_nil _⟩⟩⟩⟩⟩⟩⟩⟩⟩⟩⟩⟩⟩⟩⟩⟩⟩⟩⟩⟩⟩⟩) (List.forall_mem_cons.mpr ⟨(u.ne2 31 26 rfl), List.forall_mem_cons.mpr ⟨(u.ne2 30 26 rfl), List.forall_mem_cons.mpr ⟨(u.ne2 29 26 rfl), List.forall_mem_cons.mpr ⟨(u.ne2 28 26 rfl), List.forall_mem_cons.mpr ⟨(u.ne1 9 26 rfl), List.forall_mem_cons.mpr ⟨(u.ne1 8 26 rfl), List.forall_mem_cons.mpr ⟨(u.ne1 7 26 rfl), List.forall_mem_cons.mpr ⟨(u.ne1 6 26 rfl), List.forall_mem_cons.mpr ⟨(u.ne1 5 26 rfl), List.forall_mem_cons.mpr ⟨(u.ne1 4 26 rfl), List.forall_mem_cons.mpr ⟨(u.ne1 21 26 rfl), List.forall_mem_cons.mpr ⟨(u.ne1 20 26 rfl), List.forall_mem_cons.mpr ⟨(u.ne1 19 26 rfl), List.forall_mem_cons.mpr ⟨(u.ne1 17 26 rfl), List.forall_mem_cons.mpr ⟨(u.ne1 15 26 rfl), List.forall_mem_cons.mpr ⟨(u.ne1 14 26 rfl), List.forall_mem_cons.mpr ⟨(u.ne1 13 26 rfl), List.forall_mem_cons.mpr ⟨(u.ne1 12 26 rfl), List.forall_mem_cons.mpr ⟨(u.ne1 10 26 rfl), List.forall_mem_cons.mpr ⟨(u.ne1 3 26 rfl), List.forall_mem_cons.mpr ⟨(u.ne1 2 26 rfl), List.forall_mem_cons.mpr ⟨(u.ne1 1 26 rfl), List.forall_mem_nil _⟩⟩⟩⟩⟩⟩⟩⟩⟩⟩⟩⟩⟩⟩⟩⟩⟩⟩⟩⟩⟩⟩) (List.forall_mem_cons.mpr ⟨(u.ne2 31 27 rfl), List.forall_mem_cons.mpr ⟨(u.ne2 30 27 rfl), List.forall_mem_cons.mpr ⟨(u.ne2 29 27 rfl), List.forall_mem_cons.mpr ⟨(u.ne2 28 27 rfl), List.forall_mem_cons.mpr ⟨(u.ne1 9 27 rfl), List.forall_mem_cons.mpr ⟨(u.ne1 8 27 rfl), List.forall_mem_cons.mpr ⟨(u.ne1 7 27 rfl), List.forall_mem_cons.mpr ⟨(u.ne1 6 27 rfl), List.forall_mem_cons.mpr ⟨(u.ne1 5 27 rfl), List.forall_mem_cons.mpr ⟨(u.ne1 4 27 rfl), List.forall_mem_cons.mpr ⟨(u.ne1 21 27 rfl), List.forall_mem_cons.mpr ⟨(u.ne1 20 27 rfl), List.forall_mem_cons.mpr ⟨(u.ne1 19 27 rfl), List.forall_mem_cons.mpr ⟨(u.ne1 17 27 rfl), List.forall_mem_cons.mpr ⟨(u.ne1 15 27 rfl), List.forall_mem_cons.mpr ⟨(u.ne1 14 27 rfl), List.forall_mem_cons.mpr ⟨(u.ne1 13 27 rfl), List.forall_mem_cons.mpr ⟨(u.ne1 12 27 rfl), List.forall_mem_cons.mpr ⟨(u.ne1 10 27 rfl), List.forall_mem_cons.mpr ⟨(u.ne1 3 27 rfl), List.forall_mem_cons.mpr ⟨(u.ne1 2 27 rfl), List.forall_mem_cons.mpr ⟨(u.ne1 1 27 rfl), List.forall_mem_nil _⟩⟩⟩⟩⟩⟩⟩⟩⟩⟩⟩⟩⟩⟩⟩⟩⟩⟩⟩⟩⟩⟩) lost (.head _) (.tail _ (.head _)) hcR1 hcR2 (.tail _ (.tail _ (.head _))) (.tail _ (.tail _ (.tail _ (.head _)))) hcA1 hcA2 (.tail _ (.tail _ (.tail _ (.tail _ (.tail _ (.tail _ (.tail _ (.head _)))))))) d2 (by decide) (.tail _ (.tail _ (.tail _ (.tail _ (.tail _ (.tail _ (.head _))))))) d3 (.tail _ (.tail _ (.tail _ (.tail _ (.head _))))) d5 (.tail _ (.tail _ (.tail _ (.tail _ (.tail _ (.tail _ (.tail _ (.tail _ (.tail _ (.tail _ (.tail _ (.tail _ (.tail _ (.tail _ (.tail _ (.tail _ (.tail _ (.tail _ (.head _))))))))))))))))))) d6 (.tail _ (.tail _ (.tail _ (.tail _ (.tail _ (.tail _ (.tail _ (.tail _ (.head _))))))))) d1 (.tail _ (.tail _ (.tail _ (.tail _ (.tail _ (.head _)))))) d4 (.tail _ (.tail _ (.tail _ (.tail _ (.tail _ (.tail _ (.tail _ (.tail _ (.tail _ (.tail _ (.tail _ (.tail _ (.tail _ (.head _)))))))))))))) (.tail _ (.tail _ (.tail _ (.tail _ (.tail _ (.tail _ (.tail _ (.tail _ (.tail _ (.tail _ (.tail _ (.tail _ (.tail _ (.tail _ (.tail _ (.tail _ (.tail _ (.head _)))))))))))))))))) (.tail _ (.tail _ (.tail _ (.tail _ (.tail _ (.tail _ (.tail _ (.tail _ (.tail _ (.tail _ (.tail _ (.tail _ (.tail _ (.tail _ (.tail _ (.head _)))))))))))))))) (.tail _ (.tail _ (.tail _ (.tail _ (.tail _ (.tail _ (.tail _ (.tail _ (.tail _ (.tail _ (.tail _ (.tail _ (.tail _ (.tail _ (.tail _ (.tail _ (.head _))))))))))))))))) (.tail _ (.tail _ (.tail _ (.tail _ (.tail _ (.tail _ (.tail _ (.tail _ (.tail _ (.tail _ (.tail _ (.tail _ (.tail _ (.tail _ (.head _))))))))))))))) (by kernel_rfl) (by kernel_rfl) (by kernel_rfl) (.tail _ (.tail _ (.tail _ (.tail _ (.tail _ (.tail _ (.tail _ (.tail _ (.tail _ (.tail _ (.tail _ (.tail _ (.tail _ (.tail _ (.tail _ (.tail _ (.tail _ (.tail _ (.tail _ (.head _)))))))))))))))))))) (.tail _ (.tail _ (.tail _ (.tail _ (.tail _ (.tail _ (.tail _ (.tail _ (.tail _ (.tail _ (.tail _ (.tail _ (.tail _ (.tail _ (.tail _ (.tail _ (.tail _ (.tail _ (.tail _ (.tail _ (.head _))))))))))))))))))))) (.tail _ (.tail _ (.tail _ (.tail _ (.tail _ (.tail _ (.tail _ (.tail _ (.tail _ (.tail _ (.tail _ (.tail _ (.tail _ (.tail _ (.tail _ (.tail _ (.tail _ (.tail _ (.tail _ (.tail _ (.tail _ (.head _)))))))))))))))))))))) (.tail _ (.tail _ (.tail _ (.tail _ (.tail _ (.tail _ (.tail _ (.tail _ (.tail _ (.head _)))))))))) hS hn1 hn2 hret X
  · exact law_sec2 (k := 2) (rest := [(readF, fnMade (Str.ofString "read") qR (paramsOf readSt) (bodyOf readSt) (scopeOf readSt) [(Str.ofString "state", L + 1 + 1 + 1 + 1 + 1), (Str.ofString "rows", L + 1 + 1 + 1 + 1), (Str.ofString "add", L + 1)] docR pmR codR ctvR), (codR, ocR), (addF, fnMade (Str.ofString "add") qA (paramsOf addSt) (bodyOf addSt) (scopeOf addSt) [(Str.ofString "transaction", L + 1 + 1 + 1 + 1 + 1 + 1), (Str.ofString "state", L + 1 + 1 + 1 + 1 + 1), (Str.ofString "read", L + 1 + 1 + 1), (Str.ofString "kind", L + 1 + 1)] docA pmA codA ctvA), (codA, ocA), (L + 1 + 1 + 1 + 1 + 1, o5), (L + 1 + 1 + 1 + 1, o4), (L + 1 + 1 + 1, o3), (L + 1 + 1, o2), (L + 1, o1), (838, tabObj tb), (ex, oex), (vo, W.listOf #[] 0), (ad, oad), (tr, instObj 546 dtr), (ly, W.listOf #[] 0), (sy, instObj 167 dsy), (dsy, dictOf [ent w "data" t16 (.ref ly)] 1), (mg, instObj 818 dmg), (L + 1 + 1 + 1 + 1 + 1 + 1, o6), (658, tabObj #[]), (471, tabObj #[]), (355, tabObj #[])]) hE B F T rfl C1 C2 C3 C4 (cb_drop N (List.forall_mem_cons.mpr ⟨.tail _ (.tail _ (.tail _ (.tail _ (.tail _ (.tail _ (.tail _ (.tail _ (.tail _ (.tail _ (.tail _ (.tail _ (.tail _ (.tail _ (.head _)))))))))))))), List.forall_mem_cons.mpr ⟨.tail _ (.tail _ (.tail _ (.tail _ (.tail _ (.head _))))), List.forall_mem_cons.mpr ⟨.tail _ (.tail _ (.tail _ (.tail _ (.head _)))), List.forall_mem_cons.mpr ⟨.tail _ (.tail _ (.tail _ (.tail _ (.tail _ (.tail _ (.tail _ (.tail _ (.tail _ (.tail _ (.tail _ (.tail _ (.tail _ (.tail _ (.tail _ (.tail _ (.tail _ (.tail _ (.tail _ (.tail _ (.tail _ (.tail _ (.tail _ (.tail _ (.tail _ (.tail _ (.tail _ (.tail _ (.tail _ (.tail _ (.head _)))))))))))))))))))))))))))))), List.forall_mem_cons.mpr ⟨.tail _ (.tail _ (.tail _ (.tail _ (.tail _ (.tail _ (.tail _ (.tail _ (.tail _ (.tail _ (.tail _ (.tail _ (.tail _ (.tail _ (.tail _ (.tail _ (.tail _ (.tail _ (.tail _ (.tail _ (.tail _ (.tail _ (.tail _ (.tail _ (.tail _ (.tail _ (.tail _ (.head _))))))))))))))))))))))))))), List.forall_mem_cons.mpr ⟨.tail _ (.tail _ (.tail _ (.tail _ (.tail _ (.tail _ (.tail _ (.tail _ (.tail _ (.tail _ (.tail _ (.tail _ (.tail _ (.tail _ (.tail _ (.tail _ (.tail _ (.tail _ (.tail _ (.tail _ (.tail _ (.tail _ (.head _)))))))))))))))))))))), List.forall_mem_cons.mpr ⟨.tail _ (.tail _ (.tail _ (.tail _ (.tail _ (.tail _ (.tail _ (.tail _ (.tail _ (.tail _ (.tail _ (.tail _ (.tail _ (.tail _ (.tail _ (.tail _ (.tail _ (.tail _ (.tail _ (.tail _ (.head _)))))))))))))))))))), List.forall_mem_cons.mpr ⟨.tail _ (.tail _ (.tail _ (.tail _ (.tail _ (.tail _ (.tail _ (.tail _ (.tail _ (.tail _ (.tail _ (.tail _ (.tail _ (.tail _ (.tail _ (.tail _ (.head _)))))))))))))))), List.forall_mem_cons.mpr ⟨.tail _ (.tail _ (.tail _ (.tail _ (.tail _ (.tail _ (.tail _ (.tail _ (.tail _ (.tail _ (.tail _ (.tail _ (.tail _ (.tail _ (.tail _ (.head _))))))))))))))), List.forall_mem_cons.mpr ⟨.tail _ (.tail _ (.tail _ (.tail _ (.tail _ (.tail _ (.tail _ (.tail _ (.tail _ (.tail _ (.tail _ (.tail _ (.tail _ (.head _))))))))))))), List.forall_mem_cons.mpr ⟨.head _, List.forall_mem_cons.mpr ⟨.tail _ (.head _), List.forall_mem_cons.mpr ⟨.tail _ (.tail _ (.head _)), List.forall_mem_cons.mpr ⟨.tail _ (.tail _ (.tail _ (.head _))), List.forall_mem_cons.mpr ⟨.tail _ (.tail _ (.tail _ (.tail _ (.tail _ (.tail _ (.head _)))))), List.forall_mem_cons.mpr ⟨.tail _ (.tail _ (.tail _ (.tail _ (.tail _ (.tail _ (.tail _ (.head _))))))), List.forall_mem_cons.mpr ⟨.tail _ (.tail _ (.tail _ (.tail _ (.tail _ (.tail _ (.tail _ (.tail _ (.head _)))))))), List.forall_mem_cons.mpr ⟨.tail _ (.tail _ (.tail _ (.tail _ (.tail _ (.tail _ (.tail _ (.tail _ (.tail _ (.head _))))))))), List.forall_mem_cons.mpr ⟨.tail _ (.tail _ (.tail _ (.tail _ (.tail _ (.tail _ (.tail _ (.tail _ (.tail _ (.tail _ (.head _)))))))))), List.forall_mem_cons.mpr ⟨.tail _ (.tail _ (.tail _ (.tail _ (.tail _ (.tail _ (.tail _ (.tail _ (.tail _ (.tail _ (.tail _ (.head _))))))))))), List.forall_mem_cons.mpr ⟨.tail _ (.tail _ (.tail _ (.tail _ (.tail _ (.tail _ (.tail _ (.tail _ (.tail _ (.tail _ (.tail _ (.tail _ (.tail _ (.tail _ (.tail _ (.tail _ (.tail _ (.head _))))))))))))))))), List.forall_mem_cons.mpr ⟨.tail _ (.tail _ (.tail _ (.tail _ (.tail _ (.tail _ (.tail _ (.tail _ (.tail _ (.tail _ (.tail _ (.tail _ (.tail _ (.tail _ (.tail _ (.tail _ (.tail _ (.tail _ (.head _)))))))))))))))))), List.forall_mem_cons.mpr ⟨.tail _ (.tail _ (.tail _ (.tail _ (.tail _ (.tail _ (.tail _ (.tail _ (.tail _ (.tail _ (.tail _ (.tail _ (.tail _ (.tail _ (.tail _ (.tail _ (.tail _ (.tail _ (.tail _ (.head _))))))))))))))))))), List.forall_mem_cons.mpr ⟨.tail _ (.tail _ (.tail _ (.tail _ (.tail _ (.tail _ (.tail _ (.tail _ (.tail _ (.tail _ (.tail _ (.tail _ (.tail _ (.tail _ (.tail _ (.tail _ (.tail _ (.tail _ (.tail _ (.tail _ (.tail _ (.head _))))))))))))))))))))), List.forall_mem_cons.mpr ⟨.tail _ (.tail _ (.tail _ (.tail _ (.tail _ (.tail _ (.tail _ (.tail _ (.tail _ (.tail _ (.tail _ (.tail _ (.tail _ (.tail _ (.tail _ (.tail _ (.tail _ (.tail _ (.tail _ (.tail _ (.tail _ (.tail _ (.tail _ (.head _))))))))))))))))))))))), List.forall_mem_cons.mpr ⟨.tail _ (.tail _ (.tail _ (.tail _ (.tail _ (.tail _ (.tail _ (.tail _ (.tail _ (.tail _ (.tail _ (.tail _ (.tail _ (.tail _ (.tail _ (.tail _ (.tail _ (.tail _ (.tail _ (.tail _ (.tail _ (.tail _ (.tail _ (.tail _ (.head _)))))))))))))))))))))))), List.forall_mem_cons.mpr ⟨.tail _ (.tail _ (.tail _ (.tail _ (.tail _ (.tail _ (.tail _ (.tail _ (.tail _ (.tail _ (.tail _ (.tail _ (.tail _ (.tail _ (.tail _ (.tail _ (.tail _ (.tail _ (.tail _ (.tail _ (.tail _ (.tail _ (.tail _ (.tail _ (.tail _ (.head _))))))))))))))))))))))))), List.forall_mem_cons.mpr ⟨.tail _ (.tail _ (.tail _ (.tail _ (.tail _ (.tail _ (.tail _ (.tail _ (.tail _ (.tail _ (.tail _ (.tail _ (.tail _ (.tail _ (.tail _ (.tail _ (.tail _ (.tail _ (.tail _ (.tail _ (.tail _ (.tail _ (.tail _ (.tail _ (.tail _ (.tail _ (.head _)))))))))))))))))))))))))), List.forall_mem_cons.mpr ⟨.tail _ (.tail _ (.tail _ (.tail _ (.tail _ (.tail _ (.tail _ (.tail _ (.tail _ (.tail _ (.tail _ (.tail _ (.tail _ (.tail _ (.tail _ (.tail _ (.tail _ (.tail _ (.tail _ (.tail _ (.tail _ (.tail _ (.tail _ (.tail _ (.tail _ (.tail _ (.tail _ (.tail _ (.head _)))))))))))))))))))))))))))), List.forall_mem_cons.mpr ⟨.tail _ (.tail _ (.tail _ (.tail _ (.tail _ (.tail _ (.tail _ (.tail _ (.tail _ (.tail _ (.tail _ (.tail _ (.tail _ (.tail _ (.tail _ (.tail _ (.tail _ (.tail _ (.tail _ (.tail _ (.tail _ (.tail _ (.tail _ (.tail _ (.tail _ (.tail _ (.tail _ (.tail _ (.tail _ (.head _))))))))))))))))))))))))))))), List.forall_mem_cons.mpr ⟨.tail _ (.tail _ (.tail _ (.tail _ (.tail _ (.tail _ (.tail _ (.tail _ (.tail _ (.tail _ (.tail _ (.tail _ (.tail _ (.tail _ (.tail _ (.tail _ (.tail _ (.tail _ (.tail _ (.tail _ (.tail _ (.tail _ (.tail _ (.tail _ (.tail _ (.tail _ (.tail _ (.tail _ (.tail _ (.tail _ (.tail _ (.head _))))))))))))))))))))))))))))))), List.forall_mem_cons.mpr ⟨.tail _ (.tail _ (.tail _ (.tail _ (.tail _ (.tail _ (.tail _ (.tail _ (.tail _ (.tail _ (.tail _ (.tail _ (.tail _ (.tail _ (.tail _ (.tail _ (.tail _ (.tail _ (.tail _ (.tail _ (.tail _ (.tail _ (.tail _ (.tail _ (.tail _ (.tail _ (.tail _ (.tail _ (.tail _ (.tail _ (.tail _ (.tail _ (.head _)))))))))))))))))))))))))))))))), List.forall_mem_nil _⟩⟩⟩⟩⟩⟩⟩⟩⟩⟩⟩⟩⟩⟩⟩⟩⟩⟩⟩⟩⟩⟩⟩⟩⟩⟩⟩⟩⟩⟩⟩⟩)) (u.ltb 2 11 rfl) (u.ltb 11 16 rfl) (u.ltb 16 18 rfl) (u.ltb 18 22 rfl) (u.ltb 22 23 rfl) (u.ltb 23 24 rfl) (u.ltb 24 25 rfl) (u.ltb 25 26 rfl) (u.ltb 26 27 rfl) (List.forall_mem_cons.mpr ⟨(u.ne2 31 2 rfl), List.forall_mem_cons.mpr ⟨(u.ne2 30 2 rfl), List.forall_mem_cons.mpr ⟨(u.ne2 29 2 rfl), List.forall_mem_cons.mpr ⟨(u.ne2 28 2 rfl), List.forall_mem_cons.mpr ⟨(u.ne2 9 2 rfl), List.forall_mem_cons.mpr ⟨(u.ne2 8 2 rfl), List.forall_mem_cons.mpr ⟨(u.ne2 7 2 rfl), List.forall_mem_cons.mpr ⟨(u.ne2 6 2 rfl), List.forall_mem_cons.mpr ⟨(u.ne2 5 2 rfl), List.forall_mem_cons.mpr ⟨(u.ne2 4 2 rfl), List.forall_mem_cons.mpr ⟨(u.ne2 21 2 rfl), List.forall_mem_cons.mpr ⟨(u.ne2 20 2 rfl), List.forall_mem_cons.mpr ⟨(u.ne2 19 2 rfl), List.forall_mem_cons.mpr ⟨(u.ne2 17 2 rfl), List.forall_mem_cons.mpr ⟨(u.ne2 15 2 rfl), List.forall_mem_cons.mpr ⟨(u.ne2 14 2 rfl), List.forall_mem_cons.mpr ⟨(u.ne2 13 2 rfl), List.forall_mem_cons.mpr ⟨(u.ne2 12 2 rfl), List.forall_mem_cons.mpr ⟨(u.ne2 10 2 rfl), List.forall_mem_cons.mpr ⟨(u.ne2 3 2 rfl), List.forall_mem_cons.mpr ⟨(u.ne1 1 2 rfl), List.forall_mem_cons.mpr ⟨(u.ne1 0 2 rfl), List.forall_mem_nil _⟩⟩⟩⟩⟩⟩⟩⟩⟩⟩⟩⟩⟩⟩⟩⟩⟩⟩⟩⟩⟩⟩) (List.forall_mem_cons.mpr ⟨(u.ne2 31 11 rfl), List.forall_mem_cons.mpr ⟨(u.ne2 30 11 rfl), List.forall_mem_cons.mpr ⟨(u.ne2 29 11 rfl), List.forall_mem_cons.mpr ⟨(u.ne2 28 11 rfl), List.forall_mem_cons.mpr ⟨(u.ne1 9 11 rfl), List.forall_mem_cons.mpr ⟨(u.ne1 8 11 rfl), List.forall_mem_cons.mpr ⟨(u.ne1 7 11 rfl), List.forall_mem_cons.mpr ⟨(u.ne1 6 11 rfl), List.forall_mem_cons.mpr ⟨(u.ne1 5 11 rfl), List.forall_mem_cons.mpr ⟨(u.ne1 4 11 rfl), List.forall_mem_cons.mpr ⟨(u.ne2 21 11 rfl), List.forall_mem_cons.mpr ⟨(u.ne2 20 11 rfl), List.forall_mem_cons.mpr ⟨(u.ne2 19 11 rfl), List.forall_mem_cons.mpr ⟨(u.ne2 17 11 rfl), List.forall_mem_cons.mpr ⟨(u.ne2 15 11 rfl), List.forall_mem_cons.mpr ⟨(u.ne2 14 11 rfl), List.forall_mem_cons.mpr ⟨(u.ne2 13 11 rfl), List.forall_mem_cons.mpr ⟨(u.ne2 12 11 rfl), List.forall_mem_cons.mpr ⟨(u.ne1 10 11 rfl), List.forall_mem_cons.mpr ⟨(u.ne1 3 11 rfl), List.forall_mem_cons.mpr ⟨(u.ne1 1 11 rfl), List.forall_mem_cons.mpr ⟨(u.ne1 0 11 rfl), List.forall_mem_nil _⟩⟩⟩⟩⟩⟩⟩⟩⟩⟩⟩⟩⟩⟩⟩⟩⟩⟩⟩⟩⟩⟩) (List.forall_mem_cons.mpr ⟨(u.ne2 31 16 rfl), List.forall_mem_cons.mpr ⟨(u.ne2 30 16 rfl), List.forall_mem_cons.mpr ⟨(u.ne2 29 16 rfl), List.forall_mem_cons.mpr ⟨(u.ne2 28 16 rfl), List.forall_mem_cons.mpr ⟨(u.ne1 9 16 rfl), List.forall_mem_cons.mpr ⟨(u.ne1 8 16 rfl), List.forall_mem_cons.mpr ⟨(u.ne1 7 16 rfl), List.forall_mem_cons.mpr ⟨(u.ne1 6 16 rfl), List.forall_mem_cons.mpr ⟨(u.ne1 5 16 rfl), List.forall_mem_cons.mpr ⟨(u.ne1 4 16 rfl), List.forall_mem_cons.mpr ⟨(u.ne2 21 16 rfl), List.forall_mem_cons.mpr ⟨(u.ne2 20 16 rfl), List.forall_mem_cons.mpr ⟨(u.ne2 19 16 rfl), List.forall_mem_cons.mpr ⟨(u.ne2 17 16 rfl), List.forall_mem_cons.mpr ⟨(u.ne1 15 16 rfl), List.forall_mem_cons.mpr ⟨(u.ne1 14 16 rfl), List.forall_mem_cons.mpr ⟨(u.ne1 13 16 rfl), List.forall_mem_cons.mpr ⟨(u.ne1 12 16 rfl), List.forall_mem_cons.mpr ⟨(u.ne1 10 16 rfl), List.forall_mem_cons.mpr ⟨(u.ne1 3 16 rfl), List.forall_mem_cons.mpr ⟨(u.ne1 1 16 rfl), List.forall_mem_cons.mpr ⟨(u.ne1 0 16 rfl), List.forall_mem_nil _⟩⟩⟩⟩⟩⟩⟩⟩⟩⟩⟩⟩⟩⟩⟩⟩⟩⟩⟩⟩⟩⟩) (List.forall_mem_cons.mpr ⟨(u.ne2 31 18 rfl), List.forall_mem_cons.mpr ⟨(u.ne2 30 18 rfl), List.forall_mem_cons.mpr ⟨(u.ne2 29 18 rfl), List.forall_mem_cons.mpr ⟨(u.ne2 28 18 rfl), List.forall_mem_cons.mpr ⟨(u.ne1 9 18 rfl), List.forall_mem_cons.mpr ⟨(u.ne1 8 18 rfl), List.forall_mem_cons.mpr ⟨(u.ne1 7 18 rfl), List.forall_mem_cons.mpr ⟨(u.ne1 6 18 rfl), List.forall_mem_cons.mpr ⟨(u.ne1 5 18 rfl), List.forall_mem_cons.mpr ⟨(u.ne1 4 18 rfl), List.forall_mem_cons.mpr ⟨(u.ne2 21 18 rfl), List.forall_mem_cons.mpr ⟨(u.ne2 20 18 rfl), List.forall_mem_cons.mpr ⟨(u.ne2 19 18 rfl), List.forall_mem_cons.mpr ⟨(u.ne1 17 18 rfl), List.forall_mem_cons.mpr ⟨(u.ne1 15 18 rfl), List.forall_mem_cons.mpr ⟨(u.ne1 14 18 rfl), List.forall_mem_cons.mpr ⟨(u.ne1 13 18 rfl), List.forall_mem_cons.mpr ⟨(u.ne1 12 18 rfl), List.forall_mem_cons.mpr ⟨(u.ne1 10 18 rfl), List.forall_mem_cons.mpr ⟨(u.ne1 3 18 rfl), List.forall_mem_cons.mpr ⟨(u.ne1 1 18 rfl), List.forall_mem_cons.mpr ⟨(u.ne1 0 18 rfl), List.forall_mem_nil _⟩⟩⟩⟩⟩⟩⟩⟩⟩⟩⟩⟩⟩⟩⟩⟩⟩⟩⟩⟩⟩⟩) (List.forall_mem_cons.mpr ⟨(u.ne2 31 22 rfl), List.forall_mem_cons.mpr ⟨(u.ne2 30 22 rfl), List.forall_mem_cons.mpr ⟨(u.ne2 29 22 rfl), List.forall_mem_cons.mpr ⟨(u.ne2 28 22 rfl), List.forall_mem_cons.mpr ⟨(u.ne1 9 22 rfl), List.forall_mem_cons.mpr ⟨(u.ne1 8 22 rfl), List.forall_mem_cons.mpr ⟨(u.ne1 7 22 rfl), List.forall_mem_cons.mpr ⟨(u.ne1 6 22 rfl), List.forall_mem_cons.mpr ⟨(u.ne1 5 22 rfl), List.forall_mem_cons.mpr ⟨(u.ne1 4 22 rfl), List.forall_mem_cons.mpr ⟨(u.ne1 21 22 rfl), List.forall_mem_cons.mpr ⟨(u.ne1 20 22 rfl), List.forall_mem_cons.mpr ⟨(u.ne1 19 22 rfl), List.forall_mem_cons.mpr ⟨(u.ne1 17 22 rfl), List.forall_mem_cons.mpr ⟨(u.ne1 15 22 rfl), List.forall_mem_cons.mpr ⟨(u.ne1 14 22 rfl), List.forall_mem_cons.mpr ⟨(u.ne1 13 22 rfl), List.forall_mem_cons.mpr ⟨(u.ne1 12 22 rfl), List.forall_mem_cons.mpr ⟨(u.ne1 10 22 rfl), List.forall_mem_cons.mpr ⟨(u.ne1 3 22 rfl), List.forall_mem_cons.mpr ⟨(u.ne1 1 22 rfl), List.forall_mem_cons.mpr ⟨(u.ne1 0 22 rfl), List.forall_mem_nil _⟩⟩⟩⟩⟩⟩⟩⟩⟩⟩⟩⟩⟩⟩⟩⟩⟩⟩⟩⟩⟩⟩) (List.forall_mem_cons.mpr ⟨(u.ne2 31 23 rfl), List.forall_mem_cons.mpr ⟨(u.ne2 30 23 rfl), List.forall_mem_cons.mpr ⟨(u.ne2 29 23 rfl), List.forall_mem_cons.mpr ⟨(u.ne2 28 23 rfl), List.forall_mem_cons.mpr ⟨(u.ne1 9 23 rfl), List.forall_mem_cons.mpr ⟨(u.ne1 8 23 rfl), List.forall_mem_cons.mpr ⟨(u.ne1 7 23 rfl), List.forall_mem_cons.mpr ⟨(u.ne1 6 23 rfl), List.forall_mem_cons.mpr ⟨(u.ne1 5 23 rfl), List.forall_mem_cons.mpr ⟨(u.ne1 4 23 rfl), List.forall_mem_cons.mpr ⟨(u.ne1 21 23 rfl), List.forall_mem_cons.mpr ⟨(u.ne1 20 23 rfl), List.forall_mem_cons.mpr ⟨(u.ne1 19 23 rfl), List.forall_mem_cons.mpr ⟨(u.ne1 17 23 rfl), List.forall_mem_cons.mpr ⟨(u.ne1 15 23 rfl), List.forall_mem_cons.mpr ⟨(u.ne1 14 23 rfl), List.forall_mem_cons.mpr ⟨(u.ne1 13 23 rfl), List.forall_mem_cons.mpr ⟨(u.ne1 12 23 rfl), List.forall_mem_cons.mpr ⟨(u.ne1 10 23 rfl), List.forall_mem_cons.mpr ⟨(u.ne1 3 23 rfl), List.forall_mem_cons.mpr ⟨(u.ne1 1 23 rfl), List.forall_mem_cons.mpr ⟨(u.ne1 0 23 rfl), List.forall_mem_nil _⟩⟩⟩⟩⟩⟩⟩⟩⟩⟩⟩⟩⟩⟩⟩⟩⟩⟩⟩⟩⟩⟩) (List.forall_mem_cons.mpr ⟨(u.ne2 31 24 rfl), List.forall_mem_cons.mpr ⟨(u.ne2 30 24 rfl), List.forall_mem_cons.mpr ⟨(u.ne2 29 24 rfl), List.forall_mem_cons.mpr ⟨(u.ne2 28 24 rfl), List.forall_mem_cons.mpr ⟨(u.ne1 9 24 rfl), List.forall_mem_cons.mpr ⟨(u.ne1 8 24 rfl), List.forall_mem_cons.mpr ⟨(u.ne1 7 24 rfl), List.forall_mem_cons.mpr ⟨(u.ne1 6 24 rfl), List.forall_mem_cons.mpr ⟨(u.ne1 5 24 rfl), List.forall_mem_cons.mpr ⟨(u.ne1 4 24 rfl), List.forall_mem_cons.mpr ⟨(u.ne1 21 24 rfl), List.forall_mem_cons.mpr ⟨(u.ne1 20 24 rfl), List.forall_mem_cons.mpr ⟨(u.ne1 19 24 rfl), List.forall_mem_cons.mpr ⟨(u.ne1 17 24 rfl), List.forall_mem_cons.mpr ⟨(u.ne1 15 24 rfl), List.forall_mem_cons.mpr ⟨(u.ne1 14 24 rfl), List.forall_mem_cons.mpr ⟨(u.ne1 13 24 rfl), List.forall_mem_cons.mpr ⟨(u.ne1 12 24 rfl), List.forall_mem_cons.mpr ⟨(u.ne1 10 24 rfl), List.forall_mem_cons.mpr ⟨(u.ne1 3 24 rfl), List.forall_mem_cons.mpr ⟨(u.ne1 1 24 rfl), List.forall_mem_cons.mpr ⟨(u.ne1 0 24 rfl), List.forall_mem_nil _⟩⟩⟩⟩⟩⟩⟩⟩⟩⟩⟩⟩⟩⟩⟩⟩⟩⟩⟩⟩⟩⟩) (List.forall_mem_cons.mpr ⟨(u.ne2 31 25 rfl), List.forall_mem_cons.mpr ⟨(u.ne2 30 25 rfl), List.forall_mem_cons.mpr ⟨(u.ne2 29 25 rfl), List.forall_mem_cons.mpr ⟨(u.ne2 28 25 rfl), List.forall_mem_cons.mpr ⟨(u.ne1 9 25 rfl), List.forall_mem_cons.mpr ⟨(u.ne1 8 25 rfl), List.forall_mem_cons.mpr ⟨(u.ne1 7 25 rfl), List.forall_mem_cons.mpr ⟨(u.ne1 6 25 rfl), List.forall_mem_cons.mpr ⟨(u.ne1 5 25 rfl), List.forall_mem_cons.mpr ⟨(u.ne1 4 25 rfl), List.forall_mem_cons.mpr ⟨(u.ne1 21 25 rfl), List.forall_mem_cons.mpr ⟨(u.ne1 20 25 rfl), List.forall_mem_cons.mpr ⟨(u.ne1 19 25 rfl), List.forall_mem_cons.mpr ⟨(u.ne1 17 25 rfl), List.forall_mem_cons.mpr ⟨(u.ne1 15 25 rfl), List.forall_mem_cons.mpr ⟨(u.ne1 14 25 rfl), List.forall_mem_cons.mpr ⟨(u.ne1 13 25 rfl), List.forall_mem_cons.mpr ⟨(u.ne1 12 25 rfl), List.forall_mem_cons.mpr ⟨(u.ne1 10 25 rfl), List.forall_mem_cons.mpr ⟨(u.ne1 3 25 rfl), List.forall_mem_cons.mpr ⟨(u.ne1 1 25 rfl), List.forall_mem_cons.mpr ⟨(u.ne1 0 25 rfl), List.forall_mem_nil _⟩⟩⟩⟩⟩⟩⟩⟩⟩⟩⟩⟩⟩⟩⟩⟩⟩⟩⟩⟩⟩⟩) (List.forall_mem_cons.mpr ⟨(u.ne2 31 26 rfl), List.forall_mem_cons.mpr ⟨(u.ne2 30 26 rfl), List.forall_mem_cons.mpr ⟨(u.ne2 29 26 rfl), List.forall_mem_cons.mpr ⟨(u.ne2 28 26 rfl), List.forall_mem_cons.mpr ⟨(u.ne1 9 26 rfl), List.forall_mem_cons.mpr ⟨(u.ne1 8 26 rfl), List.forall_mem_cons.mpr ⟨(u.ne1 7 26 rfl), List.forall_mem_cons.mpr ⟨(u.ne1 6 26 rfl), List.forall_mem_cons.mpr ⟨(u.ne1 5 26 rfl), List.forall_mem_cons.mpr ⟨(u.ne1 4 26 rfl), List.forall_mem_cons.mpr ⟨(u.ne1 21 26 rfl), List.forall_mem_cons.mpr ⟨(u.ne1 20 26 rfl), List.forall_mem_cons.mpr ⟨(u.ne1 19 26 rfl), List.forall_mem_cons.mpr ⟨(u.ne1 17 26 rfl), List.forall_mem_cons.mpr ⟨(u.ne1 15 26 rfl), List.forall_mem_cons.mpr ⟨(u.ne1 14 26 rfl), List.forall_mem_cons.mpr ⟨(u.ne1 13 26 rfl), List.forall_mem_cons.mpr ⟨(u.ne1 12 26 rfl), List.forall_mem_cons.mpr ⟨(u.ne1 10 26 rfl), List.forall_mem_cons.mpr ⟨(u.ne1 3 26 rfl), List.forall_mem_cons.mpr ⟨(u.ne1 1 26 rfl), List.forall_mem_cons.mpr ⟨(u.ne1 0 26 rfl), List.forall_mem_nil _⟩⟩⟩⟩⟩⟩⟩⟩⟩⟩⟩⟩⟩⟩⟩⟩⟩⟩⟩⟩⟩⟩) (List.forall_mem_cons.mpr ⟨(u.ne2 31 27 rfl), List.forall_mem_cons.mpr ⟨(u.ne2 30 27 rfl), List.forall_mem_cons.mpr ⟨(u.ne2 29 27 rfl), List.forall_mem_cons.mpr ⟨(u.ne2 28 27 rfl), List.forall_mem_cons.mpr ⟨(u.ne1 9 27 rfl), List.forall_mem_cons.mpr ⟨(u.ne1 8 27 rfl), List.forall_mem_cons.mpr ⟨(u.ne1 7 27 rfl), List.forall_mem_cons.mpr ⟨(u.ne1 6 27 rfl), List.forall_mem_cons.mpr ⟨(u.ne1 5 27 rfl), List.forall_mem_cons.mpr ⟨(u.ne1 4 27 rfl), List.forall_mem_cons.mpr ⟨(u.ne1 21 27 rfl), List.forall_mem_cons.mpr ⟨(u.ne1 20 27 rfl), List.forall_mem_cons.mpr ⟨(u.ne1 19 27 rfl), List.forall_mem_cons.mpr ⟨(u.ne1 17 27 rfl), List.forall_mem_cons.mpr ⟨(u.ne1 15 27 rfl), List.forall_mem_cons.mpr ⟨(u.ne1 14 27 rfl), List.forall_mem_cons.mpr ⟨(u.ne1 13 27 rfl), List.forall_mem_cons.mpr ⟨(u.ne1 12 27 rfl), List.forall_mem_cons.mpr ⟨(u.ne1 10 27 rfl), List.forall_mem_cons.mpr ⟨(u.ne1 3 27 rfl), List.forall_mem_cons.mpr ⟨(u.ne1 1 27 rfl), List.forall_mem_cons.mpr ⟨(u.ne1 0 27 rfl), List.forall_mem_nil _⟩⟩⟩⟩⟩⟩⟩⟩⟩⟩⟩⟩⟩⟩⟩⟩⟩⟩⟩⟩⟩⟩) lost (.head _) (.tail _ (.head _)) hcR1 hcR2 (.tail _ (.tail _ (.head _))) (.tail _ (.tail _ (.tail _ (.head _)))) hcA1 hcA2 (.tail _ (.tail _ (.tail _ (.tail _ (.tail _ (.tail _ (.tail _ (.head _)))))))) d2 (by decide) (.tail _ (.tail _ (.tail _ (.tail _ (.tail _ (.tail _ (.head _))))))) d3 (.tail _ (.tail _ (.tail _ (.tail _ (.head _))))) d5 (.tail _ (.tail _ (.tail _ (.tail _ (.tail _ (.tail _ (.tail _ (.tail _ (.tail _ (.tail _ (.tail _ (.tail _ (.tail _ (.tail _ (.tail _ (.tail _ (.tail _ (.tail _ (.head _))))))))))))))))))) d6 (.tail _ (.tail _ (.tail _ (.tail _ (.tail _ (.tail _ (.tail _ (.tail _ (.head _))))))))) d1 (.tail _ (.tail _ (.tail _ (.tail _ (.tail _ (.head _)))))) d4 (.tail _ (.tail _ (.tail _ (.tail _ (.tail _ (.tail _ (.tail _ (.tail _ (.tail _ (.tail _ (.tail _ (.tail _ (.tail _ (.head _)))))))))))))) (.tail _ (.tail _ (.tail _ (.tail _ (.tail _ (.tail _ (.tail _ (.tail _ (.tail _ (.tail _ (.tail _ (.tail _ (.tail _ (.tail _ (.tail _ (.tail _ (.tail _ (.head _)))))))))))))))))) (.tail _ (.tail _ (.tail _ (.tail _ (.tail _ (.tail _ (.tail _ (.tail _ (.tail _ (.tail _ (.tail _ (.tail _ (.tail _ (.tail _ (.tail _ (.head _)))))))))))))))) (.tail _ (.tail _ (.tail _ (.tail _ (.tail _ (.tail _ (.tail _ (.tail _ (.tail _ (.tail _ (.tail _ (.tail _ (.tail _ (.tail _ (.tail _ (.tail _ (.head _))))))))))))))))) (.tail _ (.tail _ (.tail _ (.tail _ (.tail _ (.tail _ (.tail _ (.tail _ (.tail _ (.tail _ (.tail _ (.tail _ (.tail _ (.tail _ (.head _))))))))))))))) (by kernel_rfl) (by kernel_rfl) (by kernel_rfl) (.tail _ (.tail _ (.tail _ (.tail _ (.tail _ (.tail _ (.tail _ (.tail _ (.tail _ (.tail _ (.tail _ (.tail _ (.tail _ (.tail _ (.tail _ (.tail _ (.tail _ (.tail _ (.tail _ (.head _)))))))))))))))))))) (.tail _ (.tail _ (.tail _ (.tail _ (.tail _ (.tail _ (.tail _ (.tail _ (.tail _ (.tail _ (.tail _ (.tail _ (.tail _ (.tail _ (.tail _ (.tail _ (.tail _ (.tail _ (.tail _ (.tail _ (.head _))))))))))))))))))))) (.tail _ (.tail _ (.tail _ (.tail _ (.tail _ (.tail _ (.tail _ (.tail _ (.tail _ (.tail _ (.tail _ (.tail _ (.tail _ (.tail _ (.tail _ (.tail _ (.tail _ (.tail _ (.tail _ (.tail _ (.tail _ (.head _)))))))))))))))))))))) (.tail _ (.tail _ (.tail _ (.tail _ (.tail _ (.tail _ (.tail _ (.tail _ (.tail _ (.head _)))))))))) hS hn1 hn2 hret X
  · exact law_sec3 (k := 3) (rest := [(readF, fnMade (Str.ofString "read") qR (paramsOf readSt) (bodyOf readSt) (scopeOf readSt) [(Str.ofString "state", L + 1 + 1 + 1 + 1 + 1), (Str.ofString "rows", L + 1 + 1 + 1 + 1), (Str.ofString "add", L + 1)] docR pmR codR ctvR), (codR, ocR), (addF, fnMade (Str.ofString "add") qA (paramsOf addSt) (bodyOf addSt) (scopeOf addSt) [(Str.ofString "transaction", L + 1 + 1 + 1 + 1 + 1 + 1), (Str.ofString "state", L + 1 + 1 + 1 + 1 + 1), (Str.ofString "read", L + 1 + 1 + 1), (Str.ofString "kind", L + 1 + 1)] docA pmA codA ctvA), (codA, ocA), (L + 1 + 1 + 1 + 1 + 1, o5), (L + 1 + 1 + 1 + 1, o4), (L + 1 + 1 + 1, o3), (L + 1 + 1, o2), (L + 1, o1), (838, tabObj tb), (ex, oex), (vo, W.listOf #[] 0), (ad, oad), (tr, instObj 546 dtr), (ly, W.listOf #[] 0), (sy, instObj 167 dsy), (dsy, dictOf [ent w "data" t16 (.ref ly)] 1), (mg, instObj 818 dmg), (L + 1 + 1 + 1 + 1 + 1 + 1, o6), (658, tabObj #[]), (471, tabObj #[]), (355, tabObj #[])]) hE B F T rfl C1 C2 C3 C4 (cb_drop N (List.forall_mem_cons.mpr ⟨.tail _ (.tail _ (.tail _ (.tail _ (.tail _ (.tail _ (.tail _ (.tail _ (.tail _ (.tail _ (.tail _ (.tail _ (.tail _ (.head _))))))))))))), List.forall_mem_cons.mpr ⟨.tail _ (.tail _ (.tail _ (.tail _ (.tail _ (.head _))))), List.forall_mem_cons.mpr ⟨.tail _ (.tail _ (.tail _ (.tail _ (.head _)))), List.forall_mem_cons.mpr ⟨.tail _ (.tail _ (.tail _ (.tail _ (.tail _ (.tail _ (.tail _ (.tail _ (.tail _ (.tail _ (.tail _ (.tail _ (.tail _ (.tail _ (.tail _ (.tail _ (.tail _ (.tail _ (.tail _ (.tail _ (.tail _ (.tail _ (.tail _ (.tail _ (.tail _ (.tail _ (.tail _ (.tail _ (.tail _ (.tail _ (.head _)))))))))))))))))))))))))))))), List.forall_mem_cons.mpr ⟨.tail _ (.tail _ (.tail _ (.tail _ (.tail _ (.tail _ (.tail _ (.tail _ (.tail _ (.tail _ (.tail _ (.tail _ (.tail _ (.tail _ (.tail _ (.tail _ (.tail _ (.tail _ (.tail _ (.tail _ (.tail _ (.tail _ (.tail _ (.tail _ (.tail _ (.tail _ (.tail _ (.head _))))))))))))))))))))))))))), List.forall_mem_cons.mpr ⟨.tail _ (.tail _ (.tail _ (.tail _ (.tail _ (.tail _ (.tail _ (.tail _ (.tail _ (.tail _ (.tail _ (.tail _ (.tail _ (.tail _ (.tail _ (.tail _ (.tail _ (.tail _ (.tail _ (.tail _ (.tail _ (.tail _ (.head _)))))))))))))))))))))), List.forall_mem_cons.mpr ⟨.tail _ (.tail _ (.tail _ (.tail _ (.tail _ (.tail _ (.tail _ (.tail _ (.tail _ (.tail _ (.tail _ (.tail _ (.tail _ (.tail _ (.tail _ (.tail _ (.tail _ (.tail _ (.tail _ (.tail _ (.head _)))))))))))))))))))), List.forall_mem_cons.mpr ⟨.tail _ (.tail _ (.tail _ (.tail _ (.tail _ (.tail _ (.tail _ (.tail _ (.tail _ (.tail _ (.tail _ (.tail _ (.tail _ (.tail _ (.tail _ (.tail _ (.head _)))))))))))))))), List.forall_mem_cons.mpr ⟨.tail _ (.tail _ (.tail _ (.tail _ (.tail _ (.tail _ (.tail _ (.tail _ (.tail _ (.tail _ (.tail _ (.tail _ (.tail _ (.tail _ (.tail _ (.head _))))))))))))))), List.forall_mem_cons.mpr ⟨.tail _ (.tail _ (.tail _ (.tail _ (.tail _ (.tail _ (.tail _ (.tail _ (.tail _ (.tail _ (.tail _ (.tail _ (.tail _ (.tail _ (.head _)))))))))))))), List.forall_mem_cons.mpr ⟨.head _, List.forall_mem_cons.mpr ⟨.tail _ (.head _), List.forall_mem_cons.mpr ⟨.tail _ (.tail _ (.head _)), List.forall_mem_cons.mpr ⟨.tail _ (.tail _ (.tail _ (.head _))), List.forall_mem_cons.mpr ⟨.tail _ (.tail _ (.tail _ (.tail _ (.tail _ (.tail _ (.head _)))))), List.forall_mem_cons.mpr ⟨.tail _ (.tail _ (.tail _ (.tail _ (.tail _ (.tail _ (.tail _ (.head _))))))), List.forall_mem_cons.mpr ⟨.tail _ (.tail _ (.tail _ (.tail _ (.tail _ (.tail _ (.tail _ (.tail _ (.head _)))))))), List.forall_mem_cons.mpr ⟨.tail _ (.tail _ (.tail _ (.tail _ (.tail _ (.tail _ (.tail _ (.tail _ (.tail _ (.head _))))))))), List.forall_mem_cons.mpr ⟨.tail _ (.tail _ (.tail _ (.tail _ (.tail _ (.tail _ (.tail _ (.tail _ (.tail _ (.tail _ (.head _)))))))))), List.forall_mem_cons.mpr ⟨.tail _ (.tail _ (.tail _ (.tail _ (.tail _ (.tail _ (.tail _ (.tail _ (.tail _ (.tail _ (.tail _ (.head _))))))))))), List.forall_mem_cons.mpr ⟨.tail _ (.tail _ (.tail _ (.tail _ (.tail _ (.tail _ (.tail _ (.tail _ (.tail _ (.tail _ (.tail _ (.tail _ (.tail _ (.tail _ (.tail _ (.tail _ (.tail _ (.head _))))))))))))))))), List.forall_mem_cons.mpr ⟨.tail _ (.tail _ (.tail _ (.tail _ (.tail _ (.tail _ (.tail _ (.tail _ (.tail _ (.tail _ (.tail _ (.tail _ (.tail _ (.tail _ (.tail _ (.tail _ (.tail _ (.tail _ (.head _)))))))))))))))))), List.forall_mem_cons.mpr ⟨.tail _ (.tail _ (.tail _ (.tail _ (.tail _ (.tail _ (.tail _ (.tail _ (.tail _ (.tail _ (.tail _ (.tail _ (.tail _ (.tail _ (.tail _ (.tail _ (.tail _ (.tail _ (.tail _ (.head _))))))))))))))))))), List.forall_mem_cons.mpr ⟨.tail _ (.tail _ (.tail _ (.tail _ (.tail _ (.tail _ (.tail _ (.tail _ (.tail _ (.tail _ (.tail _ (.tail _ (.tail _ (.tail _ (.tail _ (.tail _ (.tail _ (.tail _ (.tail _ (.tail _ (.tail _ (.head _))))))))))))))))))))), List.forall_mem_cons.mpr ⟨.tail _ (.tail _ (.tail _ (.tail _ (.tail _ (.tail _ (.tail _ (.tail _ (.tail _ (.tail _ (.tail _ (.tail _ (.tail _ (.tail _ (.tail _ (.tail _ (.tail _ (.tail _ (.tail _ (.tail _ (.tail _ (.tail _ (.tail _ (.head _))))))))))))))))))))))), List.forall_mem_cons.mpr ⟨.tail _ (.tail _ (.tail _ (.tail _ (.tail _ (.tail _ (.tail _ (.tail _ (.tail _ (.tail _ (.tail _ (.tail _ (.tail _ (.tail _ (.tail _ (.tail _ (.tail _ (.tail _ (.tail _ (.tail _ (.tail _ (.tail _ (.tail _ (.tail _ (.head _)))))))))))))))))))))))), List.forall_mem_cons.mpr ⟨.tail _ (.tail _ (.tail _ (.tail _ (.tail _ (.tail _ (.tail _ (.tail _ (.tail _ (.tail _ (.tail _ (.tail _ (.tail _ (.tail _ (.tail _ (.tail _ (.tail _ (.tail _ (.tail _ (.tail _ (.tail _ (.tail _ (.tail _ (.tail _ (.tail _ (.head _))))))))))))))))))))))))), List.forall_mem_cons.mpr ⟨.tail _ (.tail _ (.tail _ (.tail _ (.tail _ (.tail _ (.tail _ (.tail _ (.tail _ (.tail _ (.tail _ (.tail _ (.tail _ (.tail _ (.tail _ (.tail _ (.tail _ (.tail _ (.tail _ (.tail _ (.tail _ (.tail _ (.tail _ (.tail _ (.tail _ (.tail _ (.head _)))))))))))))))))))))))))), List.forall_mem_cons.mpr ⟨.tail _ (.tail _ (.tail _ (.tail _ (.tail _ (.tail _ (.tail _ (.tail _ (.tail _ (.tail _ (.tail _ (.tail _ (.tail _ (.tail _ (.tail _ (.tail _ (.tail _ (.tail _ (.tail _ (.tail _ (.tail _ (.tail _ (.tail _ (.tail _ (.tail _ (.tail _ (.tail _ (.tail _ (.head _)))))))))))))))))))))))))))), List.forall_mem_cons.mpr ⟨.tail _ (.tail _ (.tail _ (.tail _ (.tail _ (.tail _ (.tail _ (.tail _ (.tail _ (.tail _ (.tail _ (.tail _ (.tail _ (.tail _ (.tail _ (.tail _ (.tail _ (.tail _ (.tail _ (.tail _ (.tail _ (.tail _ (.tail _ (.tail _ (.tail _ (.tail _ (.tail _ (.tail _ (.tail _ (.head _))))))))))))))))))))))))))))), List.forall_mem_cons.mpr ⟨.tail _ (.tail _ (.tail _ (.tail _ (.tail _ (.tail _ (.tail _ (.tail _ (.tail _ (.tail _ (.tail _ (.tail _ (.tail _ (.tail _ (.tail _ (.tail _ (.tail _ (.tail _ (.tail _ (.tail _ (.tail _ (.tail _ (.tail _ (.tail _ (.tail _ (.tail _ (.tail _ (.tail _ (.tail _ (.tail _ (.tail _ (.head _))))))))))))))))))))))))))))))), List.forall_mem_cons.mpr ⟨.tail _ (.tail _ (.tail _ (.tail _ (.tail _ (.tail _ (.tail _ (.tail _ (.tail _ (.tail _ (.tail _ (.tail _ (.tail _ (.tail _ (.tail _ (.tail _ (.tail _ (.tail _ (.tail _ (.tail _ (.tail _ (.tail _ (.tail _ (.tail _ (.tail _ (.tail _ (.tail _ (.tail _ (.tail _ (.tail _ (.tail _ (.tail _ (.head _)))))))))))))))))))))))))))))))), List.forall_mem_nil _⟩⟩⟩⟩⟩⟩⟩⟩⟩⟩⟩⟩⟩⟩⟩⟩⟩⟩⟩⟩⟩⟩⟩⟩⟩⟩⟩⟩⟩⟩⟩⟩)) (u.ltb 2 11 rfl) (u.ltb 11 16 rfl) (u.ltb 16 18 rfl) (u.ltb 18 22 rfl) (u.ltb 22 23 rfl) (u.ltb 23 24 rfl) (u.ltb 24 25 rfl) (u.ltb 25 26 rfl) (u.ltb 26 27 rfl) (List.forall_mem_cons.mpr ⟨(u.ne2 31 2 rfl), List.forall_mem_cons.mpr ⟨(u.ne2 30 2 rfl), List.forall_mem_cons.mpr ⟨(u.ne2 29 2 rfl), List.forall_mem_cons.mpr ⟨(u.ne2 28 2 rfl), List.forall_mem_cons.mpr ⟨(u.ne2 9 2 rfl), List.forall_mem_cons.mpr ⟨(u.ne2 8 2 rfl), List.forall_mem_cons.mpr ⟨(u.ne2 7 2 rfl), List.forall_mem_cons.mpr ⟨(u.ne2 6 2 rfl), List.forall_mem_cons.mpr ⟨(u.ne2 5 2 rfl), List.forall_mem_cons.mpr ⟨(u.ne2 4 2 rfl), List.forall_mem_cons.mpr ⟨(u.ne2 21 2 rfl), List.forall_mem_cons.mpr ⟨(u.ne2 20 2 rfl), List.forall_mem_cons.mpr ⟨(u.ne2 19 2 rfl), List.forall_mem_cons.mpr ⟨(u.ne2 17 2 rfl), List.forall_mem_cons.mpr ⟨(u.ne2 15 2 rfl), List.forall_mem_cons.mpr ⟨(u.ne2 14 2 rfl), List.forall_mem_cons.mpr ⟨(u.ne2 13 2 rfl), List.forall_mem_cons.mpr ⟨(u.ne2 12 2 rfl), List.forall_mem_cons.mpr ⟨(u.ne2 10 2 rfl), List.forall_mem_cons.mpr ⟨(u.ne2 3 2 rfl), List.forall_mem_cons.mpr ⟨(u.ne1 1 2 rfl), List.forall_mem_cons.mpr ⟨(u.ne1 0 2 rfl), List.forall_mem_nil _⟩⟩⟩⟩⟩⟩⟩⟩⟩⟩⟩⟩⟩⟩⟩⟩⟩⟩⟩⟩⟩⟩) (List.forall_mem_cons.mpr ⟨(u.ne2 31 11 rfl), List.forall_mem_cons.mpr ⟨(u.ne2 30 11 rfl), List.forall_mem_cons.mpr ⟨(u.ne2 29 11 rfl), List.forall_mem_cons.mpr ⟨(u.ne2 28 11 rfl), List.forall_mem_cons.mpr ⟨(u.ne1 9 11 rfl), List.forall_mem_cons.mpr ⟨(u.ne1 8 11 rfl), List.forall_mem_cons.mpr ⟨(u.ne1 7 11 rfl), List.forall_mem_cons.mpr ⟨(u.ne1 6 11 rfl), List.forall_mem_cons.mpr ⟨(u.ne1 5 11 rfl), List.forall_mem_cons.mpr ⟨(u.ne1 4 11 rfl), List.forall_mem_cons.mpr ⟨(u.ne2 21 11 rfl), List.forall_mem_cons.mpr ⟨(u.ne2 20 11 rfl), List.forall_mem_cons.mpr ⟨(u.ne2 19 11 rfl), List.forall_mem_cons.mpr ⟨(u.ne2 17 11 rfl), List.forall_mem_cons.mpr ⟨(u.ne2 15 11 rfl), List.forall_mem_cons.mpr ⟨(u.ne2 14 11 rfl), List.forall_mem_cons.mpr ⟨(u.ne2 13 11 rfl), List.forall_mem_cons.mpr ⟨(u.ne2 12 11 rfl), List.forall_mem_cons.mpr ⟨(u.ne1 10 11 rfl), List.forall_mem_cons.mpr ⟨(u.ne1 3 11 rfl), List.forall_mem_cons.mpr ⟨(u.ne1 1 11 rfl), List.forall_mem_cons.mpr ⟨(u.ne1 0 11 rfl), List.forall_mem_nil _⟩⟩⟩⟩⟩⟩⟩⟩⟩⟩⟩⟩⟩⟩⟩⟩⟩⟩⟩⟩⟩⟩) (List.forall_mem_cons.mpr ⟨(u.ne2 31 16 rfl), List.forall_mem_cons.mpr ⟨(u.ne2 30 16 rfl), List.forall_mem_cons.mpr ⟨(u.ne2 29 16 rfl), List.forall_mem_cons.mpr ⟨(u.ne2 28 16 rfl), List.forall_mem_cons.mpr ⟨(u.ne1 9 16 rfl), List.forall_mem_cons.mpr ⟨(u.ne1 8 16 rfl), List.forall_mem_cons.mpr ⟨(u.ne1 7 16 rfl), List.forall_mem_cons.mpr ⟨(u.ne1 6 16 rfl), List.forall_mem_cons.mpr ⟨(u.ne1 5 16 rfl), List.forall_mem_cons.mpr ⟨(u.ne1 4 16 rfl), List.forall_mem_cons.mpr ⟨(u.ne2 21 16 rfl), List.forall_mem_cons.mpr ⟨(u.ne2 20 16 rfl), List.forall_mem_cons.mpr ⟨(u.ne2 19 16 rfl), List.forall_mem_cons.mpr ⟨(u.ne2 17 16 rfl), List.forall_mem_cons.mpr ⟨(u.ne1 15 16 rfl), List.forall_mem_cons.mpr ⟨(u.ne1 14 16 rfl), List.forall_mem_cons.mpr ⟨(u.ne1 13 16 rfl), List.forall_mem_cons.mpr ⟨(u.ne1 12 16 rfl), List.forall_mem_cons.mpr ⟨(u.ne1 10 16 rfl), List.forall_mem_cons.mpr ⟨(u.ne1 3 16 rfl), List.forall_mem_cons.mpr ⟨(u.ne1 1 16 rfl), List.forall_mem_cons.mpr ⟨(u.ne1 0 16 rfl), List.forall_mem_nil _⟩⟩⟩⟩⟩⟩⟩⟩⟩⟩⟩⟩⟩⟩⟩⟩⟩⟩⟩⟩⟩⟩) (List.forall_mem_cons.mpr ⟨(u.ne2 31 18 rfl), List.forall_mem_cons.mpr ⟨(u.ne2 30 18 rfl), List.forall_mem_cons.mpr ⟨(u.ne2 29 18 rfl), List.forall_mem_cons.mpr ⟨(u.ne2 28 18 rfl), List.forall_mem_cons.mpr ⟨(u.ne1 9 18 rfl), List.forall_mem_cons.mpr ⟨(u.ne1 8 18 rfl), List.forall_mem_cons.mpr ⟨(u.ne1 7 18 rfl), List.forall_mem_cons.mpr ⟨(u.ne1 6 18 rfl), List.forall_mem_cons.mpr ⟨(u.ne1 5 18 rfl), List.forall_mem_cons.mpr ⟨(u.ne1 4 18 rfl), List.forall_mem_cons.mpr ⟨(u.ne2 21 18 rfl), List.forall_mem_cons.mpr ⟨(u.ne2 20 18 rfl), List.forall_mem_cons.mpr ⟨(u.ne2 19 18 rfl), List.forall_mem_cons.mpr ⟨(u.ne1 17 18 rfl), List.forall_mem_cons.mpr ⟨(u.ne1 15 18 rfl), List.forall_mem_cons.mpr ⟨(u.ne1 14 18 rfl), List.forall_mem_cons.mpr ⟨(u.ne1 13 18 rfl), List.forall_mem_cons.mpr ⟨(u.ne1 12 18 rfl), List.forall_mem_cons.mpr ⟨(u.ne1 10 18 rfl), List.forall_mem_cons.mpr ⟨(u.ne1 3 18 rfl), List.forall_mem_cons.mpr ⟨(u.ne1 1 18 rfl), List.forall_mem_cons.mpr ⟨(u.ne1 0 18 rfl), List.forall_mem_nil _⟩⟩⟩⟩⟩⟩⟩⟩⟩⟩⟩⟩⟩⟩⟩⟩⟩⟩⟩⟩⟩⟩) (List.forall_mem_cons.mpr ⟨(u.ne2 31 22 rfl), List.forall_mem_cons.mpr ⟨(u.ne2 30 22 rfl), List.forall_mem_cons.mpr ⟨(u.ne2 29 22 rfl), List.forall_mem_cons.mpr ⟨(u.ne2 28 22 rfl), List.forall_mem_cons.mpr ⟨(u.ne1 9 22 rfl), List.forall_mem_cons.mpr ⟨(u.ne1 8 22 rfl), List.forall_mem_cons.mpr ⟨(u.ne1 7 22 rfl), List.forall_mem_cons.mpr ⟨(u.ne1 6 22 rfl), List.forall_mem_cons.mpr ⟨(u.ne1 5 22 rfl), List.forall_mem_cons.mpr ⟨(u.ne1 4 22 rfl), List.forall_mem_cons.mpr ⟨(u.ne1 21 22 rfl), List.forall_mem_cons.mpr ⟨(u.ne1 20 22 rfl), List.forall_mem_cons.mpr ⟨(u.ne1 19 22 rfl), List.forall_mem_cons.mpr ⟨(u.ne1 17 22 rfl), List.forall_mem_cons.mpr ⟨(u.ne1 15 22 rfl), List.forall_mem_cons.mpr ⟨(u.ne1 14 22 rfl), List.forall_mem_cons.mpr ⟨(u.ne1 13 22 rfl), List.forall_mem_cons.mpr ⟨(u.ne1 12 22 rfl), List.forall_mem_cons.mpr ⟨(u.ne1 10 22 rfl), List.forall_mem_cons.mpr ⟨(u.ne1 3 22 rfl), List.forall_mem_cons.mpr ⟨(u.ne1 1 22 rfl), List.forall_mem_cons.mpr ⟨(u.ne1 0 22 rfl), List.forall_mem_nil _⟩⟩⟩⟩⟩⟩⟩⟩⟩⟩⟩⟩⟩⟩⟩⟩⟩⟩⟩⟩⟩⟩) (List.forall_mem_cons.mpr ⟨(u.ne2 31 23 rfl), List.forall_mem_cons.mpr ⟨(u.ne2 30 23 rfl), List.forall_mem_cons.mpr ⟨(u.ne2 29 23 rfl), List.forall_mem_cons.mpr ⟨(u.ne2 28 23 rfl), List.forall_mem_cons.mpr ⟨(u.ne1 9 23 rfl), List.forall_mem_cons.mpr ⟨(u.ne1 8 23 rfl), List.forall_mem_cons.mpr ⟨(u.ne1 7 23 rfl), List.forall_mem_cons.mpr ⟨(u.ne1 6 23 rfl), List.forall_mem_cons.mpr ⟨(u.ne1 5 23 rfl), List.forall_mem_cons.mpr ⟨(u.ne1 4 23 rfl), List.forall_mem_cons.mpr ⟨(u.ne1 21 23 rfl), List.forall_mem_cons.mpr ⟨(u.ne1 20 23 rfl), List.forall_mem_cons.mpr ⟨(u.ne1 19 23 rfl), List.forall_mem_cons.mpr ⟨(u.ne1 17 23 rfl), List.forall_mem_cons.mpr ⟨(u.ne1 15 23 rfl), List.forall_mem_cons.mpr ⟨(u.ne1 14 23 rfl), List.forall_mem_cons.mpr ⟨(u.ne1 13 23 rfl), List.forall_mem_cons.mpr ⟨(u.ne1 12 23 rfl), List.forall_mem_cons.mpr ⟨(u.ne1 10 23 rfl), List.forall_mem_cons.mpr ⟨(u.ne1 3 23 rfl), List.forall_mem_cons.mpr ⟨(u.ne1 1 23 rfl), List.forall_mem_cons.mpr ⟨(u.ne1 0 23 rfl), List.forall_mem_nil _⟩⟩⟩⟩⟩⟩⟩⟩⟩⟩⟩⟩⟩⟩⟩⟩⟩⟩⟩⟩⟩⟩) (List.forall_mem_cons.mpr ⟨(u.ne2 31 24 rfl), List.forall_mem_cons.mpr ⟨(u.ne2 30 24 rfl), List.forall_mem_cons.mpr ⟨(u.ne2 29 24 rfl), List.forall_mem_cons.mpr ⟨(u.ne2 28 24 rfl), List.forall_mem_cons.mpr ⟨(u.ne1 9 24 rfl), List.forall_mem_cons.mpr ⟨(u.ne1 8 24 rfl), List.forall_mem_cons.mpr ⟨(u.ne1 7 24 rfl), List.forall_mem_cons.mpr ⟨(u.ne1 6 24 rfl), List.forall_mem_cons.mpr ⟨(u.ne1 5 24 rfl), List.forall_mem_cons.mpr ⟨(u.ne1 4 24 rfl), List.forall_mem_cons.mpr ⟨(u.ne1 21 24 rfl), List.forall_mem_cons.mpr ⟨(u.ne1 20 24 rfl), List.forall_mem_cons.mpr ⟨(u.ne1 19 24 rfl), List.forall_mem_cons.mpr ⟨(u.ne1 17 24 rfl), List.forall_mem_cons.mpr ⟨(u.ne1 15 24 rfl), List.forall_mem_cons.mpr ⟨(u.ne1 14 24 rfl), List.forall_mem_cons.mpr ⟨(u.ne1 13 24 rfl), List.forall_mem_cons.mpr ⟨(u.ne1 12 24 rfl), List.forall_mem_cons.mpr ⟨(u.ne1 10 24 rfl), List.forall_mem_cons.mpr ⟨(u.ne1 3 24 rfl), List.forall_mem_cons.mpr ⟨(u.ne1 1 24 rfl), List.forall_mem_cons.mpr ⟨(u.ne1 0 24 rfl), List.forall_mem_nil _⟩⟩⟩⟩⟩⟩⟩⟩⟩⟩⟩⟩⟩⟩⟩⟩⟩⟩⟩⟩⟩⟩) (List.forall_mem_cons.mpr ⟨(u.ne2 31 25 rfl), List.forall_mem_cons.mpr ⟨(u.ne2 30 25 rfl), List.forall_mem_cons.mpr ⟨(u.ne2 29 25 rfl), List.forall_mem_cons.mpr ⟨(u.ne2 28 25 rfl), List.forall_mem_cons.mpr ⟨(u.ne1 9 25 rfl), List.forall_mem_cons.mpr ⟨(u.ne1 8 25 rfl), List.forall_mem_cons.mpr ⟨(u.ne1 7 25 rfl), List.forall_mem_cons.mpr ⟨(u.ne1 6 25 rfl), List.forall_mem_cons.mpr ⟨(u.ne1 5 25 rfl), List.forall_mem_cons.mpr ⟨(u.ne1 4 25 rfl), List.forall_mem_cons.mpr ⟨(u.ne1 21 25 rfl), List.forall_mem_cons.mpr ⟨(u.ne1 20 25 rfl), List.forall_mem_cons.mpr ⟨(u.ne1 19 25 rfl), List.forall_mem_cons.mpr ⟨(u.ne1 17 25 rfl), List.forall_mem_cons.mpr ⟨(u.ne1 15 25 rfl), List.forall_mem_cons.mpr ⟨(u.ne1 14 25 rfl), List.forall_mem_cons.mpr ⟨(u.ne1 13 25 rfl), List.forall_mem_cons.mpr ⟨(u.ne1 12 25 rfl), List.forall_mem_cons.mpr ⟨(u.ne1 10 25 rfl), List.forall_mem_cons.mpr ⟨(u.ne1 3 25 rfl), List.forall_mem_cons.mpr ⟨(u.ne1 1 25 rfl), List.forall_mem_cons.mpr ⟨(u.ne1 0 25 rfl), List.forall_mem_nil _⟩⟩⟩⟩⟩⟩⟩⟩⟩⟩⟩⟩⟩⟩⟩⟩⟩⟩⟩⟩⟩⟩) (List.forall_mem_cons.mpr ⟨(u.ne2 31 26 rfl), List.forall_mem_cons.mpr ⟨(u.ne2 30 26 rfl), List.forall_mem_cons.mpr ⟨(u.ne2 29 26 rfl), List.forall_mem_cons.mpr ⟨(u.ne2 28 26 rfl), List.forall_mem_cons.mpr ⟨(u.ne1 9 26 rfl), List.forall_mem_cons.mpr ⟨(u.ne1 8 26 rfl), List.forall_mem_cons.mpr ⟨(u.ne1 7 26 rfl), List.forall_mem_cons.mpr ⟨(u.ne1 6 26 rfl), List.forall_mem_cons.mpr ⟨(u.ne1 5 26 rfl), List.forall_mem_cons.mpr ⟨(u.ne1 4 26 rfl), List.forall_mem_cons.mpr ⟨(u.ne1 21 26 rfl), List.forall_mem_cons.mpr ⟨(u.ne1 20 26 rfl), List.forall_mem_cons.mpr ⟨(u.ne1 19 26 rfl), List.forall_mem_cons.mpr ⟨(u.ne1 17 26 rfl), List.forall_mem_cons.mpr ⟨(u.ne1 15 26 rfl), List.forall_mem_cons.mpr ⟨(u.ne1 14 26 rfl), List.forall_mem_cons.mpr ⟨(u.ne1 13 26 rfl), List.forall_mem_cons.mpr ⟨(u.ne1 12 26 rfl), List.forall_mem_cons.mpr ⟨(u.ne1 10 26 rfl), List.forall_mem_cons.mpr ⟨(u.ne1 3 26 rfl), List.forall_mem_cons.mpr ⟨(u.ne1 1 26 rfl), List.forall_mem_cons.mpr ⟨(u.ne1 0 26 rfl), List.forall_mem_nil _⟩⟩⟩⟩⟩⟩⟩⟩⟩⟩⟩⟩⟩⟩⟩⟩⟩⟩⟩⟩⟩⟩) (List.forall_mem_cons.mpr ⟨(u.ne2 31 27 rfl), List.forall_mem_cons.mpr ⟨(u.ne2 30 27 rfl), List.forall_mem_cons.mpr ⟨(u.ne2 29 27 rfl), List.forall_mem_cons.mpr ⟨(u.ne2 28 27 rfl), List.forall_mem_cons.mpr ⟨(u.ne1 9 27 rfl), List.forall_mem_cons.mpr ⟨(u.ne1 8 27 rfl), List.forall_mem_cons.mpr ⟨(u.ne1 7 27 rfl), List.forall_mem_cons.mpr ⟨(u.ne1 6 27 rfl), List.forall_mem_cons.mpr ⟨(u.ne1 5 27 rfl), List.forall_mem_cons.mpr ⟨(u.ne1 4 27 rfl), List.forall_mem_cons.mpr ⟨(u.ne1 21 27 rfl), List.forall_mem_cons.mpr ⟨(u.ne1 20 27 rfl), List.forall_mem_cons.mpr ⟨(u.ne1 19 27 rfl), List.forall_mem_cons.mpr ⟨(u.ne1 17 27 rfl), List.forall_mem_cons.mpr ⟨(u.ne1 15 27 rfl), List.forall_mem_cons.mpr ⟨(u.ne1 14 27 rfl), List.forall_mem_cons.mpr ⟨(u.ne1 13 27 rfl), List.forall_mem_cons.mpr ⟨(u.ne1 12 27 rfl), List.forall_mem_cons.mpr ⟨(u.ne1 10 27 rfl), List.forall_mem_cons.mpr ⟨(u.ne1 3 27 rfl), List.forall_mem_cons.mpr ⟨(u.ne1 1 27 rfl), List.forall_mem_cons.mpr ⟨(u.ne1 0 27 rfl), List.forall_mem_nil _⟩⟩⟩⟩⟩⟩⟩⟩⟩⟩⟩⟩⟩⟩⟩⟩⟩⟩⟩⟩⟩⟩) lost (.head _) (.tail _ (.head _)) hcR1 hcR2 (.tail _ (.tail _ (.head _))) (.tail _ (.tail _ (.tail _ (.head _)))) hcA1 hcA2 (.tail _ (.tail _ (.tail _ (.tail _ (.tail _ (.tail _ (.tail _ (.head _)))))))) d2 (by decide) (.tail _ (.tail _ (.tail _ (.tail _ (.tail _ (.tail _ (.head _))))))) d3 (.tail _ (.tail _ (.tail _ (.tail _ (.head _))))) d5 (.tail _ (.tail _ (.tail _ (.tail _ (.tail _ (.tail _ (.tail _ (.tail _ (.tail _ (.tail _ (.tail _ (.tail _ (.tail _ (.tail _ (.tail _ (.tail _ (.tail _ (.tail _ (.head _))))))))))))))))))) d6 (.tail _ (.tail _ (.tail _ (.tail _ (.tail _ (.tail _ (.tail _ (.tail _ (.head _))))))))) d1 (.tail _ (.tail _ (.tail _ (.tail _ (.tail _ (.head _)))))) d4 (.tail _ (.tail _ (.tail _ (.tail _ (.tail _ (.tail _ (.tail _ (.tail _ (.tail _ (.tail _ (.tail _ (.tail _ (.tail _ (.head _)))))))))))))) (.tail _ (.tail _ (.tail _ (.tail _ (.tail _ (.tail _ (.tail _ (.tail _ (.tail _ (.tail _ (.tail _ (.tail _ (.tail _ (.tail _ (.tail _ (.tail _ (.tail _ (.head _)))))))))))))))))) (.tail _ (.tail _ (.tail _ (.tail _ (.tail _ (.tail _ (.tail _ (.tail _ (.tail _ (.tail _ (.tail _ (.tail _ (.tail _ (.tail _ (.tail _ (.head _)))))))))))))))) (.tail _ (.tail _ (.tail _ (.tail _ (.tail _ (.tail _ (.tail _ (.tail _ (.tail _ (.tail _ (.tail _ (.tail _ (.tail _ (.tail _ (.tail _ (.tail _ (.head _))))))))))))))))) (.tail _ (.tail _ (.tail _ (.tail _ (.tail _ (.tail _ (.tail _ (.tail _ (.tail _ (.tail _ (.tail _ (.tail _ (.tail _ (.tail _ (.head _))))))))))))))) (by kernel_rfl) (by kernel_rfl) (by kernel_rfl) (.tail _ (.tail _ (.tail _ (.tail _ (.tail _ (.tail _ (.tail _ (.tail _ (.tail _ (.tail _ (.tail _ (.tail _ (.tail _ (.tail _ (.tail _ (.tail _ (.tail _ (.tail _ (.tail _ (.head _)))))))))))))))))))) (.tail _ (.tail _ (.tail _ (.tail _ (.tail _ (.tail _ (.tail _ (.tail _ (.tail _ (.tail _ (.tail _ (.tail _ (.tail _ (.tail _ (.tail _ (.tail _ (.tail _ (.tail _ (.tail _ (.tail _ (.head _))))))))))))))))))))) (.tail _ (.tail _ (.tail _ (.tail _ (.tail _ (.tail _ (.tail _ (.tail _ (.tail _ (.tail _ (.tail _ (.tail _ (.tail _ (.tail _ (.tail _ (.tail _ (.tail _ (.tail _ (.tail _ (.tail _ (.tail _ (.head _)))))))))))))))))))))) (.tail _ (.tail _ (.tail _ (.tail _ (.tail _ (.tail _ (.tail _ (.tail _ (.tail _ (.head _)))))))))) hS hn1 hn2 hret X
theorem anew57 : True := by
  w_top off
  trivial
set_option maxRecDepth 100000 in
set_option maxHeartbeats 0 in
theorem law_mgr {w : World} {p : Program} {loose : List Str} {mean : ExcName → Option Value} {mg' mb' : Str → Option Value} {base : Heap} {L fa l lz : Addr} {s : Shared} {n0 : Nat} {tn : Tok} {oz : Obj} {rest : List (Addr × Obj)} {news : List (Addr × Obj)}
    {Q : Flow → Shared → Prop} {E : Value → Shared → Prop}
    (hE : PassesOwn (model PySem.Challenge.rw_bi0029_01.row.prog w) (callerA.deeper (lawEnv L fa)) (lawEnv L fa) E)
    (B : Below callerA base [] base) (T : Top p loose mean mg' mb' base)
    (F : Fr base L s.heap (fun y => if y = Str.ofString "number" then some (.int (n0 : Nat) tn) else if y = Str.ofString "script" then some (.ref l) else none))
    (N : News base L s.heap news)
    (hret : ∀ (dmg mg dsy sy ly : Addr) (t13 t14 t15 t16 : Tok) (h' : Heap) (tk' : Nat), Fr base L h' (lawMap l mg n0 tn) → News base L h' ((ly, W.listOf #[] 0) :: (sy, instObj 167 dsy) :: (dsy, dictOf [ent w "data" t16 (.ref ly)] 1) :: (mg, instObj 818 dmg) :: (dmg, dictOf [ent w "explicit" t13 (.bool false), ent w "_txn" t14 (.none), ent w "_synchs" t15 (.ref sy)] 3) :: news) → (@LT.lt Nat _ dmg mg ∧ @LT.lt Nat _ mg dsy ∧ @LT.lt Nat _ dsy sy ∧ @LT.lt Nat _ sy ly) → (∀ p ∈ news, @LT.lt Nat _ p.1 dmg) → Q .next { s with heap := h', toks := tk' }) :
    (hd.heap_39 w.params).In base → wpAny (model PySem.Challenge.rw_bi0029_01.row.prog w) (callerA.deeper (lawEnv L fa)) (exec (nthSt (bodyOf lawSt) 2) (lawEnv L fa)) Q E s := by
  k_fill
  intro X
  generalize hsc : scopeOf lawSt = sc at *
  conv at hsc => lhs; whnf
  generalize hbo : nthSt (bodyOf lawSt) 2 = bo at *
  conv at hbo => lhs; whnf
  subst hsc hbo
  walk_at "GO"
  rename News _ _ _ _ => N9
  rename Fr _ _ _ _ => F9
  exact hret _ _ _ _ _ _ _ _ _ _ _ F9 N9 ⟨by omega, by omega, by omega, by omega⟩ (by assumption)
set_option maxRecDepth 100000 in
set_option maxHeartbeats 0 in
theorem law_bgn {w : World} {p : Program} {loose : List Str} {mean : ExcName → Option Value} {mg' mb' : Str → Option Value} {base : Heap} {L fa l dmg mg dsy sy ly : Addr} {s : Shared} {n0 : Nat} {tn : Tok} {o6 : Obj} {rest : List (Addr × Obj)} {t13 t14 t15 t16 : Tok}
    {Q : Flow → Shared → Prop} {E : Value → Shared → Prop}
    (hE : PassesOwn (model PySem.Challenge.rw_bi0029_01.row.prog w) (callerA.deeper (lawEnv L fa)) (lawEnv L fa) E)
    (B : Below callerA base [] base) (T : Top p loose mean mg' mb' base)
    (F : Fr base L s.heap (lawMap l mg n0 tn))
    (N : News base L s.heap ((L + 1 + 1 + 1 + 1 + 1 + 1, o6) :: (dmg, dictOf [ent w "explicit" t13 (.bool false), ent w "_txn" t14 (.none), ent w "_synchs" t15 (.ref sy)] 3) :: rest)) (d6 : o6.data = .cell none) (g0 : ∀ p ∈ rest, p.1 ≠ L + 1 + 1 + 1 + 1 + 1 + 1) (g1 : ∀ p ∈ rest, p.1 ≠ dmg) (l1 : @LT.lt Nat _ (L + 1 + 1 + 1 + 1 + 1 + 1) dmg)
    (hmg : (mg, instObj 818 dmg) ∈ rest) (hsy : (sy, instObj 167 dsy) ∈ rest) (hds : (dsy, dictOf [ent w "data" t16 (.ref ly)] 1) ∈ rest) (hly : (ly, W.listOf #[] 0) ∈ rest)
    (hret : ∀ (dtr tr rl ad vo ex hb ha ab aa cx : Addr) (oex oad ocx o6' : Obj) (t1 t2 t3 t4 t5 t6 t7 t8 t9 t10 t11 t12 : Tok) (h' : Heap) (tk' : Nat), Fr base L h' (lawMap l mg n0 tn) → News base L h' ((cx, ocx) :: (aa, W.listOf #[] 0) :: (ab, W.listOf #[] 0) :: (ha, W.listOf #[] 0) :: (hb, W.listOf #[] 0) :: (ex, oex) :: (vo, W.listOf #[] 0) :: (ad, oad) :: (rl, W.listOf #[] 0) :: (tr, instObj 546 dtr) :: (dtr, dictOf [ent w "status" t1 (.str (Str.ofString "Active") 413), ent w "_resources" t2 (.ref rl), ent w "_synchronizers" t3 (.ref sy), ent w "_manager" t4 (.ref mg), ent w "_adapters" t5 (.ref ad), ent w "_voted" t6 (.ref vo), ent w "extension" t7 (.ref ex), ent w "_failure_traceback" t8 (.none), ent w "_before_commit" t9 (.ref hb), ent w "_after_commit" t10 (.ref ha), ent w "_before_abort" t11 (.ref ab), ent w "_after_abort" t12 (.ref aa)] 12) :: (L + 1 + 1 + 1 + 1 + 1 + 1, o6') :: (dmg, dictOf [ent w "explicit" t13 (.bool false), ent w "_txn" t14 (.ref tr), ent w "_synchs" t15 (.ref sy)] 3) :: rest) → o6'.data = .cell (some (.ref tr)) →
      (@LT.lt Nat _ dtr tr ∧ @LT.lt Nat _ tr rl ∧ @LT.lt Nat _ rl ad ∧ @LT.lt Nat _ ad vo ∧ @LT.lt Nat _ vo ex ∧ @LT.lt Nat _ ex hb ∧ @LT.lt Nat _ hb ha ∧ @LT.lt Nat _ ha ab ∧ @LT.lt Nat _ ab aa ∧ @LT.lt Nat _ aa cx) → @LT.lt Nat _ dmg dtr → (∀ p ∈ rest, @LT.lt Nat _ p.1 dtr) → Q .next { s with heap := h', toks := tk' }) :
    (hd.heap_39 w.params).In base → wpAny (model PySem.Challenge.rw_bi0029_01.row.prog w) (callerA.deeper (lawEnv L fa)) (exec (nthSt (bodyOf lawSt) 3) (lawEnv L fa)) Q E s := by
  k_fill
  intro X
  generalize hsc : scopeOf lawSt = sc at *
  conv at hsc => lhs; whnf
  generalize hbo : nthSt (bodyOf lawSt) 3 = bo at *
  conv at hbo => lhs; whnf
  subst hsc hbo
  walk_at "GO"
  rename News _ _ _ _ => N9
  rename Fr _ _ _ _ => F9
  exact hret _ _ _ _ _ _ _ _ _ _ _ _ _ _ _ _ _ _ _ _ _ _ _ _ _ _ _ _ _  F9 N9 (by assumption) ⟨by omega, by omega, by omega, by omega, by omega, by omega, by omega, by omega, by omega, by omega⟩ (by omega) (fun p hp => allLt_mem (And.right (And.right (by assumption))) hp)
set_option maxRecDepth 100000 in
set_option maxHeartbeats 0 in
theorem law_begin {w : World} {p : Program} {loose : List Str} {mean : ExcName → Option Value} {mg' mb' : Str → Option Value} {base : Heap} {L fa l lz : Addr} {s : Shared} {n0 : Nat} {tn : Tok} {o6 : Obj} {rest : List (Addr × Obj)} 
    {Q : Flow → Shared → Prop} {E : Value → Shared → Prop}
    (hE : PassesOwn (model PySem.Challenge.rw_bi0029_01.row.prog w) (callerA.deeper (lawEnv L fa)) (lawEnv L fa) E)
    (B : Below callerA base [] base) (T : Top p loose mean mg' mb' base)
    (F : Fr base L s.heap (fun y => if y = Str.ofString "number" then some (.int (n0 : Nat) tn) else if y = Str.ofString "script" then some (.ref l) else none))
    (N : News base L s.heap ((L + 1 + 1 + 1 + 1 + 1 + 1, o6) :: rest)) (d6 : o6.data = .cell none) (g : ∀ p ∈ rest, p.1 ≠ L + 1 + 1 + 1 + 1 + 1 + 1)
    (hret : ∀ (dmg mg dsy sy ly dtr tr rl ad vo ex hb ha ab aa cx : Addr) (oex oad ocx o6' : Obj) (t1 t2 t3 t4 t5 t6 t7 t8 t9 t10 t11 t12 t13 t14 t15 t16 : Tok) (h' : Heap) (tk' : Nat), Fr base L h' (lawMap l mg n0 tn) → News base L h' ((cx, ocx) :: (aa, W.listOf #[] 0) :: (ab, W.listOf #[] 0) :: (ha, W.listOf #[] 0) :: (hb, W.listOf #[] 0) :: (ex, oex) :: (vo, W.listOf #[] 0) :: (ad, oad) :: (rl, W.listOf #[] 0) :: (tr, instObj 546 dtr) :: (dtr, dictOf [ent w "status" t1 (.str (Str.ofString "Active") 413), ent w "_resources" t2 (.ref rl), ent w "_synchronizers" t3 (.ref sy), ent w "_manager" t4 (.ref mg), ent w "_adapters" t5 (.ref ad), ent w "_voted" t6 (.ref vo), ent w "extension" t7 (.ref ex), ent w "_failure_traceback" t8 (.none), ent w "_before_commit" t9 (.ref hb), ent w "_after_commit" t10 (.ref ha), ent w "_before_abort" t11 (.ref ab), ent w "_after_abort" t12 (.ref aa)] 12) :: (ly, W.listOf #[] 0) :: (sy, instObj 167 dsy) :: (dsy, dictOf [ent w "data" t16 (.ref ly)] 1) :: (mg, instObj 818 dmg) :: (dmg, dictOf [ent w "explicit" t13 (.bool false), ent w "_txn" t14 (.ref tr), ent w "_synchs" t15 (.ref sy)] 3) :: (L + 1 + 1 + 1 + 1 + 1 + 1, o6') :: rest) → o6'.data = .cell (some (.ref tr)) →
      (@LT.lt Nat _ (L + 6) dmg ∧ @LT.lt Nat _ dmg mg ∧ @LT.lt Nat _ mg dsy ∧ @LT.lt Nat _ dsy sy ∧ @LT.lt Nat _ sy ly ∧ @LT.lt Nat _ ly dtr ∧ @LT.lt Nat _ dtr tr ∧ @LT.lt Nat _ tr rl ∧ @LT.lt Nat _ rl ad ∧ @LT.lt Nat _ ad vo ∧ @LT.lt Nat _ vo ex ∧ @LT.lt Nat _ ex hb ∧ @LT.lt Nat _ hb ha ∧ @LT.lt Nat _ ha ab ∧ @LT.lt Nat _ ab aa ∧ @LT.lt Nat _ aa cx) → (∀ p ∈ rest, @LT.lt Nat _ p.1 dmg) → wpAny (model PySem.Challenge.rw_bi0029_01.row.prog w) (callerA.deeper (lawEnv L fa)) (execs (restSt (bodyOf lawSt) 4) (lawEnv L fa)) Q E { s with heap := h', toks := tk' }) :
    (hd.heap_39 w.params).In base → wpAny (model PySem.Challenge.rw_bi0029_01.row.prog w) (callerA.deeper (lawEnv L fa)) (execs (restSt (bodyOf lawSt) 2) (lawEnv L fa)) Q E s := by
  intro X
  have e : restSt (bodyOf lawSt) 2 = nthSt (bodyOf lawSt) 2 :: nthSt (bodyOf lawSt) 3 :: restSt (bodyOf lawSt) 4 := by rfl
  rw [e]
  refine wpAny_execs_cons ?_
  refine' law_mgr (lz := L) (oz := o6) (rest := rest) hE B T F N ?_ X
  intro dmg mg dsy sy ly t13 t14 t15 t16 h1 tk1 F1 N1 oc1 gr1
  dsimp only
  refine wpAny_execs_cons ?_
  have l6 : @LT.lt Nat _ (L + 1 + 1 + 1 + 1 + 1 + 1) dmg := gr1 _ (.head _)
  have gr : ∀ p ∈ rest, @LT.lt Nat _ p.1 dmg := fun p hp => gr1 p (.tail _ hp)
  have g1 : ∀ p ∈ rest, p.1 ≠ dmg := fun p hp => Nat.ne_of_lt (gr p hp)
  refine' law_bgn (rest := (ly, _) :: (sy, _) :: (dsy, _) :: (mg, _) :: rest) hE B T F1 (cb_drop N1 (List.forall_mem_cons.mpr ⟨.tail _ (.tail _ (.tail _ (.tail _ (.tail _ (.head _))))), List.forall_mem_cons.mpr ⟨.tail _ (.tail _ (.tail _ (.tail _ (.head _)))), List.forall_mem_cons.mpr ⟨.head _, List.forall_mem_cons.mpr ⟨.tail _ (.head _), List.forall_mem_cons.mpr ⟨.tail _ (.tail _ (.head _)), List.forall_mem_cons.mpr ⟨.tail _ (.tail _ (.tail _ (.head _))), fun _ h => .tail _ (.tail _ (.tail _ (.tail _ (.tail _ (.tail _ (h))))))⟩⟩⟩⟩⟩⟩)) d6 ?g0 ?g1 l6 (.tail _ (.tail _ (.tail _ (.head _)))) (.tail _ (.head _)) (.tail _ (.tail _ (.head _))) (.head _) ?_ X
  case g0 => exact List.forall_mem_cons.mpr ⟨by k_ne, List.forall_mem_cons.mpr ⟨by k_ne, List.forall_mem_cons.mpr ⟨by k_ne, List.forall_mem_cons.mpr ⟨by k_ne, g⟩⟩⟩⟩
  case g1 => exact List.forall_mem_cons.mpr ⟨by k_ne, List.forall_mem_cons.mpr ⟨by k_ne, List.forall_mem_cons.mpr ⟨by k_ne, List.forall_mem_cons.mpr ⟨by k_ne, g1⟩⟩⟩⟩
  intro dtr tr rl ad vo ex hb ha ab aa cx oex oad ocx o6' t1 t2 t3 t4 t5 t6 t7 t8 t9 t10 t11 t12 h2 tk2 F2 N2 d6' oc2 l7 gr2
  dsimp only
  have l8 : @LT.lt Nat _ ly dtr := gr2 _ (.head _)
  exact hret dmg mg dsy sy ly dtr tr rl ad vo ex hb ha ab aa cx oex oad ocx o6' t1 t2 t3 t4 t5 t6 t7 t8 t9 t10 t11 t12 t13 t14 t15 t16 h2 tk2 F2 (cb_drop N2 (List.forall_mem_cons.mpr ⟨.head _, List.forall_mem_cons.mpr ⟨.tail _ (.head _), List.forall_mem_cons.mpr ⟨.tail _ (.tail _ (.head _)), List.forall_mem_cons.mpr ⟨.tail _ (.tail _ (.tail _ (.head _))), List.forall_mem_cons.mpr ⟨.tail _ (.tail _ (.tail _ (.tail _ (.head _)))), List.forall_mem_cons.mpr ⟨.tail _ (.tail _ (.tail _ (.tail _ (.tail _ (.head _))))), List.forall_mem_cons.mpr ⟨.tail _ (.tail _ (.tail _ (.tail _ (.tail _ (.tail _ (.head _)))))), List.forall_mem_cons.mpr ⟨.tail _ (.tail _ (.tail _ (.tail _ (.tail _ (.tail _ (.tail _ (.head _))))))), List.forall_mem_cons.mpr ⟨.tail _ (.tail _ (.tail _ (.tail _ (.tail _ (.tail _ (.tail _ (.tail _ (.head _)))))))), List.forall_mem_cons.mpr ⟨.tail _ (.tail _ (.tail _ (.tail _ (.tail _ (.tail _ (.tail _ (.tail _ (.tail _ (.head _))))))))), List.forall_mem_cons.mpr ⟨.tail _ (.tail _ (.tail _ (.tail _ (.tail _ (.tail _ (.tail _ (.tail _ (.tail _ (.tail _ (.head _)))))))))), List.forall_mem_cons.mpr ⟨.tail _ (.tail _ (.tail _ (.tail _ (.tail _ (.tail _ (.tail _ (.tail _ (.tail _ (.tail _ (.tail _ (.tail _ (.tail _ (.head _))))))))))))), List.forall_mem_cons.mpr ⟨.tail _ (.tail _ (.tail _ (.tail _ (.tail _ (.tail _ (.tail _ (.tail _ (.tail _ (.tail _ (.tail _ (.tail _ (.tail _ (.tail _ (.head _)))))))))))))), List.forall_mem_cons.mpr ⟨.tail _ (.tail _ (.tail _ (.tail _ (.tail _ (.tail _ (.tail _ (.tail _ (.tail _ (.tail _ (.tail _ (.tail _ (.tail _ (.tail _ (.tail _ (.head _))))))))))))))), List.forall_mem_cons.mpr ⟨.tail _ (.tail _ (.tail _ (.tail _ (.tail _ (.tail _ (.tail _ (.tail _ (.tail _ (.tail _ (.tail _ (.tail _ (.tail _ (.tail _ (.tail _ (.tail _ (.head _)))))))))))))))), List.forall_mem_cons.mpr ⟨.tail _ (.tail _ (.tail _ (.tail _ (.tail _ (.tail _ (.tail _ (.tail _ (.tail _ (.tail _ (.tail _ (.tail _ (.head _)))))))))))), List.forall_mem_cons.mpr ⟨.tail _ (.tail _ (.tail _ (.tail _ (.tail _ (.tail _ (.tail _ (.tail _ (.tail _ (.tail _ (.tail _ (.head _))))))))))), fun _ h => .tail _ (.tail _ (.tail _ (.tail _ (.tail _ (.tail _ (.tail _ (.tail _ (.tail _ (.tail _ (.tail _ (.tail _ (.tail _ (.tail _ (.tail _ (.tail _ (.tail _ (h)))))))))))))))))⟩⟩⟩⟩⟩⟩⟩⟩⟩⟩⟩⟩⟩⟩⟩⟩⟩)) d6' ⟨l6, oc1.1, oc1.2.1, oc1.2.2.1, oc1.2.2.2, l8, oc2⟩ gr
theorem anew58 : True := by
  w_top off
  trivial
set_option maxRecDepth 100000 in
set_option maxHeartbeats 0 in
theorem law_defs {w : World} {p : Program} {loose : List Str} {mean : ExcName → Option Value} {mg' mb' : Str → Option Value} {base : Heap} {L fa l mg : Addr} {s : Shared} {n0 : Nat} {tn : Tok} {o1 o2 o3 o4 o5 : Obj} {rest : List (Addr × Obj)} {k : Nat} {tkk : Tok}
    {Q : Flow → Shared → Prop} {E : Value → Shared → Prop}
    (hE : PassesOwn (model PySem.Challenge.rw_bi0029_01.row.prog w) (callerA.deeper (lawEnv L fa)) (lawEnv L fa) E)
    (B : Below callerA base [] base) (T : Top p loose mean mg' mb' base)
    (C5 : CodeHd base 842 838) (F : Fr base L s.heap (lawMap l mg n0 tn))
    (N : News base L s.heap ((L + 1 + 1 + 1 + 1 + 1, o5) :: (L + 1 + 1 + 1 + 1, o4) :: (L + 1 + 1 + 1, o3) :: (L + 1 + 1, o2) :: (L + 1, o1) :: (838, tabObj #[]) :: rest))
    (d1 : o1.data = .cell none) (d2 : o2.data = .cell (some (.int (k : Nat) tkk))) (d3 : o3.data = .cell none) (d4 : o4.data = .cell none) (d5 : o5.data = .cell none)
    (l8 : @LT.lt Nat _ 838 L) (g0 : ∀ p ∈ rest, p.1 ≠ L + 1 + 1 + 1 + 1 + 1) (g1 : ∀ p ∈ rest, p.1 ≠ L + 1 + 1 + 1 + 1) (g2 : ∀ p ∈ rest, p.1 ≠ L + 1 + 1 + 1) (g3 : ∀ p ∈ rest, p.1 ≠ L + 1 + 1) (g4 : ∀ p ∈ rest, p.1 ≠ L + 1) (g5 : ∀ p ∈ rest, p.1 ≠ 838)
    (hret : ∀ (st rw codA addF codR readF : Addr) (ost ocA ocR o1' o3' o4' o5' : Obj) (tb vsA vsR : Array Value) (qA qR : Str) (docA pmA ctvA docR pmR ctvR : Value) (tqA tqR : Tok) (h' : Heap) (tk' : Nat), Fr base L h' (lawMap l mg n0 tn) → News base L h' ((readF, fnMade (Str.ofString "read") qR (paramsOf readSt) (bodyOf readSt) (scopeOf readSt) [(Str.ofString "state", L + 1 + 1 + 1 + 1 + 1), (Str.ofString "rows", L + 1 + 1 + 1 + 1), (Str.ofString "add", L + 1)] docR pmR codR ctvR) :: (codR, ocR) :: (addF, fnMade (Str.ofString "add") qA (paramsOf addSt) (bodyOf addSt) (scopeOf addSt) [(Str.ofString "transaction", L + 1 + 1 + 1 + 1 + 1 + 1), (Str.ofString "state", L + 1 + 1 + 1 + 1 + 1), (Str.ofString "read", L + 1 + 1 + 1), (Str.ofString "kind", L + 1 + 1)] docA pmA codA ctvA) :: (codA, ocA) :: (rw, W.listOf #[] 0) :: (st, ost) :: (L + 1 + 1 + 1 + 1 + 1, o5') :: (L + 1 + 1 + 1 + 1, o4') :: (L + 1 + 1 + 1, o3') :: (L + 1 + 1, o2) :: (L + 1, o1') :: (838, tabObj tb) :: rest) →
      ocR.data = .fields vsR → vsR[1]? = some (.str qR tqR) → ocA.data = .fields vsA → vsA[1]? = some (.str qA tqA) → o1'.data = .cell (some (.ref addF)) → o3'.data = .cell (some (.ref readF)) → o4'.data = .cell (some (.ref rw)) → o5'.data = .cell (some (.ref st)) →
      StIs w ost 0 0 0 0 → (st == sysModules) = false → (@LT.lt Nat _ st rw ∧ @LT.lt Nat _ rw codA ∧ @LT.lt Nat _ codA addF ∧ @LT.lt Nat _ addF codR ∧ @LT.lt Nat _ codR readF) → (∀ p ∈ rest, @LT.lt Nat _ p.1 st) → wpAny (model PySem.Challenge.rw_bi0029_01.row.prog w) (callerA.deeper (lawEnv L fa)) (execs (restSt (bodyOf lawSt) 8) (lawEnv L fa)) Q E { s with heap := h', toks := tk' }) :
    (hd.heap_39 w.params).In base → wpAny (model PySem.Challenge.rw_bi0029_01.row.prog w) (callerA.deeper (lawEnv L fa)) (execs (restSt (bodyOf lawSt) 4) (lawEnv L fa)) Q E s := by
  k_fill
  intro X
  generalize hsc : scopeOf lawSt = sc at *
  conv at hsc => lhs; whnf
  generalize hbo : restSt (bodyOf lawSt) 4 = bo at *
  conv at hbo => lhs; whnf
  generalize hb2 : restSt (bodyOf lawSt) 8 = bo2 at *
  conv at hb2 => lhs; whnf
  subst hsc hbo hb2
  iterate 400 (first | (with_reducible show wpAny _ _ (execs (Stmt.For _ _ _ _ _ :: _) _) _ _ _) | walk_at "S1")
  rename News _ _ _ _ => N9
  rename Fr _ _ _ _ => F9
  k_dflt (refine' hret _ _ _ _ _ _ _ _ _ _ _ _ _ _ _ _ _ _ _ _ _ _ _ _ _ _ _ _ F9 N9 ?r1 ?r2 ?a1 ?a2 ?d1 ?d3 ?d4 ?d5 ?hS ?lost ?oc ?gr)
  case r1 => assumption
  case r2 => assumption
  case a1 => assumption
  case a2 => assumption
  case d1 => assumption
  case d3 => assumption
  case d4 => assumption
  case d5 => assumption
  case hS => exact ⟨_, _, _, _, by assumption, by assumption⟩
  case lost => assumption
  case oc => exact ⟨by omega, by omega, by omega, by omega, by omega⟩
  case gr =>
    intro p hp
    have h9 : AllLt _ rest := And.right (And.right (And.right (And.right (And.right (And.right (by assumption))))))
    exact allLt_mem h9 hp
theorem anew59 : True := by
  w_top off
  trivial
set_option maxRecDepth 100000 in
set_option maxHeartbeats 0 in
theorem law_body {w : World} {p : Program} {loose : List Str} {mean : ExcName → Option Value} {mg mb : Str → Option Value} {base : Heap} {L fa l : Addr} {s : Shared} {vs : List Value} {ns : List Int} {o1 o2 o3 o4 o5 o6 : Obj}
    {Q : Flow → Shared → Prop} {E : Value → Shared → Prop}
    (hE : PassesOwn (model PySem.Challenge.rw_bi0029_01.row.prog w) (callerA.deeper (lawEnv L fa)) (lawEnv L fa) E)
    (B : Below callerA base [] base) (F : Fr base L s.heap (fun y => if y = Str.ofString "script" then some (.ref l) else none)) (T : Top p loose mean mg mb base)
    (hl : base.IsList l vs.toArray) (hI : IntsAre vs ns) (hlen : ns.length ≤ 63)
    (C1 : CodeHd base 662 658) (C2 : CodeHd base 513 509) (C3 : CodeHd base 475 471) (C4 : CodeHd base 359 355) (C5 : CodeHd base 842 838)
    (N : News base L s.heap [(L + 1 + 1 + 1 + 1 + 1 + 1, o6), (L + 1 + 1 + 1 + 1 + 1, o5), (L + 1 + 1 + 1 + 1, o4), (L + 1 + 1 + 1, o3), (L + 1 + 1, o2), (L + 1, o1), (658, tabObj #[]), (509, tabObj #[]), (471, tabObj #[]), (355, tabObj #[]), (838, tabObj #[])])
    (d1 : o1.data = .cell none) (d2 : o2.data = .cell none) (d3 : o3.data = .cell none) (d4 : o4.data = .cell none) (d5 : o5.data = .cell none) (d6 : o6.data = .cell none)
    (l0 : @LT.lt Nat _ 658 L ∧ @LT.lt Nat _ 509 L ∧ @LT.lt Nat _ 471 L ∧ @LT.lt Nat _ 355 L ∧ @LT.lt Nat _ 838 L)
    (hret : ∀ (h' : Heap) (tk' : Nat) (m' : Str → Option Value) (news' : List (Addr × Obj)), Fr base L h' m' → News base L h' news' → (∀ P ∈ [658, 509, 471, 355, 838], ∃ ps, ((P : Nat), tabObj ps) ∈ news') → Q (.ret (.bool true)) { s with heap := h', toks := tk' }) :
    (hd.heap_39 w.params).In base → wpAny (model PySem.Challenge.rw_bi0029_01.row.prog w) (callerA.deeper (envOfC (Str.ofString "law") (scopeOf lawSt) L fa (.ref 842))) (execs (bodyOf lawSt) (envOfC (Str.ofString "law") (scopeOf lawSt) L fa (.ref 842))) Q E s := by
  k_fill
  intro X
  generalize hsc : scopeOf lawSt = sc at *
  conv at hsc => lhs; whnf
  generalize hbo : bodyOf lawSt = bo at *
  conv at hbo => lhs; whnf
  subst hsc hbo
  have hfit : ns.length < 2 ^ 62 := by omega
  walk_at "TO"
  refine wpAny_mono (Q := Hold (fun fl s₂ => fl = Flow.next ∧ ∃ (h₂ : Heap) (tk₂ n0 : Nat) (nv : Int) (tn : Tok), nv = (n0 : Nat) ∧ 1 ≤ n0 ∧ n0 ≤ 8 ∧ s₂ = { s with heap := h₂, toks := tk₂ } ∧ Fr base L h₂ (fun y => if y = Str.ofString "number" then some (.int nv tn) else if y = Str.ofString "script" then some (.ref l) else none) ∧ News base L h₂ [(L + 1 + 1 + 1 + 1 + 1 + 1, o6), (L + 1 + 1 + 1 + 1 + 1, o5), (L + 1 + 1 + 1 + 1, o4), (L + 1 + 1 + 1, o3), (L + 1 + 1, o2), (L + 1, o1), (658, tabObj #[]), (509, tabObj #[]), (471, tabObj #[]), (355, tabObj #[]), (838, tabObj #[])])) ?_ ?_ (fun e s₂ h => h)
  · iterate 30 (first | (with_reducible show wpAny _ _ (call _ _) _ _ _) | walk_at "S1")
    (k_dflt (refine' law_at_tells 0 rfl ?j1 ?j2 ?j4 ?j5 ?jK ?jl ?ji ?jt ?j0 ?jd ?ju ?jR ?jX)); (case j1 => k_asm); (case j2 => k_asm); (case jX => k_asm); (case j4 => k_asm); (case j5 => k_asm); (case jK => exact rfl); (case jl => k_asm); (case ji => l_ints); (case jt => l_fit); (case j0 => decide); (case jd => k_dflt ktr_room); (case ju => k_dflt ktr_units); (intro t9 h9 tk9 F9 N9; (try dsimp only); (try k_fold))
    walk_at "GO"
    obtain ⟨n0, e0, e1, e2⟩ : ∃ n0 : Nat, (n0 : Int) = 1 + (ns.getD 0 2).fmod 8 ∧ 1 ≤ n0 ∧ n0 ≤ 8 := by
      have h1 := Int.fmod_nonneg_of_pos (ns.getD 0 2) (show (0 : Int) < 8 by decide)
      have h2 := Int.fmod_lt_of_pos (ns.getD 0 2) (show (0 : Int) < 8 by decide)
      exact ⟨(1 + (ns.getD 0 2).fmod 8).toNat, by omega, by omega, by omega⟩
    exact ⟨rfl, _, _, n0, _, _, e0.symm, e1, e2, rfl, by assumption, by assumption⟩
  clear F N
  rintro fl s₂ ⟨rfl, h₂, tk₂, n0, nv, tn, rfl, hn1, hn2, rfl, F₂, N₂⟩
  try dsimp only
  walk_at "TO"
  refine wpAny_mono (Q := Hold (fun fl s₂ => fl = Flow.next ∧ ∃ (h₂ : Heap) (tk₂ k : Nat) (kv : Int) (tkk : Tok) (o2' : Obj), kv = (k : Nat) ∧ k < 4 ∧ o2'.data = .cell (some (.int kv tkk)) ∧ s₂ = { s with heap := h₂, toks := tk₂ } ∧ Fr base L h₂ (fun y => if y = Str.ofString "number" then some (.int (n0 : Nat) tn) else if y = Str.ofString "script" then some (.ref l) else none) ∧ News base L h₂ [(L + 1 + 1 + 1 + 1 + 1 + 1, o6), (L + 1 + 1 + 1 + 1 + 1, o5), (L + 1 + 1 + 1 + 1, o4), (L + 1 + 1 + 1, o3), (L + 1 + 1, o2'), (L + 1, o1), (658, tabObj #[]), (509, tabObj #[]), (471, tabObj #[]), (355, tabObj #[]), (838, tabObj #[])])) ?_ ?_ (fun e s₂ h => h)
  · iterate 30 (first | (with_reducible show wpAny _ _ (call _ _) _ _ _) | walk_at "S1")
    (k_dflt (refine' law_at_tells 1 rfl ?k1 ?k2 ?k4 ?k5 ?kK ?kl ?ki ?kt ?k0 ?kd ?ku ?kR ?kX)); (case k1 => k_asm); (case k2 => k_asm); (case kX => k_asm); (case k4 => k_asm); (case k5 => k_asm); (case kK => exact rfl); (case kl => k_asm); (case ki => l_ints); (case kt => l_fit); (case k0 => decide); (case kd => k_dflt ktr_room); (case ku => k_dflt ktr_units); (intro t9 h9 tk9 F9 N9; (try dsimp only); (try k_fold))
    walk_at "GO"
    obtain ⟨k, e0, e1⟩ : ∃ k : Nat, (k : Int) = (ns.getD 1 0).fmod 4 ∧ k < 4 := by
      have h1 := Int.fmod_nonneg_of_pos (ns.getD 1 0) (show (0 : Int) < 4 by decide)
      have h2 := Int.fmod_lt_of_pos (ns.getD 1 0) (show (0 : Int) < 4 by decide)
      exact ⟨((ns.getD 1 0).fmod 4).toNat, by omega, by omega⟩
    exact ⟨rfl, _, _, k, _, _, _, e0.symm, e1, by assumption, rfl, by assumption, by assumption⟩
  clear F₂ N₂
  rintro fl s₂ ⟨rfl, h₂, tk₂, k, kv, tkk, o2', rfl, hk4, hcK1, rfl, F₂, N₂⟩
  try dsimp only
  change wpAny _ _ (execs (restSt (bodyOf lawSt) 2) (lawEnv L fa)) _ _ _
  refine' law_begin (lz := L) hE B T F₂ N₂ d6 (by k_all) ?_ X
  intro dmg mg dsy sy ly dtr tr rl ad vo ex hb ha ab aa cx oex oad ocx o6' t1 t2 t3 t4 t5 t6 t7 t8 t9 t10 t11 t12 t13 t14 t15 t16 h3 tk3 F3 N3 d6' oc1 gr
  obtain ⟨l01, l02, l03, l04, l05⟩ := l0
  have u : Up 355 [471, 509, 658, 838, L + 1, L + 1 + 1, L + 1 + 1 + 1, L + 1 + 1 + 1 + 1, L + 1 + 1 + 1 + 1 + 1, L + 1 + 1 + 1 + 1 + 1 + 1, dmg, mg, dsy, sy, ly, dtr, tr, rl, ad, vo, ex, hb, ha, ab, aa, cx] := ⟨by omega, by omega, by omega, by omega, by omega, by omega, by omega, by omega, by omega, by omega, by omega, by omega, by omega, by omega, by omega, by omega, by omega, by omega, by omega, by omega, by omega, by omega, by omega, by omega, by omega, by omega, trivial⟩
  refine' law_defs (rest := [(cx, ocx), (aa, W.listOf #[] 0), (ab, W.listOf #[] 0), (ha, W.listOf #[] 0), (hb, W.listOf #[] 0), (ex, oex), (vo, W.listOf #[] 0), (ad, oad), (rl, W.listOf #[] 0), (tr, instObj 546 dtr), (dtr, dictOf [ent w "status" t1 (.str (Str.ofString "Active") 413), ent w "_resources" t2 (.ref rl), ent w "_synchronizers" t3 (.ref sy), ent w "_manager" t4 (.ref mg), ent w "_adapters" t5 (.ref ad), ent w "_voted" t6 (.ref vo), ent w "extension" t7 (.ref ex), ent w "_failure_traceback" t8 (.none), ent w "_before_commit" t9 (.ref hb), ent w "_after_commit" t10 (.ref ha), ent w "_before_abort" t11 (.ref ab), ent w "_after_abort" t12 (.ref aa)] 12), (ly, W.listOf #[] 0), (sy, instObj 167 dsy), (dsy, dictOf [ent w "data" t16 (.ref ly)] 1), (mg, instObj 818 dmg), (dmg, dictOf [ent w "explicit" t13 (.bool false), ent w "_txn" t14 (.ref tr), ent w "_synchs" t15 (.ref sy)] 3), (L + 1 + 1 + 1 + 1 + 1 + 1, o6'), (658, tabObj #[]), (509, tabObj #[]), (471, tabObj #[]), (355, tabObj #[])]) hE B T C5 F3 (cb_drop N3 (List.forall_mem_cons.mpr ⟨.tail _ (.tail _ (.tail _ (.tail _ (.tail _ (.tail _ (.tail _ (.tail _ (.tail _ (.tail _ (.tail _ (.tail _ (.tail _ (.tail _ (.tail _ (.tail _ (.tail _ (.head _))))))))))))))))), List.forall_mem_cons.mpr ⟨.tail _ (.tail _ (.tail _ (.tail _ (.tail _ (.tail _ (.tail _ (.tail _ (.tail _ (.tail _ (.tail _ (.tail _ (.tail _ (.tail _ (.tail _ (.tail _ (.tail _ (.tail _ (.head _)))))))))))))))))), List.forall_mem_cons.mpr ⟨.tail _ (.tail _ (.tail _ (.tail _ (.tail _ (.tail _ (.tail _ (.tail _ (.tail _ (.tail _ (.tail _ (.tail _ (.tail _ (.tail _ (.tail _ (.tail _ (.tail _ (.tail _ (.tail _ (.head _))))))))))))))))))), List.forall_mem_cons.mpr ⟨.tail _ (.tail _ (.tail _ (.tail _ (.tail _ (.tail _ (.tail _ (.tail _ (.tail _ (.tail _ (.tail _ (.tail _ (.tail _ (.tail _ (.tail _ (.tail _ (.tail _ (.tail _ (.tail _ (.tail _ (.head _)))))))))))))))))))), List.forall_mem_cons.mpr ⟨.tail _ (.tail _ (.tail _ (.tail _ (.tail _ (.tail _ (.tail _ (.tail _ (.tail _ (.tail _ (.tail _ (.tail _ (.tail _ (.tail _ (.tail _ (.tail _ (.tail _ (.tail _ (.tail _ (.tail _ (.tail _ (.head _))))))))))))))))))))), List.forall_mem_cons.mpr ⟨.tail _ (.tail _ (.tail _ (.tail _ (.tail _ (.tail _ (.tail _ (.tail _ (.tail _ (.tail _ (.tail _ (.tail _ (.tail _ (.tail _ (.tail _ (.tail _ (.tail _ (.tail _ (.tail _ (.tail _ (.tail _ (.tail _ (.tail _ (.tail _ (.tail _ (.tail _ (.head _)))))))))))))))))))))))))), List.forall_mem_cons.mpr ⟨.head _, List.forall_mem_cons.mpr ⟨.tail _ (.head _), List.forall_mem_cons.mpr ⟨.tail _ (.tail _ (.head _)), List.forall_mem_cons.mpr ⟨.tail _ (.tail _ (.tail _ (.head _))), List.forall_mem_cons.mpr ⟨.tail _ (.tail _ (.tail _ (.tail _ (.head _)))), List.forall_mem_cons.mpr ⟨.tail _ (.tail _ (.tail _ (.tail _ (.tail _ (.head _))))), List.forall_mem_cons.mpr ⟨.tail _ (.tail _ (.tail _ (.tail _ (.tail _ (.tail _ (.head _)))))), List.forall_mem_cons.mpr ⟨.tail _ (.tail _ (.tail _ (.tail _ (.tail _ (.tail _ (.tail _ (.head _))))))), List.forall_mem_cons.mpr ⟨.tail _ (.tail _ (.tail _ (.tail _ (.tail _ (.tail _ (.tail _ (.tail _ (.head _)))))))), List.forall_mem_cons.mpr ⟨.tail _ (.tail _ (.tail _ (.tail _ (.tail _ (.tail _ (.tail _ (.tail _ (.tail _ (.head _))))))))), List.forall_mem_cons.mpr ⟨.tail _ (.tail _ (.tail _ (.tail _ (.tail _ (.tail _ (.tail _ (.tail _ (.tail _ (.tail _ (.head _)))))))))), List.forall_mem_cons.mpr ⟨.tail _ (.tail _ (.tail _ (.tail _ (.tail _ (.tail _ (.tail _ (.tail _ (.tail _ (.tail _ (.tail _ (.head _))))))))))), List.forall_mem_cons.mpr ⟨.tail _ (.tail _ (.tail _ (.tail _ (.tail _ (.tail _ (.tail _ (.tail _ (.tail _ (.tail _ (.tail _ (.tail _ (.head _)))))))))))), List.forall_mem_cons.mpr ⟨.tail _ (.tail _ (.tail _ (.tail _ (.tail _ (.tail _ (.tail _ (.tail _ (.tail _ (.tail _ (.tail _ (.tail _ (.tail _ (.head _))))))))))))), List.forall_mem_cons.mpr ⟨.tail _ (.tail _ (.tail _ (.tail _ (.tail _ (.tail _ (.tail _ (.tail _ (.tail _ (.tail _ (.tail _ (.tail _ (.tail _ (.tail _ (.head _)))))))))))))), List.forall_mem_cons.mpr ⟨.tail _ (.tail _ (.tail _ (.tail _ (.tail _ (.tail _ (.tail _ (.tail _ (.tail _ (.tail _ (.tail _ (.tail _ (.tail _ (.tail _ (.tail _ (.head _))))))))))))))), List.forall_mem_cons.mpr ⟨.tail _ (.tail _ (.tail _ (.tail _ (.tail _ (.tail _ (.tail _ (.tail _ (.tail _ (.tail _ (.tail _ (.tail _ (.tail _ (.tail _ (.tail _ (.tail _ (.head _)))))))))))))))), List.forall_mem_cons.mpr ⟨.tail _ (.tail _ (.tail _ (.tail _ (.tail _ (.tail _ (.tail _ (.tail _ (.tail _ (.tail _ (.tail _ (.tail _ (.tail _ (.tail _ (.tail _ (.tail _ (.tail _ (.tail _ (.tail _ (.tail _ (.tail _ (.tail _ (.head _)))))))))))))))))))))), List.forall_mem_cons.mpr ⟨.tail _ (.tail _ (.tail _ (.tail _ (.tail _ (.tail _ (.tail _ (.tail _ (.tail _ (.tail _ (.tail _ (.tail _ (.tail _ (.tail _ (.tail _ (.tail _ (.tail _ (.tail _ (.tail _ (.tail _ (.tail _ (.tail _ (.tail _ (.head _))))))))))))))))))))))), List.forall_mem_cons.mpr ⟨.tail _ (.tail _ (.tail _ (.tail _ (.tail _ (.tail _ (.tail _ (.tail _ (.tail _ (.tail _ (.tail _ (.tail _ (.tail _ (.tail _ (.tail _ (.tail _ (.tail _ (.tail _ (.tail _ (.tail _ (.tail _ (.tail _ (.tail _ (.tail _ (.head _)))))))))))))))))))))))), List.forall_mem_cons.mpr ⟨.tail _ (.tail _ (.tail _ (.tail _ (.tail _ (.tail _ (.tail _ (.tail _ (.tail _ (.tail _ (.tail _ (.tail _ (.tail _ (.tail _ (.tail _ (.tail _ (.tail _ (.tail _ (.tail _ (.tail _ (.tail _ (.tail _ (.tail _ (.tail _ (.tail _ (.head _))))))))))))))))))))))))), List.forall_mem_nil _⟩⟩⟩⟩⟩⟩⟩⟩⟩⟩⟩⟩⟩⟩⟩⟩⟩⟩⟩⟩⟩⟩⟩⟩⟩⟩⟩)) d1 hcK1 d3 d4 d5 l05 (List.forall_mem_cons.mpr ⟨(u.ne2 26 9 rfl), List.forall_mem_cons.mpr ⟨(u.ne2 25 9 rfl), List.forall_mem_cons.mpr ⟨(u.ne2 24 9 rfl), List.forall_mem_cons.mpr ⟨(u.ne2 23 9 rfl), List.forall_mem_cons.mpr ⟨(u.ne2 22 9 rfl), List.forall_mem_cons.mpr ⟨(u.ne2 21 9 rfl), List.forall_mem_cons.mpr ⟨(u.ne2 20 9 rfl), List.forall_mem_cons.mpr ⟨(u.ne2 19 9 rfl), List.forall_mem_cons.mpr ⟨(u.ne2 18 9 rfl), List.forall_mem_cons.mpr ⟨(u.ne2 17 9 rfl), List.forall_mem_cons.mpr ⟨(u.ne2 16 9 rfl), List.forall_mem_cons.mpr ⟨(u.ne2 15 9 rfl), List.forall_mem_cons.mpr ⟨(u.ne2 14 9 rfl), List.forall_mem_cons.mpr ⟨(u.ne2 13 9 rfl), List.forall_mem_cons.mpr ⟨(u.ne2 12 9 rfl), List.forall_mem_cons.mpr ⟨(u.ne2 11 9 rfl), List.forall_mem_cons.mpr ⟨(u.ne2 10 9 rfl), List.forall_mem_cons.mpr ⟨(u.ne1 3 9 rfl), List.forall_mem_cons.mpr ⟨(u.ne1 2 9 rfl), List.forall_mem_cons.mpr ⟨(u.ne1 1 9 rfl), List.forall_mem_cons.mpr ⟨(u.ne1 0 9 rfl), List.forall_mem_nil _⟩⟩⟩⟩⟩⟩⟩⟩⟩⟩⟩⟩⟩⟩⟩⟩⟩⟩⟩⟩⟩) (List.forall_mem_cons.mpr ⟨(u.ne2 26 8 rfl), List.forall_mem_cons.mpr ⟨(u.ne2 25 8 rfl), List.forall_mem_cons.mpr ⟨(u.ne2 24 8 rfl), List.forall_mem_cons.mpr ⟨(u.ne2 23 8 rfl), List.forall_mem_cons.mpr ⟨(u.ne2 22 8 rfl), List.forall_mem_cons.mpr ⟨(u.ne2 21 8 rfl), List.forall_mem_cons.mpr ⟨(u.ne2 20 8 rfl), List.forall_mem_cons.mpr ⟨(u.ne2 19 8 rfl), List.forall_mem_cons.mpr ⟨(u.ne2 18 8 rfl), List.forall_mem_cons.mpr ⟨(u.ne2 17 8 rfl), List.forall_mem_cons.mpr ⟨(u.ne2 16 8 rfl), List.forall_mem_cons.mpr ⟨(u.ne2 15 8 rfl), List.forall_mem_cons.mpr ⟨(u.ne2 14 8 rfl), List.forall_mem_cons.mpr ⟨(u.ne2 13 8 rfl), List.forall_mem_cons.mpr ⟨(u.ne2 12 8 rfl), List.forall_mem_cons.mpr ⟨(u.ne2 11 8 rfl), List.forall_mem_cons.mpr ⟨(u.ne2 10 8 rfl), List.forall_mem_cons.mpr ⟨(u.ne1 3 8 rfl), List.forall_mem_cons.mpr ⟨(u.ne1 2 8 rfl), List.forall_mem_cons.mpr ⟨(u.ne1 1 8 rfl), List.forall_mem_cons.mpr ⟨(u.ne1 0 8 rfl), List.forall_mem_nil _⟩⟩⟩⟩⟩⟩⟩⟩⟩⟩⟩⟩⟩⟩⟩⟩⟩⟩⟩⟩⟩) (List.forall_mem_cons.mpr ⟨(u.ne2 26 7 rfl), List.forall_mem_cons.mpr ⟨(u.ne2 25 7 rfl), List.forall_mem_cons.mpr ⟨(u.ne2 24 7 rfl), List.forall_mem_cons.mpr ⟨(u.ne2 23 7 rfl), List.forall_mem_cons.mpr ⟨(u.ne2 22 7 rfl), List.forall_mem_cons.mpr ⟨(u.ne2 21 7 rfl), List.forall_mem_cons.mpr ⟨(u.ne2 20 7 rfl), List.forall_mem_cons.mpr ⟨(u.ne2 19 7 rfl), List.forall_mem_cons.mpr ⟨(u.ne2 18 7 rfl), List.forall_mem_cons.mpr ⟨(u.ne2 17 7 rfl), List.forall_mem_cons.mpr ⟨(u.ne2 16 7 rfl), List.forall_mem_cons.mpr ⟨(u.ne2 15 7 rfl), List.forall_mem_cons.mpr ⟨(u.ne2 14 7 rfl), List.forall_mem_cons.mpr ⟨(u.ne2 13 7 rfl), List.forall_mem_cons.mpr ⟨(u.ne2 12 7 rfl), List.forall_mem_cons.mpr ⟨(u.ne2 11 7 rfl), List.forall_mem_cons.mpr ⟨(u.ne2 10 7 rfl), List.forall_mem_cons.mpr ⟨(u.ne1 3 7 rfl), List.forall_mem_cons.mpr ⟨(u.ne1 2 7 rfl), List.forall_mem_cons.mpr ⟨(u.ne1 1 7 rfl), List.forall_mem_cons.mpr ⟨(u.ne1 0 7 rfl), List.forall_mem_nil _⟩⟩⟩⟩⟩⟩⟩⟩⟩⟩⟩⟩⟩⟩⟩⟩⟩⟩⟩⟩⟩) (List.forall_mem_cons.mpr ⟨(u.ne2 26 6 rfl), List.forall_mem_cons.mpr ⟨(u.ne2 25 6 rfl), List.forall_mem_cons.mpr ⟨(u.ne2 24 6 rfl), List.forall_mem_cons.mpr ⟨(u.ne2 23 6 rfl), List.forall_mem_cons.mpr ⟨(u.ne2 22 6 rfl), List.forall_mem_cons.mpr ⟨(u.ne2 21 6 rfl), List.forall_mem_cons.mpr ⟨(u.ne2 20 6 rfl), List.forall_mem_cons.mpr ⟨(u.ne2 19 6 rfl), List.forall_mem_cons.mpr ⟨(u.ne2 18 6 rfl), List.forall_mem_cons.mpr ⟨(u.ne2 17 6 rfl), List.forall_mem_cons.mpr ⟨(u.ne2 16 6 rfl), List.forall_mem_cons.mpr ⟨(u.ne2 15 6 rfl), List.forall_mem_cons.mpr ⟨(u.ne2 14 6 rfl), List.forall_mem_cons.mpr ⟨(u.ne2 13 6 rfl), List.forall_mem_cons.mpr ⟨(u.ne2 12 6 rfl), List.forall_mem_cons.mpr ⟨(u.ne2 11 6 rfl), List.forall_mem_cons.mpr ⟨(u.ne2 10 6 rfl), List.forall_mem_cons.mpr ⟨(u.ne1 3 6 rfl), List.forall_mem_cons.mpr ⟨(u.ne1 2 6 rfl), List.forall_mem_cons.mpr ⟨(u.ne1 1 6 rfl), List.forall_mem_cons.mpr ⟨(u.ne1 0 6 rfl), List.forall_mem_nil _⟩⟩⟩⟩⟩⟩⟩⟩⟩⟩⟩⟩⟩⟩⟩⟩⟩⟩⟩⟩⟩) (List.forall_mem_cons.mpr ⟨(u.ne2 26 5 rfl), List.forall_mem_cons.mpr ⟨(u.ne2 25 5 rfl), List.forall_mem_cons.mpr ⟨(u.ne2 24 5 rfl), List.forall_mem_cons.mpr ⟨(u.ne2 23 5 rfl), List.forall_mem_cons.mpr ⟨(u.ne2 22 5 rfl), List.forall_mem_cons.mpr ⟨(u.ne2 21 5 rfl), List.forall_mem_cons.mpr ⟨(u.ne2 20 5 rfl), List.forall_mem_cons.mpr ⟨(u.ne2 19 5 rfl), List.forall_mem_cons.mpr ⟨(u.ne2 18 5 rfl), List.forall_mem_cons.mpr ⟨(u.ne2 17 5 rfl), List.forall_mem_cons.mpr ⟨(u.ne2 16 5 rfl), List.forall_mem_cons.mpr ⟨(u.ne2 15 5 rfl), List.forall_mem_cons.mpr ⟨(u.ne2 14 5 rfl), List.forall_mem_cons.mpr ⟨(u.ne2 13 5 rfl), List.forall_mem_cons.mpr ⟨(u.ne2 12 5 rfl), List.forall_mem_cons.mpr ⟨(u.ne2 11 5 rfl), List.forall_mem_cons.mpr ⟨(u.ne2 10 5 rfl), List.forall_mem_cons.mpr ⟨(u.ne1 3 5 rfl), List.forall_mem_cons.mpr ⟨(u.ne1 2 5 rfl), List.forall_mem_cons.mpr ⟨(u.ne1 1 5 rfl), List.forall_mem_cons.mpr ⟨(u.ne1 0 5 rfl), List.forall_mem_nil _⟩⟩⟩⟩⟩⟩⟩⟩⟩⟩⟩⟩⟩⟩⟩⟩⟩⟩⟩⟩⟩) (List.forall_mem_cons.mpr ⟨(u.ne2 26 4 rfl), List.forall_mem_cons.mpr ⟨(u.ne2 25 4 rfl), List.forall_mem_cons.mpr ⟨(u.ne2 24 4 rfl), List.forall_mem_cons.mpr ⟨(u.ne2 23 4 rfl), List.forall_mem_cons.mpr ⟨(u.ne2 22 4 rfl), List.forall_mem_cons.mpr ⟨(u.ne2 21 4 rfl), List.forall_mem_cons.mpr ⟨(u.ne2 20 4 rfl), List.forall_mem_cons.mpr ⟨(u.ne2 19 4 rfl), List.forall_mem_cons.mpr ⟨(u.ne2 18 4 rfl), List.forall_mem_cons.mpr ⟨(u.ne2 17 4 rfl), List.forall_mem_cons.mpr ⟨(u.ne2 16 4 rfl), List.forall_mem_cons.mpr ⟨(u.ne2 15 4 rfl), List.forall_mem_cons.mpr ⟨(u.ne2 14 4 rfl), List.forall_mem_cons.mpr ⟨(u.ne2 13 4 rfl), List.forall_mem_cons.mpr ⟨(u.ne2 12 4 rfl), List.forall_mem_cons.mpr ⟨(u.ne2 11 4 rfl), List.forall_mem_cons.mpr ⟨(u.ne2 10 4 rfl), List.forall_mem_cons.mpr ⟨(u.ne1 3 4 rfl), List.forall_mem_cons.mpr ⟨(u.ne1 2 4 rfl), List.forall_mem_cons.mpr ⟨(u.ne1 1 4 rfl), List.forall_mem_cons.mpr ⟨(u.ne1 0 4 rfl), List.forall_mem_nil _⟩⟩⟩⟩⟩⟩⟩⟩⟩⟩⟩⟩⟩⟩⟩⟩⟩⟩⟩⟩⟩) ?_ X
  intro st rw codA addF codR readF ost ocA ocR o1' o3' o4' o5' tb vsA vsR qA qR docA pmA ctvA docR pmR ctvR tqA tqR h4 tk4 F4 N4 r1 r2 a1 a2 d1' d3' d4' d5' hS lost oc2 gr2
  refine' law_second hE B T F4 C1 C2 C3 C4 N4 ⟨l05, oc1.1, oc1.2.1, oc1.2.2.1, oc1.2.2.2.1, oc1.2.2.2.2.1, oc1.2.2.2.2.2.1, oc1.2.2.2.2.2.2.1, oc1.2.2.2.2.2.2.2.1, oc1.2.2.2.2.2.2.2.2.1, oc1.2.2.2.2.2.2.2.2.2.1, oc1.2.2.2.2.2.2.2.2.2.2.1, oc1.2.2.2.2.2.2.2.2.2.2.2.1, oc1.2.2.2.2.2.2.2.2.2.2.2.2.1, oc1.2.2.2.2.2.2.2.2.2.2.2.2.2.1, oc1.2.2.2.2.2.2.2.2.2.2.2.2.2.2.1, gr2 _ (.tail _ (.head _)), oc2⟩ lost r1 r2 a1 a2 d1' hcK1 d3' d4' d5' d6' hS hn1 hn2 hk4 hret X
theorem anew60 : True := by
  w_top off
  trivial
set_option maxRecDepth 100000 in
set_option maxHeartbeats 0 in
theorem law_holds : PySem.Challenge.rw_bi0029_01.Holds := hd (by
  k_go0
  (all_goals try k_fold)
  k_dflt (refine' law_body ?hE ?B ?F ?T ?hl ?hI ?hlen ?C1 ?C2 ?C3 ?C4 ?C5 ?N ?d1 ?d2 ?d3 ?d4 ?d5 ?d6 ?l0 ?hret ?X)
  case B => assumption
  case F => assumption
  case T => assumption
  case hl => assumption
  case hI => assumption
  case hlen => omega
  case C1 => with_reducible assumption
  case C2 => with_reducible assumption
  case C3 => with_reducible assumption
  case C4 => with_reducible assumption
  case C5 => with_reducible assumption
  case N => assumption
  case d1 => assumption
  case d2 => assumption
  case d3 => assumption
  case d4 => assumption
  case d5 => assumption
  case d6 => assumption
  case l0 => assumption
  case X => assumption
  case hE => passes_own
  case hret =>
    intro h' tk' m' news' F9 N9 H9
    obtain ⟨p1, e1⟩ := H9 658 (by decide)
    obtain ⟨p2, e2⟩ := H9 509 (by decide)
    obtain ⟨p3, e3⟩ := H9 471 (by decide)
    obtain ⟨p4, e4⟩ := H9 355 (by decide)
    obtain ⟨p5, e5⟩ := H9 838 (by decide)
    k_steps)
end Mine
theorem PySem.Challenge.cw_bi0029_01_holds : PySem.Challenge.rw_bi0029_01.Holds := by
  exact Mine.law_holds
